import JvmDerived
import JvmDerived.Pilot.@@N@@Statement
import JvmDerived.Pilot.@@N@@Code
set_option linter.unusedVariables false
set_option linter.unusedSimpArgs false
set_option maxRecDepth 65536
set_option maxHeartbeats 40000000
namespace Jvm.RoadKit
open Sem ClassFile Op Lib Jvm.Stand Jvm.Free Jvm.LawKit
section Own
variable {p : Program} {l : Launch} {e : Env} {R : Room} {s : State} {m : MethodId} {args : Array Value} {below : List Frame} {meth : Method} {c : Code} {T T' : State} {locs : List Loc} {cells slots : Nat} {Z : State} {a0 : Array Value} {h h' h0 : Heap} {K : State → Outcome → Prop} {pc : Nat} {Ls : Array Slot} {rest : List Value} {Q : Option Value → Heap → List Loc → Prop} {k n : Nat} {a b : Addr} {ws : List Addr} {sl : Nat} {v : Value}
/-- from T the run comes to its end, and K holds there -/
def Go (p : Program) (e : Env) (below : List Frame) (K : State → Outcome → Prop) (T : State) : Prop := ∃ U o, Steps p.tables e below T U ∧ U.status = .running ∧ Ended U below o ∧ K U o
theorem Go.by (st : ∀ t, Steps p.tables e below T' t → Steps p.tables e below T t) (g : Go p e below K T') : Go p e below K T := by
  obtain ⟨U, o, q, r⟩ := g; exact ⟨U, o, st _ q, r⟩
theorem Go.on (st : Steps p.tables e below T T') (g : Go p e below K T') : Go p e below K T := by
  obtain ⟨U, o, q, r⟩ := g; exact ⟨U, o, st.trans q, r⟩
theorem Go.cast {T'' : State} (q : T = T'') (g : Go p e below K T'') : Go p e below K T := q ▸ g
def KK (s : State) (Q : Option Value → Heap → List Loc → Prop) (k n : Nat) : State → Outcome → Prop := fun U o => ∃ v L, o = .returned v ∧ Q v U.heap L ∧ FrameEnd s o U L k n
abbrev Ctr (l : Launch) (Z : State) (h0 : Heap) (y : MethodName) (bytes : ByteArray) (maxL : Nat) (ret : Option FieldType) (ws : List Cond) (rm : Room) (as' : Array Value) (Q : Option Value → Heap → List Loc → Prop) : Prop :=
  MetFree l y (head1 (Cond.code y bytes maxL ret :: ws) rm) (fun a U => a = as' ∧ Z.Warmed39 U.vm ∧ U.heap = h0) (fun _ _ _ _ _ => True) (fun _ U o U' => ∃ v L, o = .returned v ∧ Q v U'.heap L ∧ FrameEnd U o U' L rm.cells rm.slots)
theorem enter {y : MethodName} {bytes : ByteArray} {maxL : Nat} {ret : Option FieldType} {ws : List Cond} {rm : Room} {as' : Array Value} (hp : plainFor y = true)
    (H : ∀ (p : Program) (e : Env) (s : State) (m : MethodId) (below : List Frame) (meth : Method) (c : Code) (s₁ : State), p.tables.exec = Jvm.exec → c.code = bytes → c.maxLocals = maxL → Z.Warmed39 s.vm → s.vm.findClass y.cls = some m.cls → meth.name = y.name → meth.sig.returnType = ret → meth.locks = false →
      Stand p l e rm s m as' below meth c s₁ [] 0 0 → s₁.heap = h0 → s.heap = h0 → Go p e below (KK s Q rm.cells rm.slots) (s₁.setTop (entryFrame m as' maxL))) : Ctr l Z h0 y bytes maxL ret ws rm as' Q := by
  refine MetFree.of_bodySF hp hisR ?_
  intro p e s m args below meth c s₁ Bd hml0 hP hK
  obtain ⟨rfl, hZ, hh⟩ := hP
  exact H p e s m below meth c s₁ Bd.exec Bd.bytes hml0 hZ (findClass_of_methodNamed Bd.named) (name_of_methodNamed Bd.named Bd.method).1 Bd.returns Bd.notSynchronized (Stand.of_body Bd) (by rw [← hh, Bd.state]; rfl) hh
/-! returns -/
theorem Go.ret {w : Value} {t : FieldType} {i : Instr} (X : Stand p l e R s m args below meth c T locs cells slots) (hx : p.tables.exec = Jvm.exec) (hret : meth.sig.returnType = some t) (hlk : meth.locks = false) (hn : narrow t w = w)
    (hi : (i = .ireturn ∧ (t = .int ∨ t = .boolean ∨ t = .byte ∨ t = .char ∨ t = .short) ∧ ∃ z, w = .int z) ∨ (i = .lreturn ∧ t = .long ∧ ∃ z, w = .long z) ∨ (i = .dreturn ∧ t = .double ∧ ∃ z, w = .double z) ∨ (i = .freturn ∧ t = .float ∧ ∃ z, w = .float z) ∨ (i = .areturn ∧ t.isReference = true ∧ w.isRef = true))
    (hd : decode c.code pc = .ok (i, 1)) (eT : T.heap = h) (hk : cells ≤ k) (hs : slots ≤ n) (hQ : Q (some w) h locs) : Go p e below (KK s Q k n) (T.setTop (mkF m pc Ls (w :: rest))) := by
  obtain ⟨fs, hr, hrun, hended, hW, hsame⟩ := X.leave (v := some w) (fun h => by rw [hret] at h; cases h) hlk
  subst eT
  exact ⟨_, _, retOut X hx hret hn hi hd hr, hrun, hended, _, _, rfl, hQ, ⟨_, rfl⟩, hW, hsame.mono hk hs⟩
theorem Go.retI {z : Int32} {t : FieldType} (X : Stand p l e R s m args below meth c T locs cells slots) (hx : p.tables.exec = Jvm.exec) (hret : meth.sig.returnType = some t) (hlk : meth.locks = false) (ht : t = .int ∨ t = .boolean ∨ t = .byte ∨ t = .char ∨ t = .short) (hn : narrow t (.int z) = .int z)
    (hd : decode c.code pc = .ok (.ireturn, 1)) (eT : T.heap = h) (hk : cells ≤ k) (hs : slots ≤ n) (hQ : Q (some (.int z)) h locs) : Go p e below (KK s Q k n) (T.setTop (mkF m pc Ls (.int z :: rest))) :=
  Go.ret X hx hret hlk hn (Or.inl ⟨rfl, ht, z, rfl⟩) hd eT hk hs hQ
theorem nar_ref {t : FieldType} {w : Value} (hw : w.isRef = true) : narrow t w = w := by cases w <;> first | (simp [Value.isRef] at hw; done) | (cases t <;> rfl)
theorem fits_any {C : String} {w : Value} (hw : w.isRef = true) : fits (.object C) w = true := by cases w <;> first | (simp [Value.isRef] at hw; done) | rfl
theorem Go.retA {w : Value} {t : FieldType} (X : Stand p l e R s m args below meth c T locs cells slots) (hx : p.tables.exec = Jvm.exec) (hret : meth.sig.returnType = some t) (hlk : meth.locks = false) (ht : t.isReference = true) (hw : w.isRef = true)
    (hd : decode c.code pc = .ok (.areturn, 1)) (eT : T.heap = h) (hk : cells ≤ k) (hs : slots ≤ n) (hQ : Q (some w) h locs) : Go p e below (KK s Q k n) (T.setTop (mkF m pc Ls (w :: rest))) :=
  Go.ret X hx hret hlk (nar_ref hw) (Or.inr (Or.inr (Or.inr (Or.inr ⟨rfl, ht, hw⟩)))) hd eT hk hs hQ
theorem Go.retV (X : Stand p l e R s m args below meth c T locs cells slots) (hx : p.tables.exec = Jvm.exec) (hret : meth.sig.returnType = none) (hlk : meth.locks = false)
    (hd : decode c.code pc = .ok (.return_, 1)) (eT : T.heap = h) (hk : cells ≤ k) (hs : slots ≤ n) (hQ : Q none h locs) : Go p e below (KK s Q k n) (T.setTop (mkF m pc Ls [])) := by
  obtain ⟨fs, hr, hrun, hended, hW, hsame⟩ := X.leave (v := none) (fun _ => rfl) hlk
  subst eT
  exact ⟨_, _, X.returnOut hx hret hd hr, hrun, hended, _, _, rfl, hQ, ⟨_, rfl⟩, hW, hsame.mono hk hs⟩
/-! the old cells -/
theorem ext_trans {h1 h2 h3 : Heap} (E : Ext h1 h2) (F : Ext h2 h3) : Ext h1 h3 := ⟨Nat.le_trans E.1 F.1, fun a c q => F.2 a c (E.2 a c q)⟩
theorem ext_wr {h1 h2 h3 : Heap} (E : Ext h1 h2) (W : Wr h2 h3 a sl v) (g : h1.size ≤ a) : Ext h1 h3 := by
  obtain ⟨cell, q1, q2, q3, rfl⟩ := W
  refine ⟨by simpa using E.1, fun x c q => ?_⟩
  have hx : x < h1.size := (Array.getElem?_eq_some_iff.mp q).1
  rw [Array.getElem?_setIfInBounds_ne (Nat.ne_of_gt (Nat.lt_of_lt_of_le hx g))]
  exact E.2 x c q
theorem ext_keep {h1 h2 h3 : Heap} (E : Ext h1 h2) (F : Keep h2 h3 ws) (g : ∀ x ∈ ws, h1.size ≤ x) : Ext h1 h3 := by
  refine ⟨Nat.le_trans E.1 F.1, fun x c q => F.2.1 x c (E.2 x c q) fun z => ?_⟩
  exact absurd (Array.getElem?_eq_some_iff.mp q).1 (Nat.not_lt.mpr (g x z))
theorem ne_new (q : a < h.size) (r : h.size ≤ b) : a ≠ b := Nat.ne_of_lt (Nat.lt_of_lt_of_le q r)
/-! calls -/
theorem Go.callS {own : String} {index : Nat} {y : MethodName} {bytes : ByteArray} {maxL : Nat} {ret : Option FieldType} {rm : Room} {as' : Array Value} {argsL S : List Value} (X : Stand p l e R s m args below meth c T locs cells slots) (hx : p.tables.exec = Jvm.exec) (hZ : Z.Warmed39 s.vm) (hown : s.vm.findClass own = some m.cls)
    (w1 : (Cond.methodLink own index y).before a0 Z = true) (w2 : (Cond.static y).before a0 Z = true) (w3 : (Cond.initialized y.cls).before a0 Z = true) (w4 : (Cond.code y bytes maxL ret).before a0 Z = true)
    (hy : y.cls ≠ "java/lang/invoke/MethodHandle" ∧ y.cls ≠ "java/lang/invoke/VarHandle") {Q : Option Value → Heap → List Loc → Prop} (hM : Ctr l Z h y bytes maxL ret [] rm as' Q) (eT : T.heap = h) (hsz : Ls.size = c.maxLocals)
    (hd : decode c.code pc = .ok (.invokestatic index, 3)) (hlen : ∀ sig, parseMethodDescriptor y.desc = some sig → argsL.length = sig.parameters.length) (hst : S = argsL.reverse ++ rest) (has : argsL.toArray = as')
    {W : Nat} (hW : 2 * 0 + (rest.map fun v => v.category).sum ≤ W) (hf : rm.frames + 1 ≤ R.frames) (hl : W + (maxL + 11) + rm.locals ≤ R.locals) (hc : cells + rm.cells ≤ R.cells) (hs : slots + rm.slots ≤ R.slots)
    (g : ∀ (v : Option Value) (T' : State) (L : List Loc), Stand p l e R s m args below meth c T' (locs ++ L) (cells + rm.cells) (slots + rm.slots) → Q v T'.heap L → Go p e below K (T'.setTop (mkF m (pc + 3) Ls (v.toList ++ rest)))) : Go p e below K (T.setTop (mkF m pc Ls S)) := by
  obtain ⟨v, _, ⟨T', L', k', n'⟩, -, X', ⟨Lc, hQ, l', y', z'⟩, st⟩ := Jvm.LawKit.callS X hx (y := y) hown (mvT hZ w1) (mvT hZ w2) (mvT hZ w3) (mvT hZ w4) hy (backOf (W := W) hM hZ w4 w3 hf hl) (g := mkF m pc Ls S) rfl hsz (argsL := argsL) (rest := rest) hlen hst hW hd (fun _ _ => ⟨has, eT, hc, hs⟩)
  dsimp only [Pt.U, Pt.locs, Pt.cells, Pt.slots] at X' l' y' z' st hQ
  subst l' y' z'
  exact Go.by st (g v T' Lc X' hQ)
theorem Go.init {own : String} {index : Nat} {y : MethodName} {bytes : ByteArray} {maxL : Nat} {rm : Room} {as' : Array Value} {argsL S : List Value} (X : Stand p l e R s m args below meth c T locs cells slots) (hx : p.tables.exec = Jvm.exec) (hZ : Z.Warmed39 s.vm) (hown : s.vm.findClass own = some m.cls) (hy1 : y.name = "<init>")
    (w1 : (Cond.methodLink own index y).before a0 Z = true) (w2 : (Cond.instanceMethod y).before a0 Z = true) (w3 : (Cond.initialized y.cls).before a0 Z = true) (w4 : (Cond.code y bytes maxL none).before a0 Z = true)
    (hy : y.cls ≠ "java/lang/invoke/MethodHandle" ∧ y.cls ≠ "java/lang/invoke/VarHandle") {Q : Option Value → Heap → List Loc → Prop} (hM : Ctr l Z h y bytes maxL none [] rm as' Q) (eT : T.heap = h) (hsz : Ls.size = c.maxLocals)
    (hd : decode c.code pc = .ok (.invokespecial index, 3)) (hlen : ∀ sig, parseMethodDescriptor y.desc = some sig → argsL.length = sig.parameters.length) (hst : S = argsL.reverse ++ .ref a :: rest) (has : (Value.ref a :: argsL).toArray = as')
    {W : Nat} (hW : 2 * 0 + (rest.map fun v => v.category).sum ≤ W) (hf : rm.frames + 1 ≤ R.frames) (hl : W + (maxL + 11) + rm.locals ≤ R.locals) (hc : cells + rm.cells ≤ R.cells) (hs : slots + rm.slots ≤ R.slots)
    (g : ∀ (v : Option Value) (T' : State) (L : List Loc), Stand p l e R s m args below meth c T' (locs ++ L) (cells + rm.cells) (slots + rm.slots) → Q v T'.heap L → Go p e below K (T'.setTop (mkF m (pc + 3) Ls (v.toList ++ rest)))) : Go p e below K (T.setTop (mkF m pc Ls S)) := by
  obtain ⟨v, _, ⟨T', L', k', n'⟩, -, X', ⟨Lc, hQ, l', y', z'⟩, st⟩ := X.specialBack hx (y := y) hy1 hown (mvT hZ w1) (mvT hZ w2) (mvT hZ w4) hy (backOf (W := W) hM hZ w4 w3 hf hl) (g := mkF m pc Ls S) rfl hsz (Steps.refl _) (a := a) (argsL := argsL) (rest := rest) hlen hst hW hd (fun _ _ => ⟨has, eT, hc, hs⟩)
  dsimp only [Pt.U, Pt.locs, Pt.cells, Pt.slots] at X' l' y' z' st hQ
  subst l' y' z'
  exact Go.on st (g v T' Lc X' hQ)
theorem Go.virt {own C : String} {index : Nat} {y z : MethodName} {bytes : ByteArray} {maxL : Nat} {ret : Option FieldType} {rm : Room} {as' : Array Value} {argsL S : List Value} (X : Stand p l e R s m args below meth c T locs cells slots) (hx : p.tables.exec = Jvm.exec) (hZ : Z.Warmed39 s.vm) (hown : s.vm.findClass own = some m.cls)
    (w1 : (Cond.methodLink own index y).before a0 Z = true) (w2 : (Cond.declares y).before a0 Z = true) (hnf : NotFace s y) (w5 : (Cond.selects C y z).before a0 Z = true) (w6 : (Cond.instanceMethod z).before a0 Z = true) (w3 : (Cond.initialized z.cls).before a0 Z = true) (w4 : (Cond.code z bytes maxL ret).before a0 Z = true)
    (hy : y.cls ≠ "java/lang/invoke/MethodHandle" ∧ y.cls ≠ "java/lang/invoke/VarHandle") {Q : Option Value → Heap → List Loc → Prop} (hM : Ctr l Z h z bytes maxL ret [] rm as' Q) (eT : T.heap = h) (E : Exa Z h a C) (hsz : Ls.size = c.maxLocals)
    (hd : decode c.code pc = .ok (.invokevirtual index, 3)) (hlen : ∀ sig, parseMethodDescriptor y.desc = some sig → argsL.length = sig.parameters.length) (hst : S = argsL.reverse ++ .ref a :: rest) (has : (Value.ref a :: argsL).toArray = as')
    {W : Nat} (hW : 2 * 0 + (rest.map fun v => v.category).sum ≤ W) (hf : rm.frames + 1 ≤ R.frames) (hl : W + (maxL + 11) + rm.locals ≤ R.locals) (hc : cells + rm.cells ≤ R.cells) (hs : slots + rm.slots ≤ R.slots)
    (g : ∀ (v : Option Value) (T' : State) (L : List Loc), Stand p l e R s m args below meth c T' (locs ++ L) (cells + rm.cells) (slots + rm.slots) → Q v T'.heap L → Go p e below K (T'.setTop (mkF m (pc + 3) Ls (v.toList ++ rest)))) : Go p e below K (T.setTop (mkF m pc Ls S)) := by
  obtain ⟨cq, kq, q1, q2, q3⟩ := isOf hZ eT E
  obtain ⟨v, _, ⟨T', L', k', n'⟩, -, X', ⟨Lc, hQ, l', y', z'⟩, st⟩ := X.virtualBack hx (y := y) (z := z) hown (mvT hZ w1) (mvT hZ w2) hnf (mvT hZ w5) (mvT hZ w6) hy (backOf (W := W) hM hZ w4 w3 hf hl) q1 q3 (g := mkF m pc Ls S) rfl hsz (Steps.refl _) (argsL := argsL) (rest := rest) hlen hst hW hd (fun _ _ => ⟨has, eT, hc, hs⟩)
  dsimp only [Pt.U, Pt.locs, Pt.cells, Pt.slots] at X' l' y' z' st hQ
  subst l' y' z'
  exact Go.on st (g v T' Lc X' hQ)
theorem Go.priv {own : String} {index : Nat} {y : MethodName} {bytes : ByteArray} {maxL : Nat} {ret : Option FieldType} {rm : Room} {as' : Array Value} {argsL S : List Value} {C : String} (X : Stand p l e R s m args below meth c T locs cells slots) (hx : p.tables.exec = Jvm.exec) (hZ : Z.Warmed39 s.vm) (hown : s.vm.findClass own = some m.cls)
    (w1 : (Cond.methodLink own index y).before a0 Z = true) (w6 : (Cond.instanceMethod y).before a0 Z = true) (w5 : (Cond.selects y.cls y y).before a0 Z = true) (w7 : (Cond.privateMethod y).before a0 Z = true) (w3 : (Cond.initialized y.cls).before a0 Z = true) (w4 : (Cond.code y bytes maxL ret).before a0 Z = true)
    (hy : y.cls ≠ "java/lang/invoke/MethodHandle" ∧ y.cls ≠ "java/lang/invoke/VarHandle") {Q : Option Value → Heap → List Loc → Prop} (hM : Ctr l Z h y bytes maxL ret [] rm as' Q) (eT : T.heap = h) (E : Exa Z h a C) (hsz : Ls.size = c.maxLocals)
    (hd : decode c.code pc = .ok (.invokevirtual index, 3)) (hlen : ∀ sig, parseMethodDescriptor y.desc = some sig → argsL.length = sig.parameters.length) (hst : S = argsL.reverse ++ .ref a :: rest) (has : (Value.ref a :: argsL).toArray = as')
    {W : Nat} (hW : 2 * 0 + (rest.map fun v => v.category).sum ≤ W) (hf : rm.frames + 1 ≤ R.frames) (hl : W + (maxL + 11) + rm.locals ≤ R.locals) (hc : cells + rm.cells ≤ R.cells) (hs : slots + rm.slots ≤ R.slots)
    (g : ∀ (v : Option Value) (T' : State) (L : List Loc), Stand p l e R s m args below meth c T' (locs ++ L) (cells + rm.cells) (slots + rm.slots) → Q v T'.heap L → Go p e below K (T'.setTop (mkF m (pc + 3) Ls (v.toList ++ rest)))) : Go p e below K (T.setTop (mkF m pc Ls S)) := by
  obtain ⟨cq, q1, q2⟩ := E.cell
  subst eT
  obtain ⟨v, _, ⟨T', L', k', n'⟩, -, X', ⟨Lc, hQ, l', y', z'⟩, st⟩ := X.privateBack hx (y := y) hown (mvT hZ w1) (mvT hZ w6) (mvT hZ w5) (Cond.privateMethod_at (mvP hZ w7 (args := #[]))) (mvT hZ w4) hy (backOf (W := W) hM hZ w4 w3 hf hl) (g := mkF m pc Ls S) rfl hsz (Steps.refl _) (a := a) q1 q2 (argsL := argsL) (rest := rest) hlen hst hW hd (fun _ _ => ⟨has, rfl, hc, hs⟩)
  dsimp only [Pt.U, Pt.locs, Pt.cells, Pt.slots] at X' l' y' z' st hQ
  subst l' y' z'
  exact Go.on st (g v T' Lc X' hQ)
theorem Go.sup {own C : String} {index : Nat} {y : MethodName} {bytes : ByteArray} {maxL : Nat} {ret : Option FieldType} {rm : Room} {as' : Array Value} {argsL S : List Value} (X : Stand p l e R s m args below meth c T locs cells slots) (hx : p.tables.exec = Jvm.exec) (hZ : Z.Warmed39 s.vm) (hown : s.vm.findClass own = some m.cls)
    (w1 : (Cond.methodLink own index y).before a0 Z = true) (w2 : (Cond.sameMethod y.cls y.cls y.name y.desc).before a0 Z = true) (w6 : (Cond.instanceMethod y).before a0 Z = true) (w5 : (Cond.superclass own y.cls).before a0 Z = true) (hn : y.name ≠ "<init>") (w3 : (Cond.initialized y.cls).before a0 Z = true) (w4 : (Cond.code y bytes maxL ret).before a0 Z = true)
    {Q : Option Value → Heap → List Loc → Prop} (hM : Ctr l Z h y bytes maxL ret [] rm as' Q) (eT : T.heap = h) (E : Exa Z h a C) (hsz : Ls.size = c.maxLocals)
    (hd : decode c.code pc = .ok (.invokespecial index, 3)) (hlen : ∀ sig, parseMethodDescriptor y.desc = some sig → argsL.length = sig.parameters.length) (hst : S = argsL.reverse ++ .ref a :: rest) (has : (Value.ref a :: argsL).toArray = as')
    {W : Nat} (hW : 2 * 0 + (rest.map fun v => v.category).sum ≤ W) (hf : rm.frames + 1 ≤ R.frames) (hl : W + (maxL + 11) + rm.locals ≤ R.locals) (hc : cells + rm.cells ≤ R.cells) (hs : slots + rm.slots ≤ R.slots)
    (g : ∀ (v : Option Value) (T' : State) (L : List Loc), Stand p l e R s m args below meth c T' (locs ++ L) (cells + rm.cells) (slots + rm.slots) → Q v T'.heap L → Go p e below K (T'.setTop (mkF m (pc + 3) Ls (v.toList ++ rest)))) : Go p e below K (T.setTop (mkF m pc Ls S)) := by
  obtain ⟨v, _, ⟨T', L', k', n'⟩, -, X', ⟨Lc, hQ, l', y', z'⟩, st⟩ := superBack X hx hZ (y := y) hown w1 w2 w6 w5 hn (backOf (W := W) hM hZ w4 w3 hf hl) eT (Ins.self E) (g := mkF m pc Ls S) rfl hsz w4 (argsL := argsL) (rest := rest) hlen hst hW hd (fun _ _ => ⟨has, eT, hc, hs⟩)
  dsimp only [Pt.U, Pt.locs, Pt.cells, Pt.slots] at X' l' y' z' st hQ
  subst l' y' z'
  exact Go.on st (g v T' Lc X' hQ)
/-! arrays whose components are known -/
variable {cA : ClassId} {ty : FieldType} {z j : Int32} {vs : List Value} {dv : Value}
theorem Go.alen (X : Stand p l e R s m args below meth c T locs cells slots) (hx : p.tables.exec = Jvm.exec) (hZ : Z.Warmed39 s.vm) (eT : T.heap = h) (V : Arv Z h a cA ty z vs dv) (hd : decode c.code pc = .ok (.arraylength, 1))
    (g : Go p e below K (T.setTop (mkF m (pc + 1) Ls (.int z :: rest)))) : Go p e below K (T.setTop (mkF m pc Ls (.ref a :: rest))) := by
  obtain ⟨cl, A, -, S, N, -, -⟩ := V
  subst eT
  refine Go.by (fun t q => X.arraylength hx A.1 (State.isArrayOf_alike hZ.alike A.2.1) (g := mkF m pc Ls (.ref a :: rest)) rfl rfl hd _ q) ?_
  rw [len_of S N]
  exact g
/-- an array of which the length alone is known -/
def Lng (Z : State) (h : Heap) (a : Addr) (n : Int32) : Prop := ∃ (cl : Cell) (ty : FieldType), Arr Z h a cl ty ∧ cl.slots.size = n.toNatClampNeg ∧ ¬ n < 0
theorem Lng.ext (L : Lng Z h a z) (E : Ext h h') : Lng Z h' a z := by obtain ⟨cl, ty, A, r⟩ := L; exact ⟨cl, ty, A.ext E, r⟩
theorem Lng.lt (L : Lng Z h a z) : a < h.size := by obtain ⟨cl, ty, A, r⟩ := L; exact A.lt
theorem Lng.of {cl : Cell} (A : Arr Z h a cl ty) (q : cl.slots.size < 2 ^ 31) (e : cl.slots.size.toInt32 = z) (hz : ¬ z < 0) : Lng Z h a z := by
  refine ⟨cl, ty, A, ?_, hz⟩
  rw [← e]; simp only [Int32.toNatClampNeg, len_toInt q]; rfl
theorem cc (x : Int32) : nar .char x.toUInt32.toUInt16.toUInt32.toInt32 = x.toUInt32.toUInt16.toUInt32.toInt32 := by
  have h := Jvm.Free.XT.narrow_c x
  exact Value.int.inj h
theorem bb (x : Int32) : x.toInt8.toInt32.toInt8.toInt32 = x.toInt8.toInt32 := by simp
theorem Go.bal {v : Value} (X : Stand p l e R s m args below meth c T locs cells slots) (hx : p.tables.exec = Jvm.exec) (hZ : Z.Warmed39 s.vm) (eT : T.heap = h) (V : Arv Z h a cA .byte z vs dv) (hj : ¬ j < 0 ∧ j < z) (hv : vs.getD j.toNatClampNeg dv = v) (hd : decode c.code pc = .ok (.baload, 1))
    (g : Go p e below K (T.setTop (mkF m (pc + 1) Ls (v :: rest)))) : Go p e below K (T.setTop (mkF m pc Ls (.int j :: .ref a :: rest))) := by
  obtain ⟨cl, A, -, S, N, H, -⟩ := V
  subst eT
  have hin := inb_of S hj
  exact Go.by (fun t q => X.baloadBytes hx (j := j) (v := v) A.1 (State.isArrayOf_alike hZ.alike A.2.1) A.2.2 hin (H.at hin hv) (g := mkF m pc Ls (.int j :: .ref a :: rest)) rfl rfl hd _ q) g
theorem Go.cal {v : Value} (X : Stand p l e R s m args below meth c T locs cells slots) (hx : p.tables.exec = Jvm.exec) (hZ : Z.Warmed39 s.vm) (eT : T.heap = h) (V : Arv Z h a cA .char z vs dv) (hj : ¬ j < 0 ∧ j < z) (hv : vs.getD j.toNatClampNeg dv = v) (hd : decode c.code pc = .ok (.caload, 1))
    (g : Go p e below K (T.setTop (mkF m (pc + 1) Ls (v :: rest)))) : Go p e below K (T.setTop (mkF m pc Ls (.int j :: .ref a :: rest))) := by
  obtain ⟨cl, A, -, S, N, H, -⟩ := V
  subst eT
  have hin := inb_of S hj
  exact Go.by (fun t q => X.caload hx (j := j) (v := v) A.1 (State.isArrayOf_alike hZ.alike A.2.1) A.2.2 hin (H.at hin hv) (g := mkF m pc Ls (.int j :: .ref a :: rest)) rfl rfl hd _ q) g
theorem Go.bst {x : Int32} {i : Nat} (X : Stand p l e R s m args below meth c T locs cells slots) (hx : p.tables.exec = Jvm.exec) (hZ : Z.Warmed39 s.vm) (eT : T.heap = h) (V : Arv Z h a cA .byte z vs dv) (hj : ¬ j < 0 ∧ j < z) (hi : j.toNatClampNeg = i) (hl : i < vs.length) (hd : decode c.code pc = .ok (.bastore, 1))
    (g : ∀ (T' : State) (h' : Heap), Stand p l e R s m args below meth c T' (locs ++ [⟨a, j.toNatClampNeg⟩]) cells slots → T'.heap = h' → Wr h h' a j.toNatClampNeg (.int x.toInt8.toInt32) → Arv Z h' a cA .byte z (vs.set i (.int x.toInt8.toInt32)) dv → Go p e below K (T'.setTop (mkF m (pc + 1) Ls rest))) : Go p e below K (T.setTop (mkF m pc Ls (.int x :: .int j :: .ref a :: rest))) := by
  obtain ⟨cl, A, q1, S, N, H, G⟩ := V
  obtain ⟨T', h', X', e', W, st⟩ := stB X hx hZ eT A (j := j) (x := x) (inb_of S hj) (g := mkF m pc Ls (.int x :: .int j :: .ref a :: rest)) rfl rfl hd
  exact Go.by st (g T' h' X' e' W (Arv.set A q1 S N H G (fits_nar_byte _) W i hi hl))
theorem Go.cst {x : Int32} {i : Nat} (X : Stand p l e R s m args below meth c T locs cells slots) (hx : p.tables.exec = Jvm.exec) (hZ : Z.Warmed39 s.vm) (eT : T.heap = h) (V : Arv Z h a cA .char z vs dv) (hj : ¬ j < 0 ∧ j < z) (hi : j.toNatClampNeg = i) (hl : i < vs.length) (hd : decode c.code pc = .ok (.castore, 1))
    (g : ∀ (T' : State) (h' : Heap), Stand p l e R s m args below meth c T' (locs ++ [⟨a, j.toNatClampNeg⟩]) cells slots → T'.heap = h' → Wr h h' a j.toNatClampNeg (.int (nar .char x)) → Arv Z h' a cA .char z (vs.set i (.int (nar .char x))) dv → Go p e below K (T'.setTop (mkF m (pc + 1) Ls rest))) : Go p e below K (T.setTop (mkF m pc Ls (.int x :: .int j :: .ref a :: rest))) := by
  obtain ⟨cl, A, q1, S, N, H, G⟩ := V
  obtain ⟨T', h', X', e', W, st⟩ := stC X hx hZ eT A (j := j) (x := x) (inb_of S hj) (g := mkF m pc Ls (.int x :: .int j :: .ref a :: rest)) rfl rfl hd
  exact Go.by st (g T' h' X' e' W (Arv.set A q1 S N H G (fits_nar_char _) W i hi hl))
/-! from the case's words -/
theorem sta_exa {C f d K : String} (hx : (Cond.exactly (Term.static C f d) K).value args s none s [] = some true) (w1 : (Cond.initialized C).before args s = true) (w2 : (Cond.laysStatic C f d).before args s = true) : ∃ a, (Term.static C f d).eval args s none [] s = some (.ref a) ∧ Sta s s.heap C f d (.ref a) ∧ Exa s s.heap a K := by
  obtain ⟨a, ev⟩ := exa_v hx
  exact ⟨a, ev, Sta.start ev (Or.inr ⟨w1, w2⟩), Exa.start ev hx⟩
theorem fld_int {t : Term} {C f d : String} {z : Int32} (ev : t.eval args s none [] s = some (.ref a)) (hx : (Cond.eq (Term.field t C f d) (Term.int z)).value args s none s [] = some true) : Fld s s.heap a C f d (.int z) := by
  obtain ⟨x, y, e1, e2, k1, k2⟩ := cmp_v (Or.inl hx)
  have e3 : y = .int z := by rw [Term.int_eval] at e2; exact (Option.some.inj e2).symm
  subst e3
  obtain ⟨q, rfl⟩ : ∃ q, x = .int q := k2
  have e4 : q = z := by simpa [Cond.value, e1, e2] using hx
  subst e4
  rw [fld_at ev] at e1
  exact Fld.start e1
theorem eq_int {t : Term} {x z : Int32} (ev : t.eval args s none [] s = some (.int x)) (h : (Cond.eq t (Term.int z)).before args s = true) : x = z := by
  have q := Cond.before_iff.mp h
  simpa [Cond.value, ev, Term.int_eval] using q
theorem fld_ref {t : Term} {C f d : String} (ev : t.eval args s none [] s = some (.ref a)) (ev2 : (Term.field t C f d).eval args s none [] s = some (.ref b)) : Fld s s.heap a C f d (.ref b) := by
  rw [fld_at ev] at ev2; exact Fld.start ev2
theorem fld_null {t : Term} {C f d : String} (ev : t.eval args s none [] s = some (.ref a)) (hx : (Cond.eq (Term.field t C f d) Term.null).value args s none s [] = some true) : Fld s s.heap a C f d .null := by
  have q := null_v hx
  rw [fld_at ev] at q; exact Fld.start q
theorem fld_same {t u : Term} {C f d : String} (ev : t.eval args s none [] s = some (.ref a)) (ev2 : u.eval args s none [] s = some (.ref b)) (hx : (Cond.eq (Term.field t C f d) u).value args s none s [] = some true) : Fld s s.heap a C f d (.ref b) := by
  obtain ⟨x, y, e1, e2, k1, k2⟩ := cmp_v (Or.inl hx)
  cases ev2.symm.trans e2
  have hr : x.isRef = true := by
    have := k2
    simp [Kin] at this
    exact this.2
  rw [eq_R e1 e2 hr rfl] at hx
  have e3 : x = .ref b := by simpa using hx
  subst e3
  exact fld_ref ev e1
theorem elem_int {t : Term} {i v : Int32} {cl : Cell} {ty : FieldType} (ev : t.eval args s none [] s = some (.ref a)) (A : Arr s s.heap a cl ty) (hx : (Cond.eq (Term.elem t (Term.int i)) (Term.int v)).value args s none s [] = some true) : cl.slots[i.toNatClampNeg]? = some (.int v) := by
  obtain ⟨x, y, e1, e2, k1, k2⟩ := cmp_v (Or.inl hx)
  have e3 : y = .int v := by rw [Term.int_eval] at e2; exact (Option.some.inj e2).symm
  subst e3
  obtain ⟨q, rfl⟩ : ∃ q, x = .int q := k2
  have e4 : q = v := eq_int e1 (Cond.before_iff.mpr hx)
  subst e4
  exact (elem_in e1 ev (Term.int_eval _) A.1).2
theorem sta_int {C f d : String} (h0 : (Cond.initializedFor C f d).before args s = true) (h1 : (Cond.isInt (Term.static C f d)).before args s = true) : ∃ x, (Term.static C f d).eval args s none [] s = some (.int x) ∧ Sta s s.heap C f d (.int x) := by
  obtain ⟨x, ev⟩ := is_v (Cond.before_iff.mp h1)
  exact ⟨x, ev, Sta.start ev (Or.inl h0)⟩
theorem sta_ref {C f d : String} (h0 : (Cond.initializedFor C f d).before args s = true) (h1 : (Cond.isRef (Term.static C f d)).before args s = true) : ∃ x, (Term.static C f d).eval args s none [] s = some x ∧ x.isRef = true ∧ Sta s s.heap C f d x := by
  obtain ⟨x, ev, hr⟩ := isR_v (Cond.before_iff.mp h1)
  exact ⟨x, ev, hr, Sta.start ev (Or.inl h0)⟩
theorem ne_int {t : Term} {x z : Int32} (ev : t.eval args s none [] s = some (.int x)) (h : (Cond.not (Cond.eq t (Term.int z))).before args s = true) : ¬ x = z := by
  have q := not_v (Cond.before_iff.mp h)
  intro e; subst e
  rw [eq_i ev (Term.int_eval _) rfl] at q
  cases q
/-! a class whose superclasses are named is not one that can be instantiated and isn't among them -/
theorem ns_root {O D : String} {nn : Nat} (w : (Cond.noSuperclass O).before a0 Z = true) (wk : (Cond.instantiable D nn).before a0 Z = true) (hn : O ≠ D) : NS Z O D := by
  obtain ⟨c1, k1, q1, q2, q3, -, -⟩ := Cond.noSuperclass_spec w
  obtain ⟨t, -, g1, -⟩ := Cond.instantiable_spec wk
  refine ⟨c1, t, q1, g1, fun fuel => ?_⟩
  have ne := ids_ne q1 g1 hn
  cases fuel <;> simp [Vm.isSubclassAux, ne, q2, q3]
theorem ns_no {C S D : String} {nn : Nat} (w : (Cond.superclass C S).before a0 Z = true) (wk : (Cond.instantiable D nn).before a0 Z = true) (n : NS Z C D) (hn : C ≠ D) : ∃ c t, Z.vm.findClass C = some c ∧ Z.vm.findClass D = some t ∧ Z.vm.assignable c t = false := by
  obtain ⟨c1, t, q0, g0, n3⟩ := n
  obtain ⟨p1, k1, kp, q1, q2, q3, q4, q5, -, q7⟩ := Cond.superclass_spec q0 w
  obtain ⟨t', k2, g1, g2, g3, g4, -⟩ := Cond.instantiable_spec wk
  cases g0.symm.trans g1
  have ne := ids_ne q0 g0 hn
  have g5 : k2.isInterface = false := by simpa using (Bool.or_eq_false_iff.mp g4).1
  refine ⟨c1, t, q0, g0, ?_⟩
  show Z.vm.assignableAux (255 + 1) c1 t = false
  simp [Vm.assignableAux, ne, q2, g2, q5, g3, g5, Vm.isSubclass, n3]
end Own
end Jvm.RoadKit
namespace Jvm.RoadKit
open Sem ClassFile Op Lib Jvm.Stand Jvm.Free Jvm.LawKit
section OwnSteps
variable {p : Program} {l : Launch} {e : Env} {R : Room} {s : State} {m : MethodId} {args : Array Value} {below : List Frame} {meth : Method} {c : Code} {T : State} {locs : List Loc} {cells slots : Nat} {K : State → Outcome → Prop} {pc q : Nat} {Ls l' : Array Slot} {S : List Value}
theorem Go.iloadN {k : Fin 4} {v : Int32} (X : Stand p l e R s m args below meth c T locs cells slots) (hx : p.tables.exec = Jvm.exec) (hd : decode c.code pc = .ok (.iload_n k, 1)) (hl : Ls[k.val]? = some (.val (.int v))) (hp : pc + 1 = q) (g : Go p e below K (T.setTop (mkF m q Ls (.int v :: S)))) : Go p e below K (T.setTop (mkF m pc Ls S)) := by
  subst hp
  exact Go.by (fun t z => XS.iloadN X.here hx rfl hd hl z) g
theorem Go.iload {k : Nat} {v : Int32} (X : Stand p l e R s m args below meth c T locs cells slots) (hx : p.tables.exec = Jvm.exec) (hd : decode c.code pc = .ok (.iload k, 2)) (hl : Ls[k]? = some (.val (.int v))) (hp : pc + 2 = q) (g : Go p e below K (T.setTop (mkF m q Ls (.int v :: S)))) : Go p e below K (T.setTop (mkF m pc Ls S)) := by
  subst hp
  exact Go.by (fun t z => XS.iload X.here hx rfl hd hl z) g
theorem Go.istoreN {k : Fin 4} {v : Int32} (X : Stand p l e R s m args below meth c T locs cells slots) (hx : p.tables.exec = Jvm.exec) (hd : decode c.code pc = .ok (.istore_n k, 1)) (hl : storeLocals Ls k.val (.int v) = some l') (hp : pc + 1 = q) (g : Go p e below K (T.setTop (mkF m q l' S))) : Go p e below K (T.setTop (mkF m pc Ls (.int v :: S))) := by
  subst hp
  exact Go.by (fun t z => XS.istoreN X.here hx rfl hd rfl hl z) g
theorem Go.istore {k : Nat} {v : Int32} (X : Stand p l e R s m args below meth c T locs cells slots) (hx : p.tables.exec = Jvm.exec) (hd : decode c.code pc = .ok (.istore k, 2)) (hl : storeLocals Ls k (.int v) = some l') (hp : pc + 2 = q) (g : Go p e below K (T.setTop (mkF m q l' S))) : Go p e below K (T.setTop (mkF m pc Ls (.int v :: S))) := by
  subst hp
  exact Go.by (fun t z => XS.istore X.here hx rfl hd rfl hl z) g
theorem Go.aloadN {k : Fin 4} {v : Value} (X : Stand p l e R s m args below meth c T locs cells slots) (hx : p.tables.exec = Jvm.exec) (hd : decode c.code pc = .ok (.aload_n k, 1)) (hl : Ls[k.val]? = some (.val v)) (hv : v.isRef = true) (hp : pc + 1 = q) (g : Go p e below K (T.setTop (mkF m q Ls (v :: S)))) : Go p e below K (T.setTop (mkF m pc Ls S)) := by
  subst hp
  exact Go.by (fun t z => XS.aloadN X.here hx rfl hd hl hv z) g
theorem Go.aload {k : Nat} {v : Value} (X : Stand p l e R s m args below meth c T locs cells slots) (hx : p.tables.exec = Jvm.exec) (hd : decode c.code pc = .ok (.aload k, 2)) (hl : Ls[k]? = some (.val v)) (hv : v.isRef = true) (hp : pc + 2 = q) (g : Go p e below K (T.setTop (mkF m q Ls (v :: S)))) : Go p e below K (T.setTop (mkF m pc Ls S)) := by
  subst hp
  exact Go.by (fun t z => XS.aload X.here hx rfl hd hl hv z) g
theorem Go.astoreN {k : Fin 4} {v : Value} (X : Stand p l e R s m args below meth c T locs cells slots) (hx : p.tables.exec = Jvm.exec) (hd : decode c.code pc = .ok (.astore_n k, 1)) (hv : v.isRef = true) (hl : storeLocals Ls k.val v = some l') (hp : pc + 1 = q) (g : Go p e below K (T.setTop (mkF m q l' S))) : Go p e below K (T.setTop (mkF m pc Ls (v :: S))) := by
  subst hp
  exact Go.by (fun t z => XS.astoreN X.here hx rfl hd rfl hv hl z) g
theorem Go.astore {k : Nat} {v : Value} (X : Stand p l e R s m args below meth c T locs cells slots) (hx : p.tables.exec = Jvm.exec) (hd : decode c.code pc = .ok (.astore k, 2)) (hv : v.isRef = true) (hl : storeLocals Ls k v = some l') (hp : pc + 2 = q) (g : Go p e below K (T.setTop (mkF m q l' S))) : Go p e below K (T.setTop (mkF m pc Ls (v :: S))) := by
  subst hp
  exact Go.by (fun t z => XS.astore X.here hx rfl hd rfl hv hl z) g
theorem Go.iconst {i : Int} {r : Int32} (X : Stand p l e R s m args below meth c T locs cells slots) (hx : p.tables.exec = Jvm.exec) (hd : decode c.code pc = .ok (.iconst i, 1)) (hr : Int32.ofInt i = r) (hp : pc + 1 = q) (g : Go p e below K (T.setTop (mkF m q Ls (.int r :: S)))) : Go p e below K (T.setTop (mkF m pc Ls S)) := by
  subst hp hr
  exact Go.by (fun t z => XS.iconst X.here hx rfl hd z) g
theorem Go.bipush {i : Int} {r : Int32} (X : Stand p l e R s m args below meth c T locs cells slots) (hx : p.tables.exec = Jvm.exec) (hd : decode c.code pc = .ok (.bipush i, 2)) (hr : (Int8.ofInt i).toInt32 = r) (hp : pc + 2 = q) (g : Go p e below K (T.setTop (mkF m q Ls (.int r :: S)))) : Go p e below K (T.setTop (mkF m pc Ls S)) := by
  subst hp hr
  exact Go.by (fun t z => XS.bipush X.here hx rfl hd z) g
theorem Go.sipush {i : Int} {r : Int32} (X : Stand p l e R s m args below meth c T locs cells slots) (hx : p.tables.exec = Jvm.exec) (hd : decode c.code pc = .ok (.sipush i, 3)) (hr : (Int16.ofInt i).toInt32 = r) (hp : pc + 3 = q) (g : Go p e below K (T.setTop (mkF m q Ls (.int r :: S)))) : Go p e below K (T.setTop (mkF m pc Ls S)) := by
  subst hp hr
  exact Go.by (fun t z => XS.sipush X.here hx rfl hd z) g
theorem Go.aconst_null  (X : Stand p l e R s m args below meth c T locs cells slots) (hx : p.tables.exec = Jvm.exec) (hd : decode c.code pc = .ok (.aconst_null, 1)) (hp : pc + 1 = q) (g : Go p e below K (T.setTop (mkF m q Ls (.null :: S)))) : Go p e below K (T.setTop (mkF m pc Ls S)) := by
  subst hp
  exact Go.by (fun t z => XS.aconstNull X.here hx rfl hd z) g
theorem Go.iadd {x y r : Int32} (X : Stand p l e R s m args below meth c T locs cells slots) (hx : p.tables.exec = Jvm.exec) (hd : decode c.code pc = .ok (.iadd, 1)) (hr : x + y = r) (hp : pc + 1 = q) (g : Go p e below K (T.setTop (mkF m q Ls (.int r :: S)))) : Go p e below K (T.setTop (mkF m pc Ls (.int y :: .int x :: S))) := by
  subst hp hr
  exact Go.by (fun t z => XS.iadd X.here hx rfl hd rfl z) g
theorem Go.isub {x y r : Int32} (X : Stand p l e R s m args below meth c T locs cells slots) (hx : p.tables.exec = Jvm.exec) (hd : decode c.code pc = .ok (.isub, 1)) (hr : x - y = r) (hp : pc + 1 = q) (g : Go p e below K (T.setTop (mkF m q Ls (.int r :: S)))) : Go p e below K (T.setTop (mkF m pc Ls (.int y :: .int x :: S))) := by
  subst hp hr
  exact Go.by (fun t z => XS.isub X.here hx rfl hd rfl z) g
theorem Go.iand {x y r : Int32} (X : Stand p l e R s m args below meth c T locs cells slots) (hx : p.tables.exec = Jvm.exec) (hd : decode c.code pc = .ok (.iand, 1)) (hr : x &&& y = r) (hp : pc + 1 = q) (g : Go p e below K (T.setTop (mkF m q Ls (.int r :: S)))) : Go p e below K (T.setTop (mkF m pc Ls (.int y :: .int x :: S))) := by
  subst hp hr
  exact Go.by (fun t z => XS.iand X.here hx rfl hd rfl z) g
theorem Go.irem {x y r : Int32} (X : Stand p l e R s m args below meth c T locs cells slots) (hx : p.tables.exec = Jvm.exec) (hd : decode c.code pc = .ok (.irem, 1)) (hy : y ≠ 0) (hr : x % y = r) (hp : pc + 1 = q) (g : Go p e below K (T.setTop (mkF m q Ls (.int r :: S)))) : Go p e below K (T.setTop (mkF m pc Ls (.int y :: .int x :: S))) := by
  subst hp hr
  exact Go.by (fun t z => iremM X hx (g := mkF m pc Ls (.int y :: .int x :: S)) rfl hd rfl hy z) g
theorem Go.ishl {x y r : Int32} (X : Stand p l e R s m args below meth c T locs cells slots) (hx : p.tables.exec = Jvm.exec) (hd : decode c.code pc = .ok (.ishl, 1)) (hr : x <<< (y &&& 31) = r) (hp : pc + 1 = q) (g : Go p e below K (T.setTop (mkF m q Ls (.int r :: S)))) : Go p e below K (T.setTop (mkF m pc Ls (.int y :: .int x :: S))) := by
  subst hp hr
  exact Go.by (fun t z => XS.ishl X.here hx rfl hd rfl z) g
theorem Go.ishr {x y r : Int32} (X : Stand p l e R s m args below meth c T locs cells slots) (hx : p.tables.exec = Jvm.exec) (hd : decode c.code pc = .ok (.ishr, 1)) (hr : x >>> (y &&& 31) = r) (hp : pc + 1 = q) (g : Go p e below K (T.setTop (mkF m q Ls (.int r :: S)))) : Go p e below K (T.setTop (mkF m pc Ls (.int y :: .int x :: S))) := by
  subst hp hr
  exact Go.by (fun t z => XS.ishr X.here hx rfl hd rfl z) g
theorem Go.iushr {x y r : Int32} (X : Stand p l e R s m args below meth c T locs cells slots) (hx : p.tables.exec = Jvm.exec) (hd : decode c.code pc = .ok (.iushr, 1)) (hr : (x.toUInt32 >>> (y &&& 31).toUInt32).toInt32 = r) (hp : pc + 1 = q) (g : Go p e below K (T.setTop (mkF m q Ls (.int r :: S)))) : Go p e below K (T.setTop (mkF m pc Ls (.int y :: .int x :: S))) := by
  subst hp hr
  exact Go.by (fun t z => XS.iushr X.here hx rfl hd rfl z) g
theorem Go.i2b {x : Int32} {r : Int32} (X : Stand p l e R s m args below meth c T locs cells slots) (hx : p.tables.exec = Jvm.exec) (hd : decode c.code pc = .ok (.i2b, 1)) (hr : x.toInt8.toInt32 = r) (hp : pc + 1 = q) (g : Go p e below K (T.setTop (mkF m q Ls (.int r :: S)))) : Go p e below K (T.setTop (mkF m pc Ls (.int x :: S))) := by
  subst hp hr
  exact Go.by (fun t z => XS.i2b X.here hx rfl hd rfl z) g
theorem Go.i2c {x : Int32} {r : Int32} (X : Stand p l e R s m args below meth c T locs cells slots) (hx : p.tables.exec = Jvm.exec) (hd : decode c.code pc = .ok (.i2c, 1)) (hr : x.toUInt32.toUInt16.toUInt32.toInt32 = r) (hp : pc + 1 = q) (g : Go p e below K (T.setTop (mkF m q Ls (.int r :: S)))) : Go p e below K (T.setTop (mkF m pc Ls (.int x :: S))) := by
  subst hp hr
  exact Go.by (fun t z => XS.i2c X.here hx rfl hd rfl z) g
theorem Go.iinc {k : Nat} {cst : Int} {x r : Int32} (X : Stand p l e R s m args below meth c T locs cells slots) (hx : p.tables.exec = Jvm.exec) (hd : decode c.code pc = .ok (.iinc k cst, 3)) (hl : Ls[k]? = some (.val (.int x))) (hr : x + Int32.ofInt cst = r) (hl' : storeLocals Ls k (.int r) = some l') (hp : pc + 3 = q) (g : Go p e below K (T.setTop (mkF m q l' S))) : Go p e below K (T.setTop (mkF m pc Ls S)) := by
  subst hp hr
  exact Go.by (fun t z => XS.iinc X.here hx rfl hd hl hl' z) g
theorem Go.dup {x : Value} (X : Stand p l e R s m args below meth c T locs cells slots) (hx : p.tables.exec = Jvm.exec) (hd : decode c.code pc = .ok (.dup, 1)) (hc : x.category = 1) (hp : pc + 1 = q) (g : Go p e below K (T.setTop (mkF m q Ls (x :: x :: S)))) : Go p e below K (T.setTop (mkF m pc Ls (x :: S))) := by
  subst hp
  exact Go.by (fun t z => XS.dup X.here hx rfl hd rfl hc z) g
theorem Go.dup_x1 {x y : Value} (X : Stand p l e R s m args below meth c T locs cells slots) (hx : p.tables.exec = Jvm.exec) (hd : decode c.code pc = .ok (.dup_x1, 1)) (hc : x.category = 1) (hc2 : y.category = 1) (hp : pc + 1 = q) (g : Go p e below K (T.setTop (mkF m q Ls (x :: y :: x :: S)))) : Go p e below K (T.setTop (mkF m pc Ls (x :: y :: S))) := by
  subst hp
  exact Go.by (fun t z => XS.dupX1 X.here hx rfl hd rfl hc hc2 z) g
theorem Go.pop {x : Value} (X : Stand p l e R s m args below meth c T locs cells slots) (hx : p.tables.exec = Jvm.exec) (hd : decode c.code pc = .ok (.pop, 1)) (hc : x.category = 1) (hp : pc + 1 = q) (g : Go p e below K (T.setTop (mkF m q Ls S))) : Go p e below K (T.setTop (mkF m pc Ls (x :: S))) := by
  subst hp
  exact Go.by (fun t z => XS.pop X.here hx rfl hd rfl hc z) g
theorem Go.goto  {o : Int} (X : Stand p l e R s m args below meth c T locs cells slots) (hx : p.tables.exec = Jvm.exec) (hd : decode c.code pc = .ok (.goto o, 3)) (ho : 0 ≤ (pc : Int) + o) (hp : ((pc : Int) + o).toNat = q) (g : Go p e below K (T.setTop (mkF m q Ls S))) : Go p e below K (T.setTop (mkF m pc Ls S)) :=
  Go.by (fun t z => XS.goto X.here hx rfl (pc0 := pc) rfl hd ho hp z) g
theorem Go.ifYes {cd : ClassFile.Cond} {x : Int32} {o : Int} (X : Stand p l e R s m args below meth c T locs cells slots) (hx : p.tables.exec = Jvm.exec) (hd : decode c.code pc = .ok (.ifCond cd o, 3)) (hc : ifCond.holds cd x = true) (ho : 0 ≤ (pc : Int) + o) (hp : ((pc : Int) + o).toNat = q) (g : Go p e below K (T.setTop (mkF m q Ls S))) : Go p e below K (T.setTop (mkF m pc Ls (.int x :: S))) :=
  Go.by (fun t z => XS.ifYes X.here hx rfl (pc0 := pc) rfl hd rfl hc ho hp z) g
theorem Go.icmpYes {cd : ClassFile.Cond} {x y : Int32} {o : Int} (X : Stand p l e R s m args below meth c T locs cells slots) (hx : p.tables.exec = Jvm.exec) (hd : decode c.code pc = .ok (.if_icmp cd o, 3)) (hc : if_icmp.holds cd x y = true) (ho : 0 ≤ (pc : Int) + o) (hp : ((pc : Int) + o).toNat = q) (g : Go p e below K (T.setTop (mkF m q Ls S))) : Go p e below K (T.setTop (mkF m pc Ls (.int y :: .int x :: S))) :=
  Go.by (fun t z => XS.icmpYes X.here hx rfl (pc0 := pc) rfl hd rfl hc ho hp z) g
theorem Go.ifnonnullYes {b : Addr} {o : Int} (X : Stand p l e R s m args below meth c T locs cells slots) (hx : p.tables.exec = Jvm.exec) (hd : decode c.code pc = .ok (.ifnonnull o, 3)) (ho : 0 ≤ (pc : Int) + o) (hp : ((pc : Int) + o).toNat = q) (g : Go p e below K (T.setTop (mkF m q Ls S))) : Go p e below K (T.setTop (mkF m pc Ls (.ref b :: S))) :=
  Go.by (fun t z => XS.ifnonnullYes X.here hx rfl (pc0 := pc) rfl hd rfl ho hp z) g
theorem Go.ifNo {cd : ClassFile.Cond} {x : Int32} {o : Int} (X : Stand p l e R s m args below meth c T locs cells slots) (hx : p.tables.exec = Jvm.exec) (hd : decode c.code pc = .ok (.ifCond cd o, 3)) (hc : ifCond.holds cd x = false) (hp : pc + 3 = q) (g : Go p e below K (T.setTop (mkF m q Ls S))) : Go p e below K (T.setTop (mkF m pc Ls (.int x :: S))) := by
  subst hp
  exact Go.by (fun t z => XS.ifNo X.here hx rfl hd rfl hc z) g
theorem Go.icmpNo {cd : ClassFile.Cond} {x y : Int32} {o : Int} (X : Stand p l e R s m args below meth c T locs cells slots) (hx : p.tables.exec = Jvm.exec) (hd : decode c.code pc = .ok (.if_icmp cd o, 3)) (hc : if_icmp.holds cd x y = false) (hp : pc + 3 = q) (g : Go p e below K (T.setTop (mkF m q Ls S))) : Go p e below K (T.setTop (mkF m pc Ls (.int y :: .int x :: S))) := by
  subst hp
  exact Go.by (fun t z => XS.icmpNo X.here hx rfl hd rfl hc z) g
theorem Go.ifnonnullNo {o : Int} (X : Stand p l e R s m args below meth c T locs cells slots) (hx : p.tables.exec = Jvm.exec) (hd : decode c.code pc = .ok (.ifnonnull o, 3)) (hp : pc + 3 = q) (g : Go p e below K (T.setTop (mkF m q Ls S))) : Go p e below K (T.setTop (mkF m pc Ls (.null :: S))) := by
  subst hp
  exact Go.by (fun t z => XS.ifnonnullNo X.here hx rfl hd rfl z) g
theorem Go.acmp {cd : ACond} {x y : Value} {o : Int} {same : Bool} (X : Stand p l e R s m args below meth c T locs cells slots) (hx : p.tables.exec = Jvm.exec) (h1 : x.isRef = true) (h2 : y.isRef = true) (hd : decode c.code pc = .ok (.if_acmp cd o, 3)) (hq : decide (x = y) = same) (ho : 0 ≤ (pc : Int) + o) (hp : q = if acV cd same = true then ((pc : Int) + o).toNat else pc + 3) (g : Go p e below K (T.setTop (mkF m q Ls S))) : Go p e below K (T.setTop (mkF m pc Ls (y :: x :: S))) :=
  Go.by (fun t z => Jvm.RoadKit.acmp (g := mkF m pc Ls (y :: x :: S)) X hx rfl h1 h2 (pc0 := pc) (same := same) rfl hd rfl hq ho hp z) g
variable {Z : State} {a0 : Array Value} {h : Heap} {own R0 O n d host C : String} {index kk : Nat} {a : Addr} {v v' old : Value} {ty : FieldType}
theorem Go.getF (X : Stand p l e R s m args below meth c T locs cells slots) (hx : p.tables.exec = Jvm.exec) (hZ : Z.Warmed39 s.vm) (hown : s.vm.findClass own = some m.cls) (w : (Cond.fieldLink own index R0 n d).before a0 Z = true ∨ (Cond.fieldLinkNest own index R0 n d host).before a0 Z = true) (via : Via Z R0 O n d) (eT : T.heap = h) (F : Fld Z h a O n d v) (hd : decode c.code pc = .ok (.getfield index, 3)) (hp : pc + 3 = q)
    (g : ∀ T', Stand p l e R s m args below meth c T' locs cells slots → T'.heap = h → Go p e below K (T'.setTop (mkF m q Ls (v :: S)))) : Go p e below K (T.setTop (mkF m pc Ls (.ref a :: S))) := by
  subst hp
  obtain ⟨T', X', e', st⟩ := Jvm.RoadKit.getF X hx hZ hown w via eT F (g := mkF m pc Ls (.ref a :: S)) rfl rfl hd
  exact Go.by st (g T' X' e')
theorem Go.getS (X : Stand p l e R s m args below meth c T locs cells slots) (hx : p.tables.exec = Jvm.exec) (hZ : Z.Warmed39 s.vm) (hown : s.vm.findClass own = some m.cls) (w : (Cond.fieldLink own index R0 n d).before a0 Z = true ∨ (Cond.fieldLinkNest own index R0 n d host).before a0 Z = true) (via : Via Z R0 O n d) (eT : T.heap = h) (F : Sta Z h O n d v) (hd : decode c.code pc = .ok (.getstatic index, 3)) (hp : pc + 3 = q)
    (g : ∀ T', Stand p l e R s m args below meth c T' locs cells slots → T'.heap = h → Go p e below K (T'.setTop (mkF m q Ls (v :: S)))) : Go p e below K (T.setTop (mkF m pc Ls S)) := by
  subst hp
  obtain ⟨T', X', e', st⟩ := Jvm.RoadKit.getS2 X hx hZ hown w via eT F (g := mkF m pc Ls S) rfl hd
  exact Go.by st (g T' X' e')
theorem Go.putF (X : Stand p l e R s m args below meth c T locs cells slots) (hx : p.tables.exec = Jvm.exec) (hZ : Z.Warmed39 s.vm) (hown : s.vm.findClass own = some m.cls) (w : (Cond.fieldLink own index R0 n d).before a0 Z = true ∨ (Cond.fieldLinkNest own index R0 n d host).before a0 Z = true) (via : Via Z R0 O n d) (eT : T.heap = h) (F : Fld Z h a O n d old) (E : Exa Z h a C)
    (L : (Cond.lays C O n d).before a0 Z = true ∨ ((Cond.laysFinal C O n d).before a0 Z = true ∧ own = O ∧ meth.name = "<init>")) (wi : (Cond.instantiable C kk).before a0 Z = true) (hty : parseFieldDescriptor d = some ty) (hn : narrow ty v = v) (hf : fits ty v = true) (hd : decode c.code pc = .ok (.putfield index, 3)) (hp : pc + 3 = q)
    (g : ∀ T' h', Stand p l e R s m args below meth c T' (locs ++ [⟨a, slotOf Z O n d⟩]) cells slots → T'.heap = h' → Wr h h' a (slotOf Z O n d) v → Fld Z h' a O n d v → Go p e below K (T'.setTop (mkF m q Ls S))) : Go p e below K (T.setTop (mkF m pc Ls (v :: .ref a :: S))) := by
  subst hp
  obtain ⟨T', h', X', e', W, st⟩ := Jvm.RoadKit.putF X hx hZ hown w via eT F E L wi hty hn hf (g := mkF m pc Ls (v :: .ref a :: S)) rfl rfl hd
  exact Go.by st (g T' h' X' e' W (F.same W))
theorem Go.newO {nn : Nat} (X : Stand p l e R s m args below meth c T locs cells slots) (hx : p.tables.exec = Jvm.exec) (hZ : Z.Warmed39 s.vm) (hown : s.vm.findClass own = some m.cls) (w : (Cond.classLink own index C).before a0 Z = true) (wi : (Cond.instantiable C nn).before a0 Z = true) (wz : (Cond.initialized C).before a0 Z = true) (eT : T.heap = h) (hd : decode c.code pc = .ok (.new index, 3)) (hc : cells + 1 ≤ R.cells) (hl : slots + nn ≤ R.slots) (hp : pc + 3 = q)
    (g : ∀ (b : Addr) T' h', Stand p l e R s m args below meth c T' locs (cells + 1) (slots + nn) → T'.heap = h' → h.size = b → Ext h h' → Exa Z h' b C → (∀ {O nm d : String} {ty : FieldType}, Laid Z a0 C O nm d → parseFieldDescriptor d = some ty → Fld Z h' b O nm d (defaultValue ty)) → Unt h' b → Go p e below K (T'.setTop (mkF m q Ls (.ref b :: S)))) : Go p e below K (T.setTop (mkF m pc Ls S)) := by
  subst hp
  obtain ⟨T', h', X', e', E, A, D, U, st⟩ := Jvm.RoadKit.newO X hx hZ hown w wi wz eT (g := mkF m pc Ls S) rfl hd hc hl
  exact Go.by st (g _ T' h' X' e' rfl E A D U)
theorem Go.newP {aty : ArrayType} {z : Int32} {ad : String} {cap : Nat} (X : Stand p l e R s m args below meth c T locs cells slots) (hx : p.tables.exec = Jvm.exec) (hZ : Z.Warmed39 s.vm) (hd : decode c.code pc = .ok (.newarray aty, 2)) (w : (Cond.arrayClass (newarray.typeOf aty)).before a0 Z = true) (eT : T.heap = h) (hn : ¬ z < 0) (hcap : z.toNatClampNeg ≤ cap) (hb : cap * 8 ≤ 536870912) (hc : cells + 1 ≤ R.cells) (hl : slots + cap ≤ R.slots) (had : "[" ++ (newarray.typeOf aty).toString = ad) (hp : pc + 2 = q)
    (g : ∀ (b : Addr) T' h' cA, Stand p l e R s m args below meth c T' locs (cells + 1) (slots + cap) → T'.heap = h' → h.size = b → Ext h h' → Arv Z h' b cA (newarray.typeOf aty) z [] (defaultValue (newarray.typeOf aty)) → Exa Z h' b ad → Go p e below K (T'.setTop (mkF m q Ls (.ref b :: S)))) : Go p e below K (T.setTop (mkF m pc Ls (.int z :: S))) := by
  subst hp
  obtain ⟨T', h', cA, X', e', E, A, B, st⟩ := Jvm.RoadKit.newPE X hx hZ w eT (g := mkF m pc Ls (.int z :: S)) rfl hd rfl hn hcap hb hc hl had
  exact Go.by st (g _ T' h' cA X' e' rfl E (Arv.new A hn) B)
theorem Go.initO (X : Stand p l e R s m args below meth c T locs cells slots) (hx : p.tables.exec = Jvm.exec) (hZ : Z.Warmed39 s.vm) (hown : s.vm.findClass own = some m.cls) (w1 : (Cond.methodLink own index Lib.objectInit).before a0 Z = true) (w2 : (Cond.instanceMethod Lib.objectInit).before a0 Z = true) (w3 : (Cond.code Lib.objectInit ⟨#[0xb1]⟩ 1 none).before a0 Z = true) (eT : T.heap = h) (hsz : Ls.size = c.maxLocals) (hd : decode c.code pc = .ok (.invokespecial index, 3)) (hf : 1 ≤ R.frames) {W : Nat} (hW : 2 * 0 + (S.map fun v => v.category).sum ≤ W) (hl : W + 12 ≤ R.locals) (hp : pc + 3 = q)
    (g : ∀ T', Stand p l e R s m args below meth c T' locs cells slots → T'.heap = h → Go p e below K (T'.setTop (mkF m q Ls S))) : Go p e below K (T.setTop (mkF m pc Ls (.ref a :: S))) := by
  subst hp
  obtain ⟨T', X', e', st⟩ := Jvm.RoadKit.initO X hx hZ hown w1 w2 w3 eT (g := mkF m pc Ls (.ref a :: S)) rfl hsz rfl hd hf hW hl
  exact Go.by st (g T' X' e')
theorem Go.ldcI {z : Int32} (X : Stand p l e R s m args below meth c T locs cells slots) (hx : p.tables.exec = Jvm.exec) (hZ : Z.Warmed39 s.vm) (hown : s.vm.findClass own = some m.cls) (w : (Cond.constant own index z).before a0 Z = true) (hd : decode c.code pc = .ok (.ldc index, 2)) (hp : pc + 2 = q) (g : Go p e below K (T.setTop (mkF m q Ls (.int z :: S)))) : Go p e below K (T.setTop (mkF m pc Ls S)) := by
  subst hp
  exact Go.by (X.ldcInt hx hown (mvT hZ w) (g := mkF m pc Ls S) rfl hd) g

end OwnSteps
end Jvm.RoadKit
namespace Jvm.RoadKit
open Sem ClassFile Op Lib Jvm.Stand Jvm.Free Jvm.LawKit
section OwnRefs
variable {p : Program} {l : Launch} {e : Env} {R : Room} {s : State} {m : MethodId} {args : Array Value} {below : List Frame} {meth : Method} {c : Code} {T T' : State} {locs : List Loc} {cells slots : Nat} {Z : State} {a0 : Array Value} {h h' h0 : Heap} {K : State → Outcome → Prop} {pc q : Nat} {Ls : Array Slot} {rest S : List Value} {k n : Nat} {a b : Addr} {cA : ClassId} {ty : FieldType} {z j : Int32} {vs : List Value} {dv : Value}
theorem own_selp {C : String} {x' y y' : MethodName} (hs : (Cond.selects C x' y').before a0 Z = true) (hc : y'.cls = y.cls) (w6 : (Cond.instanceMethod y).before a0 Z = true) (w7 : (Cond.privateMethod y).before a0 Z = true) (hy : y.cls ≠ "java/lang/invoke/MethodHandle" ∧ y.cls ≠ "java/lang/invoke/VarHandle") : (Cond.selects y.cls y y).before a0 Z = true := by
  obtain ⟨c2, r2, m2, q1, -, q3, -, kP, hkP, hkPi⟩ := Cond.selects_spec hs
  have q4 := findClass_of_methodNamed q3
  rw [hc] at q4
  exact selects_self_of_private q4 hkP hkPi (Cond.privateMethod_at w7) w6 hy
theorem own_nf {C : String} {x' z' y : MethodName} (hs : (Cond.selects C x' z').before args s = true) (hc : z'.cls = y.cls) : NotFace s y := fun r0 h0 => by
  obtain ⟨c2, r2, m2, -, -, q3, -, kP, hkP, hkPi⟩ := Cond.selects_spec hs
  have q4 := findClass_of_methodNamed q3
  have q5 := findClass_of_methodNamed h0
  rw [hc, q5] at q4
  exact ⟨kP, by rw [Option.some.inj q4]; exact hkP, hkPi⟩
theorem own_sameM {C : String} {x' z' y : MethodName} (hs : (Cond.selects C x' z').before a0 Z = true) (hc : z'.cls = y.cls) (wi : (Cond.instanceMethod y).before a0 Z = true) (hy : y.cls ≠ "java/lang/invoke/MethodHandle" ∧ y.cls ≠ "java/lang/invoke/VarHandle") : (Cond.sameMethod y.cls y.cls y.name y.desc).before a0 Z = true := by
  obtain ⟨mk, methM, hnamed, -⟩ := Cond.instanceMethod_spec wi
  obtain ⟨kr, hkr, hni⟩ := own_nf hs hc mk hnamed
  have hf := State.methodFound?_of_named hnamed hy
  have hcn := findClass_of_methodNamed hnamed
  have hn' : Z.methodNamed? ⟨y.cls, y.name, y.desc⟩ = some mk := hnamed
  simp [Cond.before, Cond.holds, Cond.value, hcn, hf, hn', hkr, hni]
theorem Sto.ofArv {y : Addr} {C : String} (V : Arv Z h a cA ty z vs dv) (O : Ovr Z cA C) (I : Ins Z h y C true) : Sto Z h a (.ref y) := by
  obtain ⟨cl, A, q1, -⟩ := V
  exact Sto.ofV A q1 O I
end OwnRefs
end Jvm.RoadKit
namespace Jvm.RoadKit
open Sem ClassFile Op Lib Jvm.Stand Jvm.Free Jvm.LawKit
section OwnHeld
variable {p : Program} {l : Launch} {e : Env} {R : Room} {s : State} {m : MethodId} {args : Array Value} {below : List Frame} {meth : Method} {c : Code} {T T' : State} {locs : List Loc} {cells slots : Nat} {Z : State} {a0 : Array Value} {h h' h0 : Heap} {K : State → Outcome → Prop} {pc q : Nat} {Ls : Array Slot} {rest S : List Value} {Q : Option Value → Heap → List Loc → Prop} {k n k0 : Nat} {a b x : Addr} {vm vm0 : Vm} {EL : List (String × Nat)}
/-- as KKW, with what the String constants hold -/
def KKH (Z : State) (EL : List (String × Nat)) (s : State) (Q : Option Value → Heap → List Loc → Prop) (k n : Nat) : State → Outcome → Prop := fun U o => ∃ v L, o = .returned v ∧ Q v U.heap L ∧ CHr Z EL s.vm s.heap U.vm U.heap ∧ ReturnedEndW s o U L k n
abbrev CtrH (l : Launch) (Z : State) (EL : List (String × Nat)) (h0 : Heap) (y : MethodName) (bytes : ByteArray) (maxL : Nat) (ret : Option FieldType) (ws : List Cond) (rm : Room) (as' : Array Value) (Q : Option Value → Heap → List Loc → Prop) : Prop :=
  MetFree l y (head1 (Cond.code y bytes maxL ret :: ws) rm) (fun a U => a = as' ∧ Z.Warmed39 U.vm ∧ U.heap = h0 ∧ CHv Z EL U.vm h0) (fun _ _ _ _ _ => True) (fun _ U o U' => ∃ v L, o = .returned v ∧ Q v U'.heap L ∧ CHr Z EL U.vm U.heap U'.vm U'.heap ∧ ReturnedEndW U o U' L rm.cells rm.slots)
theorem enterH {y : MethodName} {bytes : ByteArray} {maxL : Nat} {ret : Option FieldType} {ws : List Cond} {rm : Room} {as' : Array Value} (hp : plainFor y = true)
    (H : ∀ (p : Program) (e : Env) (s : State) (m : MethodId) (below : List Frame) (meth : Method) (c : Code) (s₁ : State), p.tables.exec = Jvm.exec → c.code = bytes → c.maxLocals = maxL → Z.Warmed39 (s.setVm s.vm).vm → (s.setVm s.vm).vm.findClass y.cls = some m.cls → meth.name = y.name → meth.sig.returnType = ret → meth.locks = false →
      Stand p l e rm (s.setVm s.vm) m as' below meth c s₁ [] 0 0 → s₁.heap = h0 → s.heap = h0 → s.Since s.vm 0 → CHr Z EL s.vm h0 s.vm h0 → Go p e below (KKH Z EL s Q rm.cells rm.slots) (s₁.setTop (entryFrame m as' maxL))) : CtrH l Z EL h0 y bytes maxL ret ws rm as' Q := by
  refine MetFree.of_bodySF hp hisR ?_
  intro p e s m args below meth c s₁ Bd hml0 hP hK
  obtain ⟨rfl, hZ, hh, hC⟩ := hP
  exact H p e s m below meth c s₁ Bd.exec Bd.bytes hml0 hZ (findClass_of_methodNamed Bd.named) (name_of_methodNamed Bd.named Bd.method).1 Bd.returns Bd.notSynchronized (Stand.of_body Bd) (by rw [← hh, Bd.state]; rfl) hh ((State.WarmedH.refl s).since 0) (CHr.refl hC)
theorem Go.retH {w : Value} {t : FieldType} {i : Instr} (X : Stand p l e R (s.setVm vm0) m args below meth c T locs cells slots) (hx : p.tables.exec = Jvm.exec) (hS : s.Since vm0 k0) (hk0 : k0 ≤ h.size) (hs0 : s.heap = h0) (hZ : Z.Warmed39 (s.setVm vm0).vm) (hE : EW Z a0 EL) (hC : CHr Z EL s.vm h0 vm0 h) (hret : meth.sig.returnType = some t) (hlk : meth.locks = false) (hn : narrow t w = w)
    (hi : (i = .ireturn ∧ (t = .int ∨ t = .boolean ∨ t = .byte ∨ t = .char ∨ t = .short) ∧ ∃ z, w = .int z) ∨ (i = .lreturn ∧ t = .long ∧ ∃ z, w = .long z) ∨ (i = .dreturn ∧ t = .double ∧ ∃ z, w = .double z) ∨ (i = .freturn ∧ t = .float ∧ ∃ z, w = .float z) ∨ (i = .areturn ∧ t.isReference = true ∧ w.isRef = true))
    (hd : decode c.code pc = .ok (i, 1)) (eT : T.heap = h) (hk : cells ≤ k) (hs : slots ≤ n) (hQ : Q (some w) h locs) : Go p e below (KKH Z EL s Q k n) (T.setTop (mkF m pc Ls (w :: rest))) := by
  subst eT; subst hs0
  obtain ⟨fs, hr, hrun, hended, hq⟩ := X.leaveW hS hk0 (v := some w) (fun h => by rw [hret] at h; cases h) hlk
  exact ⟨_, _, retOut X hx hret hn hi hd hr, hrun, hended, _, _, rfl, hQ, (show CHr Z EL s.vm s.heap T.vm T.heap from hC.trans (CHv.at X hZ hE hC.1)), hq.1, hq.2.1, hq.2.2.1, hq.2.2.2.mono hk hs⟩
theorem Go.retIH {z : Int32} {t : FieldType} (X : Stand p l e R (s.setVm vm0) m args below meth c T locs cells slots) (hx : p.tables.exec = Jvm.exec) (hS : s.Since vm0 k0) (hk0 : k0 ≤ h.size) (hs0 : s.heap = h0) (hZ : Z.Warmed39 (s.setVm vm0).vm) (hE : EW Z a0 EL) (hC : CHr Z EL s.vm h0 vm0 h) (hret : meth.sig.returnType = some t) (hlk : meth.locks = false) (ht : t = .int ∨ t = .boolean ∨ t = .byte ∨ t = .char ∨ t = .short) (hn : narrow t (.int z) = .int z)
    (hd : decode c.code pc = .ok (.ireturn, 1)) (eT : T.heap = h) (hk : cells ≤ k) (hs : slots ≤ n) (hQ : Q (some (.int z)) h locs) : Go p e below (KKH Z EL s Q k n) (T.setTop (mkF m pc Ls (.int z :: rest))) :=
  Go.retH X hx hS hk0 hs0 hZ hE hC hret hlk hn (Or.inl ⟨rfl, ht, z, rfl⟩) hd eT hk hs hQ
theorem Go.retAH {w : Value} {t : FieldType} (X : Stand p l e R (s.setVm vm0) m args below meth c T locs cells slots) (hx : p.tables.exec = Jvm.exec) (hS : s.Since vm0 k0) (hk0 : k0 ≤ h.size) (hs0 : s.heap = h0) (hZ : Z.Warmed39 (s.setVm vm0).vm) (hE : EW Z a0 EL) (hC : CHr Z EL s.vm h0 vm0 h) (hret : meth.sig.returnType = some t) (hlk : meth.locks = false) (ht : t.isReference = true) (hw : w.isRef = true)
    (hd : decode c.code pc = .ok (.areturn, 1)) (eT : T.heap = h) (hk : cells ≤ k) (hs : slots ≤ n) (hQ : Q (some w) h locs) : Go p e below (KKH Z EL s Q k n) (T.setTop (mkF m pc Ls (w :: rest))) :=
  Go.retH X hx hS hk0 hs0 hZ hE hC hret hlk (nar_ref hw) (Or.inr (Or.inr (Or.inr (Or.inr ⟨rfl, ht, hw⟩)))) hd eT hk hs hQ
theorem Go.retVH (X : Stand p l e R (s.setVm vm0) m args below meth c T locs cells slots) (hx : p.tables.exec = Jvm.exec) (hS : s.Since vm0 k0) (hk0 : k0 ≤ h.size) (hs0 : s.heap = h0) (hZ : Z.Warmed39 (s.setVm vm0).vm) (hE : EW Z a0 EL) (hC : CHr Z EL s.vm h0 vm0 h) (hret : meth.sig.returnType = none) (hlk : meth.locks = false)
    (hd : decode c.code pc = .ok (.return_, 1)) (eT : T.heap = h) (hk : cells ≤ k) (hs : slots ≤ n) (hQ : Q none h locs) : Go p e below (KKH Z EL s Q k n) (T.setTop (mkF m pc Ls [])) := by
  subst eT; subst hs0
  obtain ⟨fs, hr, hrun, hended, hq⟩ := X.leaveW hS hk0 (v := none) (fun _ => rfl) hlk
  exact ⟨_, _, X.returnOut hx hret hd hr, hrun, hended, _, _, rfl, hQ, (show CHr Z EL s.vm s.heap T.vm T.heap from hC.trans (CHv.at X hZ hE hC.1)), hq.1, hq.2.1, hq.2.2.1, hq.2.2.2.mono hk hs⟩
/-- ldc of a String whose text the walk reads -/
theorem Go.ldcH {own text : String} {index nn : Nat} {vs : List Value} {z : Int32} (X : Stand p l e R (s.setVm vm0) m args below meth c T locs cells slots) (hx : p.tables.exec = Jvm.exec) (hZ : Z.Warmed39 (s.setVm vm0).vm) (hown : (s.setVm vm0).vm.findClass own = some m.cls) (w : (Cond.stringLink own index text).before a0 Z = true) (wS : ∀ a ∈ Bundle.stringAtoms, a.before a0 Z = true)
    (eT : T.heap = h) (hS : s.Since vm0 k0) (hk0 : k0 ≤ h.size) (hE : EW Z a0 EL) (hmem : (own, index) ∈ EL) (hC : CHr Z EL vm h0 vm0 h) (ht : (∀ c ∈ text.toList, c.toNat < 256) ∧ text.toList.map (fun c => Value.int (Jvm.Lit.byteI c.toNat.toUInt16)) = vs) (hz : ¬ z < 0) (hl0 : z.toNatClampNeg = vs.length)
    (hd : decode c.code pc = .ok (.ldc index, 2)) (hn : 4 * text.toList.length ≤ nn) (hbig : nn ≤ 536870912) (hc : cells + 2 ≤ R.cells) (hl : slots + (nn + 4) ≤ R.slots) (hp : pc + 2 = q)
    (g : ∀ (b v : Addr) (kc : ClassId) (T' : State) (h' : Heap) (k1 : Nat), Stand p l e R (s.setVm T'.vm) m args below meth c T' locs (cells + 2) (slots + (nn + 4)) → T'.heap = h' → Ext h h' → s.Since T'.vm k1 → k1 ≤ h'.size → Z.Warmed39 (s.setVm T'.vm).vm → (s.setVm T'.vm).vm.findClass own = some m.cls →
      Exa Z h' b "java/lang/String" → Fld Z h' b "java/lang/String" "coder" "B" (.int 0) → Fld Z h' b "java/lang/String" "value" "[B" (.ref v) → Arv Z h' v kc .byte z vs (.int 0) → CHr Z EL vm0 h T'.vm h' → Go p e below K (T'.setTop (mkF m q Ls (.ref b :: S)))) : Go p e below K (T.setTop (mkF m pc Ls S)) := by
  subst hp
  obtain ⟨b, T', h', k1, v, kc, X', e', E, hS', hk1, hZ', ho', Eb, Fc, Fv, Va, -, -, hR, -, -, st⟩ := Jvm.RoadKit.ldcCH X hx hZ hown w wS eT hS hk0 hE hmem hC.1 ht hz hl0 (g := mkF m pc Ls S) rfl hd hn hbig hc hl
  exact Go.by st (g b v kc T' h' k1 X' e' E hS' hk1 hZ' ho' Eb Fc Fv Va hR)
/-- ldc of a String: which object it is isn't said -/
theorem Go.ldcO {own text : String} {index nn : Nat} (X : Stand p l e R (s.setVm vm0) m args below meth c T locs cells slots) (hx : p.tables.exec = Jvm.exec) (hZ : Z.Warmed39 (s.setVm vm0).vm) (hown : (s.setVm vm0).vm.findClass own = some m.cls) (w : (Cond.stringLink own index text).before a0 Z = true) (wS : ∀ a ∈ Bundle.stringAtoms, a.before a0 Z = true)
    (eT : T.heap = h) (hS : s.Since vm0 k0) (hk0 : k0 ≤ h.size) (hE : EW Z a0 EL) (hC : CHr Z EL vm h0 vm0 h) (hd : decode c.code pc = .ok (.ldc index, 2)) (hn : 4 * text.toList.length ≤ nn) (hbig : nn ≤ 536870912) (hc : cells + 2 ≤ R.cells) (hl : slots + (nn + 4) ≤ R.slots) (hp : pc + 2 = q)
    (g : ∀ (b : Addr) (T' : State) (h' : Heap) (k1 : Nat), Stand p l e R (s.setVm T'.vm) m args below meth c T' locs (cells + 2) (slots + (nn + 4)) → T'.heap = h' → Ext h h' → s.Since T'.vm k1 → k1 ≤ h'.size → Z.Warmed39 (s.setVm T'.vm).vm → (s.setVm T'.vm).vm.findClass own = some m.cls → CHr Z EL vm0 h T'.vm h' → Go p e below K (T'.setTop (mkF m q Ls (.ref b :: S)))) : Go p e below K (T.setTop (mkF m pc Ls S)) := by
  subst hp
  obtain ⟨b, T', h', k1, X', e', E, hS', hk1, hZ', ho', hR, -, st⟩ := Jvm.RoadKit.ldcOH X hx hZ hown w wS eT hS hk0 hE hC.1 (g := mkF m pc Ls S) rfl hd hn hbig hc hl
  exact Go.by st (g b T' h' k1 X' e' E hS' hk1 hZ' ho' hR)
theorem Go.callSH {own : String} {index : Nat} {y : MethodName} {bytes : ByteArray} {maxL : Nat} {ret : Option FieldType} {rm : Room} {as' : Array Value} {argsL : List Value} (X : Stand p l e R (s.setVm vm0) m args below meth c T locs cells slots) (hx : p.tables.exec = Jvm.exec) (hZ : Z.Warmed39 (s.setVm vm0).vm) (hown : (s.setVm vm0).vm.findClass own = some m.cls) (hS : s.Since vm0 k0) (hk0 : k0 ≤ h.size) (hE : EW Z a0 EL) (hC : CHr Z EL vm h0 vm0 h)
    (w1 : (Cond.methodLink own index y).before a0 Z = true) (w2 : (Cond.static y).before a0 Z = true) (w3 : (Cond.initialized y.cls).before a0 Z = true) (w4 : (Cond.code y bytes maxL ret).before a0 Z = true)
    (hy : y.cls ≠ "java/lang/invoke/MethodHandle" ∧ y.cls ≠ "java/lang/invoke/VarHandle") {Q : Option Value → Heap → List Loc → Prop} (hM : CtrH l Z EL h y bytes maxL ret [] rm as' Q) (eT : T.heap = h) (hsz : Ls.size = c.maxLocals)
    (hd : decode c.code pc = .ok (.invokestatic index, 3)) (hlen : ∀ sig, parseMethodDescriptor y.desc = some sig → argsL.length = sig.parameters.length) (hst : S = argsL.reverse ++ rest) (has : argsL.toArray = as')
    {W : Nat} (hW : 2 * 0 + (rest.map fun v => v.category).sum ≤ W) (hf : rm.frames + 1 ≤ R.frames) (hl : W + (maxL + 11) + rm.locals ≤ R.locals) (hc : cells + rm.cells ≤ R.cells) (hs : slots + rm.slots ≤ R.slots)
    (g : ∀ (v : Option Value) (T' : State) (L : List Loc) (k1 : Nat), Stand p l e R (s.setVm T'.vm) m args below meth c T' (locs ++ L) (cells + rm.cells) (slots + rm.slots) → s.Since T'.vm k1 → k1 ≤ T'.heap.size → Z.Warmed39 (s.setVm T'.vm).vm → (s.setVm T'.vm).vm.findClass own = some m.cls → CHr Z EL vm0 h T'.vm T'.heap → Q v T'.heap L → Go p e below K (T'.setTop (mkF m (pc + 3) Ls (v.toList ++ rest)))) : Go p e below K (T.setTop (mkF m pc Ls S)) := by
  subst eT
  obtain ⟨v, _, ⟨T', L', k', n'⟩, -, X', hS', hgr, ⟨Lc, hQ, l', y', z', hR⟩, st⟩ := callSS X hx (y := y) hown (mvT hZ w1) (mvT hZ w2) (mvT hZ w3) (mvT hZ w4) hy (backOfSH (W := W) hM hZ w4 w3 hf hl hE hC.1) (g := mkF m pc Ls S) rfl hsz (argsL := argsL) (rest := rest) hlen hst hW hd (fun _ _ => ⟨has, rfl, hc, hs⟩)
  dsimp only [Pt.U, Pt.locs, Pt.cells, Pt.slots] at X' l' y' z' st hQ hS' hgr hR
  subst l' y' z'
  exact Go.on st (g v T' Lc _ X' (foldS hS hk0 hS' hgr) (Nat.le_refl _) (State.Warmed39.trans (t := s.setVm vm0) hZ hS'.1) (by rw [show (s.setVm T'.vm).vm = T'.vm from rfl, hS'.1.alike.findClass]; exact hown) hR hQ)
theorem Go.initH {own : String} {index : Nat} {y : MethodName} {bytes : ByteArray} {maxL : Nat} {rm : Room} {as' : Array Value} {argsL : List Value} (X : Stand p l e R (s.setVm vm0) m args below meth c T locs cells slots) (hx : p.tables.exec = Jvm.exec) (hZ : Z.Warmed39 (s.setVm vm0).vm) (hown : (s.setVm vm0).vm.findClass own = some m.cls) (hS : s.Since vm0 k0) (hk0 : k0 ≤ h.size) (hE : EW Z a0 EL) (hC : CHr Z EL vm h0 vm0 h) (hy1 : y.name = "<init>")
    (w1 : (Cond.methodLink own index y).before a0 Z = true) (w2 : (Cond.instanceMethod y).before a0 Z = true) (w3 : (Cond.initialized y.cls).before a0 Z = true) (w4 : (Cond.code y bytes maxL none).before a0 Z = true)
    (hy : y.cls ≠ "java/lang/invoke/MethodHandle" ∧ y.cls ≠ "java/lang/invoke/VarHandle") {Q : Option Value → Heap → List Loc → Prop} (hM : CtrH l Z EL h y bytes maxL none [] rm as' Q) (eT : T.heap = h) (hsz : Ls.size = c.maxLocals)
    (hd : decode c.code pc = .ok (.invokespecial index, 3)) (hlen : ∀ sig, parseMethodDescriptor y.desc = some sig → argsL.length = sig.parameters.length) (hst : S = argsL.reverse ++ .ref a :: rest) (has : (Value.ref a :: argsL).toArray = as')
    {W : Nat} (hW : 2 * 0 + (rest.map fun v => v.category).sum ≤ W) (hf : rm.frames + 1 ≤ R.frames) (hl : W + (maxL + 11) + rm.locals ≤ R.locals) (hc : cells + rm.cells ≤ R.cells) (hs : slots + rm.slots ≤ R.slots)
    (g : ∀ (v : Option Value) (T' : State) (L : List Loc) (k1 : Nat), Stand p l e R (s.setVm T'.vm) m args below meth c T' (locs ++ L) (cells + rm.cells) (slots + rm.slots) → s.Since T'.vm k1 → k1 ≤ T'.heap.size → Z.Warmed39 (s.setVm T'.vm).vm → (s.setVm T'.vm).vm.findClass own = some m.cls → CHr Z EL vm0 h T'.vm T'.heap → Q v T'.heap L → Go p e below K (T'.setTop (mkF m (pc + 3) Ls (v.toList ++ rest)))) : Go p e below K (T.setTop (mkF m pc Ls S)) := by
  subst eT
  obtain ⟨v, _, ⟨T', L', k', n'⟩, -, X', hS', hgr, ⟨Lc, hQ, l', y', z', hR⟩, st⟩ := X.specialBackS hx (y := y) hy1 hown (mvT hZ w1) (mvT hZ w2) (mvT hZ w4) hy (backOfSH (W := W) hM hZ w4 w3 hf hl hE hC.1) (g := mkF m pc Ls S) rfl hsz (Steps.refl _) (a := a) (argsL := argsL) (rest := rest) hlen hst hW hd (fun _ _ => ⟨has, rfl, hc, hs⟩)
  dsimp only [Pt.U, Pt.locs, Pt.cells, Pt.slots] at X' l' y' z' st hQ hS' hgr hR
  subst l' y' z'
  exact Go.on st (g v T' Lc _ X' (foldS hS hk0 hS' hgr) (Nat.le_refl _) (State.Warmed39.trans (t := s.setVm vm0) hZ hS'.1) (by rw [show (s.setVm T'.vm).vm = T'.vm from rfl, hS'.1.alike.findClass]; exact hown) hR hQ)
theorem Go.virtH {own C : String} {index : Nat} {y z : MethodName} {bytes : ByteArray} {maxL : Nat} {ret : Option FieldType} {rm : Room} {as' : Array Value} {argsL : List Value} (X : Stand p l e R (s.setVm vm0) m args below meth c T locs cells slots) (hx : p.tables.exec = Jvm.exec) (hZ : Z.Warmed39 (s.setVm vm0).vm) (hown : (s.setVm vm0).vm.findClass own = some m.cls) (hS : s.Since vm0 k0) (hk0 : k0 ≤ h.size) (hE : EW Z a0 EL) (hC : CHr Z EL vm h0 vm0 h)
    (w1 : (Cond.methodLink own index y).before a0 Z = true) (w2 : (Cond.declares y).before a0 Z = true) (hnf : NotFace (s.setVm vm0) y) (w5 : (Cond.selects C y z).before a0 Z = true) (w6 : (Cond.instanceMethod z).before a0 Z = true) (w3 : (Cond.initialized z.cls).before a0 Z = true) (w4 : (Cond.code z bytes maxL ret).before a0 Z = true)
    (hy : y.cls ≠ "java/lang/invoke/MethodHandle" ∧ y.cls ≠ "java/lang/invoke/VarHandle") {Q : Option Value → Heap → List Loc → Prop} (hM : CtrH l Z EL h z bytes maxL ret [] rm as' Q) (eT : T.heap = h) (E : Exa Z h a C) (hsz : Ls.size = c.maxLocals)
    (hd : decode c.code pc = .ok (.invokevirtual index, 3)) (hlen : ∀ sig, parseMethodDescriptor y.desc = some sig → argsL.length = sig.parameters.length) (hst : S = argsL.reverse ++ .ref a :: rest) (has : (Value.ref a :: argsL).toArray = as')
    {W : Nat} (hW : 2 * 0 + (rest.map fun v => v.category).sum ≤ W) (hf : rm.frames + 1 ≤ R.frames) (hl : W + (maxL + 11) + rm.locals ≤ R.locals) (hc : cells + rm.cells ≤ R.cells) (hs : slots + rm.slots ≤ R.slots)
    (g : ∀ (v : Option Value) (T' : State) (L : List Loc) (k1 : Nat), Stand p l e R (s.setVm T'.vm) m args below meth c T' (locs ++ L) (cells + rm.cells) (slots + rm.slots) → s.Since T'.vm k1 → k1 ≤ T'.heap.size → Z.Warmed39 (s.setVm T'.vm).vm → (s.setVm T'.vm).vm.findClass own = some m.cls → CHr Z EL vm0 h T'.vm T'.heap → Q v T'.heap L → Go p e below K (T'.setTop (mkF m (pc + 3) Ls (v.toList ++ rest)))) : Go p e below K (T.setTop (mkF m pc Ls S)) := by
  obtain ⟨cq, kq, q1, q2, q3⟩ := isOf hZ eT E
  subst eT
  obtain ⟨v, _, ⟨T', L', k', n'⟩, -, X', hS', hgr, ⟨Lc, hQ, l', y', z', hR⟩, st⟩ := X.virtualBackS hx (y := y) (z := z) hown (mvT hZ w1) (mvT hZ w2) hnf (mvT hZ w5) (mvT hZ w6) hy (backOfSH (W := W) hM hZ w4 w3 hf hl hE hC.1) q1 q3 (g := mkF m pc Ls S) rfl hsz (Steps.refl _) (argsL := argsL) (rest := rest) hlen hst hW hd (fun _ _ => ⟨has, rfl, hc, hs⟩)
  dsimp only [Pt.U, Pt.locs, Pt.cells, Pt.slots] at X' l' y' z' st hQ hS' hgr hR
  subst l' y' z'
  exact Go.on st (g v T' Lc _ X' (foldS hS hk0 hS' hgr) (Nat.le_refl _) (State.Warmed39.trans (t := s.setVm vm0) hZ hS'.1) (by rw [show (s.setVm T'.vm).vm = T'.vm from rfl, hS'.1.alike.findClass]; exact hown) hR hQ)
/-- a String whose value is null is no booked one -/
theorem own_safeNull (hal : Z.vm.Alike vm) (E : Exa Z h x "java/lang/String") (F : Fld Z h x "java/lang/String" "value" "[B" .null) : Safe Z EL vm h x := fun B => by
  obtain ⟨p, -, u, a, -, q, -, G, rfl | rfl⟩ := B
  · obtain ⟨cell, cf, kf, i, f, g1, g2, g3, g4, g5, g6, g7⟩ := F
    cases (show h[q.sa]? = some q.sC from G.ha).symm.trans g1
    obtain ⟨cS, ⟨⟨-, -, -, ⟨c1, k1, i1, f1, -⟩, -, -, -, v1, -⟩, -⟩, -⟩ := G
    obtain ⟨k3, e3, -⟩ := State.fieldFound?_setVm (s := Z) hal g2
    have e4 := (show (Wst Z vm h).fieldFound? _ _ _ = _ from e3).symm.trans f1
    simp only [Option.some.injEq, Prod.mk.injEq] at e4
    rw [← e4.2.2.2, g7] at v1
    cases v1
  · obtain ⟨cell, kE, e1, e2, e3, -, -⟩ := E
    cases (show h[q.sd]? = some q.SA from G.hd).symm.trans e1
    obtain ⟨cS, -, -, f, -⟩ := G
    have f : vm.findClass "[B" = some q.SA.cls := f
    rw [hal.findClass] at f
    obtain ⟨k1, q1, q2⟩ := Vm.findClass_spec f
    obtain ⟨k2, q3, q4⟩ := Vm.findClass_spec e2
    cases q1.symm.trans q3
    exact absurd (q2.symm.trans q4) (by decide)
end OwnHeld
end Jvm.RoadKit
namespace Jvm.Pilot.@@N@@
open Jvm Jvm.ClassFile Sem Op Lib Jvm.Free Jvm.Stand Jvm.LawKit Jvm.RoadKit Bundle Jvm.Pilot.@@N@@.Jvm.D
section
variable {Z : State} {a0 : Array Value} (hw : ∀ d ∈ tables_1, d.before a0 Z = true)
def wd0 := hw _ (List.mem_of_getElem? (i := 0) rfl)
def wd1 := hw _ (List.mem_of_getElem? (i := 1) rfl)
def wd2 := hw _ (List.mem_of_getElem? (i := 2) rfl)
def wd3 := hw _ (List.mem_of_getElem? (i := 3) rfl)
def wd4 := hw _ (List.mem_of_getElem? (i := 4) rfl)
def wd5 := hw _ (List.mem_of_getElem? (i := 5) rfl)
def wd6 := hw _ (List.mem_of_getElem? (i := 6) rfl)
def wd7 := hw _ (List.mem_of_getElem? (i := 7) rfl)
def wd8 := hw _ (List.mem_of_getElem? (i := 8) rfl)
def wd9 := hw _ (List.mem_of_getElem? (i := 9) rfl)
def wd10 := hw _ (List.mem_of_getElem? (i := 10) rfl)
def wd11 := hw _ (List.mem_of_getElem? (i := 11) rfl)
def wd12 := hw _ (List.mem_of_getElem? (i := 12) rfl)
def wd13 := hw _ (List.mem_of_getElem? (i := 13) rfl)
def wd15 := hw _ (List.mem_of_getElem? (i := 15) rfl)
def wd16 := hw _ (List.mem_of_getElem? (i := 16) rfl)
def wd17 := hw _ (List.mem_of_getElem? (i := 17) rfl)
def wd18 := hw _ (List.mem_of_getElem? (i := 18) rfl)
def wd19 := hw _ (List.mem_of_getElem? (i := 19) rfl)
def wd20 := hw _ (List.mem_of_getElem? (i := 20) rfl)
def wd21 := hw _ (List.mem_of_getElem? (i := 21) rfl)
def wd22 := hw _ (List.mem_of_getElem? (i := 22) rfl)
def wd25 := hw _ (List.mem_of_getElem? (i := 25) rfl)
def wd26 := hw _ (List.mem_of_getElem? (i := 26) rfl)
def wd27 := hw _ (List.mem_of_getElem? (i := 27) rfl)
def wd28 := hw _ (List.mem_of_getElem? (i := 28) rfl)
def wd29 := hw _ (List.mem_of_getElem? (i := 29) rfl)
def wd30 := hw _ (List.mem_of_getElem? (i := 30) rfl)
def wd31 := hw _ (List.mem_of_getElem? (i := 31) rfl)
def wd32 := hw _ (List.mem_of_getElem? (i := 32) rfl)
def wd33 := hw _ (List.mem_of_getElem? (i := 33) rfl)
def wd34 := hw _ (List.mem_of_getElem? (i := 34) rfl)
def wd35 := hw _ (List.mem_of_getElem? (i := 35) rfl)
def wd36 := hw _ (List.mem_of_getElem? (i := 36) rfl)
def wd37 := hw _ (List.mem_of_getElem? (i := 37) rfl)
def wd38 := hw _ (List.mem_of_getElem? (i := 38) rfl)
def wd39 := hw _ (List.mem_of_getElem? (i := 39) rfl)
def wd40 := hw _ (List.mem_of_getElem? (i := 40) rfl)
def wd41 := hw _ (List.mem_of_getElem? (i := 41) rfl)
def wd42 := hw _ (List.mem_of_getElem? (i := 42) rfl)
def wd43 := hw _ (List.mem_of_getElem? (i := 43) rfl)
def wd44 := hw _ (List.mem_of_getElem? (i := 44) rfl)
def wd45 := hw _ (List.mem_of_getElem? (i := 45) rfl)
def wd46 := hw _ (List.mem_of_getElem? (i := 46) rfl)
def wd47 := hw _ (List.mem_of_getElem? (i := 47) rfl)
def wd48 := hw _ (List.mem_of_getElem? (i := 48) rfl)
def wd49 := hw _ (List.mem_of_getElem? (i := 49) rfl)
def wd50 := hw _ (List.mem_of_getElem? (i := 50) rfl)
def wd51 := hw _ (List.mem_of_getElem? (i := 51) rfl)
def wd52 := hw _ (List.mem_of_getElem? (i := 52) rfl)
def wd53 := hw _ (List.mem_of_getElem? (i := 53) rfl)
def wd54 := hw _ (List.mem_of_getElem? (i := 54) rfl)
def wd55 := hw _ (List.mem_of_getElem? (i := 55) rfl)
def wd56 := hw _ (List.mem_of_getElem? (i := 56) rfl)
def wd57 := hw _ (List.mem_of_getElem? (i := 57) rfl)
def wd58 := hw _ (List.mem_of_getElem? (i := 58) rfl)
def wd59 := hw _ (List.mem_of_getElem? (i := 59) rfl)
def wd60 := hw _ (List.mem_of_getElem? (i := 60) rfl)
def wd61 := hw _ (List.mem_of_getElem? (i := 61) rfl)
def wd62 := hw _ (List.mem_of_getElem? (i := 62) rfl)
def wd63 := hw _ (List.mem_of_getElem? (i := 63) rfl)
def wd64 := hw _ (List.mem_of_getElem? (i := 64) rfl)
def wd65 := hw _ (List.mem_of_getElem? (i := 65) rfl)
def wd66 := hw _ (List.mem_of_getElem? (i := 66) rfl)
def wd67 := hw _ (List.mem_of_getElem? (i := 67) rfl)
def wd68 := hw _ (List.mem_of_getElem? (i := 68) rfl)
def wd69 := hw _ (List.mem_of_getElem? (i := 69) rfl)
def wd70 := hw _ (List.mem_of_getElem? (i := 70) rfl)
def wd71 := hw _ (List.mem_of_getElem? (i := 71) rfl)
def wd72 := hw _ (List.mem_of_getElem? (i := 72) rfl)
def wd73 := hw _ (List.mem_of_getElem? (i := 73) rfl)
def wd74 := hw _ (List.mem_of_getElem? (i := 74) rfl)
def wd75 := hw _ (List.mem_of_getElem? (i := 75) rfl)
def wd76 := hw _ (List.mem_of_getElem? (i := 76) rfl)
def wd77 := hw _ (List.mem_of_getElem? (i := 77) rfl)
def wd78 := hw _ (List.mem_of_getElem? (i := 78) rfl)
def wd79 := hw _ (List.mem_of_getElem? (i := 79) rfl)
def wd82 := hw _ (List.mem_of_getElem? (i := 82) rfl)
def wd83 := hw _ (List.mem_of_getElem? (i := 83) rfl)
def wd84 := hw _ (List.mem_of_getElem? (i := 84) rfl)
def wd85 := hw _ (List.mem_of_getElem? (i := 85) rfl)
def wd86 := hw _ (List.mem_of_getElem? (i := 86) rfl)
def wd87 := hw _ (List.mem_of_getElem? (i := 87) rfl)
def wd88 := hw _ (List.mem_of_getElem? (i := 88) rfl)
def wd89 := hw _ (List.mem_of_getElem? (i := 89) rfl)
def wd90 := hw _ (List.mem_of_getElem? (i := 90) rfl)
def wd91 := hw _ (List.mem_of_getElem? (i := 91) rfl)
def wd92 := hw _ (List.mem_of_getElem? (i := 92) rfl)
def wd93 := hw _ (List.mem_of_getElem? (i := 93) rfl)
def wd94 := hw _ (List.mem_of_getElem? (i := 94) rfl)
def wd95 := hw _ (List.mem_of_getElem? (i := 95) rfl)
def wd96 := hw _ (List.mem_of_getElem? (i := 96) rfl)
def wd97 := hw _ (List.mem_of_getElem? (i := 97) rfl)
def wd98 := hw _ (List.mem_of_getElem? (i := 98) rfl)
def wd100 := hw _ (List.mem_of_getElem? (i := 100) rfl)
def wd101 := hw _ (List.mem_of_getElem? (i := 101) rfl)
def wd102 := hw _ (List.mem_of_getElem? (i := 102) rfl)
def wd103 := hw _ (List.mem_of_getElem? (i := 103) rfl)
def wd104 := hw _ (List.mem_of_getElem? (i := 104) rfl)
def wd105 := hw _ (List.mem_of_getElem? (i := 105) rfl)
def wd106 := hw _ (List.mem_of_getElem? (i := 106) rfl)
def wd107 := hw _ (List.mem_of_getElem? (i := 107) rfl)
def wd108 := hw _ (List.mem_of_getElem? (i := 108) rfl)
def wd109 := hw _ (List.mem_of_getElem? (i := 109) rfl)
def wd110 := hw _ (List.mem_of_getElem? (i := 110) rfl)
def wd111 := hw _ (List.mem_of_getElem? (i := 111) rfl)
def wd113 := hw _ (List.mem_of_getElem? (i := 113) rfl)
def wd114 := hw _ (List.mem_of_getElem? (i := 114) rfl)
def wd115 := hw _ (List.mem_of_getElem? (i := 115) rfl)
def wd116 := hw _ (List.mem_of_getElem? (i := 116) rfl)
def wd118 := hw _ (List.mem_of_getElem? (i := 118) rfl)
def wd119 := hw _ (List.mem_of_getElem? (i := 119) rfl)
def wd120 := hw _ (List.mem_of_getElem? (i := 120) rfl)
def wd121 := hw _ (List.mem_of_getElem? (i := 121) rfl)
def wd122 := hw _ (List.mem_of_getElem? (i := 122) rfl)
def wd123 := hw _ (List.mem_of_getElem? (i := 123) rfl)
def wd124 := hw _ (List.mem_of_getElem? (i := 124) rfl)
def wd125 := hw _ (List.mem_of_getElem? (i := 125) rfl)
def wd126 := hw _ (List.mem_of_getElem? (i := 126) rfl)
def wd127 := hw _ (List.mem_of_getElem? (i := 127) rfl)
def wd128 := hw _ (List.mem_of_getElem? (i := 128) rfl)
def wd129 := hw _ (List.mem_of_getElem? (i := 129) rfl)
def wd130 := hw _ (List.mem_of_getElem? (i := 130) rfl)
def wd131 := hw _ (List.mem_of_getElem? (i := 131) rfl)
def wd132 := hw _ (List.mem_of_getElem? (i := 132) rfl)
def wd133 := hw _ (List.mem_of_getElem? (i := 133) rfl)
def wd134 := hw _ (List.mem_of_getElem? (i := 134) rfl)
def wd135 := hw _ (List.mem_of_getElem? (i := 135) rfl)
def wd137 := hw _ (List.mem_of_getElem? (i := 137) rfl)
def wd138 := hw _ (List.mem_of_getElem? (i := 138) rfl)
def wd139 := hw _ (List.mem_of_getElem? (i := 139) rfl)
def wd140 := hw _ (List.mem_of_getElem? (i := 140) rfl)
def wd141 := hw _ (List.mem_of_getElem? (i := 141) rfl)
def wd142 := hw _ (List.mem_of_getElem? (i := 142) rfl)
def wd143 := hw _ (List.mem_of_getElem? (i := 143) rfl)
def wd144 := hw _ (List.mem_of_getElem? (i := 144) rfl)
def wd145 := hw _ (List.mem_of_getElem? (i := 145) rfl)
def wd146 := hw _ (List.mem_of_getElem? (i := 146) rfl)
def wd147 := hw _ (List.mem_of_getElem? (i := 147) rfl)
def wd148 := hw _ (List.mem_of_getElem? (i := 148) rfl)
def wd149 := hw _ (List.mem_of_getElem? (i := 149) rfl)
def wd150 := hw _ (List.mem_of_getElem? (i := 150) rfl)
def wd151 := hw _ (List.mem_of_getElem? (i := 151) rfl)
def wd152 := hw _ (List.mem_of_getElem? (i := 152) rfl)
def wd153 := hw _ (List.mem_of_getElem? (i := 153) rfl)
def wd154 := hw _ (List.mem_of_getElem? (i := 154) rfl)
def wd155 := hw _ (List.mem_of_getElem? (i := 155) rfl)
def wd156 := hw _ (List.mem_of_getElem? (i := 156) rfl)
def wd157 := hw _ (List.mem_of_getElem? (i := 157) rfl)
def wd158 := hw _ (List.mem_of_getElem? (i := 158) rfl)
def wd159 := hw _ (List.mem_of_getElem? (i := 159) rfl)
def wd160 := hw _ (List.mem_of_getElem? (i := 160) rfl)
def wd161 := hw _ (List.mem_of_getElem? (i := 161) rfl)
def wd162 := hw _ (List.mem_of_getElem? (i := 162) rfl)
def wd163 := hw _ (List.mem_of_getElem? (i := 163) rfl)
def wd164 := hw _ (List.mem_of_getElem? (i := 164) rfl)
def wd165 := hw _ (List.mem_of_getElem? (i := 165) rfl)
def wd166 := hw _ (List.mem_of_getElem? (i := 166) rfl)
def wd167 := hw _ (List.mem_of_getElem? (i := 167) rfl)
def wd168 := hw _ (List.mem_of_getElem? (i := 168) rfl)
def wd169 := hw _ (List.mem_of_getElem? (i := 169) rfl)
def wd170 := hw _ (List.mem_of_getElem? (i := 170) rfl)
def wd171 := hw _ (List.mem_of_getElem? (i := 171) rfl)
def wd172 := hw _ (List.mem_of_getElem? (i := 172) rfl)
def wd173 := hw _ (List.mem_of_getElem? (i := 173) rfl)
def wd174 := hw _ (List.mem_of_getElem? (i := 174) rfl)
def wd175 := hw _ (List.mem_of_getElem? (i := 175) rfl)
def wd176 := hw _ (List.mem_of_getElem? (i := 176) rfl)
def wd177 := hw _ (List.mem_of_getElem? (i := 177) rfl)
def wd178 := hw _ (List.mem_of_getElem? (i := 178) rfl)
def wd179 := hw _ (List.mem_of_getElem? (i := 179) rfl)
def wd180 := hw _ (List.mem_of_getElem? (i := 180) rfl)
def wd181 := hw _ (List.mem_of_getElem? (i := 181) rfl)
def wd182 := hw _ (List.mem_of_getElem? (i := 182) rfl)
def wd183 := hw _ (List.mem_of_getElem? (i := 183) rfl)
def wd184 := hw _ (List.mem_of_getElem? (i := 184) rfl)
def wd185 := hw _ (List.mem_of_getElem? (i := 185) rfl)
def wd186 := hw _ (List.mem_of_getElem? (i := 186) rfl)
def wd187 := hw _ (List.mem_of_getElem? (i := 187) rfl)
def wd188 := hw _ (List.mem_of_getElem? (i := 188) rfl)
def wd189 := hw _ (List.mem_of_getElem? (i := 189) rfl)
def wd190 := hw _ (List.mem_of_getElem? (i := 190) rfl)
def wd191 := hw _ (List.mem_of_getElem? (i := 191) rfl)
def wd192 := hw _ (List.mem_of_getElem? (i := 192) rfl)
def wd193 := hw _ (List.mem_of_getElem? (i := 193) rfl)
def wd194 := hw _ (List.mem_of_getElem? (i := 194) rfl)
def wd195 := hw _ (List.mem_of_getElem? (i := 195) rfl)
def wd196 := hw _ (List.mem_of_getElem? (i := 196) rfl)
def wd197 := hw _ (List.mem_of_getElem? (i := 197) rfl)
def wd198 := hw _ (List.mem_of_getElem? (i := 198) rfl)
def wd199 := hw _ (List.mem_of_getElem? (i := 199) rfl)
def wd200 := hw _ (List.mem_of_getElem? (i := 200) rfl)
def wd201 := hw _ (List.mem_of_getElem? (i := 201) rfl)
def wd202 := hw _ (List.mem_of_getElem? (i := 202) rfl)
def wd203 := hw _ (List.mem_of_getElem? (i := 203) rfl)
def wd204 := hw _ (List.mem_of_getElem? (i := 204) rfl)
def wd205 := hw _ (List.mem_of_getElem? (i := 205) rfl)
def wd206 := hw _ (List.mem_of_getElem? (i := 206) rfl)
def wd207 := hw _ (List.mem_of_getElem? (i := 207) rfl)
def wd208 := hw _ (List.mem_of_getElem? (i := 208) rfl)
def wd209 := hw _ (List.mem_of_getElem? (i := 209) rfl)
def wd210 := hw _ (List.mem_of_getElem? (i := 210) rfl)
def wd211 := hw _ (List.mem_of_getElem? (i := 211) rfl)
def wd212 := hw _ (List.mem_of_getElem? (i := 212) rfl)
def wd213 := hw _ (List.mem_of_getElem? (i := 213) rfl)
def wd214 := hw _ (List.mem_of_getElem? (i := 214) rfl)
def wd215 := hw _ (List.mem_of_getElem? (i := 215) rfl)
def wd216 := hw _ (List.mem_of_getElem? (i := 216) rfl)
def wd217 := hw _ (List.mem_of_getElem? (i := 217) rfl)
def wd218 := hw _ (List.mem_of_getElem? (i := 218) rfl)
def wd219 := hw _ (List.mem_of_getElem? (i := 219) rfl)
def wd220 := hw _ (List.mem_of_getElem? (i := 220) rfl)
def wd221 := hw _ (List.mem_of_getElem? (i := 221) rfl)
def wd222 := hw _ (List.mem_of_getElem? (i := 222) rfl)
def wd223 := hw _ (List.mem_of_getElem? (i := 223) rfl)
def wd224 := hw _ (List.mem_of_getElem? (i := 224) rfl)
def wd225 := hw _ (List.mem_of_getElem? (i := 225) rfl)
def wd226 := hw _ (List.mem_of_getElem? (i := 226) rfl)
def wd227 := hw _ (List.mem_of_getElem? (i := 227) rfl)
def wd228 := hw _ (List.mem_of_getElem? (i := 228) rfl)
def wd229 := hw _ (List.mem_of_getElem? (i := 229) rfl)
def wd230 := hw _ (List.mem_of_getElem? (i := 230) rfl)
end
theorem own_wS {Z : State} {a0 : Array Value} (hw : ∀ d ∈ tables_1, d.before a0 Z = true) : ∀ d ∈ Bundle.stringAtoms, d.before a0 Z = true := by
  intro d hd
  simp only [Bundle.stringAtoms, List.mem_cons, List.not_mem_nil, or_false] at hd
  rcases hd with rfl | rfl | rfl | rfl | rfl | rfl | rfl
  · exact hw _ (List.mem_of_getElem? (i := 8) rfl)
  · exact hw _ (List.mem_of_getElem? (i := 7) rfl)
  · exact hw _ (List.mem_of_getElem? (i := 20) rfl)
  · exact hw _ (List.mem_of_getElem? (i := 21) rfl)
  · exact hw _ (List.mem_of_getElem? (i := 22) rfl)
  · exact hw _ (List.mem_of_getElem? (i := 23) rfl)
  · exact hw _ (List.mem_of_getElem? (i := 24) rfl)
theorem own_EW {Z : State} {a0 : Array Value} (hw : ∀ d ∈ tables_1, d.before a0 Z = true) : EW Z a0 consts_1 := (EW.cons (hw _ (List.mem_of_getElem? (i := 90) (a := (Cond.stringLink "com/example/match_before_write/matchbeforewrite/EntityTag" (32 : Nat) "W/")) rfl)) (by decide) (EW.cons (hw _ (List.mem_of_getElem? (i := 36) (a := (Cond.stringLink "com/example/match_before_write/matchbeforewrite/EntityTag" (92 : Nat) "value")) rfl)) (by decide) (EW.cons (hw _ (List.mem_of_getElem? (i := 19) (a := (Cond.stringLink "java/lang/String" (7 : Nat) "")) rfl)) (by decide) EW.nil)))
abbrev k1 := method_2_code
abbrev k2 := jdk_42_method_3_code
abbrev k3 := jdk_42_method_149_code
abbrev k4 := object_method_1_code
abbrev k5 := prog_5_method_3_code
abbrev k6 := prog_5_method_12_code
abbrev k7 := jdk_31_method_11_code
abbrev k8 := jdk_42_method_54_code
abbrev k9 := jdk_42_method_152_code
abbrev k10 := prog_5_method_1_code
abbrev k11 := prog_5_method_6_code
abbrev k12 := prog_5_method_9_code
abbrev k13 := jdk_67_method_1_code
abbrev k14 := jdk_68_method_2_code
abbrev k15 := jdk_67_method_7_code
abbrev k16 := jdk_68_method_22_code
abbrev k17 := jdk_68_method_9_code
abbrev k18 := jdk_68_method_73_code
abbrev k19 := jdk_68_method_71_code
abbrev k20 := jdk_42_method_147_code
abbrev k21 := jdk_67_method_14_code
abbrev k22 := jdk_68_method_31_code
abbrev k23 := jdk_68_method_68_code
abbrev k24 := jdk_43_method_3_code
abbrev k25 := jdk_67_method_42_code
abbrev k26 := jdk_42_method_53_code
abbrev k27 := jdk_42_method_150_code
abbrev k28 := jdk_68_method_64_code
abbrev k29 := jdk_67_method_93_code
abbrev k30 := jdk_68_method_6_code
abbrev k31 := jdk_65_method_132_code
abbrev k32 := jdk_65_method_133_code
abbrev k33 := jdk_65_method_131_code
abbrev k34 := jdk_29_method_69_code
abbrev k35 := prog_5_method_5_code
abbrev k36 := jdk_42_method_66_code
abbrev k37 := jdk_42_method_56_code
abbrev k38 := jdk_42_method_154_code
abbrev k39 := jdk_43_method_2_code
abbrev k40 := jdk_42_method_155_code
abbrev k41 := jdk_41_method_11_code
abbrev k42 := jdk_52_method_16_code
abbrev k43 := jdk_52_method_21_code
abbrev k44 := jdk_52_method_15_code
theorem d1_0 : decode k1 0 = .ok (.iload_n 0, 1) := by decide +kernel
theorem d1_1 : decode k1 1 = .ok (.ldc 7, 2) := by decide +kernel
theorem d1_3 : decode k1 3 = .ok (.iand, 1) := by decide +kernel
theorem d1_4 : decode k1 4 = .ok (.sipush 221, 3) := by decide +kernel
theorem d1_7 : decode k1 7 = .ok (.irem, 1) := by decide +kernel
theorem d1_8 : decode k1 8 = .ok (.istore_n 1, 1) := by decide +kernel
theorem d1_9 : decode k1 9 = .ok (.iload_n 1, 1) := by decide +kernel
theorem d1_10 : decode k1 10 = .ok (.ifCond .ne 6, 3) := by decide +kernel
theorem d1_13 : decode k1 13 = .ok (.bipush 33, 2) := by decide +kernel
theorem d1_15 : decode k1 15 = .ok (.ireturn, 1) := by decide +kernel
theorem d1_16 : decode k1 16 = .ok (.iload_n 1, 1) := by decide +kernel
theorem d1_17 : decode k1 17 = .ok (.bipush 92, 2) := by decide +kernel
theorem d1_19 : decode k1 19 = .ok (.if_icmp .gt 9, 3) := by decide +kernel
theorem d1_22 : decode k1 22 = .ok (.bipush 34, 2) := by decide +kernel
theorem d1_24 : decode k1 24 = .ok (.iload_n 1, 1) := by decide +kernel
theorem d1_25 : decode k1 25 = .ok (.iadd, 1) := by decide +kernel
theorem d1_26 : decode k1 26 = .ok (.i2c, 1) := by decide +kernel
theorem d1_27 : decode k1 27 = .ok (.ireturn, 1) := by decide +kernel
theorem d1_28 : decode k1 28 = .ok (.sipush 128, 3) := by decide +kernel
theorem d1_31 : decode k1 31 = .ok (.iload_n 1, 1) := by decide +kernel
theorem d1_32 : decode k1 32 = .ok (.bipush 93, 2) := by decide +kernel
theorem d1_34 : decode k1 34 = .ok (.isub, 1) := by decide +kernel
theorem d1_35 : decode k1 35 = .ok (.iadd, 1) := by decide +kernel
theorem d1_36 : decode k1 36 = .ok (.i2c, 1) := by decide +kernel
theorem d1_37 : decode k1 37 = .ok (.ireturn, 1) := by decide +kernel
theorem d2_0 : decode k2 0 = .ok (.aload_n 0, 1) := by decide +kernel
theorem d2_1 : decode k2 1 = .ok (.aload_n 1, 1) := by decide +kernel
theorem d2_2 : decode k2 2 = .ok (.iconst 0, 1) := by decide +kernel
theorem d2_3 : decode k2 3 = .ok (.aload_n 1, 1) := by decide +kernel
theorem d2_4 : decode k2 4 = .ok (.arraylength, 1) := by decide +kernel
theorem d2_5 : decode k2 5 = .ok (.aconst_null, 1) := by decide +kernel
theorem d2_6 : decode k2 6 = .ok (.invokespecial 27, 3) := by decide +kernel
theorem d2_9 : decode k2 9 = .ok (.return_, 1) := by decide +kernel
theorem d3_0 : decode k3 0 = .ok (.aload_n 0, 1) := by decide +kernel
theorem d3_1 : decode k3 1 = .ok (.invokespecial 1, 3) := by decide +kernel
theorem d3_4 : decode k3 4 = .ok (.iload_n 3, 1) := by decide +kernel
theorem d3_5 : decode k3 5 = .ok (.ifCond .ne 22, 3) := by decide +kernel
theorem d3_8 : decode k3 8 = .ok (.aload_n 0, 1) := by decide +kernel
theorem d3_9 : decode k3 9 = .ok (.ldc 7, 2) := by decide +kernel
theorem d3_11 : decode k3 11 = .ok (.getfield 9, 3) := by decide +kernel
theorem d3_14 : decode k3 14 = .ok (.putfield 9, 3) := by decide +kernel
theorem d3_17 : decode k3 17 = .ok (.aload_n 0, 1) := by decide +kernel
theorem d3_18 : decode k3 18 = .ok (.ldc 7, 2) := by decide +kernel
theorem d3_20 : decode k3 20 = .ok (.getfield 15, 3) := by decide +kernel
theorem d3_23 : decode k3 23 = .ok (.putfield 15, 3) := by decide +kernel
theorem d3_26 : decode k3 26 = .ok (.return_, 1) := by decide +kernel
theorem d3_27 : decode k3 27 = .ok (.getstatic 38, 3) := by decide +kernel
theorem d3_30 : decode k3 30 = .ok (.ifCond .eq 28, 3) := by decide +kernel
theorem d3_33 : decode k3 33 = .ok (.aload_n 1, 1) := by decide +kernel
theorem d3_34 : decode k3 34 = .ok (.iload_n 2, 1) := by decide +kernel
theorem d3_35 : decode k3 35 = .ok (.iload_n 3, 1) := by decide +kernel
theorem d3_36 : decode k3 36 = .ok (.invokestatic 177, 3) := by decide +kernel
theorem d3_39 : decode k3 39 = .ok (.astore 5, 2) := by decide +kernel
theorem d3_41 : decode k3 41 = .ok (.aload_n 0, 1) := by decide +kernel
theorem d3_42 : decode k3 42 = .ok (.aload 5, 2) := by decide +kernel
theorem d3_44 : decode k3 44 = .ok (.iload_n 3, 1) := by decide +kernel
theorem d3_45 : decode k3 45 = .ok (.invokestatic 47, 3) := by decide +kernel
theorem d3_48 : decode k3 48 = .ok (.putfield 15, 3) := by decide +kernel
theorem d3_51 : decode k3 51 = .ok (.aload_n 0, 1) := by decide +kernel
theorem d3_52 : decode k3 52 = .ok (.aload 5, 2) := by decide +kernel
theorem d3_54 : decode k3 54 = .ok (.putfield 9, 3) := by decide +kernel
theorem d3_57 : decode k3 57 = .ok (.return_, 1) := by decide +kernel
theorem d5_0 : decode k5 0 = .ok (.new 8, 3) := by decide +kernel
theorem d5_3 : decode k5 3 = .ok (.dup, 1) := by decide +kernel
theorem d5_4 : decode k5 4 = .ok (.iconst 1, 1) := by decide +kernel
theorem d5_5 : decode k5 5 = .ok (.aload_n 0, 1) := by decide +kernel
theorem d5_6 : decode k5 6 = .ok (.iconst 0, 1) := by decide +kernel
theorem d5_7 : decode k5 7 = .ok (.invokestatic 17, 3) := by decide +kernel
theorem d5_10 : decode k5 10 = .ok (.invokespecial 21, 3) := by decide +kernel
theorem d5_13 : decode k5 13 = .ok (.areturn, 1) := by decide +kernel
theorem d6_0 : decode k6 0 = .ok (.aload_n 0, 1) := by decide +kernel
theorem d6_1 : decode k6 1 = .ok (.ldc 92, 2) := by decide +kernel
theorem d6_3 : decode k6 3 = .ok (.invokestatic 26, 3) := by decide +kernel
theorem d6_6 : decode k6 6 = .ok (.pop, 1) := by decide +kernel
theorem d6_7 : decode k6 7 = .ok (.iconst 0, 1) := by decide +kernel
theorem d6_8 : decode k6 8 = .ok (.istore_n 2, 1) := by decide +kernel
theorem d6_9 : decode k6 9 = .ok (.iload_n 2, 1) := by decide +kernel
theorem d6_10 : decode k6 10 = .ok (.aload_n 0, 1) := by decide +kernel
theorem d6_11 : decode k6 11 = .ok (.invokevirtual 40, 3) := by decide +kernel
theorem d6_14 : decode k6 14 = .ok (.if_icmp .ge 119, 3) := by decide +kernel
theorem d6_17 : decode k6 17 = .ok (.aload_n 0, 1) := by decide +kernel
theorem d6_18 : decode k6 18 = .ok (.iload_n 2, 1) := by decide +kernel
theorem d6_19 : decode k6 19 = .ok (.invokevirtual 44, 3) := by decide +kernel
theorem d6_22 : decode k6 22 = .ok (.istore_n 3, 1) := by decide +kernel
theorem d6_23 : decode k6 23 = .ok (.iload_n 3, 1) := by decide +kernel
theorem d6_24 : decode k6 24 = .ok (.bipush 33, 2) := by decide +kernel
theorem d6_26 : decode k6 26 = .ok (.if_icmp .eq 29, 3) := by decide +kernel
theorem d6_29 : decode k6 29 = .ok (.iload_n 3, 1) := by decide +kernel
theorem d6_30 : decode k6 30 = .ok (.bipush 35, 2) := by decide +kernel
theorem d6_32 : decode k6 32 = .ok (.if_icmp .lt 9, 3) := by decide +kernel
theorem d6_35 : decode k6 35 = .ok (.iload_n 3, 1) := by decide +kernel
theorem d6_36 : decode k6 36 = .ok (.bipush 126, 2) := by decide +kernel
theorem d6_38 : decode k6 38 = .ok (.if_icmp .le 17, 3) := by decide +kernel
theorem d6_41 : decode k6 41 = .ok (.iload_n 3, 1) := by decide +kernel
theorem d6_42 : decode k6 42 = .ok (.sipush 128, 3) := by decide +kernel
theorem d6_45 : decode k6 45 = .ok (.if_icmp .lt 14, 3) := by decide +kernel
theorem d6_48 : decode k6 48 = .ok (.iload_n 3, 1) := by decide +kernel
theorem d6_49 : decode k6 49 = .ok (.sipush 255, 3) := by decide +kernel
theorem d6_52 : decode k6 52 = .ok (.if_icmp .gt 7, 3) := by decide +kernel
theorem d6_55 : decode k6 55 = .ok (.iconst 1, 1) := by decide +kernel
theorem d6_56 : decode k6 56 = .ok (.goto 4, 3) := by decide +kernel
theorem d6_59 : decode k6 59 = .ok (.iconst 0, 1) := by decide +kernel
theorem d6_60 : decode k6 60 = .ok (.istore 4, 2) := by decide +kernel
theorem d6_62 : decode k6 62 = .ok (.iload 4, 2) := by decide +kernel
theorem d6_64 : decode k6 64 = .ok (.ifCond .ne 63, 3) := by decide +kernel
theorem d6_127 : decode k6 127 = .ok (.iinc 2 1, 3) := by decide +kernel
theorem d6_130 : decode k6 130 = .ok (.goto (-121), 3) := by decide +kernel
theorem d6_133 : decode k6 133 = .ok (.aload_n 0, 1) := by decide +kernel
theorem d6_134 : decode k6 134 = .ok (.areturn, 1) := by decide +kernel
theorem d7_0 : decode k7 0 = .ok (.aload_n 0, 1) := by decide +kernel
theorem d7_1 : decode k7 1 = .ok (.ifnonnull 12, 3) := by decide +kernel
theorem d7_13 : decode k7 13 = .ok (.aload_n 0, 1) := by decide +kernel
theorem d7_14 : decode k7 14 = .ok (.areturn, 1) := by decide +kernel
theorem d8_0 : decode k8 0 = .ok (.aload_n 0, 1) := by decide +kernel
theorem d8_1 : decode k8 1 = .ok (.getfield 9, 3) := by decide +kernel
theorem d8_4 : decode k8 4 = .ok (.arraylength, 1) := by decide +kernel
theorem d8_5 : decode k8 5 = .ok (.aload_n 0, 1) := by decide +kernel
theorem d8_6 : decode k8 6 = .ok (.invokevirtual 335, 3) := by decide +kernel
theorem d8_9 : decode k8 9 = .ok (.ishr, 1) := by decide +kernel
theorem d8_10 : decode k8 10 = .ok (.ireturn, 1) := by decide +kernel
theorem d9_0 : decode k9 0 = .ok (.getstatic 38, 3) := by decide +kernel
theorem d9_3 : decode k9 3 = .ok (.ifCond .eq 10, 3) := by decide +kernel
theorem d9_6 : decode k9 6 = .ok (.aload_n 0, 1) := by decide +kernel
theorem d9_7 : decode k9 7 = .ok (.getfield 15, 3) := by decide +kernel
theorem d9_10 : decode k9 10 = .ok (.goto 4, 3) := by decide +kernel
theorem d9_14 : decode k9 14 = .ok (.ireturn, 1) := by decide +kernel
theorem d10_0 : decode k10 0 = .ok (.aload_n 0, 1) := by decide +kernel
theorem d10_1 : decode k10 1 = .ok (.invokespecial 1, 3) := by decide +kernel
theorem d10_4 : decode k10 4 = .ok (.aload_n 0, 1) := by decide +kernel
theorem d10_5 : decode k10 5 = .ok (.iload_n 1, 1) := by decide +kernel
theorem d10_6 : decode k10 6 = .ok (.putfield 7, 3) := by decide +kernel
theorem d10_9 : decode k10 9 = .ok (.aload_n 0, 1) := by decide +kernel
theorem d10_10 : decode k10 10 = .ok (.aload_n 2, 1) := by decide +kernel
theorem d10_11 : decode k10 11 = .ok (.putfield 13, 3) := by decide +kernel
theorem d10_14 : decode k10 14 = .ok (.return_, 1) := by decide +kernel
theorem d11_0 : decode k11 0 = .ok (.aload_n 0, 1) := by decide +kernel
theorem d11_1 : decode k11 1 = .ok (.getfield 13, 3) := by decide +kernel
theorem d11_4 : decode k11 4 = .ok (.areturn, 1) := by decide +kernel
theorem d12_0 : decode k12 0 = .ok (.aload_n 0, 1) := by decide +kernel
theorem d12_1 : decode k12 1 = .ok (.getfield 65, 3) := by decide +kernel
theorem d12_4 : decode k12 4 = .ok (.astore_n 1, 1) := by decide +kernel
theorem d12_5 : decode k12 5 = .ok (.aload_n 1, 1) := by decide +kernel
theorem d12_6 : decode k12 6 = .ok (.ifnonnull 53, 3) := by decide +kernel
theorem d12_9 : decode k12 9 = .ok (.new 68, 3) := by decide +kernel
theorem d12_12 : decode k12 12 = .ok (.dup, 1) := by decide +kernel
theorem d12_13 : decode k12 13 = .ok (.invokespecial 70, 3) := by decide +kernel
theorem d12_16 : decode k12 16 = .ok (.aload_n 0, 1) := by decide +kernel
theorem d12_17 : decode k12 17 = .ok (.getfield 7, 3) := by decide +kernel
theorem d12_20 : decode k12 20 = .ok (.ifCond .eq 8, 3) := by decide +kernel
theorem d12_23 : decode k12 23 = .ok (.ldc 32, 2) := by decide +kernel
theorem d12_25 : decode k12 25 = .ok (.goto 5, 3) := by decide +kernel
theorem d12_30 : decode k12 30 = .ok (.invokevirtual 73, 3) := by decide +kernel
theorem d12_33 : decode k12 33 = .ok (.bipush 34, 2) := by decide +kernel
theorem d12_35 : decode k12 35 = .ok (.invokevirtual 77, 3) := by decide +kernel
theorem d12_38 : decode k12 38 = .ok (.aload_n 0, 1) := by decide +kernel
theorem d12_39 : decode k12 39 = .ok (.getfield 13, 3) := by decide +kernel
theorem d12_42 : decode k12 42 = .ok (.invokevirtual 73, 3) := by decide +kernel
theorem d12_45 : decode k12 45 = .ok (.bipush 34, 2) := by decide +kernel
theorem d12_47 : decode k12 47 = .ok (.invokevirtual 77, 3) := by decide +kernel
theorem d12_50 : decode k12 50 = .ok (.invokevirtual 80, 3) := by decide +kernel
theorem d12_53 : decode k12 53 = .ok (.astore_n 1, 1) := by decide +kernel
theorem d12_54 : decode k12 54 = .ok (.aload_n 0, 1) := by decide +kernel
theorem d12_55 : decode k12 55 = .ok (.aload_n 1, 1) := by decide +kernel
theorem d12_56 : decode k12 56 = .ok (.putfield 65, 3) := by decide +kernel
theorem d12_59 : decode k12 59 = .ok (.aload_n 1, 1) := by decide +kernel
theorem d12_60 : decode k12 60 = .ok (.areturn, 1) := by decide +kernel
theorem d13_0 : decode k13 0 = .ok (.aload_n 0, 1) := by decide +kernel
theorem d13_1 : decode k13 1 = .ok (.bipush 16, 2) := by decide +kernel
theorem d13_3 : decode k13 3 = .ok (.invokespecial 1, 3) := by decide +kernel
theorem d13_6 : decode k13 6 = .ok (.return_, 1) := by decide +kernel
theorem d14_0 : decode k14 0 = .ok (.aload_n 0, 1) := by decide +kernel
theorem d14_1 : decode k14 1 = .ok (.invokespecial 3, 3) := by decide +kernel
theorem d14_4 : decode k14 4 = .ok (.getstatic 18, 3) := by decide +kernel
theorem d14_7 : decode k14 7 = .ok (.ifCond .eq 18, 3) := by decide +kernel
theorem d14_10 : decode k14 10 = .ok (.aload_n 0, 1) := by decide +kernel
theorem d14_11 : decode k14 11 = .ok (.iload_n 1, 1) := by decide +kernel
theorem d14_12 : decode k14 12 = .ok (.newarray .byte, 2) := by decide +kernel
theorem d14_14 : decode k14 14 = .ok (.putfield 15, 3) := by decide +kernel
theorem d14_17 : decode k14 17 = .ok (.aload_n 0, 1) := by decide +kernel
theorem d14_18 : decode k14 18 = .ok (.iconst 0, 1) := by decide +kernel
theorem d14_19 : decode k14 19 = .ok (.putfield 22, 3) := by decide +kernel
theorem d14_22 : decode k14 22 = .ok (.goto 16, 3) := by decide +kernel
theorem d14_38 : decode k14 38 = .ok (.return_, 1) := by decide +kernel
theorem d15_0 : decode k15 0 = .ok (.aload_n 0, 1) := by decide +kernel
theorem d15_1 : decode k15 1 = .ok (.aload_n 1, 1) := by decide +kernel
theorem d15_2 : decode k15 2 = .ok (.invokespecial 29, 3) := by decide +kernel
theorem d15_5 : decode k15 5 = .ok (.pop, 1) := by decide +kernel
theorem d15_6 : decode k15 6 = .ok (.aload_n 0, 1) := by decide +kernel
theorem d15_7 : decode k15 7 = .ok (.areturn, 1) := by decide +kernel
theorem d16_0 : decode k16 0 = .ok (.aload_n 1, 1) := by decide +kernel
theorem d16_1 : decode k16 1 = .ok (.ifnonnull 8, 3) := by decide +kernel
theorem d16_9 : decode k16 9 = .ok (.aload_n 1, 1) := by decide +kernel
theorem d16_10 : decode k16 10 = .ok (.invokevirtual 32, 3) := by decide +kernel
theorem d16_13 : decode k16 13 = .ok (.istore_n 2, 1) := by decide +kernel
theorem d16_14 : decode k16 14 = .ok (.aload_n 0, 1) := by decide +kernel
theorem d16_15 : decode k16 15 = .ok (.aload_n 0, 1) := by decide +kernel
theorem d16_16 : decode k16 16 = .ok (.getfield 79, 3) := by decide +kernel
theorem d16_19 : decode k16 19 = .ok (.iload_n 2, 1) := by decide +kernel
theorem d16_20 : decode k16 20 = .ok (.iadd, 1) := by decide +kernel
theorem d16_21 : decode k16 21 = .ok (.invokevirtual 100, 3) := by decide +kernel
theorem d16_24 : decode k16 24 = .ok (.aload_n 0, 1) := by decide +kernel
theorem d16_25 : decode k16 25 = .ok (.aload_n 0, 1) := by decide +kernel
theorem d16_26 : decode k16 26 = .ok (.getfield 79, 3) := by decide +kernel
theorem d16_29 : decode k16 29 = .ok (.aload_n 1, 1) := by decide +kernel
theorem d16_30 : decode k16 30 = .ok (.invokevirtual 208, 3) := by decide +kernel
theorem d16_33 : decode k16 33 = .ok (.aload_n 0, 1) := by decide +kernel
theorem d16_34 : decode k16 34 = .ok (.dup, 1) := by decide +kernel
theorem d16_35 : decode k16 35 = .ok (.getfield 79, 3) := by decide +kernel
theorem d16_38 : decode k16 38 = .ok (.iload_n 2, 1) := by decide +kernel
theorem d16_39 : decode k16 39 = .ok (.iadd, 1) := by decide +kernel
theorem d16_40 : decode k16 40 = .ok (.putfield 79, 3) := by decide +kernel
theorem d16_43 : decode k16 43 = .ok (.aload_n 0, 1) := by decide +kernel
theorem d16_44 : decode k16 44 = .ok (.areturn, 1) := by decide +kernel
theorem d17_0 : decode k17 0 = .ok (.aload_n 0, 1) := by decide +kernel
theorem d17_1 : decode k17 1 = .ok (.getfield 15, 3) := by decide +kernel
theorem d17_4 : decode k17 4 = .ok (.arraylength, 1) := by decide +kernel
theorem d17_5 : decode k17 5 = .ok (.aload_n 0, 1) := by decide +kernel
theorem d17_6 : decode k17 6 = .ok (.getfield 22, 3) := by decide +kernel
theorem d17_9 : decode k17 9 = .ok (.ishr, 1) := by decide +kernel
theorem d17_10 : decode k17 10 = .ok (.istore_n 2, 1) := by decide +kernel
theorem d17_11 : decode k17 11 = .ok (.iload_n 1, 1) := by decide +kernel
theorem d17_12 : decode k17 12 = .ok (.iload_n 2, 1) := by decide +kernel
theorem d17_13 : decode k17 13 = .ok (.isub, 1) := by decide +kernel
theorem d17_14 : decode k17 14 = .ok (.ifCond .le 24, 3) := by decide +kernel
theorem d17_38 : decode k17 38 = .ok (.return_, 1) := by decide +kernel
theorem d18_0 : decode k18 0 = .ok (.aload_n 0, 1) := by decide +kernel
theorem d18_1 : decode k18 1 = .ok (.aload_n 2, 1) := by decide +kernel
theorem d18_2 : decode k18 2 = .ok (.invokevirtual 397, 3) := by decide +kernel
theorem d18_5 : decode k18 5 = .ok (.aload_n 2, 1) := by decide +kernel
theorem d18_6 : decode k18 6 = .ok (.aload_n 0, 1) := by decide +kernel
theorem d18_7 : decode k18 7 = .ok (.getfield 15, 3) := by decide +kernel
theorem d18_10 : decode k18 10 = .ok (.iload_n 1, 1) := by decide +kernel
theorem d18_11 : decode k18 11 = .ok (.aload_n 0, 1) := by decide +kernel
theorem d18_12 : decode k18 12 = .ok (.getfield 22, 3) := by decide +kernel
theorem d18_15 : decode k18 15 = .ok (.invokevirtual 399, 3) := by decide +kernel
theorem d18_18 : decode k18 18 = .ok (.return_, 1) := by decide +kernel
theorem d19_0 : decode k19 0 = .ok (.getstatic 18, 3) := by decide +kernel
theorem d19_3 : decode k19 3 = .ok (.ifCond .eq 18, 3) := by decide +kernel
theorem d19_6 : decode k19 6 = .ok (.aload_n 0, 1) := by decide +kernel
theorem d19_7 : decode k19 7 = .ok (.getfield 22, 3) := by decide +kernel
theorem d19_10 : decode k19 10 = .ok (.aload_n 1, 1) := by decide +kernel
theorem d19_11 : decode k19 11 = .ok (.invokevirtual 40, 3) := by decide +kernel
theorem d19_14 : decode k19 14 = .ok (.if_icmp .eq 7, 3) := by decide +kernel
theorem d19_21 : decode k19 21 = .ok (.return_, 1) := by decide +kernel
theorem d20_0 : decode k20 0 = .ok (.aload_n 0, 1) := by decide +kernel
theorem d20_1 : decode k20 1 = .ok (.invokevirtual 335, 3) := by decide +kernel
theorem d20_4 : decode k20 4 = .ok (.iload_n 3, 1) := by decide +kernel
theorem d20_5 : decode k20 5 = .ok (.if_icmp .ne 23, 3) := by decide +kernel
theorem d20_8 : decode k20 8 = .ok (.aload_n 0, 1) := by decide +kernel
theorem d20_9 : decode k20 9 = .ok (.getfield 9, 3) := by decide +kernel
theorem d20_12 : decode k20 12 = .ok (.iconst 0, 1) := by decide +kernel
theorem d20_13 : decode k20 13 = .ok (.aload_n 1, 1) := by decide +kernel
theorem d20_14 : decode k20 14 = .ok (.iload_n 2, 1) := by decide +kernel
theorem d20_15 : decode k20 15 = .ok (.iload_n 3, 1) := by decide +kernel
theorem d20_16 : decode k20 16 = .ok (.ishl, 1) := by decide +kernel
theorem d20_17 : decode k20 17 = .ok (.aload_n 0, 1) := by decide +kernel
theorem d20_18 : decode k20 18 = .ok (.getfield 9, 3) := by decide +kernel
theorem d20_21 : decode k20 21 = .ok (.arraylength, 1) := by decide +kernel
theorem d20_22 : decode k20 22 = .ok (.invokestatic 212, 3) := by decide +kernel
theorem d20_25 : decode k20 25 = .ok (.goto 18, 3) := by decide +kernel
theorem d20_43 : decode k20 43 = .ok (.return_, 1) := by decide +kernel
theorem d21_0 : decode k21 0 = .ok (.aload_n 0, 1) := by decide +kernel
theorem d21_1 : decode k21 1 = .ok (.iload_n 1, 1) := by decide +kernel
theorem d21_2 : decode k21 2 = .ok (.invokespecial 50, 3) := by decide +kernel
theorem d21_5 : decode k21 5 = .ok (.pop, 1) := by decide +kernel
theorem d21_6 : decode k21 6 = .ok (.aload_n 0, 1) := by decide +kernel
theorem d21_7 : decode k21 7 = .ok (.areturn, 1) := by decide +kernel
theorem d22_0 : decode k22 0 = .ok (.aload_n 0, 1) := by decide +kernel
theorem d22_1 : decode k22 1 = .ok (.aload_n 0, 1) := by decide +kernel
theorem d22_2 : decode k22 2 = .ok (.getfield 79, 3) := by decide +kernel
theorem d22_5 : decode k22 5 = .ok (.iconst 1, 1) := by decide +kernel
theorem d22_6 : decode k22 6 = .ok (.iadd, 1) := by decide +kernel
theorem d22_7 : decode k22 7 = .ok (.invokevirtual 100, 3) := by decide +kernel
theorem d22_10 : decode k22 10 = .ok (.aload_n 0, 1) := by decide +kernel
theorem d22_11 : decode k22 11 = .ok (.invokevirtual 83, 3) := by decide +kernel
theorem d22_14 : decode k22 14 = .ok (.ifCond .eq 31, 3) := by decide +kernel
theorem d22_17 : decode k22 17 = .ok (.iload_n 1, 1) := by decide +kernel
theorem d22_18 : decode k22 18 = .ok (.invokestatic 191, 3) := by decide +kernel
theorem d22_21 : decode k22 21 = .ok (.ifCond .eq 24, 3) := by decide +kernel
theorem d22_24 : decode k22 24 = .ok (.aload_n 0, 1) := by decide +kernel
theorem d22_25 : decode k22 25 = .ok (.getfield 15, 3) := by decide +kernel
theorem d22_28 : decode k22 28 = .ok (.aload_n 0, 1) := by decide +kernel
theorem d22_29 : decode k22 29 = .ok (.dup, 1) := by decide +kernel
theorem d22_30 : decode k22 30 = .ok (.getfield 79, 3) := by decide +kernel
theorem d22_33 : decode k22 33 = .ok (.dup_x1, 1) := by decide +kernel
theorem d22_34 : decode k22 34 = .ok (.iconst 1, 1) := by decide +kernel
theorem d22_35 : decode k22 35 = .ok (.iadd, 1) := by decide +kernel
theorem d22_36 : decode k22 36 = .ok (.putfield 79, 3) := by decide +kernel
theorem d22_39 : decode k22 39 = .ok (.iload_n 1, 1) := by decide +kernel
theorem d22_40 : decode k22 40 = .ok (.i2b, 1) := by decide +kernel
theorem d22_41 : decode k22 41 = .ok (.bastore, 1) := by decide +kernel
theorem d22_42 : decode k22 42 = .ok (.goto 33, 3) := by decide +kernel
theorem d22_75 : decode k22 75 = .ok (.aload_n 0, 1) := by decide +kernel
theorem d22_76 : decode k22 76 = .ok (.areturn, 1) := by decide +kernel
theorem d23_0 : decode k23 0 = .ok (.getstatic 18, 3) := by decide +kernel
theorem d23_3 : decode k23 3 = .ok (.ifCond .eq 14, 3) := by decide +kernel
theorem d23_6 : decode k23 6 = .ok (.aload_n 0, 1) := by decide +kernel
theorem d23_7 : decode k23 7 = .ok (.getfield 22, 3) := by decide +kernel
theorem d23_10 : decode k23 10 = .ok (.ifCond .ne 7, 3) := by decide +kernel
theorem d23_13 : decode k23 13 = .ok (.iconst 1, 1) := by decide +kernel
theorem d23_14 : decode k23 14 = .ok (.goto 4, 3) := by decide +kernel
theorem d23_18 : decode k23 18 = .ok (.ireturn, 1) := by decide +kernel
theorem d24_0 : decode k24 0 = .ok (.iload_n 0, 1) := by decide +kernel
theorem d24_1 : decode k24 1 = .ok (.sipush 255, 3) := by decide +kernel
theorem d24_4 : decode k24 4 = .ok (.if_icmp .gt 7, 3) := by decide +kernel
theorem d24_7 : decode k24 7 = .ok (.iconst 1, 1) := by decide +kernel
theorem d24_8 : decode k24 8 = .ok (.goto 4, 3) := by decide +kernel
theorem d24_12 : decode k24 12 = .ok (.ireturn, 1) := by decide +kernel
theorem d25_0 : decode k25 0 = .ok (.new 18, 3) := by decide +kernel
theorem d25_3 : decode k25 3 = .ok (.dup, 1) := by decide +kernel
theorem d25_4 : decode k25 4 = .ok (.aload_n 0, 1) := by decide +kernel
theorem d25_5 : decode k25 5 = .ok (.invokespecial 137, 3) := by decide +kernel
theorem d25_8 : decode k25 8 = .ok (.areturn, 1) := by decide +kernel
theorem d26_0 : decode k26 0 = .ok (.aload_n 0, 1) := by decide +kernel
theorem d26_1 : decode k26 1 = .ok (.aload_n 1, 1) := by decide +kernel
theorem d26_2 : decode k26 2 = .ok (.aconst_null, 1) := by decide +kernel
theorem d26_3 : decode k26 3 = .ok (.invokespecial 489, 3) := by decide +kernel
theorem d26_6 : decode k26 6 = .ok (.return_, 1) := by decide +kernel
theorem d27_0 : decode k27 0 = .ok (.aload_n 0, 1) := by decide +kernel
theorem d27_1 : decode k27 1 = .ok (.invokespecial 1, 3) := by decide +kernel
theorem d27_4 : decode k27 4 = .ok (.aload_n 1, 1) := by decide +kernel
theorem d27_5 : decode k27 5 = .ok (.invokevirtual 552, 3) := by decide +kernel
theorem d27_8 : decode k27 8 = .ok (.astore_n 3, 1) := by decide +kernel
theorem d27_9 : decode k27 9 = .ok (.aload_n 1, 1) := by decide +kernel
theorem d27_10 : decode k27 10 = .ok (.invokevirtual 549, 3) := by decide +kernel
theorem d27_13 : decode k27 13 = .ok (.istore 4, 2) := by decide +kernel
theorem d27_15 : decode k27 15 = .ok (.aload_n 1, 1) := by decide +kernel
theorem d27_16 : decode k27 16 = .ok (.invokevirtual 1047, 3) := by decide +kernel
theorem d27_19 : decode k27 19 = .ok (.ifCond .eq 22, 3) := by decide +kernel
theorem d27_22 : decode k27 22 = .ok (.aload_n 0, 1) := by decide +kernel
theorem d27_23 : decode k27 23 = .ok (.iconst 0, 1) := by decide +kernel
theorem d27_24 : decode k27 24 = .ok (.putfield 15, 3) := by decide +kernel
theorem d27_27 : decode k27 27 = .ok (.aload_n 0, 1) := by decide +kernel
theorem d27_28 : decode k27 28 = .ok (.aload_n 3, 1) := by decide +kernel
theorem d27_29 : decode k27 29 = .ok (.iconst 0, 1) := by decide +kernel
theorem d27_30 : decode k27 30 = .ok (.iload 4, 2) := by decide +kernel
theorem d27_32 : decode k27 32 = .ok (.invokestatic 54, 3) := by decide +kernel
theorem d27_35 : decode k27 35 = .ok (.putfield 9, 3) := by decide +kernel
theorem d27_38 : decode k27 38 = .ok (.goto 59, 3) := by decide +kernel
theorem d27_97 : decode k27 97 = .ok (.return_, 1) := by decide +kernel
theorem d28_0 : decode k28 0 = .ok (.aload_n 0, 1) := by decide +kernel
theorem d28_1 : decode k28 1 = .ok (.getfield 15, 3) := by decide +kernel
theorem d28_4 : decode k28 4 = .ok (.areturn, 1) := by decide +kernel
theorem d29_0 : decode k29 0 = .ok (.aload_n 0, 1) := by decide +kernel
theorem d29_1 : decode k29 1 = .ok (.invokespecial 343, 3) := by decide +kernel
theorem d29_4 : decode k29 4 = .ok (.ireturn, 1) := by decide +kernel
theorem d30_0 : decode k30 0 = .ok (.aload_n 0, 1) := by decide +kernel
theorem d30_1 : decode k30 1 = .ok (.getfield 79, 3) := by decide +kernel
theorem d30_4 : decode k30 4 = .ok (.ireturn, 1) := by decide +kernel
theorem d31_0 : decode k31 0 = .ok (.iload_n 1, 1) := by decide +kernel
theorem d31_1 : decode k31 1 = .ok (.ifCond .ne 9, 3) := by decide +kernel
theorem d31_4 : decode k31 4 = .ok (.iload_n 2, 1) := by decide +kernel
theorem d31_5 : decode k31 5 = .ok (.aload_n 0, 1) := by decide +kernel
theorem d31_6 : decode k31 6 = .ok (.arraylength, 1) := by decide +kernel
theorem d31_7 : decode k31 7 = .ok (.if_icmp .eq 10, 3) := by decide +kernel
theorem d31_10 : decode k31 10 = .ok (.aload_n 0, 1) := by decide +kernel
theorem d31_11 : decode k31 11 = .ok (.iload_n 1, 1) := by decide +kernel
theorem d31_12 : decode k31 12 = .ok (.iload_n 2, 1) := by decide +kernel
theorem d31_13 : decode k31 13 = .ok (.invokestatic 339, 3) := by decide +kernel
theorem d31_16 : decode k31 16 = .ok (.areturn, 1) := by decide +kernel
theorem d32_0 : decode k32 0 = .ok (.iload_n 1, 1) := by decide +kernel
theorem d32_1 : decode k32 1 = .ok (.iload_n 2, 1) := by decide +kernel
theorem d32_2 : decode k32 2 = .ok (.invokestatic 343, 3) := by decide +kernel
theorem d32_5 : decode k32 5 = .ok (.iload_n 2, 1) := by decide +kernel
theorem d32_6 : decode k32 6 = .ok (.iload_n 1, 1) := by decide +kernel
theorem d32_7 : decode k32 7 = .ok (.isub, 1) := by decide +kernel
theorem d32_8 : decode k32 8 = .ok (.istore_n 3, 1) := by decide +kernel
theorem d32_9 : decode k32 9 = .ok (.iload_n 3, 1) := by decide +kernel
theorem d32_10 : decode k32 10 = .ok (.newarray .byte, 2) := by decide +kernel
theorem d32_12 : decode k32 12 = .ok (.astore 4, 2) := by decide +kernel
theorem d32_14 : decode k32 14 = .ok (.aload_n 0, 1) := by decide +kernel
theorem d32_15 : decode k32 15 = .ok (.iload_n 1, 1) := by decide +kernel
theorem d32_16 : decode k32 16 = .ok (.aload 4, 2) := by decide +kernel
theorem d32_18 : decode k32 18 = .ok (.iconst 0, 1) := by decide +kernel
theorem d32_19 : decode k32 19 = .ok (.aload_n 0, 1) := by decide +kernel
theorem d32_20 : decode k32 20 = .ok (.arraylength, 1) := by decide +kernel
theorem d32_21 : decode k32 21 = .ok (.iload_n 1, 1) := by decide +kernel
theorem d32_22 : decode k32 22 = .ok (.isub, 1) := by decide +kernel
theorem d32_23 : decode k32 23 = .ok (.iload_n 3, 1) := by decide +kernel
theorem d32_24 : decode k32 24 = .ok (.invokestatic 304, 3) := by decide +kernel
theorem d32_27 : decode k32 27 = .ok (.invokestatic 150, 3) := by decide +kernel
theorem d32_30 : decode k32 30 = .ok (.aload 4, 2) := by decide +kernel
theorem d32_32 : decode k32 32 = .ok (.areturn, 1) := by decide +kernel
theorem d33_0 : decode k33 0 = .ok (.iload_n 1, 1) := by decide +kernel
theorem d33_1 : decode k33 1 = .ok (.iload_n 0, 1) := by decide +kernel
theorem d33_2 : decode k33 2 = .ok (.if_icmp .ge 35, 3) := by decide +kernel
theorem d33_37 : decode k33 37 = .ok (.return_, 1) := by decide +kernel
theorem d34_0 : decode k34 0 = .ok (.iload_n 0, 1) := by decide +kernel
theorem d34_1 : decode k34 1 = .ok (.iload_n 1, 1) := by decide +kernel
theorem d34_2 : decode k34 2 = .ok (.if_icmp .gt 7, 3) := by decide +kernel
theorem d34_5 : decode k34 5 = .ok (.iload_n 0, 1) := by decide +kernel
theorem d34_6 : decode k34 6 = .ok (.goto 4, 3) := by decide +kernel
theorem d34_9 : decode k34 9 = .ok (.iload_n 1, 1) := by decide +kernel
theorem d34_10 : decode k34 10 = .ok (.ireturn, 1) := by decide +kernel
theorem d35_0 : decode k35 0 = .ok (.aload_n 0, 1) := by decide +kernel
theorem d35_1 : decode k35 1 = .ok (.getfield 7, 3) := by decide +kernel
theorem d35_4 : decode k35 4 = .ok (.ireturn, 1) := by decide +kernel
theorem d36_0 : decode k36 0 = .ok (.aload_n 0, 1) := by decide +kernel
theorem d36_1 : decode k36 1 = .ok (.aload_n 1, 1) := by decide +kernel
theorem d36_2 : decode k36 2 = .ok (.if_acmp .ne 5, 3) := by decide +kernel
theorem d36_5 : decode k36 5 = .ok (.iconst 1, 1) := by decide +kernel
theorem d36_6 : decode k36 6 = .ok (.ireturn, 1) := by decide +kernel
theorem d37_0 : decode k37 0 = .ok (.aload_n 0, 1) := by decide +kernel
theorem d37_1 : decode k37 1 = .ok (.invokevirtual 492, 3) := by decide +kernel
theorem d37_4 : decode k37 4 = .ok (.ifCond .eq 12, 3) := by decide +kernel
theorem d37_7 : decode k37 7 = .ok (.aload_n 0, 1) := by decide +kernel
theorem d37_8 : decode k37 8 = .ok (.getfield 9, 3) := by decide +kernel
theorem d37_11 : decode k37 11 = .ok (.iload_n 1, 1) := by decide +kernel
theorem d37_12 : decode k37 12 = .ok (.invokestatic 495, 3) := by decide +kernel
theorem d37_15 : decode k37 15 = .ok (.ireturn, 1) := by decide +kernel
theorem d38_0 : decode k38 0 = .ok (.getstatic 38, 3) := by decide +kernel
theorem d38_3 : decode k38 3 = .ok (.ifCond .eq 14, 3) := by decide +kernel
theorem d38_6 : decode k38 6 = .ok (.aload_n 0, 1) := by decide +kernel
theorem d38_7 : decode k38 7 = .ok (.getfield 15, 3) := by decide +kernel
theorem d38_10 : decode k38 10 = .ok (.ifCond .ne 7, 3) := by decide +kernel
theorem d38_13 : decode k38 13 = .ok (.iconst 1, 1) := by decide +kernel
theorem d38_14 : decode k38 14 = .ok (.goto 4, 3) := by decide +kernel
theorem d38_18 : decode k38 18 = .ok (.ireturn, 1) := by decide +kernel
theorem d39_0 : decode k39 0 = .ok (.iload_n 1, 1) := by decide +kernel
theorem d39_1 : decode k39 1 = .ok (.aload_n 0, 1) := by decide +kernel
theorem d39_2 : decode k39 2 = .ok (.arraylength, 1) := by decide +kernel
theorem d39_3 : decode k39 3 = .ok (.invokestatic 9, 3) := by decide +kernel
theorem d39_6 : decode k39 6 = .ok (.aload_n 0, 1) := by decide +kernel
theorem d39_7 : decode k39 7 = .ok (.iload_n 1, 1) := by decide +kernel
theorem d39_8 : decode k39 8 = .ok (.baload, 1) := by decide +kernel
theorem d39_9 : decode k39 9 = .ok (.sipush 255, 3) := by decide +kernel
theorem d39_12 : decode k39 12 = .ok (.iand, 1) := by decide +kernel
theorem d39_13 : decode k39 13 = .ok (.i2c, 1) := by decide +kernel
theorem d39_14 : decode k39 14 = .ok (.ireturn, 1) := by decide +kernel
theorem d40_0 : decode k40 0 = .ok (.iload_n 0, 1) := by decide +kernel
theorem d40_1 : decode k40 1 = .ok (.iload_n 1, 1) := by decide +kernel
theorem d40_2 : decode k40 2 = .ok (.getstatic 1053, 3) := by decide +kernel
theorem d40_5 : decode k40 5 = .ok (.invokestatic 1059, 3) := by decide +kernel
theorem d40_8 : decode k40 8 = .ok (.pop, 1) := by decide +kernel
theorem d40_9 : decode k40 9 = .ok (.return_, 1) := by decide +kernel
theorem d41_0 : decode k41 0 = .ok (.iload_n 0, 1) := by decide +kernel
theorem d41_1 : decode k41 1 = .ok (.ifCond .lt 8, 3) := by decide +kernel
theorem d41_4 : decode k41 4 = .ok (.iload_n 0, 1) := by decide +kernel
theorem d41_5 : decode k41 5 = .ok (.iload_n 1, 1) := by decide +kernel
theorem d41_6 : decode k41 6 = .ok (.if_icmp .lt 10, 3) := by decide +kernel
theorem d41_16 : decode k41 16 = .ok (.iload_n 0, 1) := by decide +kernel
theorem d41_17 : decode k41 17 = .ok (.ireturn, 1) := by decide +kernel
theorem d42_0 : decode k42 0 = .ok (.iload_n 2, 1) := by decide +kernel
theorem d42_1 : decode k42 1 = .ok (.newarray .byte, 2) := by decide +kernel
theorem d42_3 : decode k42 3 = .ok (.astore_n 3, 1) := by decide +kernel
theorem d42_4 : decode k42 4 = .ok (.aload_n 0, 1) := by decide +kernel
theorem d42_5 : decode k42 5 = .ok (.iload_n 1, 1) := by decide +kernel
theorem d42_6 : decode k42 6 = .ok (.aload_n 3, 1) := by decide +kernel
theorem d42_7 : decode k42 7 = .ok (.iconst 0, 1) := by decide +kernel
theorem d42_8 : decode k42 8 = .ok (.iload_n 2, 1) := by decide +kernel
theorem d42_9 : decode k42 9 = .ok (.invokestatic 115, 3) := by decide +kernel
theorem d42_12 : decode k42 12 = .ok (.istore 4, 2) := by decide +kernel
theorem d42_14 : decode k42 14 = .ok (.iload 4, 2) := by decide +kernel
theorem d42_16 : decode k42 16 = .ok (.iload_n 2, 1) := by decide +kernel
theorem d42_17 : decode k42 17 = .ok (.if_icmp .eq 40, 3) := by decide +kernel
theorem d42_57 : decode k42 57 = .ok (.aload_n 3, 1) := by decide +kernel
theorem d42_58 : decode k42 58 = .ok (.areturn, 1) := by decide +kernel
theorem d43_0 : decode k43 0 = .ok (.iconst 0, 1) := by decide +kernel
theorem d43_1 : decode k43 1 = .ok (.istore 5, 2) := by decide +kernel
theorem d43_3 : decode k43 3 = .ok (.iload 5, 2) := by decide +kernel
theorem d43_5 : decode k43 5 = .ok (.iload 4, 2) := by decide +kernel
theorem d43_7 : decode k43 7 = .ok (.if_icmp .ge 37, 3) := by decide +kernel
theorem d43_10 : decode k43 10 = .ok (.aload_n 0, 1) := by decide +kernel
theorem d43_11 : decode k43 11 = .ok (.iload_n 1, 1) := by decide +kernel
theorem d43_12 : decode k43 12 = .ok (.caload, 1) := by decide +kernel
theorem d43_13 : decode k43 13 = .ok (.istore 6, 2) := by decide +kernel
theorem d43_15 : decode k43 15 = .ok (.iload 6, 2) := by decide +kernel
theorem d43_17 : decode k43 17 = .ok (.sipush 255, 3) := by decide +kernel
theorem d43_20 : decode k43 20 = .ok (.if_icmp .le 6, 3) := by decide +kernel
theorem d43_26 : decode k43 26 = .ok (.aload_n 2, 1) := by decide +kernel
theorem d43_27 : decode k43 27 = .ok (.iload_n 3, 1) := by decide +kernel
theorem d43_28 : decode k43 28 = .ok (.iload 6, 2) := by decide +kernel
theorem d43_30 : decode k43 30 = .ok (.i2b, 1) := by decide +kernel
theorem d43_31 : decode k43 31 = .ok (.bastore, 1) := by decide +kernel
theorem d43_32 : decode k43 32 = .ok (.iinc 1 1, 3) := by decide +kernel
theorem d43_35 : decode k43 35 = .ok (.iinc 3 1, 3) := by decide +kernel
theorem d43_38 : decode k43 38 = .ok (.iinc 5 1, 3) := by decide +kernel
theorem d43_41 : decode k43 41 = .ok (.goto (-38), 3) := by decide +kernel
theorem d43_44 : decode k43 44 = .ok (.iload 4, 2) := by decide +kernel
theorem d43_46 : decode k43 46 = .ok (.ireturn, 1) := by decide +kernel
theorem d44_0 : decode k44 0 = .ok (.iload_n 1, 1) := by decide +kernel
theorem d44_1 : decode k44 1 = .ok (.aload_n 0, 1) := by decide +kernel
theorem d44_2 : decode k44 2 = .ok (.arraylength, 1) := by decide +kernel
theorem d44_3 : decode k44 3 = .ok (.isub, 1) := by decide +kernel
theorem d44_4 : decode k44 4 = .ok (.bipush 31, 2) := by decide +kernel
theorem d44_6 : decode k44 6 = .ok (.iushr, 1) := by decide +kernel
theorem d44_7 : decode k44 7 = .ok (.i2b, 1) := by decide +kernel
theorem d44_8 : decode k44 8 = .ok (.ireturn, 1) := by decide +kernel
theorem pd0 : parseMethodDescriptor "([CIILjava/lang/Void;)V" = some ⟨[(.array .char), .int, .int, (.object "java/lang/Void")], none⟩ := by decide +kernel
theorem pd1 : parseMethodDescriptor "([CI[BII)I" = some ⟨[(.array .char), .int, (.array .byte), .int, .int], some .int⟩ := by decide +kernel
theorem pd2 : parseMethodDescriptor "([CII)[B" = some ⟨[(.array .char), .int, .int], some (.array .byte)⟩ := by decide +kernel
theorem pd3 : parseMethodDescriptor "([BI)B" = some ⟨[(.array .byte), .int], some .byte⟩ := by decide +kernel
theorem pd4 : parseMethodDescriptor "()B" = some ⟨[], some .byte⟩ := by decide +kernel
theorem pd5 : parseMethodDescriptor "(IILjava/util/function/BiFunction;)I" = some ⟨[.int, .int, (.object "java/util/function/BiFunction")], some .int⟩ := by decide +kernel
theorem pd6 : parseMethodDescriptor "(II)V" = some ⟨[.int, .int], none⟩ := by decide +kernel
theorem pd7 : parseMethodDescriptor "()Z" = some ⟨[], some .boolean⟩ := by decide +kernel
theorem pd8 : parseMethodDescriptor "([BI)C" = some ⟨[(.array .byte), .int], some .char⟩ := by decide +kernel
theorem pd9 : parseMethodDescriptor "(Ljava/lang/Object;Ljava/lang/String;)Ljava/lang/Object;" = some ⟨[(.object "java/lang/Object"), (.object "java/lang/String")], some (.object "java/lang/Object")⟩ := by decide +kernel
theorem pd10 : parseMethodDescriptor "()I" = some ⟨[], some .int⟩ := by decide +kernel
theorem pd11 : parseMethodDescriptor "(I)C" = some ⟨[.int], some .char⟩ := by decide +kernel
theorem pd12 : parseMethodDescriptor "(Ljava/lang/String;I)Ljava/lang/String;" = some ⟨[(.object "java/lang/String"), .int], some (.object "java/lang/String")⟩ := by decide +kernel
theorem pd13 : parseMethodDescriptor "(ZLjava/lang/String;)V" = some ⟨[.boolean, (.object "java/lang/String")], none⟩ := by decide +kernel
theorem pd14 : parseMethodDescriptor "(I)V" = some ⟨[.int], none⟩ := by decide +kernel
theorem pd15 : parseMethodDescriptor "(Ljava/lang/String;)V" = some ⟨[(.object "java/lang/String")], none⟩ := by decide +kernel
theorem pd16 : parseMethodDescriptor "([BIB)V" = some ⟨[(.array .byte), .int, .byte], none⟩ := by decide +kernel
theorem pd17 : parseMethodDescriptor "(ILjava/lang/String;)V" = some ⟨[.int, (.object "java/lang/String")], none⟩ := by decide +kernel
theorem pd18 : parseMethodDescriptor "(Ljava/lang/String;)Ljava/lang/AbstractStringBuilder;" = some ⟨[(.object "java/lang/String")], some (.object "java/lang/AbstractStringBuilder")⟩ := by decide +kernel
theorem pd19 : parseMethodDescriptor "(C)Z" = some ⟨[.char], some .boolean⟩ := by decide +kernel
theorem pd20 : parseMethodDescriptor "(C)Ljava/lang/AbstractStringBuilder;" = some ⟨[.char], some (.object "java/lang/AbstractStringBuilder")⟩ := by decide +kernel
theorem pd21 : parseMethodDescriptor "(II)I" = some ⟨[.int, .int], some .int⟩ := by decide +kernel
theorem pd22 : parseMethodDescriptor "([BII)[B" = some ⟨[(.array .byte), .int, .int], some (.array .byte)⟩ := by decide +kernel
theorem pd23 : parseMethodDescriptor "()[B" = some ⟨[], some (.array .byte)⟩ := by decide +kernel
theorem pd24 : parseMethodDescriptor "(Ljava/lang/AbstractStringBuilder;Ljava/lang/Void;)V" = some ⟨[(.object "java/lang/AbstractStringBuilder"), (.object "java/lang/Void")], none⟩ := by decide +kernel
theorem pd25 : parseMethodDescriptor "(Ljava/lang/StringBuilder;)V" = some ⟨[(.object "java/lang/StringBuilder")], none⟩ := by decide +kernel
theorem pd26 : parseMethodDescriptor "()V" = some ⟨[], none⟩ := by decide +kernel
theorem pd27 : parseMethodDescriptor "(Ljava/lang/String;)Ljava/lang/StringBuilder;" = some ⟨[(.object "java/lang/String")], some (.object "java/lang/StringBuilder")⟩ := by decide +kernel
theorem pd28 : parseMethodDescriptor "(C)Ljava/lang/StringBuilder;" = some ⟨[.char], some (.object "java/lang/StringBuilder")⟩ := by decide +kernel
theorem pd29 : parseMethodDescriptor "()Ljava/lang/String;" = some ⟨[], some (.object "java/lang/String")⟩ := by decide +kernel
theorem pd30 : parseMethodDescriptor "([C)V" = some ⟨[(.array .char)], none⟩ := by decide +kernel
theorem pd31 : parseMethodDescriptor "(Ljava/lang/String;)Lcom/example/match_before_write/matchbeforewrite/EntityTag;" = some ⟨[(.object "java/lang/String")], some (.object "com/example/match_before_write/matchbeforewrite/EntityTag")⟩ := by decide +kernel
theorem pd32 : parseMethodDescriptor "(Ljava/lang/Object;)Z" = some ⟨[(.object "java/lang/Object")], some .boolean⟩ := by decide +kernel
theorem pn0 : plainName "com/example/match_before_write/matchbeforewrite/EntityTagWeakPinLaw" = true := by first | (simp [plainName, overriddenIn]; done) | decide +kernel
theorem pn1 : plainName "java/lang/String" = true := by first | (simp [plainName, overriddenIn]; done) | decide +kernel
theorem pn2 : plainName "java/lang/StringUTF16" = true := by first | (simp [plainName, overriddenIn]; done) | decide +kernel
theorem pn3 : plainName "jdk/internal/util/Preconditions" = true := by first | (simp [plainName, overriddenIn]; done) | decide +kernel
theorem pn4 : plainName "java/lang/StringLatin1" = true := by first | (simp [plainName, overriddenIn]; done) | decide +kernel
theorem pn5 : plainName "java/util/Objects" = true := by first | (simp [plainName, overriddenIn]; done) | decide +kernel
theorem pn6 : plainName "com/example/match_before_write/matchbeforewrite/EntityTag" = true := by first | (simp [plainName, overriddenIn]; done) | decide +kernel
theorem pn7 : plainName "java/lang/AbstractStringBuilder" = true := by first | (simp [plainName, overriddenIn]; done) | decide +kernel
theorem pn8 : plainName "java/lang/StringBuilder" = true := by first | (simp [plainName, overriddenIn]; done) | decide +kernel
theorem pn9 : plainName "java/util/Arrays" = true := by first | (simp [plainName, overriddenIn]; done) | decide +kernel
theorem ef_cetg (m : MethodId) (x0 : Int32) : entryFrame m #[(.int x0)] 2 = mkF m 0 #[.val (.int x0), .unset] [] := by first | (simp [entryFrame, mkF, argsToLocals, Value.category, maxLocals]; done) | rfl
theorem ef_csi0 (m : MethodId) (x0 : Addr) (x1 : Addr) : entryFrame m #[(.ref x0), (.ref x1), (.int 0), (.int 0), .null] 6 = mkF m 0 #[.val (.ref x0), .val (.ref x1), .val (.int 0), .val (.int 0), .val .null, .unset] [] := by first | (simp [entryFrame, mkF, argsToLocals, Value.category, maxLocals]; done) | rfl
theorem ef_csj0 (m : MethodId) (x0 : Addr) (x1 : Addr) : entryFrame m #[(.ref x0), (.ref x1)] 2 = mkF m 0 #[.val (.ref x0), .val (.ref x1)] [] := by first | (simp [entryFrame, mkF, argsToLocals, Value.category, maxLocals]; done) | rfl
theorem ef_ccmp1 (m : MethodId) (x0 : Addr) (x2 : Addr) : entryFrame m #[(.ref x0), (.int 0), (.ref x2), (.int 0), (.int 1)] 7 = mkF m 0 #[.val (.ref x0), .val (.int 0), .val (.ref x2), .val (.int 0), .val (.int 1), .unset, .unset] [] := by first | (simp [entryFrame, mkF, argsToLocals, Value.category, maxLocals]; done) | rfl
theorem ef_ccmq1 (m : MethodId) (x0 : Addr) : entryFrame m #[(.ref x0), (.int 0), (.int 1)] 6 = mkF m 0 #[.val (.ref x0), .val (.int 0), .val (.int 1), .unset, .unset, .unset] [] := by first | (simp [entryFrame, mkF, argsToLocals, Value.category, maxLocals]; done) | rfl
theorem ef_ccal1 (m : MethodId) (x0 : Addr) : entryFrame m #[(.ref x0), (.int 1)] 2 = mkF m 0 #[.val (.ref x0), .val (.int 1)] [] := by first | (simp [entryFrame, mkF, argsToLocals, Value.category, maxLocals]; done) | rfl
theorem ef_csi1 (m : MethodId) (x0 : Addr) (x1 : Addr) : entryFrame m #[(.ref x0), (.ref x1), (.int 0), (.int 1), .null] 6 = mkF m 0 #[.val (.ref x0), .val (.ref x1), .val (.int 0), .val (.int 1), .val .null, .unset] [] := by first | (simp [entryFrame, mkF, argsToLocals, Value.category, maxLocals]; done) | rfl
theorem ef_csj1 (m : MethodId) (x0 : Addr) (x1 : Addr) : entryFrame m #[(.ref x0), (.ref x1)] 2 = mkF m 0 #[.val (.ref x0), .val (.ref x1)] [] := by first | (simp [entryFrame, mkF, argsToLocals, Value.category, maxLocals]; done) | rfl
theorem ef_ccmp2 (m : MethodId) (x0 : Addr) (x2 : Addr) : entryFrame m #[(.ref x0), (.int 0), (.ref x2), (.int 0), (.int 2)] 7 = mkF m 0 #[.val (.ref x0), .val (.int 0), .val (.ref x2), .val (.int 0), .val (.int 2), .unset, .unset] [] := by first | (simp [entryFrame, mkF, argsToLocals, Value.category, maxLocals]; done) | rfl
theorem ef_ccmq2 (m : MethodId) (x0 : Addr) : entryFrame m #[(.ref x0), (.int 0), (.int 2)] 6 = mkF m 0 #[.val (.ref x0), .val (.int 0), .val (.int 2), .unset, .unset, .unset] [] := by first | (simp [entryFrame, mkF, argsToLocals, Value.category, maxLocals]; done) | rfl
theorem ef_ccal2 (m : MethodId) (x0 : Addr) : entryFrame m #[(.ref x0), (.int 2)] 2 = mkF m 0 #[.val (.ref x0), .val (.int 2)] [] := by first | (simp [entryFrame, mkF, argsToLocals, Value.category, maxLocals]; done) | rfl
theorem ef_csi2 (m : MethodId) (x0 : Addr) (x1 : Addr) : entryFrame m #[(.ref x0), (.ref x1), (.int 0), (.int 2), .null] 6 = mkF m 0 #[.val (.ref x0), .val (.ref x1), .val (.int 0), .val (.int 2), .val .null, .unset] [] := by first | (simp [entryFrame, mkF, argsToLocals, Value.category, maxLocals]; done) | rfl
theorem ef_csj2 (m : MethodId) (x0 : Addr) (x1 : Addr) : entryFrame m #[(.ref x0), (.ref x1)] 2 = mkF m 0 #[.val (.ref x0), .val (.ref x1)] [] := by first | (simp [entryFrame, mkF, argsToLocals, Value.category, maxLocals]; done) | rfl
theorem ef_ccmp3 (m : MethodId) (x0 : Addr) (x2 : Addr) : entryFrame m #[(.ref x0), (.int 0), (.ref x2), (.int 0), (.int 3)] 7 = mkF m 0 #[.val (.ref x0), .val (.int 0), .val (.ref x2), .val (.int 0), .val (.int 3), .unset, .unset] [] := by first | (simp [entryFrame, mkF, argsToLocals, Value.category, maxLocals]; done) | rfl
theorem ef_ccmq3 (m : MethodId) (x0 : Addr) : entryFrame m #[(.ref x0), (.int 0), (.int 3)] 6 = mkF m 0 #[.val (.ref x0), .val (.int 0), .val (.int 3), .unset, .unset, .unset] [] := by first | (simp [entryFrame, mkF, argsToLocals, Value.category, maxLocals]; done) | rfl
theorem ef_ccal3 (m : MethodId) (x0 : Addr) : entryFrame m #[(.ref x0), (.int 3)] 2 = mkF m 0 #[.val (.ref x0), .val (.int 3)] [] := by first | (simp [entryFrame, mkF, argsToLocals, Value.category, maxLocals]; done) | rfl
theorem ef_csi3 (m : MethodId) (x0 : Addr) (x1 : Addr) : entryFrame m #[(.ref x0), (.ref x1), (.int 0), (.int 3), .null] 6 = mkF m 0 #[.val (.ref x0), .val (.ref x1), .val (.int 0), .val (.int 3), .val .null, .unset] [] := by first | (simp [entryFrame, mkF, argsToLocals, Value.category, maxLocals]; done) | rfl
theorem ef_csj3 (m : MethodId) (x0 : Addr) (x1 : Addr) : entryFrame m #[(.ref x0), (.ref x1)] 2 = mkF m 0 #[.val (.ref x0), .val (.ref x1)] [] := by first | (simp [entryFrame, mkF, argsToLocals, Value.category, maxLocals]; done) | rfl
theorem ef_ccoder (m : MethodId) (x0 : Addr) : entryFrame m #[(.ref x0)] 1 = mkF m 0 #[.val (.ref x0)] [] := by first | (simp [entryFrame, mkF, argsToLocals, Value.category, maxLocals]; done) | rfl
theorem ef_clen (m : MethodId) (x0 : Addr) : entryFrame m #[(.ref x0)] 1 = mkF m 0 #[.val (.ref x0)] [] := by first | (simp [entryFrame, mkF, argsToLocals, Value.category, maxLocals]; done) | rfl
theorem ef_clat (m : MethodId) (x0 : Addr) : entryFrame m #[(.ref x0)] 1 = mkF m 0 #[.val (.ref x0)] [] := by first | (simp [entryFrame, mkF, argsToLocals, Value.category, maxLocals]; done) | rfl
theorem ef_cpchk (m : MethodId) (x0 : Int32) (x1 : Int32) (x2 : Value) (hx2 : x2.isRef = true) : entryFrame m #[(.int x0), (.int x1), x2] 3 = mkF m 0 #[.val (.int x0), .val (.int x1), .val x2] [] := by rcases ref_cases hx2 with rfl | ⟨_, rfl⟩ <;> first | (simp [entryFrame, mkF, argsToLocals, Value.category, maxLocals]; done) | rfl
theorem ef_cschk (m : MethodId) (x0 : Int32) (x1 : Int32) : entryFrame m #[(.int x0), (.int x1)] 2 = mkF m 0 #[.val (.int x0), .val (.int x1)] [] := by first | (simp [entryFrame, mkF, argsToLocals, Value.category, maxLocals]; done) | rfl
theorem ef_cl1ch (m : MethodId) (x0 : Addr) (x1 : Int32) : entryFrame m #[(.ref x0), (.int x1)] 2 = mkF m 0 #[.val (.ref x0), .val (.int x1)] [] := by first | (simp [entryFrame, mkF, argsToLocals, Value.category, maxLocals]; done) | rfl
theorem ef_cchar (m : MethodId) (x0 : Addr) (x1 : Int32) : entryFrame m #[(.ref x0), (.int x1)] 2 = mkF m 0 #[.val (.ref x0), .val (.int x1)] [] := by first | (simp [entryFrame, mkF, argsToLocals, Value.category, maxLocals]; done) | rfl
theorem ef_creq (m : MethodId) (x0 : Addr) (x1 : Addr) : entryFrame m #[(.ref x0), (.ref x1)] 2 = mkF m 0 #[.val (.ref x0), .val (.ref x1)] [] := by first | (simp [entryFrame, mkF, argsToLocals, Value.category, maxLocals]; done) | rfl
theorem ef_cchk0 (m : MethodId) (x0 : Addr) (x1 : Int32) : entryFrame m #[(.ref x0), (.int x1)] 6 = mkF m 0 #[.val (.ref x0), .val (.int x1), .unset, .unset, .unset, .unset] [] := by first | (simp [entryFrame, mkF, argsToLocals, Value.category, maxLocals]; done) | rfl
theorem ef_cchk1 (m : MethodId) (x0 : Addr) (x1 : Int32) : entryFrame m #[(.ref x0), (.int x1)] 6 = mkF m 0 #[.val (.ref x0), .val (.int x1), .unset, .unset, .unset, .unset] [] := by first | (simp [entryFrame, mkF, argsToLocals, Value.category, maxLocals]; done) | rfl
theorem ef_cchk2 (m : MethodId) (x0 : Addr) (x1 : Int32) : entryFrame m #[(.ref x0), (.int x1)] 6 = mkF m 0 #[.val (.ref x0), .val (.int x1), .unset, .unset, .unset, .unset] [] := by first | (simp [entryFrame, mkF, argsToLocals, Value.category, maxLocals]; done) | rfl
theorem ef_cchk3 (m : MethodId) (x0 : Addr) (x1 : Int32) : entryFrame m #[(.ref x0), (.int x1)] 6 = mkF m 0 #[.val (.ref x0), .val (.int x1), .unset, .unset, .unset, .unset] [] := by first | (simp [entryFrame, mkF, argsToLocals, Value.category, maxLocals]; done) | rfl
theorem ef_ceti (m : MethodId) (x0 : Addr) (x2 : Addr) : entryFrame m #[(.ref x0), (.int 1), (.ref x2)] 3 = mkF m 0 #[.val (.ref x0), .val (.int 1), .val (.ref x2)] [] := by first | (simp [entryFrame, mkF, argsToLocals, Value.category, maxLocals]; done) | rfl
theorem ef_cwk0 (m : MethodId) (x0 : Addr) : entryFrame m #[(.ref x0)] 1 = mkF m 0 #[.val (.ref x0)] [] := by first | (simp [entryFrame, mkF, argsToLocals, Value.category, maxLocals]; done) | rfl
theorem ef_cwk1 (m : MethodId) (x0 : Addr) : entryFrame m #[(.ref x0)] 1 = mkF m 0 #[.val (.ref x0)] [] := by first | (simp [entryFrame, mkF, argsToLocals, Value.category, maxLocals]; done) | rfl
theorem ef_cwk2 (m : MethodId) (x0 : Addr) : entryFrame m #[(.ref x0)] 1 = mkF m 0 #[.val (.ref x0)] [] := by first | (simp [entryFrame, mkF, argsToLocals, Value.category, maxLocals]; done) | rfl
theorem ef_cwk3 (m : MethodId) (x0 : Addr) : entryFrame m #[(.ref x0)] 1 = mkF m 0 #[.val (.ref x0)] [] := by first | (simp [entryFrame, mkF, argsToLocals, Value.category, maxLocals]; done) | rfl
theorem ef_cval (m : MethodId) (x0 : Addr) : entryFrame m #[(.ref x0)] 1 = mkF m 0 #[.val (.ref x0)] [] := by first | (simp [entryFrame, mkF, argsToLocals, Value.category, maxLocals]; done) | rfl
theorem ef_cisw (m : MethodId) (x0 : Addr) : entryFrame m #[(.ref x0)] 1 = mkF m 0 #[.val (.ref x0)] [] := by first | (simp [entryFrame, mkF, argsToLocals, Value.category, maxLocals]; done) | rfl
theorem ef_casb (m : MethodId) (x0 : Addr) : entryFrame m #[(.ref x0), (.int 16)] 2 = mkF m 0 #[.val (.ref x0), .val (.int 16)] [] := by first | (simp [entryFrame, mkF, argsToLocals, Value.category, maxLocals]; done) | rfl
theorem ef_csb (m : MethodId) (x0 : Addr) : entryFrame m #[(.ref x0)] 1 = mkF m 0 #[.val (.ref x0)] [] := by first | (simp [entryFrame, mkF, argsToLocals, Value.category, maxLocals]; done) | rfl
theorem ef_cens (m : MethodId) (x0 : Addr) (x1 : Int32) : entryFrame m #[(.ref x0), (.int x1)] 3 = mkF m 0 #[.val (.ref x0), .val (.int x1), .unset] [] := by first | (simp [entryFrame, mkF, argsToLocals, Value.category, maxLocals]; done) | rfl
theorem ef_cinf (m : MethodId) (x0 : Addr) (x1 : Addr) : entryFrame m #[(.ref x0), (.ref x1)] 2 = mkF m 0 #[.val (.ref x0), .val (.ref x1)] [] := by first | (simp [entryFrame, mkF, argsToLocals, Value.category, maxLocals]; done) | rfl
theorem ef_csbl (m : MethodId) (x0 : Addr) : entryFrame m #[(.ref x0)] 1 = mkF m 0 #[.val (.ref x0)] [] := by first | (simp [entryFrame, mkF, argsToLocals, Value.category, maxLocals]; done) | rfl
theorem ef_cgva (m : MethodId) (x0 : Addr) : entryFrame m #[(.ref x0)] 1 = mkF m 0 #[.val (.ref x0)] [] := by first | (simp [entryFrame, mkF, argsToLocals, Value.category, maxLocals]; done) | rfl
theorem ef_clna (m : MethodId) (x0 : Addr) : entryFrame m #[(.ref x0)] 1 = mkF m 0 #[.val (.ref x0)] [] := by first | (simp [entryFrame, mkF, argsToLocals, Value.category, maxLocals]; done) | rfl
theorem ef_clnb (m : MethodId) (x0 : Addr) : entryFrame m #[(.ref x0)] 1 = mkF m 0 #[.val (.ref x0)] [] := by first | (simp [entryFrame, mkF, argsToLocals, Value.category, maxLocals]; done) | rfl
theorem ef_ccan (m : MethodId) (x0 : Int32) : entryFrame m #[(.int x0)] 1 = mkF m 0 #[.val (.int x0)] [] := by first | (simp [entryFrame, mkF, argsToLocals, Value.category, maxLocals]; done) | rfl
theorem ef_cchl (m : MethodId) (x0 : Int32) (x1 : Int32) : entryFrame m #[(.int x0), (.int x1)] 2 = mkF m 0 #[.val (.int x0), .val (.int x1)] [] := by first | (simp [entryFrame, mkF, argsToLocals, Value.category, maxLocals]; done) | rfl
theorem ef_cmin1 (m : MethodId) (x0 : Int32) (x1 : Int32) : entryFrame m #[(.int x0), (.int x1)] 2 = mkF m 0 #[.val (.int x0), .val (.int x1)] [] := by first | (simp [entryFrame, mkF, argsToLocals, Value.category, maxLocals]; done) | rfl
theorem ef_cmin2 (m : MethodId) (x0 : Int32) (x1 : Int32) : entryFrame m #[(.int x0), (.int x1)] 2 = mkF m 0 #[.val (.int x0), .val (.int x1)] [] := by first | (simp [entryFrame, mkF, argsToLocals, Value.category, maxLocals]; done) | rfl
theorem ef_cgb (m : MethodId) (x0 : Addr) (x1 : Addr) (x2 : Int32) : entryFrame m #[(.ref x0), (.ref x1), (.int x2), (.int 0)] 4 = mkF m 0 #[.val (.ref x0), .val (.ref x1), .val (.int x2), .val (.int 0)] [] := by first | (simp [entryFrame, mkF, argsToLocals, Value.category, maxLocals]; done) | rfl
theorem ef_cps (m : MethodId) (x0 : Addr) (x1 : Int32) (x2 : Addr) : entryFrame m #[(.ref x0), (.int x1), (.ref x2)] 3 = mkF m 0 #[.val (.ref x0), .val (.int x1), .val (.ref x2)] [] := by first | (simp [entryFrame, mkF, argsToLocals, Value.category, maxLocals]; done) | rfl
theorem ef_caa (m : MethodId) (x0 : Addr) (x1 : Addr) : entryFrame m #[(.ref x0), (.ref x1)] 3 = mkF m 0 #[.val (.ref x0), .val (.ref x1), .unset] [] := by first | (simp [entryFrame, mkF, argsToLocals, Value.category, maxLocals]; done) | rfl
theorem ef_cab (m : MethodId) (x0 : Addr) (x1 : Addr) : entryFrame m #[(.ref x0), (.ref x1)] 2 = mkF m 0 #[.val (.ref x0), .val (.ref x1)] [] := by first | (simp [entryFrame, mkF, argsToLocals, Value.category, maxLocals]; done) | rfl
theorem ef_cca (m : MethodId) (x0 : Addr) : entryFrame m #[(.ref x0), (.int 34)] 2 = mkF m 0 #[.val (.ref x0), .val (.int 34)] [] := by first | (simp [entryFrame, mkF, argsToLocals, Value.category, maxLocals]; done) | rfl
theorem ef_ccb (m : MethodId) (x0 : Addr) : entryFrame m #[(.ref x0), (.int 34)] 2 = mkF m 0 #[.val (.ref x0), .val (.int 34)] [] := by first | (simp [entryFrame, mkF, argsToLocals, Value.category, maxLocals]; done) | rfl
theorem ef_ccqb (m : MethodId) (x0 : Addr) (x2 : Int32) : entryFrame m #[(.ref x0), (.int 0), (.int x2)] 5 = mkF m 0 #[.val (.ref x0), .val (.int 0), .val (.int x2), .unset, .unset] [] := by first | (simp [entryFrame, mkF, argsToLocals, Value.category, maxLocals]; done) | rfl
theorem ef_ccq (m : MethodId) (x0 : Addr) (x2 : Int32) : entryFrame m #[(.ref x0), (.int 0), (.int x2)] 3 = mkF m 0 #[.val (.ref x0), .val (.int 0), .val (.int x2)] [] := by first | (simp [entryFrame, mkF, argsToLocals, Value.category, maxLocals]; done) | rfl
theorem ef_cia (m : MethodId) (x0 : Addr) (x1 : Addr) : entryFrame m #[(.ref x0), (.ref x1), .null] 5 = mkF m 0 #[.val (.ref x0), .val (.ref x1), .val .null, .unset, .unset] [] := by first | (simp [entryFrame, mkF, argsToLocals, Value.category, maxLocals]; done) | rfl
theorem ef_cib (m : MethodId) (x0 : Addr) (x1 : Addr) : entryFrame m #[(.ref x0), (.ref x1)] 2 = mkF m 0 #[.val (.ref x0), .val (.ref x1)] [] := by first | (simp [entryFrame, mkF, argsToLocals, Value.category, maxLocals]; done) | rfl
theorem ef_cts (m : MethodId) (x0 : Addr) : entryFrame m #[(.ref x0)] 1 = mkF m 0 #[.val (.ref x0)] [] := by first | (simp [entryFrame, mkF, argsToLocals, Value.category, maxLocals]; done) | rfl
theorem ef_ctos (m : MethodId) (x0 : Addr) : entryFrame m #[(.ref x0)] 2 = mkF m 0 #[.val (.ref x0), .unset] [] := by first | (simp [entryFrame, mkF, argsToLocals, Value.category, maxLocals]; done) | rfl
theorem ef_ceqs (m : MethodId) (x0 : Addr) (x1 : Addr) : entryFrame m #[(.ref x1), (.ref x1)] 3 = mkF m 0 #[.val (.ref x1), .val (.ref x1), .unset] [] := by first | (simp [entryFrame, mkF, argsToLocals, Value.category, maxLocals]; done) | rfl
theorem ef_law0 (m : MethodId) (x0 : Int32) (x1 : Int32) (x2 : Int32) (x3 : Int32) : entryFrame m #[(.int x0), (.int x1), (.int x2), (.int x3)] maxLocals = mkF m 0 #[.val (.int x0), .val (.int x1), .val (.int x2), .val (.int x3), .unset, .unset, .unset, .unset, .unset, .unset, .unset, .unset, .unset, .unset] [] := by first | (simp [entryFrame, mkF, argsToLocals, Value.category, maxLocals]; done) | rfl
theorem own_and3 (x : Int32) : x &&& (3 : Int32) = 0 ∨ x &&& (3 : Int32) = 1 ∨ x &&& (3 : Int32) = 2 ∨ x &&& (3 : Int32) = 3 := by
  have h := c_and x 3 (by decide)
  have e0 : (0 : Int32).toInt = 0 := rfl
  have e1 : (1 : Int32).toInt = 1 := rfl
  have e2 : (2 : Int32).toInt = 2 := rfl
  have e3 : (3 : Int32).toInt = 3 := rfl
  simp only [← Int32.toInt_inj]
  omega
theorem own_shr0 (n : Int32) : n >>> ((0 : Int32) &&& 31) = n := by
  have := c_ishr n 0 0 rfl
  apply Int32.toInt_inj.mp
  rw [this]; simp
theorem own_shl0 (n : Int32) : n <<< ((0 : Int32) &&& 31) = n := by
  apply Int32.toBitVec_inj.mp
  simp
theorem own_sub0 (n : Int32) : n - (0 : Int32) = n := by simp
def Cpy (sp dp nn z z' : Int32) (vs vd us out : List Value) : Prop := (¬ sp < 0 ∧ ¬ dp < 0 ∧ ¬ nn < 0) ∧ sp.toNatClampNeg + nn.toNatClampNeg ≤ z.toNatClampNeg ∧ dp.toNatClampNeg + nn.toNatClampNeg ≤ z'.toNatClampNeg ∧ us = ((List.range nn.toNatClampNeg).map fun i => vs.getD (sp.toNatClampNeg + i) (.int 0)) ∧ dp.toNatClampNeg + nn.toNatClampNeg ≤ vd.length ∧ vd.take dp.toNatClampNeg ++ us ++ vd.drop (dp.toNatClampNeg + nn.toNatClampNeg) = out
def Stp (j z : Int32) (vd : List Value) (x : Value) (out : List Value) : Prop := (¬ j < 0 ∧ j < z) ∧ j.toNatClampNeg < vd.length ∧ vd.set j.toNatClampNeg x = out
def Cut (ct cp : Int32) (ds us : List Value) : Prop := (¬ ct < 0 ∧ ct < cp) ∧ ct.toNatClampNeg ≤ 8 ∧ us = ((List.range ct.toNatClampNeg).map fun i => ds.getD ((0 : Int32).toNatClampNeg + i) (.int 0))
theorem own_cutL (ct : Int32) : (0 : Int32).toNatClampNeg + ct.toNatClampNeg ≤ ct.toNatClampNeg := Nat.le_of_eq (Nat.zero_add _)
theorem own_cutA {ct cp : Int32} {ds us : List Value} (h : Cut ct cp ds us) : (0 : Int32).toNatClampNeg + ct.toNatClampNeg ≤ cp.toNatClampNeg := by
  have e : (0 : Int32).toNatClampNeg = 0 := rfl
  have := Int32.lt_iff_toInt_lt.mp h.1.2; simp only [Int32.toNatClampNeg] at *; omega
theorem own_cutB {ct cp : Int32} {ds us : List Value} (h : Cut ct cp ds us) : (0 : Int32).toNatClampNeg + ct.toNatClampNeg ≤ [(.int 0 : Value), .int 0, .int 0, .int 0, .int 0, .int 0, .int 0, .int 0].length := by
  have e : (0 : Int32).toNatClampNeg = 0 := rfl
  have e2 : ([(.int 0 : Value), .int 0, .int 0, .int 0, .int 0, .int 0, .int 0, .int 0] : List Value).length = 8 := rfl
  have := h.2.1; omega
theorem own_cutN {ct cp : Int32} {ds us : List Value} (h : Cut ct cp ds us) : ¬ (ct = cp) := fun q => by
  have := Int32.lt_iff_toInt_lt.mp h.1.2; rw [q] at this; omega
theorem own_cut {Z : State} {h : Heap} {a : Addr} {c : ClassId} {ty : FieldType} {z : Int32} {us : List Value} {j : Nat} (A : Arv Z h a c ty z ([(.int 0 : Value), .int 0, .int 0, .int 0, .int 0, .int 0, .int 0, .int 0].take (0 : Int32).toNatClampNeg ++ us ++ [(.int 0 : Value), .int 0, .int 0, .int 0, .int 0, .int 0, .int 0, .int 0].drop j) (.int 0)) : Arv Z h a c ty z us (.int 0) := by
  refine A.pad fun i => ?_
  have e : (([(.int 0 : Value), .int 0, .int 0, .int 0, .int 0, .int 0, .int 0, .int 0] : List Value).take (0 : Int32).toNatClampNeg ++ us ++ [(.int 0 : Value), .int 0, .int 0, .int 0, .int 0, .int 0, .int 0, .int 0].drop j) = us ++ List.replicate (8 - j) (.int 0) := by
    rw [show ([(.int 0 : Value), .int 0, .int 0, .int 0, .int 0, .int 0, .int 0, .int 0] : List Value) = List.replicate 8 (.int 0) from rfl, List.drop_replicate, show (0 : Int32).toNatClampNeg = 0 from rfl, List.take_zero, List.nil_append]
  rw [e]; exact (pad_rep us (.int 0) (8 - j) i).symm
def ETC (y : Int32) : Prop := y.toInt = 33 ∨ (35 ≤ y.toInt ∧ y.toInt ≤ 126) ∨ (128 ≤ y.toInt ∧ y.toInt ≤ 255)
theorem own_etr {y : Int32} (h : ETC y) : y.toInt = 33 ∨ (35 ≤ y.toInt ∧ y.toInt ≤ 126) ∨ (128 ≤ y.toInt ∧ y.toInt ≤ 255) := h
theorem own_lt {x y : Int32} (h : x < y) : x.toInt < y.toInt := Int32.lt_iff_toInt_lt.mp h
theorem own_ltn {x y : Int32} (h : ¬ x < y) : ¬ x.toInt < y.toInt := fun q => h (Int32.lt_iff_toInt_lt.mpr q)
theorem own_eq {x y : Int32} (h : x = y) : x.toInt = y.toInt := congrArg _ h
theorem own_eqn {x y : Int32} (h : ¬ x = y) : ¬ x.toInt = y.toInt := fun q => h (Int32.toInt_inj.mp q)
theorem own_ec255 {y : Int32} (h : ETC y) : ¬ (255 : Int32) < y := fun q => by
  have := own_lt q; have e : (255 : Int32).toInt = 255 := rfl; have := own_etr h; omega
theorem own_small {y : Int32} (h0 : 0 ≤ y.toInt) (h1 : y.toInt ≤ 255) : ∃ n : Nat, n < 256 ∧ y = Int32.ofNat n := by
  refine ⟨y.toInt.toNat, by omega, ?_⟩
  apply Int32.toInt_inj.mp
  rw [Int32.toInt_ofNat_of_lt (by omega)]; omega
theorem own_all : ∀ n : Nat, n < 256 → nar .char (Int32.ofNat n) = Int32.ofNat n ∧ ((Int32.ofNat n).toInt8.toInt32 &&& (255 : Int32)).toUInt32.toUInt16.toUInt32.toInt32 = Int32.ofNat n ∧ (Int32.ofNat n).toUInt32.toUInt16.toUInt32.toInt32 = Int32.ofNat n := by decide +kernel
theorem own_rng {y : Int32} (h : ETC y) : 0 ≤ y.toInt ∧ y.toInt ≤ 255 := by have := own_etr h; omega
theorem own_ecn {y : Int32} (h : ETC y) : nar .char y = y := by
  obtain ⟨n, hn, rfl⟩ := own_small (own_rng h).1 (own_rng h).2; exact (own_all n hn).1
theorem own_ech {y : Int32} (h : ETC y) : ((y.toInt8.toInt32) &&& (255 : Int32)).toUInt32.toUInt16.toUInt32.toInt32 = y := by
  obtain ⟨n, hn, rfl⟩ := own_small (own_rng h).1 (own_rng h).2; exact (own_all n hn).2.1
theorem own_i2c {y : Int32} (h0 : 0 ≤ y.toInt) (h1 : y.toInt ≤ 255) : y.toUInt32.toUInt16.toUInt32.toInt32 = y := by
  obtain ⟨n, hn, rfl⟩ := own_small h0 h1; exact (own_all n hn).2.2
theorem own_b221 (x : Int32) : 0 ≤ ((x &&& (2147483647 : Int32)) % (221 : Int32)).toInt ∧ ((x &&& (2147483647 : Int32)) % (221 : Int32)).toInt < 221 := by
  have h0 : 0 ≤ (x &&& (2147483647 : Int32)).toInt := by
    have : ¬ (x &&& (2147483647 : Int32)) < 0 := by rw [Jvm.Free.XT.and_neg32]; exact fun q => absurd q.2 (by decide)
    rw [Jvm.Free.XT.negI32] at this; omega
  generalize x &&& (2147483647 : Int32) = y at h0 ⊢
  have h1 : (y % 221).toInt = y.toInt.tmod 221 := Int32.toInt_mod y 221
  rw [Int.tmod_eq_emod_of_nonneg h0] at h1
  have h2 := Int.emod_nonneg y.toInt (by decide : (221 : Int) ≠ 0)
  have h3 := Int.emod_lt_of_pos y.toInt (by decide : (0 : Int) < 221)
  omega
theorem own_etA : ETC (33 : Int32) := Or.inl rfl
theorem own_bm {z : Int} (h : -2147483648 ≤ z) (h2 : z < 2147483648) : z.bmod 4294967296 = z := by rw [Int.bmod_eq_of_le (by omega) (by omega)]
theorem own_etB {k : Int32} (hk : 0 ≤ k.toInt ∧ k.toInt < 221) (h0 : ¬ (k = (0 : Int32))) (h1 : ¬ ((92 : Int32) < k)) : ETC (((34 : Int32) + k).toUInt32.toUInt16.toUInt32.toInt32) := by
  have a := own_ltn h1; have e1 : (92 : Int32).toInt = 92 := rfl; have b := own_eqn h0; have e0 : (0 : Int32).toInt = 0 := rfl
  have s : ((34 : Int32) + k).toInt = 34 + k.toInt := by rw [Int32.toInt_add, show (34 : Int32).toInt = 34 from rfl]; exact own_bm (by omega) (by omega)
  rw [own_i2c (by omega) (by omega)]; exact Or.inr (Or.inl ⟨by omega, by omega⟩)
theorem own_etC {k : Int32} (hk : 0 ≤ k.toInt ∧ k.toInt < 221) (h1 : (92 : Int32) < k) : ETC (((128 : Int32) + (k - (93 : Int32))).toUInt32.toUInt16.toUInt32.toInt32) := by
  have a := own_lt h1; have e1 : (92 : Int32).toInt = 92 := rfl
  have d : (k - (93 : Int32)).toInt = k.toInt - 93 := by rw [Int32.toInt_sub, show (93 : Int32).toInt = 93 from rfl]; exact own_bm (by omega) (by omega)
  have s : ((128 : Int32) + (k - (93 : Int32))).toInt = 128 + (k.toInt - 93) := by rw [Int32.toInt_add, d, show (128 : Int32).toInt = 128 from rfl]; exact own_bm (by omega) (by omega)
  rw [own_i2c (by omega) (by omega)]; exact Or.inr (Or.inr ⟨by omega, by omega⟩)
abbrev xS0 : String := "java/lang/String"
abbrev xS1 : String := "java/lang/AbstractStringBuilder"
abbrev xS2 : String := "com/example/match_before_write/matchbeforewrite/EntityTag"
abbrev xS3 : String := "COMPACT_STRINGS"
abbrev xS4 : String := "java/lang/StringBuilder"
abbrev xS5 : String := "jdk/internal/util/Preconditions"
def Q_cetg (Z : State) (p : Int32) (h0 : Heap) (vR : Option Value) (hR : Heap) (LR : List Loc) : Prop := ∃ y : Int32, vR = some (.int y) ∧ Fr Z.heap.size LR ∧ hR = h0 ∧ ETC y
theorem cetg (l : Launch) (Z : State) (a0 : Array Value) (hw : ∀ d ∈ tables_1, d.before a0 Z = true) (p : Int32) (h0 : Heap) (O0 : Ext Z.heap h0) :
    Ctr l Z h0 (⟨"com/example/match_before_write/matchbeforewrite/EntityTagWeakPinLaw", "etagc", "(I)C"⟩ : MethodName) k1 2 (some .char) [] ({ frames := 0, cells := 0, slots := 0, locals := 0 } : Room) #[(.int p)] (Q_cetg Z p h0) := by
  refine enter (plainFor_of_name pn0) ?_
  intro pp ee ss mm below meth cc s₁ hx hby hml hZ hown hnm hret hlk X0 e0 hs0
  replace hown : ss.vm.findClass "com/example/match_before_write/matchbeforewrite/EntityTagWeakPinLaw" = some mm.cls := hown
  refine Go.cast (congrArg s₁.setTop (ef_cetg mm p)) ?_
  have N0 := Fr.nil Z.heap.size
  show Go pp ee below _ (s₁.setTop (mkF mm 0 #[.val (.int p), .unset] []))
  refine Go.iloadN X0 hx (hb hby d1_0) rfl (q := 1) rfl ?_
  refine Go.ldcI X0 hx hZ hown (wd4 hw) (hb hby d1_1) (q := 3) rfl ?_
  refine Go.iand X0 hx (hb hby d1_3) rfl (q := 4) rfl ?_
  refine Go.sipush X0 hx (hb hby d1_4) (r := (221 : Int32)) rfl (q := 7) rfl ?_
  refine Go.irem X0 hx (hb hby d1_7) (by decide) rfl (q := 8) rfl ?_
  have hk := own_b221 p
  generalize ((p &&& (2147483647 : Int32)) % (221 : Int32)) = kk at hk ⊢
  show Go pp ee below _ (s₁.setTop (mkF mm 8 #[.val (.int p), .unset] [(.int kk)]))
  refine Go.istoreN X0 hx (hb hby d1_8) (l' := #[.val (.int p), .val (.int kk)]) rfl (q := 9) rfl ?_
  refine Go.iloadN X0 hx (hb hby d1_9) rfl (q := 10) rfl ?_
  by_cases hc101 : kk = (0 : Int32)
  · refine Go.ifNo X0 hx (hb hby d1_10) (Jvm.Free.XT.i0_ne_f hc101) (q := 13) rfl ?_
    refine Go.bipush X0 hx (hb hby d1_13) (r := (33 : Int32)) rfl (q := 15) rfl ?_
    exact Go.retI X0 hx hret hlk (by simp) rfl (hb hby d1_15) e0 (by decide) (by decide) ⟨_, rfl, N0, rfl, own_etA⟩
  · refine Go.ifYes X0 hx (hb hby d1_10) (Jvm.Free.XT.i0_ne_t hc101) (q := 16) (by decide) (by decide) ?_
    refine Go.iloadN X0 hx (hb hby d1_16) rfl (q := 17) rfl ?_
    refine Go.bipush X0 hx (hb hby d1_17) (r := (92 : Int32)) rfl (q := 19) rfl ?_
    by_cases hc102 : (92 : Int32) < kk
    · refine Go.icmpYes X0 hx (hb hby d1_19) (Jvm.Free.XT.ii_gt_t hc102) (q := 28) (by decide) (by decide) ?_
      refine Go.sipush X0 hx (hb hby d1_28) (r := (128 : Int32)) rfl (q := 31) rfl ?_
      refine Go.iloadN X0 hx (hb hby d1_31) rfl (q := 32) rfl ?_
      refine Go.bipush X0 hx (hb hby d1_32) (r := (93 : Int32)) rfl (q := 34) rfl ?_
      refine Go.isub X0 hx (hb hby d1_34) rfl (q := 35) rfl ?_
      refine Go.iadd X0 hx (hb hby d1_35) rfl (q := 36) rfl ?_
      refine Go.i2c X0 hx (hb hby d1_36) rfl (q := 37) rfl ?_
      exact Go.retI X0 hx hret hlk (by simp) (Jvm.Free.XT.narrow_c _) (hb hby d1_37) e0 (by decide) (by decide) ⟨_, rfl, N0, rfl, own_etC hk hc102⟩
    · refine Go.icmpNo X0 hx (hb hby d1_19) (Jvm.Free.XT.ii_gt_f hc102) (q := 22) rfl ?_
      refine Go.bipush X0 hx (hb hby d1_22) (r := (34 : Int32)) rfl (q := 24) rfl ?_
      refine Go.iloadN X0 hx (hb hby d1_24) rfl (q := 25) rfl ?_
      refine Go.iadd X0 hx (hb hby d1_25) rfl (q := 26) rfl ?_
      refine Go.i2c X0 hx (hb hby d1_26) rfl (q := 27) rfl ?_
      exact Go.retI X0 hx hret hlk (by simp) (Jvm.Free.XT.narrow_c _) (hb hby d1_27) e0 (by decide) (by decide) ⟨_, rfl, N0, rfl, own_etB hk hc101 hc102⟩
def Q_csi0 (Z : State) (o a : Addr) (ka : ClassId) (h0 : Heap) (vR : Option Value) (hR : Heap) (LR : List Loc) : Prop := ∃ b : Addr, ∃ kb : ClassId, vR = none ∧ Fr Z.heap.size LR ∧ Keep h0 hR [o] ∧ Fld Z hR o xS0 "value" "[B" (.ref b) ∧ Fld Z hR o xS0 "coder" "B" (.int 0) ∧ Arv Z hR b kb .byte (0 : Int32) [] (.int 0)
theorem csi0 (l : Launch) (Z : State) (a0 : Array Value) (hw : ∀ d ∈ tables_1, d.before a0 Z = true) (o a : Addr) (ka : ClassId) (h0 : Heap) (O0 : Ext Z.heap h0) (Eo : Exa Z h0 o xS0) (Fv : Fld Z h0 o xS0 "value" "[B" .null) (Fc : Fld Z h0 o xS0 "coder" "B" (.int 0)) (g_o : Z.heap.size ≤ o) (Va : Arv Z h0 a ka .char (0 : Int32) [] (.int 0)) :
    CtrH l Z consts_1 h0 (⟨xS0, "<init>", "([CIILjava/lang/Void;)V"⟩ : MethodName) k3 6 none [] ({ frames := 1, cells := 4, slots := 8, locals := 12 } : Room) #[(.ref o), (.ref a), (.int 0), (.int 0), .null] (Q_csi0 Z o a ka h0) := by
  refine enterH (plainFor_of_name pn1) ?_
  intro pp ee ss mm below meth cc s₁ hx hby hml hZ hown hnm hret hlk X0 e0 hs0 hS hC
  replace hown : (ss.setVm ss.vm).vm.findClass xS0 = some mm.cls := hown
  have hKd := Nat.zero_le h0.size
  refine Go.cast (congrArg s₁.setTop (ef_csi0 mm o a)) ?_
  have N0 := Fr.nil Z.heap.size
  have KP := Keep.refl h0 [o]
  show Go pp ee below _ (s₁.setTop (mkF mm 0 #[.val (.ref o), .val (.ref a), .val (.int 0), .val (.int 0), .val .null, .unset] []))
  have sf_o : Safe Z consts_1 ss.vm h0 o := own_safeNull hZ.alike Eo Fv
  refine Go.aloadN X0 hx (hb hby d3_0) rfl rfl (q := 1) rfl ?_
  refine Go.initO X0 hx hZ hown (wd16 hw) (wd17 hw) (wd18 hw) e0 (by rw [hml]; rfl) (hb hby d3_1) (by decide) (W := 0) (by exact Nat.le_refl _) (by decide) (q := 4) rfl ?_
  intro T101 X101 e101
  refine Go.iloadN X101 hx (hb hby d3_4) rfl (q := 5) rfl ?_
  refine Go.ifNo X101 hx (hb hby d3_5) (by decide) (q := 8) rfl ?_
  refine Go.aloadN X101 hx (hb hby d3_8) rfl rfl (q := 9) rfl ?_
  refine Go.ldcH X101 hx hZ hown (wd19 hw) (own_wS hw) e101 hS hKd (own_EW hw) (List.mem_of_getElem? (i := 2) rfl) hC (vs := []) (z := (0 : Int32)) ⟨by decide, rfl⟩ (by decide) rfl (hb hby d3_9) (nn := 0) (by decide) (by decide) (by decide) (by decide) (q := 11) rfl ?_
  intro b102 u102 kc102 T102 h102 k102 X102 e102 E102 hS hKd hZ hown B102 C102 F102 V102 hR102
  replace sf_o := hR102.safe Eo.lt sf_o
  replace hC := hC.trans hR102
  replace Eo := Eo.ext E102
  replace Fv := Fv.ext E102
  replace Fc := Fc.ext E102
  replace Va := Va.ext E102
  have OE102 := ext_trans O0 E102
  replace KP := KP.ext E102
  have ne_b102_o := Fld.ne F102 Fv nofun
  have ne_o_u102 := Exa.neArv Eo V102 (wd7 hw)
  refine Go.getF X102 hx hZ hown (host := "") (Or.inl (wd25 hw)) Via.refl e102 F102 (hb hby d3_11) (q := 14) rfl ?_
  intro T103 X103 e103
  refine Go.putF X103 hx hZ hown (host := "") (Or.inl (wd25 hw)) Via.refl e103 Fv Eo (Or.inr ⟨(wd21 hw), rfl, hnm⟩) (wd7 hw) (ty := (.array .byte)) (by decide) rfl rfl (hb hby d3_14) (q := 17) rfl ?_
  intro T104 h104 X104 e104 W104 F104
  have N104 := Fr.snoc X104 N0 g_o
  have hSw := sf_o
  replace sf_o := Safe.wr W104 hSw hC.1 hSw
  replace hC := hC.trans (CHr.wr W104 hSw hC.1)
  replace Eo := Eo.wr W104
  replace Fc := Fc.other W104 (Or.inr (slot_ne (Or.inr (wd22 hw)) (Or.inr (wd21 hw)) (by decide) (t := .byte) (t' := (.array .byte)) (by decide) (by decide)))
  replace B102 := B102.wr W104
  replace C102 := C102.other W104 (Or.inl ne_b102_o)
  replace F102 := F102.other W104 (Or.inl ne_b102_o)
  replace V102 := V102.other W104 (Ne.symm ne_o_u102)
  have OW104 := ext_wr OE102 W104 g_o
  replace hKd := Nat.le_trans hKd (Keep.of_wr W104).1
  replace KP := KP.wr W104 (Or.inl (List.mem_of_getElem? (i := 0) rfl))
  refine Go.aloadN X104 hx (hb hby d3_17) rfl rfl (q := 18) rfl ?_
  refine Go.ldcH X104 hx hZ hown (wd19 hw) (own_wS hw) e104 hS hKd (own_EW hw) (List.mem_of_getElem? (i := 2) rfl) hC (vs := []) (z := (0 : Int32)) ⟨by decide, rfl⟩ (by decide) rfl (hb hby d3_18) (nn := 0) (by decide) (by decide) (by decide) (by decide) (q := 20) rfl ?_
  intro b105 u105 kc105 T105 h105 k105 X105 e105 E105 hS hKd hZ hown B105 C105 F105 V105 hR105
  replace sf_o := hR105.safe Eo.lt sf_o
  replace hC := hC.trans hR105
  replace Eo := Eo.ext E105
  replace Fc := Fc.ext E105
  replace B102 := B102.ext E105
  replace C102 := C102.ext E105
  replace F102 := F102.ext E105
  replace V102 := V102.ext E105
  replace F104 := F104.ext E105
  have OE105 := ext_trans OW104 E105
  replace KP := KP.ext E105
  have ne_o_u105 := Exa.neArv Eo V105 (wd7 hw)
  have ne_b102_u105 := Exa.neArv B102 V105 (wd7 hw)
  refine Go.getF X105 hx hZ hown (host := "") (Or.inl (wd26 hw)) Via.refl e105 C105 (hb hby d3_20) (q := 23) rfl ?_
  intro T106 X106 e106
  refine Go.putF X106 hx hZ hown (host := "") (Or.inl (wd26 hw)) Via.refl e106 Fc Eo (Or.inr ⟨(wd22 hw), rfl, hnm⟩) (wd7 hw) (ty := .byte) (by decide) rfl rfl (hb hby d3_23) (q := 26) rfl ?_
  intro T107 h107 X107 e107 W107 F107
  have N107 := Fr.snoc X107 N104 g_o
  have hSw := sf_o
  replace sf_o := Safe.wr W107 hSw hC.1 hSw
  replace hC := hC.trans (CHr.wr W107 hSw hC.1)
  replace Eo := Eo.wr W107
  replace B102 := B102.wr W107
  replace C102 := C102.other W107 (Or.inl ne_b102_o)
  replace F102 := F102.other W107 (Or.inl ne_b102_o)
  replace V102 := V102.other W107 (Ne.symm ne_o_u102)
  replace F104 := F104.other W107 (Or.inr (slot_ne (Or.inr (wd21 hw)) (Or.inr (wd22 hw)) (by decide) (t := (.array .byte)) (t' := .byte) (by decide) (by decide)))
  replace B105 := B105.wr W107
  replace V105 := V105.other W107 (Ne.symm ne_o_u105)
  have OW107 := ext_wr OE105 W107 g_o
  replace hKd := Nat.le_trans hKd (Keep.of_wr W107).1
  replace KP := KP.wr W107 (Or.inl (List.mem_of_getElem? (i := 0) rfl))
  exact Go.retVH X107 hx hS hKd hs0 hZ (own_EW hw) hC hret hlk (hb hby d3_26) e107 (by decide) (by decide) ⟨u102, kc102, rfl, N107, KP, F104, F107, V102⟩
def Q_csj0 (Z : State) (o a : Addr) (ka : ClassId) (h0 : Heap) (vR : Option Value) (hR : Heap) (LR : List Loc) : Prop := ∃ b : Addr, ∃ kb : ClassId, vR = none ∧ Fr Z.heap.size LR ∧ Keep h0 hR [o] ∧ Fld Z hR o xS0 "value" "[B" (.ref b) ∧ Fld Z hR o xS0 "coder" "B" (.int 0) ∧ Arv Z hR b kb .byte (0 : Int32) [] (.int 0)
theorem csj0 (l : Launch) (Z : State) (a0 : Array Value) (hw : ∀ d ∈ tables_1, d.before a0 Z = true) (o a : Addr) (ka : ClassId) (h0 : Heap) (O0 : Ext Z.heap h0) (Eo : Exa Z h0 o xS0) (Fv : Fld Z h0 o xS0 "value" "[B" .null) (Fc : Fld Z h0 o xS0 "coder" "B" (.int 0)) (g_o : Z.heap.size ≤ o) (Va : Arv Z h0 a ka .char (0 : Int32) [] (.int 0)) :
    CtrH l Z consts_1 h0 (⟨xS0, "<init>", "([C)V"⟩ : MethodName) k2 2 none [] ({ frames := 2, cells := 4, slots := 8, locals := 29 } : Room) #[(.ref o), (.ref a)] (Q_csj0 Z o a ka h0) := by
  refine enterH (plainFor_of_name pn1) ?_
  intro pp ee ss mm below meth cc s₁ hx hby hml hZ hown hnm hret hlk X0 e0 hs0 hS hC
  replace hown : (ss.setVm ss.vm).vm.findClass xS0 = some mm.cls := hown
  have hKd := Nat.zero_le h0.size
  refine Go.cast (congrArg s₁.setTop (ef_csj0 mm o a)) ?_
  have N0 := Fr.nil Z.heap.size
  have KP := Keep.refl h0 [o]
  show Go pp ee below _ (s₁.setTop (mkF mm 0 #[.val (.ref o), .val (.ref a)] []))
  refine Go.aloadN X0 hx (hb hby d2_0) rfl rfl (q := 1) rfl ?_
  refine Go.aloadN X0 hx (hb hby d2_1) rfl rfl (q := 2) rfl ?_
  refine Go.iconst X0 hx (hb hby d2_2) (r := (0 : Int32)) rfl (q := 3) rfl ?_
  refine Go.aloadN X0 hx (hb hby d2_3) rfl rfl (q := 4) rfl ?_
  refine Go.alen X0 hx hZ e0 Va (hb hby d2_4) ?_
  refine Go.aconst_null X0 hx (hb hby d2_5) (q := 6) rfl ?_
  refine Go.initH X0 hx hZ hown hS hKd (own_EW hw) hC rfl (wd12 hw) (wd13 hw) (wd8 hw) (wd15 hw) (by decide) (csi0 l Z a0 hw o a (ka) h0 O0 Eo Fv Fc g_o Va) e0 (by rw [hml]; rfl) (hb hby d2_6) (argsL := [(.ref a), (.int 0), (.int 0), .null]) (rest := []) (lenOf pd0 rfl) rfl rfl (W := 0) (by first | exact Nat.le_refl _ | decide) (by decide) (by decide) (by decide) (by decide) ?_
  intro v101 T101 L101 k101 X101 hS hKd hZ hown hR101 hQ101
  obtain ⟨h101, e101⟩ : ∃ z, T101.heap = z := ⟨_, rfl⟩
  rw [e101] at hQ101 hKd hR101
  obtain ⟨b_101, kb_101, rfl, N101q, K101, P101_0, P101_1, P101_2⟩ := hQ101
  have N101 := Fr.app N0 N101q
  replace hC := hC.trans hR101
  replace Eo := Eo.keep K101
  have OK101 := ext_keep O0 K101 (allS g_o all0)
  replace KP := KP.trans K101 (allS (Or.inl (List.mem_of_getElem? (i := 0) rfl)) all0)
  exact Go.retVH X101 hx hS hKd hs0 hZ (own_EW hw) hC hret hlk (hb hby d2_9) e101 (by decide) (by decide) ⟨b_101, kb_101, rfl, N101, KP, P101_0, P101_1, P101_2⟩
def Q_ccmp1 (Z : State) (a b : Addr) (ka kb : ClassId) (c0 : Int32) (h0 : Heap) (vR : Option Value) (hR : Heap) (LR : List Loc) : Prop := vR = some (.int 1) ∧ Fr Z.heap.size LR ∧ Keep h0 hR [b] ∧ Arv Z hR b kb .byte (1 : Int32) [(.int (c0.toInt8.toInt32))] (.int 0)
theorem ccmp1 (l : Launch) (Z : State) (a0 : Array Value) (hw : ∀ d ∈ tables_1, d.before a0 Z = true) (a b : Addr) (ka kb : ClassId) (c0 : Int32) (h0 : Heap) (O0 : Ext Z.heap h0) (Va : Arv Z h0 a ka .char (1 : Int32) [(.int c0)] (.int 0)) (Vb : Arv Z h0 b kb .byte (1 : Int32) [(.int 0)] (.int 0)) (g_b : Z.heap.size ≤ b) (nab : a ≠ b) (hc0 : ¬ ((255 : Int32) < c0)) :
    Ctr l Z h0 (⟨"java/lang/StringUTF16", "compress", "([CI[BII)I"⟩ : MethodName) k43 7 (some .int) [] ({ frames := 0, cells := 0, slots := 0, locals := 0 } : Room) #[(.ref a), (.int 0), (.ref b), (.int 0), (.int 1)] (Q_ccmp1 Z a b ka kb c0 h0) := by
  refine enter (plainFor_of_name pn2) ?_
  intro pp ee ss mm below meth cc s₁ hx hby hml hZ hown hnm hret hlk X0 e0 hs0
  replace hown : ss.vm.findClass "java/lang/StringUTF16" = some mm.cls := hown
  refine Go.cast (congrArg s₁.setTop (ef_ccmp1 mm a b)) ?_
  have N0 := Fr.nil Z.heap.size
  have KP := Keep.refl h0 [b]
  show Go pp ee below _ (s₁.setTop (mkF mm 0 #[.val (.ref a), .val (.int 0), .val (.ref b), .val (.int 0), .val (.int 1), .unset, .unset] []))
  refine Go.iconst X0 hx (hb hby d43_0) (r := (0 : Int32)) rfl (q := 1) rfl ?_
  refine Go.istore X0 hx (hb hby d43_1) (l' := #[.val (.ref a), .val (.int 0), .val (.ref b), .val (.int 0), .val (.int 1), .val (.int 0), .unset]) rfl (q := 3) rfl ?_
  refine Go.iload X0 hx (hb hby d43_3) rfl (q := 5) rfl ?_
  refine Go.iload X0 hx (hb hby d43_5) rfl (q := 7) rfl ?_
  refine Go.icmpNo X0 hx (hb hby d43_7) (by decide) (q := 10) rfl ?_
  refine Go.aloadN X0 hx (hb hby d43_10) rfl rfl (q := 11) rfl ?_
  refine Go.iloadN X0 hx (hb hby d43_11) rfl (q := 12) rfl ?_
  refine Go.cal X0 hx hZ e0 Va ⟨by decide, by decide⟩ (v := (.int c0)) rfl (hb hby d43_12) ?_
  refine Go.istore X0 hx (hb hby d43_13) (l' := #[.val (.ref a), .val (.int 0), .val (.ref b), .val (.int 0), .val (.int 1), .val (.int 0), .val (.int c0)]) rfl (q := 15) rfl ?_
  refine Go.iload X0 hx (hb hby d43_15) rfl (q := 17) rfl ?_
  refine Go.sipush X0 hx (hb hby d43_17) (r := (255 : Int32)) rfl (q := 20) rfl ?_
  refine Go.icmpYes X0 hx (hb hby d43_20) (Jvm.Free.XT.ii_le_t hc0) (q := 26) (by decide) (by decide) ?_
  refine Go.aloadN X0 hx (hb hby d43_26) rfl rfl (q := 27) rfl ?_
  refine Go.iloadN X0 hx (hb hby d43_27) rfl (q := 28) rfl ?_
  refine Go.iload X0 hx (hb hby d43_28) rfl (q := 30) rfl ?_
  refine Go.i2b X0 hx (hb hby d43_30) rfl (q := 31) rfl ?_
  refine Go.bst X0 hx hZ e0 Vb ⟨by decide, by decide⟩ (i := 0) rfl (Nat.le_of_ble_eq_true rfl) (hb hby d43_31) ?_
  intro T101 h101 X101 e101 W101 V101
  rw [bb c0] at V101
  replace V101 : Arv Z h101 b kb .byte (1 : Int32) [(.int (c0.toInt8.toInt32))] (.int 0) := V101
  have N101 := Fr.snoc X101 N0 g_b
  replace Va := Va.other W101 nab
  have OW101 := ext_wr O0 W101 g_b
  replace KP := KP.wr W101 (Or.inl (List.mem_of_getElem? (i := 0) rfl))
  refine Go.iinc X101 hx (hb hby d43_32) rfl (r := (1 : Int32)) rfl (l' := #[.val (.ref a), .val (.int 1), .val (.ref b), .val (.int 0), .val (.int 1), .val (.int 0), .val (.int c0)]) rfl (q := 35) rfl ?_
  refine Go.iinc X101 hx (hb hby d43_35) rfl (r := (1 : Int32)) rfl (l' := #[.val (.ref a), .val (.int 1), .val (.ref b), .val (.int 1), .val (.int 1), .val (.int 0), .val (.int c0)]) rfl (q := 38) rfl ?_
  refine Go.iinc X101 hx (hb hby d43_38) rfl (r := (1 : Int32)) rfl (l' := #[.val (.ref a), .val (.int 1), .val (.ref b), .val (.int 1), .val (.int 1), .val (.int 1), .val (.int c0)]) rfl (q := 41) rfl ?_
  refine Go.goto X101 hx (hb hby d43_41) (q := 3) (by decide) (by decide) ?_
  refine Go.iload X101 hx (hb hby d43_3) rfl (q := 5) rfl ?_
  refine Go.iload X101 hx (hb hby d43_5) rfl (q := 7) rfl ?_
  refine Go.icmpYes X101 hx (hb hby d43_7) (by decide) (q := 44) (by decide) (by decide) ?_
  refine Go.iload X101 hx (hb hby d43_44) rfl (q := 46) rfl ?_
  exact Go.retI X101 hx hret hlk (Or.inl rfl) rfl (hb hby d43_46) e101 (by decide) (by decide) ⟨rfl, N101, KP, V101⟩
def Q_ccmq1 (Z : State) (a : Addr) (ka : ClassId) (c0 : Int32) (h0 : Heap) (vR : Option Value) (hR : Heap) (LR : List Loc) : Prop := ∃ b : Addr, ∃ kb : ClassId, vR = some (.ref b) ∧ Fr Z.heap.size LR ∧ Keep h0 hR [] ∧ h0.size ≤ b ∧ Arv Z hR b kb .byte (1 : Int32) [(.int (c0.toInt8.toInt32))] (.int 0)
theorem ccmq1 (l : Launch) (Z : State) (a0 : Array Value) (hw : ∀ d ∈ tables_1, d.before a0 Z = true) (a : Addr) (ka : ClassId) (c0 : Int32) (h0 : Heap) (O0 : Ext Z.heap h0) (Va : Arv Z h0 a ka .char (1 : Int32) [(.int c0)] (.int 0)) (hc0 : ¬ ((255 : Int32) < c0)) :
    Ctr l Z h0 (⟨"java/lang/StringUTF16", "compress", "([CII)[B"⟩ : MethodName) k42 6 (some (.array .byte)) [] ({ frames := 1, cells := 1, slots := 1, locals := 18 } : Room) #[(.ref a), (.int 0), (.int 1)] (Q_ccmq1 Z a ka c0 h0) := by
  refine enter (plainFor_of_name pn2) ?_
  intro pp ee ss mm below meth cc s₁ hx hby hml hZ hown hnm hret hlk X0 e0 hs0
  replace hown : ss.vm.findClass "java/lang/StringUTF16" = some mm.cls := hown
  refine Go.cast (congrArg s₁.setTop (ef_ccmq1 mm a)) ?_
  have N0 := Fr.nil Z.heap.size
  have KP := Keep.refl h0 []
  show Go pp ee below _ (s₁.setTop (mkF mm 0 #[.val (.ref a), .val (.int 0), .val (.int 1), .unset, .unset, .unset] []))
  refine Go.iloadN X0 hx (hb hby d42_0) rfl (q := 1) rfl ?_
  refine Go.newP X0 hx hZ (hb hby d42_1) (wd20 hw) e0 (by decide) (cap := 1) (by decide) (by decide) (by decide) (by decide) (ad := "[B") rfl (q := 3) rfl ?_
  intro b101 T101 h101 k101 X101 e101 q101 E101 V101 B101
  have ne_a_b101 : a ≠ b101 := ne_new Va.lt (Nat.le_of_eq q101)
  have g_b101 : Z.heap.size ≤ b101 := Nat.le_trans O0.1 (Nat.le_of_eq q101)
  have z_b101 : h0.size ≤ b101 := Nat.le_trans KP.1 (Nat.le_of_eq q101)
  replace Va := Va.ext E101
  have OE101 := ext_trans O0 E101
  replace KP := KP.ext E101
  replace V101 : Arv Z h101 b101 k101 .byte (1 : Int32) [(.int 0)] (.int 0) := V101.pad (pad_rep [] (.int 0) 1)
  refine Go.astoreN X101 hx (hb hby d42_3) rfl (l' := #[.val (.ref a), .val (.int 0), .val (.int 1), .val (.ref b101), .unset, .unset]) rfl (q := 4) rfl ?_
  refine Go.aloadN X101 hx (hb hby d42_4) rfl rfl (q := 5) rfl ?_
  refine Go.iloadN X101 hx (hb hby d42_5) rfl (q := 6) rfl ?_
  refine Go.aloadN X101 hx (hb hby d42_6) rfl rfl (q := 7) rfl ?_
  refine Go.iconst X101 hx (hb hby d42_7) (r := (0 : Int32)) rfl (q := 8) rfl ?_
  refine Go.iloadN X101 hx (hb hby d42_8) rfl (q := 9) rfl ?_
  refine Go.callS X101 hx hZ hown (wd224 hw) (wd225 hw) (wd222 hw) (wd226 hw) (by decide) (ccmp1 l Z a0 hw a b101 (ka) (k101) c0 h101 OE101 Va V101 g_b101 ne_a_b101 hc0) e101 (by rw [hml]; rfl) (hb hby d42_9) (argsL := [(.ref a), (.int 0), (.ref b101), (.int 0), (.int 1)]) (rest := []) (lenOf pd1 rfl) rfl rfl (W := 0) (by first | exact Nat.le_refl _ | decide) (by decide) (by decide) (by decide) (by decide) ?_
  intro v102 T102 L102 X102 hQ102
  obtain ⟨h102, e102⟩ : ∃ z, T102.heap = z := ⟨_, rfl⟩
  rw [e102] at hQ102
  obtain ⟨rfl, N102q, K102, P102_0⟩ := hQ102
  have N102 := Fr.app N0 N102q
  replace Va := Va.keep K102 (ninS ne_a_b101 nin0)
  replace B101 := B101.keep K102
  have OK102 := ext_keep OE101 K102 (allS g_b101 all0)
  replace KP := KP.trans K102 (allS (Or.inr z_b101) all0)
  refine Go.istore X102 hx (hb hby d42_12) (l' := #[.val (.ref a), .val (.int 0), .val (.int 1), .val (.ref b101), .val (.int 1), .unset]) rfl (q := 14) rfl ?_
  refine Go.iload X102 hx (hb hby d42_14) rfl (q := 16) rfl ?_
  refine Go.iloadN X102 hx (hb hby d42_16) rfl (q := 17) rfl ?_
  refine Go.icmpYes X102 hx (hb hby d42_17) (by decide) (q := 57) (by decide) (by decide) ?_
  refine Go.aloadN X102 hx (hb hby d42_57) rfl rfl (q := 58) rfl ?_
  exact Go.retA X102 hx hret hlk rfl rfl (hb hby d42_58) e102 (by decide) (by decide) ⟨b101, k101, rfl, N102, KP, z_b101, P102_0⟩
def Q_ccal1 (Z : State) (b : Addr) (kb : ClassId) (vs : List Value) (h0 : Heap) (vR : Option Value) (hR : Heap) (LR : List Loc) : Prop := vR = some (.int 0) ∧ Fr Z.heap.size LR ∧ hR = h0
theorem ccal1 (l : Launch) (Z : State) (a0 : Array Value) (hw : ∀ d ∈ tables_1, d.before a0 Z = true) (b : Addr) (kb : ClassId) (vs : List Value) (h0 : Heap) (O0 : Ext Z.heap h0) (Vb : Arv Z h0 b kb .byte (1 : Int32) vs (.int 0)) :
    Ctr l Z h0 (⟨"java/lang/StringUTF16", "coderFromArrayLen", "([BI)B"⟩ : MethodName) k44 2 (some .byte) [] ({ frames := 0, cells := 0, slots := 0, locals := 0 } : Room) #[(.ref b), (.int 1)] (Q_ccal1 Z b kb vs h0) := by
  refine enter (plainFor_of_name pn2) ?_
  intro pp ee ss mm below meth cc s₁ hx hby hml hZ hown hnm hret hlk X0 e0 hs0
  replace hown : ss.vm.findClass "java/lang/StringUTF16" = some mm.cls := hown
  refine Go.cast (congrArg s₁.setTop (ef_ccal1 mm b)) ?_
  have N0 := Fr.nil Z.heap.size
  show Go pp ee below _ (s₁.setTop (mkF mm 0 #[.val (.ref b), .val (.int 1)] []))
  refine Go.iloadN X0 hx (hb hby d44_0) rfl (q := 1) rfl ?_
  refine Go.aloadN X0 hx (hb hby d44_1) rfl rfl (q := 2) rfl ?_
  refine Go.alen X0 hx hZ e0 Vb (hb hby d44_2) ?_
  refine Go.isub X0 hx (hb hby d44_3) (r := (0 : Int32)) rfl (q := 4) rfl ?_
  refine Go.bipush X0 hx (hb hby d44_4) (r := (31 : Int32)) rfl (q := 6) rfl ?_
  refine Go.iushr X0 hx (hb hby d44_6) (r := (0 : Int32)) rfl (q := 7) rfl ?_
  refine Go.i2b X0 hx (hb hby d44_7) (r := (0 : Int32)) rfl (q := 8) rfl ?_
  exact Go.retI X0 hx hret hlk (by simp) rfl (hb hby d44_8) e0 (by decide) (by decide) ⟨rfl, N0, rfl⟩
def Q_csi1 (Z : State) (o a : Addr) (ka : ClassId) (c0 cs : Int32) (h0 : Heap) (vR : Option Value) (hR : Heap) (LR : List Loc) : Prop := ∃ b : Addr, ∃ kb : ClassId, vR = none ∧ Fr Z.heap.size LR ∧ Keep h0 hR [o] ∧ h0.size ≤ b ∧ Fld Z hR o xS0 "value" "[B" (.ref b) ∧ Fld Z hR o xS0 "coder" "B" (.int 0) ∧ Arv Z hR b kb .byte (1 : Int32) [(.int (c0.toInt8.toInt32))] (.int 0)
theorem csi1 (l : Launch) (Z : State) (a0 : Array Value) (hw : ∀ d ∈ tables_1, d.before a0 Z = true) (o a : Addr) (ka : ClassId) (c0 cs : Int32) (h0 : Heap) (O0 : Ext Z.heap h0) (Eo : Exa Z h0 o xS0) (Fv : Fld Z h0 o xS0 "value" "[B" .null) (Fc : Fld Z h0 o xS0 "coder" "B" (.int 0)) (g_o : Z.heap.size ≤ o) (Va : Arv Z h0 a ka .char (1 : Int32) [(.int c0)] (.int 0)) (SCS : Sta Z Z.heap xS0 xS3 "Z" (.int cs)) (hcs : ¬ (cs = (0 : Int32))) (hc0 : ¬ ((255 : Int32) < c0)) :
    Ctr l Z h0 (⟨xS0, "<init>", "([CIILjava/lang/Void;)V"⟩ : MethodName) k3 6 none [] ({ frames := 2, cells := 1, slots := 1, locals := 35 } : Room) #[(.ref o), (.ref a), (.int 0), (.int 1), .null] (Q_csi1 Z o a ka c0 cs h0) := by
  refine enter (plainFor_of_name pn1) ?_
  intro pp ee ss mm below meth cc s₁ hx hby hml hZ hown hnm hret hlk X0 e0 hs0
  replace hown : ss.vm.findClass xS0 = some mm.cls := hown
  refine Go.cast (congrArg s₁.setTop (ef_csi1 mm o a)) ?_
  have N0 := Fr.nil Z.heap.size
  have KP := Keep.refl h0 [o]
  show Go pp ee below _ (s₁.setTop (mkF mm 0 #[.val (.ref o), .val (.ref a), .val (.int 0), .val (.int 1), .val .null, .unset] []))
  refine Go.aloadN X0 hx (hb hby d3_0) rfl rfl (q := 1) rfl ?_
  refine Go.initO X0 hx hZ hown (wd16 hw) (wd17 hw) (wd18 hw) e0 (by rw [hml]; rfl) (hb hby d3_1) (by decide) (W := 0) (by exact Nat.le_refl _) (by decide) (q := 4) rfl ?_
  intro T101 X101 e101
  refine Go.iloadN X101 hx (hb hby d3_4) rfl (q := 5) rfl ?_
  refine Go.ifYes X101 hx (hb hby d3_5) (by decide) (q := 27) (by decide) (by decide) ?_
  refine Go.getS X101 hx hZ hown (host := "") (Or.inl (wd51 hw)) Via.refl e101 (SCS.ext O0) (hb hby d3_27) (q := 30) rfl ?_
  intro T102 X102 e102
  refine Go.ifNo X102 hx (hb hby d3_30) (Jvm.Free.XT.i0_eq_f hcs) (q := 33) rfl ?_
  refine Go.aloadN X102 hx (hb hby d3_33) rfl rfl (q := 34) rfl ?_
  refine Go.iloadN X102 hx (hb hby d3_34) rfl (q := 35) rfl ?_
  refine Go.iloadN X102 hx (hb hby d3_35) rfl (q := 36) rfl ?_
  refine Go.callS X102 hx hZ hown (wd220 hw) (wd221 hw) (wd222 hw) (wd223 hw) (by decide) (ccmq1 l Z a0 hw a (ka) c0 h0 O0 Va hc0) e102 (by rw [hml]; rfl) (hb hby d3_36) (argsL := [(.ref a), (.int 0), (.int 1)]) (rest := []) (lenOf pd2 rfl) rfl rfl (W := 0) (by first | exact Nat.le_refl _ | decide) (by decide) (by decide) (by decide) (by decide) ?_
  intro v103 T103 L103 X103 hQ103
  obtain ⟨h103, e103⟩ : ∃ z, T103.heap = z := ⟨_, rfl⟩
  rw [e103] at hQ103
  obtain ⟨b_103, kb_103, rfl, N103q, K103, fr103_b, P103_0⟩ := hQ103
  have N103 := Fr.app N0 N103q
  have ne_o_b_103 : o ≠ b_103 := ne_new Eo.lt fr103_b
  have ne_a_b_103 : a ≠ b_103 := ne_new Va.lt fr103_b
  have g_b_103 : Z.heap.size ≤ b_103 := Nat.le_trans O0.1 fr103_b
  have z_b_103 : h0.size ≤ b_103 := Nat.le_trans KP.1 fr103_b
  replace Eo := Eo.keep K103
  replace Fv := Fv.keep K103 nin0
  replace Fc := Fc.keep K103 nin0
  replace Va := Va.keep K103 nin0
  have OK103 := ext_keep O0 K103 all0
  replace KP := KP.trans K103 all0
  refine Go.astore X103 hx (hb hby d3_39) rfl (l' := #[.val (.ref o), .val (.ref a), .val (.int 0), .val (.int 1), .val .null, .val (.ref b_103)]) rfl (q := 41) rfl ?_
  refine Go.aloadN X103 hx (hb hby d3_41) rfl rfl (q := 42) rfl ?_
  refine Go.aload X103 hx (hb hby d3_42) rfl rfl (q := 44) rfl ?_
  refine Go.iloadN X103 hx (hb hby d3_44) rfl (q := 45) rfl ?_
  refine Go.callS X103 hx hZ hown (wd227 hw) (wd228 hw) (wd222 hw) (wd229 hw) (by decide) (ccal1 l Z a0 hw b_103 (kb_103) ([(.int (c0.toInt8.toInt32))]) h103 OK103 P103_0) e103 (by rw [hml]; rfl) (hb hby d3_45) (argsL := [(.ref b_103), (.int 1)]) (rest := [(.ref o)]) (lenOf pd3 rfl) rfl rfl (W := 1) (by first | exact Nat.le_refl _ | decide) (by decide) (by decide) (by decide) (by decide) ?_
  intro v104 T104 L104 X104 hQ104
  obtain ⟨rfl, N104q, e104⟩ := hQ104
  have N104 := Fr.app N103 N104q
  refine Go.putF X104 hx hZ hown (host := "") (Or.inl (wd26 hw)) Via.refl e104 Fc Eo (Or.inr ⟨(wd22 hw), rfl, hnm⟩) (wd7 hw) (ty := .byte) (by decide) rfl rfl (hb hby d3_48) (q := 51) rfl ?_
  intro T105 h105 X105 e105 W105 F105
  have N105 := Fr.snoc X105 N104 g_o
  replace Eo := Eo.wr W105
  replace Fv := Fv.other W105 (Or.inr (slot_ne (Or.inr (wd21 hw)) (Or.inr (wd22 hw)) (by decide) (t := (.array .byte)) (t' := .byte) (by decide) (by decide)))
  replace P103_0 := P103_0.other W105 (Ne.symm ne_o_b_103)
  have OW105 := ext_wr OK103 W105 g_o
  replace KP := KP.wr W105 (Or.inl (List.mem_of_getElem? (i := 0) rfl))
  refine Go.aloadN X105 hx (hb hby d3_51) rfl rfl (q := 52) rfl ?_
  refine Go.aload X105 hx (hb hby d3_52) rfl rfl (q := 54) rfl ?_
  refine Go.putF X105 hx hZ hown (host := "") (Or.inl (wd25 hw)) Via.refl e105 Fv Eo (Or.inr ⟨(wd21 hw), rfl, hnm⟩) (wd7 hw) (ty := (.array .byte)) (by decide) rfl rfl (hb hby d3_54) (q := 57) rfl ?_
  intro T106 h106 X106 e106 W106 F106
  have N106 := Fr.snoc X106 N105 g_o
  replace Eo := Eo.wr W106
  replace P103_0 := P103_0.other W106 (Ne.symm ne_o_b_103)
  replace F105 := F105.other W106 (Or.inr (slot_ne (Or.inr (wd22 hw)) (Or.inr (wd21 hw)) (by decide) (t := .byte) (t' := (.array .byte)) (by decide) (by decide)))
  have OW106 := ext_wr OW105 W106 g_o
  replace KP := KP.wr W106 (Or.inl (List.mem_of_getElem? (i := 0) rfl))
  exact Go.retV X106 hx hret hlk (hb hby d3_57) e106 (by decide) (by decide) ⟨b_103, kb_103, rfl, N106, KP, z_b_103, F106, F105, P103_0⟩
def Q_csj1 (Z : State) (o a : Addr) (ka : ClassId) (c0 cs : Int32) (h0 : Heap) (vR : Option Value) (hR : Heap) (LR : List Loc) : Prop := ∃ b : Addr, ∃ kb : ClassId, vR = none ∧ Fr Z.heap.size LR ∧ Keep h0 hR [o] ∧ h0.size ≤ b ∧ Fld Z hR o xS0 "value" "[B" (.ref b) ∧ Fld Z hR o xS0 "coder" "B" (.int 0) ∧ Arv Z hR b kb .byte (1 : Int32) [(.int (c0.toInt8.toInt32))] (.int 0)
theorem csj1 (l : Launch) (Z : State) (a0 : Array Value) (hw : ∀ d ∈ tables_1, d.before a0 Z = true) (o a : Addr) (ka : ClassId) (c0 cs : Int32) (h0 : Heap) (O0 : Ext Z.heap h0) (Eo : Exa Z h0 o xS0) (Fv : Fld Z h0 o xS0 "value" "[B" .null) (Fc : Fld Z h0 o xS0 "coder" "B" (.int 0)) (g_o : Z.heap.size ≤ o) (Va : Arv Z h0 a ka .char (1 : Int32) [(.int c0)] (.int 0)) (SCS : Sta Z Z.heap xS0 xS3 "Z" (.int cs)) (hcs : ¬ (cs = (0 : Int32))) (hc0 : ¬ ((255 : Int32) < c0)) :
    Ctr l Z h0 (⟨xS0, "<init>", "([C)V"⟩ : MethodName) k2 2 none [] ({ frames := 3, cells := 1, slots := 1, locals := 52 } : Room) #[(.ref o), (.ref a)] (Q_csj1 Z o a ka c0 cs h0) := by
  refine enter (plainFor_of_name pn1) ?_
  intro pp ee ss mm below meth cc s₁ hx hby hml hZ hown hnm hret hlk X0 e0 hs0
  replace hown : ss.vm.findClass xS0 = some mm.cls := hown
  refine Go.cast (congrArg s₁.setTop (ef_csj1 mm o a)) ?_
  have N0 := Fr.nil Z.heap.size
  have KP := Keep.refl h0 [o]
  show Go pp ee below _ (s₁.setTop (mkF mm 0 #[.val (.ref o), .val (.ref a)] []))
  refine Go.aloadN X0 hx (hb hby d2_0) rfl rfl (q := 1) rfl ?_
  refine Go.aloadN X0 hx (hb hby d2_1) rfl rfl (q := 2) rfl ?_
  refine Go.iconst X0 hx (hb hby d2_2) (r := (0 : Int32)) rfl (q := 3) rfl ?_
  refine Go.aloadN X0 hx (hb hby d2_3) rfl rfl (q := 4) rfl ?_
  refine Go.alen X0 hx hZ e0 Va (hb hby d2_4) ?_
  refine Go.aconst_null X0 hx (hb hby d2_5) (q := 6) rfl ?_
  refine Go.init X0 hx hZ hown rfl (wd12 hw) (wd13 hw) (wd8 hw) (wd15 hw) (by decide) (csi1 l Z a0 hw o a (ka) c0 cs h0 O0 Eo Fv Fc g_o Va SCS hcs hc0) e0 (by rw [hml]; rfl) (hb hby d2_6) (argsL := [(.ref a), (.int 0), (.int 1), .null]) (rest := []) (lenOf pd0 rfl) rfl rfl (W := 0) (by first | exact Nat.le_refl _ | decide) (by decide) (by decide) (by decide) (by decide) ?_
  intro v101 T101 L101 X101 hQ101
  obtain ⟨h101, e101⟩ : ∃ z, T101.heap = z := ⟨_, rfl⟩
  rw [e101] at hQ101
  obtain ⟨b_101, kb_101, rfl, N101q, K101, fr101_b, P101_0, P101_1, P101_2⟩ := hQ101
  have N101 := Fr.app N0 N101q
  have ne_o_b_101 : o ≠ b_101 := ne_new Eo.lt fr101_b
  have ne_a_b_101 : a ≠ b_101 := ne_new Va.lt fr101_b
  have g_b_101 : Z.heap.size ≤ b_101 := Nat.le_trans O0.1 fr101_b
  have z_b_101 : h0.size ≤ b_101 := Nat.le_trans KP.1 fr101_b
  replace Eo := Eo.keep K101
  have OK101 := ext_keep O0 K101 (allS g_o all0)
  replace KP := KP.trans K101 (allS (Or.inl (List.mem_of_getElem? (i := 0) rfl)) all0)
  exact Go.retV X101 hx hret hlk (hb hby d2_9) e101 (by decide) (by decide) ⟨b_101, kb_101, rfl, N101, KP, z_b_101, P101_0, P101_1, P101_2⟩
def Q_ccmp2 (Z : State) (a b : Addr) (ka kb : ClassId) (c0 c1 : Int32) (h0 : Heap) (vR : Option Value) (hR : Heap) (LR : List Loc) : Prop := vR = some (.int 2) ∧ Fr Z.heap.size LR ∧ Keep h0 hR [b] ∧ Arv Z hR b kb .byte (2 : Int32) [(.int (c0.toInt8.toInt32)), (.int (c1.toInt8.toInt32))] (.int 0)
theorem ccmp2 (l : Launch) (Z : State) (a0 : Array Value) (hw : ∀ d ∈ tables_1, d.before a0 Z = true) (a b : Addr) (ka kb : ClassId) (c0 c1 : Int32) (h0 : Heap) (O0 : Ext Z.heap h0) (Va : Arv Z h0 a ka .char (2 : Int32) [(.int c0), (.int c1)] (.int 0)) (Vb : Arv Z h0 b kb .byte (2 : Int32) [(.int 0), (.int 0)] (.int 0)) (g_b : Z.heap.size ≤ b) (nab : a ≠ b) (hc0 : ¬ ((255 : Int32) < c0)) (hc1 : ¬ ((255 : Int32) < c1)) :
    Ctr l Z h0 (⟨"java/lang/StringUTF16", "compress", "([CI[BII)I"⟩ : MethodName) k43 7 (some .int) [] ({ frames := 0, cells := 0, slots := 0, locals := 0 } : Room) #[(.ref a), (.int 0), (.ref b), (.int 0), (.int 2)] (Q_ccmp2 Z a b ka kb c0 c1 h0) := by
  refine enter (plainFor_of_name pn2) ?_
  intro pp ee ss mm below meth cc s₁ hx hby hml hZ hown hnm hret hlk X0 e0 hs0
  replace hown : ss.vm.findClass "java/lang/StringUTF16" = some mm.cls := hown
  refine Go.cast (congrArg s₁.setTop (ef_ccmp2 mm a b)) ?_
  have N0 := Fr.nil Z.heap.size
  have KP := Keep.refl h0 [b]
  show Go pp ee below _ (s₁.setTop (mkF mm 0 #[.val (.ref a), .val (.int 0), .val (.ref b), .val (.int 0), .val (.int 2), .unset, .unset] []))
  refine Go.iconst X0 hx (hb hby d43_0) (r := (0 : Int32)) rfl (q := 1) rfl ?_
  refine Go.istore X0 hx (hb hby d43_1) (l' := #[.val (.ref a), .val (.int 0), .val (.ref b), .val (.int 0), .val (.int 2), .val (.int 0), .unset]) rfl (q := 3) rfl ?_
  refine Go.iload X0 hx (hb hby d43_3) rfl (q := 5) rfl ?_
  refine Go.iload X0 hx (hb hby d43_5) rfl (q := 7) rfl ?_
  refine Go.icmpNo X0 hx (hb hby d43_7) (by decide) (q := 10) rfl ?_
  refine Go.aloadN X0 hx (hb hby d43_10) rfl rfl (q := 11) rfl ?_
  refine Go.iloadN X0 hx (hb hby d43_11) rfl (q := 12) rfl ?_
  refine Go.cal X0 hx hZ e0 Va ⟨by decide, by decide⟩ (v := (.int c0)) rfl (hb hby d43_12) ?_
  refine Go.istore X0 hx (hb hby d43_13) (l' := #[.val (.ref a), .val (.int 0), .val (.ref b), .val (.int 0), .val (.int 2), .val (.int 0), .val (.int c0)]) rfl (q := 15) rfl ?_
  refine Go.iload X0 hx (hb hby d43_15) rfl (q := 17) rfl ?_
  refine Go.sipush X0 hx (hb hby d43_17) (r := (255 : Int32)) rfl (q := 20) rfl ?_
  refine Go.icmpYes X0 hx (hb hby d43_20) (Jvm.Free.XT.ii_le_t hc0) (q := 26) (by decide) (by decide) ?_
  refine Go.aloadN X0 hx (hb hby d43_26) rfl rfl (q := 27) rfl ?_
  refine Go.iloadN X0 hx (hb hby d43_27) rfl (q := 28) rfl ?_
  refine Go.iload X0 hx (hb hby d43_28) rfl (q := 30) rfl ?_
  refine Go.i2b X0 hx (hb hby d43_30) rfl (q := 31) rfl ?_
  refine Go.bst X0 hx hZ e0 Vb ⟨by decide, by decide⟩ (i := 0) rfl (Nat.le_of_ble_eq_true rfl) (hb hby d43_31) ?_
  intro T101 h101 X101 e101 W101 V101
  rw [bb c0] at V101
  replace V101 : Arv Z h101 b kb .byte (2 : Int32) [(.int (c0.toInt8.toInt32)), (.int 0)] (.int 0) := V101
  have N101 := Fr.snoc X101 N0 g_b
  replace Va := Va.other W101 nab
  have OW101 := ext_wr O0 W101 g_b
  replace KP := KP.wr W101 (Or.inl (List.mem_of_getElem? (i := 0) rfl))
  refine Go.iinc X101 hx (hb hby d43_32) rfl (r := (1 : Int32)) rfl (l' := #[.val (.ref a), .val (.int 1), .val (.ref b), .val (.int 0), .val (.int 2), .val (.int 0), .val (.int c0)]) rfl (q := 35) rfl ?_
  refine Go.iinc X101 hx (hb hby d43_35) rfl (r := (1 : Int32)) rfl (l' := #[.val (.ref a), .val (.int 1), .val (.ref b), .val (.int 1), .val (.int 2), .val (.int 0), .val (.int c0)]) rfl (q := 38) rfl ?_
  refine Go.iinc X101 hx (hb hby d43_38) rfl (r := (1 : Int32)) rfl (l' := #[.val (.ref a), .val (.int 1), .val (.ref b), .val (.int 1), .val (.int 2), .val (.int 1), .val (.int c0)]) rfl (q := 41) rfl ?_
  refine Go.goto X101 hx (hb hby d43_41) (q := 3) (by decide) (by decide) ?_
  refine Go.iload X101 hx (hb hby d43_3) rfl (q := 5) rfl ?_
  refine Go.iload X101 hx (hb hby d43_5) rfl (q := 7) rfl ?_
  refine Go.icmpNo X101 hx (hb hby d43_7) (by decide) (q := 10) rfl ?_
  refine Go.aloadN X101 hx (hb hby d43_10) rfl rfl (q := 11) rfl ?_
  refine Go.iloadN X101 hx (hb hby d43_11) rfl (q := 12) rfl ?_
  refine Go.cal X101 hx hZ e101 Va ⟨by decide, by decide⟩ (v := (.int c1)) rfl (hb hby d43_12) ?_
  refine Go.istore X101 hx (hb hby d43_13) (l' := #[.val (.ref a), .val (.int 1), .val (.ref b), .val (.int 1), .val (.int 2), .val (.int 1), .val (.int c1)]) rfl (q := 15) rfl ?_
  refine Go.iload X101 hx (hb hby d43_15) rfl (q := 17) rfl ?_
  refine Go.sipush X101 hx (hb hby d43_17) (r := (255 : Int32)) rfl (q := 20) rfl ?_
  refine Go.icmpYes X101 hx (hb hby d43_20) (Jvm.Free.XT.ii_le_t hc1) (q := 26) (by decide) (by decide) ?_
  refine Go.aloadN X101 hx (hb hby d43_26) rfl rfl (q := 27) rfl ?_
  refine Go.iloadN X101 hx (hb hby d43_27) rfl (q := 28) rfl ?_
  refine Go.iload X101 hx (hb hby d43_28) rfl (q := 30) rfl ?_
  refine Go.i2b X101 hx (hb hby d43_30) rfl (q := 31) rfl ?_
  refine Go.bst X101 hx hZ e101 V101 ⟨by decide, by decide⟩ (i := 1) rfl (Nat.le_of_ble_eq_true rfl) (hb hby d43_31) ?_
  intro T102 h102 X102 e102 W102 V102
  rw [bb c1] at V102
  replace V102 : Arv Z h102 b kb .byte (2 : Int32) [(.int (c0.toInt8.toInt32)), (.int (c1.toInt8.toInt32))] (.int 0) := V102
  have N102 := Fr.snoc X102 N101 g_b
  replace Va := Va.other W102 nab
  have OW102 := ext_wr OW101 W102 g_b
  replace KP := KP.wr W102 (Or.inl (List.mem_of_getElem? (i := 0) rfl))
  refine Go.iinc X102 hx (hb hby d43_32) rfl (r := (2 : Int32)) rfl (l' := #[.val (.ref a), .val (.int 2), .val (.ref b), .val (.int 1), .val (.int 2), .val (.int 1), .val (.int c1)]) rfl (q := 35) rfl ?_
  refine Go.iinc X102 hx (hb hby d43_35) rfl (r := (2 : Int32)) rfl (l' := #[.val (.ref a), .val (.int 2), .val (.ref b), .val (.int 2), .val (.int 2), .val (.int 1), .val (.int c1)]) rfl (q := 38) rfl ?_
  refine Go.iinc X102 hx (hb hby d43_38) rfl (r := (2 : Int32)) rfl (l' := #[.val (.ref a), .val (.int 2), .val (.ref b), .val (.int 2), .val (.int 2), .val (.int 2), .val (.int c1)]) rfl (q := 41) rfl ?_
  refine Go.goto X102 hx (hb hby d43_41) (q := 3) (by decide) (by decide) ?_
  refine Go.iload X102 hx (hb hby d43_3) rfl (q := 5) rfl ?_
  refine Go.iload X102 hx (hb hby d43_5) rfl (q := 7) rfl ?_
  refine Go.icmpYes X102 hx (hb hby d43_7) (by decide) (q := 44) (by decide) (by decide) ?_
  refine Go.iload X102 hx (hb hby d43_44) rfl (q := 46) rfl ?_
  exact Go.retI X102 hx hret hlk (Or.inl rfl) rfl (hb hby d43_46) e102 (by decide) (by decide) ⟨rfl, N102, KP, V102⟩
def Q_ccmq2 (Z : State) (a : Addr) (ka : ClassId) (c0 c1 : Int32) (h0 : Heap) (vR : Option Value) (hR : Heap) (LR : List Loc) : Prop := ∃ b : Addr, ∃ kb : ClassId, vR = some (.ref b) ∧ Fr Z.heap.size LR ∧ Keep h0 hR [] ∧ h0.size ≤ b ∧ Arv Z hR b kb .byte (2 : Int32) [(.int (c0.toInt8.toInt32)), (.int (c1.toInt8.toInt32))] (.int 0)
theorem ccmq2 (l : Launch) (Z : State) (a0 : Array Value) (hw : ∀ d ∈ tables_1, d.before a0 Z = true) (a : Addr) (ka : ClassId) (c0 c1 : Int32) (h0 : Heap) (O0 : Ext Z.heap h0) (Va : Arv Z h0 a ka .char (2 : Int32) [(.int c0), (.int c1)] (.int 0)) (hc0 : ¬ ((255 : Int32) < c0)) (hc1 : ¬ ((255 : Int32) < c1)) :
    Ctr l Z h0 (⟨"java/lang/StringUTF16", "compress", "([CII)[B"⟩ : MethodName) k42 6 (some (.array .byte)) [] ({ frames := 1, cells := 1, slots := 2, locals := 18 } : Room) #[(.ref a), (.int 0), (.int 2)] (Q_ccmq2 Z a ka c0 c1 h0) := by
  refine enter (plainFor_of_name pn2) ?_
  intro pp ee ss mm below meth cc s₁ hx hby hml hZ hown hnm hret hlk X0 e0 hs0
  replace hown : ss.vm.findClass "java/lang/StringUTF16" = some mm.cls := hown
  refine Go.cast (congrArg s₁.setTop (ef_ccmq2 mm a)) ?_
  have N0 := Fr.nil Z.heap.size
  have KP := Keep.refl h0 []
  show Go pp ee below _ (s₁.setTop (mkF mm 0 #[.val (.ref a), .val (.int 0), .val (.int 2), .unset, .unset, .unset] []))
  refine Go.iloadN X0 hx (hb hby d42_0) rfl (q := 1) rfl ?_
  refine Go.newP X0 hx hZ (hb hby d42_1) (wd20 hw) e0 (by decide) (cap := 2) (by decide) (by decide) (by decide) (by decide) (ad := "[B") rfl (q := 3) rfl ?_
  intro b101 T101 h101 k101 X101 e101 q101 E101 V101 B101
  have ne_a_b101 : a ≠ b101 := ne_new Va.lt (Nat.le_of_eq q101)
  have g_b101 : Z.heap.size ≤ b101 := Nat.le_trans O0.1 (Nat.le_of_eq q101)
  have z_b101 : h0.size ≤ b101 := Nat.le_trans KP.1 (Nat.le_of_eq q101)
  replace Va := Va.ext E101
  have OE101 := ext_trans O0 E101
  replace KP := KP.ext E101
  replace V101 : Arv Z h101 b101 k101 .byte (2 : Int32) [(.int 0), (.int 0)] (.int 0) := V101.pad (pad_rep [] (.int 0) 2)
  refine Go.astoreN X101 hx (hb hby d42_3) rfl (l' := #[.val (.ref a), .val (.int 0), .val (.int 2), .val (.ref b101), .unset, .unset]) rfl (q := 4) rfl ?_
  refine Go.aloadN X101 hx (hb hby d42_4) rfl rfl (q := 5) rfl ?_
  refine Go.iloadN X101 hx (hb hby d42_5) rfl (q := 6) rfl ?_
  refine Go.aloadN X101 hx (hb hby d42_6) rfl rfl (q := 7) rfl ?_
  refine Go.iconst X101 hx (hb hby d42_7) (r := (0 : Int32)) rfl (q := 8) rfl ?_
  refine Go.iloadN X101 hx (hb hby d42_8) rfl (q := 9) rfl ?_
  refine Go.callS X101 hx hZ hown (wd224 hw) (wd225 hw) (wd222 hw) (wd226 hw) (by decide) (ccmp2 l Z a0 hw a b101 (ka) (k101) c0 c1 h101 OE101 Va V101 g_b101 ne_a_b101 hc0 hc1) e101 (by rw [hml]; rfl) (hb hby d42_9) (argsL := [(.ref a), (.int 0), (.ref b101), (.int 0), (.int 2)]) (rest := []) (lenOf pd1 rfl) rfl rfl (W := 0) (by first | exact Nat.le_refl _ | decide) (by decide) (by decide) (by decide) (by decide) ?_
  intro v102 T102 L102 X102 hQ102
  obtain ⟨h102, e102⟩ : ∃ z, T102.heap = z := ⟨_, rfl⟩
  rw [e102] at hQ102
  obtain ⟨rfl, N102q, K102, P102_0⟩ := hQ102
  have N102 := Fr.app N0 N102q
  replace Va := Va.keep K102 (ninS ne_a_b101 nin0)
  replace B101 := B101.keep K102
  have OK102 := ext_keep OE101 K102 (allS g_b101 all0)
  replace KP := KP.trans K102 (allS (Or.inr z_b101) all0)
  refine Go.istore X102 hx (hb hby d42_12) (l' := #[.val (.ref a), .val (.int 0), .val (.int 2), .val (.ref b101), .val (.int 2), .unset]) rfl (q := 14) rfl ?_
  refine Go.iload X102 hx (hb hby d42_14) rfl (q := 16) rfl ?_
  refine Go.iloadN X102 hx (hb hby d42_16) rfl (q := 17) rfl ?_
  refine Go.icmpYes X102 hx (hb hby d42_17) (by decide) (q := 57) (by decide) (by decide) ?_
  refine Go.aloadN X102 hx (hb hby d42_57) rfl rfl (q := 58) rfl ?_
  exact Go.retA X102 hx hret hlk rfl rfl (hb hby d42_58) e102 (by decide) (by decide) ⟨b101, k101, rfl, N102, KP, z_b101, P102_0⟩
def Q_ccal2 (Z : State) (b : Addr) (kb : ClassId) (vs : List Value) (h0 : Heap) (vR : Option Value) (hR : Heap) (LR : List Loc) : Prop := vR = some (.int 0) ∧ Fr Z.heap.size LR ∧ hR = h0
theorem ccal2 (l : Launch) (Z : State) (a0 : Array Value) (hw : ∀ d ∈ tables_1, d.before a0 Z = true) (b : Addr) (kb : ClassId) (vs : List Value) (h0 : Heap) (O0 : Ext Z.heap h0) (Vb : Arv Z h0 b kb .byte (2 : Int32) vs (.int 0)) :
    Ctr l Z h0 (⟨"java/lang/StringUTF16", "coderFromArrayLen", "([BI)B"⟩ : MethodName) k44 2 (some .byte) [] ({ frames := 0, cells := 0, slots := 0, locals := 0 } : Room) #[(.ref b), (.int 2)] (Q_ccal2 Z b kb vs h0) := by
  refine enter (plainFor_of_name pn2) ?_
  intro pp ee ss mm below meth cc s₁ hx hby hml hZ hown hnm hret hlk X0 e0 hs0
  replace hown : ss.vm.findClass "java/lang/StringUTF16" = some mm.cls := hown
  refine Go.cast (congrArg s₁.setTop (ef_ccal2 mm b)) ?_
  have N0 := Fr.nil Z.heap.size
  show Go pp ee below _ (s₁.setTop (mkF mm 0 #[.val (.ref b), .val (.int 2)] []))
  refine Go.iloadN X0 hx (hb hby d44_0) rfl (q := 1) rfl ?_
  refine Go.aloadN X0 hx (hb hby d44_1) rfl rfl (q := 2) rfl ?_
  refine Go.alen X0 hx hZ e0 Vb (hb hby d44_2) ?_
  refine Go.isub X0 hx (hb hby d44_3) (r := (0 : Int32)) rfl (q := 4) rfl ?_
  refine Go.bipush X0 hx (hb hby d44_4) (r := (31 : Int32)) rfl (q := 6) rfl ?_
  refine Go.iushr X0 hx (hb hby d44_6) (r := (0 : Int32)) rfl (q := 7) rfl ?_
  refine Go.i2b X0 hx (hb hby d44_7) (r := (0 : Int32)) rfl (q := 8) rfl ?_
  exact Go.retI X0 hx hret hlk (by simp) rfl (hb hby d44_8) e0 (by decide) (by decide) ⟨rfl, N0, rfl⟩
def Q_csi2 (Z : State) (o a : Addr) (ka : ClassId) (c0 c1 cs : Int32) (h0 : Heap) (vR : Option Value) (hR : Heap) (LR : List Loc) : Prop := ∃ b : Addr, ∃ kb : ClassId, vR = none ∧ Fr Z.heap.size LR ∧ Keep h0 hR [o] ∧ h0.size ≤ b ∧ Fld Z hR o xS0 "value" "[B" (.ref b) ∧ Fld Z hR o xS0 "coder" "B" (.int 0) ∧ Arv Z hR b kb .byte (2 : Int32) [(.int (c0.toInt8.toInt32)), (.int (c1.toInt8.toInt32))] (.int 0)
theorem csi2 (l : Launch) (Z : State) (a0 : Array Value) (hw : ∀ d ∈ tables_1, d.before a0 Z = true) (o a : Addr) (ka : ClassId) (c0 c1 cs : Int32) (h0 : Heap) (O0 : Ext Z.heap h0) (Eo : Exa Z h0 o xS0) (Fv : Fld Z h0 o xS0 "value" "[B" .null) (Fc : Fld Z h0 o xS0 "coder" "B" (.int 0)) (g_o : Z.heap.size ≤ o) (Va : Arv Z h0 a ka .char (2 : Int32) [(.int c0), (.int c1)] (.int 0)) (SCS : Sta Z Z.heap xS0 xS3 "Z" (.int cs)) (hcs : ¬ (cs = (0 : Int32))) (hc0 : ¬ ((255 : Int32) < c0)) (hc1 : ¬ ((255 : Int32) < c1)) :
    Ctr l Z h0 (⟨xS0, "<init>", "([CIILjava/lang/Void;)V"⟩ : MethodName) k3 6 none [] ({ frames := 2, cells := 1, slots := 2, locals := 35 } : Room) #[(.ref o), (.ref a), (.int 0), (.int 2), .null] (Q_csi2 Z o a ka c0 c1 cs h0) := by
  refine enter (plainFor_of_name pn1) ?_
  intro pp ee ss mm below meth cc s₁ hx hby hml hZ hown hnm hret hlk X0 e0 hs0
  replace hown : ss.vm.findClass xS0 = some mm.cls := hown
  refine Go.cast (congrArg s₁.setTop (ef_csi2 mm o a)) ?_
  have N0 := Fr.nil Z.heap.size
  have KP := Keep.refl h0 [o]
  show Go pp ee below _ (s₁.setTop (mkF mm 0 #[.val (.ref o), .val (.ref a), .val (.int 0), .val (.int 2), .val .null, .unset] []))
  refine Go.aloadN X0 hx (hb hby d3_0) rfl rfl (q := 1) rfl ?_
  refine Go.initO X0 hx hZ hown (wd16 hw) (wd17 hw) (wd18 hw) e0 (by rw [hml]; rfl) (hb hby d3_1) (by decide) (W := 0) (by exact Nat.le_refl _) (by decide) (q := 4) rfl ?_
  intro T101 X101 e101
  refine Go.iloadN X101 hx (hb hby d3_4) rfl (q := 5) rfl ?_
  refine Go.ifYes X101 hx (hb hby d3_5) (by decide) (q := 27) (by decide) (by decide) ?_
  refine Go.getS X101 hx hZ hown (host := "") (Or.inl (wd51 hw)) Via.refl e101 (SCS.ext O0) (hb hby d3_27) (q := 30) rfl ?_
  intro T102 X102 e102
  refine Go.ifNo X102 hx (hb hby d3_30) (Jvm.Free.XT.i0_eq_f hcs) (q := 33) rfl ?_
  refine Go.aloadN X102 hx (hb hby d3_33) rfl rfl (q := 34) rfl ?_
  refine Go.iloadN X102 hx (hb hby d3_34) rfl (q := 35) rfl ?_
  refine Go.iloadN X102 hx (hb hby d3_35) rfl (q := 36) rfl ?_
  refine Go.callS X102 hx hZ hown (wd220 hw) (wd221 hw) (wd222 hw) (wd223 hw) (by decide) (ccmq2 l Z a0 hw a (ka) c0 c1 h0 O0 Va hc0 hc1) e102 (by rw [hml]; rfl) (hb hby d3_36) (argsL := [(.ref a), (.int 0), (.int 2)]) (rest := []) (lenOf pd2 rfl) rfl rfl (W := 0) (by first | exact Nat.le_refl _ | decide) (by decide) (by decide) (by decide) (by decide) ?_
  intro v103 T103 L103 X103 hQ103
  obtain ⟨h103, e103⟩ : ∃ z, T103.heap = z := ⟨_, rfl⟩
  rw [e103] at hQ103
  obtain ⟨b_103, kb_103, rfl, N103q, K103, fr103_b, P103_0⟩ := hQ103
  have N103 := Fr.app N0 N103q
  have ne_o_b_103 : o ≠ b_103 := ne_new Eo.lt fr103_b
  have ne_a_b_103 : a ≠ b_103 := ne_new Va.lt fr103_b
  have g_b_103 : Z.heap.size ≤ b_103 := Nat.le_trans O0.1 fr103_b
  have z_b_103 : h0.size ≤ b_103 := Nat.le_trans KP.1 fr103_b
  replace Eo := Eo.keep K103
  replace Fv := Fv.keep K103 nin0
  replace Fc := Fc.keep K103 nin0
  replace Va := Va.keep K103 nin0
  have OK103 := ext_keep O0 K103 all0
  replace KP := KP.trans K103 all0
  refine Go.astore X103 hx (hb hby d3_39) rfl (l' := #[.val (.ref o), .val (.ref a), .val (.int 0), .val (.int 2), .val .null, .val (.ref b_103)]) rfl (q := 41) rfl ?_
  refine Go.aloadN X103 hx (hb hby d3_41) rfl rfl (q := 42) rfl ?_
  refine Go.aload X103 hx (hb hby d3_42) rfl rfl (q := 44) rfl ?_
  refine Go.iloadN X103 hx (hb hby d3_44) rfl (q := 45) rfl ?_
  refine Go.callS X103 hx hZ hown (wd227 hw) (wd228 hw) (wd222 hw) (wd229 hw) (by decide) (ccal2 l Z a0 hw b_103 (kb_103) ([(.int (c0.toInt8.toInt32)), (.int (c1.toInt8.toInt32))]) h103 OK103 P103_0) e103 (by rw [hml]; rfl) (hb hby d3_45) (argsL := [(.ref b_103), (.int 2)]) (rest := [(.ref o)]) (lenOf pd3 rfl) rfl rfl (W := 1) (by first | exact Nat.le_refl _ | decide) (by decide) (by decide) (by decide) (by decide) ?_
  intro v104 T104 L104 X104 hQ104
  obtain ⟨rfl, N104q, e104⟩ := hQ104
  have N104 := Fr.app N103 N104q
  refine Go.putF X104 hx hZ hown (host := "") (Or.inl (wd26 hw)) Via.refl e104 Fc Eo (Or.inr ⟨(wd22 hw), rfl, hnm⟩) (wd7 hw) (ty := .byte) (by decide) rfl rfl (hb hby d3_48) (q := 51) rfl ?_
  intro T105 h105 X105 e105 W105 F105
  have N105 := Fr.snoc X105 N104 g_o
  replace Eo := Eo.wr W105
  replace Fv := Fv.other W105 (Or.inr (slot_ne (Or.inr (wd21 hw)) (Or.inr (wd22 hw)) (by decide) (t := (.array .byte)) (t' := .byte) (by decide) (by decide)))
  replace P103_0 := P103_0.other W105 (Ne.symm ne_o_b_103)
  have OW105 := ext_wr OK103 W105 g_o
  replace KP := KP.wr W105 (Or.inl (List.mem_of_getElem? (i := 0) rfl))
  refine Go.aloadN X105 hx (hb hby d3_51) rfl rfl (q := 52) rfl ?_
  refine Go.aload X105 hx (hb hby d3_52) rfl rfl (q := 54) rfl ?_
  refine Go.putF X105 hx hZ hown (host := "") (Or.inl (wd25 hw)) Via.refl e105 Fv Eo (Or.inr ⟨(wd21 hw), rfl, hnm⟩) (wd7 hw) (ty := (.array .byte)) (by decide) rfl rfl (hb hby d3_54) (q := 57) rfl ?_
  intro T106 h106 X106 e106 W106 F106
  have N106 := Fr.snoc X106 N105 g_o
  replace Eo := Eo.wr W106
  replace P103_0 := P103_0.other W106 (Ne.symm ne_o_b_103)
  replace F105 := F105.other W106 (Or.inr (slot_ne (Or.inr (wd22 hw)) (Or.inr (wd21 hw)) (by decide) (t := .byte) (t' := (.array .byte)) (by decide) (by decide)))
  have OW106 := ext_wr OW105 W106 g_o
  replace KP := KP.wr W106 (Or.inl (List.mem_of_getElem? (i := 0) rfl))
  exact Go.retV X106 hx hret hlk (hb hby d3_57) e106 (by decide) (by decide) ⟨b_103, kb_103, rfl, N106, KP, z_b_103, F106, F105, P103_0⟩
def Q_csj2 (Z : State) (o a : Addr) (ka : ClassId) (c0 c1 cs : Int32) (h0 : Heap) (vR : Option Value) (hR : Heap) (LR : List Loc) : Prop := ∃ b : Addr, ∃ kb : ClassId, vR = none ∧ Fr Z.heap.size LR ∧ Keep h0 hR [o] ∧ h0.size ≤ b ∧ Fld Z hR o xS0 "value" "[B" (.ref b) ∧ Fld Z hR o xS0 "coder" "B" (.int 0) ∧ Arv Z hR b kb .byte (2 : Int32) [(.int (c0.toInt8.toInt32)), (.int (c1.toInt8.toInt32))] (.int 0)
theorem csj2 (l : Launch) (Z : State) (a0 : Array Value) (hw : ∀ d ∈ tables_1, d.before a0 Z = true) (o a : Addr) (ka : ClassId) (c0 c1 cs : Int32) (h0 : Heap) (O0 : Ext Z.heap h0) (Eo : Exa Z h0 o xS0) (Fv : Fld Z h0 o xS0 "value" "[B" .null) (Fc : Fld Z h0 o xS0 "coder" "B" (.int 0)) (g_o : Z.heap.size ≤ o) (Va : Arv Z h0 a ka .char (2 : Int32) [(.int c0), (.int c1)] (.int 0)) (SCS : Sta Z Z.heap xS0 xS3 "Z" (.int cs)) (hcs : ¬ (cs = (0 : Int32))) (hc0 : ¬ ((255 : Int32) < c0)) (hc1 : ¬ ((255 : Int32) < c1)) :
    Ctr l Z h0 (⟨xS0, "<init>", "([C)V"⟩ : MethodName) k2 2 none [] ({ frames := 3, cells := 1, slots := 2, locals := 52 } : Room) #[(.ref o), (.ref a)] (Q_csj2 Z o a ka c0 c1 cs h0) := by
  refine enter (plainFor_of_name pn1) ?_
  intro pp ee ss mm below meth cc s₁ hx hby hml hZ hown hnm hret hlk X0 e0 hs0
  replace hown : ss.vm.findClass xS0 = some mm.cls := hown
  refine Go.cast (congrArg s₁.setTop (ef_csj2 mm o a)) ?_
  have N0 := Fr.nil Z.heap.size
  have KP := Keep.refl h0 [o]
  show Go pp ee below _ (s₁.setTop (mkF mm 0 #[.val (.ref o), .val (.ref a)] []))
  refine Go.aloadN X0 hx (hb hby d2_0) rfl rfl (q := 1) rfl ?_
  refine Go.aloadN X0 hx (hb hby d2_1) rfl rfl (q := 2) rfl ?_
  refine Go.iconst X0 hx (hb hby d2_2) (r := (0 : Int32)) rfl (q := 3) rfl ?_
  refine Go.aloadN X0 hx (hb hby d2_3) rfl rfl (q := 4) rfl ?_
  refine Go.alen X0 hx hZ e0 Va (hb hby d2_4) ?_
  refine Go.aconst_null X0 hx (hb hby d2_5) (q := 6) rfl ?_
  refine Go.init X0 hx hZ hown rfl (wd12 hw) (wd13 hw) (wd8 hw) (wd15 hw) (by decide) (csi2 l Z a0 hw o a (ka) c0 c1 cs h0 O0 Eo Fv Fc g_o Va SCS hcs hc0 hc1) e0 (by rw [hml]; rfl) (hb hby d2_6) (argsL := [(.ref a), (.int 0), (.int 2), .null]) (rest := []) (lenOf pd0 rfl) rfl rfl (W := 0) (by first | exact Nat.le_refl _ | decide) (by decide) (by decide) (by decide) (by decide) ?_
  intro v101 T101 L101 X101 hQ101
  obtain ⟨h101, e101⟩ : ∃ z, T101.heap = z := ⟨_, rfl⟩
  rw [e101] at hQ101
  obtain ⟨b_101, kb_101, rfl, N101q, K101, fr101_b, P101_0, P101_1, P101_2⟩ := hQ101
  have N101 := Fr.app N0 N101q
  have ne_o_b_101 : o ≠ b_101 := ne_new Eo.lt fr101_b
  have ne_a_b_101 : a ≠ b_101 := ne_new Va.lt fr101_b
  have g_b_101 : Z.heap.size ≤ b_101 := Nat.le_trans O0.1 fr101_b
  have z_b_101 : h0.size ≤ b_101 := Nat.le_trans KP.1 fr101_b
  replace Eo := Eo.keep K101
  have OK101 := ext_keep O0 K101 (allS g_o all0)
  replace KP := KP.trans K101 (allS (Or.inl (List.mem_of_getElem? (i := 0) rfl)) all0)
  exact Go.retV X101 hx hret hlk (hb hby d2_9) e101 (by decide) (by decide) ⟨b_101, kb_101, rfl, N101, KP, z_b_101, P101_0, P101_1, P101_2⟩
def Q_ccmp3 (Z : State) (a b : Addr) (ka kb : ClassId) (c0 c1 c2 : Int32) (h0 : Heap) (vR : Option Value) (hR : Heap) (LR : List Loc) : Prop := vR = some (.int 3) ∧ Fr Z.heap.size LR ∧ Keep h0 hR [b] ∧ Arv Z hR b kb .byte (3 : Int32) [(.int (c0.toInt8.toInt32)), (.int (c1.toInt8.toInt32)), (.int (c2.toInt8.toInt32))] (.int 0)
theorem ccmp3 (l : Launch) (Z : State) (a0 : Array Value) (hw : ∀ d ∈ tables_1, d.before a0 Z = true) (a b : Addr) (ka kb : ClassId) (c0 c1 c2 : Int32) (h0 : Heap) (O0 : Ext Z.heap h0) (Va : Arv Z h0 a ka .char (3 : Int32) [(.int c0), (.int c1), (.int c2)] (.int 0)) (Vb : Arv Z h0 b kb .byte (3 : Int32) [(.int 0), (.int 0), (.int 0)] (.int 0)) (g_b : Z.heap.size ≤ b) (nab : a ≠ b) (hc0 : ¬ ((255 : Int32) < c0)) (hc1 : ¬ ((255 : Int32) < c1)) (hc2 : ¬ ((255 : Int32) < c2)) :
    Ctr l Z h0 (⟨"java/lang/StringUTF16", "compress", "([CI[BII)I"⟩ : MethodName) k43 7 (some .int) [] ({ frames := 0, cells := 0, slots := 0, locals := 0 } : Room) #[(.ref a), (.int 0), (.ref b), (.int 0), (.int 3)] (Q_ccmp3 Z a b ka kb c0 c1 c2 h0) := by
  refine enter (plainFor_of_name pn2) ?_
  intro pp ee ss mm below meth cc s₁ hx hby hml hZ hown hnm hret hlk X0 e0 hs0
  replace hown : ss.vm.findClass "java/lang/StringUTF16" = some mm.cls := hown
  refine Go.cast (congrArg s₁.setTop (ef_ccmp3 mm a b)) ?_
  have N0 := Fr.nil Z.heap.size
  have KP := Keep.refl h0 [b]
  show Go pp ee below _ (s₁.setTop (mkF mm 0 #[.val (.ref a), .val (.int 0), .val (.ref b), .val (.int 0), .val (.int 3), .unset, .unset] []))
  refine Go.iconst X0 hx (hb hby d43_0) (r := (0 : Int32)) rfl (q := 1) rfl ?_
  refine Go.istore X0 hx (hb hby d43_1) (l' := #[.val (.ref a), .val (.int 0), .val (.ref b), .val (.int 0), .val (.int 3), .val (.int 0), .unset]) rfl (q := 3) rfl ?_
  refine Go.iload X0 hx (hb hby d43_3) rfl (q := 5) rfl ?_
  refine Go.iload X0 hx (hb hby d43_5) rfl (q := 7) rfl ?_
  refine Go.icmpNo X0 hx (hb hby d43_7) (by decide) (q := 10) rfl ?_
  refine Go.aloadN X0 hx (hb hby d43_10) rfl rfl (q := 11) rfl ?_
  refine Go.iloadN X0 hx (hb hby d43_11) rfl (q := 12) rfl ?_
  refine Go.cal X0 hx hZ e0 Va ⟨by decide, by decide⟩ (v := (.int c0)) rfl (hb hby d43_12) ?_
  refine Go.istore X0 hx (hb hby d43_13) (l' := #[.val (.ref a), .val (.int 0), .val (.ref b), .val (.int 0), .val (.int 3), .val (.int 0), .val (.int c0)]) rfl (q := 15) rfl ?_
  refine Go.iload X0 hx (hb hby d43_15) rfl (q := 17) rfl ?_
  refine Go.sipush X0 hx (hb hby d43_17) (r := (255 : Int32)) rfl (q := 20) rfl ?_
  refine Go.icmpYes X0 hx (hb hby d43_20) (Jvm.Free.XT.ii_le_t hc0) (q := 26) (by decide) (by decide) ?_
  refine Go.aloadN X0 hx (hb hby d43_26) rfl rfl (q := 27) rfl ?_
  refine Go.iloadN X0 hx (hb hby d43_27) rfl (q := 28) rfl ?_
  refine Go.iload X0 hx (hb hby d43_28) rfl (q := 30) rfl ?_
  refine Go.i2b X0 hx (hb hby d43_30) rfl (q := 31) rfl ?_
  refine Go.bst X0 hx hZ e0 Vb ⟨by decide, by decide⟩ (i := 0) rfl (Nat.le_of_ble_eq_true rfl) (hb hby d43_31) ?_
  intro T101 h101 X101 e101 W101 V101
  rw [bb c0] at V101
  replace V101 : Arv Z h101 b kb .byte (3 : Int32) [(.int (c0.toInt8.toInt32)), (.int 0), (.int 0)] (.int 0) := V101
  have N101 := Fr.snoc X101 N0 g_b
  replace Va := Va.other W101 nab
  have OW101 := ext_wr O0 W101 g_b
  replace KP := KP.wr W101 (Or.inl (List.mem_of_getElem? (i := 0) rfl))
  refine Go.iinc X101 hx (hb hby d43_32) rfl (r := (1 : Int32)) rfl (l' := #[.val (.ref a), .val (.int 1), .val (.ref b), .val (.int 0), .val (.int 3), .val (.int 0), .val (.int c0)]) rfl (q := 35) rfl ?_
  refine Go.iinc X101 hx (hb hby d43_35) rfl (r := (1 : Int32)) rfl (l' := #[.val (.ref a), .val (.int 1), .val (.ref b), .val (.int 1), .val (.int 3), .val (.int 0), .val (.int c0)]) rfl (q := 38) rfl ?_
  refine Go.iinc X101 hx (hb hby d43_38) rfl (r := (1 : Int32)) rfl (l' := #[.val (.ref a), .val (.int 1), .val (.ref b), .val (.int 1), .val (.int 3), .val (.int 1), .val (.int c0)]) rfl (q := 41) rfl ?_
  refine Go.goto X101 hx (hb hby d43_41) (q := 3) (by decide) (by decide) ?_
  refine Go.iload X101 hx (hb hby d43_3) rfl (q := 5) rfl ?_
  refine Go.iload X101 hx (hb hby d43_5) rfl (q := 7) rfl ?_
  refine Go.icmpNo X101 hx (hb hby d43_7) (by decide) (q := 10) rfl ?_
  refine Go.aloadN X101 hx (hb hby d43_10) rfl rfl (q := 11) rfl ?_
  refine Go.iloadN X101 hx (hb hby d43_11) rfl (q := 12) rfl ?_
  refine Go.cal X101 hx hZ e101 Va ⟨by decide, by decide⟩ (v := (.int c1)) rfl (hb hby d43_12) ?_
  refine Go.istore X101 hx (hb hby d43_13) (l' := #[.val (.ref a), .val (.int 1), .val (.ref b), .val (.int 1), .val (.int 3), .val (.int 1), .val (.int c1)]) rfl (q := 15) rfl ?_
  refine Go.iload X101 hx (hb hby d43_15) rfl (q := 17) rfl ?_
  refine Go.sipush X101 hx (hb hby d43_17) (r := (255 : Int32)) rfl (q := 20) rfl ?_
  refine Go.icmpYes X101 hx (hb hby d43_20) (Jvm.Free.XT.ii_le_t hc1) (q := 26) (by decide) (by decide) ?_
  refine Go.aloadN X101 hx (hb hby d43_26) rfl rfl (q := 27) rfl ?_
  refine Go.iloadN X101 hx (hb hby d43_27) rfl (q := 28) rfl ?_
  refine Go.iload X101 hx (hb hby d43_28) rfl (q := 30) rfl ?_
  refine Go.i2b X101 hx (hb hby d43_30) rfl (q := 31) rfl ?_
  refine Go.bst X101 hx hZ e101 V101 ⟨by decide, by decide⟩ (i := 1) rfl (Nat.le_of_ble_eq_true rfl) (hb hby d43_31) ?_
  intro T102 h102 X102 e102 W102 V102
  rw [bb c1] at V102
  replace V102 : Arv Z h102 b kb .byte (3 : Int32) [(.int (c0.toInt8.toInt32)), (.int (c1.toInt8.toInt32)), (.int 0)] (.int 0) := V102
  have N102 := Fr.snoc X102 N101 g_b
  replace Va := Va.other W102 nab
  have OW102 := ext_wr OW101 W102 g_b
  replace KP := KP.wr W102 (Or.inl (List.mem_of_getElem? (i := 0) rfl))
  refine Go.iinc X102 hx (hb hby d43_32) rfl (r := (2 : Int32)) rfl (l' := #[.val (.ref a), .val (.int 2), .val (.ref b), .val (.int 1), .val (.int 3), .val (.int 1), .val (.int c1)]) rfl (q := 35) rfl ?_
  refine Go.iinc X102 hx (hb hby d43_35) rfl (r := (2 : Int32)) rfl (l' := #[.val (.ref a), .val (.int 2), .val (.ref b), .val (.int 2), .val (.int 3), .val (.int 1), .val (.int c1)]) rfl (q := 38) rfl ?_
  refine Go.iinc X102 hx (hb hby d43_38) rfl (r := (2 : Int32)) rfl (l' := #[.val (.ref a), .val (.int 2), .val (.ref b), .val (.int 2), .val (.int 3), .val (.int 2), .val (.int c1)]) rfl (q := 41) rfl ?_
  refine Go.goto X102 hx (hb hby d43_41) (q := 3) (by decide) (by decide) ?_
  refine Go.iload X102 hx (hb hby d43_3) rfl (q := 5) rfl ?_
  refine Go.iload X102 hx (hb hby d43_5) rfl (q := 7) rfl ?_
  refine Go.icmpNo X102 hx (hb hby d43_7) (by decide) (q := 10) rfl ?_
  refine Go.aloadN X102 hx (hb hby d43_10) rfl rfl (q := 11) rfl ?_
  refine Go.iloadN X102 hx (hb hby d43_11) rfl (q := 12) rfl ?_
  refine Go.cal X102 hx hZ e102 Va ⟨by decide, by decide⟩ (v := (.int c2)) rfl (hb hby d43_12) ?_
  refine Go.istore X102 hx (hb hby d43_13) (l' := #[.val (.ref a), .val (.int 2), .val (.ref b), .val (.int 2), .val (.int 3), .val (.int 2), .val (.int c2)]) rfl (q := 15) rfl ?_
  refine Go.iload X102 hx (hb hby d43_15) rfl (q := 17) rfl ?_
  refine Go.sipush X102 hx (hb hby d43_17) (r := (255 : Int32)) rfl (q := 20) rfl ?_
  refine Go.icmpYes X102 hx (hb hby d43_20) (Jvm.Free.XT.ii_le_t hc2) (q := 26) (by decide) (by decide) ?_
  refine Go.aloadN X102 hx (hb hby d43_26) rfl rfl (q := 27) rfl ?_
  refine Go.iloadN X102 hx (hb hby d43_27) rfl (q := 28) rfl ?_
  refine Go.iload X102 hx (hb hby d43_28) rfl (q := 30) rfl ?_
  refine Go.i2b X102 hx (hb hby d43_30) rfl (q := 31) rfl ?_
  refine Go.bst X102 hx hZ e102 V102 ⟨by decide, by decide⟩ (i := 2) rfl (Nat.le_of_ble_eq_true rfl) (hb hby d43_31) ?_
  intro T103 h103 X103 e103 W103 V103
  rw [bb c2] at V103
  replace V103 : Arv Z h103 b kb .byte (3 : Int32) [(.int (c0.toInt8.toInt32)), (.int (c1.toInt8.toInt32)), (.int (c2.toInt8.toInt32))] (.int 0) := V103
  have N103 := Fr.snoc X103 N102 g_b
  replace Va := Va.other W103 nab
  have OW103 := ext_wr OW102 W103 g_b
  replace KP := KP.wr W103 (Or.inl (List.mem_of_getElem? (i := 0) rfl))
  refine Go.iinc X103 hx (hb hby d43_32) rfl (r := (3 : Int32)) rfl (l' := #[.val (.ref a), .val (.int 3), .val (.ref b), .val (.int 2), .val (.int 3), .val (.int 2), .val (.int c2)]) rfl (q := 35) rfl ?_
  refine Go.iinc X103 hx (hb hby d43_35) rfl (r := (3 : Int32)) rfl (l' := #[.val (.ref a), .val (.int 3), .val (.ref b), .val (.int 3), .val (.int 3), .val (.int 2), .val (.int c2)]) rfl (q := 38) rfl ?_
  refine Go.iinc X103 hx (hb hby d43_38) rfl (r := (3 : Int32)) rfl (l' := #[.val (.ref a), .val (.int 3), .val (.ref b), .val (.int 3), .val (.int 3), .val (.int 3), .val (.int c2)]) rfl (q := 41) rfl ?_
  refine Go.goto X103 hx (hb hby d43_41) (q := 3) (by decide) (by decide) ?_
  refine Go.iload X103 hx (hb hby d43_3) rfl (q := 5) rfl ?_
  refine Go.iload X103 hx (hb hby d43_5) rfl (q := 7) rfl ?_
  refine Go.icmpYes X103 hx (hb hby d43_7) (by decide) (q := 44) (by decide) (by decide) ?_
  refine Go.iload X103 hx (hb hby d43_44) rfl (q := 46) rfl ?_
  exact Go.retI X103 hx hret hlk (Or.inl rfl) rfl (hb hby d43_46) e103 (by decide) (by decide) ⟨rfl, N103, KP, V103⟩
def Q_ccmq3 (Z : State) (a : Addr) (ka : ClassId) (c0 c1 c2 : Int32) (h0 : Heap) (vR : Option Value) (hR : Heap) (LR : List Loc) : Prop := ∃ b : Addr, ∃ kb : ClassId, vR = some (.ref b) ∧ Fr Z.heap.size LR ∧ Keep h0 hR [] ∧ h0.size ≤ b ∧ Arv Z hR b kb .byte (3 : Int32) [(.int (c0.toInt8.toInt32)), (.int (c1.toInt8.toInt32)), (.int (c2.toInt8.toInt32))] (.int 0)
theorem ccmq3 (l : Launch) (Z : State) (a0 : Array Value) (hw : ∀ d ∈ tables_1, d.before a0 Z = true) (a : Addr) (ka : ClassId) (c0 c1 c2 : Int32) (h0 : Heap) (O0 : Ext Z.heap h0) (Va : Arv Z h0 a ka .char (3 : Int32) [(.int c0), (.int c1), (.int c2)] (.int 0)) (hc0 : ¬ ((255 : Int32) < c0)) (hc1 : ¬ ((255 : Int32) < c1)) (hc2 : ¬ ((255 : Int32) < c2)) :
    Ctr l Z h0 (⟨"java/lang/StringUTF16", "compress", "([CII)[B"⟩ : MethodName) k42 6 (some (.array .byte)) [] ({ frames := 1, cells := 1, slots := 3, locals := 18 } : Room) #[(.ref a), (.int 0), (.int 3)] (Q_ccmq3 Z a ka c0 c1 c2 h0) := by
  refine enter (plainFor_of_name pn2) ?_
  intro pp ee ss mm below meth cc s₁ hx hby hml hZ hown hnm hret hlk X0 e0 hs0
  replace hown : ss.vm.findClass "java/lang/StringUTF16" = some mm.cls := hown
  refine Go.cast (congrArg s₁.setTop (ef_ccmq3 mm a)) ?_
  have N0 := Fr.nil Z.heap.size
  have KP := Keep.refl h0 []
  show Go pp ee below _ (s₁.setTop (mkF mm 0 #[.val (.ref a), .val (.int 0), .val (.int 3), .unset, .unset, .unset] []))
  refine Go.iloadN X0 hx (hb hby d42_0) rfl (q := 1) rfl ?_
  refine Go.newP X0 hx hZ (hb hby d42_1) (wd20 hw) e0 (by decide) (cap := 3) (by decide) (by decide) (by decide) (by decide) (ad := "[B") rfl (q := 3) rfl ?_
  intro b101 T101 h101 k101 X101 e101 q101 E101 V101 B101
  have ne_a_b101 : a ≠ b101 := ne_new Va.lt (Nat.le_of_eq q101)
  have g_b101 : Z.heap.size ≤ b101 := Nat.le_trans O0.1 (Nat.le_of_eq q101)
  have z_b101 : h0.size ≤ b101 := Nat.le_trans KP.1 (Nat.le_of_eq q101)
  replace Va := Va.ext E101
  have OE101 := ext_trans O0 E101
  replace KP := KP.ext E101
  replace V101 : Arv Z h101 b101 k101 .byte (3 : Int32) [(.int 0), (.int 0), (.int 0)] (.int 0) := V101.pad (pad_rep [] (.int 0) 3)
  refine Go.astoreN X101 hx (hb hby d42_3) rfl (l' := #[.val (.ref a), .val (.int 0), .val (.int 3), .val (.ref b101), .unset, .unset]) rfl (q := 4) rfl ?_
  refine Go.aloadN X101 hx (hb hby d42_4) rfl rfl (q := 5) rfl ?_
  refine Go.iloadN X101 hx (hb hby d42_5) rfl (q := 6) rfl ?_
  refine Go.aloadN X101 hx (hb hby d42_6) rfl rfl (q := 7) rfl ?_
  refine Go.iconst X101 hx (hb hby d42_7) (r := (0 : Int32)) rfl (q := 8) rfl ?_
  refine Go.iloadN X101 hx (hb hby d42_8) rfl (q := 9) rfl ?_
  refine Go.callS X101 hx hZ hown (wd224 hw) (wd225 hw) (wd222 hw) (wd226 hw) (by decide) (ccmp3 l Z a0 hw a b101 (ka) (k101) c0 c1 c2 h101 OE101 Va V101 g_b101 ne_a_b101 hc0 hc1 hc2) e101 (by rw [hml]; rfl) (hb hby d42_9) (argsL := [(.ref a), (.int 0), (.ref b101), (.int 0), (.int 3)]) (rest := []) (lenOf pd1 rfl) rfl rfl (W := 0) (by first | exact Nat.le_refl _ | decide) (by decide) (by decide) (by decide) (by decide) ?_
  intro v102 T102 L102 X102 hQ102
  obtain ⟨h102, e102⟩ : ∃ z, T102.heap = z := ⟨_, rfl⟩
  rw [e102] at hQ102
  obtain ⟨rfl, N102q, K102, P102_0⟩ := hQ102
  have N102 := Fr.app N0 N102q
  replace Va := Va.keep K102 (ninS ne_a_b101 nin0)
  replace B101 := B101.keep K102
  have OK102 := ext_keep OE101 K102 (allS g_b101 all0)
  replace KP := KP.trans K102 (allS (Or.inr z_b101) all0)
  refine Go.istore X102 hx (hb hby d42_12) (l' := #[.val (.ref a), .val (.int 0), .val (.int 3), .val (.ref b101), .val (.int 3), .unset]) rfl (q := 14) rfl ?_
  refine Go.iload X102 hx (hb hby d42_14) rfl (q := 16) rfl ?_
  refine Go.iloadN X102 hx (hb hby d42_16) rfl (q := 17) rfl ?_
  refine Go.icmpYes X102 hx (hb hby d42_17) (by decide) (q := 57) (by decide) (by decide) ?_
  refine Go.aloadN X102 hx (hb hby d42_57) rfl rfl (q := 58) rfl ?_
  exact Go.retA X102 hx hret hlk rfl rfl (hb hby d42_58) e102 (by decide) (by decide) ⟨b101, k101, rfl, N102, KP, z_b101, P102_0⟩
def Q_ccal3 (Z : State) (b : Addr) (kb : ClassId) (vs : List Value) (h0 : Heap) (vR : Option Value) (hR : Heap) (LR : List Loc) : Prop := vR = some (.int 0) ∧ Fr Z.heap.size LR ∧ hR = h0
theorem ccal3 (l : Launch) (Z : State) (a0 : Array Value) (hw : ∀ d ∈ tables_1, d.before a0 Z = true) (b : Addr) (kb : ClassId) (vs : List Value) (h0 : Heap) (O0 : Ext Z.heap h0) (Vb : Arv Z h0 b kb .byte (3 : Int32) vs (.int 0)) :
    Ctr l Z h0 (⟨"java/lang/StringUTF16", "coderFromArrayLen", "([BI)B"⟩ : MethodName) k44 2 (some .byte) [] ({ frames := 0, cells := 0, slots := 0, locals := 0 } : Room) #[(.ref b), (.int 3)] (Q_ccal3 Z b kb vs h0) := by
  refine enter (plainFor_of_name pn2) ?_
  intro pp ee ss mm below meth cc s₁ hx hby hml hZ hown hnm hret hlk X0 e0 hs0
  replace hown : ss.vm.findClass "java/lang/StringUTF16" = some mm.cls := hown
  refine Go.cast (congrArg s₁.setTop (ef_ccal3 mm b)) ?_
  have N0 := Fr.nil Z.heap.size
  show Go pp ee below _ (s₁.setTop (mkF mm 0 #[.val (.ref b), .val (.int 3)] []))
  refine Go.iloadN X0 hx (hb hby d44_0) rfl (q := 1) rfl ?_
  refine Go.aloadN X0 hx (hb hby d44_1) rfl rfl (q := 2) rfl ?_
  refine Go.alen X0 hx hZ e0 Vb (hb hby d44_2) ?_
  refine Go.isub X0 hx (hb hby d44_3) (r := (0 : Int32)) rfl (q := 4) rfl ?_
  refine Go.bipush X0 hx (hb hby d44_4) (r := (31 : Int32)) rfl (q := 6) rfl ?_
  refine Go.iushr X0 hx (hb hby d44_6) (r := (0 : Int32)) rfl (q := 7) rfl ?_
  refine Go.i2b X0 hx (hb hby d44_7) (r := (0 : Int32)) rfl (q := 8) rfl ?_
  exact Go.retI X0 hx hret hlk (by simp) rfl (hb hby d44_8) e0 (by decide) (by decide) ⟨rfl, N0, rfl⟩
def Q_csi3 (Z : State) (o a : Addr) (ka : ClassId) (c0 c1 c2 cs : Int32) (h0 : Heap) (vR : Option Value) (hR : Heap) (LR : List Loc) : Prop := ∃ b : Addr, ∃ kb : ClassId, vR = none ∧ Fr Z.heap.size LR ∧ Keep h0 hR [o] ∧ h0.size ≤ b ∧ Fld Z hR o xS0 "value" "[B" (.ref b) ∧ Fld Z hR o xS0 "coder" "B" (.int 0) ∧ Arv Z hR b kb .byte (3 : Int32) [(.int (c0.toInt8.toInt32)), (.int (c1.toInt8.toInt32)), (.int (c2.toInt8.toInt32))] (.int 0)
theorem csi3 (l : Launch) (Z : State) (a0 : Array Value) (hw : ∀ d ∈ tables_1, d.before a0 Z = true) (o a : Addr) (ka : ClassId) (c0 c1 c2 cs : Int32) (h0 : Heap) (O0 : Ext Z.heap h0) (Eo : Exa Z h0 o xS0) (Fv : Fld Z h0 o xS0 "value" "[B" .null) (Fc : Fld Z h0 o xS0 "coder" "B" (.int 0)) (g_o : Z.heap.size ≤ o) (Va : Arv Z h0 a ka .char (3 : Int32) [(.int c0), (.int c1), (.int c2)] (.int 0)) (SCS : Sta Z Z.heap xS0 xS3 "Z" (.int cs)) (hcs : ¬ (cs = (0 : Int32))) (hc0 : ¬ ((255 : Int32) < c0)) (hc1 : ¬ ((255 : Int32) < c1)) (hc2 : ¬ ((255 : Int32) < c2)) :
    Ctr l Z h0 (⟨xS0, "<init>", "([CIILjava/lang/Void;)V"⟩ : MethodName) k3 6 none [] ({ frames := 2, cells := 1, slots := 3, locals := 35 } : Room) #[(.ref o), (.ref a), (.int 0), (.int 3), .null] (Q_csi3 Z o a ka c0 c1 c2 cs h0) := by
  refine enter (plainFor_of_name pn1) ?_
  intro pp ee ss mm below meth cc s₁ hx hby hml hZ hown hnm hret hlk X0 e0 hs0
  replace hown : ss.vm.findClass xS0 = some mm.cls := hown
  refine Go.cast (congrArg s₁.setTop (ef_csi3 mm o a)) ?_
  have N0 := Fr.nil Z.heap.size
  have KP := Keep.refl h0 [o]
  show Go pp ee below _ (s₁.setTop (mkF mm 0 #[.val (.ref o), .val (.ref a), .val (.int 0), .val (.int 3), .val .null, .unset] []))
  refine Go.aloadN X0 hx (hb hby d3_0) rfl rfl (q := 1) rfl ?_
  refine Go.initO X0 hx hZ hown (wd16 hw) (wd17 hw) (wd18 hw) e0 (by rw [hml]; rfl) (hb hby d3_1) (by decide) (W := 0) (by exact Nat.le_refl _) (by decide) (q := 4) rfl ?_
  intro T101 X101 e101
  refine Go.iloadN X101 hx (hb hby d3_4) rfl (q := 5) rfl ?_
  refine Go.ifYes X101 hx (hb hby d3_5) (by decide) (q := 27) (by decide) (by decide) ?_
  refine Go.getS X101 hx hZ hown (host := "") (Or.inl (wd51 hw)) Via.refl e101 (SCS.ext O0) (hb hby d3_27) (q := 30) rfl ?_
  intro T102 X102 e102
  refine Go.ifNo X102 hx (hb hby d3_30) (Jvm.Free.XT.i0_eq_f hcs) (q := 33) rfl ?_
  refine Go.aloadN X102 hx (hb hby d3_33) rfl rfl (q := 34) rfl ?_
  refine Go.iloadN X102 hx (hb hby d3_34) rfl (q := 35) rfl ?_
  refine Go.iloadN X102 hx (hb hby d3_35) rfl (q := 36) rfl ?_
  refine Go.callS X102 hx hZ hown (wd220 hw) (wd221 hw) (wd222 hw) (wd223 hw) (by decide) (ccmq3 l Z a0 hw a (ka) c0 c1 c2 h0 O0 Va hc0 hc1 hc2) e102 (by rw [hml]; rfl) (hb hby d3_36) (argsL := [(.ref a), (.int 0), (.int 3)]) (rest := []) (lenOf pd2 rfl) rfl rfl (W := 0) (by first | exact Nat.le_refl _ | decide) (by decide) (by decide) (by decide) (by decide) ?_
  intro v103 T103 L103 X103 hQ103
  obtain ⟨h103, e103⟩ : ∃ z, T103.heap = z := ⟨_, rfl⟩
  rw [e103] at hQ103
  obtain ⟨b_103, kb_103, rfl, N103q, K103, fr103_b, P103_0⟩ := hQ103
  have N103 := Fr.app N0 N103q
  have ne_o_b_103 : o ≠ b_103 := ne_new Eo.lt fr103_b
  have ne_a_b_103 : a ≠ b_103 := ne_new Va.lt fr103_b
  have g_b_103 : Z.heap.size ≤ b_103 := Nat.le_trans O0.1 fr103_b
  have z_b_103 : h0.size ≤ b_103 := Nat.le_trans KP.1 fr103_b
  replace Eo := Eo.keep K103
  replace Fv := Fv.keep K103 nin0
  replace Fc := Fc.keep K103 nin0
  replace Va := Va.keep K103 nin0
  have OK103 := ext_keep O0 K103 all0
  replace KP := KP.trans K103 all0
  refine Go.astore X103 hx (hb hby d3_39) rfl (l' := #[.val (.ref o), .val (.ref a), .val (.int 0), .val (.int 3), .val .null, .val (.ref b_103)]) rfl (q := 41) rfl ?_
  refine Go.aloadN X103 hx (hb hby d3_41) rfl rfl (q := 42) rfl ?_
  refine Go.aload X103 hx (hb hby d3_42) rfl rfl (q := 44) rfl ?_
  refine Go.iloadN X103 hx (hb hby d3_44) rfl (q := 45) rfl ?_
  refine Go.callS X103 hx hZ hown (wd227 hw) (wd228 hw) (wd222 hw) (wd229 hw) (by decide) (ccal3 l Z a0 hw b_103 (kb_103) ([(.int (c0.toInt8.toInt32)), (.int (c1.toInt8.toInt32)), (.int (c2.toInt8.toInt32))]) h103 OK103 P103_0) e103 (by rw [hml]; rfl) (hb hby d3_45) (argsL := [(.ref b_103), (.int 3)]) (rest := [(.ref o)]) (lenOf pd3 rfl) rfl rfl (W := 1) (by first | exact Nat.le_refl _ | decide) (by decide) (by decide) (by decide) (by decide) ?_
  intro v104 T104 L104 X104 hQ104
  obtain ⟨rfl, N104q, e104⟩ := hQ104
  have N104 := Fr.app N103 N104q
  refine Go.putF X104 hx hZ hown (host := "") (Or.inl (wd26 hw)) Via.refl e104 Fc Eo (Or.inr ⟨(wd22 hw), rfl, hnm⟩) (wd7 hw) (ty := .byte) (by decide) rfl rfl (hb hby d3_48) (q := 51) rfl ?_
  intro T105 h105 X105 e105 W105 F105
  have N105 := Fr.snoc X105 N104 g_o
  replace Eo := Eo.wr W105
  replace Fv := Fv.other W105 (Or.inr (slot_ne (Or.inr (wd21 hw)) (Or.inr (wd22 hw)) (by decide) (t := (.array .byte)) (t' := .byte) (by decide) (by decide)))
  replace P103_0 := P103_0.other W105 (Ne.symm ne_o_b_103)
  have OW105 := ext_wr OK103 W105 g_o
  replace KP := KP.wr W105 (Or.inl (List.mem_of_getElem? (i := 0) rfl))
  refine Go.aloadN X105 hx (hb hby d3_51) rfl rfl (q := 52) rfl ?_
  refine Go.aload X105 hx (hb hby d3_52) rfl rfl (q := 54) rfl ?_
  refine Go.putF X105 hx hZ hown (host := "") (Or.inl (wd25 hw)) Via.refl e105 Fv Eo (Or.inr ⟨(wd21 hw), rfl, hnm⟩) (wd7 hw) (ty := (.array .byte)) (by decide) rfl rfl (hb hby d3_54) (q := 57) rfl ?_
  intro T106 h106 X106 e106 W106 F106
  have N106 := Fr.snoc X106 N105 g_o
  replace Eo := Eo.wr W106
  replace P103_0 := P103_0.other W106 (Ne.symm ne_o_b_103)
  replace F105 := F105.other W106 (Or.inr (slot_ne (Or.inr (wd22 hw)) (Or.inr (wd21 hw)) (by decide) (t := .byte) (t' := (.array .byte)) (by decide) (by decide)))
  have OW106 := ext_wr OW105 W106 g_o
  replace KP := KP.wr W106 (Or.inl (List.mem_of_getElem? (i := 0) rfl))
  exact Go.retV X106 hx hret hlk (hb hby d3_57) e106 (by decide) (by decide) ⟨b_103, kb_103, rfl, N106, KP, z_b_103, F106, F105, P103_0⟩
def Q_csj3 (Z : State) (o a : Addr) (ka : ClassId) (c0 c1 c2 cs : Int32) (h0 : Heap) (vR : Option Value) (hR : Heap) (LR : List Loc) : Prop := ∃ b : Addr, ∃ kb : ClassId, vR = none ∧ Fr Z.heap.size LR ∧ Keep h0 hR [o] ∧ h0.size ≤ b ∧ Fld Z hR o xS0 "value" "[B" (.ref b) ∧ Fld Z hR o xS0 "coder" "B" (.int 0) ∧ Arv Z hR b kb .byte (3 : Int32) [(.int (c0.toInt8.toInt32)), (.int (c1.toInt8.toInt32)), (.int (c2.toInt8.toInt32))] (.int 0)
theorem csj3 (l : Launch) (Z : State) (a0 : Array Value) (hw : ∀ d ∈ tables_1, d.before a0 Z = true) (o a : Addr) (ka : ClassId) (c0 c1 c2 cs : Int32) (h0 : Heap) (O0 : Ext Z.heap h0) (Eo : Exa Z h0 o xS0) (Fv : Fld Z h0 o xS0 "value" "[B" .null) (Fc : Fld Z h0 o xS0 "coder" "B" (.int 0)) (g_o : Z.heap.size ≤ o) (Va : Arv Z h0 a ka .char (3 : Int32) [(.int c0), (.int c1), (.int c2)] (.int 0)) (SCS : Sta Z Z.heap xS0 xS3 "Z" (.int cs)) (hcs : ¬ (cs = (0 : Int32))) (hc0 : ¬ ((255 : Int32) < c0)) (hc1 : ¬ ((255 : Int32) < c1)) (hc2 : ¬ ((255 : Int32) < c2)) :
    Ctr l Z h0 (⟨xS0, "<init>", "([C)V"⟩ : MethodName) k2 2 none [] ({ frames := 3, cells := 1, slots := 3, locals := 52 } : Room) #[(.ref o), (.ref a)] (Q_csj3 Z o a ka c0 c1 c2 cs h0) := by
  refine enter (plainFor_of_name pn1) ?_
  intro pp ee ss mm below meth cc s₁ hx hby hml hZ hown hnm hret hlk X0 e0 hs0
  replace hown : ss.vm.findClass xS0 = some mm.cls := hown
  refine Go.cast (congrArg s₁.setTop (ef_csj3 mm o a)) ?_
  have N0 := Fr.nil Z.heap.size
  have KP := Keep.refl h0 [o]
  show Go pp ee below _ (s₁.setTop (mkF mm 0 #[.val (.ref o), .val (.ref a)] []))
  refine Go.aloadN X0 hx (hb hby d2_0) rfl rfl (q := 1) rfl ?_
  refine Go.aloadN X0 hx (hb hby d2_1) rfl rfl (q := 2) rfl ?_
  refine Go.iconst X0 hx (hb hby d2_2) (r := (0 : Int32)) rfl (q := 3) rfl ?_
  refine Go.aloadN X0 hx (hb hby d2_3) rfl rfl (q := 4) rfl ?_
  refine Go.alen X0 hx hZ e0 Va (hb hby d2_4) ?_
  refine Go.aconst_null X0 hx (hb hby d2_5) (q := 6) rfl ?_
  refine Go.init X0 hx hZ hown rfl (wd12 hw) (wd13 hw) (wd8 hw) (wd15 hw) (by decide) (csi3 l Z a0 hw o a (ka) c0 c1 c2 cs h0 O0 Eo Fv Fc g_o Va SCS hcs hc0 hc1 hc2) e0 (by rw [hml]; rfl) (hb hby d2_6) (argsL := [(.ref a), (.int 0), (.int 3), .null]) (rest := []) (lenOf pd0 rfl) rfl rfl (W := 0) (by first | exact Nat.le_refl _ | decide) (by decide) (by decide) (by decide) (by decide) ?_
  intro v101 T101 L101 X101 hQ101
  obtain ⟨h101, e101⟩ : ∃ z, T101.heap = z := ⟨_, rfl⟩
  rw [e101] at hQ101
  obtain ⟨b_101, kb_101, rfl, N101q, K101, fr101_b, P101_0, P101_1, P101_2⟩ := hQ101
  have N101 := Fr.app N0 N101q
  have ne_o_b_101 : o ≠ b_101 := ne_new Eo.lt fr101_b
  have ne_a_b_101 : a ≠ b_101 := ne_new Va.lt fr101_b
  have g_b_101 : Z.heap.size ≤ b_101 := Nat.le_trans O0.1 fr101_b
  have z_b_101 : h0.size ≤ b_101 := Nat.le_trans KP.1 fr101_b
  replace Eo := Eo.keep K101
  have OK101 := ext_keep O0 K101 (allS g_o all0)
  replace KP := KP.trans K101 (allS (Or.inl (List.mem_of_getElem? (i := 0) rfl)) all0)
  exact Go.retV X101 hx hret hlk (hb hby d2_9) e101 (by decide) (by decide) ⟨b_101, kb_101, rfl, N101, KP, z_b_101, P101_0, P101_1, P101_2⟩
def Q_ccoder (Z : State) (o : Addr) (cs : Int32) (h0 : Heap) (vR : Option Value) (hR : Heap) (LR : List Loc) : Prop := vR = some (.int 0) ∧ Fr Z.heap.size LR ∧ hR = h0
theorem ccoder (l : Launch) (Z : State) (a0 : Array Value) (hw : ∀ d ∈ tables_1, d.before a0 Z = true) (o : Addr) (cs : Int32) (h0 : Heap) (O0 : Ext Z.heap h0) (C : Fld Z h0 o xS0 "coder" "B" (.int 0)) (SCS : Sta Z Z.heap xS0 xS3 "Z" (.int cs)) (hcs : ¬ (cs = (0 : Int32))) :
    Ctr l Z h0 (⟨xS0, "coder", "()B"⟩ : MethodName) k9 1 (some .byte) [] ({ frames := 0, cells := 0, slots := 0, locals := 0 } : Room) #[(.ref o)] (Q_ccoder Z o cs h0) := by
  refine enter (plainFor_of_name pn1) ?_
  intro pp ee ss mm below meth cc s₁ hx hby hml hZ hown hnm hret hlk X0 e0 hs0
  replace hown : ss.vm.findClass xS0 = some mm.cls := hown
  refine Go.cast (congrArg s₁.setTop (ef_ccoder mm o)) ?_
  have N0 := Fr.nil Z.heap.size
  show Go pp ee below _ (s₁.setTop (mkF mm 0 #[.val (.ref o)] []))
  refine Go.getS X0 hx hZ hown (host := "") (Or.inl (wd51 hw)) Via.refl e0 (SCS.ext O0) (hb hby d9_0) (q := 3) rfl ?_
  intro T101 X101 e101
  refine Go.ifNo X101 hx (hb hby d9_3) (Jvm.Free.XT.i0_eq_f hcs) (q := 6) rfl ?_
  refine Go.aloadN X101 hx (hb hby d9_6) rfl rfl (q := 7) rfl ?_
  refine Go.getF X101 hx hZ hown (host := "") (Or.inl (wd26 hw)) Via.refl e101 C (hb hby d9_7) (q := 10) rfl ?_
  intro T102 X102 e102
  refine Go.goto X102 hx (hb hby d9_10) (q := 14) (by decide) (by decide) ?_
  exact Go.retI X102 hx hret hlk (by simp) rfl (hb hby d9_14) e102 (by decide) (by decide) ⟨rfl, N0, rfl⟩
def Q_clen (Z : State) (o : Addr) (cs : Int32) (v : Addr) (kv : ClassId) (n : Int32) (vs : List Value) (h0 : Heap) (vR : Option Value) (hR : Heap) (LR : List Loc) : Prop := vR = some (.int n) ∧ Fr Z.heap.size LR ∧ hR = h0
theorem clen (l : Launch) (Z : State) (a0 : Array Value) (hw : ∀ d ∈ tables_1, d.before a0 Z = true) (o : Addr) (cs : Int32) (v : Addr) (kv : ClassId) (n : Int32) (vs : List Value) (h0 : Heap) (O0 : Ext Z.heap h0) (E : Exa Z h0 o xS0) (C : Fld Z h0 o xS0 "coder" "B" (.int 0)) (F : Fld Z h0 o xS0 "value" "[B" (.ref v)) (Va : Arv Z h0 v kv .byte n vs (.int 0)) (SCS : Sta Z Z.heap xS0 xS3 "Z" (.int cs)) (hcs : ¬ (cs = (0 : Int32))) :
    Ctr l Z h0 (⟨xS0, "length", "()I"⟩ : MethodName) k8 1 (some .int) [] ({ frames := 1, cells := 0, slots := 0, locals := 13 } : Room) #[(.ref o)] (Q_clen Z o cs v kv n vs h0) := by
  refine enter (plainFor_of_name pn1) ?_
  intro pp ee ss mm below meth cc s₁ hx hby hml hZ hown hnm hret hlk X0 e0 hs0
  replace hown : ss.vm.findClass xS0 = some mm.cls := hown
  refine Go.cast (congrArg s₁.setTop (ef_clen mm o)) ?_
  have N0 := Fr.nil Z.heap.size
  show Go pp ee below _ (s₁.setTop (mkF mm 0 #[.val (.ref o)] []))
  refine Go.aloadN X0 hx (hb hby d8_0) rfl rfl (q := 1) rfl ?_
  refine Go.getF X0 hx hZ hown (host := "") (Or.inl (wd25 hw)) Via.refl e0 F (hb hby d8_1) (q := 4) rfl ?_
  intro T101 X101 e101
  refine Go.alen X101 hx hZ e101 Va (hb hby d8_4) ?_
  refine Go.aloadN X101 hx (hb hby d8_5) rfl rfl (q := 6) rfl ?_
  refine Go.virt X101 hx hZ hown (wd46 hw) (wd47 hw) (notFace_of_selects (args := #[]) (mvT hZ (wd49 hw))) (wd49 hw) (wd48 hw) (wd8 hw) (wd50 hw) (by decide) (ccoder l Z a0 hw o cs h0 O0 C SCS hcs) e101 E (by rw [hml]; rfl) (hb hby d8_6) (argsL := []) (rest := [(.int n)]) (lenOf pd4 rfl) rfl rfl (W := 1) (by first | exact Nat.le_refl _ | decide) (by decide) (by decide) (by decide) (by decide) ?_
  intro v102 T102 L102 X102 hQ102
  obtain ⟨rfl, N102q, e102⟩ := hQ102
  have N102 := Fr.app N0 N102q
  refine Go.ishr X102 hx (hb hby d8_9) rfl (q := 10) rfl ?_
  exact Go.retI X102 hx hret hlk (Or.inl rfl) rfl (hb hby d8_10) e102 (by decide) (by decide) ⟨by rw [own_shr0], N102, rfl⟩
def Q_clat (Z : State) (o : Addr) (cs : Int32) (h0 : Heap) (vR : Option Value) (hR : Heap) (LR : List Loc) : Prop := vR = some (.int 1) ∧ Fr Z.heap.size LR ∧ hR = h0
theorem clat (l : Launch) (Z : State) (a0 : Array Value) (hw : ∀ d ∈ tables_1, d.before a0 Z = true) (o : Addr) (cs : Int32) (h0 : Heap) (O0 : Ext Z.heap h0) (C : Fld Z h0 o xS0 "coder" "B" (.int 0)) (SCS : Sta Z Z.heap xS0 xS3 "Z" (.int cs)) (hcs : ¬ (cs = (0 : Int32))) :
    Ctr l Z h0 (⟨xS0, "isLatin1", "()Z"⟩ : MethodName) k38 1 (some .boolean) [] ({ frames := 0, cells := 0, slots := 0, locals := 0 } : Room) #[(.ref o)] (Q_clat Z o cs h0) := by
  refine enter (plainFor_of_name pn1) ?_
  intro pp ee ss mm below meth cc s₁ hx hby hml hZ hown hnm hret hlk X0 e0 hs0
  replace hown : ss.vm.findClass xS0 = some mm.cls := hown
  refine Go.cast (congrArg s₁.setTop (ef_clat mm o)) ?_
  have N0 := Fr.nil Z.heap.size
  show Go pp ee below _ (s₁.setTop (mkF mm 0 #[.val (.ref o)] []))
  refine Go.getS X0 hx hZ hown (host := "") (Or.inl (wd51 hw)) Via.refl e0 (SCS.ext O0) (hb hby d38_0) (q := 3) rfl ?_
  intro T101 X101 e101
  refine Go.ifNo X101 hx (hb hby d38_3) (Jvm.Free.XT.i0_eq_f hcs) (q := 6) rfl ?_
  refine Go.aloadN X101 hx (hb hby d38_6) rfl rfl (q := 7) rfl ?_
  refine Go.getF X101 hx hZ hown (host := "") (Or.inl (wd26 hw)) Via.refl e101 C (hb hby d38_7) (q := 10) rfl ?_
  intro T102 X102 e102
  refine Go.ifNo X102 hx (hb hby d38_10) (by decide) (q := 13) rfl ?_
  refine Go.iconst X102 hx (hb hby d38_13) (r := (1 : Int32)) rfl (q := 14) rfl ?_
  refine Go.goto X102 hx (hb hby d38_14) (q := 18) (by decide) (by decide) ?_
  exact Go.retI X102 hx hret hlk (by simp) rfl (hb hby d38_18) e102 (by decide) (by decide) ⟨rfl, N0, rfl⟩
def Q_cpchk (Z : State) (i n : Int32) (fm : Value) (h0 : Heap) (vR : Option Value) (hR : Heap) (LR : List Loc) : Prop := vR = some (.int i) ∧ Fr Z.heap.size LR ∧ hR = h0
theorem cpchk (l : Launch) (Z : State) (a0 : Array Value) (hw : ∀ d ∈ tables_1, d.before a0 Z = true) (i n : Int32) (fm : Value) (h0 : Heap) (O0 : Ext Z.heap h0) (hfm : fm.isRef = true) (hi0 : ¬ (i < (0 : Int32))) (hi1 : i < n) :
    Ctr l Z h0 (⟨xS5, "checkIndex", "(IILjava/util/function/BiFunction;)I"⟩ : MethodName) k41 3 (some .int) [] ({ frames := 0, cells := 0, slots := 0, locals := 0 } : Room) #[(.int i), (.int n), fm] (Q_cpchk Z i n fm h0) := by
  refine enter (plainFor_of_name pn3) ?_
  intro pp ee ss mm below meth cc s₁ hx hby hml hZ hown hnm hret hlk X0 e0 hs0
  replace hown : ss.vm.findClass xS5 = some mm.cls := hown
  refine Go.cast (congrArg s₁.setTop (ef_cpchk mm i n fm hfm)) ?_
  have N0 := Fr.nil Z.heap.size
  show Go pp ee below _ (s₁.setTop (mkF mm 0 #[.val (.int i), .val (.int n), .val fm] []))
  refine Go.iloadN X0 hx (hb hby d41_0) rfl (q := 1) rfl ?_
  refine Go.ifNo X0 hx (hb hby d41_1) (Jvm.Free.XT.i0_lt_f hi0) (q := 4) rfl ?_
  refine Go.iloadN X0 hx (hb hby d41_4) rfl (q := 5) rfl ?_
  refine Go.iloadN X0 hx (hb hby d41_5) rfl (q := 6) rfl ?_
  refine Go.icmpYes X0 hx (hb hby d41_6) (Jvm.Free.XT.ii_lt_t hi1) (q := 16) (by decide) (by decide) ?_
  refine Go.iloadN X0 hx (hb hby d41_16) rfl (q := 17) rfl ?_
  exact Go.retI X0 hx hret hlk (Or.inl rfl) rfl (hb hby d41_17) e0 (by decide) (by decide) ⟨rfl, N0, rfl⟩
def Q_cschk (Z : State) (i n : Int32) (fm : Value) (h0 : Heap) (vR : Option Value) (hR : Heap) (LR : List Loc) : Prop := vR = none ∧ Fr Z.heap.size LR ∧ hR = h0
theorem cschk (l : Launch) (Z : State) (a0 : Array Value) (hw : ∀ d ∈ tables_1, d.before a0 Z = true) (i n : Int32) (fm : Value) (h0 : Heap) (O0 : Ext Z.heap h0) (SFM : Sta Z Z.heap xS5 "SIOOBE_FORMATTER" "Ljava/util/function/BiFunction;" fm) (hfm : fm.isRef = true) (hi0 : ¬ (i < (0 : Int32))) (hi1 : i < n) :
    Ctr l Z h0 (⟨xS0, "checkIndex", "(II)V"⟩ : MethodName) k40 2 none [] ({ frames := 1, cells := 0, slots := 0, locals := 14 } : Room) #[(.int i), (.int n)] (Q_cschk Z i n fm h0) := by
  refine enter (plainFor_of_name pn1) ?_
  intro pp ee ss mm below meth cc s₁ hx hby hml hZ hown hnm hret hlk X0 e0 hs0
  replace hown : ss.vm.findClass xS0 = some mm.cls := hown
  refine Go.cast (congrArg s₁.setTop (ef_cschk mm i n)) ?_
  have N0 := Fr.nil Z.heap.size
  show Go pp ee below _ (s₁.setTop (mkF mm 0 #[.val (.int i), .val (.int n)] []))
  refine Go.iloadN X0 hx (hb hby d40_0) rfl (q := 1) rfl ?_
  refine Go.iloadN X0 hx (hb hby d40_1) rfl (q := 2) rfl ?_
  refine Go.getS X0 hx hZ hown (host := "") (Or.inl (wd215 hw)) Via.refl e0 (SFM.ext O0) (hb hby d40_2) (q := 5) rfl ?_
  intro T101 X101 e101
  refine Go.callS X101 hx hZ hown (wd217 hw) (wd218 hw) (wd216 hw) (wd219 hw) (by decide) (cpchk l Z a0 hw i n fm h0 O0 hfm hi0 hi1) e101 (by rw [hml]; rfl) (hb hby d40_5) (argsL := [(.int i), (.int n), fm]) (rest := []) (lenOf pd5 rfl) rfl rfl (W := 0) (by first | exact Nat.le_refl _ | decide) (by decide) (by decide) (by decide) (by decide) ?_
  intro v102 T102 L102 X102 hQ102
  obtain ⟨rfl, N102q, e102⟩ := hQ102
  have N102 := Fr.app N0 N102q
  refine Go.pop X102 hx (hb hby d40_8) rfl (q := 9) rfl ?_
  exact Go.retV X102 hx hret hlk (hb hby d40_9) e102 (by decide) (by decide) ⟨rfl, N102, rfl⟩
def Q_cl1ch (Z : State) (v : Addr) (kv : ClassId) (n : Int32) (vs : List Value) (i x : Int32) (fm : Value) (h0 : Heap) (vR : Option Value) (hR : Heap) (LR : List Loc) : Prop := vR = some (.int ((x &&& (255 : Int32)).toUInt32.toUInt16.toUInt32.toInt32)) ∧ Fr Z.heap.size LR ∧ hR = h0
theorem cl1ch (l : Launch) (Z : State) (a0 : Array Value) (hw : ∀ d ∈ tables_1, d.before a0 Z = true) (v : Addr) (kv : ClassId) (n : Int32) (vs : List Value) (i x : Int32) (fm : Value) (h0 : Heap) (O0 : Ext Z.heap h0) (Va : Arv Z h0 v kv .byte n vs (.int 0)) (SFM : Sta Z Z.heap xS5 "SIOOBE_FORMATTER" "Ljava/util/function/BiFunction;" fm) (hfm : fm.isRef = true) (hi0 : ¬ (i < (0 : Int32))) (hi1 : i < n) (hgx : vs.getD (i).toNatClampNeg (.int (0 : Int32)) = (.int x)) :
    Ctr l Z h0 (⟨"java/lang/StringLatin1", "charAt", "([BI)C"⟩ : MethodName) k39 2 (some .char) [] ({ frames := 2, cells := 0, slots := 0, locals := 27 } : Room) #[(.ref v), (.int i)] (Q_cl1ch Z v kv n vs i x fm h0) := by
  refine enter (plainFor_of_name pn4) ?_
  intro pp ee ss mm below meth cc s₁ hx hby hml hZ hown hnm hret hlk X0 e0 hs0
  replace hown : ss.vm.findClass "java/lang/StringLatin1" = some mm.cls := hown
  refine Go.cast (congrArg s₁.setTop (ef_cl1ch mm v i)) ?_
  have N0 := Fr.nil Z.heap.size
  show Go pp ee below _ (s₁.setTop (mkF mm 0 #[.val (.ref v), .val (.int i)] []))
  refine Go.iloadN X0 hx (hb hby d39_0) rfl (q := 1) rfl ?_
  refine Go.aloadN X0 hx (hb hby d39_1) rfl rfl (q := 2) rfl ?_
  refine Go.alen X0 hx hZ e0 Va (hb hby d39_2) ?_
  refine Go.callS X0 hx hZ hown (wd212 hw) (wd213 hw) (wd8 hw) (wd214 hw) (by decide) (cschk l Z a0 hw i n fm h0 O0 SFM hfm hi0 hi1) e0 (by rw [hml]; rfl) (hb hby d39_3) (argsL := [(.int i), (.int n)]) (rest := []) (lenOf pd6 rfl) rfl rfl (W := 0) (by first | exact Nat.le_refl _ | decide) (by decide) (by decide) (by decide) (by decide) ?_
  intro v101 T101 L101 X101 hQ101
  obtain ⟨rfl, N101q, e101⟩ := hQ101
  have N101 := Fr.app N0 N101q
  refine Go.aloadN X101 hx (hb hby d39_6) rfl rfl (q := 7) rfl ?_
  refine Go.iloadN X101 hx (hb hby d39_7) rfl (q := 8) rfl ?_
  refine Go.bal X101 hx hZ e101 Va ⟨hi0, hi1⟩ (v := (.int x)) hgx (hb hby d39_8) ?_
  refine Go.sipush X101 hx (hb hby d39_9) (r := (255 : Int32)) rfl (q := 12) rfl ?_
  refine Go.iand X101 hx (hb hby d39_12) rfl (q := 13) rfl ?_
  refine Go.i2c X101 hx (hb hby d39_13) rfl (q := 14) rfl ?_
  exact Go.retI X101 hx hret hlk (by simp) (Jvm.Free.XT.narrow_c _) (hb hby d39_14) e101 (by decide) (by decide) ⟨rfl, N101, rfl⟩
def Q_cchar (Z : State) (o : Addr) (i cs : Int32) (v : Addr) (kv : ClassId) (n : Int32) (vs : List Value) (x : Int32) (fm : Value) (h0 : Heap) (vR : Option Value) (hR : Heap) (LR : List Loc) : Prop := vR = some (.int ((x &&& (255 : Int32)).toUInt32.toUInt16.toUInt32.toInt32)) ∧ Fr Z.heap.size LR ∧ hR = h0
theorem cchar (l : Launch) (Z : State) (a0 : Array Value) (hw : ∀ d ∈ tables_1, d.before a0 Z = true) (o : Addr) (i cs : Int32) (v : Addr) (kv : ClassId) (n : Int32) (vs : List Value) (x : Int32) (fm : Value) (h0 : Heap) (O0 : Ext Z.heap h0) (E : Exa Z h0 o xS0) (C : Fld Z h0 o xS0 "coder" "B" (.int 0)) (F : Fld Z h0 o xS0 "value" "[B" (.ref v)) (Va : Arv Z h0 v kv .byte n vs (.int 0)) (SCS : Sta Z Z.heap xS0 xS3 "Z" (.int cs)) (SFM : Sta Z Z.heap xS5 "SIOOBE_FORMATTER" "Ljava/util/function/BiFunction;" fm) (hcs : ¬ (cs = (0 : Int32))) (hfm : fm.isRef = true) (hi0 : ¬ (i < (0 : Int32))) (hi1 : i < n) (hgx : vs.getD (i).toNatClampNeg (.int (0 : Int32)) = (.int x)) :
    Ctr l Z h0 (⟨xS0, "charAt", "(I)C"⟩ : MethodName) k37 2 (some .char) [] ({ frames := 3, cells := 0, slots := 0, locals := 40 } : Room) #[(.ref o), (.int i)] (Q_cchar Z o i cs v kv n vs x fm h0) := by
  refine enter (plainFor_of_name pn1) ?_
  intro pp ee ss mm below meth cc s₁ hx hby hml hZ hown hnm hret hlk X0 e0 hs0
  replace hown : ss.vm.findClass xS0 = some mm.cls := hown
  refine Go.cast (congrArg s₁.setTop (ef_cchar mm o i)) ?_
  have N0 := Fr.nil Z.heap.size
  show Go pp ee below _ (s₁.setTop (mkF mm 0 #[.val (.ref o), .val (.int i)] []))
  refine Go.aloadN X0 hx (hb hby d37_0) rfl rfl (q := 1) rfl ?_
  refine Go.virt X0 hx hZ hown (wd204 hw) (wd205 hw) (notFace_of_selects (args := #[]) (mvT hZ (wd207 hw))) (wd207 hw) (wd206 hw) (wd8 hw) (wd208 hw) (by decide) (clat l Z a0 hw o cs h0 O0 C SCS hcs) e0 E (by rw [hml]; rfl) (hb hby d37_1) (argsL := []) (rest := []) (lenOf pd7 rfl) rfl rfl (W := 0) (by first | exact Nat.le_refl _ | decide) (by decide) (by decide) (by decide) (by decide) ?_
  intro v101 T101 L101 X101 hQ101
  obtain ⟨rfl, N101q, e101⟩ := hQ101
  have N101 := Fr.app N0 N101q
  refine Go.ifNo X101 hx (hb hby d37_4) (by decide) (q := 7) rfl ?_
  refine Go.aloadN X101 hx (hb hby d37_7) rfl rfl (q := 8) rfl ?_
  refine Go.getF X101 hx hZ hown (host := "") (Or.inl (wd25 hw)) Via.refl e101 F (hb hby d37_8) (q := 11) rfl ?_
  intro T102 X102 e102
  refine Go.iloadN X102 hx (hb hby d37_11) rfl (q := 12) rfl ?_
  refine Go.callS X102 hx hZ hown (wd209 hw) (wd210 hw) (wd145 hw) (wd211 hw) (by decide) (cl1ch l Z a0 hw v (kv) n (vs) i x fm h0 O0 Va SFM hfm hi0 hi1 hgx) e102 (by rw [hml]; rfl) (hb hby d37_12) (argsL := [(.ref v), (.int i)]) (rest := []) (lenOf pd8 rfl) rfl rfl (W := 0) (by first | exact Nat.le_refl _ | decide) (by decide) (by decide) (by decide) (by decide) ?_
  intro v103 T103 L103 X103 hQ103
  obtain ⟨rfl, N103q, e103⟩ := hQ103
  have N103 := Fr.app N101 N103q
  exact Go.retI X103 hx hret hlk (by simp) (Jvm.Free.XT.narrow_c _) (hb hby d37_15) e103 (by decide) (by decide) ⟨rfl, N103, rfl⟩
def Q_creq (Z : State) (o q : Addr) (h0 : Heap) (vR : Option Value) (hR : Heap) (LR : List Loc) : Prop := vR = some (.ref o) ∧ Fr Z.heap.size LR ∧ hR = h0
theorem creq (l : Launch) (Z : State) (a0 : Array Value) (hw : ∀ d ∈ tables_1, d.before a0 Z = true) (o q : Addr) (h0 : Heap) (O0 : Ext Z.heap h0) :
    Ctr l Z h0 (⟨"java/util/Objects", "requireNonNull", "(Ljava/lang/Object;Ljava/lang/String;)Ljava/lang/Object;"⟩ : MethodName) k7 2 (some (.object "java/lang/Object")) [] ({ frames := 0, cells := 0, slots := 0, locals := 0 } : Room) #[(.ref o), (.ref q)] (Q_creq Z o q h0) := by
  refine enter (plainFor_of_name pn5) ?_
  intro pp ee ss mm below meth cc s₁ hx hby hml hZ hown hnm hret hlk X0 e0 hs0
  replace hown : ss.vm.findClass "java/util/Objects" = some mm.cls := hown
  refine Go.cast (congrArg s₁.setTop (ef_creq mm o q)) ?_
  have N0 := Fr.nil Z.heap.size
  show Go pp ee below _ (s₁.setTop (mkF mm 0 #[.val (.ref o), .val (.ref q)] []))
  refine Go.aloadN X0 hx (hb hby d7_0) rfl rfl (q := 1) rfl ?_
  refine Go.ifnonnullYes X0 hx (hb hby d7_1) (q := 13) (by decide) (by decide) ?_
  refine Go.aloadN X0 hx (hb hby d7_13) rfl rfl (q := 14) rfl ?_
  exact Go.retA X0 hx hret hlk rfl rfl (hb hby d7_14) e0 (by decide) (by decide) ⟨rfl, N0, rfl⟩
def Q_cchk0 (Z : State) (s v : Addr) (kv : ClassId) (cs : Int32) (fm : Value) (of : Int32) (h0 : Heap) (vR : Option Value) (hR : Heap) (LR : List Loc) : Prop := vR = some (.ref s) ∧ Fr Z.heap.size LR ∧ Keep h0 hR []
theorem cchk0 (l : Launch) (Z : State) (a0 : Array Value) (hw : ∀ d ∈ tables_1, d.before a0 Z = true) (s v : Addr) (kv : ClassId) (cs : Int32) (fm : Value) (of : Int32) (h0 : Heap) (O0 : Ext Z.heap h0) (Es : Exa Z h0 s xS0) (Cs : Fld Z h0 s xS0 "coder" "B" (.int 0)) (Fs : Fld Z h0 s xS0 "value" "[B" (.ref v)) (Vs : Arv Z h0 v kv .byte (0 : Int32) [] (.int 0)) (SCS : Sta Z Z.heap xS0 xS3 "Z" (.int cs)) (SFM : Sta Z Z.heap xS5 "SIOOBE_FORMATTER" "Ljava/util/function/BiFunction;" fm) (hcs : ¬ (cs = (0 : Int32))) (hfm : fm.isRef = true) :
    CtrH l Z consts_1 h0 (⟨xS2, "checkedValue", "(Ljava/lang/String;I)Ljava/lang/String;"⟩ : MethodName) k6 6 (some (.object xS0)) [] ({ frames := 2, cells := 2, slots := 24, locals := 26 } : Room) #[(.ref s), (.int of)] (Q_cchk0 Z s v kv cs fm of h0) := by
  refine enterH (plainFor_of_name pn6) ?_
  intro pp ee ss mm below meth cc s₁ hx hby hml hZ hown hnm hret hlk X0 e0 hs0 hS hC
  replace hown : (ss.setVm ss.vm).vm.findClass xS2 = some mm.cls := hown
  have hKd := Nat.zero_le h0.size
  refine Go.cast (congrArg s₁.setTop (ef_cchk0 mm s of)) ?_
  have N0 := Fr.nil Z.heap.size
  have KP := Keep.refl h0 []
  show Go pp ee below _ (s₁.setTop (mkF mm 0 #[.val (.ref s), .val (.int of), .unset, .unset, .unset, .unset] []))
  refine Go.aloadN X0 hx (hb hby d6_0) rfl rfl (q := 1) rfl ?_
  refine Go.ldcO X0 hx hZ hown (wd36 hw) (own_wS hw) e0 hS hKd (own_EW hw) hC (hb hby d6_1) (nn := 20) (by decide) (by decide) (by decide) (by decide) (q := 3) rfl ?_
  intro b101 T101 h101 k101 X101 e101 E101 hS hKd hZ hown hR101
  replace hC := hC.trans hR101
  replace Es := Es.ext E101
  replace Cs := Cs.ext E101
  replace Fs := Fs.ext E101
  replace Vs := Vs.ext E101
  have OE101 := ext_trans O0 E101
  replace KP := KP.ext E101
  refine Go.callS X101 hx hZ hown (wd37 hw) (wd38 hw) (wd39 hw) (wd40 hw) (by decide) (creq l Z a0 hw s b101 h101 OE101) e101 (by rw [hml]; rfl) (hb hby d6_3) (argsL := [(.ref s), (.ref b101)]) (rest := []) (lenOf pd9 rfl) rfl rfl (W := 0) (by first | exact Nat.le_refl _ | decide) (by decide) (by decide) (by decide) (by decide) ?_
  intro v102 T102 L102 X102 hQ102
  obtain ⟨rfl, N102q, e102⟩ := hQ102
  have N102 := Fr.app N0 N102q
  refine Go.pop X102 hx (hb hby d6_6) rfl (q := 7) rfl ?_
  refine Go.iconst X102 hx (hb hby d6_7) (r := (0 : Int32)) rfl (q := 8) rfl ?_
  refine Go.istoreN X102 hx (hb hby d6_8) (l' := #[.val (.ref s), .val (.int of), .val (.int 0), .unset, .unset, .unset]) rfl (q := 9) rfl ?_
  refine Go.iloadN X102 hx (hb hby d6_9) rfl (q := 10) rfl ?_
  refine Go.aloadN X102 hx (hb hby d6_10) rfl rfl (q := 11) rfl ?_
  refine Go.virt X102 hx hZ hown (wd41 hw) (wd42 hw) (notFace_of_selects (args := #[]) (mvT hZ (wd44 hw))) (wd44 hw) (wd43 hw) (wd8 hw) (wd45 hw) (by decide) (clen l Z a0 hw s cs v (kv) ((0 : Int32)) ([]) h101 OE101 Es Cs Fs Vs SCS hcs) e102 Es (by rw [hml]; rfl) (hb hby d6_11) (argsL := []) (rest := [(.int 0)]) (lenOf pd10 rfl) rfl rfl (W := 1) (by first | exact Nat.le_refl _ | decide) (by decide) (by decide) (by decide) (by decide) ?_
  intro v103 T103 L103 X103 hQ103
  obtain ⟨rfl, N103q, e103⟩ := hQ103
  have N103 := Fr.app N102 N103q
  refine Go.icmpYes X103 hx (hb hby d6_14) (by decide) (q := 133) (by decide) (by decide) ?_
  refine Go.aloadN X103 hx (hb hby d6_133) rfl rfl (q := 134) rfl ?_
  exact Go.retAH X103 hx hS hKd hs0 hZ (own_EW hw) hC hret hlk rfl rfl (hb hby d6_134) e103 (by decide) (by decide) ⟨rfl, N103, KP⟩
def Q_cchk1 (Z : State) (s v : Addr) (kv : ClassId) (cs : Int32) (fm : Value) (c0 of : Int32) (h0 : Heap) (vR : Option Value) (hR : Heap) (LR : List Loc) : Prop := vR = some (.ref s) ∧ Fr Z.heap.size LR ∧ Keep h0 hR []
theorem cchk1 (l : Launch) (Z : State) (a0 : Array Value) (hw : ∀ d ∈ tables_1, d.before a0 Z = true) (s v : Addr) (kv : ClassId) (cs : Int32) (fm : Value) (c0 of : Int32) (h0 : Heap) (O0 : Ext Z.heap h0) (Es : Exa Z h0 s xS0) (Cs : Fld Z h0 s xS0 "coder" "B" (.int 0)) (Fs : Fld Z h0 s xS0 "value" "[B" (.ref v)) (Vs : Arv Z h0 v kv .byte (1 : Int32) [(.int (c0.toInt8.toInt32))] (.int 0)) (SCS : Sta Z Z.heap xS0 xS3 "Z" (.int cs)) (SFM : Sta Z Z.heap xS5 "SIOOBE_FORMATTER" "Ljava/util/function/BiFunction;" fm) (hcs : ¬ (cs = (0 : Int32))) (hfm : fm.isRef = true) (he0 : ETC c0) :
    CtrH l Z consts_1 h0 (⟨xS2, "checkedValue", "(Ljava/lang/String;I)Ljava/lang/String;"⟩ : MethodName) k6 6 (some (.object xS0)) [] ({ frames := 4, cells := 2, slots := 24, locals := 53 } : Room) #[(.ref s), (.int of)] (Q_cchk1 Z s v kv cs fm c0 of h0) := by
  refine enterH (plainFor_of_name pn6) ?_
  intro pp ee ss mm below meth cc s₁ hx hby hml hZ hown hnm hret hlk X0 e0 hs0 hS hC
  replace hown : (ss.setVm ss.vm).vm.findClass xS2 = some mm.cls := hown
  have hKd := Nat.zero_le h0.size
  refine Go.cast (congrArg s₁.setTop (ef_cchk1 mm s of)) ?_
  have N0 := Fr.nil Z.heap.size
  have KP := Keep.refl h0 []
  show Go pp ee below _ (s₁.setTop (mkF mm 0 #[.val (.ref s), .val (.int of), .unset, .unset, .unset, .unset] []))
  refine Go.aloadN X0 hx (hb hby d6_0) rfl rfl (q := 1) rfl ?_
  refine Go.ldcO X0 hx hZ hown (wd36 hw) (own_wS hw) e0 hS hKd (own_EW hw) hC (hb hby d6_1) (nn := 20) (by decide) (by decide) (by decide) (by decide) (q := 3) rfl ?_
  intro b101 T101 h101 k101 X101 e101 E101 hS hKd hZ hown hR101
  replace hC := hC.trans hR101
  replace Es := Es.ext E101
  replace Cs := Cs.ext E101
  replace Fs := Fs.ext E101
  replace Vs := Vs.ext E101
  have OE101 := ext_trans O0 E101
  replace KP := KP.ext E101
  refine Go.callS X101 hx hZ hown (wd37 hw) (wd38 hw) (wd39 hw) (wd40 hw) (by decide) (creq l Z a0 hw s b101 h101 OE101) e101 (by rw [hml]; rfl) (hb hby d6_3) (argsL := [(.ref s), (.ref b101)]) (rest := []) (lenOf pd9 rfl) rfl rfl (W := 0) (by first | exact Nat.le_refl _ | decide) (by decide) (by decide) (by decide) (by decide) ?_
  intro v102 T102 L102 X102 hQ102
  obtain ⟨rfl, N102q, e102⟩ := hQ102
  have N102 := Fr.app N0 N102q
  refine Go.pop X102 hx (hb hby d6_6) rfl (q := 7) rfl ?_
  refine Go.iconst X102 hx (hb hby d6_7) (r := (0 : Int32)) rfl (q := 8) rfl ?_
  refine Go.istoreN X102 hx (hb hby d6_8) (l' := #[.val (.ref s), .val (.int of), .val (.int 0), .unset, .unset, .unset]) rfl (q := 9) rfl ?_
  refine Go.iloadN X102 hx (hb hby d6_9) rfl (q := 10) rfl ?_
  refine Go.aloadN X102 hx (hb hby d6_10) rfl rfl (q := 11) rfl ?_
  refine Go.virt X102 hx hZ hown (wd41 hw) (wd42 hw) (notFace_of_selects (args := #[]) (mvT hZ (wd44 hw))) (wd44 hw) (wd43 hw) (wd8 hw) (wd45 hw) (by decide) (clen l Z a0 hw s cs v (kv) ((1 : Int32)) ([(.int (c0.toInt8.toInt32))]) h101 OE101 Es Cs Fs Vs SCS hcs) e102 Es (by rw [hml]; rfl) (hb hby d6_11) (argsL := []) (rest := [(.int 0)]) (lenOf pd10 rfl) rfl rfl (W := 1) (by first | exact Nat.le_refl _ | decide) (by decide) (by decide) (by decide) (by decide) ?_
  intro v103 T103 L103 X103 hQ103
  obtain ⟨rfl, N103q, e103⟩ := hQ103
  have N103 := Fr.app N102 N103q
  refine Go.icmpNo X103 hx (hb hby d6_14) (by decide) (q := 17) rfl ?_
  refine Go.aloadN X103 hx (hb hby d6_17) rfl rfl (q := 18) rfl ?_
  refine Go.iloadN X103 hx (hb hby d6_18) rfl (q := 19) rfl ?_
  refine Go.virt X103 hx hZ hown (wd230 hw) (wd200 hw) (notFace_of_selects (args := #[]) (mvT hZ (wd202 hw))) (wd202 hw) (wd201 hw) (wd8 hw) (wd203 hw) (by decide) (cchar l Z a0 hw s ((0 : Int32)) cs v (kv) ((1 : Int32)) ([(.int (c0.toInt8.toInt32))]) ((c0.toInt8.toInt32)) fm h101 OE101 Es Cs Fs Vs SCS SFM hcs hfm (by decide) (by decide) rfl) e103 Es (by rw [hml]; rfl) (hb hby d6_19) (argsL := [(.int 0)]) (rest := []) (lenOf pd11 rfl) rfl rfl (W := 0) (by first | exact Nat.le_refl _ | decide) (by decide) (by decide) (by decide) (by decide) ?_
  intro v104 T104 L104 X104 hQ104
  obtain ⟨rfl, N104q, e104⟩ := hQ104
  have N104 := Fr.app N103 N104q
  rw [own_ech he0]
  show Go pp ee below _ (T104.setTop (mkF mm 22 #[.val (.ref s), .val (.int of), .val (.int 0), .unset, .unset, .unset] [(.int c0)]))
  refine Go.istoreN X104 hx (hb hby d6_22) (l' := #[.val (.ref s), .val (.int of), .val (.int 0), .val (.int c0), .unset, .unset]) rfl (q := 23) rfl ?_
  have J127_105 : Go pp ee below (KKH Z consts_1 ss (Q_cchk1 Z s v kv cs fm c0 of h0) ({ frames := 4, cells := 2, slots := 24, locals := 53 } : Room).cells ({ frames := 4, cells := 2, slots := 24, locals := 53 } : Room).slots) (T104.setTop (mkF mm 127 #[.val (.ref s), .val (.int of), .val (.int 0), .val (.int c0), .val (.int 1), .unset] [])) := by
    refine Go.iinc X104 hx (hb hby d6_127) rfl (r := (1 : Int32)) rfl (l' := #[.val (.ref s), .val (.int of), .val (.int 1), .val (.int c0), .val (.int 1), .unset]) rfl (q := 130) rfl ?_
    refine Go.goto X104 hx (hb hby d6_130) (q := 9) (by decide) (by decide) ?_
    refine Go.iloadN X104 hx (hb hby d6_9) rfl (q := 10) rfl ?_
    refine Go.aloadN X104 hx (hb hby d6_10) rfl rfl (q := 11) rfl ?_
    refine Go.virt X104 hx hZ hown (wd41 hw) (wd42 hw) (notFace_of_selects (args := #[]) (mvT hZ (wd44 hw))) (wd44 hw) (wd43 hw) (wd8 hw) (wd45 hw) (by decide) (clen l Z a0 hw s cs v (kv) ((1 : Int32)) ([(.int (c0.toInt8.toInt32))]) h101 OE101 Es Cs Fs Vs SCS hcs) e104 Es (by rw [hml]; rfl) (hb hby d6_11) (argsL := []) (rest := [(.int 1)]) (lenOf pd10 rfl) rfl rfl (W := 1) (by first | exact Nat.le_refl _ | decide) (by decide) (by decide) (by decide) (by decide) ?_
    intro v106 T106 L106 X106 hQ106
    obtain ⟨rfl, N106q, e106⟩ := hQ106
    have N106 := Fr.app N104 N106q
    refine Go.icmpYes X106 hx (hb hby d6_14) (by decide) (q := 133) (by decide) (by decide) ?_
    refine Go.aloadN X106 hx (hb hby d6_133) rfl rfl (q := 134) rfl ?_
    exact Go.retAH X106 hx hS hKd hs0 hZ (own_EW hw) hC hret hlk rfl rfl (hb hby d6_134) e106 (by decide) (by decide) ⟨rfl, N106, KP⟩
  refine Go.iloadN X104 hx (hb hby d6_23) rfl (q := 24) rfl ?_
  refine Go.bipush X104 hx (hb hby d6_24) (r := (33 : Int32)) rfl (q := 26) rfl ?_
  by_cases hc107 : c0 = (33 : Int32)
  · have tc107 := (show (c0).toInt = 33 from own_eq hc107)
    refine Go.icmpYes X104 hx (hb hby d6_26) (Jvm.Free.XT.ii_eq_t hc107) (q := 55) (by decide) (by decide) ?_
    refine Go.iconst X104 hx (hb hby d6_55) (r := (1 : Int32)) rfl (q := 56) rfl ?_
    refine Go.goto X104 hx (hb hby d6_56) (q := 60) (by decide) (by decide) ?_
    refine Go.istore X104 hx (hb hby d6_60) (l' := #[.val (.ref s), .val (.int of), .val (.int 0), .val (.int c0), .val (.int 1), .unset]) rfl (q := 62) rfl ?_
    refine Go.iload X104 hx (hb hby d6_62) rfl (q := 64) rfl ?_
    refine Go.ifYes X104 hx (hb hby d6_64) (by decide) (q := 127) (by decide) (by decide) ?_
    exact J127_105
  · have tc107 := (show ¬ (c0).toInt = 33 from own_eqn hc107)
    refine Go.icmpNo X104 hx (hb hby d6_26) (Jvm.Free.XT.ii_eq_f hc107) (q := 29) rfl ?_
    refine Go.iloadN X104 hx (hb hby d6_29) rfl (q := 30) rfl ?_
    refine Go.bipush X104 hx (hb hby d6_30) (r := (35 : Int32)) rfl (q := 32) rfl ?_
    by_cases hc108 : c0 < (35 : Int32)
    · have tc108 := (show (c0).toInt < 35 from own_lt hc108)
      refine Go.icmpYes X104 hx (hb hby d6_32) (Jvm.Free.XT.ii_lt_t hc108) (q := 41) (by decide) (by decide) ?_
      refine Go.iloadN X104 hx (hb hby d6_41) rfl (q := 42) rfl ?_
      refine Go.sipush X104 hx (hb hby d6_42) (r := (128 : Int32)) rfl (q := 45) rfl ?_
      by_cases hc109 : c0 < (128 : Int32)
      · have tc109 := (show (c0).toInt < 128 from own_lt hc109)
        refine Go.icmpYes X104 hx (hb hby d6_45) (Jvm.Free.XT.ii_lt_t hc109) (q := 59) (by decide) (by decide) ?_
        refine Go.iconst X104 hx (hb hby d6_59) (r := (0 : Int32)) rfl (q := 60) rfl ?_
        refine Go.istore X104 hx (hb hby d6_60) (l' := #[.val (.ref s), .val (.int of), .val (.int 0), .val (.int c0), .val (.int 0), .unset]) rfl (q := 62) rfl ?_
        refine Go.iload X104 hx (hb hby d6_62) rfl (q := 64) rfl ?_
        refine Go.ifNo X104 hx (hb hby d6_64) (by decide) (q := 67) rfl ?_
        exfalso; have := own_etr he0; omega
      · have tc109 := (show ¬ (c0).toInt < 128 from own_ltn hc109)
        refine Go.icmpNo X104 hx (hb hby d6_45) (Jvm.Free.XT.ii_lt_f hc109) (q := 48) rfl ?_
        refine Go.iloadN X104 hx (hb hby d6_48) rfl (q := 49) rfl ?_
        refine Go.sipush X104 hx (hb hby d6_49) (r := (255 : Int32)) rfl (q := 52) rfl ?_
        by_cases hc110 : (255 : Int32) < c0
        · have tc110 := (show 255 < (c0).toInt from own_lt hc110)
          refine Go.icmpYes X104 hx (hb hby d6_52) (Jvm.Free.XT.ii_gt_t hc110) (q := 59) (by decide) (by decide) ?_
          refine Go.iconst X104 hx (hb hby d6_59) (r := (0 : Int32)) rfl (q := 60) rfl ?_
          refine Go.istore X104 hx (hb hby d6_60) (l' := #[.val (.ref s), .val (.int of), .val (.int 0), .val (.int c0), .val (.int 0), .unset]) rfl (q := 62) rfl ?_
          refine Go.iload X104 hx (hb hby d6_62) rfl (q := 64) rfl ?_
          refine Go.ifNo X104 hx (hb hby d6_64) (by decide) (q := 67) rfl ?_
          exfalso; have := own_etr he0; omega
        · have tc110 := (show ¬ 255 < (c0).toInt from own_ltn hc110)
          refine Go.icmpNo X104 hx (hb hby d6_52) (Jvm.Free.XT.ii_gt_f hc110) (q := 55) rfl ?_
          refine Go.iconst X104 hx (hb hby d6_55) (r := (1 : Int32)) rfl (q := 56) rfl ?_
          refine Go.goto X104 hx (hb hby d6_56) (q := 60) (by decide) (by decide) ?_
          refine Go.istore X104 hx (hb hby d6_60) (l' := #[.val (.ref s), .val (.int of), .val (.int 0), .val (.int c0), .val (.int 1), .unset]) rfl (q := 62) rfl ?_
          refine Go.iload X104 hx (hb hby d6_62) rfl (q := 64) rfl ?_
          refine Go.ifYes X104 hx (hb hby d6_64) (by decide) (q := 127) (by decide) (by decide) ?_
          exact J127_105
    · have tc108 := (show ¬ (c0).toInt < 35 from own_ltn hc108)
      refine Go.icmpNo X104 hx (hb hby d6_32) (Jvm.Free.XT.ii_lt_f hc108) (q := 35) rfl ?_
      refine Go.iloadN X104 hx (hb hby d6_35) rfl (q := 36) rfl ?_
      refine Go.bipush X104 hx (hb hby d6_36) (r := (126 : Int32)) rfl (q := 38) rfl ?_
      by_cases hc111 : (126 : Int32) < c0
      · have tc111 := (show 126 < (c0).toInt from own_lt hc111)
        refine Go.icmpNo X104 hx (hb hby d6_38) (Jvm.Free.XT.ii_le_f hc111) (q := 41) rfl ?_
        refine Go.iloadN X104 hx (hb hby d6_41) rfl (q := 42) rfl ?_
        refine Go.sipush X104 hx (hb hby d6_42) (r := (128 : Int32)) rfl (q := 45) rfl ?_
        by_cases hc112 : c0 < (128 : Int32)
        · have tc112 := (show (c0).toInt < 128 from own_lt hc112)
          refine Go.icmpYes X104 hx (hb hby d6_45) (Jvm.Free.XT.ii_lt_t hc112) (q := 59) (by decide) (by decide) ?_
          refine Go.iconst X104 hx (hb hby d6_59) (r := (0 : Int32)) rfl (q := 60) rfl ?_
          refine Go.istore X104 hx (hb hby d6_60) (l' := #[.val (.ref s), .val (.int of), .val (.int 0), .val (.int c0), .val (.int 0), .unset]) rfl (q := 62) rfl ?_
          refine Go.iload X104 hx (hb hby d6_62) rfl (q := 64) rfl ?_
          refine Go.ifNo X104 hx (hb hby d6_64) (by decide) (q := 67) rfl ?_
          exfalso; have := own_etr he0; omega
        · have tc112 := (show ¬ (c0).toInt < 128 from own_ltn hc112)
          refine Go.icmpNo X104 hx (hb hby d6_45) (Jvm.Free.XT.ii_lt_f hc112) (q := 48) rfl ?_
          refine Go.iloadN X104 hx (hb hby d6_48) rfl (q := 49) rfl ?_
          refine Go.sipush X104 hx (hb hby d6_49) (r := (255 : Int32)) rfl (q := 52) rfl ?_
          by_cases hc113 : (255 : Int32) < c0
          · have tc113 := (show 255 < (c0).toInt from own_lt hc113)
            refine Go.icmpYes X104 hx (hb hby d6_52) (Jvm.Free.XT.ii_gt_t hc113) (q := 59) (by decide) (by decide) ?_
            refine Go.iconst X104 hx (hb hby d6_59) (r := (0 : Int32)) rfl (q := 60) rfl ?_
            refine Go.istore X104 hx (hb hby d6_60) (l' := #[.val (.ref s), .val (.int of), .val (.int 0), .val (.int c0), .val (.int 0), .unset]) rfl (q := 62) rfl ?_
            refine Go.iload X104 hx (hb hby d6_62) rfl (q := 64) rfl ?_
            refine Go.ifNo X104 hx (hb hby d6_64) (by decide) (q := 67) rfl ?_
            exfalso; have := own_etr he0; omega
          · have tc113 := (show ¬ 255 < (c0).toInt from own_ltn hc113)
            refine Go.icmpNo X104 hx (hb hby d6_52) (Jvm.Free.XT.ii_gt_f hc113) (q := 55) rfl ?_
            refine Go.iconst X104 hx (hb hby d6_55) (r := (1 : Int32)) rfl (q := 56) rfl ?_
            refine Go.goto X104 hx (hb hby d6_56) (q := 60) (by decide) (by decide) ?_
            refine Go.istore X104 hx (hb hby d6_60) (l' := #[.val (.ref s), .val (.int of), .val (.int 0), .val (.int c0), .val (.int 1), .unset]) rfl (q := 62) rfl ?_
            refine Go.iload X104 hx (hb hby d6_62) rfl (q := 64) rfl ?_
            refine Go.ifYes X104 hx (hb hby d6_64) (by decide) (q := 127) (by decide) (by decide) ?_
            exact J127_105
      · have tc111 := (show ¬ 126 < (c0).toInt from own_ltn hc111)
        refine Go.icmpYes X104 hx (hb hby d6_38) (Jvm.Free.XT.ii_le_t hc111) (q := 55) (by decide) (by decide) ?_
        refine Go.iconst X104 hx (hb hby d6_55) (r := (1 : Int32)) rfl (q := 56) rfl ?_
        refine Go.goto X104 hx (hb hby d6_56) (q := 60) (by decide) (by decide) ?_
        refine Go.istore X104 hx (hb hby d6_60) (l' := #[.val (.ref s), .val (.int of), .val (.int 0), .val (.int c0), .val (.int 1), .unset]) rfl (q := 62) rfl ?_
        refine Go.iload X104 hx (hb hby d6_62) rfl (q := 64) rfl ?_
        refine Go.ifYes X104 hx (hb hby d6_64) (by decide) (q := 127) (by decide) (by decide) ?_
        exact J127_105
def Q_cchk2 (Z : State) (s v : Addr) (kv : ClassId) (cs : Int32) (fm : Value) (c0 c1 of : Int32) (h0 : Heap) (vR : Option Value) (hR : Heap) (LR : List Loc) : Prop := vR = some (.ref s) ∧ Fr Z.heap.size LR ∧ Keep h0 hR []
theorem cchk2 (l : Launch) (Z : State) (a0 : Array Value) (hw : ∀ d ∈ tables_1, d.before a0 Z = true) (s v : Addr) (kv : ClassId) (cs : Int32) (fm : Value) (c0 c1 of : Int32) (h0 : Heap) (O0 : Ext Z.heap h0) (Es : Exa Z h0 s xS0) (Cs : Fld Z h0 s xS0 "coder" "B" (.int 0)) (Fs : Fld Z h0 s xS0 "value" "[B" (.ref v)) (Vs : Arv Z h0 v kv .byte (2 : Int32) [(.int (c0.toInt8.toInt32)), (.int (c1.toInt8.toInt32))] (.int 0)) (SCS : Sta Z Z.heap xS0 xS3 "Z" (.int cs)) (SFM : Sta Z Z.heap xS5 "SIOOBE_FORMATTER" "Ljava/util/function/BiFunction;" fm) (hcs : ¬ (cs = (0 : Int32))) (hfm : fm.isRef = true) (he0 : ETC c0) (he1 : ETC c1) :
    CtrH l Z consts_1 h0 (⟨xS2, "checkedValue", "(Ljava/lang/String;I)Ljava/lang/String;"⟩ : MethodName) k6 6 (some (.object xS0)) [] ({ frames := 4, cells := 2, slots := 24, locals := 53 } : Room) #[(.ref s), (.int of)] (Q_cchk2 Z s v kv cs fm c0 c1 of h0) := by
  refine enterH (plainFor_of_name pn6) ?_
  intro pp ee ss mm below meth cc s₁ hx hby hml hZ hown hnm hret hlk X0 e0 hs0 hS hC
  replace hown : (ss.setVm ss.vm).vm.findClass xS2 = some mm.cls := hown
  have hKd := Nat.zero_le h0.size
  refine Go.cast (congrArg s₁.setTop (ef_cchk2 mm s of)) ?_
  have N0 := Fr.nil Z.heap.size
  have KP := Keep.refl h0 []
  show Go pp ee below _ (s₁.setTop (mkF mm 0 #[.val (.ref s), .val (.int of), .unset, .unset, .unset, .unset] []))
  refine Go.aloadN X0 hx (hb hby d6_0) rfl rfl (q := 1) rfl ?_
  refine Go.ldcO X0 hx hZ hown (wd36 hw) (own_wS hw) e0 hS hKd (own_EW hw) hC (hb hby d6_1) (nn := 20) (by decide) (by decide) (by decide) (by decide) (q := 3) rfl ?_
  intro b101 T101 h101 k101 X101 e101 E101 hS hKd hZ hown hR101
  replace hC := hC.trans hR101
  replace Es := Es.ext E101
  replace Cs := Cs.ext E101
  replace Fs := Fs.ext E101
  replace Vs := Vs.ext E101
  have OE101 := ext_trans O0 E101
  replace KP := KP.ext E101
  refine Go.callS X101 hx hZ hown (wd37 hw) (wd38 hw) (wd39 hw) (wd40 hw) (by decide) (creq l Z a0 hw s b101 h101 OE101) e101 (by rw [hml]; rfl) (hb hby d6_3) (argsL := [(.ref s), (.ref b101)]) (rest := []) (lenOf pd9 rfl) rfl rfl (W := 0) (by first | exact Nat.le_refl _ | decide) (by decide) (by decide) (by decide) (by decide) ?_
  intro v102 T102 L102 X102 hQ102
  obtain ⟨rfl, N102q, e102⟩ := hQ102
  have N102 := Fr.app N0 N102q
  refine Go.pop X102 hx (hb hby d6_6) rfl (q := 7) rfl ?_
  refine Go.iconst X102 hx (hb hby d6_7) (r := (0 : Int32)) rfl (q := 8) rfl ?_
  refine Go.istoreN X102 hx (hb hby d6_8) (l' := #[.val (.ref s), .val (.int of), .val (.int 0), .unset, .unset, .unset]) rfl (q := 9) rfl ?_
  refine Go.iloadN X102 hx (hb hby d6_9) rfl (q := 10) rfl ?_
  refine Go.aloadN X102 hx (hb hby d6_10) rfl rfl (q := 11) rfl ?_
  refine Go.virt X102 hx hZ hown (wd41 hw) (wd42 hw) (notFace_of_selects (args := #[]) (mvT hZ (wd44 hw))) (wd44 hw) (wd43 hw) (wd8 hw) (wd45 hw) (by decide) (clen l Z a0 hw s cs v (kv) ((2 : Int32)) ([(.int (c0.toInt8.toInt32)), (.int (c1.toInt8.toInt32))]) h101 OE101 Es Cs Fs Vs SCS hcs) e102 Es (by rw [hml]; rfl) (hb hby d6_11) (argsL := []) (rest := [(.int 0)]) (lenOf pd10 rfl) rfl rfl (W := 1) (by first | exact Nat.le_refl _ | decide) (by decide) (by decide) (by decide) (by decide) ?_
  intro v103 T103 L103 X103 hQ103
  obtain ⟨rfl, N103q, e103⟩ := hQ103
  have N103 := Fr.app N102 N103q
  refine Go.icmpNo X103 hx (hb hby d6_14) (by decide) (q := 17) rfl ?_
  refine Go.aloadN X103 hx (hb hby d6_17) rfl rfl (q := 18) rfl ?_
  refine Go.iloadN X103 hx (hb hby d6_18) rfl (q := 19) rfl ?_
  refine Go.virt X103 hx hZ hown (wd230 hw) (wd200 hw) (notFace_of_selects (args := #[]) (mvT hZ (wd202 hw))) (wd202 hw) (wd201 hw) (wd8 hw) (wd203 hw) (by decide) (cchar l Z a0 hw s ((0 : Int32)) cs v (kv) ((2 : Int32)) ([(.int (c0.toInt8.toInt32)), (.int (c1.toInt8.toInt32))]) ((c0.toInt8.toInt32)) fm h101 OE101 Es Cs Fs Vs SCS SFM hcs hfm (by decide) (by decide) rfl) e103 Es (by rw [hml]; rfl) (hb hby d6_19) (argsL := [(.int 0)]) (rest := []) (lenOf pd11 rfl) rfl rfl (W := 0) (by first | exact Nat.le_refl _ | decide) (by decide) (by decide) (by decide) (by decide) ?_
  intro v104 T104 L104 X104 hQ104
  obtain ⟨rfl, N104q, e104⟩ := hQ104
  have N104 := Fr.app N103 N104q
  rw [own_ech he0]
  show Go pp ee below _ (T104.setTop (mkF mm 22 #[.val (.ref s), .val (.int of), .val (.int 0), .unset, .unset, .unset] [(.int c0)]))
  refine Go.istoreN X104 hx (hb hby d6_22) (l' := #[.val (.ref s), .val (.int of), .val (.int 0), .val (.int c0), .unset, .unset]) rfl (q := 23) rfl ?_
  have J127_105 : Go pp ee below (KKH Z consts_1 ss (Q_cchk2 Z s v kv cs fm c0 c1 of h0) ({ frames := 4, cells := 2, slots := 24, locals := 53 } : Room).cells ({ frames := 4, cells := 2, slots := 24, locals := 53 } : Room).slots) (T104.setTop (mkF mm 127 #[.val (.ref s), .val (.int of), .val (.int 0), .val (.int c0), .val (.int 1), .unset] [])) := by
    refine Go.iinc X104 hx (hb hby d6_127) rfl (r := (1 : Int32)) rfl (l' := #[.val (.ref s), .val (.int of), .val (.int 1), .val (.int c0), .val (.int 1), .unset]) rfl (q := 130) rfl ?_
    refine Go.goto X104 hx (hb hby d6_130) (q := 9) (by decide) (by decide) ?_
    refine Go.iloadN X104 hx (hb hby d6_9) rfl (q := 10) rfl ?_
    refine Go.aloadN X104 hx (hb hby d6_10) rfl rfl (q := 11) rfl ?_
    refine Go.virt X104 hx hZ hown (wd41 hw) (wd42 hw) (notFace_of_selects (args := #[]) (mvT hZ (wd44 hw))) (wd44 hw) (wd43 hw) (wd8 hw) (wd45 hw) (by decide) (clen l Z a0 hw s cs v (kv) ((2 : Int32)) ([(.int (c0.toInt8.toInt32)), (.int (c1.toInt8.toInt32))]) h101 OE101 Es Cs Fs Vs SCS hcs) e104 Es (by rw [hml]; rfl) (hb hby d6_11) (argsL := []) (rest := [(.int 1)]) (lenOf pd10 rfl) rfl rfl (W := 1) (by first | exact Nat.le_refl _ | decide) (by decide) (by decide) (by decide) (by decide) ?_
    intro v106 T106 L106 X106 hQ106
    obtain ⟨rfl, N106q, e106⟩ := hQ106
    have N106 := Fr.app N104 N106q
    refine Go.icmpNo X106 hx (hb hby d6_14) (by decide) (q := 17) rfl ?_
    refine Go.aloadN X106 hx (hb hby d6_17) rfl rfl (q := 18) rfl ?_
    refine Go.iloadN X106 hx (hb hby d6_18) rfl (q := 19) rfl ?_
    refine Go.virt X106 hx hZ hown (wd230 hw) (wd200 hw) (notFace_of_selects (args := #[]) (mvT hZ (wd202 hw))) (wd202 hw) (wd201 hw) (wd8 hw) (wd203 hw) (by decide) (cchar l Z a0 hw s ((1 : Int32)) cs v (kv) ((2 : Int32)) ([(.int (c0.toInt8.toInt32)), (.int (c1.toInt8.toInt32))]) ((c1.toInt8.toInt32)) fm h101 OE101 Es Cs Fs Vs SCS SFM hcs hfm (by decide) (by decide) rfl) e106 Es (by rw [hml]; rfl) (hb hby d6_19) (argsL := [(.int 1)]) (rest := []) (lenOf pd11 rfl) rfl rfl (W := 0) (by first | exact Nat.le_refl _ | decide) (by decide) (by decide) (by decide) (by decide) ?_
    intro v107 T107 L107 X107 hQ107
    obtain ⟨rfl, N107q, e107⟩ := hQ107
    have N107 := Fr.app N106 N107q
    rw [own_ech he1]
    show Go pp ee below _ (T107.setTop (mkF mm 22 #[.val (.ref s), .val (.int of), .val (.int 1), .val (.int c0), .val (.int 1), .unset] [(.int c1)]))
    refine Go.istoreN X107 hx (hb hby d6_22) (l' := #[.val (.ref s), .val (.int of), .val (.int 1), .val (.int c1), .val (.int 1), .unset]) rfl (q := 23) rfl ?_
    have J127_108 : Go pp ee below (KKH Z consts_1 ss (Q_cchk2 Z s v kv cs fm c0 c1 of h0) ({ frames := 4, cells := 2, slots := 24, locals := 53 } : Room).cells ({ frames := 4, cells := 2, slots := 24, locals := 53 } : Room).slots) (T107.setTop (mkF mm 127 #[.val (.ref s), .val (.int of), .val (.int 1), .val (.int c1), .val (.int 1), .unset] [])) := by
      refine Go.iinc X107 hx (hb hby d6_127) rfl (r := (2 : Int32)) rfl (l' := #[.val (.ref s), .val (.int of), .val (.int 2), .val (.int c1), .val (.int 1), .unset]) rfl (q := 130) rfl ?_
      refine Go.goto X107 hx (hb hby d6_130) (q := 9) (by decide) (by decide) ?_
      refine Go.iloadN X107 hx (hb hby d6_9) rfl (q := 10) rfl ?_
      refine Go.aloadN X107 hx (hb hby d6_10) rfl rfl (q := 11) rfl ?_
      refine Go.virt X107 hx hZ hown (wd41 hw) (wd42 hw) (notFace_of_selects (args := #[]) (mvT hZ (wd44 hw))) (wd44 hw) (wd43 hw) (wd8 hw) (wd45 hw) (by decide) (clen l Z a0 hw s cs v (kv) ((2 : Int32)) ([(.int (c0.toInt8.toInt32)), (.int (c1.toInt8.toInt32))]) h101 OE101 Es Cs Fs Vs SCS hcs) e107 Es (by rw [hml]; rfl) (hb hby d6_11) (argsL := []) (rest := [(.int 2)]) (lenOf pd10 rfl) rfl rfl (W := 1) (by first | exact Nat.le_refl _ | decide) (by decide) (by decide) (by decide) (by decide) ?_
      intro v109 T109 L109 X109 hQ109
      obtain ⟨rfl, N109q, e109⟩ := hQ109
      have N109 := Fr.app N107 N109q
      refine Go.icmpYes X109 hx (hb hby d6_14) (by decide) (q := 133) (by decide) (by decide) ?_
      refine Go.aloadN X109 hx (hb hby d6_133) rfl rfl (q := 134) rfl ?_
      exact Go.retAH X109 hx hS hKd hs0 hZ (own_EW hw) hC hret hlk rfl rfl (hb hby d6_134) e109 (by decide) (by decide) ⟨rfl, N109, KP⟩
    refine Go.iloadN X107 hx (hb hby d6_23) rfl (q := 24) rfl ?_
    refine Go.bipush X107 hx (hb hby d6_24) (r := (33 : Int32)) rfl (q := 26) rfl ?_
    by_cases hc110 : c1 = (33 : Int32)
    · have tc110 := (show (c1).toInt = 33 from own_eq hc110)
      refine Go.icmpYes X107 hx (hb hby d6_26) (Jvm.Free.XT.ii_eq_t hc110) (q := 55) (by decide) (by decide) ?_
      refine Go.iconst X107 hx (hb hby d6_55) (r := (1 : Int32)) rfl (q := 56) rfl ?_
      refine Go.goto X107 hx (hb hby d6_56) (q := 60) (by decide) (by decide) ?_
      refine Go.istore X107 hx (hb hby d6_60) (l' := #[.val (.ref s), .val (.int of), .val (.int 1), .val (.int c1), .val (.int 1), .unset]) rfl (q := 62) rfl ?_
      refine Go.iload X107 hx (hb hby d6_62) rfl (q := 64) rfl ?_
      refine Go.ifYes X107 hx (hb hby d6_64) (by decide) (q := 127) (by decide) (by decide) ?_
      exact J127_108
    · have tc110 := (show ¬ (c1).toInt = 33 from own_eqn hc110)
      refine Go.icmpNo X107 hx (hb hby d6_26) (Jvm.Free.XT.ii_eq_f hc110) (q := 29) rfl ?_
      refine Go.iloadN X107 hx (hb hby d6_29) rfl (q := 30) rfl ?_
      refine Go.bipush X107 hx (hb hby d6_30) (r := (35 : Int32)) rfl (q := 32) rfl ?_
      by_cases hc111 : c1 < (35 : Int32)
      · have tc111 := (show (c1).toInt < 35 from own_lt hc111)
        refine Go.icmpYes X107 hx (hb hby d6_32) (Jvm.Free.XT.ii_lt_t hc111) (q := 41) (by decide) (by decide) ?_
        refine Go.iloadN X107 hx (hb hby d6_41) rfl (q := 42) rfl ?_
        refine Go.sipush X107 hx (hb hby d6_42) (r := (128 : Int32)) rfl (q := 45) rfl ?_
        by_cases hc112 : c1 < (128 : Int32)
        · have tc112 := (show (c1).toInt < 128 from own_lt hc112)
          refine Go.icmpYes X107 hx (hb hby d6_45) (Jvm.Free.XT.ii_lt_t hc112) (q := 59) (by decide) (by decide) ?_
          refine Go.iconst X107 hx (hb hby d6_59) (r := (0 : Int32)) rfl (q := 60) rfl ?_
          refine Go.istore X107 hx (hb hby d6_60) (l' := #[.val (.ref s), .val (.int of), .val (.int 1), .val (.int c1), .val (.int 0), .unset]) rfl (q := 62) rfl ?_
          refine Go.iload X107 hx (hb hby d6_62) rfl (q := 64) rfl ?_
          refine Go.ifNo X107 hx (hb hby d6_64) (by decide) (q := 67) rfl ?_
          exfalso; have := own_etr he1; omega
        · have tc112 := (show ¬ (c1).toInt < 128 from own_ltn hc112)
          refine Go.icmpNo X107 hx (hb hby d6_45) (Jvm.Free.XT.ii_lt_f hc112) (q := 48) rfl ?_
          refine Go.iloadN X107 hx (hb hby d6_48) rfl (q := 49) rfl ?_
          refine Go.sipush X107 hx (hb hby d6_49) (r := (255 : Int32)) rfl (q := 52) rfl ?_
          by_cases hc113 : (255 : Int32) < c1
          · have tc113 := (show 255 < (c1).toInt from own_lt hc113)
            refine Go.icmpYes X107 hx (hb hby d6_52) (Jvm.Free.XT.ii_gt_t hc113) (q := 59) (by decide) (by decide) ?_
            refine Go.iconst X107 hx (hb hby d6_59) (r := (0 : Int32)) rfl (q := 60) rfl ?_
            refine Go.istore X107 hx (hb hby d6_60) (l' := #[.val (.ref s), .val (.int of), .val (.int 1), .val (.int c1), .val (.int 0), .unset]) rfl (q := 62) rfl ?_
            refine Go.iload X107 hx (hb hby d6_62) rfl (q := 64) rfl ?_
            refine Go.ifNo X107 hx (hb hby d6_64) (by decide) (q := 67) rfl ?_
            exfalso; have := own_etr he1; omega
          · have tc113 := (show ¬ 255 < (c1).toInt from own_ltn hc113)
            refine Go.icmpNo X107 hx (hb hby d6_52) (Jvm.Free.XT.ii_gt_f hc113) (q := 55) rfl ?_
            refine Go.iconst X107 hx (hb hby d6_55) (r := (1 : Int32)) rfl (q := 56) rfl ?_
            refine Go.goto X107 hx (hb hby d6_56) (q := 60) (by decide) (by decide) ?_
            refine Go.istore X107 hx (hb hby d6_60) (l' := #[.val (.ref s), .val (.int of), .val (.int 1), .val (.int c1), .val (.int 1), .unset]) rfl (q := 62) rfl ?_
            refine Go.iload X107 hx (hb hby d6_62) rfl (q := 64) rfl ?_
            refine Go.ifYes X107 hx (hb hby d6_64) (by decide) (q := 127) (by decide) (by decide) ?_
            exact J127_108
      · have tc111 := (show ¬ (c1).toInt < 35 from own_ltn hc111)
        refine Go.icmpNo X107 hx (hb hby d6_32) (Jvm.Free.XT.ii_lt_f hc111) (q := 35) rfl ?_
        refine Go.iloadN X107 hx (hb hby d6_35) rfl (q := 36) rfl ?_
        refine Go.bipush X107 hx (hb hby d6_36) (r := (126 : Int32)) rfl (q := 38) rfl ?_
        by_cases hc114 : (126 : Int32) < c1
        · have tc114 := (show 126 < (c1).toInt from own_lt hc114)
          refine Go.icmpNo X107 hx (hb hby d6_38) (Jvm.Free.XT.ii_le_f hc114) (q := 41) rfl ?_
          refine Go.iloadN X107 hx (hb hby d6_41) rfl (q := 42) rfl ?_
          refine Go.sipush X107 hx (hb hby d6_42) (r := (128 : Int32)) rfl (q := 45) rfl ?_
          by_cases hc115 : c1 < (128 : Int32)
          · have tc115 := (show (c1).toInt < 128 from own_lt hc115)
            refine Go.icmpYes X107 hx (hb hby d6_45) (Jvm.Free.XT.ii_lt_t hc115) (q := 59) (by decide) (by decide) ?_
            refine Go.iconst X107 hx (hb hby d6_59) (r := (0 : Int32)) rfl (q := 60) rfl ?_
            refine Go.istore X107 hx (hb hby d6_60) (l' := #[.val (.ref s), .val (.int of), .val (.int 1), .val (.int c1), .val (.int 0), .unset]) rfl (q := 62) rfl ?_
            refine Go.iload X107 hx (hb hby d6_62) rfl (q := 64) rfl ?_
            refine Go.ifNo X107 hx (hb hby d6_64) (by decide) (q := 67) rfl ?_
            exfalso; have := own_etr he1; omega
          · have tc115 := (show ¬ (c1).toInt < 128 from own_ltn hc115)
            refine Go.icmpNo X107 hx (hb hby d6_45) (Jvm.Free.XT.ii_lt_f hc115) (q := 48) rfl ?_
            refine Go.iloadN X107 hx (hb hby d6_48) rfl (q := 49) rfl ?_
            refine Go.sipush X107 hx (hb hby d6_49) (r := (255 : Int32)) rfl (q := 52) rfl ?_
            by_cases hc116 : (255 : Int32) < c1
            · have tc116 := (show 255 < (c1).toInt from own_lt hc116)
              refine Go.icmpYes X107 hx (hb hby d6_52) (Jvm.Free.XT.ii_gt_t hc116) (q := 59) (by decide) (by decide) ?_
              refine Go.iconst X107 hx (hb hby d6_59) (r := (0 : Int32)) rfl (q := 60) rfl ?_
              refine Go.istore X107 hx (hb hby d6_60) (l' := #[.val (.ref s), .val (.int of), .val (.int 1), .val (.int c1), .val (.int 0), .unset]) rfl (q := 62) rfl ?_
              refine Go.iload X107 hx (hb hby d6_62) rfl (q := 64) rfl ?_
              refine Go.ifNo X107 hx (hb hby d6_64) (by decide) (q := 67) rfl ?_
              exfalso; have := own_etr he1; omega
            · have tc116 := (show ¬ 255 < (c1).toInt from own_ltn hc116)
              refine Go.icmpNo X107 hx (hb hby d6_52) (Jvm.Free.XT.ii_gt_f hc116) (q := 55) rfl ?_
              refine Go.iconst X107 hx (hb hby d6_55) (r := (1 : Int32)) rfl (q := 56) rfl ?_
              refine Go.goto X107 hx (hb hby d6_56) (q := 60) (by decide) (by decide) ?_
              refine Go.istore X107 hx (hb hby d6_60) (l' := #[.val (.ref s), .val (.int of), .val (.int 1), .val (.int c1), .val (.int 1), .unset]) rfl (q := 62) rfl ?_
              refine Go.iload X107 hx (hb hby d6_62) rfl (q := 64) rfl ?_
              refine Go.ifYes X107 hx (hb hby d6_64) (by decide) (q := 127) (by decide) (by decide) ?_
              exact J127_108
        · have tc114 := (show ¬ 126 < (c1).toInt from own_ltn hc114)
          refine Go.icmpYes X107 hx (hb hby d6_38) (Jvm.Free.XT.ii_le_t hc114) (q := 55) (by decide) (by decide) ?_
          refine Go.iconst X107 hx (hb hby d6_55) (r := (1 : Int32)) rfl (q := 56) rfl ?_
          refine Go.goto X107 hx (hb hby d6_56) (q := 60) (by decide) (by decide) ?_
          refine Go.istore X107 hx (hb hby d6_60) (l' := #[.val (.ref s), .val (.int of), .val (.int 1), .val (.int c1), .val (.int 1), .unset]) rfl (q := 62) rfl ?_
          refine Go.iload X107 hx (hb hby d6_62) rfl (q := 64) rfl ?_
          refine Go.ifYes X107 hx (hb hby d6_64) (by decide) (q := 127) (by decide) (by decide) ?_
          exact J127_108
  refine Go.iloadN X104 hx (hb hby d6_23) rfl (q := 24) rfl ?_
  refine Go.bipush X104 hx (hb hby d6_24) (r := (33 : Int32)) rfl (q := 26) rfl ?_
  by_cases hc117 : c0 = (33 : Int32)
  · have tc117 := (show (c0).toInt = 33 from own_eq hc117)
    refine Go.icmpYes X104 hx (hb hby d6_26) (Jvm.Free.XT.ii_eq_t hc117) (q := 55) (by decide) (by decide) ?_
    refine Go.iconst X104 hx (hb hby d6_55) (r := (1 : Int32)) rfl (q := 56) rfl ?_
    refine Go.goto X104 hx (hb hby d6_56) (q := 60) (by decide) (by decide) ?_
    refine Go.istore X104 hx (hb hby d6_60) (l' := #[.val (.ref s), .val (.int of), .val (.int 0), .val (.int c0), .val (.int 1), .unset]) rfl (q := 62) rfl ?_
    refine Go.iload X104 hx (hb hby d6_62) rfl (q := 64) rfl ?_
    refine Go.ifYes X104 hx (hb hby d6_64) (by decide) (q := 127) (by decide) (by decide) ?_
    exact J127_105
  · have tc117 := (show ¬ (c0).toInt = 33 from own_eqn hc117)
    refine Go.icmpNo X104 hx (hb hby d6_26) (Jvm.Free.XT.ii_eq_f hc117) (q := 29) rfl ?_
    refine Go.iloadN X104 hx (hb hby d6_29) rfl (q := 30) rfl ?_
    refine Go.bipush X104 hx (hb hby d6_30) (r := (35 : Int32)) rfl (q := 32) rfl ?_
    by_cases hc118 : c0 < (35 : Int32)
    · have tc118 := (show (c0).toInt < 35 from own_lt hc118)
      refine Go.icmpYes X104 hx (hb hby d6_32) (Jvm.Free.XT.ii_lt_t hc118) (q := 41) (by decide) (by decide) ?_
      refine Go.iloadN X104 hx (hb hby d6_41) rfl (q := 42) rfl ?_
      refine Go.sipush X104 hx (hb hby d6_42) (r := (128 : Int32)) rfl (q := 45) rfl ?_
      by_cases hc119 : c0 < (128 : Int32)
      · have tc119 := (show (c0).toInt < 128 from own_lt hc119)
        refine Go.icmpYes X104 hx (hb hby d6_45) (Jvm.Free.XT.ii_lt_t hc119) (q := 59) (by decide) (by decide) ?_
        refine Go.iconst X104 hx (hb hby d6_59) (r := (0 : Int32)) rfl (q := 60) rfl ?_
        refine Go.istore X104 hx (hb hby d6_60) (l' := #[.val (.ref s), .val (.int of), .val (.int 0), .val (.int c0), .val (.int 0), .unset]) rfl (q := 62) rfl ?_
        refine Go.iload X104 hx (hb hby d6_62) rfl (q := 64) rfl ?_
        refine Go.ifNo X104 hx (hb hby d6_64) (by decide) (q := 67) rfl ?_
        exfalso; have := own_etr he0; omega
      · have tc119 := (show ¬ (c0).toInt < 128 from own_ltn hc119)
        refine Go.icmpNo X104 hx (hb hby d6_45) (Jvm.Free.XT.ii_lt_f hc119) (q := 48) rfl ?_
        refine Go.iloadN X104 hx (hb hby d6_48) rfl (q := 49) rfl ?_
        refine Go.sipush X104 hx (hb hby d6_49) (r := (255 : Int32)) rfl (q := 52) rfl ?_
        by_cases hc120 : (255 : Int32) < c0
        · have tc120 := (show 255 < (c0).toInt from own_lt hc120)
          refine Go.icmpYes X104 hx (hb hby d6_52) (Jvm.Free.XT.ii_gt_t hc120) (q := 59) (by decide) (by decide) ?_
          refine Go.iconst X104 hx (hb hby d6_59) (r := (0 : Int32)) rfl (q := 60) rfl ?_
          refine Go.istore X104 hx (hb hby d6_60) (l' := #[.val (.ref s), .val (.int of), .val (.int 0), .val (.int c0), .val (.int 0), .unset]) rfl (q := 62) rfl ?_
          refine Go.iload X104 hx (hb hby d6_62) rfl (q := 64) rfl ?_
          refine Go.ifNo X104 hx (hb hby d6_64) (by decide) (q := 67) rfl ?_
          exfalso; have := own_etr he0; omega
        · have tc120 := (show ¬ 255 < (c0).toInt from own_ltn hc120)
          refine Go.icmpNo X104 hx (hb hby d6_52) (Jvm.Free.XT.ii_gt_f hc120) (q := 55) rfl ?_
          refine Go.iconst X104 hx (hb hby d6_55) (r := (1 : Int32)) rfl (q := 56) rfl ?_
          refine Go.goto X104 hx (hb hby d6_56) (q := 60) (by decide) (by decide) ?_
          refine Go.istore X104 hx (hb hby d6_60) (l' := #[.val (.ref s), .val (.int of), .val (.int 0), .val (.int c0), .val (.int 1), .unset]) rfl (q := 62) rfl ?_
          refine Go.iload X104 hx (hb hby d6_62) rfl (q := 64) rfl ?_
          refine Go.ifYes X104 hx (hb hby d6_64) (by decide) (q := 127) (by decide) (by decide) ?_
          exact J127_105
    · have tc118 := (show ¬ (c0).toInt < 35 from own_ltn hc118)
      refine Go.icmpNo X104 hx (hb hby d6_32) (Jvm.Free.XT.ii_lt_f hc118) (q := 35) rfl ?_
      refine Go.iloadN X104 hx (hb hby d6_35) rfl (q := 36) rfl ?_
      refine Go.bipush X104 hx (hb hby d6_36) (r := (126 : Int32)) rfl (q := 38) rfl ?_
      by_cases hc121 : (126 : Int32) < c0
      · have tc121 := (show 126 < (c0).toInt from own_lt hc121)
        refine Go.icmpNo X104 hx (hb hby d6_38) (Jvm.Free.XT.ii_le_f hc121) (q := 41) rfl ?_
        refine Go.iloadN X104 hx (hb hby d6_41) rfl (q := 42) rfl ?_
        refine Go.sipush X104 hx (hb hby d6_42) (r := (128 : Int32)) rfl (q := 45) rfl ?_
        by_cases hc122 : c0 < (128 : Int32)
        · have tc122 := (show (c0).toInt < 128 from own_lt hc122)
          refine Go.icmpYes X104 hx (hb hby d6_45) (Jvm.Free.XT.ii_lt_t hc122) (q := 59) (by decide) (by decide) ?_
          refine Go.iconst X104 hx (hb hby d6_59) (r := (0 : Int32)) rfl (q := 60) rfl ?_
          refine Go.istore X104 hx (hb hby d6_60) (l' := #[.val (.ref s), .val (.int of), .val (.int 0), .val (.int c0), .val (.int 0), .unset]) rfl (q := 62) rfl ?_
          refine Go.iload X104 hx (hb hby d6_62) rfl (q := 64) rfl ?_
          refine Go.ifNo X104 hx (hb hby d6_64) (by decide) (q := 67) rfl ?_
          exfalso; have := own_etr he0; omega
        · have tc122 := (show ¬ (c0).toInt < 128 from own_ltn hc122)
          refine Go.icmpNo X104 hx (hb hby d6_45) (Jvm.Free.XT.ii_lt_f hc122) (q := 48) rfl ?_
          refine Go.iloadN X104 hx (hb hby d6_48) rfl (q := 49) rfl ?_
          refine Go.sipush X104 hx (hb hby d6_49) (r := (255 : Int32)) rfl (q := 52) rfl ?_
          by_cases hc123 : (255 : Int32) < c0
          · have tc123 := (show 255 < (c0).toInt from own_lt hc123)
            refine Go.icmpYes X104 hx (hb hby d6_52) (Jvm.Free.XT.ii_gt_t hc123) (q := 59) (by decide) (by decide) ?_
            refine Go.iconst X104 hx (hb hby d6_59) (r := (0 : Int32)) rfl (q := 60) rfl ?_
            refine Go.istore X104 hx (hb hby d6_60) (l' := #[.val (.ref s), .val (.int of), .val (.int 0), .val (.int c0), .val (.int 0), .unset]) rfl (q := 62) rfl ?_
            refine Go.iload X104 hx (hb hby d6_62) rfl (q := 64) rfl ?_
            refine Go.ifNo X104 hx (hb hby d6_64) (by decide) (q := 67) rfl ?_
            exfalso; have := own_etr he0; omega
          · have tc123 := (show ¬ 255 < (c0).toInt from own_ltn hc123)
            refine Go.icmpNo X104 hx (hb hby d6_52) (Jvm.Free.XT.ii_gt_f hc123) (q := 55) rfl ?_
            refine Go.iconst X104 hx (hb hby d6_55) (r := (1 : Int32)) rfl (q := 56) rfl ?_
            refine Go.goto X104 hx (hb hby d6_56) (q := 60) (by decide) (by decide) ?_
            refine Go.istore X104 hx (hb hby d6_60) (l' := #[.val (.ref s), .val (.int of), .val (.int 0), .val (.int c0), .val (.int 1), .unset]) rfl (q := 62) rfl ?_
            refine Go.iload X104 hx (hb hby d6_62) rfl (q := 64) rfl ?_
            refine Go.ifYes X104 hx (hb hby d6_64) (by decide) (q := 127) (by decide) (by decide) ?_
            exact J127_105
      · have tc121 := (show ¬ 126 < (c0).toInt from own_ltn hc121)
        refine Go.icmpYes X104 hx (hb hby d6_38) (Jvm.Free.XT.ii_le_t hc121) (q := 55) (by decide) (by decide) ?_
        refine Go.iconst X104 hx (hb hby d6_55) (r := (1 : Int32)) rfl (q := 56) rfl ?_
        refine Go.goto X104 hx (hb hby d6_56) (q := 60) (by decide) (by decide) ?_
        refine Go.istore X104 hx (hb hby d6_60) (l' := #[.val (.ref s), .val (.int of), .val (.int 0), .val (.int c0), .val (.int 1), .unset]) rfl (q := 62) rfl ?_
        refine Go.iload X104 hx (hb hby d6_62) rfl (q := 64) rfl ?_
        refine Go.ifYes X104 hx (hb hby d6_64) (by decide) (q := 127) (by decide) (by decide) ?_
        exact J127_105
def Q_cchk3 (Z : State) (s v : Addr) (kv : ClassId) (cs : Int32) (fm : Value) (c0 c1 c2 of : Int32) (h0 : Heap) (vR : Option Value) (hR : Heap) (LR : List Loc) : Prop := vR = some (.ref s) ∧ Fr Z.heap.size LR ∧ Keep h0 hR []
theorem cchk3 (l : Launch) (Z : State) (a0 : Array Value) (hw : ∀ d ∈ tables_1, d.before a0 Z = true) (s v : Addr) (kv : ClassId) (cs : Int32) (fm : Value) (c0 c1 c2 of : Int32) (h0 : Heap) (O0 : Ext Z.heap h0) (Es : Exa Z h0 s xS0) (Cs : Fld Z h0 s xS0 "coder" "B" (.int 0)) (Fs : Fld Z h0 s xS0 "value" "[B" (.ref v)) (Vs : Arv Z h0 v kv .byte (3 : Int32) [(.int (c0.toInt8.toInt32)), (.int (c1.toInt8.toInt32)), (.int (c2.toInt8.toInt32))] (.int 0)) (SCS : Sta Z Z.heap xS0 xS3 "Z" (.int cs)) (SFM : Sta Z Z.heap xS5 "SIOOBE_FORMATTER" "Ljava/util/function/BiFunction;" fm) (hcs : ¬ (cs = (0 : Int32))) (hfm : fm.isRef = true) (he0 : ETC c0) (he1 : ETC c1) (he2 : ETC c2) :
    CtrH l Z consts_1 h0 (⟨xS2, "checkedValue", "(Ljava/lang/String;I)Ljava/lang/String;"⟩ : MethodName) k6 6 (some (.object xS0)) [] ({ frames := 4, cells := 2, slots := 24, locals := 53 } : Room) #[(.ref s), (.int of)] (Q_cchk3 Z s v kv cs fm c0 c1 c2 of h0) := by
  refine enterH (plainFor_of_name pn6) ?_
  intro pp ee ss mm below meth cc s₁ hx hby hml hZ hown hnm hret hlk X0 e0 hs0 hS hC
  replace hown : (ss.setVm ss.vm).vm.findClass xS2 = some mm.cls := hown
  have hKd := Nat.zero_le h0.size
  refine Go.cast (congrArg s₁.setTop (ef_cchk3 mm s of)) ?_
  have N0 := Fr.nil Z.heap.size
  have KP := Keep.refl h0 []
  show Go pp ee below _ (s₁.setTop (mkF mm 0 #[.val (.ref s), .val (.int of), .unset, .unset, .unset, .unset] []))
  refine Go.aloadN X0 hx (hb hby d6_0) rfl rfl (q := 1) rfl ?_
  refine Go.ldcO X0 hx hZ hown (wd36 hw) (own_wS hw) e0 hS hKd (own_EW hw) hC (hb hby d6_1) (nn := 20) (by decide) (by decide) (by decide) (by decide) (q := 3) rfl ?_
  intro b101 T101 h101 k101 X101 e101 E101 hS hKd hZ hown hR101
  replace hC := hC.trans hR101
  replace Es := Es.ext E101
  replace Cs := Cs.ext E101
  replace Fs := Fs.ext E101
  replace Vs := Vs.ext E101
  have OE101 := ext_trans O0 E101
  replace KP := KP.ext E101
  refine Go.callS X101 hx hZ hown (wd37 hw) (wd38 hw) (wd39 hw) (wd40 hw) (by decide) (creq l Z a0 hw s b101 h101 OE101) e101 (by rw [hml]; rfl) (hb hby d6_3) (argsL := [(.ref s), (.ref b101)]) (rest := []) (lenOf pd9 rfl) rfl rfl (W := 0) (by first | exact Nat.le_refl _ | decide) (by decide) (by decide) (by decide) (by decide) ?_
  intro v102 T102 L102 X102 hQ102
  obtain ⟨rfl, N102q, e102⟩ := hQ102
  have N102 := Fr.app N0 N102q
  refine Go.pop X102 hx (hb hby d6_6) rfl (q := 7) rfl ?_
  refine Go.iconst X102 hx (hb hby d6_7) (r := (0 : Int32)) rfl (q := 8) rfl ?_
  refine Go.istoreN X102 hx (hb hby d6_8) (l' := #[.val (.ref s), .val (.int of), .val (.int 0), .unset, .unset, .unset]) rfl (q := 9) rfl ?_
  refine Go.iloadN X102 hx (hb hby d6_9) rfl (q := 10) rfl ?_
  refine Go.aloadN X102 hx (hb hby d6_10) rfl rfl (q := 11) rfl ?_
  refine Go.virt X102 hx hZ hown (wd41 hw) (wd42 hw) (notFace_of_selects (args := #[]) (mvT hZ (wd44 hw))) (wd44 hw) (wd43 hw) (wd8 hw) (wd45 hw) (by decide) (clen l Z a0 hw s cs v (kv) ((3 : Int32)) ([(.int (c0.toInt8.toInt32)), (.int (c1.toInt8.toInt32)), (.int (c2.toInt8.toInt32))]) h101 OE101 Es Cs Fs Vs SCS hcs) e102 Es (by rw [hml]; rfl) (hb hby d6_11) (argsL := []) (rest := [(.int 0)]) (lenOf pd10 rfl) rfl rfl (W := 1) (by first | exact Nat.le_refl _ | decide) (by decide) (by decide) (by decide) (by decide) ?_
  intro v103 T103 L103 X103 hQ103
  obtain ⟨rfl, N103q, e103⟩ := hQ103
  have N103 := Fr.app N102 N103q
  refine Go.icmpNo X103 hx (hb hby d6_14) (by decide) (q := 17) rfl ?_
  refine Go.aloadN X103 hx (hb hby d6_17) rfl rfl (q := 18) rfl ?_
  refine Go.iloadN X103 hx (hb hby d6_18) rfl (q := 19) rfl ?_
  refine Go.virt X103 hx hZ hown (wd230 hw) (wd200 hw) (notFace_of_selects (args := #[]) (mvT hZ (wd202 hw))) (wd202 hw) (wd201 hw) (wd8 hw) (wd203 hw) (by decide) (cchar l Z a0 hw s ((0 : Int32)) cs v (kv) ((3 : Int32)) ([(.int (c0.toInt8.toInt32)), (.int (c1.toInt8.toInt32)), (.int (c2.toInt8.toInt32))]) ((c0.toInt8.toInt32)) fm h101 OE101 Es Cs Fs Vs SCS SFM hcs hfm (by decide) (by decide) rfl) e103 Es (by rw [hml]; rfl) (hb hby d6_19) (argsL := [(.int 0)]) (rest := []) (lenOf pd11 rfl) rfl rfl (W := 0) (by first | exact Nat.le_refl _ | decide) (by decide) (by decide) (by decide) (by decide) ?_
  intro v104 T104 L104 X104 hQ104
  obtain ⟨rfl, N104q, e104⟩ := hQ104
  have N104 := Fr.app N103 N104q
  rw [own_ech he0]
  show Go pp ee below _ (T104.setTop (mkF mm 22 #[.val (.ref s), .val (.int of), .val (.int 0), .unset, .unset, .unset] [(.int c0)]))
  refine Go.istoreN X104 hx (hb hby d6_22) (l' := #[.val (.ref s), .val (.int of), .val (.int 0), .val (.int c0), .unset, .unset]) rfl (q := 23) rfl ?_
  have J127_105 : Go pp ee below (KKH Z consts_1 ss (Q_cchk3 Z s v kv cs fm c0 c1 c2 of h0) ({ frames := 4, cells := 2, slots := 24, locals := 53 } : Room).cells ({ frames := 4, cells := 2, slots := 24, locals := 53 } : Room).slots) (T104.setTop (mkF mm 127 #[.val (.ref s), .val (.int of), .val (.int 0), .val (.int c0), .val (.int 1), .unset] [])) := by
    refine Go.iinc X104 hx (hb hby d6_127) rfl (r := (1 : Int32)) rfl (l' := #[.val (.ref s), .val (.int of), .val (.int 1), .val (.int c0), .val (.int 1), .unset]) rfl (q := 130) rfl ?_
    refine Go.goto X104 hx (hb hby d6_130) (q := 9) (by decide) (by decide) ?_
    refine Go.iloadN X104 hx (hb hby d6_9) rfl (q := 10) rfl ?_
    refine Go.aloadN X104 hx (hb hby d6_10) rfl rfl (q := 11) rfl ?_
    refine Go.virt X104 hx hZ hown (wd41 hw) (wd42 hw) (notFace_of_selects (args := #[]) (mvT hZ (wd44 hw))) (wd44 hw) (wd43 hw) (wd8 hw) (wd45 hw) (by decide) (clen l Z a0 hw s cs v (kv) ((3 : Int32)) ([(.int (c0.toInt8.toInt32)), (.int (c1.toInt8.toInt32)), (.int (c2.toInt8.toInt32))]) h101 OE101 Es Cs Fs Vs SCS hcs) e104 Es (by rw [hml]; rfl) (hb hby d6_11) (argsL := []) (rest := [(.int 1)]) (lenOf pd10 rfl) rfl rfl (W := 1) (by first | exact Nat.le_refl _ | decide) (by decide) (by decide) (by decide) (by decide) ?_
    intro v106 T106 L106 X106 hQ106
    obtain ⟨rfl, N106q, e106⟩ := hQ106
    have N106 := Fr.app N104 N106q
    refine Go.icmpNo X106 hx (hb hby d6_14) (by decide) (q := 17) rfl ?_
    refine Go.aloadN X106 hx (hb hby d6_17) rfl rfl (q := 18) rfl ?_
    refine Go.iloadN X106 hx (hb hby d6_18) rfl (q := 19) rfl ?_
    refine Go.virt X106 hx hZ hown (wd230 hw) (wd200 hw) (notFace_of_selects (args := #[]) (mvT hZ (wd202 hw))) (wd202 hw) (wd201 hw) (wd8 hw) (wd203 hw) (by decide) (cchar l Z a0 hw s ((1 : Int32)) cs v (kv) ((3 : Int32)) ([(.int (c0.toInt8.toInt32)), (.int (c1.toInt8.toInt32)), (.int (c2.toInt8.toInt32))]) ((c1.toInt8.toInt32)) fm h101 OE101 Es Cs Fs Vs SCS SFM hcs hfm (by decide) (by decide) rfl) e106 Es (by rw [hml]; rfl) (hb hby d6_19) (argsL := [(.int 1)]) (rest := []) (lenOf pd11 rfl) rfl rfl (W := 0) (by first | exact Nat.le_refl _ | decide) (by decide) (by decide) (by decide) (by decide) ?_
    intro v107 T107 L107 X107 hQ107
    obtain ⟨rfl, N107q, e107⟩ := hQ107
    have N107 := Fr.app N106 N107q
    rw [own_ech he1]
    show Go pp ee below _ (T107.setTop (mkF mm 22 #[.val (.ref s), .val (.int of), .val (.int 1), .val (.int c0), .val (.int 1), .unset] [(.int c1)]))
    refine Go.istoreN X107 hx (hb hby d6_22) (l' := #[.val (.ref s), .val (.int of), .val (.int 1), .val (.int c1), .val (.int 1), .unset]) rfl (q := 23) rfl ?_
    have J127_108 : Go pp ee below (KKH Z consts_1 ss (Q_cchk3 Z s v kv cs fm c0 c1 c2 of h0) ({ frames := 4, cells := 2, slots := 24, locals := 53 } : Room).cells ({ frames := 4, cells := 2, slots := 24, locals := 53 } : Room).slots) (T107.setTop (mkF mm 127 #[.val (.ref s), .val (.int of), .val (.int 1), .val (.int c1), .val (.int 1), .unset] [])) := by
      refine Go.iinc X107 hx (hb hby d6_127) rfl (r := (2 : Int32)) rfl (l' := #[.val (.ref s), .val (.int of), .val (.int 2), .val (.int c1), .val (.int 1), .unset]) rfl (q := 130) rfl ?_
      refine Go.goto X107 hx (hb hby d6_130) (q := 9) (by decide) (by decide) ?_
      refine Go.iloadN X107 hx (hb hby d6_9) rfl (q := 10) rfl ?_
      refine Go.aloadN X107 hx (hb hby d6_10) rfl rfl (q := 11) rfl ?_
      refine Go.virt X107 hx hZ hown (wd41 hw) (wd42 hw) (notFace_of_selects (args := #[]) (mvT hZ (wd44 hw))) (wd44 hw) (wd43 hw) (wd8 hw) (wd45 hw) (by decide) (clen l Z a0 hw s cs v (kv) ((3 : Int32)) ([(.int (c0.toInt8.toInt32)), (.int (c1.toInt8.toInt32)), (.int (c2.toInt8.toInt32))]) h101 OE101 Es Cs Fs Vs SCS hcs) e107 Es (by rw [hml]; rfl) (hb hby d6_11) (argsL := []) (rest := [(.int 2)]) (lenOf pd10 rfl) rfl rfl (W := 1) (by first | exact Nat.le_refl _ | decide) (by decide) (by decide) (by decide) (by decide) ?_
      intro v109 T109 L109 X109 hQ109
      obtain ⟨rfl, N109q, e109⟩ := hQ109
      have N109 := Fr.app N107 N109q
      refine Go.icmpNo X109 hx (hb hby d6_14) (by decide) (q := 17) rfl ?_
      refine Go.aloadN X109 hx (hb hby d6_17) rfl rfl (q := 18) rfl ?_
      refine Go.iloadN X109 hx (hb hby d6_18) rfl (q := 19) rfl ?_
      refine Go.virt X109 hx hZ hown (wd230 hw) (wd200 hw) (notFace_of_selects (args := #[]) (mvT hZ (wd202 hw))) (wd202 hw) (wd201 hw) (wd8 hw) (wd203 hw) (by decide) (cchar l Z a0 hw s ((2 : Int32)) cs v (kv) ((3 : Int32)) ([(.int (c0.toInt8.toInt32)), (.int (c1.toInt8.toInt32)), (.int (c2.toInt8.toInt32))]) ((c2.toInt8.toInt32)) fm h101 OE101 Es Cs Fs Vs SCS SFM hcs hfm (by decide) (by decide) rfl) e109 Es (by rw [hml]; rfl) (hb hby d6_19) (argsL := [(.int 2)]) (rest := []) (lenOf pd11 rfl) rfl rfl (W := 0) (by first | exact Nat.le_refl _ | decide) (by decide) (by decide) (by decide) (by decide) ?_
      intro v110 T110 L110 X110 hQ110
      obtain ⟨rfl, N110q, e110⟩ := hQ110
      have N110 := Fr.app N109 N110q
      rw [own_ech he2]
      show Go pp ee below _ (T110.setTop (mkF mm 22 #[.val (.ref s), .val (.int of), .val (.int 2), .val (.int c1), .val (.int 1), .unset] [(.int c2)]))
      refine Go.istoreN X110 hx (hb hby d6_22) (l' := #[.val (.ref s), .val (.int of), .val (.int 2), .val (.int c2), .val (.int 1), .unset]) rfl (q := 23) rfl ?_
      have J127_111 : Go pp ee below (KKH Z consts_1 ss (Q_cchk3 Z s v kv cs fm c0 c1 c2 of h0) ({ frames := 4, cells := 2, slots := 24, locals := 53 } : Room).cells ({ frames := 4, cells := 2, slots := 24, locals := 53 } : Room).slots) (T110.setTop (mkF mm 127 #[.val (.ref s), .val (.int of), .val (.int 2), .val (.int c2), .val (.int 1), .unset] [])) := by
        refine Go.iinc X110 hx (hb hby d6_127) rfl (r := (3 : Int32)) rfl (l' := #[.val (.ref s), .val (.int of), .val (.int 3), .val (.int c2), .val (.int 1), .unset]) rfl (q := 130) rfl ?_
        refine Go.goto X110 hx (hb hby d6_130) (q := 9) (by decide) (by decide) ?_
        refine Go.iloadN X110 hx (hb hby d6_9) rfl (q := 10) rfl ?_
        refine Go.aloadN X110 hx (hb hby d6_10) rfl rfl (q := 11) rfl ?_
        refine Go.virt X110 hx hZ hown (wd41 hw) (wd42 hw) (notFace_of_selects (args := #[]) (mvT hZ (wd44 hw))) (wd44 hw) (wd43 hw) (wd8 hw) (wd45 hw) (by decide) (clen l Z a0 hw s cs v (kv) ((3 : Int32)) ([(.int (c0.toInt8.toInt32)), (.int (c1.toInt8.toInt32)), (.int (c2.toInt8.toInt32))]) h101 OE101 Es Cs Fs Vs SCS hcs) e110 Es (by rw [hml]; rfl) (hb hby d6_11) (argsL := []) (rest := [(.int 3)]) (lenOf pd10 rfl) rfl rfl (W := 1) (by first | exact Nat.le_refl _ | decide) (by decide) (by decide) (by decide) (by decide) ?_
        intro v112 T112 L112 X112 hQ112
        obtain ⟨rfl, N112q, e112⟩ := hQ112
        have N112 := Fr.app N110 N112q
        refine Go.icmpYes X112 hx (hb hby d6_14) (by decide) (q := 133) (by decide) (by decide) ?_
        refine Go.aloadN X112 hx (hb hby d6_133) rfl rfl (q := 134) rfl ?_
        exact Go.retAH X112 hx hS hKd hs0 hZ (own_EW hw) hC hret hlk rfl rfl (hb hby d6_134) e112 (by decide) (by decide) ⟨rfl, N112, KP⟩
      refine Go.iloadN X110 hx (hb hby d6_23) rfl (q := 24) rfl ?_
      refine Go.bipush X110 hx (hb hby d6_24) (r := (33 : Int32)) rfl (q := 26) rfl ?_
      by_cases hc113 : c2 = (33 : Int32)
      · have tc113 := (show (c2).toInt = 33 from own_eq hc113)
        refine Go.icmpYes X110 hx (hb hby d6_26) (Jvm.Free.XT.ii_eq_t hc113) (q := 55) (by decide) (by decide) ?_
        refine Go.iconst X110 hx (hb hby d6_55) (r := (1 : Int32)) rfl (q := 56) rfl ?_
        refine Go.goto X110 hx (hb hby d6_56) (q := 60) (by decide) (by decide) ?_
        refine Go.istore X110 hx (hb hby d6_60) (l' := #[.val (.ref s), .val (.int of), .val (.int 2), .val (.int c2), .val (.int 1), .unset]) rfl (q := 62) rfl ?_
        refine Go.iload X110 hx (hb hby d6_62) rfl (q := 64) rfl ?_
        refine Go.ifYes X110 hx (hb hby d6_64) (by decide) (q := 127) (by decide) (by decide) ?_
        exact J127_111
      · have tc113 := (show ¬ (c2).toInt = 33 from own_eqn hc113)
        refine Go.icmpNo X110 hx (hb hby d6_26) (Jvm.Free.XT.ii_eq_f hc113) (q := 29) rfl ?_
        refine Go.iloadN X110 hx (hb hby d6_29) rfl (q := 30) rfl ?_
        refine Go.bipush X110 hx (hb hby d6_30) (r := (35 : Int32)) rfl (q := 32) rfl ?_
        by_cases hc114 : c2 < (35 : Int32)
        · have tc114 := (show (c2).toInt < 35 from own_lt hc114)
          refine Go.icmpYes X110 hx (hb hby d6_32) (Jvm.Free.XT.ii_lt_t hc114) (q := 41) (by decide) (by decide) ?_
          refine Go.iloadN X110 hx (hb hby d6_41) rfl (q := 42) rfl ?_
          refine Go.sipush X110 hx (hb hby d6_42) (r := (128 : Int32)) rfl (q := 45) rfl ?_
          by_cases hc115 : c2 < (128 : Int32)
          · have tc115 := (show (c2).toInt < 128 from own_lt hc115)
            refine Go.icmpYes X110 hx (hb hby d6_45) (Jvm.Free.XT.ii_lt_t hc115) (q := 59) (by decide) (by decide) ?_
            refine Go.iconst X110 hx (hb hby d6_59) (r := (0 : Int32)) rfl (q := 60) rfl ?_
            refine Go.istore X110 hx (hb hby d6_60) (l' := #[.val (.ref s), .val (.int of), .val (.int 2), .val (.int c2), .val (.int 0), .unset]) rfl (q := 62) rfl ?_
            refine Go.iload X110 hx (hb hby d6_62) rfl (q := 64) rfl ?_
            refine Go.ifNo X110 hx (hb hby d6_64) (by decide) (q := 67) rfl ?_
            exfalso; have := own_etr he2; omega
          · have tc115 := (show ¬ (c2).toInt < 128 from own_ltn hc115)
            refine Go.icmpNo X110 hx (hb hby d6_45) (Jvm.Free.XT.ii_lt_f hc115) (q := 48) rfl ?_
            refine Go.iloadN X110 hx (hb hby d6_48) rfl (q := 49) rfl ?_
            refine Go.sipush X110 hx (hb hby d6_49) (r := (255 : Int32)) rfl (q := 52) rfl ?_
            by_cases hc116 : (255 : Int32) < c2
            · have tc116 := (show 255 < (c2).toInt from own_lt hc116)
              refine Go.icmpYes X110 hx (hb hby d6_52) (Jvm.Free.XT.ii_gt_t hc116) (q := 59) (by decide) (by decide) ?_
              refine Go.iconst X110 hx (hb hby d6_59) (r := (0 : Int32)) rfl (q := 60) rfl ?_
              refine Go.istore X110 hx (hb hby d6_60) (l' := #[.val (.ref s), .val (.int of), .val (.int 2), .val (.int c2), .val (.int 0), .unset]) rfl (q := 62) rfl ?_
              refine Go.iload X110 hx (hb hby d6_62) rfl (q := 64) rfl ?_
              refine Go.ifNo X110 hx (hb hby d6_64) (by decide) (q := 67) rfl ?_
              exfalso; have := own_etr he2; omega
            · have tc116 := (show ¬ 255 < (c2).toInt from own_ltn hc116)
              refine Go.icmpNo X110 hx (hb hby d6_52) (Jvm.Free.XT.ii_gt_f hc116) (q := 55) rfl ?_
              refine Go.iconst X110 hx (hb hby d6_55) (r := (1 : Int32)) rfl (q := 56) rfl ?_
              refine Go.goto X110 hx (hb hby d6_56) (q := 60) (by decide) (by decide) ?_
              refine Go.istore X110 hx (hb hby d6_60) (l' := #[.val (.ref s), .val (.int of), .val (.int 2), .val (.int c2), .val (.int 1), .unset]) rfl (q := 62) rfl ?_
              refine Go.iload X110 hx (hb hby d6_62) rfl (q := 64) rfl ?_
              refine Go.ifYes X110 hx (hb hby d6_64) (by decide) (q := 127) (by decide) (by decide) ?_
              exact J127_111
        · have tc114 := (show ¬ (c2).toInt < 35 from own_ltn hc114)
          refine Go.icmpNo X110 hx (hb hby d6_32) (Jvm.Free.XT.ii_lt_f hc114) (q := 35) rfl ?_
          refine Go.iloadN X110 hx (hb hby d6_35) rfl (q := 36) rfl ?_
          refine Go.bipush X110 hx (hb hby d6_36) (r := (126 : Int32)) rfl (q := 38) rfl ?_
          by_cases hc117 : (126 : Int32) < c2
          · have tc117 := (show 126 < (c2).toInt from own_lt hc117)
            refine Go.icmpNo X110 hx (hb hby d6_38) (Jvm.Free.XT.ii_le_f hc117) (q := 41) rfl ?_
            refine Go.iloadN X110 hx (hb hby d6_41) rfl (q := 42) rfl ?_
            refine Go.sipush X110 hx (hb hby d6_42) (r := (128 : Int32)) rfl (q := 45) rfl ?_
            by_cases hc118 : c2 < (128 : Int32)
            · have tc118 := (show (c2).toInt < 128 from own_lt hc118)
              refine Go.icmpYes X110 hx (hb hby d6_45) (Jvm.Free.XT.ii_lt_t hc118) (q := 59) (by decide) (by decide) ?_
              refine Go.iconst X110 hx (hb hby d6_59) (r := (0 : Int32)) rfl (q := 60) rfl ?_
              refine Go.istore X110 hx (hb hby d6_60) (l' := #[.val (.ref s), .val (.int of), .val (.int 2), .val (.int c2), .val (.int 0), .unset]) rfl (q := 62) rfl ?_
              refine Go.iload X110 hx (hb hby d6_62) rfl (q := 64) rfl ?_
              refine Go.ifNo X110 hx (hb hby d6_64) (by decide) (q := 67) rfl ?_
              exfalso; have := own_etr he2; omega
            · have tc118 := (show ¬ (c2).toInt < 128 from own_ltn hc118)
              refine Go.icmpNo X110 hx (hb hby d6_45) (Jvm.Free.XT.ii_lt_f hc118) (q := 48) rfl ?_
              refine Go.iloadN X110 hx (hb hby d6_48) rfl (q := 49) rfl ?_
              refine Go.sipush X110 hx (hb hby d6_49) (r := (255 : Int32)) rfl (q := 52) rfl ?_
              by_cases hc119 : (255 : Int32) < c2
              · have tc119 := (show 255 < (c2).toInt from own_lt hc119)
                refine Go.icmpYes X110 hx (hb hby d6_52) (Jvm.Free.XT.ii_gt_t hc119) (q := 59) (by decide) (by decide) ?_
                refine Go.iconst X110 hx (hb hby d6_59) (r := (0 : Int32)) rfl (q := 60) rfl ?_
                refine Go.istore X110 hx (hb hby d6_60) (l' := #[.val (.ref s), .val (.int of), .val (.int 2), .val (.int c2), .val (.int 0), .unset]) rfl (q := 62) rfl ?_
                refine Go.iload X110 hx (hb hby d6_62) rfl (q := 64) rfl ?_
                refine Go.ifNo X110 hx (hb hby d6_64) (by decide) (q := 67) rfl ?_
                exfalso; have := own_etr he2; omega
              · have tc119 := (show ¬ 255 < (c2).toInt from own_ltn hc119)
                refine Go.icmpNo X110 hx (hb hby d6_52) (Jvm.Free.XT.ii_gt_f hc119) (q := 55) rfl ?_
                refine Go.iconst X110 hx (hb hby d6_55) (r := (1 : Int32)) rfl (q := 56) rfl ?_
                refine Go.goto X110 hx (hb hby d6_56) (q := 60) (by decide) (by decide) ?_
                refine Go.istore X110 hx (hb hby d6_60) (l' := #[.val (.ref s), .val (.int of), .val (.int 2), .val (.int c2), .val (.int 1), .unset]) rfl (q := 62) rfl ?_
                refine Go.iload X110 hx (hb hby d6_62) rfl (q := 64) rfl ?_
                refine Go.ifYes X110 hx (hb hby d6_64) (by decide) (q := 127) (by decide) (by decide) ?_
                exact J127_111
          · have tc117 := (show ¬ 126 < (c2).toInt from own_ltn hc117)
            refine Go.icmpYes X110 hx (hb hby d6_38) (Jvm.Free.XT.ii_le_t hc117) (q := 55) (by decide) (by decide) ?_
            refine Go.iconst X110 hx (hb hby d6_55) (r := (1 : Int32)) rfl (q := 56) rfl ?_
            refine Go.goto X110 hx (hb hby d6_56) (q := 60) (by decide) (by decide) ?_
            refine Go.istore X110 hx (hb hby d6_60) (l' := #[.val (.ref s), .val (.int of), .val (.int 2), .val (.int c2), .val (.int 1), .unset]) rfl (q := 62) rfl ?_
            refine Go.iload X110 hx (hb hby d6_62) rfl (q := 64) rfl ?_
            refine Go.ifYes X110 hx (hb hby d6_64) (by decide) (q := 127) (by decide) (by decide) ?_
            exact J127_111
    refine Go.iloadN X107 hx (hb hby d6_23) rfl (q := 24) rfl ?_
    refine Go.bipush X107 hx (hb hby d6_24) (r := (33 : Int32)) rfl (q := 26) rfl ?_
    by_cases hc120 : c1 = (33 : Int32)
    · have tc120 := (show (c1).toInt = 33 from own_eq hc120)
      refine Go.icmpYes X107 hx (hb hby d6_26) (Jvm.Free.XT.ii_eq_t hc120) (q := 55) (by decide) (by decide) ?_
      refine Go.iconst X107 hx (hb hby d6_55) (r := (1 : Int32)) rfl (q := 56) rfl ?_
      refine Go.goto X107 hx (hb hby d6_56) (q := 60) (by decide) (by decide) ?_
      refine Go.istore X107 hx (hb hby d6_60) (l' := #[.val (.ref s), .val (.int of), .val (.int 1), .val (.int c1), .val (.int 1), .unset]) rfl (q := 62) rfl ?_
      refine Go.iload X107 hx (hb hby d6_62) rfl (q := 64) rfl ?_
      refine Go.ifYes X107 hx (hb hby d6_64) (by decide) (q := 127) (by decide) (by decide) ?_
      exact J127_108
    · have tc120 := (show ¬ (c1).toInt = 33 from own_eqn hc120)
      refine Go.icmpNo X107 hx (hb hby d6_26) (Jvm.Free.XT.ii_eq_f hc120) (q := 29) rfl ?_
      refine Go.iloadN X107 hx (hb hby d6_29) rfl (q := 30) rfl ?_
      refine Go.bipush X107 hx (hb hby d6_30) (r := (35 : Int32)) rfl (q := 32) rfl ?_
      by_cases hc121 : c1 < (35 : Int32)
      · have tc121 := (show (c1).toInt < 35 from own_lt hc121)
        refine Go.icmpYes X107 hx (hb hby d6_32) (Jvm.Free.XT.ii_lt_t hc121) (q := 41) (by decide) (by decide) ?_
        refine Go.iloadN X107 hx (hb hby d6_41) rfl (q := 42) rfl ?_
        refine Go.sipush X107 hx (hb hby d6_42) (r := (128 : Int32)) rfl (q := 45) rfl ?_
        by_cases hc122 : c1 < (128 : Int32)
        · have tc122 := (show (c1).toInt < 128 from own_lt hc122)
          refine Go.icmpYes X107 hx (hb hby d6_45) (Jvm.Free.XT.ii_lt_t hc122) (q := 59) (by decide) (by decide) ?_
          refine Go.iconst X107 hx (hb hby d6_59) (r := (0 : Int32)) rfl (q := 60) rfl ?_
          refine Go.istore X107 hx (hb hby d6_60) (l' := #[.val (.ref s), .val (.int of), .val (.int 1), .val (.int c1), .val (.int 0), .unset]) rfl (q := 62) rfl ?_
          refine Go.iload X107 hx (hb hby d6_62) rfl (q := 64) rfl ?_
          refine Go.ifNo X107 hx (hb hby d6_64) (by decide) (q := 67) rfl ?_
          exfalso; have := own_etr he1; omega
        · have tc122 := (show ¬ (c1).toInt < 128 from own_ltn hc122)
          refine Go.icmpNo X107 hx (hb hby d6_45) (Jvm.Free.XT.ii_lt_f hc122) (q := 48) rfl ?_
          refine Go.iloadN X107 hx (hb hby d6_48) rfl (q := 49) rfl ?_
          refine Go.sipush X107 hx (hb hby d6_49) (r := (255 : Int32)) rfl (q := 52) rfl ?_
          by_cases hc123 : (255 : Int32) < c1
          · have tc123 := (show 255 < (c1).toInt from own_lt hc123)
            refine Go.icmpYes X107 hx (hb hby d6_52) (Jvm.Free.XT.ii_gt_t hc123) (q := 59) (by decide) (by decide) ?_
            refine Go.iconst X107 hx (hb hby d6_59) (r := (0 : Int32)) rfl (q := 60) rfl ?_
            refine Go.istore X107 hx (hb hby d6_60) (l' := #[.val (.ref s), .val (.int of), .val (.int 1), .val (.int c1), .val (.int 0), .unset]) rfl (q := 62) rfl ?_
            refine Go.iload X107 hx (hb hby d6_62) rfl (q := 64) rfl ?_
            refine Go.ifNo X107 hx (hb hby d6_64) (by decide) (q := 67) rfl ?_
            exfalso; have := own_etr he1; omega
          · have tc123 := (show ¬ 255 < (c1).toInt from own_ltn hc123)
            refine Go.icmpNo X107 hx (hb hby d6_52) (Jvm.Free.XT.ii_gt_f hc123) (q := 55) rfl ?_
            refine Go.iconst X107 hx (hb hby d6_55) (r := (1 : Int32)) rfl (q := 56) rfl ?_
            refine Go.goto X107 hx (hb hby d6_56) (q := 60) (by decide) (by decide) ?_
            refine Go.istore X107 hx (hb hby d6_60) (l' := #[.val (.ref s), .val (.int of), .val (.int 1), .val (.int c1), .val (.int 1), .unset]) rfl (q := 62) rfl ?_
            refine Go.iload X107 hx (hb hby d6_62) rfl (q := 64) rfl ?_
            refine Go.ifYes X107 hx (hb hby d6_64) (by decide) (q := 127) (by decide) (by decide) ?_
            exact J127_108
      · have tc121 := (show ¬ (c1).toInt < 35 from own_ltn hc121)
        refine Go.icmpNo X107 hx (hb hby d6_32) (Jvm.Free.XT.ii_lt_f hc121) (q := 35) rfl ?_
        refine Go.iloadN X107 hx (hb hby d6_35) rfl (q := 36) rfl ?_
        refine Go.bipush X107 hx (hb hby d6_36) (r := (126 : Int32)) rfl (q := 38) rfl ?_
        by_cases hc124 : (126 : Int32) < c1
        · have tc124 := (show 126 < (c1).toInt from own_lt hc124)
          refine Go.icmpNo X107 hx (hb hby d6_38) (Jvm.Free.XT.ii_le_f hc124) (q := 41) rfl ?_
          refine Go.iloadN X107 hx (hb hby d6_41) rfl (q := 42) rfl ?_
          refine Go.sipush X107 hx (hb hby d6_42) (r := (128 : Int32)) rfl (q := 45) rfl ?_
          by_cases hc125 : c1 < (128 : Int32)
          · have tc125 := (show (c1).toInt < 128 from own_lt hc125)
            refine Go.icmpYes X107 hx (hb hby d6_45) (Jvm.Free.XT.ii_lt_t hc125) (q := 59) (by decide) (by decide) ?_
            refine Go.iconst X107 hx (hb hby d6_59) (r := (0 : Int32)) rfl (q := 60) rfl ?_
            refine Go.istore X107 hx (hb hby d6_60) (l' := #[.val (.ref s), .val (.int of), .val (.int 1), .val (.int c1), .val (.int 0), .unset]) rfl (q := 62) rfl ?_
            refine Go.iload X107 hx (hb hby d6_62) rfl (q := 64) rfl ?_
            refine Go.ifNo X107 hx (hb hby d6_64) (by decide) (q := 67) rfl ?_
            exfalso; have := own_etr he1; omega
          · have tc125 := (show ¬ (c1).toInt < 128 from own_ltn hc125)
            refine Go.icmpNo X107 hx (hb hby d6_45) (Jvm.Free.XT.ii_lt_f hc125) (q := 48) rfl ?_
            refine Go.iloadN X107 hx (hb hby d6_48) rfl (q := 49) rfl ?_
            refine Go.sipush X107 hx (hb hby d6_49) (r := (255 : Int32)) rfl (q := 52) rfl ?_
            by_cases hc126 : (255 : Int32) < c1
            · have tc126 := (show 255 < (c1).toInt from own_lt hc126)
              refine Go.icmpYes X107 hx (hb hby d6_52) (Jvm.Free.XT.ii_gt_t hc126) (q := 59) (by decide) (by decide) ?_
              refine Go.iconst X107 hx (hb hby d6_59) (r := (0 : Int32)) rfl (q := 60) rfl ?_
              refine Go.istore X107 hx (hb hby d6_60) (l' := #[.val (.ref s), .val (.int of), .val (.int 1), .val (.int c1), .val (.int 0), .unset]) rfl (q := 62) rfl ?_
              refine Go.iload X107 hx (hb hby d6_62) rfl (q := 64) rfl ?_
              refine Go.ifNo X107 hx (hb hby d6_64) (by decide) (q := 67) rfl ?_
              exfalso; have := own_etr he1; omega
            · have tc126 := (show ¬ 255 < (c1).toInt from own_ltn hc126)
              refine Go.icmpNo X107 hx (hb hby d6_52) (Jvm.Free.XT.ii_gt_f hc126) (q := 55) rfl ?_
              refine Go.iconst X107 hx (hb hby d6_55) (r := (1 : Int32)) rfl (q := 56) rfl ?_
              refine Go.goto X107 hx (hb hby d6_56) (q := 60) (by decide) (by decide) ?_
              refine Go.istore X107 hx (hb hby d6_60) (l' := #[.val (.ref s), .val (.int of), .val (.int 1), .val (.int c1), .val (.int 1), .unset]) rfl (q := 62) rfl ?_
              refine Go.iload X107 hx (hb hby d6_62) rfl (q := 64) rfl ?_
              refine Go.ifYes X107 hx (hb hby d6_64) (by decide) (q := 127) (by decide) (by decide) ?_
              exact J127_108
        · have tc124 := (show ¬ 126 < (c1).toInt from own_ltn hc124)
          refine Go.icmpYes X107 hx (hb hby d6_38) (Jvm.Free.XT.ii_le_t hc124) (q := 55) (by decide) (by decide) ?_
          refine Go.iconst X107 hx (hb hby d6_55) (r := (1 : Int32)) rfl (q := 56) rfl ?_
          refine Go.goto X107 hx (hb hby d6_56) (q := 60) (by decide) (by decide) ?_
          refine Go.istore X107 hx (hb hby d6_60) (l' := #[.val (.ref s), .val (.int of), .val (.int 1), .val (.int c1), .val (.int 1), .unset]) rfl (q := 62) rfl ?_
          refine Go.iload X107 hx (hb hby d6_62) rfl (q := 64) rfl ?_
          refine Go.ifYes X107 hx (hb hby d6_64) (by decide) (q := 127) (by decide) (by decide) ?_
          exact J127_108
  refine Go.iloadN X104 hx (hb hby d6_23) rfl (q := 24) rfl ?_
  refine Go.bipush X104 hx (hb hby d6_24) (r := (33 : Int32)) rfl (q := 26) rfl ?_
  by_cases hc127 : c0 = (33 : Int32)
  · have tc127 := (show (c0).toInt = 33 from own_eq hc127)
    refine Go.icmpYes X104 hx (hb hby d6_26) (Jvm.Free.XT.ii_eq_t hc127) (q := 55) (by decide) (by decide) ?_
    refine Go.iconst X104 hx (hb hby d6_55) (r := (1 : Int32)) rfl (q := 56) rfl ?_
    refine Go.goto X104 hx (hb hby d6_56) (q := 60) (by decide) (by decide) ?_
    refine Go.istore X104 hx (hb hby d6_60) (l' := #[.val (.ref s), .val (.int of), .val (.int 0), .val (.int c0), .val (.int 1), .unset]) rfl (q := 62) rfl ?_
    refine Go.iload X104 hx (hb hby d6_62) rfl (q := 64) rfl ?_
    refine Go.ifYes X104 hx (hb hby d6_64) (by decide) (q := 127) (by decide) (by decide) ?_
    exact J127_105
  · have tc127 := (show ¬ (c0).toInt = 33 from own_eqn hc127)
    refine Go.icmpNo X104 hx (hb hby d6_26) (Jvm.Free.XT.ii_eq_f hc127) (q := 29) rfl ?_
    refine Go.iloadN X104 hx (hb hby d6_29) rfl (q := 30) rfl ?_
    refine Go.bipush X104 hx (hb hby d6_30) (r := (35 : Int32)) rfl (q := 32) rfl ?_
    by_cases hc128 : c0 < (35 : Int32)
    · have tc128 := (show (c0).toInt < 35 from own_lt hc128)
      refine Go.icmpYes X104 hx (hb hby d6_32) (Jvm.Free.XT.ii_lt_t hc128) (q := 41) (by decide) (by decide) ?_
      refine Go.iloadN X104 hx (hb hby d6_41) rfl (q := 42) rfl ?_
      refine Go.sipush X104 hx (hb hby d6_42) (r := (128 : Int32)) rfl (q := 45) rfl ?_
      by_cases hc129 : c0 < (128 : Int32)
      · have tc129 := (show (c0).toInt < 128 from own_lt hc129)
        refine Go.icmpYes X104 hx (hb hby d6_45) (Jvm.Free.XT.ii_lt_t hc129) (q := 59) (by decide) (by decide) ?_
        refine Go.iconst X104 hx (hb hby d6_59) (r := (0 : Int32)) rfl (q := 60) rfl ?_
        refine Go.istore X104 hx (hb hby d6_60) (l' := #[.val (.ref s), .val (.int of), .val (.int 0), .val (.int c0), .val (.int 0), .unset]) rfl (q := 62) rfl ?_
        refine Go.iload X104 hx (hb hby d6_62) rfl (q := 64) rfl ?_
        refine Go.ifNo X104 hx (hb hby d6_64) (by decide) (q := 67) rfl ?_
        exfalso; have := own_etr he0; omega
      · have tc129 := (show ¬ (c0).toInt < 128 from own_ltn hc129)
        refine Go.icmpNo X104 hx (hb hby d6_45) (Jvm.Free.XT.ii_lt_f hc129) (q := 48) rfl ?_
        refine Go.iloadN X104 hx (hb hby d6_48) rfl (q := 49) rfl ?_
        refine Go.sipush X104 hx (hb hby d6_49) (r := (255 : Int32)) rfl (q := 52) rfl ?_
        by_cases hc130 : (255 : Int32) < c0
        · have tc130 := (show 255 < (c0).toInt from own_lt hc130)
          refine Go.icmpYes X104 hx (hb hby d6_52) (Jvm.Free.XT.ii_gt_t hc130) (q := 59) (by decide) (by decide) ?_
          refine Go.iconst X104 hx (hb hby d6_59) (r := (0 : Int32)) rfl (q := 60) rfl ?_
          refine Go.istore X104 hx (hb hby d6_60) (l' := #[.val (.ref s), .val (.int of), .val (.int 0), .val (.int c0), .val (.int 0), .unset]) rfl (q := 62) rfl ?_
          refine Go.iload X104 hx (hb hby d6_62) rfl (q := 64) rfl ?_
          refine Go.ifNo X104 hx (hb hby d6_64) (by decide) (q := 67) rfl ?_
          exfalso; have := own_etr he0; omega
        · have tc130 := (show ¬ 255 < (c0).toInt from own_ltn hc130)
          refine Go.icmpNo X104 hx (hb hby d6_52) (Jvm.Free.XT.ii_gt_f hc130) (q := 55) rfl ?_
          refine Go.iconst X104 hx (hb hby d6_55) (r := (1 : Int32)) rfl (q := 56) rfl ?_
          refine Go.goto X104 hx (hb hby d6_56) (q := 60) (by decide) (by decide) ?_
          refine Go.istore X104 hx (hb hby d6_60) (l' := #[.val (.ref s), .val (.int of), .val (.int 0), .val (.int c0), .val (.int 1), .unset]) rfl (q := 62) rfl ?_
          refine Go.iload X104 hx (hb hby d6_62) rfl (q := 64) rfl ?_
          refine Go.ifYes X104 hx (hb hby d6_64) (by decide) (q := 127) (by decide) (by decide) ?_
          exact J127_105
    · have tc128 := (show ¬ (c0).toInt < 35 from own_ltn hc128)
      refine Go.icmpNo X104 hx (hb hby d6_32) (Jvm.Free.XT.ii_lt_f hc128) (q := 35) rfl ?_
      refine Go.iloadN X104 hx (hb hby d6_35) rfl (q := 36) rfl ?_
      refine Go.bipush X104 hx (hb hby d6_36) (r := (126 : Int32)) rfl (q := 38) rfl ?_
      by_cases hc131 : (126 : Int32) < c0
      · have tc131 := (show 126 < (c0).toInt from own_lt hc131)
        refine Go.icmpNo X104 hx (hb hby d6_38) (Jvm.Free.XT.ii_le_f hc131) (q := 41) rfl ?_
        refine Go.iloadN X104 hx (hb hby d6_41) rfl (q := 42) rfl ?_
        refine Go.sipush X104 hx (hb hby d6_42) (r := (128 : Int32)) rfl (q := 45) rfl ?_
        by_cases hc132 : c0 < (128 : Int32)
        · have tc132 := (show (c0).toInt < 128 from own_lt hc132)
          refine Go.icmpYes X104 hx (hb hby d6_45) (Jvm.Free.XT.ii_lt_t hc132) (q := 59) (by decide) (by decide) ?_
          refine Go.iconst X104 hx (hb hby d6_59) (r := (0 : Int32)) rfl (q := 60) rfl ?_
          refine Go.istore X104 hx (hb hby d6_60) (l' := #[.val (.ref s), .val (.int of), .val (.int 0), .val (.int c0), .val (.int 0), .unset]) rfl (q := 62) rfl ?_
          refine Go.iload X104 hx (hb hby d6_62) rfl (q := 64) rfl ?_
          refine Go.ifNo X104 hx (hb hby d6_64) (by decide) (q := 67) rfl ?_
          exfalso; have := own_etr he0; omega
        · have tc132 := (show ¬ (c0).toInt < 128 from own_ltn hc132)
          refine Go.icmpNo X104 hx (hb hby d6_45) (Jvm.Free.XT.ii_lt_f hc132) (q := 48) rfl ?_
          refine Go.iloadN X104 hx (hb hby d6_48) rfl (q := 49) rfl ?_
          refine Go.sipush X104 hx (hb hby d6_49) (r := (255 : Int32)) rfl (q := 52) rfl ?_
          by_cases hc133 : (255 : Int32) < c0
          · have tc133 := (show 255 < (c0).toInt from own_lt hc133)
            refine Go.icmpYes X104 hx (hb hby d6_52) (Jvm.Free.XT.ii_gt_t hc133) (q := 59) (by decide) (by decide) ?_
            refine Go.iconst X104 hx (hb hby d6_59) (r := (0 : Int32)) rfl (q := 60) rfl ?_
            refine Go.istore X104 hx (hb hby d6_60) (l' := #[.val (.ref s), .val (.int of), .val (.int 0), .val (.int c0), .val (.int 0), .unset]) rfl (q := 62) rfl ?_
            refine Go.iload X104 hx (hb hby d6_62) rfl (q := 64) rfl ?_
            refine Go.ifNo X104 hx (hb hby d6_64) (by decide) (q := 67) rfl ?_
            exfalso; have := own_etr he0; omega
          · have tc133 := (show ¬ 255 < (c0).toInt from own_ltn hc133)
            refine Go.icmpNo X104 hx (hb hby d6_52) (Jvm.Free.XT.ii_gt_f hc133) (q := 55) rfl ?_
            refine Go.iconst X104 hx (hb hby d6_55) (r := (1 : Int32)) rfl (q := 56) rfl ?_
            refine Go.goto X104 hx (hb hby d6_56) (q := 60) (by decide) (by decide) ?_
            refine Go.istore X104 hx (hb hby d6_60) (l' := #[.val (.ref s), .val (.int of), .val (.int 0), .val (.int c0), .val (.int 1), .unset]) rfl (q := 62) rfl ?_
            refine Go.iload X104 hx (hb hby d6_62) rfl (q := 64) rfl ?_
            refine Go.ifYes X104 hx (hb hby d6_64) (by decide) (q := 127) (by decide) (by decide) ?_
            exact J127_105
      · have tc131 := (show ¬ 126 < (c0).toInt from own_ltn hc131)
        refine Go.icmpYes X104 hx (hb hby d6_38) (Jvm.Free.XT.ii_le_t hc131) (q := 55) (by decide) (by decide) ?_
        refine Go.iconst X104 hx (hb hby d6_55) (r := (1 : Int32)) rfl (q := 56) rfl ?_
        refine Go.goto X104 hx (hb hby d6_56) (q := 60) (by decide) (by decide) ?_
        refine Go.istore X104 hx (hb hby d6_60) (l' := #[.val (.ref s), .val (.int of), .val (.int 0), .val (.int c0), .val (.int 1), .unset]) rfl (q := 62) rfl ?_
        refine Go.iload X104 hx (hb hby d6_62) rfl (q := 64) rfl ?_
        refine Go.ifYes X104 hx (hb hby d6_64) (by decide) (q := 127) (by decide) (by decide) ?_
        exact J127_105
def Q_ceti (Z : State) (o s : Addr) (h0 : Heap) (vR : Option Value) (hR : Heap) (LR : List Loc) : Prop := vR = none ∧ Fr Z.heap.size LR ∧ Keep h0 hR [o] ∧ Fld Z hR o xS2 "weak" "Z" (.int 1) ∧ Fld Z hR o xS2 "value" "Ljava/lang/String;" (.ref s) ∧ Fld Z hR o xS2 "field" "Ljava/lang/String;" .null
theorem ceti (l : Launch) (Z : State) (a0 : Array Value) (hw : ∀ d ∈ tables_1, d.before a0 Z = true) (o s : Addr) (h0 : Heap) (O0 : Ext Z.heap h0) (Eo : Exa Z h0 o xS2) (g_o : Z.heap.size ≤ o) (F0 : Fld Z h0 o xS2 "weak" "Z" (.int 0)) (F1 : Fld Z h0 o xS2 "value" "Ljava/lang/String;" .null) (F2 : Fld Z h0 o xS2 "field" "Ljava/lang/String;" .null) :
    Ctr l Z h0 (⟨xS2, "<init>", "(ZLjava/lang/String;)V"⟩ : MethodName) k10 3 none [] ({ frames := 1, cells := 0, slots := 0, locals := 12 } : Room) #[(.ref o), (.int 1), (.ref s)] (Q_ceti Z o s h0) := by
  refine enter (plainFor_of_name pn6) ?_
  intro pp ee ss mm below meth cc s₁ hx hby hml hZ hown hnm hret hlk X0 e0 hs0
  replace hown : ss.vm.findClass xS2 = some mm.cls := hown
  refine Go.cast (congrArg s₁.setTop (ef_ceti mm o s)) ?_
  have N0 := Fr.nil Z.heap.size
  have KP := Keep.refl h0 [o]
  show Go pp ee below _ (s₁.setTop (mkF mm 0 #[.val (.ref o), .val (.int 1), .val (.ref s)] []))
  refine Go.aloadN X0 hx (hb hby d10_0) rfl rfl (q := 1) rfl ?_
  refine Go.initO X0 hx hZ hown (wd55 hw) (wd17 hw) (wd18 hw) e0 (by rw [hml]; rfl) (hb hby d10_1) (by decide) (W := 0) (by exact Nat.le_refl _) (by decide) (q := 4) rfl ?_
  intro T101 X101 e101
  refine Go.aloadN X101 hx (hb hby d10_4) rfl rfl (q := 5) rfl ?_
  refine Go.iloadN X101 hx (hb hby d10_5) rfl (q := 6) rfl ?_
  refine Go.putF X101 hx hZ hown (host := "") (Or.inl (wd56 hw)) Via.refl e101 F0 Eo (Or.inr ⟨(wd57 hw), rfl, hnm⟩) (wd32 hw) (ty := .boolean) (by decide) rfl rfl (hb hby d10_6) (q := 9) rfl ?_
  intro T102 h102 X102 e102 W102 F102
  have N102 := Fr.snoc X102 N0 g_o
  replace Eo := Eo.wr W102
  replace F1 := F1.other W102 (Or.inr (slot_ne (Or.inr (wd59 hw)) (Or.inr (wd57 hw)) (by decide) (t := (.object xS0)) (t' := .boolean) (by decide) (by decide)))
  replace F2 := F2.other W102 (Or.inr (slot_ne (Or.inl (wd71 hw)) (Or.inr (wd57 hw)) (by decide) (t := (.object xS0)) (t' := .boolean) (by decide) (by decide)))
  have OW102 := ext_wr O0 W102 g_o
  replace KP := KP.wr W102 (Or.inl (List.mem_of_getElem? (i := 0) rfl))
  refine Go.aloadN X102 hx (hb hby d10_9) rfl rfl (q := 10) rfl ?_
  refine Go.aloadN X102 hx (hb hby d10_10) rfl rfl (q := 11) rfl ?_
  refine Go.putF X102 hx hZ hown (host := "") (Or.inl (wd58 hw)) Via.refl e102 F1 Eo (Or.inr ⟨(wd59 hw), rfl, hnm⟩) (wd32 hw) (ty := (.object xS0)) (by decide) rfl rfl (hb hby d10_11) (q := 14) rfl ?_
  intro T103 h103 X103 e103 W103 F103
  have N103 := Fr.snoc X103 N102 g_o
  replace Eo := Eo.wr W103
  replace F2 := F2.other W103 (Or.inr (slot_ne (Or.inl (wd71 hw)) (Or.inr (wd59 hw)) (by decide) (t := (.object xS0)) (t' := (.object xS0)) (by decide) (by decide)))
  replace F102 := F102.other W103 (Or.inr (slot_ne (Or.inr (wd57 hw)) (Or.inr (wd59 hw)) (by decide) (t := .boolean) (t' := (.object xS0)) (by decide) (by decide)))
  have OW103 := ext_wr OW102 W103 g_o
  replace KP := KP.wr W103 (Or.inl (List.mem_of_getElem? (i := 0) rfl))
  exact Go.retV X103 hx hret hlk (hb hby d10_14) e103 (by decide) (by decide) ⟨rfl, N103, KP, F102, F103, F2⟩
def Q_cwk0 (Z : State) (s v : Addr) (kv : ClassId) (cs : Int32) (fm : Value) (h0 : Heap) (vR : Option Value) (hR : Heap) (LR : List Loc) : Prop := ∃ t : Addr, vR = some (.ref t) ∧ Fr Z.heap.size LR ∧ Keep h0 hR [] ∧ h0.size ≤ t ∧ Exa Z hR t xS2 ∧ Fld Z hR t xS2 "weak" "Z" (.int 1) ∧ Fld Z hR t xS2 "value" "Ljava/lang/String;" (.ref s) ∧ Fld Z hR t xS2 "field" "Ljava/lang/String;" .null
theorem cwk0 (l : Launch) (Z : State) (a0 : Array Value) (hw : ∀ d ∈ tables_1, d.before a0 Z = true) (s v : Addr) (kv : ClassId) (cs : Int32) (fm : Value) (h0 : Heap) (O0 : Ext Z.heap h0) (Es : Exa Z h0 s xS0) (Cs : Fld Z h0 s xS0 "coder" "B" (.int 0)) (Fs : Fld Z h0 s xS0 "value" "[B" (.ref v)) (Vs : Arv Z h0 v kv .byte (0 : Int32) [] (.int 0)) (SCS : Sta Z Z.heap xS0 xS3 "Z" (.int cs)) (SFM : Sta Z Z.heap xS5 "SIOOBE_FORMATTER" "Ljava/util/function/BiFunction;" fm) (hcs : ¬ (cs = (0 : Int32))) (hfm : fm.isRef = true) :
    CtrH l Z consts_1 h0 (⟨xS2, "weak", "(Ljava/lang/String;)Lcom/example/match_before_write/matchbeforewrite/EntityTag;"⟩ : MethodName) k5 1 (some (.object xS2)) [] ({ frames := 3, cells := 3, slots := 27, locals := 46 } : Room) #[(.ref s)] (Q_cwk0 Z s v kv cs fm h0) := by
  refine enterH (plainFor_of_name pn6) ?_
  intro pp ee ss mm below meth cc s₁ hx hby hml hZ hown hnm hret hlk X0 e0 hs0 hS hC
  replace hown : (ss.setVm ss.vm).vm.findClass xS2 = some mm.cls := hown
  have hKd := Nat.zero_le h0.size
  refine Go.cast (congrArg s₁.setTop (ef_cwk0 mm s)) ?_
  have N0 := Fr.nil Z.heap.size
  have KP := Keep.refl h0 []
  show Go pp ee below _ (s₁.setTop (mkF mm 0 #[.val (.ref s)] []))
  refine Go.newO X0 hx hZ hown (wd31 hw) (wd32 hw) (wd29 hw) e0 (hb hby d5_0) (by decide) (by decide) (q := 3) rfl ?_
  intro b101 T101 h101 X101 e101 q101 E101 A101 D101 U101
  have ne_s_b101 : s ≠ b101 := ne_new Es.lt (Nat.le_of_eq q101)
  have ne_v_b101 : v ≠ b101 := ne_new Vs.lt (Nat.le_of_eq q101)
  have g_b101 : Z.heap.size ≤ b101 := Nat.le_trans O0.1 (Nat.le_of_eq q101)
  have z_b101 : h0.size ≤ b101 := Nat.le_trans KP.1 (Nat.le_of_eq q101)
  replace hC := hC.trans (CHr.ext E101 hC.1)
  replace Es := Es.ext E101
  replace Cs := Cs.ext E101
  replace Fs := Fs.ext E101
  replace Vs := Vs.ext E101
  have OE101 := ext_trans O0 E101
  replace hKd := Nat.le_trans hKd E101.1
  replace KP := KP.ext E101
  have F101_weak : Fld Z h101 b101 xS2 "weak" "Z" (.int 0) := D101 (Or.inr (wd57 hw)) (ty := .boolean) (by decide)
  have F101_value : Fld Z h101 b101 xS2 "value" "Ljava/lang/String;" .null := D101 (Or.inr (wd59 hw)) (ty := (.object xS0)) (by decide)
  have F101_field : Fld Z h101 b101 xS2 "field" "Ljava/lang/String;" .null := D101 (Or.inl (wd71 hw)) (ty := (.object xS0)) (by decide)
  clear D101
  refine Go.dup X101 hx (hb hby d5_3) rfl (q := 4) rfl ?_
  refine Go.iconst X101 hx (hb hby d5_4) (r := (1 : Int32)) rfl (q := 5) rfl ?_
  refine Go.aloadN X101 hx (hb hby d5_5) rfl rfl (q := 6) rfl ?_
  refine Go.iconst X101 hx (hb hby d5_6) (r := (0 : Int32)) rfl (q := 7) rfl ?_
  refine Go.callSH X101 hx hZ hown hS hKd (own_EW hw) hC (wd33 hw) (wd34 hw) (wd29 hw) (wd35 hw) (by decide) (cchk0 l Z a0 hw s v (kv) cs fm ((0 : Int32)) h101 OE101 Es Cs Fs Vs SCS SFM hcs hfm) e101 (by rw [hml]; rfl) (hb hby d5_7) (argsL := [(.ref s), (.int 0)]) (rest := [(.int 1), (.ref b101), (.ref b101)]) (lenOf pd12 rfl) rfl rfl (W := 3) (by first | exact Nat.le_refl _ | decide) (by decide) (by decide) (by decide) (by decide) ?_
  intro v102 T102 L102 k102 X102 hS hKd hZ hown hR102 hQ102
  obtain ⟨h102, e102⟩ : ∃ z, T102.heap = z := ⟨_, rfl⟩
  rw [e102] at hQ102 hKd hR102
  obtain ⟨rfl, N102q, K102⟩ := hQ102
  have N102 := Fr.app N0 N102q
  replace hC := hC.trans hR102
  replace Es := Es.keep K102
  replace Cs := Cs.keep K102 nin0
  replace Fs := Fs.keep K102 nin0
  replace Vs := Vs.keep K102 nin0
  replace A101 := A101.keep K102
  replace F101_weak := F101_weak.keep K102 nin0
  replace F101_value := F101_value.keep K102 nin0
  replace F101_field := F101_field.keep K102 nin0
  have OK102 := ext_keep OE101 K102 all0
  replace KP := KP.trans K102 all0
  refine Go.init X102 hx hZ hown rfl (wd52 hw) (wd53 hw) (wd29 hw) (wd54 hw) (by decide) (ceti l Z a0 hw b101 s h102 OK102 A101 g_b101 F101_weak F101_value F101_field) e102 (by rw [hml]; rfl) (hb hby d5_10) (argsL := [(.int 1), (.ref s)]) (rest := [(.ref b101)]) (lenOf pd13 rfl) rfl rfl (W := 1) (by first | exact Nat.le_refl _ | decide) (by decide) (by decide) (by decide) (by decide) ?_
  intro v103 T103 L103 X103 hQ103
  obtain ⟨h103, e103⟩ : ∃ z, T103.heap = z := ⟨_, rfl⟩
  rw [e103] at hQ103
  obtain ⟨rfl, N103q, K103, P103_0, P103_1, P103_2⟩ := hQ103
  have N103 := Fr.app N102 N103q
  replace hKd := Nat.le_trans hKd K103.1
  have hSk : ∀ x ∈ [b101], Safe Z consts_1 T102.vm h102 x := (allS (Safe.exa hZ.alike A101 (by decide) (by decide)) all0)
  replace hC := hC.trans (CHr.keep K103 hSk hC.1)
  replace Es := Es.keep K103
  replace Cs := Cs.keep K103 (ninS ne_s_b101 nin0)
  replace Fs := Fs.keep K103 (ninS ne_s_b101 nin0)
  replace Vs := Vs.keep K103 (ninS ne_v_b101 nin0)
  replace A101 := A101.keep K103
  have OK103 := ext_keep OK102 K103 (allS g_b101 all0)
  replace KP := KP.trans K103 (allS (Or.inr z_b101) all0)
  exact Go.retAH X103 hx hS hKd hs0 hZ (own_EW hw) hC hret hlk rfl rfl (hb hby d5_13) e103 (by decide) (by decide) ⟨b101, rfl, N103, KP, z_b101, A101, P103_0, P103_1, P103_2⟩
def Q_cwk1 (Z : State) (s v : Addr) (kv : ClassId) (cs : Int32) (fm : Value) (c0 : Int32) (h0 : Heap) (vR : Option Value) (hR : Heap) (LR : List Loc) : Prop := ∃ t : Addr, vR = some (.ref t) ∧ Fr Z.heap.size LR ∧ Keep h0 hR [] ∧ h0.size ≤ t ∧ Exa Z hR t xS2 ∧ Fld Z hR t xS2 "weak" "Z" (.int 1) ∧ Fld Z hR t xS2 "value" "Ljava/lang/String;" (.ref s) ∧ Fld Z hR t xS2 "field" "Ljava/lang/String;" .null
theorem cwk1 (l : Launch) (Z : State) (a0 : Array Value) (hw : ∀ d ∈ tables_1, d.before a0 Z = true) (s v : Addr) (kv : ClassId) (cs : Int32) (fm : Value) (c0 : Int32) (h0 : Heap) (O0 : Ext Z.heap h0) (Es : Exa Z h0 s xS0) (Cs : Fld Z h0 s xS0 "coder" "B" (.int 0)) (Fs : Fld Z h0 s xS0 "value" "[B" (.ref v)) (Vs : Arv Z h0 v kv .byte (1 : Int32) [(.int (c0.toInt8.toInt32))] (.int 0)) (SCS : Sta Z Z.heap xS0 xS3 "Z" (.int cs)) (SFM : Sta Z Z.heap xS5 "SIOOBE_FORMATTER" "Ljava/util/function/BiFunction;" fm) (hcs : ¬ (cs = (0 : Int32))) (hfm : fm.isRef = true) (he0 : ETC c0) :
    CtrH l Z consts_1 h0 (⟨xS2, "weak", "(Ljava/lang/String;)Lcom/example/match_before_write/matchbeforewrite/EntityTag;"⟩ : MethodName) k5 1 (some (.object xS2)) [] ({ frames := 5, cells := 3, slots := 27, locals := 73 } : Room) #[(.ref s)] (Q_cwk1 Z s v kv cs fm c0 h0) := by
  refine enterH (plainFor_of_name pn6) ?_
  intro pp ee ss mm below meth cc s₁ hx hby hml hZ hown hnm hret hlk X0 e0 hs0 hS hC
  replace hown : (ss.setVm ss.vm).vm.findClass xS2 = some mm.cls := hown
  have hKd := Nat.zero_le h0.size
  refine Go.cast (congrArg s₁.setTop (ef_cwk1 mm s)) ?_
  have N0 := Fr.nil Z.heap.size
  have KP := Keep.refl h0 []
  show Go pp ee below _ (s₁.setTop (mkF mm 0 #[.val (.ref s)] []))
  refine Go.newO X0 hx hZ hown (wd31 hw) (wd32 hw) (wd29 hw) e0 (hb hby d5_0) (by decide) (by decide) (q := 3) rfl ?_
  intro b101 T101 h101 X101 e101 q101 E101 A101 D101 U101
  have ne_s_b101 : s ≠ b101 := ne_new Es.lt (Nat.le_of_eq q101)
  have ne_v_b101 : v ≠ b101 := ne_new Vs.lt (Nat.le_of_eq q101)
  have g_b101 : Z.heap.size ≤ b101 := Nat.le_trans O0.1 (Nat.le_of_eq q101)
  have z_b101 : h0.size ≤ b101 := Nat.le_trans KP.1 (Nat.le_of_eq q101)
  replace hC := hC.trans (CHr.ext E101 hC.1)
  replace Es := Es.ext E101
  replace Cs := Cs.ext E101
  replace Fs := Fs.ext E101
  replace Vs := Vs.ext E101
  have OE101 := ext_trans O0 E101
  replace hKd := Nat.le_trans hKd E101.1
  replace KP := KP.ext E101
  have F101_weak : Fld Z h101 b101 xS2 "weak" "Z" (.int 0) := D101 (Or.inr (wd57 hw)) (ty := .boolean) (by decide)
  have F101_value : Fld Z h101 b101 xS2 "value" "Ljava/lang/String;" .null := D101 (Or.inr (wd59 hw)) (ty := (.object xS0)) (by decide)
  have F101_field : Fld Z h101 b101 xS2 "field" "Ljava/lang/String;" .null := D101 (Or.inl (wd71 hw)) (ty := (.object xS0)) (by decide)
  clear D101
  refine Go.dup X101 hx (hb hby d5_3) rfl (q := 4) rfl ?_
  refine Go.iconst X101 hx (hb hby d5_4) (r := (1 : Int32)) rfl (q := 5) rfl ?_
  refine Go.aloadN X101 hx (hb hby d5_5) rfl rfl (q := 6) rfl ?_
  refine Go.iconst X101 hx (hb hby d5_6) (r := (0 : Int32)) rfl (q := 7) rfl ?_
  refine Go.callSH X101 hx hZ hown hS hKd (own_EW hw) hC (wd33 hw) (wd34 hw) (wd29 hw) (wd35 hw) (by decide) (cchk1 l Z a0 hw s v (kv) cs fm c0 ((0 : Int32)) h101 OE101 Es Cs Fs Vs SCS SFM hcs hfm he0) e101 (by rw [hml]; rfl) (hb hby d5_7) (argsL := [(.ref s), (.int 0)]) (rest := [(.int 1), (.ref b101), (.ref b101)]) (lenOf pd12 rfl) rfl rfl (W := 3) (by first | exact Nat.le_refl _ | decide) (by decide) (by decide) (by decide) (by decide) ?_
  intro v102 T102 L102 k102 X102 hS hKd hZ hown hR102 hQ102
  obtain ⟨h102, e102⟩ : ∃ z, T102.heap = z := ⟨_, rfl⟩
  rw [e102] at hQ102 hKd hR102
  obtain ⟨rfl, N102q, K102⟩ := hQ102
  have N102 := Fr.app N0 N102q
  replace hC := hC.trans hR102
  replace Es := Es.keep K102
  replace Cs := Cs.keep K102 nin0
  replace Fs := Fs.keep K102 nin0
  replace Vs := Vs.keep K102 nin0
  replace A101 := A101.keep K102
  replace F101_weak := F101_weak.keep K102 nin0
  replace F101_value := F101_value.keep K102 nin0
  replace F101_field := F101_field.keep K102 nin0
  have OK102 := ext_keep OE101 K102 all0
  replace KP := KP.trans K102 all0
  refine Go.init X102 hx hZ hown rfl (wd52 hw) (wd53 hw) (wd29 hw) (wd54 hw) (by decide) (ceti l Z a0 hw b101 s h102 OK102 A101 g_b101 F101_weak F101_value F101_field) e102 (by rw [hml]; rfl) (hb hby d5_10) (argsL := [(.int 1), (.ref s)]) (rest := [(.ref b101)]) (lenOf pd13 rfl) rfl rfl (W := 1) (by first | exact Nat.le_refl _ | decide) (by decide) (by decide) (by decide) (by decide) ?_
  intro v103 T103 L103 X103 hQ103
  obtain ⟨h103, e103⟩ : ∃ z, T103.heap = z := ⟨_, rfl⟩
  rw [e103] at hQ103
  obtain ⟨rfl, N103q, K103, P103_0, P103_1, P103_2⟩ := hQ103
  have N103 := Fr.app N102 N103q
  replace hKd := Nat.le_trans hKd K103.1
  have hSk : ∀ x ∈ [b101], Safe Z consts_1 T102.vm h102 x := (allS (Safe.exa hZ.alike A101 (by decide) (by decide)) all0)
  replace hC := hC.trans (CHr.keep K103 hSk hC.1)
  replace Es := Es.keep K103
  replace Cs := Cs.keep K103 (ninS ne_s_b101 nin0)
  replace Fs := Fs.keep K103 (ninS ne_s_b101 nin0)
  replace Vs := Vs.keep K103 (ninS ne_v_b101 nin0)
  replace A101 := A101.keep K103
  have OK103 := ext_keep OK102 K103 (allS g_b101 all0)
  replace KP := KP.trans K103 (allS (Or.inr z_b101) all0)
  exact Go.retAH X103 hx hS hKd hs0 hZ (own_EW hw) hC hret hlk rfl rfl (hb hby d5_13) e103 (by decide) (by decide) ⟨b101, rfl, N103, KP, z_b101, A101, P103_0, P103_1, P103_2⟩
def Q_cwk2 (Z : State) (s v : Addr) (kv : ClassId) (cs : Int32) (fm : Value) (c0 c1 : Int32) (h0 : Heap) (vR : Option Value) (hR : Heap) (LR : List Loc) : Prop := ∃ t : Addr, vR = some (.ref t) ∧ Fr Z.heap.size LR ∧ Keep h0 hR [] ∧ h0.size ≤ t ∧ Exa Z hR t xS2 ∧ Fld Z hR t xS2 "weak" "Z" (.int 1) ∧ Fld Z hR t xS2 "value" "Ljava/lang/String;" (.ref s) ∧ Fld Z hR t xS2 "field" "Ljava/lang/String;" .null
theorem cwk2 (l : Launch) (Z : State) (a0 : Array Value) (hw : ∀ d ∈ tables_1, d.before a0 Z = true) (s v : Addr) (kv : ClassId) (cs : Int32) (fm : Value) (c0 c1 : Int32) (h0 : Heap) (O0 : Ext Z.heap h0) (Es : Exa Z h0 s xS0) (Cs : Fld Z h0 s xS0 "coder" "B" (.int 0)) (Fs : Fld Z h0 s xS0 "value" "[B" (.ref v)) (Vs : Arv Z h0 v kv .byte (2 : Int32) [(.int (c0.toInt8.toInt32)), (.int (c1.toInt8.toInt32))] (.int 0)) (SCS : Sta Z Z.heap xS0 xS3 "Z" (.int cs)) (SFM : Sta Z Z.heap xS5 "SIOOBE_FORMATTER" "Ljava/util/function/BiFunction;" fm) (hcs : ¬ (cs = (0 : Int32))) (hfm : fm.isRef = true) (he0 : ETC c0) (he1 : ETC c1) :
    CtrH l Z consts_1 h0 (⟨xS2, "weak", "(Ljava/lang/String;)Lcom/example/match_before_write/matchbeforewrite/EntityTag;"⟩ : MethodName) k5 1 (some (.object xS2)) [] ({ frames := 5, cells := 3, slots := 27, locals := 73 } : Room) #[(.ref s)] (Q_cwk2 Z s v kv cs fm c0 c1 h0) := by
  refine enterH (plainFor_of_name pn6) ?_
  intro pp ee ss mm below meth cc s₁ hx hby hml hZ hown hnm hret hlk X0 e0 hs0 hS hC
  replace hown : (ss.setVm ss.vm).vm.findClass xS2 = some mm.cls := hown
  have hKd := Nat.zero_le h0.size
  refine Go.cast (congrArg s₁.setTop (ef_cwk2 mm s)) ?_
  have N0 := Fr.nil Z.heap.size
  have KP := Keep.refl h0 []
  show Go pp ee below _ (s₁.setTop (mkF mm 0 #[.val (.ref s)] []))
  refine Go.newO X0 hx hZ hown (wd31 hw) (wd32 hw) (wd29 hw) e0 (hb hby d5_0) (by decide) (by decide) (q := 3) rfl ?_
  intro b101 T101 h101 X101 e101 q101 E101 A101 D101 U101
  have ne_s_b101 : s ≠ b101 := ne_new Es.lt (Nat.le_of_eq q101)
  have ne_v_b101 : v ≠ b101 := ne_new Vs.lt (Nat.le_of_eq q101)
  have g_b101 : Z.heap.size ≤ b101 := Nat.le_trans O0.1 (Nat.le_of_eq q101)
  have z_b101 : h0.size ≤ b101 := Nat.le_trans KP.1 (Nat.le_of_eq q101)
  replace hC := hC.trans (CHr.ext E101 hC.1)
  replace Es := Es.ext E101
  replace Cs := Cs.ext E101
  replace Fs := Fs.ext E101
  replace Vs := Vs.ext E101
  have OE101 := ext_trans O0 E101
  replace hKd := Nat.le_trans hKd E101.1
  replace KP := KP.ext E101
  have F101_weak : Fld Z h101 b101 xS2 "weak" "Z" (.int 0) := D101 (Or.inr (wd57 hw)) (ty := .boolean) (by decide)
  have F101_value : Fld Z h101 b101 xS2 "value" "Ljava/lang/String;" .null := D101 (Or.inr (wd59 hw)) (ty := (.object xS0)) (by decide)
  have F101_field : Fld Z h101 b101 xS2 "field" "Ljava/lang/String;" .null := D101 (Or.inl (wd71 hw)) (ty := (.object xS0)) (by decide)
  clear D101
  refine Go.dup X101 hx (hb hby d5_3) rfl (q := 4) rfl ?_
  refine Go.iconst X101 hx (hb hby d5_4) (r := (1 : Int32)) rfl (q := 5) rfl ?_
  refine Go.aloadN X101 hx (hb hby d5_5) rfl rfl (q := 6) rfl ?_
  refine Go.iconst X101 hx (hb hby d5_6) (r := (0 : Int32)) rfl (q := 7) rfl ?_
  refine Go.callSH X101 hx hZ hown hS hKd (own_EW hw) hC (wd33 hw) (wd34 hw) (wd29 hw) (wd35 hw) (by decide) (cchk2 l Z a0 hw s v (kv) cs fm c0 c1 ((0 : Int32)) h101 OE101 Es Cs Fs Vs SCS SFM hcs hfm he0 he1) e101 (by rw [hml]; rfl) (hb hby d5_7) (argsL := [(.ref s), (.int 0)]) (rest := [(.int 1), (.ref b101), (.ref b101)]) (lenOf pd12 rfl) rfl rfl (W := 3) (by first | exact Nat.le_refl _ | decide) (by decide) (by decide) (by decide) (by decide) ?_
  intro v102 T102 L102 k102 X102 hS hKd hZ hown hR102 hQ102
  obtain ⟨h102, e102⟩ : ∃ z, T102.heap = z := ⟨_, rfl⟩
  rw [e102] at hQ102 hKd hR102
  obtain ⟨rfl, N102q, K102⟩ := hQ102
  have N102 := Fr.app N0 N102q
  replace hC := hC.trans hR102
  replace Es := Es.keep K102
  replace Cs := Cs.keep K102 nin0
  replace Fs := Fs.keep K102 nin0
  replace Vs := Vs.keep K102 nin0
  replace A101 := A101.keep K102
  replace F101_weak := F101_weak.keep K102 nin0
  replace F101_value := F101_value.keep K102 nin0
  replace F101_field := F101_field.keep K102 nin0
  have OK102 := ext_keep OE101 K102 all0
  replace KP := KP.trans K102 all0
  refine Go.init X102 hx hZ hown rfl (wd52 hw) (wd53 hw) (wd29 hw) (wd54 hw) (by decide) (ceti l Z a0 hw b101 s h102 OK102 A101 g_b101 F101_weak F101_value F101_field) e102 (by rw [hml]; rfl) (hb hby d5_10) (argsL := [(.int 1), (.ref s)]) (rest := [(.ref b101)]) (lenOf pd13 rfl) rfl rfl (W := 1) (by first | exact Nat.le_refl _ | decide) (by decide) (by decide) (by decide) (by decide) ?_
  intro v103 T103 L103 X103 hQ103
  obtain ⟨h103, e103⟩ : ∃ z, T103.heap = z := ⟨_, rfl⟩
  rw [e103] at hQ103
  obtain ⟨rfl, N103q, K103, P103_0, P103_1, P103_2⟩ := hQ103
  have N103 := Fr.app N102 N103q
  replace hKd := Nat.le_trans hKd K103.1
  have hSk : ∀ x ∈ [b101], Safe Z consts_1 T102.vm h102 x := (allS (Safe.exa hZ.alike A101 (by decide) (by decide)) all0)
  replace hC := hC.trans (CHr.keep K103 hSk hC.1)
  replace Es := Es.keep K103
  replace Cs := Cs.keep K103 (ninS ne_s_b101 nin0)
  replace Fs := Fs.keep K103 (ninS ne_s_b101 nin0)
  replace Vs := Vs.keep K103 (ninS ne_v_b101 nin0)
  replace A101 := A101.keep K103
  have OK103 := ext_keep OK102 K103 (allS g_b101 all0)
  replace KP := KP.trans K103 (allS (Or.inr z_b101) all0)
  exact Go.retAH X103 hx hS hKd hs0 hZ (own_EW hw) hC hret hlk rfl rfl (hb hby d5_13) e103 (by decide) (by decide) ⟨b101, rfl, N103, KP, z_b101, A101, P103_0, P103_1, P103_2⟩
def Q_cwk3 (Z : State) (s v : Addr) (kv : ClassId) (cs : Int32) (fm : Value) (c0 c1 c2 : Int32) (h0 : Heap) (vR : Option Value) (hR : Heap) (LR : List Loc) : Prop := ∃ t : Addr, vR = some (.ref t) ∧ Fr Z.heap.size LR ∧ Keep h0 hR [] ∧ h0.size ≤ t ∧ Exa Z hR t xS2 ∧ Fld Z hR t xS2 "weak" "Z" (.int 1) ∧ Fld Z hR t xS2 "value" "Ljava/lang/String;" (.ref s) ∧ Fld Z hR t xS2 "field" "Ljava/lang/String;" .null
theorem cwk3 (l : Launch) (Z : State) (a0 : Array Value) (hw : ∀ d ∈ tables_1, d.before a0 Z = true) (s v : Addr) (kv : ClassId) (cs : Int32) (fm : Value) (c0 c1 c2 : Int32) (h0 : Heap) (O0 : Ext Z.heap h0) (Es : Exa Z h0 s xS0) (Cs : Fld Z h0 s xS0 "coder" "B" (.int 0)) (Fs : Fld Z h0 s xS0 "value" "[B" (.ref v)) (Vs : Arv Z h0 v kv .byte (3 : Int32) [(.int (c0.toInt8.toInt32)), (.int (c1.toInt8.toInt32)), (.int (c2.toInt8.toInt32))] (.int 0)) (SCS : Sta Z Z.heap xS0 xS3 "Z" (.int cs)) (SFM : Sta Z Z.heap xS5 "SIOOBE_FORMATTER" "Ljava/util/function/BiFunction;" fm) (hcs : ¬ (cs = (0 : Int32))) (hfm : fm.isRef = true) (he0 : ETC c0) (he1 : ETC c1) (he2 : ETC c2) :
    CtrH l Z consts_1 h0 (⟨xS2, "weak", "(Ljava/lang/String;)Lcom/example/match_before_write/matchbeforewrite/EntityTag;"⟩ : MethodName) k5 1 (some (.object xS2)) [] ({ frames := 5, cells := 3, slots := 27, locals := 73 } : Room) #[(.ref s)] (Q_cwk3 Z s v kv cs fm c0 c1 c2 h0) := by
  refine enterH (plainFor_of_name pn6) ?_
  intro pp ee ss mm below meth cc s₁ hx hby hml hZ hown hnm hret hlk X0 e0 hs0 hS hC
  replace hown : (ss.setVm ss.vm).vm.findClass xS2 = some mm.cls := hown
  have hKd := Nat.zero_le h0.size
  refine Go.cast (congrArg s₁.setTop (ef_cwk3 mm s)) ?_
  have N0 := Fr.nil Z.heap.size
  have KP := Keep.refl h0 []
  show Go pp ee below _ (s₁.setTop (mkF mm 0 #[.val (.ref s)] []))
  refine Go.newO X0 hx hZ hown (wd31 hw) (wd32 hw) (wd29 hw) e0 (hb hby d5_0) (by decide) (by decide) (q := 3) rfl ?_
  intro b101 T101 h101 X101 e101 q101 E101 A101 D101 U101
  have ne_s_b101 : s ≠ b101 := ne_new Es.lt (Nat.le_of_eq q101)
  have ne_v_b101 : v ≠ b101 := ne_new Vs.lt (Nat.le_of_eq q101)
  have g_b101 : Z.heap.size ≤ b101 := Nat.le_trans O0.1 (Nat.le_of_eq q101)
  have z_b101 : h0.size ≤ b101 := Nat.le_trans KP.1 (Nat.le_of_eq q101)
  replace hC := hC.trans (CHr.ext E101 hC.1)
  replace Es := Es.ext E101
  replace Cs := Cs.ext E101
  replace Fs := Fs.ext E101
  replace Vs := Vs.ext E101
  have OE101 := ext_trans O0 E101
  replace hKd := Nat.le_trans hKd E101.1
  replace KP := KP.ext E101
  have F101_weak : Fld Z h101 b101 xS2 "weak" "Z" (.int 0) := D101 (Or.inr (wd57 hw)) (ty := .boolean) (by decide)
  have F101_value : Fld Z h101 b101 xS2 "value" "Ljava/lang/String;" .null := D101 (Or.inr (wd59 hw)) (ty := (.object xS0)) (by decide)
  have F101_field : Fld Z h101 b101 xS2 "field" "Ljava/lang/String;" .null := D101 (Or.inl (wd71 hw)) (ty := (.object xS0)) (by decide)
  clear D101
  refine Go.dup X101 hx (hb hby d5_3) rfl (q := 4) rfl ?_
  refine Go.iconst X101 hx (hb hby d5_4) (r := (1 : Int32)) rfl (q := 5) rfl ?_
  refine Go.aloadN X101 hx (hb hby d5_5) rfl rfl (q := 6) rfl ?_
  refine Go.iconst X101 hx (hb hby d5_6) (r := (0 : Int32)) rfl (q := 7) rfl ?_
  refine Go.callSH X101 hx hZ hown hS hKd (own_EW hw) hC (wd33 hw) (wd34 hw) (wd29 hw) (wd35 hw) (by decide) (cchk3 l Z a0 hw s v (kv) cs fm c0 c1 c2 ((0 : Int32)) h101 OE101 Es Cs Fs Vs SCS SFM hcs hfm he0 he1 he2) e101 (by rw [hml]; rfl) (hb hby d5_7) (argsL := [(.ref s), (.int 0)]) (rest := [(.int 1), (.ref b101), (.ref b101)]) (lenOf pd12 rfl) rfl rfl (W := 3) (by first | exact Nat.le_refl _ | decide) (by decide) (by decide) (by decide) (by decide) ?_
  intro v102 T102 L102 k102 X102 hS hKd hZ hown hR102 hQ102
  obtain ⟨h102, e102⟩ : ∃ z, T102.heap = z := ⟨_, rfl⟩
  rw [e102] at hQ102 hKd hR102
  obtain ⟨rfl, N102q, K102⟩ := hQ102
  have N102 := Fr.app N0 N102q
  replace hC := hC.trans hR102
  replace Es := Es.keep K102
  replace Cs := Cs.keep K102 nin0
  replace Fs := Fs.keep K102 nin0
  replace Vs := Vs.keep K102 nin0
  replace A101 := A101.keep K102
  replace F101_weak := F101_weak.keep K102 nin0
  replace F101_value := F101_value.keep K102 nin0
  replace F101_field := F101_field.keep K102 nin0
  have OK102 := ext_keep OE101 K102 all0
  replace KP := KP.trans K102 all0
  refine Go.init X102 hx hZ hown rfl (wd52 hw) (wd53 hw) (wd29 hw) (wd54 hw) (by decide) (ceti l Z a0 hw b101 s h102 OK102 A101 g_b101 F101_weak F101_value F101_field) e102 (by rw [hml]; rfl) (hb hby d5_10) (argsL := [(.int 1), (.ref s)]) (rest := [(.ref b101)]) (lenOf pd13 rfl) rfl rfl (W := 1) (by first | exact Nat.le_refl _ | decide) (by decide) (by decide) (by decide) (by decide) ?_
  intro v103 T103 L103 X103 hQ103
  obtain ⟨h103, e103⟩ : ∃ z, T103.heap = z := ⟨_, rfl⟩
  rw [e103] at hQ103
  obtain ⟨rfl, N103q, K103, P103_0, P103_1, P103_2⟩ := hQ103
  have N103 := Fr.app N102 N103q
  replace hKd := Nat.le_trans hKd K103.1
  have hSk : ∀ x ∈ [b101], Safe Z consts_1 T102.vm h102 x := (allS (Safe.exa hZ.alike A101 (by decide) (by decide)) all0)
  replace hC := hC.trans (CHr.keep K103 hSk hC.1)
  replace Es := Es.keep K103
  replace Cs := Cs.keep K103 (ninS ne_s_b101 nin0)
  replace Fs := Fs.keep K103 (ninS ne_s_b101 nin0)
  replace Vs := Vs.keep K103 (ninS ne_v_b101 nin0)
  replace A101 := A101.keep K103
  have OK103 := ext_keep OK102 K103 (allS g_b101 all0)
  replace KP := KP.trans K103 (allS (Or.inr z_b101) all0)
  exact Go.retAH X103 hx hS hKd hs0 hZ (own_EW hw) hC hret hlk rfl rfl (hb hby d5_13) e103 (by decide) (by decide) ⟨b101, rfl, N103, KP, z_b101, A101, P103_0, P103_1, P103_2⟩
def Q_cval (Z : State) (o s : Addr) (h0 : Heap) (vR : Option Value) (hR : Heap) (LR : List Loc) : Prop := vR = some (.ref s) ∧ Fr Z.heap.size LR ∧ hR = h0
theorem cval (l : Launch) (Z : State) (a0 : Array Value) (hw : ∀ d ∈ tables_1, d.before a0 Z = true) (o s : Addr) (h0 : Heap) (O0 : Ext Z.heap h0) (F : Fld Z h0 o xS2 "value" "Ljava/lang/String;" (.ref s)) :
    Ctr l Z h0 (⟨xS2, "value", "()Ljava/lang/String;"⟩ : MethodName) k11 1 (some (.object xS0)) [] ({ frames := 0, cells := 0, slots := 0, locals := 0 } : Room) #[(.ref o)] (Q_cval Z o s h0) := by
  refine enter (plainFor_of_name pn6) ?_
  intro pp ee ss mm below meth cc s₁ hx hby hml hZ hown hnm hret hlk X0 e0 hs0
  replace hown : ss.vm.findClass xS2 = some mm.cls := hown
  refine Go.cast (congrArg s₁.setTop (ef_cval mm o)) ?_
  have N0 := Fr.nil Z.heap.size
  show Go pp ee below _ (s₁.setTop (mkF mm 0 #[.val (.ref o)] []))
  refine Go.aloadN X0 hx (hb hby d11_0) rfl rfl (q := 1) rfl ?_
  refine Go.getF X0 hx hZ hown (host := "") (Or.inl (wd58 hw)) Via.refl e0 F (hb hby d11_1) (q := 4) rfl ?_
  intro T101 X101 e101
  exact Go.retA X101 hx hret hlk rfl rfl (hb hby d11_4) e101 (by decide) (by decide) ⟨rfl, N0, rfl⟩
def Q_cisw (Z : State) (o : Addr) (h0 : Heap) (vR : Option Value) (hR : Heap) (LR : List Loc) : Prop := vR = some (.int 1) ∧ Fr Z.heap.size LR ∧ hR = h0
theorem cisw (l : Launch) (Z : State) (a0 : Array Value) (hw : ∀ d ∈ tables_1, d.before a0 Z = true) (o : Addr) (h0 : Heap) (O0 : Ext Z.heap h0) (F : Fld Z h0 o xS2 "weak" "Z" (.int 1)) :
    Ctr l Z h0 (⟨xS2, "isWeak", "()Z"⟩ : MethodName) k35 1 (some .boolean) [] ({ frames := 0, cells := 0, slots := 0, locals := 0 } : Room) #[(.ref o)] (Q_cisw Z o h0) := by
  refine enter (plainFor_of_name pn6) ?_
  intro pp ee ss mm below meth cc s₁ hx hby hml hZ hown hnm hret hlk X0 e0 hs0
  replace hown : ss.vm.findClass xS2 = some mm.cls := hown
  refine Go.cast (congrArg s₁.setTop (ef_cisw mm o)) ?_
  have N0 := Fr.nil Z.heap.size
  show Go pp ee below _ (s₁.setTop (mkF mm 0 #[.val (.ref o)] []))
  refine Go.aloadN X0 hx (hb hby d35_0) rfl rfl (q := 1) rfl ?_
  refine Go.getF X0 hx hZ hown (host := "") (Or.inl (wd56 hw)) Via.refl e0 F (hb hby d35_1) (q := 4) rfl ?_
  intro T101 X101 e101
  exact Go.retI X101 hx hret hlk (by simp) rfl (hb hby d35_4) e101 (by decide) (by decide) ⟨rfl, N0, rfl⟩
def Q_casb (Z : State) (o : Addr) (cs : Int32) (h0 : Heap) (vR : Option Value) (hR : Heap) (LR : List Loc) : Prop := ∃ v : Addr, ∃ kv : ClassId, vR = none ∧ Fr Z.heap.size LR ∧ Keep h0 hR [o] ∧ h0.size ≤ v ∧ Fld Z hR o xS1 "value" "[B" (.ref v) ∧ Fld Z hR o xS1 "coder" "B" (.int 0) ∧ Fld Z hR o xS1 "count" "I" (.int 0) ∧ Exa Z hR v "[B" ∧ Arv Z hR v kv .byte (16 : Int32) [(.int 0), (.int 0), (.int 0), (.int 0), (.int 0), (.int 0), (.int 0)] (.int 0)
theorem casb (l : Launch) (Z : State) (a0 : Array Value) (hw : ∀ d ∈ tables_1, d.before a0 Z = true) (o : Addr) (cs : Int32) (h0 : Heap) (O0 : Ext Z.heap h0) (Eo : Exa Z h0 o xS4) (g_o : Z.heap.size ≤ o) (F0 : Fld Z h0 o xS1 "value" "[B" .null) (F1 : Fld Z h0 o xS1 "coder" "B" (.int 0)) (F2 : Fld Z h0 o xS1 "count" "I" (.int 0)) (SCS : Sta Z Z.heap xS0 xS3 "Z" (.int cs)) (hcs : ¬ (cs = (0 : Int32))) :
    Ctr l Z h0 (⟨xS1, "<init>", "(I)V"⟩ : MethodName) k14 2 none [] ({ frames := 1, cells := 1, slots := 16, locals := 12 } : Room) #[(.ref o), (.int 16)] (Q_casb Z o cs h0) := by
  refine enter (plainFor_of_name pn7) ?_
  intro pp ee ss mm below meth cc s₁ hx hby hml hZ hown hnm hret hlk X0 e0 hs0
  replace hown : ss.vm.findClass xS1 = some mm.cls := hown
  refine Go.cast (congrArg s₁.setTop (ef_casb mm o)) ?_
  have N0 := Fr.nil Z.heap.size
  have KP := Keep.refl h0 [o]
  show Go pp ee below _ (s₁.setTop (mkF mm 0 #[.val (.ref o), .val (.int 16)] []))
  refine Go.aloadN X0 hx (hb hby d14_0) rfl rfl (q := 1) rfl ?_
  refine Go.initO X0 hx hZ hown (wd84 hw) (wd17 hw) (wd18 hw) e0 (by rw [hml]; rfl) (hb hby d14_1) (by decide) (W := 0) (by exact Nat.le_refl _) (by decide) (q := 4) rfl ?_
  intro T101 X101 e101
  refine Go.getS X101 hx hZ hown (host := "") (Or.inl (wd85 hw)) Via.refl e101 (SCS.ext O0) (hb hby d14_4) (q := 7) rfl ?_
  intro T102 X102 e102
  refine Go.ifNo X102 hx (hb hby d14_7) (Jvm.Free.XT.i0_eq_f hcs) (q := 10) rfl ?_
  refine Go.aloadN X102 hx (hb hby d14_10) rfl rfl (q := 11) rfl ?_
  refine Go.iloadN X102 hx (hb hby d14_11) rfl (q := 12) rfl ?_
  refine Go.newP X102 hx hZ (hb hby d14_12) (wd20 hw) e102 (by decide) (cap := 16) (by decide) (by decide) (by decide) (by decide) (ad := "[B") rfl (q := 14) rfl ?_
  intro b103 T103 h103 k103 X103 e103 q103 E103 V103 B103
  have ne_o_b103 : o ≠ b103 := ne_new Eo.lt (Nat.le_of_eq q103)
  have g_b103 : Z.heap.size ≤ b103 := Nat.le_trans O0.1 (Nat.le_of_eq q103)
  have z_b103 : h0.size ≤ b103 := Nat.le_trans KP.1 (Nat.le_of_eq q103)
  replace Eo := Eo.ext E103
  replace F0 := F0.ext E103
  replace F1 := F1.ext E103
  replace F2 := F2.ext E103
  have OE103 := ext_trans O0 E103
  replace KP := KP.ext E103
  replace V103 : Arv Z h103 b103 k103 .byte (16 : Int32) [(.int 0), (.int 0), (.int 0), (.int 0), (.int 0), (.int 0), (.int 0)] (.int 0) := V103.pad (pad_rep [] (.int 0) 7)
  refine Go.putF X103 hx hZ hown (host := "") (Or.inl (wd86 hw)) Via.refl e103 F0 Eo (Or.inl (wd87 hw)) (wd73 hw) (ty := (.array .byte)) (by decide) rfl rfl (hb hby d14_14) (q := 17) rfl ?_
  intro T104 h104 X104 e104 W104 F104
  have N104 := Fr.snoc X104 N0 g_o
  replace Eo := Eo.wr W104
  replace F1 := F1.other W104 (Or.inr (slot_ne (Or.inl (wd89 hw)) (Or.inl (wd87 hw)) (by decide) (t := .byte) (t' := (.array .byte)) (by decide) (by decide)))
  replace F2 := F2.other W104 (Or.inr (slot_ne (Or.inl (wd103 hw)) (Or.inl (wd87 hw)) (by decide) (t := .int) (t' := (.array .byte)) (by decide) (by decide)))
  replace B103 := B103.wr W104
  replace V103 := V103.other W104 (Ne.symm ne_o_b103)
  have OW104 := ext_wr OE103 W104 g_o
  replace KP := KP.wr W104 (Or.inl (List.mem_of_getElem? (i := 0) rfl))
  refine Go.aloadN X104 hx (hb hby d14_17) rfl rfl (q := 18) rfl ?_
  refine Go.iconst X104 hx (hb hby d14_18) (r := (0 : Int32)) rfl (q := 19) rfl ?_
  refine Go.putF X104 hx hZ hown (host := "") (Or.inl (wd88 hw)) Via.refl e104 F1 Eo (Or.inl (wd89 hw)) (wd73 hw) (ty := .byte) (by decide) rfl rfl (hb hby d14_19) (q := 22) rfl ?_
  intro T105 h105 X105 e105 W105 F105
  have N105 := Fr.snoc X105 N104 g_o
  replace Eo := Eo.wr W105
  replace F2 := F2.other W105 (Or.inr (slot_ne (Or.inl (wd103 hw)) (Or.inl (wd89 hw)) (by decide) (t := .int) (t' := .byte) (by decide) (by decide)))
  replace B103 := B103.wr W105
  replace V103 := V103.other W105 (Ne.symm ne_o_b103)
  replace F104 := F104.other W105 (Or.inr (slot_ne (Or.inl (wd87 hw)) (Or.inl (wd89 hw)) (by decide) (t := (.array .byte)) (t' := .byte) (by decide) (by decide)))
  have OW105 := ext_wr OW104 W105 g_o
  replace KP := KP.wr W105 (Or.inl (List.mem_of_getElem? (i := 0) rfl))
  refine Go.goto X105 hx (hb hby d14_22) (q := 38) (by decide) (by decide) ?_
  exact Go.retV X105 hx hret hlk (hb hby d14_38) e105 (by decide) (by decide) ⟨b103, k103, rfl, N105, KP, z_b103, F104, F105, F2, B103, V103⟩
def Q_csb (Z : State) (o : Addr) (cs : Int32) (h0 : Heap) (vR : Option Value) (hR : Heap) (LR : List Loc) : Prop := ∃ v : Addr, ∃ kv : ClassId, vR = none ∧ Fr Z.heap.size LR ∧ Keep h0 hR [o] ∧ h0.size ≤ v ∧ Fld Z hR o xS1 "value" "[B" (.ref v) ∧ Fld Z hR o xS1 "coder" "B" (.int 0) ∧ Fld Z hR o xS1 "count" "I" (.int 0) ∧ Exa Z hR v "[B" ∧ Arv Z hR v kv .byte (16 : Int32) [(.int 0), (.int 0), (.int 0), (.int 0), (.int 0), (.int 0), (.int 0)] (.int 0)
theorem csb (l : Launch) (Z : State) (a0 : Array Value) (hw : ∀ d ∈ tables_1, d.before a0 Z = true) (o : Addr) (cs : Int32) (h0 : Heap) (O0 : Ext Z.heap h0) (Eo : Exa Z h0 o xS4) (g_o : Z.heap.size ≤ o) (F0 : Fld Z h0 o xS1 "value" "[B" .null) (F1 : Fld Z h0 o xS1 "coder" "B" (.int 0)) (F2 : Fld Z h0 o xS1 "count" "I" (.int 0)) (SCS : Sta Z Z.heap xS0 xS3 "Z" (.int cs)) (hcs : ¬ (cs = (0 : Int32))) :
    Ctr l Z h0 (⟨xS4, "<init>", "()V"⟩ : MethodName) k13 1 none [] ({ frames := 2, cells := 1, slots := 16, locals := 25 } : Room) #[(.ref o)] (Q_csb Z o cs h0) := by
  refine enter (plainFor_of_name pn8) ?_
  intro pp ee ss mm below meth cc s₁ hx hby hml hZ hown hnm hret hlk X0 e0 hs0
  replace hown : ss.vm.findClass xS4 = some mm.cls := hown
  refine Go.cast (congrArg s₁.setTop (ef_csb mm o)) ?_
  have N0 := Fr.nil Z.heap.size
  have KP := Keep.refl h0 [o]
  show Go pp ee below _ (s₁.setTop (mkF mm 0 #[.val (.ref o)] []))
  refine Go.aloadN X0 hx (hb hby d13_0) rfl rfl (q := 1) rfl ?_
  refine Go.bipush X0 hx (hb hby d13_1) (r := (16 : Int32)) rfl (q := 3) rfl ?_
  refine Go.init X0 hx hZ hown rfl (wd78 hw) (wd79 hw) (wd82 hw) (wd83 hw) (by decide) (casb l Z a0 hw o cs h0 O0 Eo g_o F0 F1 F2 SCS hcs) e0 (by rw [hml]; rfl) (hb hby d13_3) (argsL := [(.int 16)]) (rest := []) (lenOf pd14 rfl) rfl rfl (W := 0) (by first | exact Nat.le_refl _ | decide) (by decide) (by decide) (by decide) (by decide) ?_
  intro v101 T101 L101 X101 hQ101
  obtain ⟨h101, e101⟩ : ∃ z, T101.heap = z := ⟨_, rfl⟩
  rw [e101] at hQ101
  obtain ⟨v_101, kv_101, rfl, N101q, K101, fr101_v, P101_0, P101_1, P101_2, P101_3, P101_4⟩ := hQ101
  have N101 := Fr.app N0 N101q
  have ne_o_v_101 : o ≠ v_101 := ne_new Eo.lt fr101_v
  have g_v_101 : Z.heap.size ≤ v_101 := Nat.le_trans O0.1 fr101_v
  have z_v_101 : h0.size ≤ v_101 := Nat.le_trans KP.1 fr101_v
  replace Eo := Eo.keep K101
  have OK101 := ext_keep O0 K101 (allS g_o all0)
  replace KP := KP.trans K101 (allS (Or.inl (List.mem_of_getElem? (i := 0) rfl)) all0)
  exact Go.retV X101 hx hret hlk (hb hby d13_6) e101 (by decide) (by decide) ⟨v_101, kv_101, rfl, N101, KP, z_v_101, P101_0, P101_1, P101_2, P101_3, P101_4⟩
def Q_cens (Z : State) (o : Addr) (mn cp : Int32) (v : Addr) (kv : ClassId) (vs : List Value) (h0 : Heap) (vR : Option Value) (hR : Heap) (LR : List Loc) : Prop := vR = none ∧ Fr Z.heap.size LR ∧ hR = h0
theorem cens (l : Launch) (Z : State) (a0 : Array Value) (hw : ∀ d ∈ tables_1, d.before a0 Z = true) (o : Addr) (mn cp : Int32) (v : Addr) (kv : ClassId) (vs : List Value) (h0 : Heap) (O0 : Ext Z.heap h0) (Fv : Fld Z h0 o xS1 "value" "[B" (.ref v)) (Fc : Fld Z h0 o xS1 "coder" "B" (.int 0)) (Va : Arv Z h0 v kv .byte cp vs (.int 0)) (hmn : ¬ ((0 : Int32) < (mn - cp))) :
    Ctr l Z h0 (⟨xS1, "ensureCapacityInternal", "(I)V"⟩ : MethodName) k17 3 none [] ({ frames := 0, cells := 0, slots := 0, locals := 0 } : Room) #[(.ref o), (.int mn)] (Q_cens Z o mn cp v kv vs h0) := by
  refine enter (plainFor_of_name pn7) ?_
  intro pp ee ss mm below meth cc s₁ hx hby hml hZ hown hnm hret hlk X0 e0 hs0
  replace hown : ss.vm.findClass xS1 = some mm.cls := hown
  refine Go.cast (congrArg s₁.setTop (ef_cens mm o mn)) ?_
  have N0 := Fr.nil Z.heap.size
  show Go pp ee below _ (s₁.setTop (mkF mm 0 #[.val (.ref o), .val (.int mn), .unset] []))
  refine Go.aloadN X0 hx (hb hby d17_0) rfl rfl (q := 1) rfl ?_
  refine Go.getF X0 hx hZ hown (host := "") (Or.inl (wd86 hw)) Via.refl e0 Fv (hb hby d17_1) (q := 4) rfl ?_
  intro T101 X101 e101
  refine Go.alen X101 hx hZ e101 Va (hb hby d17_4) ?_
  refine Go.aloadN X101 hx (hb hby d17_5) rfl rfl (q := 6) rfl ?_
  refine Go.getF X101 hx hZ hown (host := "") (Or.inl (wd88 hw)) Via.refl e101 Fc (hb hby d17_6) (q := 9) rfl ?_
  intro T102 X102 e102
  refine Go.ishr X102 hx (hb hby d17_9) rfl (q := 10) rfl ?_
  rw [own_shr0 cp]
  show Go pp ee below _ (T102.setTop (mkF mm 10 #[.val (.ref o), .val (.int mn), .unset] [(.int cp)]))
  refine Go.istoreN X102 hx (hb hby d17_10) (l' := #[.val (.ref o), .val (.int mn), .val (.int cp)]) rfl (q := 11) rfl ?_
  refine Go.iloadN X102 hx (hb hby d17_11) rfl (q := 12) rfl ?_
  refine Go.iloadN X102 hx (hb hby d17_12) rfl (q := 13) rfl ?_
  refine Go.isub X102 hx (hb hby d17_13) rfl (q := 14) rfl ?_
  refine Go.ifYes X102 hx (hb hby d17_14) (Jvm.Free.XT.i0_le_t hmn) (q := 38) (by decide) (by decide) ?_
  exact Go.retV X102 hx hret hlk (hb hby d17_38) e102 (by decide) (by decide) ⟨rfl, N0, rfl⟩
def Q_cinf (Z : State) (o t : Addr) (cs : Int32) (h0 : Heap) (vR : Option Value) (hR : Heap) (LR : List Loc) : Prop := vR = none ∧ Fr Z.heap.size LR ∧ hR = h0
theorem cinf (l : Launch) (Z : State) (a0 : Array Value) (hw : ∀ d ∈ tables_1, d.before a0 Z = true) (o t : Addr) (cs : Int32) (h0 : Heap) (O0 : Ext Z.heap h0) (Fc : Fld Z h0 o xS1 "coder" "B" (.int 0)) (Et : Exa Z h0 t xS0) (Ft : Fld Z h0 t xS0 "coder" "B" (.int 0)) (SCS : Sta Z Z.heap xS0 xS3 "Z" (.int cs)) (hcs : ¬ (cs = (0 : Int32))) :
    Ctr l Z h0 (⟨xS1, "inflateIfNeededFor", "(Ljava/lang/String;)V"⟩ : MethodName) k19 2 none [] ({ frames := 1, cells := 0, slots := 0, locals := 13 } : Room) #[(.ref o), (.ref t)] (Q_cinf Z o t cs h0) := by
  refine enter (plainFor_of_name pn7) ?_
  intro pp ee ss mm below meth cc s₁ hx hby hml hZ hown hnm hret hlk X0 e0 hs0
  replace hown : ss.vm.findClass xS1 = some mm.cls := hown
  refine Go.cast (congrArg s₁.setTop (ef_cinf mm o t)) ?_
  have N0 := Fr.nil Z.heap.size
  show Go pp ee below _ (s₁.setTop (mkF mm 0 #[.val (.ref o), .val (.ref t)] []))
  refine Go.getS X0 hx hZ hown (host := "") (Or.inl (wd85 hw)) Via.refl e0 (SCS.ext O0) (hb hby d19_0) (q := 3) rfl ?_
  intro T101 X101 e101
  refine Go.ifNo X101 hx (hb hby d19_3) (Jvm.Free.XT.i0_eq_f hcs) (q := 6) rfl ?_
  refine Go.aloadN X101 hx (hb hby d19_6) rfl rfl (q := 7) rfl ?_
  refine Go.getF X101 hx hZ hown (host := "") (Or.inl (wd88 hw)) Via.refl e101 Fc (hb hby d19_7) (q := 10) rfl ?_
  intro T102 X102 e102
  refine Go.aloadN X102 hx (hb hby d19_10) rfl rfl (q := 11) rfl ?_
  refine Go.virt X102 hx hZ hown (wd119 hw) (wd47 hw) (notFace_of_selects (args := #[]) (mvT hZ (wd49 hw))) (wd49 hw) (wd48 hw) (wd8 hw) (wd50 hw) (by decide) (ccoder l Z a0 hw t cs h0 O0 Ft SCS hcs) e102 Et (by rw [hml]; rfl) (hb hby d19_11) (argsL := []) (rest := [(.int 0)]) (lenOf pd4 rfl) rfl rfl (W := 1) (by first | exact Nat.le_refl _ | decide) (by decide) (by decide) (by decide) (by decide) ?_
  intro v103 T103 L103 X103 hQ103
  obtain ⟨rfl, N103q, e103⟩ := hQ103
  have N103 := Fr.app N0 N103q
  refine Go.icmpYes X103 hx (hb hby d19_14) (by decide) (q := 21) (by decide) (by decide) ?_
  exact Go.retV X103 hx hret hlk (hb hby d19_21) e103 (by decide) (by decide) ⟨rfl, N103, rfl⟩
def Q_csbl (Z : State) (o : Addr) (cs : Int32) (h0 : Heap) (vR : Option Value) (hR : Heap) (LR : List Loc) : Prop := vR = some (.int 1) ∧ Fr Z.heap.size LR ∧ hR = h0
theorem csbl (l : Launch) (Z : State) (a0 : Array Value) (hw : ∀ d ∈ tables_1, d.before a0 Z = true) (o : Addr) (cs : Int32) (h0 : Heap) (O0 : Ext Z.heap h0) (Fc : Fld Z h0 o xS1 "coder" "B" (.int 0)) (SCS : Sta Z Z.heap xS0 xS3 "Z" (.int cs)) (hcs : ¬ (cs = (0 : Int32))) :
    Ctr l Z h0 (⟨xS1, "isLatin1", "()Z"⟩ : MethodName) k23 1 (some .boolean) [] ({ frames := 0, cells := 0, slots := 0, locals := 0 } : Room) #[(.ref o)] (Q_csbl Z o cs h0) := by
  refine enter (plainFor_of_name pn7) ?_
  intro pp ee ss mm below meth cc s₁ hx hby hml hZ hown hnm hret hlk X0 e0 hs0
  replace hown : ss.vm.findClass xS1 = some mm.cls := hown
  refine Go.cast (congrArg s₁.setTop (ef_csbl mm o)) ?_
  have N0 := Fr.nil Z.heap.size
  show Go pp ee below _ (s₁.setTop (mkF mm 0 #[.val (.ref o)] []))
  refine Go.getS X0 hx hZ hown (host := "") (Or.inl (wd85 hw)) Via.refl e0 (SCS.ext O0) (hb hby d23_0) (q := 3) rfl ?_
  intro T101 X101 e101
  refine Go.ifNo X101 hx (hb hby d23_3) (Jvm.Free.XT.i0_eq_f hcs) (q := 6) rfl ?_
  refine Go.aloadN X101 hx (hb hby d23_6) rfl rfl (q := 7) rfl ?_
  refine Go.getF X101 hx hZ hown (host := "") (Or.inl (wd88 hw)) Via.refl e101 Fc (hb hby d23_7) (q := 10) rfl ?_
  intro T102 X102 e102
  refine Go.ifNo X102 hx (hb hby d23_10) (by decide) (q := 13) rfl ?_
  refine Go.iconst X102 hx (hb hby d23_13) (r := (1 : Int32)) rfl (q := 14) rfl ?_
  refine Go.goto X102 hx (hb hby d23_14) (q := 18) (by decide) (by decide) ?_
  exact Go.retI X102 hx hret hlk (by simp) rfl (hb hby d23_18) e102 (by decide) (by decide) ⟨rfl, N0, rfl⟩
def Q_cgva (Z : State) (o v : Addr) (h0 : Heap) (vR : Option Value) (hR : Heap) (LR : List Loc) : Prop := vR = some (.ref v) ∧ Fr Z.heap.size LR ∧ hR = h0
theorem cgva (l : Launch) (Z : State) (a0 : Array Value) (hw : ∀ d ∈ tables_1, d.before a0 Z = true) (o v : Addr) (h0 : Heap) (O0 : Ext Z.heap h0) (Fv : Fld Z h0 o xS1 "value" "[B" (.ref v)) :
    Ctr l Z h0 (⟨xS1, "getValue", "()[B"⟩ : MethodName) k28 1 (some (.array .byte)) [] ({ frames := 0, cells := 0, slots := 0, locals := 0 } : Room) #[(.ref o)] (Q_cgva Z o v h0) := by
  refine enter (plainFor_of_name pn7) ?_
  intro pp ee ss mm below meth cc s₁ hx hby hml hZ hown hnm hret hlk X0 e0 hs0
  replace hown : ss.vm.findClass xS1 = some mm.cls := hown
  refine Go.cast (congrArg s₁.setTop (ef_cgva mm o)) ?_
  have N0 := Fr.nil Z.heap.size
  show Go pp ee below _ (s₁.setTop (mkF mm 0 #[.val (.ref o)] []))
  refine Go.aloadN X0 hx (hb hby d28_0) rfl rfl (q := 1) rfl ?_
  refine Go.getF X0 hx hZ hown (host := "") (Or.inl (wd86 hw)) Via.refl e0 Fv (hb hby d28_1) (q := 4) rfl ?_
  intro T101 X101 e101
  exact Go.retA X101 hx hret hlk rfl rfl (hb hby d28_4) e101 (by decide) (by decide) ⟨rfl, N0, rfl⟩
def Q_clna (Z : State) (o : Addr) (cn : Int32) (h0 : Heap) (vR : Option Value) (hR : Heap) (LR : List Loc) : Prop := vR = some (.int cn) ∧ Fr Z.heap.size LR ∧ hR = h0
theorem clna (l : Launch) (Z : State) (a0 : Array Value) (hw : ∀ d ∈ tables_1, d.before a0 Z = true) (o : Addr) (cn : Int32) (h0 : Heap) (O0 : Ext Z.heap h0) (Fn : Fld Z h0 o xS1 "count" "I" (.int cn)) :
    Ctr l Z h0 (⟨xS1, "length", "()I"⟩ : MethodName) k30 1 (some .int) [] ({ frames := 0, cells := 0, slots := 0, locals := 0 } : Room) #[(.ref o)] (Q_clna Z o cn h0) := by
  refine enter (plainFor_of_name pn7) ?_
  intro pp ee ss mm below meth cc s₁ hx hby hml hZ hown hnm hret hlk X0 e0 hs0
  replace hown : ss.vm.findClass xS1 = some mm.cls := hown
  refine Go.cast (congrArg s₁.setTop (ef_clna mm o)) ?_
  have N0 := Fr.nil Z.heap.size
  show Go pp ee below _ (s₁.setTop (mkF mm 0 #[.val (.ref o)] []))
  refine Go.aloadN X0 hx (hb hby d30_0) rfl rfl (q := 1) rfl ?_
  refine Go.getF X0 hx hZ hown (host := "") (Or.inl (wd102 hw)) Via.refl e0 Fn (hb hby d30_1) (q := 4) rfl ?_
  intro T101 X101 e101
  exact Go.retI X101 hx hret hlk (Or.inl rfl) rfl (hb hby d30_4) e101 (by decide) (by decide) ⟨rfl, N0, rfl⟩
def Q_clnb (Z : State) (o : Addr) (cn : Int32) (h0 : Heap) (vR : Option Value) (hR : Heap) (LR : List Loc) : Prop := vR = some (.int cn) ∧ Fr Z.heap.size LR ∧ hR = h0
theorem clnb (l : Launch) (Z : State) (a0 : Array Value) (hw : ∀ d ∈ tables_1, d.before a0 Z = true) (o : Addr) (cn : Int32) (h0 : Heap) (O0 : Ext Z.heap h0) (Eo : Exa Z h0 o xS4) (Fn : Fld Z h0 o xS1 "count" "I" (.int cn)) :
    Ctr l Z h0 (⟨xS4, "length", "()I"⟩ : MethodName) k29 1 (some .int) [] ({ frames := 1, cells := 0, slots := 0, locals := 12 } : Room) #[(.ref o)] (Q_clnb Z o cn h0) := by
  refine enter (plainFor_of_name pn8) ?_
  intro pp ee ss mm below meth cc s₁ hx hby hml hZ hown hnm hret hlk X0 e0 hs0
  replace hown : ss.vm.findClass xS4 = some mm.cls := hown
  refine Go.cast (congrArg s₁.setTop (ef_clnb mm o)) ?_
  have N0 := Fr.nil Z.heap.size
  show Go pp ee below _ (s₁.setTop (mkF mm 0 #[.val (.ref o)] []))
  refine Go.aloadN X0 hx (hb hby d29_0) rfl rfl (q := 1) rfl ?_
  refine Go.sup X0 hx hZ hown (wd170 hw) (own_sameM (x' := (⟨xS1, "ensureCapacityInternal", "(I)V"⟩ : MethodName)) (z' := (⟨xS1, "ensureCapacityInternal", "(I)V"⟩ : MethodName)) (y := (⟨xS1, "length", "()I"⟩ : MethodName)) (wd107 hw) rfl (wd166 hw) (by decide)) (wd166 hw) (wd98 hw) (by decide) (wd82 hw) (wd171 hw) (clna l Z a0 hw o cn h0 O0 Fn) e0 Eo (by rw [hml]; rfl) (hb hby d29_1) (argsL := []) (rest := []) (lenOf pd10 rfl) rfl rfl (W := 0) (by first | exact Nat.le_refl _ | decide) (by decide) (by decide) (by decide) (by decide) ?_
  intro v101 T101 L101 X101 hQ101
  obtain ⟨rfl, N101q, e101⟩ := hQ101
  have N101 := Fr.app N0 N101q
  exact Go.retI X101 hx hret hlk (Or.inl rfl) rfl (hb hby d29_4) e101 (by decide) (by decide) ⟨rfl, N101, rfl⟩
def Q_ccan (Z : State) (c : Int32) (h0 : Heap) (vR : Option Value) (hR : Heap) (LR : List Loc) : Prop := vR = some (.int 1) ∧ Fr Z.heap.size LR ∧ hR = h0
theorem ccan (l : Launch) (Z : State) (a0 : Array Value) (hw : ∀ d ∈ tables_1, d.before a0 Z = true) (c : Int32) (h0 : Heap) (O0 : Ext Z.heap h0) (hc : ¬ ((255 : Int32) < c)) :
    Ctr l Z h0 (⟨"java/lang/StringLatin1", "canEncode", "(C)Z"⟩ : MethodName) k24 1 (some .boolean) [] ({ frames := 0, cells := 0, slots := 0, locals := 0 } : Room) #[(.int c)] (Q_ccan Z c h0) := by
  refine enter (plainFor_of_name pn4) ?_
  intro pp ee ss mm below meth cc s₁ hx hby hml hZ hown hnm hret hlk X0 e0 hs0
  replace hown : ss.vm.findClass "java/lang/StringLatin1" = some mm.cls := hown
  refine Go.cast (congrArg s₁.setTop (ef_ccan mm c)) ?_
  have N0 := Fr.nil Z.heap.size
  show Go pp ee below _ (s₁.setTop (mkF mm 0 #[.val (.int c)] []))
  refine Go.iloadN X0 hx (hb hby d24_0) rfl (q := 1) rfl ?_
  refine Go.sipush X0 hx (hb hby d24_1) (r := (255 : Int32)) rfl (q := 4) rfl ?_
  refine Go.icmpNo X0 hx (hb hby d24_4) (Jvm.Free.XT.ii_gt_f hc) (q := 7) rfl ?_
  refine Go.iconst X0 hx (hb hby d24_7) (r := (1 : Int32)) rfl (q := 8) rfl ?_
  refine Go.goto X0 hx (hb hby d24_8) (q := 12) (by decide) (by decide) ?_
  exact Go.retI X0 hx hret hlk (by simp) rfl (hb hby d24_12) e0 (by decide) (by decide) ⟨rfl, N0, rfl⟩
def Q_cchl (Z : State) (pa pb : Int32) (h0 : Heap) (vR : Option Value) (hR : Heap) (LR : List Loc) : Prop := vR = none ∧ Fr Z.heap.size LR ∧ hR = h0
theorem cchl (l : Launch) (Z : State) (a0 : Array Value) (hw : ∀ d ∈ tables_1, d.before a0 Z = true) (pa pb : Int32) (h0 : Heap) (O0 : Ext Z.heap h0) (h : ¬ (pb < pa)) :
    Ctr l Z h0 (⟨"java/util/Arrays", "checkLength", "(II)V"⟩ : MethodName) k33 2 none [] ({ frames := 0, cells := 0, slots := 0, locals := 0 } : Room) #[(.int pa), (.int pb)] (Q_cchl Z pa pb h0) := by
  refine enter (plainFor_of_name pn9) ?_
  intro pp ee ss mm below meth cc s₁ hx hby hml hZ hown hnm hret hlk X0 e0 hs0
  replace hown : ss.vm.findClass "java/util/Arrays" = some mm.cls := hown
  refine Go.cast (congrArg s₁.setTop (ef_cchl mm pa pb)) ?_
  have N0 := Fr.nil Z.heap.size
  show Go pp ee below _ (s₁.setTop (mkF mm 0 #[.val (.int pa), .val (.int pb)] []))
  refine Go.iloadN X0 hx (hb hby d33_0) rfl (q := 1) rfl ?_
  refine Go.iloadN X0 hx (hb hby d33_1) rfl (q := 2) rfl ?_
  refine Go.icmpYes X0 hx (hb hby d33_2) (Jvm.Free.XT.ii_ge_t h) (q := 37) (by decide) (by decide) ?_
  exact Go.retV X0 hx hret hlk (hb hby d33_37) e0 (by decide) (by decide) ⟨rfl, N0, rfl⟩
def Q_cmin1 (Z : State) (pa pb : Int32) (h0 : Heap) (vR : Option Value) (hR : Heap) (LR : List Loc) : Prop := vR = some (.int pa) ∧ Fr Z.heap.size LR ∧ hR = h0
theorem cmin1 (l : Launch) (Z : State) (a0 : Array Value) (hw : ∀ d ∈ tables_1, d.before a0 Z = true) (pa pb : Int32) (h0 : Heap) (O0 : Ext Z.heap h0) (h : ¬ (pb < pa)) :
    Ctr l Z h0 (⟨"java/lang/Math", "min", "(II)I"⟩ : MethodName) k34 2 (some .int) [] ({ frames := 0, cells := 0, slots := 0, locals := 0 } : Room) #[(.int pa), (.int pb)] (Q_cmin1 Z pa pb h0) := by
  refine enter (Jvm.Free.JP.mathPlain rfl (by decide +kernel)) ?_
  intro pp ee ss mm below meth cc s₁ hx hby hml hZ hown hnm hret hlk X0 e0 hs0
  replace hown : ss.vm.findClass "java/lang/Math" = some mm.cls := hown
  refine Go.cast (congrArg s₁.setTop (ef_cmin1 mm pa pb)) ?_
  have N0 := Fr.nil Z.heap.size
  show Go pp ee below _ (s₁.setTop (mkF mm 0 #[.val (.int pa), .val (.int pb)] []))
  refine Go.iloadN X0 hx (hb hby d34_0) rfl (q := 1) rfl ?_
  refine Go.iloadN X0 hx (hb hby d34_1) rfl (q := 2) rfl ?_
  refine Go.icmpNo X0 hx (hb hby d34_2) (Jvm.Free.XT.ii_gt_f h) (q := 5) rfl ?_
  refine Go.iloadN X0 hx (hb hby d34_5) rfl (q := 6) rfl ?_
  refine Go.goto X0 hx (hb hby d34_6) (q := 10) (by decide) (by decide) ?_
  exact Go.retI X0 hx hret hlk (Or.inl rfl) rfl (hb hby d34_10) e0 (by decide) (by decide) ⟨rfl, N0, rfl⟩
def Q_cmin2 (Z : State) (pa pb : Int32) (h0 : Heap) (vR : Option Value) (hR : Heap) (LR : List Loc) : Prop := vR = some (.int pb) ∧ Fr Z.heap.size LR ∧ hR = h0
theorem cmin2 (l : Launch) (Z : State) (a0 : Array Value) (hw : ∀ d ∈ tables_1, d.before a0 Z = true) (pa pb : Int32) (h0 : Heap) (O0 : Ext Z.heap h0) (h : pb < pa) :
    Ctr l Z h0 (⟨"java/lang/Math", "min", "(II)I"⟩ : MethodName) k34 2 (some .int) [] ({ frames := 0, cells := 0, slots := 0, locals := 0 } : Room) #[(.int pa), (.int pb)] (Q_cmin2 Z pa pb h0) := by
  refine enter (Jvm.Free.JP.mathPlain rfl (by decide +kernel)) ?_
  intro pp ee ss mm below meth cc s₁ hx hby hml hZ hown hnm hret hlk X0 e0 hs0
  replace hown : ss.vm.findClass "java/lang/Math" = some mm.cls := hown
  refine Go.cast (congrArg s₁.setTop (ef_cmin2 mm pa pb)) ?_
  have N0 := Fr.nil Z.heap.size
  show Go pp ee below _ (s₁.setTop (mkF mm 0 #[.val (.int pa), .val (.int pb)] []))
  refine Go.iloadN X0 hx (hb hby d34_0) rfl (q := 1) rfl ?_
  refine Go.iloadN X0 hx (hb hby d34_1) rfl (q := 2) rfl ?_
  refine Go.icmpYes X0 hx (hb hby d34_2) (Jvm.Free.XT.ii_gt_t h) (q := 9) (by decide) (by decide) ?_
  refine Go.iloadN X0 hx (hb hby d34_9) rfl (q := 10) rfl ?_
  exact Go.retI X0 hx hret hlk (Or.inl rfl) rfl (hb hby d34_10) e0 (by decide) (by decide) ⟨rfl, N0, rfl⟩
def Q_cgb (Z : State) (t u v : Addr) (cs cp : Int32) (kv ku : ClassId) (ct ln : Int32) (us ds ot : List Value) (h0 : Heap) (vR : Option Value) (hR : Heap) (LR : List Loc) : Prop := vR = none ∧ Fr Z.heap.size LR ∧ Keep h0 hR [v] ∧ Arv Z hR v kv .byte cp ot (.int 0)
theorem cgb (l : Launch) (Z : State) (a0 : Array Value) (hw : ∀ d ∈ tables_1, d.before a0 Z = true) (t u v : Addr) (cs cp : Int32) (kv ku : ClassId) (ct ln : Int32) (us ds ot : List Value) (h0 : Heap) (O0 : Ext Z.heap h0) (Et : Exa Z h0 t xS0) (Ct : Fld Z h0 t xS0 "coder" "B" (.int 0)) (Ft : Fld Z h0 t xS0 "value" "[B" (.ref u)) (Vu : Arv Z h0 u ku .byte ln us (.int 0)) (Vv : Arv Z h0 v kv .byte cp ds (.int 0)) (g_v : Z.heap.size ≤ v) (SCS : Sta Z Z.heap xS0 xS3 "Z" (.int cs)) (hcs : ¬ (cs = (0 : Int32))) (hcp : Cpy (0 : Int32) ct ln ln cp us ds us ot) :
    Ctr l Z h0 (⟨xS0, "getBytes", "([BIB)V"⟩ : MethodName) k20 4 none [] ({ frames := 1, cells := 0, slots := 0, locals := 18 } : Room) #[(.ref t), (.ref v), (.int ct), (.int 0)] (Q_cgb Z t u v cs cp kv ku ct ln us ds ot h0) := by
  refine enter (plainFor_of_name pn1) ?_
  intro pp ee ss mm below meth cc s₁ hx hby hml hZ hown hnm hret hlk X0 e0 hs0
  replace hown : ss.vm.findClass xS0 = some mm.cls := hown
  refine Go.cast (congrArg s₁.setTop (ef_cgb mm t v ct)) ?_
  have N0 := Fr.nil Z.heap.size
  have KP := Keep.refl h0 [v]
  show Go pp ee below _ (s₁.setTop (mkF mm 0 #[.val (.ref t), .val (.ref v), .val (.int ct), .val (.int 0)] []))
  refine Go.aloadN X0 hx (hb hby d20_0) rfl rfl (q := 1) rfl ?_
  refine Go.virt X0 hx hZ hown (wd46 hw) (wd47 hw) (notFace_of_selects (args := #[]) (mvT hZ (wd49 hw))) (wd49 hw) (wd48 hw) (wd8 hw) (wd50 hw) (by decide) (ccoder l Z a0 hw t cs h0 O0 Ct SCS hcs) e0 Et (by rw [hml]; rfl) (hb hby d20_1) (argsL := []) (rest := []) (lenOf pd4 rfl) rfl rfl (W := 0) (by first | exact Nat.le_refl _ | decide) (by decide) (by decide) (by decide) (by decide) ?_
  intro v101 T101 L101 X101 hQ101
  obtain ⟨rfl, N101q, e101⟩ := hQ101
  have N101 := Fr.app N0 N101q
  refine Go.iloadN X101 hx (hb hby d20_4) rfl (q := 5) rfl ?_
  refine Go.icmpNo X101 hx (hb hby d20_5) (by decide) (q := 8) rfl ?_
  refine Go.aloadN X101 hx (hb hby d20_8) rfl rfl (q := 9) rfl ?_
  refine Go.getF X101 hx hZ hown (host := "") (Or.inl (wd25 hw)) Via.refl e101 Ft (hb hby d20_9) (q := 12) rfl ?_
  intro T102 X102 e102
  refine Go.iconst X102 hx (hb hby d20_12) (r := (0 : Int32)) rfl (q := 13) rfl ?_
  refine Go.aloadN X102 hx (hb hby d20_13) rfl rfl (q := 14) rfl ?_
  refine Go.iloadN X102 hx (hb hby d20_14) rfl (q := 15) rfl ?_
  refine Go.iloadN X102 hx (hb hby d20_15) rfl (q := 16) rfl ?_
  refine Go.ishl X102 hx (hb hby d20_16) rfl (q := 17) rfl ?_
  rw [own_shl0 ct]
  show Go pp ee below _ (T102.setTop (mkF mm 17 #[.val (.ref t), .val (.ref v), .val (.int ct), .val (.int 0)] [(.int ct), (.ref v), (.int 0), (.ref u)]))
  refine Go.aloadN X102 hx (hb hby d20_17) rfl rfl (q := 18) rfl ?_
  refine Go.getF X102 hx hZ hown (host := "") (Or.inl (wd25 hw)) Via.refl e102 Ft (hb hby d20_18) (q := 21) rfl ?_
  intro T103 X103 e103
  refine Go.alen X103 hx hZ e103 Vu (hb hby d20_21) ?_
  obtain ⟨T104, h104, L104, X104, e104, N104, K104, V104, st104⟩ := cpA X103 hx hZ hown (wd125 hw) (wd128 hw) (wd126 hw) (wd127 hw) e103 Vu Vv (us := us) (sp := (0 : Int32)) (dp := ct) (nn := ln) (Or.inl ⟨rfl, rfl⟩) hcp.1.1 hcp.1.2.1 hcp.1.2.2 hcp.2.1 hcp.2.2.1 hcp.2.2.2.1 hcp.2.2.2.2.1 N101 g_v (g := (mkF mm 22 #[.val (.ref t), .val (.ref v), .val (.int ct), .val (.int 0)] [(.int ln), (.int ct), (.ref v), (.int 0), (.ref u)])) rfl (by rw [hml]; rfl) rfl (hb hby d20_22) (by decide) (W := 0) (by show 2 * 0 + _ ≤ _; exact Nat.le_of_eq rfl) (by decide)
  refine Go.by st104 ?_
  replace Et := Et.keep K104
  have OK104 := ext_keep O0 K104 (allS g_v all0)
  replace KP := KP.trans K104 (allS (Or.inl (List.mem_of_getElem? (i := 0) rfl)) all0)
  rw [hcp.2.2.2.2.2] at V104
  show Go pp ee below _ (T104.setTop (mkF mm 25 #[.val (.ref t), .val (.ref v), .val (.int ct), .val (.int 0)] []))
  refine Go.goto X104 hx (hb hby d20_25) (q := 43) (by decide) (by decide) ?_
  exact Go.retV X104 hx hret hlk (hb hby d20_43) e104 (by decide) (by decide) ⟨rfl, N104, KP, V104⟩
def Q_cps (Z : State) (o t u v : Addr) (cs cp : Int32) (kv ku : ClassId) (ct ln : Int32) (us ds ot : List Value) (h0 : Heap) (vR : Option Value) (hR : Heap) (LR : List Loc) : Prop := vR = none ∧ Fr Z.heap.size LR ∧ Keep h0 hR [v] ∧ Arv Z hR v kv .byte cp ot (.int 0)
theorem cps (l : Launch) (Z : State) (a0 : Array Value) (hw : ∀ d ∈ tables_1, d.before a0 Z = true) (o t u v : Addr) (cs cp : Int32) (kv ku : ClassId) (ct ln : Int32) (us ds ot : List Value) (h0 : Heap) (O0 : Ext Z.heap h0) (Eo : Exa Z h0 o xS4) (F0 : Fld Z h0 o xS1 "value" "[B" (.ref v)) (F1 : Fld Z h0 o xS1 "coder" "B" (.int 0)) (F2 : Fld Z h0 o xS1 "count" "I" (.int ct)) (Vv : Arv Z h0 v kv .byte cp ds (.int 0)) (g_v : Z.heap.size ≤ v) (g_o : Z.heap.size ≤ o) (nov : o ≠ v) (Et : Exa Z h0 t xS0) (Ct : Fld Z h0 t xS0 "coder" "B" (.int 0)) (Ft : Fld Z h0 t xS0 "value" "[B" (.ref u)) (Vu : Arv Z h0 u ku .byte ln us (.int 0)) (SCS : Sta Z Z.heap xS0 xS3 "Z" (.int cs)) (hcs : ¬ (cs = (0 : Int32))) (hcp : Cpy (0 : Int32) ct ln ln cp us ds us ot) :
    Ctr l Z h0 (⟨xS1, "putStringAt", "(ILjava/lang/String;)V"⟩ : MethodName) k18 3 none [] ({ frames := 2, cells := 0, slots := 0, locals := 33 } : Room) #[(.ref o), (.int ct), (.ref t)] (Q_cps Z o t u v cs cp kv ku ct ln us ds ot h0) := by
  refine enter (plainFor_of_name pn7) ?_
  intro pp ee ss mm below meth cc s₁ hx hby hml hZ hown hnm hret hlk X0 e0 hs0
  replace hown : ss.vm.findClass xS1 = some mm.cls := hown
  refine Go.cast (congrArg s₁.setTop (ef_cps mm o ct t)) ?_
  have N0 := Fr.nil Z.heap.size
  have KP := Keep.refl h0 [v]
  show Go pp ee below _ (s₁.setTop (mkF mm 0 #[.val (.ref o), .val (.int ct), .val (.ref t)] []))
  refine Go.aloadN X0 hx (hb hby d18_0) rfl rfl (q := 1) rfl ?_
  refine Go.aloadN X0 hx (hb hby d18_1) rfl rfl (q := 2) rfl ?_
  refine Go.priv X0 hx hZ hown (wd114 hw) (wd115 hw) (own_selp (x' := (⟨xS1, "ensureCapacityInternal", "(I)V"⟩ : MethodName)) (y' := (⟨xS1, "ensureCapacityInternal", "(I)V"⟩ : MethodName)) (y := (⟨xS1, "inflateIfNeededFor", "(Ljava/lang/String;)V"⟩ : MethodName)) (wd107 hw) rfl (wd115 hw) (wd116 hw) (by decide)) (wd116 hw) (wd82 hw) (wd118 hw) (by decide) (cinf l Z a0 hw o t cs h0 O0 F1 Et Ct SCS hcs) e0 Eo (by rw [hml]; rfl) (hb hby d18_2) (argsL := [(.ref t)]) (rest := []) (lenOf pd15 rfl) rfl rfl (W := 0) (by first | exact Nat.le_refl _ | decide) (by decide) (by decide) (by decide) (by decide) ?_
  intro v101 T101 L101 X101 hQ101
  obtain ⟨rfl, N101q, e101⟩ := hQ101
  have N101 := Fr.app N0 N101q
  refine Go.aloadN X101 hx (hb hby d18_5) rfl rfl (q := 6) rfl ?_
  refine Go.aloadN X101 hx (hb hby d18_6) rfl rfl (q := 7) rfl ?_
  refine Go.getF X101 hx hZ hown (host := "") (Or.inl (wd86 hw)) Via.refl e101 F0 (hb hby d18_7) (q := 10) rfl ?_
  intro T102 X102 e102
  refine Go.iloadN X102 hx (hb hby d18_10) rfl (q := 11) rfl ?_
  refine Go.aloadN X102 hx (hb hby d18_11) rfl rfl (q := 12) rfl ?_
  refine Go.getF X102 hx hZ hown (host := "") (Or.inl (wd88 hw)) Via.refl e102 F1 (hb hby d18_12) (q := 15) rfl ?_
  intro T103 X103 e103
  refine Go.virt X103 hx hZ hown (wd120 hw) (wd121 hw) (notFace_of_selects (args := #[]) (mvT hZ (wd123 hw))) (wd123 hw) (wd122 hw) (wd8 hw) (wd124 hw) (by decide) (cgb l Z a0 hw t u v cs cp (kv) (ku) ct ln (us) (ds) (ot) h0 O0 Et Ct Ft Vu Vv g_v SCS hcs hcp) e103 Et (by rw [hml]; rfl) (hb hby d18_15) (argsL := [(.ref v), (.int ct), (.int 0)]) (rest := []) (lenOf pd16 rfl) rfl rfl (W := 0) (by first | exact Nat.le_refl _ | decide) (by decide) (by decide) (by decide) (by decide) ?_
  intro v104 T104 L104 X104 hQ104
  obtain ⟨h104, e104⟩ : ∃ z, T104.heap = z := ⟨_, rfl⟩
  rw [e104] at hQ104
  obtain ⟨rfl, N104q, K104, P104_0⟩ := hQ104
  have N104 := Fr.app N101 N104q
  replace Eo := Eo.keep K104
  replace F0 := F0.keep K104 (ninS nov nin0)
  replace F1 := F1.keep K104 (ninS nov nin0)
  replace F2 := F2.keep K104 (ninS nov nin0)
  replace Et := Et.keep K104
  have OK104 := ext_keep O0 K104 (allS g_v all0)
  replace KP := KP.trans K104 (allS (Or.inl (List.mem_of_getElem? (i := 0) rfl)) all0)
  exact Go.retV X104 hx hret hlk (hb hby d18_18) e104 (by decide) (by decide) ⟨rfl, N104, KP, P104_0⟩
def Q_caa (Z : State) (o t u v : Addr) (cs cp : Int32) (kv ku : ClassId) (ct ln : Int32) (us ds ot : List Value) (h0 : Heap) (vR : Option Value) (hR : Heap) (LR : List Loc) : Prop := vR = some (.ref o) ∧ Fr Z.heap.size LR ∧ Keep h0 hR [o, v] ∧ Fld Z hR o xS1 "value" "[B" (.ref v) ∧ Fld Z hR o xS1 "coder" "B" (.int 0) ∧ Fld Z hR o xS1 "count" "I" (.int (ct + ln)) ∧ Arv Z hR v kv .byte cp ot (.int 0)
theorem caa (l : Launch) (Z : State) (a0 : Array Value) (hw : ∀ d ∈ tables_1, d.before a0 Z = true) (o t u v : Addr) (cs cp : Int32) (kv ku : ClassId) (ct ln : Int32) (us ds ot : List Value) (h0 : Heap) (O0 : Ext Z.heap h0) (Eo : Exa Z h0 o xS4) (F0 : Fld Z h0 o xS1 "value" "[B" (.ref v)) (F1 : Fld Z h0 o xS1 "coder" "B" (.int 0)) (F2 : Fld Z h0 o xS1 "count" "I" (.int ct)) (Vv : Arv Z h0 v kv .byte cp ds (.int 0)) (g_v : Z.heap.size ≤ v) (g_o : Z.heap.size ≤ o) (nov : o ≠ v) (Et : Exa Z h0 t xS0) (Ct : Fld Z h0 t xS0 "coder" "B" (.int 0)) (Ft : Fld Z h0 t xS0 "value" "[B" (.ref u)) (Vu : Arv Z h0 u ku .byte ln us (.int 0)) (SCS : Sta Z Z.heap xS0 xS3 "Z" (.int cs)) (hcs : ¬ (cs = (0 : Int32))) (hcp : Cpy (0 : Int32) ct ln ln cp us ds us ot) (hcap : ¬ ((0 : Int32) < ((ct + ln) - cp))) :
    Ctr l Z h0 (⟨xS1, "append", "(Ljava/lang/String;)Ljava/lang/AbstractStringBuilder;"⟩ : MethodName) k16 3 (some (.object xS1)) [] ({ frames := 3, cells := 0, slots := 0, locals := 47 } : Room) #[(.ref o), (.ref t)] (Q_caa Z o t u v cs cp kv ku ct ln us ds ot h0) := by
  refine enter (plainFor_of_name pn7) ?_
  intro pp ee ss mm below meth cc s₁ hx hby hml hZ hown hnm hret hlk X0 e0 hs0
  replace hown : ss.vm.findClass xS1 = some mm.cls := hown
  refine Go.cast (congrArg s₁.setTop (ef_caa mm o t)) ?_
  have N0 := Fr.nil Z.heap.size
  have KP := Keep.refl h0 [o, v]
  show Go pp ee below _ (s₁.setTop (mkF mm 0 #[.val (.ref o), .val (.ref t), .unset] []))
  refine Go.aloadN X0 hx (hb hby d16_0) rfl rfl (q := 1) rfl ?_
  refine Go.ifnonnullYes X0 hx (hb hby d16_1) (q := 9) (by decide) (by decide) ?_
  refine Go.aloadN X0 hx (hb hby d16_9) rfl rfl (q := 10) rfl ?_
  refine Go.virt X0 hx hZ hown (wd101 hw) (wd42 hw) (notFace_of_selects (args := #[]) (mvT hZ (wd44 hw))) (wd44 hw) (wd43 hw) (wd8 hw) (wd45 hw) (by decide) (clen l Z a0 hw t cs u (ku) ln (us) h0 O0 Et Ct Ft Vu SCS hcs) e0 Et (by rw [hml]; rfl) (hb hby d16_10) (argsL := []) (rest := []) (lenOf pd10 rfl) rfl rfl (W := 0) (by first | exact Nat.le_refl _ | decide) (by decide) (by decide) (by decide) (by decide) ?_
  intro v101 T101 L101 X101 hQ101
  obtain ⟨rfl, N101q, e101⟩ := hQ101
  have N101 := Fr.app N0 N101q
  refine Go.istoreN X101 hx (hb hby d16_13) (l' := #[.val (.ref o), .val (.ref t), .val (.int ln)]) rfl (q := 14) rfl ?_
  refine Go.aloadN X101 hx (hb hby d16_14) rfl rfl (q := 15) rfl ?_
  refine Go.aloadN X101 hx (hb hby d16_15) rfl rfl (q := 16) rfl ?_
  refine Go.getF X101 hx hZ hown (host := "") (Or.inl (wd102 hw)) Via.refl e101 F2 (hb hby d16_16) (q := 19) rfl ?_
  intro T102 X102 e102
  refine Go.iloadN X102 hx (hb hby d16_19) rfl (q := 20) rfl ?_
  refine Go.iadd X102 hx (hb hby d16_20) rfl (q := 21) rfl ?_
  refine Go.priv X102 hx hZ hown (wd104 hw) (wd105 hw) (own_selp (x' := (⟨xS1, "ensureCapacityInternal", "(I)V"⟩ : MethodName)) (y' := (⟨xS1, "ensureCapacityInternal", "(I)V"⟩ : MethodName)) (y := (⟨xS1, "ensureCapacityInternal", "(I)V"⟩ : MethodName)) (wd107 hw) rfl (wd105 hw) (wd106 hw) (by decide)) (wd106 hw) (wd82 hw) (wd108 hw) (by decide) (cens l Z a0 hw o ((ct + ln)) cp v (kv) (ds) h0 O0 F0 F1 Vv hcap) e102 Eo (by rw [hml]; rfl) (hb hby d16_21) (argsL := [(.int (ct + ln))]) (rest := []) (lenOf pd14 rfl) rfl rfl (W := 0) (by first | exact Nat.le_refl _ | decide) (by decide) (by decide) (by decide) (by decide) ?_
  intro v103 T103 L103 X103 hQ103
  obtain ⟨rfl, N103q, e103⟩ := hQ103
  have N103 := Fr.app N101 N103q
  refine Go.aloadN X103 hx (hb hby d16_24) rfl rfl (q := 25) rfl ?_
  refine Go.aloadN X103 hx (hb hby d16_25) rfl rfl (q := 26) rfl ?_
  refine Go.getF X103 hx hZ hown (host := "") (Or.inl (wd102 hw)) Via.refl e103 F2 (hb hby d16_26) (q := 29) rfl ?_
  intro T104 X104 e104
  refine Go.aloadN X104 hx (hb hby d16_29) rfl rfl (q := 30) rfl ?_
  refine Go.priv X104 hx hZ hown (wd109 hw) (wd110 hw) (own_selp (x' := (⟨xS1, "ensureCapacityInternal", "(I)V"⟩ : MethodName)) (y' := (⟨xS1, "ensureCapacityInternal", "(I)V"⟩ : MethodName)) (y := (⟨xS1, "putStringAt", "(ILjava/lang/String;)V"⟩ : MethodName)) (wd107 hw) rfl (wd110 hw) (wd111 hw) (by decide)) (wd111 hw) (wd82 hw) (wd113 hw) (by decide) (cps l Z a0 hw o t u v cs cp (kv) (ku) ct ln (us) (ds) (ot) h0 O0 Eo F0 F1 F2 Vv g_v g_o nov Et Ct Ft Vu SCS hcs hcp) e104 Eo (by rw [hml]; rfl) (hb hby d16_30) (argsL := [(.int ct), (.ref t)]) (rest := []) (lenOf pd17 rfl) rfl rfl (W := 0) (by first | exact Nat.le_refl _ | decide) (by decide) (by decide) (by decide) (by decide) ?_
  intro v105 T105 L105 X105 hQ105
  obtain ⟨h105, e105⟩ : ∃ z, T105.heap = z := ⟨_, rfl⟩
  rw [e105] at hQ105
  obtain ⟨rfl, N105q, K105, P105_0⟩ := hQ105
  have N105 := Fr.app N103 N105q
  replace Eo := Eo.keep K105
  replace F0 := F0.keep K105 (ninS nov nin0)
  replace F1 := F1.keep K105 (ninS nov nin0)
  replace F2 := F2.keep K105 (ninS nov nin0)
  replace Et := Et.keep K105
  have OK105 := ext_keep O0 K105 (allS g_v all0)
  replace KP := KP.trans K105 (allS (Or.inl (List.mem_of_getElem? (i := 1) rfl)) all0)
  refine Go.aloadN X105 hx (hb hby d16_33) rfl rfl (q := 34) rfl ?_
  refine Go.dup X105 hx (hb hby d16_34) rfl (q := 35) rfl ?_
  refine Go.getF X105 hx hZ hown (host := "") (Or.inl (wd102 hw)) Via.refl e105 F2 (hb hby d16_35) (q := 38) rfl ?_
  intro T106 X106 e106
  refine Go.iloadN X106 hx (hb hby d16_38) rfl (q := 39) rfl ?_
  refine Go.iadd X106 hx (hb hby d16_39) rfl (q := 40) rfl ?_
  refine Go.putF X106 hx hZ hown (host := "") (Or.inl (wd102 hw)) Via.refl e106 F2 Eo (Or.inl (wd103 hw)) (wd73 hw) (ty := .int) (by decide) rfl rfl (hb hby d16_40) (q := 43) rfl ?_
  intro T107 h107 X107 e107 W107 F107
  have N107 := Fr.snoc X107 N105 g_o
  replace Eo := Eo.wr W107
  replace F0 := F0.other W107 (Or.inr (slot_ne (Or.inl (wd87 hw)) (Or.inl (wd103 hw)) (by decide) (t := (.array .byte)) (t' := .int) (by decide) (by decide)))
  replace F1 := F1.other W107 (Or.inr (slot_ne (Or.inl (wd89 hw)) (Or.inl (wd103 hw)) (by decide) (t := .byte) (t' := .int) (by decide) (by decide)))
  replace Et := Et.wr W107
  replace P105_0 := P105_0.other W107 (Ne.symm nov)
  have OW107 := ext_wr OK105 W107 g_o
  replace KP := KP.wr W107 (Or.inl (List.mem_of_getElem? (i := 0) rfl))
  refine Go.aloadN X107 hx (hb hby d16_43) rfl rfl (q := 44) rfl ?_
  exact Go.retA X107 hx hret hlk rfl rfl (hb hby d16_44) e107 (by decide) (by decide) ⟨rfl, N107, KP, F0, F1, F107, P105_0⟩
def Q_cab (Z : State) (o t u v : Addr) (cs cp : Int32) (kv ku : ClassId) (ct ln : Int32) (us ds ot : List Value) (h0 : Heap) (vR : Option Value) (hR : Heap) (LR : List Loc) : Prop := vR = some (.ref o) ∧ Fr Z.heap.size LR ∧ Keep h0 hR [o, v] ∧ Fld Z hR o xS1 "value" "[B" (.ref v) ∧ Fld Z hR o xS1 "coder" "B" (.int 0) ∧ Fld Z hR o xS1 "count" "I" (.int (ct + ln)) ∧ Arv Z hR v kv .byte cp ot (.int 0)
theorem cab (l : Launch) (Z : State) (a0 : Array Value) (hw : ∀ d ∈ tables_1, d.before a0 Z = true) (o t u v : Addr) (cs cp : Int32) (kv ku : ClassId) (ct ln : Int32) (us ds ot : List Value) (h0 : Heap) (O0 : Ext Z.heap h0) (Eo : Exa Z h0 o xS4) (F0 : Fld Z h0 o xS1 "value" "[B" (.ref v)) (F1 : Fld Z h0 o xS1 "coder" "B" (.int 0)) (F2 : Fld Z h0 o xS1 "count" "I" (.int ct)) (Vv : Arv Z h0 v kv .byte cp ds (.int 0)) (g_v : Z.heap.size ≤ v) (g_o : Z.heap.size ≤ o) (nov : o ≠ v) (Et : Exa Z h0 t xS0) (Ct : Fld Z h0 t xS0 "coder" "B" (.int 0)) (Ft : Fld Z h0 t xS0 "value" "[B" (.ref u)) (Vu : Arv Z h0 u ku .byte ln us (.int 0)) (SCS : Sta Z Z.heap xS0 xS3 "Z" (.int cs)) (hcs : ¬ (cs = (0 : Int32))) (hcp : Cpy (0 : Int32) ct ln ln cp us ds us ot) (hcap : ¬ ((0 : Int32) < ((ct + ln) - cp))) :
    Ctr l Z h0 (⟨xS4, "append", "(Ljava/lang/String;)Ljava/lang/StringBuilder;"⟩ : MethodName) k15 2 (some (.object xS4)) [] ({ frames := 4, cells := 0, slots := 0, locals := 61 } : Room) #[(.ref o), (.ref t)] (Q_cab Z o t u v cs cp kv ku ct ln us ds ot h0) := by
  refine enter (plainFor_of_name pn8) ?_
  intro pp ee ss mm below meth cc s₁ hx hby hml hZ hown hnm hret hlk X0 e0 hs0
  replace hown : ss.vm.findClass xS4 = some mm.cls := hown
  refine Go.cast (congrArg s₁.setTop (ef_cab mm o t)) ?_
  have N0 := Fr.nil Z.heap.size
  have KP := Keep.refl h0 [o, v]
  show Go pp ee below _ (s₁.setTop (mkF mm 0 #[.val (.ref o), .val (.ref t)] []))
  refine Go.aloadN X0 hx (hb hby d15_0) rfl rfl (q := 1) rfl ?_
  refine Go.aloadN X0 hx (hb hby d15_1) rfl rfl (q := 2) rfl ?_
  refine Go.sup X0 hx hZ hown (wd96 hw) (own_sameM (x' := (⟨xS1, "ensureCapacityInternal", "(I)V"⟩ : MethodName)) (z' := (⟨xS1, "ensureCapacityInternal", "(I)V"⟩ : MethodName)) (y := (⟨xS1, "append", "(Ljava/lang/String;)Ljava/lang/AbstractStringBuilder;"⟩ : MethodName)) (wd107 hw) rfl (wd97 hw) (by decide)) (wd97 hw) (wd98 hw) (by decide) (wd82 hw) (wd100 hw) (caa l Z a0 hw o t u v cs cp (kv) (ku) ct ln (us) (ds) (ot) h0 O0 Eo F0 F1 F2 Vv g_v g_o nov Et Ct Ft Vu SCS hcs hcp hcap) e0 Eo (by rw [hml]; rfl) (hb hby d15_2) (argsL := [(.ref t)]) (rest := []) (lenOf pd18 rfl) rfl rfl (W := 0) (by first | exact Nat.le_refl _ | decide) (by decide) (by decide) (by decide) (by decide) ?_
  intro v101 T101 L101 X101 hQ101
  obtain ⟨h101, e101⟩ : ∃ z, T101.heap = z := ⟨_, rfl⟩
  rw [e101] at hQ101
  obtain ⟨rfl, N101q, K101, P101_0, P101_1, P101_2, P101_3⟩ := hQ101
  have N101 := Fr.app N0 N101q
  replace Eo := Eo.keep K101
  replace Et := Et.keep K101
  have OK101 := ext_keep O0 K101 (allS g_o (allS g_v all0))
  replace KP := KP.trans K101 (allS (Or.inl (List.mem_of_getElem? (i := 0) rfl)) (allS (Or.inl (List.mem_of_getElem? (i := 1) rfl)) all0))
  refine Go.pop X101 hx (hb hby d15_5) rfl (q := 6) rfl ?_
  refine Go.aloadN X101 hx (hb hby d15_6) rfl rfl (q := 7) rfl ?_
  exact Go.retA X101 hx hret hlk rfl rfl (hb hby d15_7) e101 (by decide) (by decide) ⟨rfl, N101, KP, P101_0, P101_1, P101_2, P101_3⟩
def Q_cca (Z : State) (o v : Addr) (cs cp : Int32) (kv : ClassId) (ct : Int32) (ds ot : List Value) (h0 : Heap) (vR : Option Value) (hR : Heap) (LR : List Loc) : Prop := vR = some (.ref o) ∧ Fr Z.heap.size LR ∧ Keep h0 hR [o, v] ∧ Fld Z hR o xS1 "value" "[B" (.ref v) ∧ Fld Z hR o xS1 "coder" "B" (.int 0) ∧ Fld Z hR o xS1 "count" "I" (.int (ct + (1 : Int32))) ∧ Arv Z hR v kv .byte cp ot (.int 0)
theorem cca (l : Launch) (Z : State) (a0 : Array Value) (hw : ∀ d ∈ tables_1, d.before a0 Z = true) (o v : Addr) (cs cp : Int32) (kv : ClassId) (ct : Int32) (ds ot : List Value) (h0 : Heap) (O0 : Ext Z.heap h0) (Eo : Exa Z h0 o xS4) (F0 : Fld Z h0 o xS1 "value" "[B" (.ref v)) (F1 : Fld Z h0 o xS1 "coder" "B" (.int 0)) (F2 : Fld Z h0 o xS1 "count" "I" (.int ct)) (Vv : Arv Z h0 v kv .byte cp ds (.int 0)) (g_v : Z.heap.size ≤ v) (g_o : Z.heap.size ≤ o) (nov : o ≠ v) (SCS : Sta Z Z.heap xS0 xS3 "Z" (.int cs)) (hcs : ¬ (cs = (0 : Int32))) (hst : Stp ct cp ds (.int 34) ot) (hcap : ¬ ((0 : Int32) < ((ct + (1 : Int32)) - cp))) :
    Ctr l Z h0 (⟨xS1, "append", "(C)Ljava/lang/AbstractStringBuilder;"⟩ : MethodName) k22 2 (some (.object xS1)) [] ({ frames := 1, cells := 0, slots := 0, locals := 14 } : Room) #[(.ref o), (.int 34)] (Q_cca Z o v cs cp kv ct ds ot h0) := by
  refine enter (plainFor_of_name pn7) ?_
  intro pp ee ss mm below meth cc s₁ hx hby hml hZ hown hnm hret hlk X0 e0 hs0
  replace hown : ss.vm.findClass xS1 = some mm.cls := hown
  refine Go.cast (congrArg s₁.setTop (ef_cca mm o)) ?_
  have N0 := Fr.nil Z.heap.size
  have KP := Keep.refl h0 [o, v]
  show Go pp ee below _ (s₁.setTop (mkF mm 0 #[.val (.ref o), .val (.int 34)] []))
  refine Go.aloadN X0 hx (hb hby d22_0) rfl rfl (q := 1) rfl ?_
  refine Go.aloadN X0 hx (hb hby d22_1) rfl rfl (q := 2) rfl ?_
  refine Go.getF X0 hx hZ hown (host := "") (Or.inl (wd102 hw)) Via.refl e0 F2 (hb hby d22_2) (q := 5) rfl ?_
  intro T101 X101 e101
  refine Go.iconst X101 hx (hb hby d22_5) (r := (1 : Int32)) rfl (q := 6) rfl ?_
  refine Go.iadd X101 hx (hb hby d22_6) rfl (q := 7) rfl ?_
  refine Go.priv X101 hx hZ hown (wd104 hw) (wd105 hw) (own_selp (x' := (⟨xS1, "ensureCapacityInternal", "(I)V"⟩ : MethodName)) (y' := (⟨xS1, "ensureCapacityInternal", "(I)V"⟩ : MethodName)) (y := (⟨xS1, "ensureCapacityInternal", "(I)V"⟩ : MethodName)) (wd107 hw) rfl (wd105 hw) (wd106 hw) (by decide)) (wd106 hw) (wd82 hw) (wd108 hw) (by decide) (cens l Z a0 hw o ((ct + (1 : Int32))) cp v (kv) (ds) h0 O0 F0 F1 Vv hcap) e101 Eo (by rw [hml]; rfl) (hb hby d22_7) (argsL := [(.int (ct + (1 : Int32)))]) (rest := []) (lenOf pd14 rfl) rfl rfl (W := 0) (by first | exact Nat.le_refl _ | decide) (by decide) (by decide) (by decide) (by decide) ?_
  intro v102 T102 L102 X102 hQ102
  obtain ⟨rfl, N102q, e102⟩ := hQ102
  have N102 := Fr.app N0 N102q
  refine Go.aloadN X102 hx (hb hby d22_10) rfl rfl (q := 11) rfl ?_
  refine Go.virt X102 hx hZ hown (wd138 hw) (wd139 hw) (notFace_of_selects (args := #[]) (mvT hZ (wd141 hw))) (wd141 hw) (wd140 hw) (wd82 hw) (wd142 hw) (by decide) (csbl l Z a0 hw o cs h0 O0 F1 SCS hcs) e102 Eo (by rw [hml]; rfl) (hb hby d22_11) (argsL := []) (rest := []) (lenOf pd7 rfl) rfl rfl (W := 0) (by first | exact Nat.le_refl _ | decide) (by decide) (by decide) (by decide) (by decide) ?_
  intro v103 T103 L103 X103 hQ103
  obtain ⟨rfl, N103q, e103⟩ := hQ103
  have N103 := Fr.app N102 N103q
  refine Go.ifNo X103 hx (hb hby d22_14) (by decide) (q := 17) rfl ?_
  refine Go.iloadN X103 hx (hb hby d22_17) rfl (q := 18) rfl ?_
  refine Go.callS X103 hx hZ hown (wd143 hw) (wd144 hw) (wd145 hw) (wd146 hw) (by decide) (ccan l Z a0 hw ((34 : Int32)) h0 O0 (by decide)) e103 (by rw [hml]; rfl) (hb hby d22_18) (argsL := [(.int 34)]) (rest := []) (lenOf pd19 rfl) rfl rfl (W := 0) (by first | exact Nat.le_refl _ | decide) (by decide) (by decide) (by decide) (by decide) ?_
  intro v104 T104 L104 X104 hQ104
  obtain ⟨rfl, N104q, e104⟩ := hQ104
  have N104 := Fr.app N103 N104q
  refine Go.ifNo X104 hx (hb hby d22_21) (by decide) (q := 24) rfl ?_
  refine Go.aloadN X104 hx (hb hby d22_24) rfl rfl (q := 25) rfl ?_
  refine Go.getF X104 hx hZ hown (host := "") (Or.inl (wd86 hw)) Via.refl e104 F0 (hb hby d22_25) (q := 28) rfl ?_
  intro T105 X105 e105
  refine Go.aloadN X105 hx (hb hby d22_28) rfl rfl (q := 29) rfl ?_
  refine Go.dup X105 hx (hb hby d22_29) rfl (q := 30) rfl ?_
  refine Go.getF X105 hx hZ hown (host := "") (Or.inl (wd102 hw)) Via.refl e105 F2 (hb hby d22_30) (q := 33) rfl ?_
  intro T106 X106 e106
  refine Go.dup_x1 X106 hx (hb hby d22_33) rfl rfl (q := 34) rfl ?_
  refine Go.iconst X106 hx (hb hby d22_34) (r := (1 : Int32)) rfl (q := 35) rfl ?_
  refine Go.iadd X106 hx (hb hby d22_35) rfl (q := 36) rfl ?_
  refine Go.putF X106 hx hZ hown (host := "") (Or.inl (wd102 hw)) Via.refl e106 F2 Eo (Or.inl (wd103 hw)) (wd73 hw) (ty := .int) (by decide) rfl rfl (hb hby d22_36) (q := 39) rfl ?_
  intro T107 h107 X107 e107 W107 F107
  have N107 := Fr.snoc X107 N104 g_o
  replace Eo := Eo.wr W107
  replace F0 := F0.other W107 (Or.inr (slot_ne (Or.inl (wd87 hw)) (Or.inl (wd103 hw)) (by decide) (t := (.array .byte)) (t' := .int) (by decide) (by decide)))
  replace F1 := F1.other W107 (Or.inr (slot_ne (Or.inl (wd89 hw)) (Or.inl (wd103 hw)) (by decide) (t := .byte) (t' := .int) (by decide) (by decide)))
  replace Vv := Vv.other W107 (Ne.symm nov)
  have OW107 := ext_wr O0 W107 g_o
  replace KP := KP.wr W107 (Or.inl (List.mem_of_getElem? (i := 0) rfl))
  refine Go.iloadN X107 hx (hb hby d22_39) rfl (q := 40) rfl ?_
  refine Go.i2b X107 hx (hb hby d22_40) (r := (34 : Int32)) rfl (q := 41) rfl ?_
  refine Go.bst X107 hx hZ e107 Vv hst.1 (i := ct.toNatClampNeg) rfl hst.2.1 (hb hby d22_41) ?_
  intro T108 h108 X108 e108 W108 V108
  replace V108 : Arv Z h108 v kv .byte cp ot (.int 0) := hst.2.2 ▸ V108
  have N108 := Fr.snoc X108 N107 g_v
  replace Eo := Eo.wr W108
  replace F0 := F0.other W108 (Or.inl nov)
  replace F1 := F1.other W108 (Or.inl nov)
  replace F107 := F107.other W108 (Or.inl nov)
  have OW108 := ext_wr OW107 W108 g_v
  replace KP := KP.wr W108 (Or.inl (List.mem_of_getElem? (i := 1) rfl))
  refine Go.goto X108 hx (hb hby d22_42) (q := 75) (by decide) (by decide) ?_
  refine Go.aloadN X108 hx (hb hby d22_75) rfl rfl (q := 76) rfl ?_
  exact Go.retA X108 hx hret hlk rfl rfl (hb hby d22_76) e108 (by decide) (by decide) ⟨rfl, N108, KP, F0, F1, F107, V108⟩
def Q_ccb (Z : State) (o v : Addr) (cs cp : Int32) (kv : ClassId) (ct : Int32) (ds ot : List Value) (h0 : Heap) (vR : Option Value) (hR : Heap) (LR : List Loc) : Prop := vR = some (.ref o) ∧ Fr Z.heap.size LR ∧ Keep h0 hR [o, v] ∧ Fld Z hR o xS1 "value" "[B" (.ref v) ∧ Fld Z hR o xS1 "coder" "B" (.int 0) ∧ Fld Z hR o xS1 "count" "I" (.int (ct + (1 : Int32))) ∧ Arv Z hR v kv .byte cp ot (.int 0)
theorem ccb (l : Launch) (Z : State) (a0 : Array Value) (hw : ∀ d ∈ tables_1, d.before a0 Z = true) (o v : Addr) (cs cp : Int32) (kv : ClassId) (ct : Int32) (ds ot : List Value) (h0 : Heap) (O0 : Ext Z.heap h0) (Eo : Exa Z h0 o xS4) (F0 : Fld Z h0 o xS1 "value" "[B" (.ref v)) (F1 : Fld Z h0 o xS1 "coder" "B" (.int 0)) (F2 : Fld Z h0 o xS1 "count" "I" (.int ct)) (Vv : Arv Z h0 v kv .byte cp ds (.int 0)) (g_v : Z.heap.size ≤ v) (g_o : Z.heap.size ≤ o) (nov : o ≠ v) (SCS : Sta Z Z.heap xS0 xS3 "Z" (.int cs)) (hcs : ¬ (cs = (0 : Int32))) (hst : Stp ct cp ds (.int 34) ot) (hcap : ¬ ((0 : Int32) < ((ct + (1 : Int32)) - cp))) :
    Ctr l Z h0 (⟨xS4, "append", "(C)Ljava/lang/StringBuilder;"⟩ : MethodName) k21 2 (some (.object xS4)) [] ({ frames := 2, cells := 0, slots := 0, locals := 27 } : Room) #[(.ref o), (.int 34)] (Q_ccb Z o v cs cp kv ct ds ot h0) := by
  refine enter (plainFor_of_name pn8) ?_
  intro pp ee ss mm below meth cc s₁ hx hby hml hZ hown hnm hret hlk X0 e0 hs0
  replace hown : ss.vm.findClass xS4 = some mm.cls := hown
  refine Go.cast (congrArg s₁.setTop (ef_ccb mm o)) ?_
  have N0 := Fr.nil Z.heap.size
  have KP := Keep.refl h0 [o, v]
  show Go pp ee below _ (s₁.setTop (mkF mm 0 #[.val (.ref o), .val (.int 34)] []))
  refine Go.aloadN X0 hx (hb hby d21_0) rfl rfl (q := 1) rfl ?_
  refine Go.iloadN X0 hx (hb hby d21_1) rfl (q := 2) rfl ?_
  refine Go.sup X0 hx hZ hown (wd134 hw) (own_sameM (x' := (⟨xS1, "ensureCapacityInternal", "(I)V"⟩ : MethodName)) (z' := (⟨xS1, "ensureCapacityInternal", "(I)V"⟩ : MethodName)) (y := (⟨xS1, "append", "(C)Ljava/lang/AbstractStringBuilder;"⟩ : MethodName)) (wd107 hw) rfl (wd135 hw) (by decide)) (wd135 hw) (wd98 hw) (by decide) (wd82 hw) (wd137 hw) (cca l Z a0 hw o v cs cp (kv) ct (ds) (ot) h0 O0 Eo F0 F1 F2 Vv g_v g_o nov SCS hcs hst hcap) e0 Eo (by rw [hml]; rfl) (hb hby d21_2) (argsL := [(.int 34)]) (rest := []) (lenOf pd20 rfl) rfl rfl (W := 0) (by first | exact Nat.le_refl _ | decide) (by decide) (by decide) (by decide) (by decide) ?_
  intro v101 T101 L101 X101 hQ101
  obtain ⟨h101, e101⟩ : ∃ z, T101.heap = z := ⟨_, rfl⟩
  rw [e101] at hQ101
  obtain ⟨rfl, N101q, K101, P101_0, P101_1, P101_2, P101_3⟩ := hQ101
  have N101 := Fr.app N0 N101q
  replace Eo := Eo.keep K101
  have OK101 := ext_keep O0 K101 (allS g_o (allS g_v all0))
  replace KP := KP.trans K101 (allS (Or.inl (List.mem_of_getElem? (i := 0) rfl)) (allS (Or.inl (List.mem_of_getElem? (i := 1) rfl)) all0))
  refine Go.pop X101 hx (hb hby d21_5) rfl (q := 6) rfl ?_
  refine Go.aloadN X101 hx (hb hby d21_6) rfl rfl (q := 7) rfl ?_
  exact Go.retA X101 hx hret hlk rfl rfl (hb hby d21_7) e101 (by decide) (by decide) ⟨rfl, N101, KP, P101_0, P101_1, P101_2, P101_3⟩
def Q_ccqb (Z : State) (v : Addr) (cp : Int32) (kv : ClassId) (ct : Int32) (ds us : List Value) (h0 : Heap) (vR : Option Value) (hR : Heap) (LR : List Loc) : Prop := ∃ u : Addr, ∃ ku : ClassId, vR = some (.ref u) ∧ Fr Z.heap.size LR ∧ Keep h0 hR [] ∧ h0.size ≤ u ∧ Arv Z hR u ku .byte ct us (.int 0)
theorem ccqb (l : Launch) (Z : State) (a0 : Array Value) (hw : ∀ d ∈ tables_1, d.before a0 Z = true) (v : Addr) (cp : Int32) (kv : ClassId) (ct : Int32) (ds us : List Value) (h0 : Heap) (O0 : Ext Z.heap h0) (Vv : Arv Z h0 v kv .byte cp ds (.int 0)) (hct : Cut ct cp ds us) :
    Ctr l Z h0 (⟨"java/util/Arrays", "copyOfRangeByte", "([BII)[B"⟩ : MethodName) k32 5 (some (.array .byte)) [] ({ frames := 1, cells := 1, slots := 8, locals := 18 } : Room) #[(.ref v), (.int 0), (.int ct)] (Q_ccqb Z v cp kv ct ds us h0) := by
  refine enter (plainFor_of_name pn9) ?_
  intro pp ee ss mm below meth cc s₁ hx hby hml hZ hown hnm hret hlk X0 e0 hs0
  replace hown : ss.vm.findClass "java/util/Arrays" = some mm.cls := hown
  refine Go.cast (congrArg s₁.setTop (ef_ccqb mm v ct)) ?_
  have N0 := Fr.nil Z.heap.size
  have KP := Keep.refl h0 []
  show Go pp ee below _ (s₁.setTop (mkF mm 0 #[.val (.ref v), .val (.int 0), .val (.int ct), .unset, .unset] []))
  refine Go.iloadN X0 hx (hb hby d32_0) rfl (q := 1) rfl ?_
  refine Go.iloadN X0 hx (hb hby d32_1) rfl (q := 2) rfl ?_
  refine Go.callS X0 hx hZ hown (wd180 hw) (wd181 hw) (wd175 hw) (wd182 hw) (by decide) (cchl l Z a0 hw ((0 : Int32)) ct h0 O0 hct.1.1) e0 (by rw [hml]; rfl) (hb hby d32_2) (argsL := [(.int 0), (.int ct)]) (rest := []) (lenOf pd6 rfl) rfl rfl (W := 0) (by first | exact Nat.le_refl _ | decide) (by decide) (by decide) (by decide) (by decide) ?_
  intro v101 T101 L101 X101 hQ101
  obtain ⟨rfl, N101q, e101⟩ := hQ101
  have N101 := Fr.app N0 N101q
  refine Go.iloadN X101 hx (hb hby d32_5) rfl (q := 6) rfl ?_
  refine Go.iloadN X101 hx (hb hby d32_6) rfl (q := 7) rfl ?_
  refine Go.isub X101 hx (hb hby d32_7) rfl (q := 8) rfl ?_
  rw [own_sub0 ct]
  show Go pp ee below _ (T101.setTop (mkF mm 8 #[.val (.ref v), .val (.int 0), .val (.int ct), .unset, .unset] [(.int ct)]))
  refine Go.istoreN X101 hx (hb hby d32_8) (l' := #[.val (.ref v), .val (.int 0), .val (.int ct), .val (.int ct), .unset]) rfl (q := 9) rfl ?_
  refine Go.iloadN X101 hx (hb hby d32_9) rfl (q := 10) rfl ?_
  refine Go.newP X101 hx hZ (hb hby d32_10) (wd20 hw) e101 hct.1.1 (cap := 8) hct.2.1 (by decide) (by decide) (by decide) (ad := "[B") rfl (q := 12) rfl ?_
  intro b102 T102 h102 k102 X102 e102 q102 E102 V102 B102
  have ne_v_b102 : v ≠ b102 := ne_new Vv.lt (Nat.le_of_eq q102)
  have g_b102 : Z.heap.size ≤ b102 := Nat.le_trans O0.1 (Nat.le_of_eq q102)
  have z_b102 : h0.size ≤ b102 := Nat.le_trans KP.1 (Nat.le_of_eq q102)
  replace Vv := Vv.ext E102
  have OE102 := ext_trans O0 E102
  replace KP := KP.ext E102
  replace V102 : Arv Z h102 b102 k102 .byte ct [(.int 0), (.int 0), (.int 0), (.int 0), (.int 0), (.int 0), (.int 0), (.int 0)] (.int 0) := V102.pad (pad_rep [] (.int 0) 8)
  refine Go.astore X102 hx (hb hby d32_12) rfl (l' := #[.val (.ref v), .val (.int 0), .val (.int ct), .val (.int ct), .val (.ref b102)]) rfl (q := 14) rfl ?_
  refine Go.aloadN X102 hx (hb hby d32_14) rfl rfl (q := 15) rfl ?_
  refine Go.iloadN X102 hx (hb hby d32_15) rfl (q := 16) rfl ?_
  refine Go.aload X102 hx (hb hby d32_16) rfl rfl (q := 18) rfl ?_
  refine Go.iconst X102 hx (hb hby d32_18) (r := (0 : Int32)) rfl (q := 19) rfl ?_
  refine Go.aloadN X102 hx (hb hby d32_19) rfl rfl (q := 20) rfl ?_
  refine Go.alen X102 hx hZ e102 Vv (hb hby d32_20) ?_
  refine Go.iloadN X102 hx (hb hby d32_21) rfl (q := 22) rfl ?_
  refine Go.isub X102 hx (hb hby d32_22) rfl (q := 23) rfl ?_
  rw [own_sub0 cp]
  show Go pp ee below _ (T102.setTop (mkF mm 23 #[.val (.ref v), .val (.int 0), .val (.int ct), .val (.int ct), .val (.ref b102)] [(.int cp), (.int 0), (.ref b102), (.int 0), (.ref v)]))
  refine Go.iloadN X102 hx (hb hby d32_23) rfl (q := 24) rfl ?_
  refine Go.callS X102 hx hZ hown (wd183 hw) (wd184 hw) (wd185 hw) (wd186 hw) (by decide) (cmin2 l Z a0 hw cp ct h102 OE102 hct.1.2) e102 (by rw [hml]; rfl) (hb hby d32_24) (argsL := [(.int cp), (.int ct)]) (rest := [(.int 0), (.ref b102), (.int 0), (.ref v)]) (lenOf pd21 rfl) rfl rfl (W := 4) (by first | exact Nat.le_refl _ | decide) (by decide) (by decide) (by decide) (by decide) ?_
  intro v103 T103 L103 X103 hQ103
  obtain ⟨rfl, N103q, e103⟩ := hQ103
  have N103 := Fr.app N101 N103q
  obtain ⟨T104, h104, L104, X104, e104, N104, K104, V104, st104⟩ := cpA X103 hx hZ hown (wd187 hw) (wd128 hw) (wd126 hw) (wd127 hw) e103 Vv V102 (us := us) (sp := (0 : Int32)) (dp := (0 : Int32)) (nn := ct) (Or.inl ⟨rfl, rfl⟩) (by decide) (by decide) hct.1.1 (own_cutA hct) (own_cutL _) hct.2.2 (own_cutB hct) N103 g_b102 (g := (mkF mm 27 #[.val (.ref v), .val (.int 0), .val (.int ct), .val (.int ct), .val (.ref b102)] [(.int ct), (.int 0), (.ref b102), (.int 0), (.ref v)])) rfl (by rw [hml]; rfl) rfl (hb hby d32_27) (by decide) (W := 0) (by show 2 * 0 + _ ≤ _; exact Nat.le_of_eq rfl) (by decide)
  refine Go.by st104 ?_
  replace Vv := Vv.keep K104 (ninS ne_v_b102 nin0)
  replace B102 := B102.keep K104
  have OK104 := ext_keep OE102 K104 (allS g_b102 all0)
  replace KP := KP.trans K104 (allS (Or.inr z_b102) all0)
  replace V104 : Arv Z h104 b102 k102 .byte ct us (.int 0) := own_cut V104
  show Go pp ee below _ (T104.setTop (mkF mm 30 #[.val (.ref v), .val (.int 0), .val (.int ct), .val (.int ct), .val (.ref b102)] []))
  refine Go.aload X104 hx (hb hby d32_30) rfl rfl (q := 32) rfl ?_
  exact Go.retA X104 hx hret hlk rfl rfl (hb hby d32_32) e104 (by decide) (by decide) ⟨b102, k102, rfl, N104, KP, z_b102, V104⟩
def Q_ccq (Z : State) (v : Addr) (cp : Int32) (kv : ClassId) (ct : Int32) (ds us : List Value) (h0 : Heap) (vR : Option Value) (hR : Heap) (LR : List Loc) : Prop := ∃ u : Addr, ∃ ku : ClassId, vR = some (.ref u) ∧ Fr Z.heap.size LR ∧ Keep h0 hR [] ∧ h0.size ≤ u ∧ Arv Z hR u ku .byte ct us (.int 0)
theorem ccq (l : Launch) (Z : State) (a0 : Array Value) (hw : ∀ d ∈ tables_1, d.before a0 Z = true) (v : Addr) (cp : Int32) (kv : ClassId) (ct : Int32) (ds us : List Value) (h0 : Heap) (O0 : Ext Z.heap h0) (Vv : Arv Z h0 v kv .byte cp ds (.int 0)) (hct : Cut ct cp ds us) :
    Ctr l Z h0 (⟨"java/util/Arrays", "copyOfRange", "([BII)[B"⟩ : MethodName) k31 3 (some (.array .byte)) [] ({ frames := 2, cells := 1, slots := 8, locals := 34 } : Room) #[(.ref v), (.int 0), (.int ct)] (Q_ccq Z v cp kv ct ds us h0) := by
  refine enter (plainFor_of_name pn9) ?_
  intro pp ee ss mm below meth cc s₁ hx hby hml hZ hown hnm hret hlk X0 e0 hs0
  replace hown : ss.vm.findClass "java/util/Arrays" = some mm.cls := hown
  refine Go.cast (congrArg s₁.setTop (ef_ccq mm v ct)) ?_
  have N0 := Fr.nil Z.heap.size
  have KP := Keep.refl h0 []
  show Go pp ee below _ (s₁.setTop (mkF mm 0 #[.val (.ref v), .val (.int 0), .val (.int ct)] []))
  refine Go.iloadN X0 hx (hb hby d31_0) rfl (q := 1) rfl ?_
  refine Go.ifNo X0 hx (hb hby d31_1) (by decide) (q := 4) rfl ?_
  refine Go.iloadN X0 hx (hb hby d31_4) rfl (q := 5) rfl ?_
  refine Go.aloadN X0 hx (hb hby d31_5) rfl rfl (q := 6) rfl ?_
  refine Go.alen X0 hx hZ e0 Vv (hb hby d31_6) ?_
  refine Go.icmpNo X0 hx (hb hby d31_7) (Jvm.Free.XT.ii_eq_f (own_cutN hct)) (q := 10) rfl ?_
  refine Go.aloadN X0 hx (hb hby d31_10) rfl rfl (q := 11) rfl ?_
  refine Go.iloadN X0 hx (hb hby d31_11) rfl (q := 12) rfl ?_
  refine Go.iloadN X0 hx (hb hby d31_12) rfl (q := 13) rfl ?_
  refine Go.callS X0 hx hZ hown (wd177 hw) (wd178 hw) (wd175 hw) (wd179 hw) (by decide) (ccqb l Z a0 hw v cp (kv) ct (ds) (us) h0 O0 Vv hct) e0 (by rw [hml]; rfl) (hb hby d31_13) (argsL := [(.ref v), (.int 0), (.int ct)]) (rest := []) (lenOf pd22 rfl) rfl rfl (W := 0) (by first | exact Nat.le_refl _ | decide) (by decide) (by decide) (by decide) (by decide) ?_
  intro v101 T101 L101 X101 hQ101
  obtain ⟨h101, e101⟩ : ∃ z, T101.heap = z := ⟨_, rfl⟩
  rw [e101] at hQ101
  obtain ⟨u_101, ku_101, rfl, N101q, K101, fr101_u, P101_0⟩ := hQ101
  have N101 := Fr.app N0 N101q
  have ne_v_u_101 : v ≠ u_101 := ne_new Vv.lt fr101_u
  have g_u_101 : Z.heap.size ≤ u_101 := Nat.le_trans O0.1 fr101_u
  have z_u_101 : h0.size ≤ u_101 := Nat.le_trans KP.1 fr101_u
  replace Vv := Vv.keep K101 nin0
  have OK101 := ext_keep O0 K101 all0
  replace KP := KP.trans K101 all0
  exact Go.retA X101 hx hret hlk rfl rfl (hb hby d31_16) e101 (by decide) (by decide) ⟨u_101, ku_101, rfl, N101, KP, z_u_101, P101_0⟩
def Q_cia (Z : State) (t o v : Addr) (cs cp : Int32) (kv : ClassId) (ct : Int32) (ds us : List Value) (h0 : Heap) (vR : Option Value) (hR : Heap) (LR : List Loc) : Prop := ∃ u : Addr, ∃ ku : ClassId, vR = none ∧ Fr Z.heap.size LR ∧ Keep h0 hR [t] ∧ h0.size ≤ u ∧ Fld Z hR t xS0 "value" "[B" (.ref u) ∧ Fld Z hR t xS0 "coder" "B" (.int 0) ∧ Arv Z hR u ku .byte ct us (.int 0)
theorem cia (l : Launch) (Z : State) (a0 : Array Value) (hw : ∀ d ∈ tables_1, d.before a0 Z = true) (t o v : Addr) (cs cp : Int32) (kv : ClassId) (ct : Int32) (ds us : List Value) (h0 : Heap) (O0 : Ext Z.heap h0) (Es : Exa Z h0 t xS0) (Fs : Fld Z h0 t xS0 "value" "[B" .null) (Cs : Fld Z h0 t xS0 "coder" "B" (.int 0)) (g_t : Z.heap.size ≤ t) (nto : t ≠ o) (Eo : Exa Z h0 o xS4) (F0 : Fld Z h0 o xS1 "value" "[B" (.ref v)) (F1 : Fld Z h0 o xS1 "coder" "B" (.int 0)) (F2 : Fld Z h0 o xS1 "count" "I" (.int ct)) (Vv : Arv Z h0 v kv .byte cp ds (.int 0)) (ntv : t ≠ v) (SCS : Sta Z Z.heap xS0 xS3 "Z" (.int cs)) (hcs : ¬ (cs = (0 : Int32))) (hct : Cut ct cp ds us) :
    Ctr l Z h0 (⟨xS0, "<init>", "(Ljava/lang/AbstractStringBuilder;Ljava/lang/Void;)V"⟩ : MethodName) k27 5 none [] ({ frames := 3, cells := 1, slots := 8, locals := 49 } : Room) #[(.ref t), (.ref o), .null] (Q_cia Z t o v cs cp kv ct ds us h0) := by
  refine enter (plainFor_of_name pn1) ?_
  intro pp ee ss mm below meth cc s₁ hx hby hml hZ hown hnm hret hlk X0 e0 hs0
  replace hown : ss.vm.findClass xS0 = some mm.cls := hown
  refine Go.cast (congrArg s₁.setTop (ef_cia mm t o)) ?_
  have N0 := Fr.nil Z.heap.size
  have KP := Keep.refl h0 [t]
  show Go pp ee below _ (s₁.setTop (mkF mm 0 #[.val (.ref t), .val (.ref o), .val .null, .unset, .unset] []))
  refine Go.aloadN X0 hx (hb hby d27_0) rfl rfl (q := 1) rfl ?_
  refine Go.initO X0 hx hZ hown (wd16 hw) (wd17 hw) (wd18 hw) e0 (by rw [hml]; rfl) (hb hby d27_1) (by decide) (W := 0) (by exact Nat.le_refl _) (by decide) (q := 4) rfl ?_
  intro T101 X101 e101
  refine Go.aloadN X101 hx (hb hby d27_4) rfl rfl (q := 5) rfl ?_
  refine Go.virt X101 hx hZ hown (wd159 hw) (wd160 hw) (notFace_of_selects (args := #[]) (mvT hZ (wd162 hw))) (wd162 hw) (wd161 hw) (wd82 hw) (wd163 hw) (by decide) (cgva l Z a0 hw o v h0 O0 F0) e101 Eo (by rw [hml]; rfl) (hb hby d27_5) (argsL := []) (rest := []) (lenOf pd23 rfl) rfl rfl (W := 0) (by first | exact Nat.le_refl _ | decide) (by decide) (by decide) (by decide) (by decide) ?_
  intro v102 T102 L102 X102 hQ102
  obtain ⟨rfl, N102q, e102⟩ := hQ102
  have N102 := Fr.app N0 N102q
  refine Go.astoreN X102 hx (hb hby d27_8) rfl (l' := #[.val (.ref t), .val (.ref o), .val .null, .val (.ref v), .unset]) rfl (q := 9) rfl ?_
  refine Go.aloadN X102 hx (hb hby d27_9) rfl rfl (q := 10) rfl ?_
  refine Go.virt X102 hx hZ hown (wd164 hw) (wd165 hw) (own_nf (args := #[]) (mvT hZ (wd107 hw)) rfl) (wd167 hw) (wd168 hw) (wd74 hw) (wd169 hw) (by decide) (clnb l Z a0 hw o ct h0 O0 Eo F2) e102 Eo (by rw [hml]; rfl) (hb hby d27_10) (argsL := []) (rest := []) (lenOf pd10 rfl) rfl rfl (W := 0) (by first | exact Nat.le_refl _ | decide) (by decide) (by decide) (by decide) (by decide) ?_
  intro v103 T103 L103 X103 hQ103
  obtain ⟨rfl, N103q, e103⟩ := hQ103
  have N103 := Fr.app N102 N103q
  refine Go.istore X103 hx (hb hby d27_13) (l' := #[.val (.ref t), .val (.ref o), .val .null, .val (.ref v), .val (.int ct)]) rfl (q := 15) rfl ?_
  refine Go.aloadN X103 hx (hb hby d27_15) rfl rfl (q := 16) rfl ?_
  refine Go.virt X103 hx hZ hown (wd172 hw) (wd139 hw) (notFace_of_selects (args := #[]) (mvT hZ (wd141 hw))) (wd141 hw) (wd140 hw) (wd82 hw) (wd142 hw) (by decide) (csbl l Z a0 hw o cs h0 O0 F1 SCS hcs) e103 Eo (by rw [hml]; rfl) (hb hby d27_16) (argsL := []) (rest := []) (lenOf pd7 rfl) rfl rfl (W := 0) (by first | exact Nat.le_refl _ | decide) (by decide) (by decide) (by decide) (by decide) ?_
  intro v104 T104 L104 X104 hQ104
  obtain ⟨rfl, N104q, e104⟩ := hQ104
  have N104 := Fr.app N103 N104q
  refine Go.ifNo X104 hx (hb hby d27_19) (by decide) (q := 22) rfl ?_
  refine Go.aloadN X104 hx (hb hby d27_22) rfl rfl (q := 23) rfl ?_
  refine Go.iconst X104 hx (hb hby d27_23) (r := (0 : Int32)) rfl (q := 24) rfl ?_
  refine Go.putF X104 hx hZ hown (host := "") (Or.inl (wd26 hw)) Via.refl e104 Cs Es (Or.inr ⟨(wd22 hw), rfl, hnm⟩) (wd7 hw) (ty := .byte) (by decide) rfl rfl (hb hby d27_24) (q := 27) rfl ?_
  intro T105 h105 X105 e105 W105 F105
  have N105 := Fr.snoc X105 N104 g_t
  replace Es := Es.wr W105
  replace Fs := Fs.other W105 (Or.inr (slot_ne (Or.inr (wd21 hw)) (Or.inr (wd22 hw)) (by decide) (t := (.array .byte)) (t' := .byte) (by decide) (by decide)))
  replace Eo := Eo.wr W105
  replace F0 := F0.other W105 (Or.inl (Ne.symm nto))
  replace F1 := F1.other W105 (Or.inl (Ne.symm nto))
  replace F2 := F2.other W105 (Or.inl (Ne.symm nto))
  replace Vv := Vv.other W105 (Ne.symm ntv)
  have OW105 := ext_wr O0 W105 g_t
  replace KP := KP.wr W105 (Or.inl (List.mem_of_getElem? (i := 0) rfl))
  refine Go.aloadN X105 hx (hb hby d27_27) rfl rfl (q := 28) rfl ?_
  refine Go.aloadN X105 hx (hb hby d27_28) rfl rfl (q := 29) rfl ?_
  refine Go.iconst X105 hx (hb hby d27_29) (r := (0 : Int32)) rfl (q := 30) rfl ?_
  refine Go.iload X105 hx (hb hby d27_30) rfl (q := 32) rfl ?_
  refine Go.callS X105 hx hZ hown (wd173 hw) (wd174 hw) (wd175 hw) (wd176 hw) (by decide) (ccq l Z a0 hw v cp (kv) ct (ds) (us) h105 OW105 Vv hct) e105 (by rw [hml]; rfl) (hb hby d27_32) (argsL := [(.ref v), (.int 0), (.int ct)]) (rest := [(.ref t)]) (lenOf pd22 rfl) rfl rfl (W := 1) (by first | exact Nat.le_refl _ | decide) (by decide) (by decide) (by decide) (by decide) ?_
  intro v106 T106 L106 X106 hQ106
  obtain ⟨h106, e106⟩ : ∃ z, T106.heap = z := ⟨_, rfl⟩
  rw [e106] at hQ106
  obtain ⟨u_106, ku_106, rfl, N106q, K106, fr106_u, P106_0⟩ := hQ106
  have N106 := Fr.app N105 N106q
  have ne_t_u_106 : t ≠ u_106 := ne_new Es.lt fr106_u
  have ne_o_u_106 : o ≠ u_106 := ne_new Eo.lt fr106_u
  have ne_v_u_106 : v ≠ u_106 := ne_new Vv.lt fr106_u
  have g_u_106 : Z.heap.size ≤ u_106 := Nat.le_trans OW105.1 fr106_u
  have z_u_106 : h0.size ≤ u_106 := Nat.le_trans KP.1 fr106_u
  replace Es := Es.keep K106
  replace Fs := Fs.keep K106 nin0
  replace Eo := Eo.keep K106
  replace F0 := F0.keep K106 nin0
  replace F1 := F1.keep K106 nin0
  replace F2 := F2.keep K106 nin0
  replace Vv := Vv.keep K106 nin0
  replace F105 := F105.keep K106 nin0
  have OK106 := ext_keep OW105 K106 all0
  replace KP := KP.trans K106 all0
  refine Go.putF X106 hx hZ hown (host := "") (Or.inl (wd25 hw)) Via.refl e106 Fs Es (Or.inr ⟨(wd21 hw), rfl, hnm⟩) (wd7 hw) (ty := (.array .byte)) (by decide) rfl rfl (hb hby d27_35) (q := 38) rfl ?_
  intro T107 h107 X107 e107 W107 F107
  have N107 := Fr.snoc X107 N106 g_t
  replace Es := Es.wr W107
  replace Eo := Eo.wr W107
  replace F0 := F0.other W107 (Or.inl (Ne.symm nto))
  replace F1 := F1.other W107 (Or.inl (Ne.symm nto))
  replace F2 := F2.other W107 (Or.inl (Ne.symm nto))
  replace Vv := Vv.other W107 (Ne.symm ntv)
  replace F105 := F105.other W107 (Or.inr (slot_ne (Or.inr (wd22 hw)) (Or.inr (wd21 hw)) (by decide) (t := .byte) (t' := (.array .byte)) (by decide) (by decide)))
  replace P106_0 := P106_0.other W107 (Ne.symm ne_t_u_106)
  have OW107 := ext_wr OK106 W107 g_t
  replace KP := KP.wr W107 (Or.inl (List.mem_of_getElem? (i := 0) rfl))
  refine Go.goto X107 hx (hb hby d27_38) (q := 97) (by decide) (by decide) ?_
  exact Go.retV X107 hx hret hlk (hb hby d27_97) e107 (by decide) (by decide) ⟨u_106, ku_106, rfl, N107, KP, z_u_106, F107, F105, P106_0⟩
def Q_cib (Z : State) (t o v : Addr) (cs cp : Int32) (kv : ClassId) (ct : Int32) (ds us : List Value) (h0 : Heap) (vR : Option Value) (hR : Heap) (LR : List Loc) : Prop := ∃ u : Addr, ∃ ku : ClassId, vR = none ∧ Fr Z.heap.size LR ∧ Keep h0 hR [t] ∧ h0.size ≤ u ∧ Fld Z hR t xS0 "value" "[B" (.ref u) ∧ Fld Z hR t xS0 "coder" "B" (.int 0) ∧ Arv Z hR u ku .byte ct us (.int 0)
theorem cib (l : Launch) (Z : State) (a0 : Array Value) (hw : ∀ d ∈ tables_1, d.before a0 Z = true) (t o v : Addr) (cs cp : Int32) (kv : ClassId) (ct : Int32) (ds us : List Value) (h0 : Heap) (O0 : Ext Z.heap h0) (Es : Exa Z h0 t xS0) (Fs : Fld Z h0 t xS0 "value" "[B" .null) (Cs : Fld Z h0 t xS0 "coder" "B" (.int 0)) (g_t : Z.heap.size ≤ t) (nto : t ≠ o) (Eo : Exa Z h0 o xS4) (F0 : Fld Z h0 o xS1 "value" "[B" (.ref v)) (F1 : Fld Z h0 o xS1 "coder" "B" (.int 0)) (F2 : Fld Z h0 o xS1 "count" "I" (.int ct)) (Vv : Arv Z h0 v kv .byte cp ds (.int 0)) (ntv : t ≠ v) (SCS : Sta Z Z.heap xS0 xS3 "Z" (.int cs)) (hcs : ¬ (cs = (0 : Int32))) (hct : Cut ct cp ds us) :
    Ctr l Z h0 (⟨xS0, "<init>", "(Ljava/lang/StringBuilder;)V"⟩ : MethodName) k26 2 none [] ({ frames := 4, cells := 1, slots := 8, locals := 65 } : Room) #[(.ref t), (.ref o)] (Q_cib Z t o v cs cp kv ct ds us h0) := by
  refine enter (plainFor_of_name pn1) ?_
  intro pp ee ss mm below meth cc s₁ hx hby hml hZ hown hnm hret hlk X0 e0 hs0
  replace hown : ss.vm.findClass xS0 = some mm.cls := hown
  refine Go.cast (congrArg s₁.setTop (ef_cib mm t o)) ?_
  have N0 := Fr.nil Z.heap.size
  have KP := Keep.refl h0 [t]
  show Go pp ee below _ (s₁.setTop (mkF mm 0 #[.val (.ref t), .val (.ref o)] []))
  refine Go.aloadN X0 hx (hb hby d26_0) rfl rfl (q := 1) rfl ?_
  refine Go.aloadN X0 hx (hb hby d26_1) rfl rfl (q := 2) rfl ?_
  refine Go.aconst_null X0 hx (hb hby d26_2) (q := 3) rfl ?_
  refine Go.init X0 hx hZ hown rfl (wd156 hw) (wd157 hw) (wd8 hw) (wd158 hw) (by decide) (cia l Z a0 hw t o v cs cp (kv) ct (ds) (us) h0 O0 Es Fs Cs g_t nto Eo F0 F1 F2 Vv ntv SCS hcs hct) e0 (by rw [hml]; rfl) (hb hby d26_3) (argsL := [(.ref o), .null]) (rest := []) (lenOf pd24 rfl) rfl rfl (W := 0) (by first | exact Nat.le_refl _ | decide) (by decide) (by decide) (by decide) (by decide) ?_
  intro v101 T101 L101 X101 hQ101
  obtain ⟨h101, e101⟩ : ∃ z, T101.heap = z := ⟨_, rfl⟩
  rw [e101] at hQ101
  obtain ⟨u_101, ku_101, rfl, N101q, K101, fr101_u, P101_0, P101_1, P101_2⟩ := hQ101
  have N101 := Fr.app N0 N101q
  have ne_t_u_101 : t ≠ u_101 := ne_new Es.lt fr101_u
  have ne_o_u_101 : o ≠ u_101 := ne_new Eo.lt fr101_u
  have ne_v_u_101 : v ≠ u_101 := ne_new Vv.lt fr101_u
  have g_u_101 : Z.heap.size ≤ u_101 := Nat.le_trans O0.1 fr101_u
  have z_u_101 : h0.size ≤ u_101 := Nat.le_trans KP.1 fr101_u
  replace Es := Es.keep K101
  replace Eo := Eo.keep K101
  replace F0 := F0.keep K101 (ninS (Ne.symm nto) nin0)
  replace F1 := F1.keep K101 (ninS (Ne.symm nto) nin0)
  replace F2 := F2.keep K101 (ninS (Ne.symm nto) nin0)
  replace Vv := Vv.keep K101 (ninS (Ne.symm ntv) nin0)
  have OK101 := ext_keep O0 K101 (allS g_t all0)
  replace KP := KP.trans K101 (allS (Or.inl (List.mem_of_getElem? (i := 0) rfl)) all0)
  exact Go.retV X101 hx hret hlk (hb hby d26_6) e101 (by decide) (by decide) ⟨u_101, ku_101, rfl, N101, KP, z_u_101, P101_0, P101_1, P101_2⟩
def Q_cts (Z : State) (o v : Addr) (cs cp : Int32) (kv : ClassId) (ct : Int32) (ds us : List Value) (h0 : Heap) (vR : Option Value) (hR : Heap) (LR : List Loc) : Prop := ∃ t : Addr, ∃ u : Addr, ∃ ku : ClassId, vR = some (.ref t) ∧ Fr Z.heap.size LR ∧ Keep h0 hR [] ∧ h0.size ≤ t ∧ h0.size ≤ u ∧ Exa Z hR t xS0 ∧ Fld Z hR t xS0 "value" "[B" (.ref u) ∧ Fld Z hR t xS0 "coder" "B" (.int 0) ∧ Arv Z hR u ku .byte ct us (.int 0)
theorem cts (l : Launch) (Z : State) (a0 : Array Value) (hw : ∀ d ∈ tables_1, d.before a0 Z = true) (o v : Addr) (cs cp : Int32) (kv : ClassId) (ct : Int32) (ds us : List Value) (h0 : Heap) (O0 : Ext Z.heap h0) (Eo : Exa Z h0 o xS4) (F0 : Fld Z h0 o xS1 "value" "[B" (.ref v)) (F1 : Fld Z h0 o xS1 "coder" "B" (.int 0)) (F2 : Fld Z h0 o xS1 "count" "I" (.int ct)) (Vv : Arv Z h0 v kv .byte cp ds (.int 0)) (SCS : Sta Z Z.heap xS0 xS3 "Z" (.int cs)) (hcs : ¬ (cs = (0 : Int32))) (hct : Cut ct cp ds us) :
    Ctr l Z h0 (⟨xS4, "toString", "()Ljava/lang/String;"⟩ : MethodName) k25 1 (some (.object xS0)) [] ({ frames := 5, cells := 2, slots := 12, locals := 79 } : Room) #[(.ref o)] (Q_cts Z o v cs cp kv ct ds us h0) := by
  refine enter (plainFor_of_name pn8) ?_
  intro pp ee ss mm below meth cc s₁ hx hby hml hZ hown hnm hret hlk X0 e0 hs0
  replace hown : ss.vm.findClass xS4 = some mm.cls := hown
  refine Go.cast (congrArg s₁.setTop (ef_cts mm o)) ?_
  have N0 := Fr.nil Z.heap.size
  have KP := Keep.refl h0 []
  show Go pp ee below _ (s₁.setTop (mkF mm 0 #[.val (.ref o)] []))
  refine Go.newO X0 hx hZ hown (wd152 hw) (wd7 hw) (wd8 hw) e0 (hb hby d25_0) (by decide) (by decide) (q := 3) rfl ?_
  intro b101 T101 h101 X101 e101 q101 E101 A101 D101 U101
  have ne_o_b101 : o ≠ b101 := ne_new Eo.lt (Nat.le_of_eq q101)
  have ne_v_b101 : v ≠ b101 := ne_new Vv.lt (Nat.le_of_eq q101)
  have g_b101 : Z.heap.size ≤ b101 := Nat.le_trans O0.1 (Nat.le_of_eq q101)
  have z_b101 : h0.size ≤ b101 := Nat.le_trans KP.1 (Nat.le_of_eq q101)
  replace Eo := Eo.ext E101
  replace F0 := F0.ext E101
  replace F1 := F1.ext E101
  replace F2 := F2.ext E101
  replace Vv := Vv.ext E101
  have OE101 := ext_trans O0 E101
  replace KP := KP.ext E101
  have F101_value : Fld Z h101 b101 xS0 "value" "[B" .null := D101 (Or.inr (wd21 hw)) (ty := (.array .byte)) (by decide)
  have F101_coder : Fld Z h101 b101 xS0 "coder" "B" (.int 0) := D101 (Or.inr (wd22 hw)) (ty := .byte) (by decide)
  clear D101
  refine Go.dup X101 hx (hb hby d25_3) rfl (q := 4) rfl ?_
  refine Go.aloadN X101 hx (hb hby d25_4) rfl rfl (q := 5) rfl ?_
  refine Go.init X101 hx hZ hown rfl (wd153 hw) (wd154 hw) (wd8 hw) (wd155 hw) (by decide) (cib l Z a0 hw b101 o v cs cp (kv) ct (ds) (us) h101 OE101 A101 F101_value F101_coder g_b101 (Ne.symm ne_o_b101) Eo F0 F1 F2 Vv (Ne.symm ne_v_b101) SCS hcs hct) e101 (by rw [hml]; rfl) (hb hby d25_5) (argsL := [(.ref o)]) (rest := [(.ref b101)]) (lenOf pd25 rfl) rfl rfl (W := 1) (by first | exact Nat.le_refl _ | decide) (by decide) (by decide) (by decide) (by decide) ?_
  intro v102 T102 L102 X102 hQ102
  obtain ⟨h102, e102⟩ : ∃ z, T102.heap = z := ⟨_, rfl⟩
  rw [e102] at hQ102
  obtain ⟨u_102, ku_102, rfl, N102q, K102, fr102_u, P102_0, P102_1, P102_2⟩ := hQ102
  have N102 := Fr.app N0 N102q
  have ne_o_u_102 : o ≠ u_102 := ne_new Eo.lt fr102_u
  have ne_v_u_102 : v ≠ u_102 := ne_new Vv.lt fr102_u
  have ne_b101_u_102 : b101 ≠ u_102 := ne_new A101.lt fr102_u
  have g_u_102 : Z.heap.size ≤ u_102 := Nat.le_trans OE101.1 fr102_u
  have z_u_102 : h0.size ≤ u_102 := Nat.le_trans KP.1 fr102_u
  replace Eo := Eo.keep K102
  replace F0 := F0.keep K102 (ninS ne_o_b101 nin0)
  replace F1 := F1.keep K102 (ninS ne_o_b101 nin0)
  replace F2 := F2.keep K102 (ninS ne_o_b101 nin0)
  replace Vv := Vv.keep K102 (ninS ne_v_b101 nin0)
  replace A101 := A101.keep K102
  have OK102 := ext_keep OE101 K102 (allS g_b101 all0)
  replace KP := KP.trans K102 (allS (Or.inr z_b101) all0)
  exact Go.retA X102 hx hret hlk rfl rfl (hb hby d25_8) e102 (by decide) (by decide) ⟨b101, u_102, ku_102, rfl, N102, KP, z_b101, z_u_102, A101, P102_0, P102_1, P102_2⟩
def Q_ctos (Z : State) (t s v : Addr) (kv : ClassId) (cs ln : Int32) (us oa ob oc : List Value) (h0 : Heap) (vR : Option Value) (hR : Heap) (LR : List Loc) : Prop := ∃ w : Addr, ∃ u : Addr, ∃ ku : ClassId, vR = some (.ref w) ∧ Fr Z.heap.size LR ∧ Keep h0 hR [t] ∧ Fld Z hR t xS2 "weak" "Z" (.int 1) ∧ Fld Z hR t xS2 "value" "Ljava/lang/String;" (.ref s) ∧ Fld Z hR t xS2 "field" "Ljava/lang/String;" (.ref w) ∧ Exa Z hR w xS0 ∧ Fld Z hR w xS0 "coder" "B" (.int 0) ∧ Fld Z hR w xS0 "value" "[B" (.ref u) ∧ Arv Z hR u ku .byte (((3 : Int32) + ln) + (1 : Int32)) oc (.int 0)
theorem ctos (l : Launch) (Z : State) (a0 : Array Value) (hw : ∀ d ∈ tables_1, d.before a0 Z = true) (t s v : Addr) (kv : ClassId) (cs ln : Int32) (us oa ob oc : List Value) (h0 : Heap) (O0 : Ext Z.heap h0) (Et : Exa Z h0 t xS2) (g_t : Z.heap.size ≤ t) (T0 : Fld Z h0 t xS2 "weak" "Z" (.int 1)) (T1 : Fld Z h0 t xS2 "value" "Ljava/lang/String;" (.ref s)) (T2 : Fld Z h0 t xS2 "field" "Ljava/lang/String;" .null) (Es : Exa Z h0 s xS0) (Cs : Fld Z h0 s xS0 "coder" "B" (.int 0)) (Fs : Fld Z h0 s xS0 "value" "[B" (.ref v)) (Vs : Arv Z h0 v kv .byte ln us (.int 0)) (SCS : Sta Z Z.heap xS0 xS3 "Z" (.int cs)) (hcs : ¬ (cs = (0 : Int32))) (hcp : Cpy (0 : Int32) (3 : Int32) ln ln (16 : Int32) us [(.int 87), (.int 47), (.int 34), (.int 0), (.int 0), (.int 0), (.int 0)] us oa) (hcap : ¬ ((0 : Int32) < (((3 : Int32) + ln) - (16 : Int32)))) (hst : Stp ((3 : Int32) + ln) (16 : Int32) oa (.int 34) ob) (hcaq : ¬ ((0 : Int32) < ((((3 : Int32) + ln) + (1 : Int32)) - (16 : Int32)))) (hct : Cut (((3 : Int32) + ln) + (1 : Int32)) (16 : Int32) ob oc) :
    CtrH l Z consts_1 h0 (⟨xS2, "toString", "()Ljava/lang/String;"⟩ : MethodName) k12 2 (some (.object xS0)) [] ({ frames := 6, cells := 6, slots := 44, locals := 91 } : Room) #[(.ref t)] (Q_ctos Z t s v kv cs ln us oa ob oc h0) := by
  refine enterH (plainFor_of_name pn6) ?_
  intro pp ee ss mm below meth cc s₁ hx hby hml hZ hown hnm hret hlk X0 e0 hs0 hS hC
  replace hown : (ss.setVm ss.vm).vm.findClass xS2 = some mm.cls := hown
  have hKd := Nat.zero_le h0.size
  refine Go.cast (congrArg s₁.setTop (ef_ctos mm t)) ?_
  have N0 := Fr.nil Z.heap.size
  have KP := Keep.refl h0 [t]
  show Go pp ee below _ (s₁.setTop (mkF mm 0 #[.val (.ref t), .unset] []))
  refine Go.aloadN X0 hx (hb hby d12_0) rfl rfl (q := 1) rfl ?_
  refine Go.getF X0 hx hZ hown (host := "") (Or.inl (wd70 hw)) Via.refl e0 T2 (hb hby d12_1) (q := 4) rfl ?_
  intro T101 X101 e101
  refine Go.astoreN X101 hx (hb hby d12_4) rfl (l' := #[.val (.ref t), .val .null]) rfl (q := 5) rfl ?_
  refine Go.aloadN X101 hx (hb hby d12_5) rfl rfl (q := 6) rfl ?_
  refine Go.ifnonnullNo X101 hx (hb hby d12_6) (q := 9) rfl ?_
  refine Go.newO X101 hx hZ hown (wd72 hw) (wd73 hw) (wd74 hw) e101 (hb hby d12_9) (by decide) (by decide) (q := 12) rfl ?_
  intro b102 T102 h102 X102 e102 q102 E102 A102 D102 U102
  have ne_t_b102 : t ≠ b102 := ne_new Et.lt (Nat.le_of_eq q102)
  have ne_s_b102 : s ≠ b102 := ne_new Es.lt (Nat.le_of_eq q102)
  have ne_v_b102 : v ≠ b102 := ne_new Vs.lt (Nat.le_of_eq q102)
  have g_b102 : Z.heap.size ≤ b102 := Nat.le_trans O0.1 (Nat.le_of_eq q102)
  have sf_b102 : Safe Z consts_1 ss.vm h0 b102 := Safe.new (Nat.le_of_eq q102)
  have z_b102 : h0.size ≤ b102 := Nat.le_trans KP.1 (Nat.le_of_eq q102)
  replace sf_b102 := sf_b102.ext E102 hC.1
  replace hC := hC.trans (CHr.ext E102 hC.1)
  replace Et := Et.ext E102
  replace T0 := T0.ext E102
  replace T1 := T1.ext E102
  replace T2 := T2.ext E102
  replace Es := Es.ext E102
  replace Cs := Cs.ext E102
  replace Fs := Fs.ext E102
  replace Vs := Vs.ext E102
  have OE102 := ext_trans O0 E102
  replace hKd := Nat.le_trans hKd E102.1
  replace KP := KP.ext E102
  have F102_value : Fld Z h102 b102 xS1 "value" "[B" .null := D102 (Or.inl (wd87 hw)) (ty := (.array .byte)) (by decide)
  have F102_coder : Fld Z h102 b102 xS1 "coder" "B" (.int 0) := D102 (Or.inl (wd89 hw)) (ty := .byte) (by decide)
  have F102_count : Fld Z h102 b102 xS1 "count" "I" (.int 0) := D102 (Or.inl (wd103 hw)) (ty := .int) (by decide)
  clear D102
  refine Go.dup X102 hx (hb hby d12_12) rfl (q := 13) rfl ?_
  refine Go.init X102 hx hZ hown rfl (wd75 hw) (wd76 hw) (wd74 hw) (wd77 hw) (by decide) (csb l Z a0 hw b102 cs h102 OE102 A102 g_b102 F102_value F102_coder F102_count SCS hcs) e102 (by rw [hml]; rfl) (hb hby d12_13) (argsL := []) (rest := [(.ref b102)]) (lenOf pd26 rfl) rfl rfl (W := 1) (by first | exact Nat.le_refl _ | decide) (by decide) (by decide) (by decide) (by decide) ?_
  intro v103 T103 L103 X103 hQ103
  obtain ⟨h103, e103⟩ : ∃ z, T103.heap = z := ⟨_, rfl⟩
  rw [e103] at hQ103
  obtain ⟨v_103, kv_103, rfl, N103q, K103, fr103_v, P103_0, P103_1, P103_2, P103_3, P103_4⟩ := hQ103
  have N103 := Fr.app N0 N103q
  have ne_t_v_103 : t ≠ v_103 := ne_new Et.lt fr103_v
  have ne_s_v_103 : s ≠ v_103 := ne_new Es.lt fr103_v
  have ne_v_v_103 : v ≠ v_103 := ne_new Vs.lt fr103_v
  have ne_b102_v_103 : b102 ≠ v_103 := ne_new A102.lt fr103_v
  have g_v_103 : Z.heap.size ≤ v_103 := Nat.le_trans OE102.1 fr103_v
  have sf_v_103 : Safe Z consts_1 ss.vm h102 v_103 := Safe.new fr103_v
  have z_v_103 : h0.size ≤ v_103 := Nat.le_trans KP.1 fr103_v
  replace hKd := Nat.le_trans hKd K103.1
  have hSk : ∀ x ∈ [b102], Safe Z consts_1 ss.vm h102 x := (allS sf_b102 all0)
  replace sf_b102 := Safe.keep K103 hSk hC.1 sf_b102
  replace sf_v_103 := Safe.keep K103 hSk hC.1 sf_v_103
  replace hC := hC.trans (CHr.keep K103 hSk hC.1)
  replace Et := Et.keep K103
  replace T0 := T0.keep K103 (ninS ne_t_b102 nin0)
  replace T1 := T1.keep K103 (ninS ne_t_b102 nin0)
  replace T2 := T2.keep K103 (ninS ne_t_b102 nin0)
  replace Es := Es.keep K103
  replace Cs := Cs.keep K103 (ninS ne_s_b102 nin0)
  replace Fs := Fs.keep K103 (ninS ne_s_b102 nin0)
  replace Vs := Vs.keep K103 (ninS ne_v_b102 nin0)
  replace A102 := A102.keep K103
  have OK103 := ext_keep OE102 K103 (allS g_b102 all0)
  replace KP := KP.trans K103 (allS (Or.inr z_b102) all0)
  refine Go.aloadN X103 hx (hb hby d12_16) rfl rfl (q := 17) rfl ?_
  refine Go.getF X103 hx hZ hown (host := "") (Or.inl (wd56 hw)) Via.refl e103 T0 (hb hby d12_17) (q := 20) rfl ?_
  intro T104 X104 e104
  refine Go.ifNo X104 hx (hb hby d12_20) (by decide) (q := 23) rfl ?_
  refine Go.ldcH X104 hx hZ hown (wd90 hw) (own_wS hw) e104 hS hKd (own_EW hw) (List.mem_of_getElem? (i := 0) rfl) hC (vs := [(.int 87), (.int 47)]) (z := (2 : Int32)) ⟨by decide, rfl⟩ (by decide) rfl (hb hby d12_23) (nn := 8) (by decide) (by decide) (by decide) (by decide) (q := 25) rfl ?_
  intro b105 u105 kc105 T105 h105 k105 X105 e105 E105 hS hKd hZ hown B105 C105 F105 V105 hR105
  replace sf_b102 := hR105.safe A102.lt sf_b102
  replace sf_v_103 := hR105.safe P103_3.lt sf_v_103
  replace hC := hC.trans hR105
  replace Et := Et.ext E105
  replace T0 := T0.ext E105
  replace T1 := T1.ext E105
  replace T2 := T2.ext E105
  replace Es := Es.ext E105
  replace Cs := Cs.ext E105
  replace Fs := Fs.ext E105
  replace Vs := Vs.ext E105
  replace A102 := A102.ext E105
  replace P103_0 := P103_0.ext E105
  replace P103_1 := P103_1.ext E105
  replace P103_2 := P103_2.ext E105
  replace P103_3 := P103_3.ext E105
  replace P103_4 := P103_4.ext E105
  have OE105 := ext_trans OK103 E105
  replace KP := KP.ext E105
  have ne_b105_t := Exa.ne B105 Et (by decide)
  have ne_t_u105 := Exa.neArv Et V105 (wd32 hw)
  have ne_s_u105 := Exa.neArv Es V105 (wd7 hw)
  have ne_b105_b102 := Exa.ne B105 A102 (by decide)
  have ne_b102_u105 := Exa.neArv A102 V105 (wd73 hw)
  have ne_b105_v_103 := Exa.ne B105 P103_3 (by decide)
  refine Go.goto X105 hx (hb hby d12_25) (q := 30) (by decide) (by decide) ?_
  refine Go.virt X105 hx hZ hown (wd91 hw) (wd92 hw) (notFace_of_selects (args := #[]) (mvT hZ (wd94 hw))) (wd94 hw) (wd93 hw) (wd74 hw) (wd95 hw) (by decide) (cab l Z a0 hw b102 b105 u105 v_103 cs ((16 : Int32)) (kv_103) (kc105) ((0 : Int32)) ((2 : Int32)) ([(.int 87), (.int 47)]) ([(.int 0), (.int 0), (.int 0), (.int 0), (.int 0), (.int 0), (.int 0)]) ([(.int 87), (.int 47), (.int 0), (.int 0), (.int 0), (.int 0), (.int 0)]) h105 OE105 A102 P103_0 P103_1 P103_2 P103_4 g_v_103 g_b102 ne_b102_v_103 B105 C105 F105 V105 SCS hcs ⟨⟨by decide, by decide, by decide⟩, by decide, by decide, rfl, Nat.le_of_ble_eq_true rfl, rfl⟩ (by decide)) e105 A102 (by rw [hml]; rfl) (hb hby d12_30) (argsL := [(.ref b105)]) (rest := []) (lenOf pd27 rfl) rfl rfl (W := 0) (by first | exact Nat.le_refl _ | decide) (by decide) (by decide) (by decide) (by decide) ?_
  intro v106 T106 L106 X106 hQ106
  obtain ⟨h106, e106⟩ : ∃ z, T106.heap = z := ⟨_, rfl⟩
  rw [e106] at hQ106
  obtain ⟨rfl, N106q, K106, P106_0, P106_1, P106_2, P106_3⟩ := hQ106
  have N106 := Fr.app N103 N106q
  replace hKd := Nat.le_trans hKd K106.1
  have hSk : ∀ x ∈ [b102, v_103], Safe Z consts_1 T105.vm h105 x := (allS sf_b102 (allS sf_v_103 all0))
  replace sf_b102 := Safe.keep K106 hSk hC.1 sf_b102
  replace sf_v_103 := Safe.keep K106 hSk hC.1 sf_v_103
  replace hC := hC.trans (CHr.keep K106 hSk hC.1)
  replace Et := Et.keep K106
  replace T0 := T0.keep K106 (ninS ne_t_b102 (ninS ne_t_v_103 nin0))
  replace T1 := T1.keep K106 (ninS ne_t_b102 (ninS ne_t_v_103 nin0))
  replace T2 := T2.keep K106 (ninS ne_t_b102 (ninS ne_t_v_103 nin0))
  replace Es := Es.keep K106
  replace Cs := Cs.keep K106 (ninS ne_s_b102 (ninS ne_s_v_103 nin0))
  replace Fs := Fs.keep K106 (ninS ne_s_b102 (ninS ne_s_v_103 nin0))
  replace Vs := Vs.keep K106 (ninS ne_v_b102 (ninS ne_v_v_103 nin0))
  replace A102 := A102.keep K106
  replace P103_3 := P103_3.keep K106
  replace B105 := B105.keep K106
  replace C105 := C105.keep K106 (ninS ne_b105_b102 (ninS ne_b105_v_103 nin0))
  replace F105 := F105.keep K106 (ninS ne_b105_b102 (ninS ne_b105_v_103 nin0))
  have OK106 := ext_keep OE105 K106 (allS g_b102 (allS g_v_103 all0))
  replace KP := KP.trans K106 (allS (Or.inr z_b102) (allS (Or.inr z_v_103) all0))
  refine Go.bipush X106 hx (hb hby d12_33) (r := (34 : Int32)) rfl (q := 35) rfl ?_
  refine Go.virt X106 hx hZ hown (wd129 hw) (wd130 hw) (notFace_of_selects (args := #[]) (mvT hZ (wd132 hw))) (wd132 hw) (wd131 hw) (wd74 hw) (wd133 hw) (by decide) (ccb l Z a0 hw b102 v_103 cs ((16 : Int32)) (kv_103) ((2 : Int32)) ([(.int 87), (.int 47), (.int 0), (.int 0), (.int 0), (.int 0), (.int 0)]) ([(.int 87), (.int 47), (.int 34), (.int 0), (.int 0), (.int 0), (.int 0)]) h106 OK106 A102 P106_0 P106_1 P106_2 P106_3 g_v_103 g_b102 ne_b102_v_103 SCS hcs ⟨⟨by decide, by decide⟩, Nat.le_of_ble_eq_true rfl, rfl⟩ (by decide)) e106 A102 (by rw [hml]; rfl) (hb hby d12_35) (argsL := [(.int 34)]) (rest := []) (lenOf pd28 rfl) rfl rfl (W := 0) (by first | exact Nat.le_refl _ | decide) (by decide) (by decide) (by decide) (by decide) ?_
  intro v107 T107 L107 X107 hQ107
  obtain ⟨h107, e107⟩ : ∃ z, T107.heap = z := ⟨_, rfl⟩
  rw [e107] at hQ107
  obtain ⟨rfl, N107q, K107, P107_0, P107_1, P107_2, P107_3⟩ := hQ107
  have N107 := Fr.app N106 N107q
  replace hKd := Nat.le_trans hKd K107.1
  have hSk : ∀ x ∈ [b102, v_103], Safe Z consts_1 T105.vm h106 x := (allS sf_b102 (allS sf_v_103 all0))
  replace sf_b102 := Safe.keep K107 hSk hC.1 sf_b102
  replace sf_v_103 := Safe.keep K107 hSk hC.1 sf_v_103
  replace hC := hC.trans (CHr.keep K107 hSk hC.1)
  replace Et := Et.keep K107
  replace T0 := T0.keep K107 (ninS ne_t_b102 (ninS ne_t_v_103 nin0))
  replace T1 := T1.keep K107 (ninS ne_t_b102 (ninS ne_t_v_103 nin0))
  replace T2 := T2.keep K107 (ninS ne_t_b102 (ninS ne_t_v_103 nin0))
  replace Es := Es.keep K107
  replace Cs := Cs.keep K107 (ninS ne_s_b102 (ninS ne_s_v_103 nin0))
  replace Fs := Fs.keep K107 (ninS ne_s_b102 (ninS ne_s_v_103 nin0))
  replace Vs := Vs.keep K107 (ninS ne_v_b102 (ninS ne_v_v_103 nin0))
  replace A102 := A102.keep K107
  replace P103_3 := P103_3.keep K107
  replace B105 := B105.keep K107
  replace C105 := C105.keep K107 (ninS ne_b105_b102 (ninS ne_b105_v_103 nin0))
  replace F105 := F105.keep K107 (ninS ne_b105_b102 (ninS ne_b105_v_103 nin0))
  have OK107 := ext_keep OK106 K107 (allS g_b102 (allS g_v_103 all0))
  replace KP := KP.trans K107 (allS (Or.inr z_b102) (allS (Or.inr z_v_103) all0))
  refine Go.aloadN X107 hx (hb hby d12_38) rfl rfl (q := 39) rfl ?_
  refine Go.getF X107 hx hZ hown (host := "") (Or.inl (wd58 hw)) Via.refl e107 T1 (hb hby d12_39) (q := 42) rfl ?_
  intro T108 X108 e108
  refine Go.virt X108 hx hZ hown (wd91 hw) (wd92 hw) (notFace_of_selects (args := #[]) (mvT hZ (wd94 hw))) (wd94 hw) (wd93 hw) (wd74 hw) (wd95 hw) (by decide) (cab l Z a0 hw b102 s v v_103 cs ((16 : Int32)) (kv_103) (kv) ((3 : Int32)) ln (us) ([(.int 87), (.int 47), (.int 34), (.int 0), (.int 0), (.int 0), (.int 0)]) (oa) h107 OK107 A102 P107_0 P107_1 P107_2 P107_3 g_v_103 g_b102 ne_b102_v_103 Es Cs Fs Vs SCS hcs hcp hcap) e108 A102 (by rw [hml]; rfl) (hb hby d12_42) (argsL := [(.ref s)]) (rest := []) (lenOf pd27 rfl) rfl rfl (W := 0) (by first | exact Nat.le_refl _ | decide) (by decide) (by decide) (by decide) (by decide) ?_
  intro v109 T109 L109 X109 hQ109
  obtain ⟨h109, e109⟩ : ∃ z, T109.heap = z := ⟨_, rfl⟩
  rw [e109] at hQ109
  obtain ⟨rfl, N109q, K109, P109_0, P109_1, P109_2, P109_3⟩ := hQ109
  have N109 := Fr.app N107 N109q
  replace hKd := Nat.le_trans hKd K109.1
  have hSk : ∀ x ∈ [b102, v_103], Safe Z consts_1 T105.vm h107 x := (allS sf_b102 (allS sf_v_103 all0))
  replace sf_b102 := Safe.keep K109 hSk hC.1 sf_b102
  replace sf_v_103 := Safe.keep K109 hSk hC.1 sf_v_103
  replace hC := hC.trans (CHr.keep K109 hSk hC.1)
  replace Et := Et.keep K109
  replace T0 := T0.keep K109 (ninS ne_t_b102 (ninS ne_t_v_103 nin0))
  replace T1 := T1.keep K109 (ninS ne_t_b102 (ninS ne_t_v_103 nin0))
  replace T2 := T2.keep K109 (ninS ne_t_b102 (ninS ne_t_v_103 nin0))
  replace Es := Es.keep K109
  replace Cs := Cs.keep K109 (ninS ne_s_b102 (ninS ne_s_v_103 nin0))
  replace Fs := Fs.keep K109 (ninS ne_s_b102 (ninS ne_s_v_103 nin0))
  replace Vs := Vs.keep K109 (ninS ne_v_b102 (ninS ne_v_v_103 nin0))
  replace A102 := A102.keep K109
  replace P103_3 := P103_3.keep K109
  replace B105 := B105.keep K109
  replace C105 := C105.keep K109 (ninS ne_b105_b102 (ninS ne_b105_v_103 nin0))
  replace F105 := F105.keep K109 (ninS ne_b105_b102 (ninS ne_b105_v_103 nin0))
  have OK109 := ext_keep OK107 K109 (allS g_b102 (allS g_v_103 all0))
  replace KP := KP.trans K109 (allS (Or.inr z_b102) (allS (Or.inr z_v_103) all0))
  refine Go.bipush X109 hx (hb hby d12_45) (r := (34 : Int32)) rfl (q := 47) rfl ?_
  refine Go.virt X109 hx hZ hown (wd129 hw) (wd130 hw) (notFace_of_selects (args := #[]) (mvT hZ (wd132 hw))) (wd132 hw) (wd131 hw) (wd74 hw) (wd133 hw) (by decide) (ccb l Z a0 hw b102 v_103 cs ((16 : Int32)) (kv_103) (((3 : Int32) + ln)) (oa) (ob) h109 OK109 A102 P109_0 P109_1 P109_2 P109_3 g_v_103 g_b102 ne_b102_v_103 SCS hcs hst hcaq) e109 A102 (by rw [hml]; rfl) (hb hby d12_47) (argsL := [(.int 34)]) (rest := []) (lenOf pd28 rfl) rfl rfl (W := 0) (by first | exact Nat.le_refl _ | decide) (by decide) (by decide) (by decide) (by decide) ?_
  intro v110 T110 L110 X110 hQ110
  obtain ⟨h110, e110⟩ : ∃ z, T110.heap = z := ⟨_, rfl⟩
  rw [e110] at hQ110
  obtain ⟨rfl, N110q, K110, P110_0, P110_1, P110_2, P110_3⟩ := hQ110
  have N110 := Fr.app N109 N110q
  replace hKd := Nat.le_trans hKd K110.1
  have hSk : ∀ x ∈ [b102, v_103], Safe Z consts_1 T105.vm h109 x := (allS sf_b102 (allS sf_v_103 all0))
  replace sf_b102 := Safe.keep K110 hSk hC.1 sf_b102
  replace sf_v_103 := Safe.keep K110 hSk hC.1 sf_v_103
  replace hC := hC.trans (CHr.keep K110 hSk hC.1)
  replace Et := Et.keep K110
  replace T0 := T0.keep K110 (ninS ne_t_b102 (ninS ne_t_v_103 nin0))
  replace T1 := T1.keep K110 (ninS ne_t_b102 (ninS ne_t_v_103 nin0))
  replace T2 := T2.keep K110 (ninS ne_t_b102 (ninS ne_t_v_103 nin0))
  replace Es := Es.keep K110
  replace Cs := Cs.keep K110 (ninS ne_s_b102 (ninS ne_s_v_103 nin0))
  replace Fs := Fs.keep K110 (ninS ne_s_b102 (ninS ne_s_v_103 nin0))
  replace Vs := Vs.keep K110 (ninS ne_v_b102 (ninS ne_v_v_103 nin0))
  replace A102 := A102.keep K110
  replace P103_3 := P103_3.keep K110
  replace B105 := B105.keep K110
  replace C105 := C105.keep K110 (ninS ne_b105_b102 (ninS ne_b105_v_103 nin0))
  replace F105 := F105.keep K110 (ninS ne_b105_b102 (ninS ne_b105_v_103 nin0))
  have OK110 := ext_keep OK109 K110 (allS g_b102 (allS g_v_103 all0))
  replace KP := KP.trans K110 (allS (Or.inr z_b102) (allS (Or.inr z_v_103) all0))
  refine Go.virt X110 hx hZ hown (wd147 hw) (wd148 hw) (notFace_of_selects (args := #[]) (mvT hZ (wd150 hw))) (wd150 hw) (wd149 hw) (wd74 hw) (wd151 hw) (by decide) (cts l Z a0 hw b102 v_103 cs ((16 : Int32)) (kv_103) ((((3 : Int32) + ln) + (1 : Int32))) (ob) (oc) h110 OK110 A102 P110_0 P110_1 P110_2 P110_3 SCS hcs hct) e110 A102 (by rw [hml]; rfl) (hb hby d12_50) (argsL := []) (rest := []) (lenOf pd29 rfl) rfl rfl (W := 0) (by first | exact Nat.le_refl _ | decide) (by decide) (by decide) (by decide) (by decide) ?_
  intro v111 T111 L111 X111 hQ111
  obtain ⟨h111, e111⟩ : ∃ z, T111.heap = z := ⟨_, rfl⟩
  rw [e111] at hQ111
  obtain ⟨t_111, u_111, ku_111, rfl, N111q, K111, fr111_t, fr111_u, P111_0, P111_1, P111_2, P111_3⟩ := hQ111
  have N111 := Fr.app N110 N111q
  have ne_t_t_111 : t ≠ t_111 := ne_new Et.lt fr111_t
  have ne_s_t_111 : s ≠ t_111 := ne_new Es.lt fr111_t
  have ne_v_t_111 : v ≠ t_111 := ne_new Vs.lt fr111_t
  have ne_b102_t_111 : b102 ≠ t_111 := ne_new A102.lt fr111_t
  have ne_v_103_t_111 : v_103 ≠ t_111 := ne_new P103_3.lt fr111_t
  have ne_b105_t_111 : b105 ≠ t_111 := ne_new B105.lt fr111_t
  have g_t_111 : Z.heap.size ≤ t_111 := Nat.le_trans OK110.1 fr111_t
  have sf_t_111 : Safe Z consts_1 T105.vm h110 t_111 := Safe.new fr111_t
  have z_t_111 : h0.size ≤ t_111 := Nat.le_trans KP.1 fr111_t
  have ne_t_u_111 : t ≠ u_111 := ne_new Et.lt fr111_u
  have ne_s_u_111 : s ≠ u_111 := ne_new Es.lt fr111_u
  have ne_v_u_111 : v ≠ u_111 := ne_new Vs.lt fr111_u
  have ne_b102_u_111 : b102 ≠ u_111 := ne_new A102.lt fr111_u
  have ne_v_103_u_111 : v_103 ≠ u_111 := ne_new P103_3.lt fr111_u
  have ne_b105_u_111 : b105 ≠ u_111 := ne_new B105.lt fr111_u
  have g_u_111 : Z.heap.size ≤ u_111 := Nat.le_trans OK110.1 fr111_u
  have sf_u_111 : Safe Z consts_1 T105.vm h110 u_111 := Safe.new fr111_u
  have z_u_111 : h0.size ≤ u_111 := Nat.le_trans KP.1 fr111_u
  replace hKd := Nat.le_trans hKd K111.1
  have hSk : ∀ x ∈ ([] : List Addr), Safe Z consts_1 T105.vm h110 x := all0
  replace sf_b102 := Safe.keep K111 hSk hC.1 sf_b102
  replace sf_v_103 := Safe.keep K111 hSk hC.1 sf_v_103
  replace sf_t_111 := Safe.keep K111 hSk hC.1 sf_t_111
  replace sf_u_111 := Safe.keep K111 hSk hC.1 sf_u_111
  replace hC := hC.trans (CHr.keep K111 hSk hC.1)
  replace Et := Et.keep K111
  replace T0 := T0.keep K111 nin0
  replace T1 := T1.keep K111 nin0
  replace T2 := T2.keep K111 nin0
  replace Es := Es.keep K111
  replace Cs := Cs.keep K111 nin0
  replace Fs := Fs.keep K111 nin0
  replace Vs := Vs.keep K111 nin0
  replace A102 := A102.keep K111
  replace P103_3 := P103_3.keep K111
  replace B105 := B105.keep K111
  replace C105 := C105.keep K111 nin0
  replace F105 := F105.keep K111 nin0
  replace P110_0 := P110_0.keep K111 nin0
  replace P110_1 := P110_1.keep K111 nin0
  replace P110_2 := P110_2.keep K111 nin0
  replace P110_3 := P110_3.keep K111 nin0
  have OK111 := ext_keep OK110 K111 all0
  replace KP := KP.trans K111 all0
  refine Go.astoreN X111 hx (hb hby d12_53) rfl (l' := #[.val (.ref t), .val (.ref t_111)]) rfl (q := 54) rfl ?_
  refine Go.aloadN X111 hx (hb hby d12_54) rfl rfl (q := 55) rfl ?_
  refine Go.aloadN X111 hx (hb hby d12_55) rfl rfl (q := 56) rfl ?_
  refine Go.putF X111 hx hZ hown (host := "") (Or.inl (wd70 hw)) Via.refl e111 T2 Et (Or.inl (wd71 hw)) (wd32 hw) (ty := (.object xS0)) (by decide) rfl rfl (hb hby d12_56) (q := 59) rfl ?_
  intro T112 h112 X112 e112 W112 F112
  have N112 := Fr.snoc X112 N111 g_t
  replace sf_b102 := Safe.wr W112 (Safe.exa hZ.alike Et (by decide) (by decide)) hC.1 sf_b102
  replace sf_v_103 := Safe.wr W112 (Safe.exa hZ.alike Et (by decide) (by decide)) hC.1 sf_v_103
  replace sf_t_111 := Safe.wr W112 (Safe.exa hZ.alike Et (by decide) (by decide)) hC.1 sf_t_111
  replace sf_u_111 := Safe.wr W112 (Safe.exa hZ.alike Et (by decide) (by decide)) hC.1 sf_u_111
  replace hC := hC.trans (CHr.wr W112 (Safe.exa hZ.alike Et (by decide) (by decide)) hC.1)
  replace Et := Et.wr W112
  replace T0 := T0.other W112 (Or.inr (slot_ne (Or.inr (wd57 hw)) (Or.inl (wd71 hw)) (by decide) (t := .boolean) (t' := (.object xS0)) (by decide) (by decide)))
  replace T1 := T1.other W112 (Or.inr (slot_ne (Or.inr (wd59 hw)) (Or.inl (wd71 hw)) (by decide) (t := (.object xS0)) (t' := (.object xS0)) (by decide) (by decide)))
  replace Es := Es.wr W112
  replace A102 := A102.wr W112
  replace P103_3 := P103_3.wr W112
  replace B105 := B105.wr W112
  replace C105 := C105.other W112 (Or.inl ne_b105_t)
  replace F105 := F105.other W112 (Or.inl ne_b105_t)
  replace P110_0 := P110_0.other W112 (Or.inl (Ne.symm ne_t_b102))
  replace P110_1 := P110_1.other W112 (Or.inl (Ne.symm ne_t_b102))
  replace P110_2 := P110_2.other W112 (Or.inl (Ne.symm ne_t_b102))
  replace P110_3 := P110_3.other W112 (Ne.symm ne_t_v_103)
  replace P111_0 := P111_0.wr W112
  replace P111_1 := P111_1.other W112 (Or.inl (Ne.symm ne_t_t_111))
  replace P111_2 := P111_2.other W112 (Or.inl (Ne.symm ne_t_t_111))
  replace P111_3 := P111_3.other W112 (Ne.symm ne_t_u_111)
  have OW112 := ext_wr OK111 W112 g_t
  replace hKd := Nat.le_trans hKd (Keep.of_wr W112).1
  replace KP := KP.wr W112 (Or.inl (List.mem_of_getElem? (i := 0) rfl))
  refine Go.aloadN X112 hx (hb hby d12_59) rfl rfl (q := 60) rfl ?_
  exact Go.retAH X112 hx hS hKd hs0 hZ (own_EW hw) hC hret hlk rfl rfl (hb hby d12_60) e112 (by decide) (by decide) ⟨t_111, u_111, ku_111, rfl, N112, KP, T0, T1, F112, P111_0, P111_2, P111_1, P111_3⟩
def Q_ceqs (Z : State) (o : Addr) (h0 : Heap) (vR : Option Value) (hR : Heap) (LR : List Loc) : Prop := vR = some (.int 1) ∧ Fr Z.heap.size LR ∧ hR = h0
theorem ceqs (l : Launch) (Z : State) (a0 : Array Value) (hw : ∀ d ∈ tables_1, d.before a0 Z = true) (o : Addr) (h0 : Heap) (O0 : Ext Z.heap h0) :
    Ctr l Z h0 (⟨xS0, "equals", "(Ljava/lang/Object;)Z"⟩ : MethodName) k36 3 (some .boolean) [] ({ frames := 0, cells := 0, slots := 0, locals := 0 } : Room) #[(.ref o), (.ref o)] (Q_ceqs Z o h0) := by
  refine enter (plainFor_of_name pn1) ?_
  intro pp ee ss mm below meth cc s₁ hx hby hml hZ hown hnm hret hlk X0 e0 hs0
  replace hown : ss.vm.findClass xS0 = some mm.cls := hown
  refine Go.cast (congrArg s₁.setTop (ef_ceqs mm o o)) ?_
  have N0 := Fr.nil Z.heap.size
  show Go pp ee below _ (s₁.setTop (mkF mm 0 #[.val (.ref o), .val (.ref o), .unset] []))
  refine Go.aloadN X0 hx (hb hby d36_0) rfl rfl (q := 1) rfl ?_
  refine Go.aloadN X0 hx (hb hby d36_1) rfl rfl (q := 2) rfl ?_
  refine Go.acmp X0 hx rfl rfl (hb hby d36_2) (same := true) (decide_eq_true rfl) (q := 5) (by decide) (by decide) ?_
  refine Go.iconst X0 hx (hb hby d36_5) (r := (1 : Int32)) rfl (q := 6) rfl ?_
  exact Go.retI X0 hx hret hlk (by simp) rfl (hb hby d36_6) e0 (by decide) (by decide) ⟨rfl, N0, rfl⟩
def Q_law0 (Z : State) (pn pa pb pd cs : Int32) (fm : Value) (h0 : Heap) (vR : Option Value) (hR : Heap) (LR : List Loc) : Prop := vR = some (.int 1) ∧ Fr Z.heap.size LR
theorem law0 (l : Launch) (Z : State) (a0 : Array Value) (hw : ∀ d ∈ tables_1, d.before a0 Z = true) (pn pa pb pd cs : Int32) (fm : Value) (h0 : Heap) (O0 : Ext Z.heap h0) (SCS : Sta Z Z.heap xS0 xS3 "Z" (.int cs)) (SFM : Sta Z Z.heap xS5 "SIOOBE_FORMATTER" "Ljava/util/function/BiFunction;" fm) (hcs : ¬ (cs = (0 : Int32))) (hfm : fm.isRef = true) :
    CtrH l Z consts_1 h0 x code maxLocals ret tables_1 room_1 #[(.int pn), (.int pa), (.int pb), (.int pd)] (Q_law0 Z pn pa pb pd cs fm h0) := by
  refine enterH (plainFor_of_name pn0) ?_
  intro pp ee ss mm below meth cc s₁ hx hby hml hZ hown hnm hret hlk X0 e0 hs0 hS hC
  replace hown : (ss.setVm ss.vm).vm.findClass "com/example/match_before_write/matchbeforewrite/EntityTagWeakPinLaw" = some mm.cls := hown
  have hKd := Nat.zero_le h0.size
  refine Go.cast (congrArg s₁.setTop (ef_law0 mm pn pa pb pd)) ?_
  have N0 := Fr.nil Z.heap.size
  show Go pp ee below _ (s₁.setTop (mkF mm 0 #[.val (.int pn), .val (.int pa), .val (.int pb), .val (.int pd), .unset, .unset, .unset, .unset, .unset, .unset, .unset, .unset, .unset, .unset] []))
  refine Go.iloadN X0 hx (hb hby at_0) rfl (q := 1) rfl ?_
  refine Go.iconst X0 hx (hb hby at_1) (r := (3 : Int32)) rfl (q := 2) rfl ?_
  refine Go.iand X0 hx (hb hby at_2) rfl (q := 3) rfl ?_
  have hk := own_and3 pn
  generalize (pn &&& (3 : Int32)) = k at hk ⊢
  rcases hk with rfl | rfl | rfl | rfl
  · show Go pp ee below _ (s₁.setTop (mkF mm 3 #[.val (.int pn), .val (.int pa), .val (.int pb), .val (.int pd), .unset, .unset, .unset, .unset, .unset, .unset, .unset, .unset, .unset, .unset] [(.int 0)]))
    refine Go.istore X0 hx (hb hby at_3) (l' := #[.val (.int pn), .val (.int pa), .val (.int pb), .val (.int pd), .val (.int 0), .unset, .unset, .unset, .unset, .unset, .unset, .unset, .unset, .unset]) rfl (q := 5) rfl ?_
    refine Go.iloadN X0 hx (hb hby at_5) rfl (q := 6) rfl ?_
    refine Go.callS X0 hx hZ hown (wd0 hw) (wd1 hw) (wd2 hw) (wd3 hw) (by decide) (cetg l Z a0 hw pa h0 O0) e0 (by rw [hml]; rfl) (hb hby at_6) (argsL := [(.int pa)]) (rest := []) (lenOf pd11 rfl) rfl rfl (W := 0) (by first | exact Nat.le_refl _ | decide) (by decide) (by decide) (by decide) (by decide) ?_
    intro v101 T101 L101 X101 hQ101
    obtain ⟨y_101, rfl, N101q, e101, P101_0⟩ := hQ101
    have N101 := Fr.app N0 N101q
    have hk102 : nar .char y_101 = y_101 := own_ecn P101_0
    have hk103 : ¬ ((255 : Int32) < y_101) := own_ec255 P101_0
    refine Go.istore X101 hx (hb hby at_9) (l' := #[.val (.int pn), .val (.int pa), .val (.int pb), .val (.int pd), .val (.int 0), .val (.int y_101), .unset, .unset, .unset, .unset, .unset, .unset, .unset, .unset]) rfl (q := 11) rfl ?_
    refine Go.iloadN X101 hx (hb hby at_11) rfl (q := 12) rfl ?_
    refine Go.callS X101 hx hZ hown (wd0 hw) (wd1 hw) (wd2 hw) (wd3 hw) (by decide) (cetg l Z a0 hw pb h0 O0) e101 (by rw [hml]; rfl) (hb hby at_12) (argsL := [(.int pb)]) (rest := []) (lenOf pd11 rfl) rfl rfl (W := 0) (by first | exact Nat.le_refl _ | decide) (by decide) (by decide) (by decide) (by decide) ?_
    intro v104 T104 L104 X104 hQ104
    obtain ⟨y_104, rfl, N104q, e104, P104_0⟩ := hQ104
    have N104 := Fr.app N101 N104q
    have hk105 : nar .char y_104 = y_104 := own_ecn P104_0
    have hk106 : ¬ ((255 : Int32) < y_104) := own_ec255 P104_0
    refine Go.istore X104 hx (hb hby at_15) (l' := #[.val (.int pn), .val (.int pa), .val (.int pb), .val (.int pd), .val (.int 0), .val (.int y_101), .val (.int y_104), .unset, .unset, .unset, .unset, .unset, .unset, .unset]) rfl (q := 17) rfl ?_
    refine Go.iloadN X104 hx (hb hby at_17) rfl (q := 18) rfl ?_
    refine Go.callS X104 hx hZ hown (wd0 hw) (wd1 hw) (wd2 hw) (wd3 hw) (by decide) (cetg l Z a0 hw pd h0 O0) e104 (by rw [hml]; rfl) (hb hby at_18) (argsL := [(.int pd)]) (rest := []) (lenOf pd11 rfl) rfl rfl (W := 0) (by first | exact Nat.le_refl _ | decide) (by decide) (by decide) (by decide) (by decide) ?_
    intro v107 T107 L107 X107 hQ107
    obtain ⟨y_107, rfl, N107q, e107, P107_0⟩ := hQ107
    have N107 := Fr.app N104 N107q
    have hk108 : nar .char y_107 = y_107 := own_ecn P107_0
    have hk109 : ¬ ((255 : Int32) < y_107) := own_ec255 P107_0
    refine Go.istore X107 hx (hb hby at_21) (l' := #[.val (.int pn), .val (.int pa), .val (.int pb), .val (.int pd), .val (.int 0), .val (.int y_101), .val (.int y_104), .val (.int y_107), .unset, .unset, .unset, .unset, .unset, .unset]) rfl (q := 23) rfl ?_
    refine Go.iload X107 hx (hb hby at_23) rfl (q := 25) rfl ?_
    refine Go.ifNo X107 hx (hb hby at_25) (by decide) (q := 28) rfl ?_
    refine Go.iconst X107 hx (hb hby at_28) (r := (0 : Int32)) rfl (q := 29) rfl ?_
    refine Go.newP X107 hx hZ (hb hby at_29) (wd5 hw) e107 (by decide) (cap := 0) (by decide) (by decide) (by decide) (by decide) (ad := "[C") rfl (q := 31) rfl ?_
    intro b110 T110 h110 k110 X110 e110 q110 E110 V110 B110
    have g_b110 : Z.heap.size ≤ b110 := Nat.le_trans O0.1 (Nat.le_of_eq q110)
    replace hC := hC.trans (CHr.ext E110 hC.1)
    have OE110 := ext_trans O0 E110
    replace hKd := Nat.le_trans hKd E110.1
    replace V110 : Arv Z h110 b110 k110 .char (0 : Int32) [] (.int 0) := V110
    refine Go.astore X110 hx (hb hby at_31) rfl (l' := #[.val (.int pn), .val (.int pa), .val (.int pb), .val (.int pd), .val (.int 0), .val (.int y_101), .val (.int y_104), .val (.int y_107), .val (.ref b110), .unset, .unset, .unset, .unset, .unset]) rfl (q := 33) rfl ?_
    refine Go.goto X110 hx (hb hby at_33) (q := 99) (by decide) (by decide) ?_
    refine Go.newO X110 hx hZ hown (wd6 hw) (wd7 hw) (wd8 hw) e110 (hb hby at_99) (by decide) (by decide) (q := 102) rfl ?_
    intro b111 T111 h111 X111 e111 q111 E111 A111 D111 U111
    have ne_b110_b111 : b110 ≠ b111 := ne_new B110.lt (Nat.le_of_eq q111)
    have g_b111 : Z.heap.size ≤ b111 := Nat.le_trans OE110.1 (Nat.le_of_eq q111)
    replace hC := hC.trans (CHr.ext E111 hC.1)
    replace B110 := B110.ext E111
    replace V110 := V110.ext E111
    have OE111 := ext_trans OE110 E111
    replace hKd := Nat.le_trans hKd E111.1
    have F111_value : Fld Z h111 b111 xS0 "value" "[B" .null := D111 (Or.inr (wd21 hw)) (ty := (.array .byte)) (by decide)
    have F111_coder : Fld Z h111 b111 xS0 "coder" "B" (.int 0) := D111 (Or.inr (wd22 hw)) (ty := .byte) (by decide)
    clear D111
    refine Go.dup X111 hx (hb hby at_102) rfl (q := 103) rfl ?_
    refine Go.aload X111 hx (hb hby at_103) rfl rfl (q := 105) rfl ?_
    refine Go.initH X111 hx hZ hown hS hKd (own_EW hw) hC rfl (wd9 hw) (wd10 hw) (wd8 hw) (wd11 hw) (by decide) (csj0 l Z a0 hw b111 b110 (k110) h111 OE111 A111 F111_value F111_coder g_b111 V110) e111 (by rw [hml]; rfl) (hb hby at_105) (argsL := [(.ref b110)]) (rest := [(.ref b111)]) (lenOf pd30 rfl) rfl rfl (W := 1) (by first | exact Nat.le_refl _ | decide) (by decide) (by decide) (by decide) (by decide) ?_
    intro v112 T112 L112 k112 X112 hS hKd hZ hown hR112 hQ112
    obtain ⟨h112, e112⟩ : ∃ z, T112.heap = z := ⟨_, rfl⟩
    rw [e112] at hQ112 hKd hR112
    obtain ⟨b_112, kb_112, rfl, N112q, K112, P112_0, P112_1, P112_2⟩ := hQ112
    have N112 := Fr.app N107 N112q
    replace hC := hC.trans hR112
    replace B110 := B110.keep K112
    replace V110 := V110.keep K112 (ninS ne_b110_b111 nin0)
    replace A111 := A111.keep K112
    have OK112 := ext_keep OE111 K112 (allS g_b111 all0)
    refine Go.astore X112 hx (hb hby at_108) rfl (l' := #[.val (.int pn), .val (.int pa), .val (.int pb), .val (.int pd), .val (.int 0), .val (.int y_101), .val (.int y_104), .val (.int y_107), .val (.ref b110), .val (.ref b111), .unset, .unset, .unset, .unset]) rfl (q := 110) rfl ?_
    refine Go.aload X112 hx (hb hby at_110) rfl rfl (q := 112) rfl ?_
    refine Go.callSH X112 hx hZ hown hS hKd (own_EW hw) hC (wd27 hw) (wd28 hw) (wd29 hw) (wd30 hw) (by decide) (cwk0 l Z a0 hw b111 b_112 (kb_112) cs fm h112 OK112 A111 P112_1 P112_0 P112_2 SCS SFM hcs hfm) e112 (by rw [hml]; rfl) (hb hby at_112) (argsL := [(.ref b111)]) (rest := []) (lenOf pd31 rfl) rfl rfl (W := 0) (by first | exact Nat.le_refl _ | decide) (by decide) (by decide) (by decide) (by decide) ?_
    intro v113 T113 L113 k113 X113 hS hKd hZ hown hR113 hQ113
    obtain ⟨h113, e113⟩ : ∃ z, T113.heap = z := ⟨_, rfl⟩
    rw [e113] at hQ113 hKd hR113
    obtain ⟨t_113, rfl, N113q, K113, fr113_t, P113_0, P113_1, P113_2, P113_3⟩ := hQ113
    have N113 := Fr.app N112 N113q
    replace hC := hC.trans hR113
    have ne_b110_t_113 : b110 ≠ t_113 := ne_new B110.lt fr113_t
    have ne_b111_t_113 : b111 ≠ t_113 := ne_new A111.lt fr113_t
    have ne_b_112_t_113 : b_112 ≠ t_113 := ne_new P112_2.lt fr113_t
    have g_t_113 : Z.heap.size ≤ t_113 := Nat.le_trans OK112.1 fr113_t
    replace B110 := B110.keep K113
    replace V110 := V110.keep K113 nin0
    replace A111 := A111.keep K113
    replace P112_0 := P112_0.keep K113 nin0
    replace P112_1 := P112_1.keep K113 nin0
    replace P112_2 := P112_2.keep K113 nin0
    have OK113 := ext_keep OK112 K113 all0
    refine Go.astore X113 hx (hb hby at_115) rfl (l' := #[.val (.int pn), .val (.int pa), .val (.int pb), .val (.int pd), .val (.int 0), .val (.int y_101), .val (.int y_104), .val (.int y_107), .val (.ref b110), .val (.ref b111), .val (.ref t_113), .unset, .unset, .unset]) rfl (q := 117) rfl ?_
    refine Go.aload X113 hx (hb hby at_117) rfl rfl (q := 119) rfl ?_
    refine Go.virt X113 hx hZ hown (wd60 hw) (wd61 hw) (notFace_of_selects (args := #[]) (mvT hZ (wd63 hw))) (wd63 hw) (wd62 hw) (wd29 hw) (wd64 hw) (by decide) (cval l Z a0 hw t_113 b111 h113 OK113 P113_2) e113 P113_0 (by rw [hml]; rfl) (hb hby at_119) (argsL := []) (rest := []) (lenOf pd29 rfl) rfl rfl (W := 0) (by first | exact Nat.le_refl _ | decide) (by decide) (by decide) (by decide) (by decide) ?_
    intro v114 T114 L114 X114 hQ114
    obtain ⟨rfl, N114q, e114⟩ := hQ114
    have N114 := Fr.app N113 N114q
    refine Go.astore X114 hx (hb hby at_122) rfl (l' := #[.val (.int pn), .val (.int pa), .val (.int pb), .val (.int pd), .val (.int 0), .val (.int y_101), .val (.int y_104), .val (.int y_107), .val (.ref b110), .val (.ref b111), .val (.ref t_113), .val (.ref b111), .unset, .unset]) rfl (q := 124) rfl ?_
    refine Go.aload X114 hx (hb hby at_124) rfl rfl (q := 126) rfl ?_
    refine Go.virtH X114 hx hZ hown hS hKd (own_EW hw) hC (wd65 hw) (wd66 hw) (notFace_of_selects (args := #[]) (mvT hZ (wd68 hw))) (wd68 hw) (wd67 hw) (wd29 hw) (wd69 hw) (by decide) (ctos l Z a0 hw t_113 b111 b_112 (kb_112) cs ((0 : Int32)) ([]) ([(.int 87), (.int 47), (.int 34), (.int 0), (.int 0), (.int 0), (.int 0)]) ([(.int 87), (.int 47), (.int 34), (.int 34), (.int 0), (.int 0), (.int 0)]) ([(.int 87), (.int 47), (.int 34), (.int 34)]) h113 OK113 P113_0 g_t_113 P113_1 P113_2 P113_3 A111 P112_1 P112_0 P112_2 SCS hcs ⟨⟨by decide, by decide, by decide⟩, by decide, by decide, rfl, Nat.le_of_ble_eq_true rfl, rfl⟩ (by decide) ⟨⟨by decide, by decide⟩, Nat.le_of_ble_eq_true rfl, rfl⟩ (by decide) ⟨⟨by decide, by decide⟩, by decide, rfl⟩) e114 P113_0 (by rw [hml]; rfl) (hb hby at_126) (argsL := []) (rest := []) (lenOf pd29 rfl) rfl rfl (W := 0) (by first | exact Nat.le_refl _ | decide) (by decide) (by decide) (by decide) (by decide) ?_
    intro v115 T115 L115 k115 X115 hS hKd hZ hown hR115 hQ115
    obtain ⟨h115, e115⟩ : ∃ z, T115.heap = z := ⟨_, rfl⟩
    rw [e115] at hQ115 hKd hR115
    obtain ⟨w_115, u_115, ku_115, rfl, N115q, K115, P115_0, P115_1, P115_2, P115_3, P115_4, P115_5, P115_6⟩ := hQ115
    have N115 := Fr.app N114 N115q
    replace hC := hC.trans hR115
    replace B110 := B110.keep K115
    replace V110 := V110.keep K115 (ninS ne_b110_t_113 nin0)
    replace A111 := A111.keep K115
    replace P112_0 := P112_0.keep K115 (ninS ne_b111_t_113 nin0)
    replace P112_1 := P112_1.keep K115 (ninS ne_b111_t_113 nin0)
    replace P112_2 := P112_2.keep K115 (ninS ne_b_112_t_113 nin0)
    replace P113_0 := P113_0.keep K115
    have OK115 := ext_keep OK113 K115 (allS g_t_113 all0)
    refine Go.astore X115 hx (hb hby at_129) rfl (l' := #[.val (.int pn), .val (.int pa), .val (.int pb), .val (.int pd), .val (.int 0), .val (.int y_101), .val (.int y_104), .val (.int y_107), .val (.ref b110), .val (.ref b111), .val (.ref t_113), .val (.ref b111), .val (.ref w_115), .unset]) rfl (q := 131) rfl ?_
    refine Go.aload X115 hx (hb hby at_131) rfl rfl (q := 133) rfl ?_
    refine Go.virt X115 hx hZ hown (wd188 hw) (wd189 hw) (notFace_of_selects (args := #[]) (mvT hZ (wd191 hw))) (wd191 hw) (wd190 hw) (wd29 hw) (wd192 hw) (by decide) (cisw l Z a0 hw t_113 h115 OK115 P115_0) e115 P113_0 (by rw [hml]; rfl) (hb hby at_133) (argsL := []) (rest := []) (lenOf pd7 rfl) rfl rfl (W := 0) (by first | exact Nat.le_refl _ | decide) (by decide) (by decide) (by decide) (by decide) ?_
    intro v116 T116 L116 X116 hQ116
    obtain ⟨rfl, N116q, e116⟩ := hQ116
    have N116 := Fr.app N115 N116q
    refine Go.ifNo X116 hx (hb hby at_136) (by decide) (q := 139) rfl ?_
    refine Go.aload X116 hx (hb hby at_139) rfl rfl (q := 141) rfl ?_
    refine Go.aload X116 hx (hb hby at_141) rfl rfl (q := 143) rfl ?_
    refine Go.virt X116 hx hZ hown (wd193 hw) (wd194 hw) (notFace_of_selects (args := #[]) (mvT hZ (wd196 hw))) (wd196 hw) (wd195 hw) (wd8 hw) (wd197 hw) (by decide) (ceqs l Z a0 hw b111 h115 OK115) e116 A111 (by rw [hml]; rfl) (hb hby at_143) (argsL := [(.ref b111)]) (rest := []) (lenOf pd32 rfl) rfl rfl (W := 0) (by first | exact Nat.le_refl _ | decide) (by decide) (by decide) (by decide) (by decide) ?_
    intro v117 T117 L117 X117 hQ117
    obtain ⟨rfl, N117q, e117⟩ := hQ117
    have N117 := Fr.app N116 N117q
    refine Go.ifNo X117 hx (hb hby at_146) (by decide) (q := 149) rfl ?_
    refine Go.aload X117 hx (hb hby at_149) rfl rfl (q := 151) rfl ?_
    refine Go.virt X117 hx hZ hown (wd198 hw) (wd42 hw) (notFace_of_selects (args := #[]) (mvT hZ (wd44 hw))) (wd44 hw) (wd43 hw) (wd8 hw) (wd45 hw) (by decide) (clen l Z a0 hw b111 cs b_112 (kb_112) ((0 : Int32)) ([]) h115 OK115 A111 P112_1 P112_0 P112_2 SCS hcs) e117 A111 (by rw [hml]; rfl) (hb hby at_151) (argsL := []) (rest := []) (lenOf pd10 rfl) rfl rfl (W := 0) (by first | exact Nat.le_refl _ | decide) (by decide) (by decide) (by decide) (by decide) ?_
    intro v118 T118 L118 X118 hQ118
    obtain ⟨rfl, N118q, e118⟩ := hQ118
    have N118 := Fr.app N117 N118q
    refine Go.iload X118 hx (hb hby at_154) rfl (q := 156) rfl ?_
    refine Go.icmpNo X118 hx (hb hby at_156) (by decide) (q := 159) rfl ?_
    refine Go.iconst X118 hx (hb hby at_159) (r := (1 : Int32)) rfl (q := 160) rfl ?_
    refine Go.goto X118 hx (hb hby at_160) (q := 164) (by decide) (by decide) ?_
    refine Go.istore X118 hx (hb hby at_164) (l' := #[.val (.int pn), .val (.int pa), .val (.int pb), .val (.int pd), .val (.int 0), .val (.int y_101), .val (.int y_104), .val (.int y_107), .val (.ref b110), .val (.ref b111), .val (.ref t_113), .val (.ref b111), .val (.ref w_115), .val (.int 1)]) rfl (q := 166) rfl ?_
    refine Go.iload X118 hx (hb hby at_166) rfl (q := 168) rfl ?_
    refine Go.ifNo X118 hx (hb hby at_168) (by decide) (q := 171) rfl ?_
    refine Go.aload X118 hx (hb hby at_171) rfl rfl (q := 173) rfl ?_
    refine Go.virt X118 hx hZ hown (wd198 hw) (wd42 hw) (notFace_of_selects (args := #[]) (mvT hZ (wd44 hw))) (wd44 hw) (wd43 hw) (wd8 hw) (wd45 hw) (by decide) (clen l Z a0 hw w_115 cs u_115 (ku_115) ((4 : Int32)) ([(.int 87), (.int 47), (.int 34), (.int 34)]) h115 OK115 P115_3 P115_4 P115_5 P115_6 SCS hcs) e118 P115_3 (by rw [hml]; rfl) (hb hby at_173) (argsL := []) (rest := []) (lenOf pd10 rfl) rfl rfl (W := 0) (by first | exact Nat.le_refl _ | decide) (by decide) (by decide) (by decide) (by decide) ?_
    intro v119 T119 L119 X119 hQ119
    obtain ⟨rfl, N119q, e119⟩ := hQ119
    have N119 := Fr.app N118 N119q
    refine Go.iload X119 hx (hb hby at_176) rfl (q := 178) rfl ?_
    refine Go.iconst X119 hx (hb hby at_178) (r := (4 : Int32)) rfl (q := 179) rfl ?_
    refine Go.iadd X119 hx (hb hby at_179) (r := (4 : Int32)) rfl (q := 180) rfl ?_
    refine Go.icmpNo X119 hx (hb hby at_180) (by decide) (q := 183) rfl ?_
    refine Go.aload X119 hx (hb hby at_183) rfl rfl (q := 185) rfl ?_
    refine Go.iconst X119 hx (hb hby at_185) (r := (0 : Int32)) rfl (q := 186) rfl ?_
    refine Go.virt X119 hx hZ hown (wd199 hw) (wd200 hw) (notFace_of_selects (args := #[]) (mvT hZ (wd202 hw))) (wd202 hw) (wd201 hw) (wd8 hw) (wd203 hw) (by decide) (cchar l Z a0 hw w_115 ((0 : Int32)) cs u_115 (ku_115) ((4 : Int32)) ([(.int 87), (.int 47), (.int 34), (.int 34)]) ((87 : Int32)) fm h115 OK115 P115_3 P115_4 P115_5 P115_6 SCS SFM hcs hfm (by decide) (by decide) rfl) e119 P115_3 (by rw [hml]; rfl) (hb hby at_186) (argsL := [(.int 0)]) (rest := []) (lenOf pd11 rfl) rfl rfl (W := 0) (by first | exact Nat.le_refl _ | decide) (by decide) (by decide) (by decide) (by decide) ?_
    intro v120 T120 L120 X120 hQ120
    obtain ⟨rfl, N120q, e120⟩ := hQ120
    have N120 := Fr.app N119 N120q
    refine Go.bipush X120 hx (hb hby at_189) (r := (87 : Int32)) rfl (q := 191) rfl ?_
    refine Go.icmpNo X120 hx (hb hby at_191) (by decide) (q := 194) rfl ?_
    refine Go.aload X120 hx (hb hby at_194) rfl rfl (q := 196) rfl ?_
    refine Go.iconst X120 hx (hb hby at_196) (r := (1 : Int32)) rfl (q := 197) rfl ?_
    refine Go.virt X120 hx hZ hown (wd199 hw) (wd200 hw) (notFace_of_selects (args := #[]) (mvT hZ (wd202 hw))) (wd202 hw) (wd201 hw) (wd8 hw) (wd203 hw) (by decide) (cchar l Z a0 hw w_115 ((1 : Int32)) cs u_115 (ku_115) ((4 : Int32)) ([(.int 87), (.int 47), (.int 34), (.int 34)]) ((47 : Int32)) fm h115 OK115 P115_3 P115_4 P115_5 P115_6 SCS SFM hcs hfm (by decide) (by decide) rfl) e120 P115_3 (by rw [hml]; rfl) (hb hby at_197) (argsL := [(.int 1)]) (rest := []) (lenOf pd11 rfl) rfl rfl (W := 0) (by first | exact Nat.le_refl _ | decide) (by decide) (by decide) (by decide) (by decide) ?_
    intro v121 T121 L121 X121 hQ121
    obtain ⟨rfl, N121q, e121⟩ := hQ121
    have N121 := Fr.app N120 N121q
    refine Go.bipush X121 hx (hb hby at_200) (r := (47 : Int32)) rfl (q := 202) rfl ?_
    refine Go.icmpNo X121 hx (hb hby at_202) (by decide) (q := 205) rfl ?_
    refine Go.aload X121 hx (hb hby at_205) rfl rfl (q := 207) rfl ?_
    refine Go.iconst X121 hx (hb hby at_207) (r := (2 : Int32)) rfl (q := 208) rfl ?_
    refine Go.virt X121 hx hZ hown (wd199 hw) (wd200 hw) (notFace_of_selects (args := #[]) (mvT hZ (wd202 hw))) (wd202 hw) (wd201 hw) (wd8 hw) (wd203 hw) (by decide) (cchar l Z a0 hw w_115 ((2 : Int32)) cs u_115 (ku_115) ((4 : Int32)) ([(.int 87), (.int 47), (.int 34), (.int 34)]) ((34 : Int32)) fm h115 OK115 P115_3 P115_4 P115_5 P115_6 SCS SFM hcs hfm (by decide) (by decide) rfl) e121 P115_3 (by rw [hml]; rfl) (hb hby at_208) (argsL := [(.int 2)]) (rest := []) (lenOf pd11 rfl) rfl rfl (W := 0) (by first | exact Nat.le_refl _ | decide) (by decide) (by decide) (by decide) (by decide) ?_
    intro v122 T122 L122 X122 hQ122
    obtain ⟨rfl, N122q, e122⟩ := hQ122
    have N122 := Fr.app N121 N122q
    refine Go.bipush X122 hx (hb hby at_211) (r := (34 : Int32)) rfl (q := 213) rfl ?_
    refine Go.icmpNo X122 hx (hb hby at_213) (by decide) (q := 216) rfl ?_
    refine Go.aload X122 hx (hb hby at_216) rfl rfl (q := 218) rfl ?_
    refine Go.iload X122 hx (hb hby at_218) rfl (q := 220) rfl ?_
    refine Go.iconst X122 hx (hb hby at_220) (r := (3 : Int32)) rfl (q := 221) rfl ?_
    refine Go.iadd X122 hx (hb hby at_221) (r := (3 : Int32)) rfl (q := 222) rfl ?_
    refine Go.virt X122 hx hZ hown (wd199 hw) (wd200 hw) (notFace_of_selects (args := #[]) (mvT hZ (wd202 hw))) (wd202 hw) (wd201 hw) (wd8 hw) (wd203 hw) (by decide) (cchar l Z a0 hw w_115 ((3 : Int32)) cs u_115 (ku_115) ((4 : Int32)) ([(.int 87), (.int 47), (.int 34), (.int 34)]) ((34 : Int32)) fm h115 OK115 P115_3 P115_4 P115_5 P115_6 SCS SFM hcs hfm (by decide) (by decide) rfl) e122 P115_3 (by rw [hml]; rfl) (hb hby at_222) (argsL := [(.int 3)]) (rest := []) (lenOf pd11 rfl) rfl rfl (W := 0) (by first | exact Nat.le_refl _ | decide) (by decide) (by decide) (by decide) (by decide) ?_
    intro v123 T123 L123 X123 hQ123
    obtain ⟨rfl, N123q, e123⟩ := hQ123
    have N123 := Fr.app N122 N123q
    refine Go.bipush X123 hx (hb hby at_225) (r := (34 : Int32)) rfl (q := 227) rfl ?_
    refine Go.icmpNo X123 hx (hb hby at_227) (by decide) (q := 230) rfl ?_
    refine Go.iconst X123 hx (hb hby at_230) (r := (1 : Int32)) rfl (q := 231) rfl ?_
    refine Go.goto X123 hx (hb hby at_231) (q := 235) (by decide) (by decide) ?_
    refine Go.istore X123 hx (hb hby at_235) (l' := #[.val (.int pn), .val (.int pa), .val (.int pb), .val (.int pd), .val (.int 0), .val (.int y_101), .val (.int y_104), .val (.int y_107), .val (.ref b110), .val (.ref b111), .val (.ref t_113), .val (.ref b111), .val (.ref w_115), .val (.int 1)]) rfl (q := 237) rfl ?_
    refine Go.iload X123 hx (hb hby at_237) rfl (q := 239) rfl ?_
    refine Go.ifNo X123 hx (hb hby at_239) (by decide) (q := 242) rfl ?_
    refine Go.iload X123 hx (hb hby at_242) rfl (q := 244) rfl ?_
    refine Go.iconst X123 hx (hb hby at_244) (r := (1 : Int32)) rfl (q := 245) rfl ?_
    refine Go.icmpYes X123 hx (hb hby at_245) (by decide) (q := 259) (by decide) (by decide) ?_
    refine Go.iload X123 hx (hb hby at_259) rfl (q := 261) rfl ?_
    refine Go.iconst X123 hx (hb hby at_261) (r := (2 : Int32)) rfl (q := 262) rfl ?_
    refine Go.icmpYes X123 hx (hb hby at_262) (by decide) (q := 276) (by decide) (by decide) ?_
    refine Go.iload X123 hx (hb hby at_276) rfl (q := 278) rfl ?_
    refine Go.iconst X123 hx (hb hby at_278) (r := (3 : Int32)) rfl (q := 279) rfl ?_
    refine Go.icmpYes X123 hx (hb hby at_279) (by decide) (q := 293) (by decide) (by decide) ?_
    refine Go.iconst X123 hx (hb hby at_293) (r := (1 : Int32)) rfl (q := 294) rfl ?_
    refine Go.goto X123 hx (hb hby at_294) (q := 298) (by decide) (by decide) ?_
    refine Go.istore X123 hx (hb hby at_298) (l' := #[.val (.int pn), .val (.int pa), .val (.int pb), .val (.int pd), .val (.int 0), .val (.int y_101), .val (.int y_104), .val (.int y_107), .val (.ref b110), .val (.ref b111), .val (.ref t_113), .val (.ref b111), .val (.ref w_115), .val (.int 1)]) rfl (q := 300) rfl ?_
    refine Go.iload X123 hx (hb hby at_300) rfl (q := 302) rfl ?_
    exact Go.retIH X123 hx hS hKd hs0 hZ (own_EW hw) hC hret hlk (by simp) rfl (hb hby at_302) e123 (by decide) (by decide) ⟨rfl, N123⟩
  · show Go pp ee below _ (s₁.setTop (mkF mm 3 #[.val (.int pn), .val (.int pa), .val (.int pb), .val (.int pd), .unset, .unset, .unset, .unset, .unset, .unset, .unset, .unset, .unset, .unset] [(.int 1)]))
    refine Go.istore X0 hx (hb hby at_3) (l' := #[.val (.int pn), .val (.int pa), .val (.int pb), .val (.int pd), .val (.int 1), .unset, .unset, .unset, .unset, .unset, .unset, .unset, .unset, .unset]) rfl (q := 5) rfl ?_
    refine Go.iloadN X0 hx (hb hby at_5) rfl (q := 6) rfl ?_
    refine Go.callS X0 hx hZ hown (wd0 hw) (wd1 hw) (wd2 hw) (wd3 hw) (by decide) (cetg l Z a0 hw pa h0 O0) e0 (by rw [hml]; rfl) (hb hby at_6) (argsL := [(.int pa)]) (rest := []) (lenOf pd11 rfl) rfl rfl (W := 0) (by first | exact Nat.le_refl _ | decide) (by decide) (by decide) (by decide) (by decide) ?_
    intro v124 T124 L124 X124 hQ124
    obtain ⟨y_124, rfl, N124q, e124, P124_0⟩ := hQ124
    have N124 := Fr.app N0 N124q
    have hk125 : nar .char y_124 = y_124 := own_ecn P124_0
    have hk126 : ¬ ((255 : Int32) < y_124) := own_ec255 P124_0
    refine Go.istore X124 hx (hb hby at_9) (l' := #[.val (.int pn), .val (.int pa), .val (.int pb), .val (.int pd), .val (.int 1), .val (.int y_124), .unset, .unset, .unset, .unset, .unset, .unset, .unset, .unset]) rfl (q := 11) rfl ?_
    refine Go.iloadN X124 hx (hb hby at_11) rfl (q := 12) rfl ?_
    refine Go.callS X124 hx hZ hown (wd0 hw) (wd1 hw) (wd2 hw) (wd3 hw) (by decide) (cetg l Z a0 hw pb h0 O0) e124 (by rw [hml]; rfl) (hb hby at_12) (argsL := [(.int pb)]) (rest := []) (lenOf pd11 rfl) rfl rfl (W := 0) (by first | exact Nat.le_refl _ | decide) (by decide) (by decide) (by decide) (by decide) ?_
    intro v127 T127 L127 X127 hQ127
    obtain ⟨y_127, rfl, N127q, e127, P127_0⟩ := hQ127
    have N127 := Fr.app N124 N127q
    have hk128 : nar .char y_127 = y_127 := own_ecn P127_0
    have hk129 : ¬ ((255 : Int32) < y_127) := own_ec255 P127_0
    refine Go.istore X127 hx (hb hby at_15) (l' := #[.val (.int pn), .val (.int pa), .val (.int pb), .val (.int pd), .val (.int 1), .val (.int y_124), .val (.int y_127), .unset, .unset, .unset, .unset, .unset, .unset, .unset]) rfl (q := 17) rfl ?_
    refine Go.iloadN X127 hx (hb hby at_17) rfl (q := 18) rfl ?_
    refine Go.callS X127 hx hZ hown (wd0 hw) (wd1 hw) (wd2 hw) (wd3 hw) (by decide) (cetg l Z a0 hw pd h0 O0) e127 (by rw [hml]; rfl) (hb hby at_18) (argsL := [(.int pd)]) (rest := []) (lenOf pd11 rfl) rfl rfl (W := 0) (by first | exact Nat.le_refl _ | decide) (by decide) (by decide) (by decide) (by decide) ?_
    intro v130 T130 L130 X130 hQ130
    obtain ⟨y_130, rfl, N130q, e130, P130_0⟩ := hQ130
    have N130 := Fr.app N127 N130q
    have hk131 : nar .char y_130 = y_130 := own_ecn P130_0
    have hk132 : ¬ ((255 : Int32) < y_130) := own_ec255 P130_0
    refine Go.istore X130 hx (hb hby at_21) (l' := #[.val (.int pn), .val (.int pa), .val (.int pb), .val (.int pd), .val (.int 1), .val (.int y_124), .val (.int y_127), .val (.int y_130), .unset, .unset, .unset, .unset, .unset, .unset]) rfl (q := 23) rfl ?_
    refine Go.iload X130 hx (hb hby at_23) rfl (q := 25) rfl ?_
    refine Go.ifYes X130 hx (hb hby at_25) (by decide) (q := 36) (by decide) (by decide) ?_
    refine Go.iload X130 hx (hb hby at_36) rfl (q := 38) rfl ?_
    refine Go.iconst X130 hx (hb hby at_38) (r := (1 : Int32)) rfl (q := 39) rfl ?_
    refine Go.icmpNo X130 hx (hb hby at_39) (by decide) (q := 42) rfl ?_
    refine Go.iconst X130 hx (hb hby at_42) (r := (1 : Int32)) rfl (q := 43) rfl ?_
    refine Go.newP X130 hx hZ (hb hby at_43) (wd5 hw) e130 (by decide) (cap := 1) (by decide) (by decide) (by decide) (by decide) (ad := "[C") rfl (q := 45) rfl ?_
    intro b133 T133 h133 k133 X133 e133 q133 E133 V133 B133
    have g_b133 : Z.heap.size ≤ b133 := Nat.le_trans O0.1 (Nat.le_of_eq q133)
    replace hC := hC.trans (CHr.ext E133 hC.1)
    have OE133 := ext_trans O0 E133
    replace hKd := Nat.le_trans hKd E133.1
    replace V133 : Arv Z h133 b133 k133 .char (1 : Int32) [(.int 0)] (.int 0) := V133.pad (pad_rep [] (.int 0) 1)
    refine Go.dup X133 hx (hb hby at_45) rfl (q := 46) rfl ?_
    refine Go.iconst X133 hx (hb hby at_46) (r := (0 : Int32)) rfl (q := 47) rfl ?_
    refine Go.iload X133 hx (hb hby at_47) rfl (q := 49) rfl ?_
    refine Go.cst X133 hx hZ e133 V133 ⟨by decide, by decide⟩ (i := 0) rfl (Nat.le_of_ble_eq_true rfl) (hb hby at_49) ?_
    intro T134 h134 X134 e134 W134 V134
    rw [hk125] at V134
    replace V134 : Arv Z h134 b133 k133 .char (1 : Int32) [(.int y_124)] (.int 0) := V134
    have N134 := Fr.snoc X134 N130 g_b133
    replace hC := hC.trans (CHr.wr W134 (Safe.exa hZ.alike B133 (by decide) (by decide)) hC.1)
    replace B133 := B133.wr W134
    have OW134 := ext_wr OE133 W134 g_b133
    replace hKd := Nat.le_trans hKd (Keep.of_wr W134).1
    refine Go.astore X134 hx (hb hby at_50) rfl (l' := #[.val (.int pn), .val (.int pa), .val (.int pb), .val (.int pd), .val (.int 1), .val (.int y_124), .val (.int y_127), .val (.int y_130), .val (.ref b133), .unset, .unset, .unset, .unset, .unset]) rfl (q := 52) rfl ?_
    refine Go.goto X134 hx (hb hby at_52) (q := 99) (by decide) (by decide) ?_
    refine Go.newO X134 hx hZ hown (wd6 hw) (wd7 hw) (wd8 hw) e134 (hb hby at_99) (by decide) (by decide) (q := 102) rfl ?_
    intro b135 T135 h135 X135 e135 q135 E135 A135 D135 U135
    have ne_b133_b135 : b133 ≠ b135 := ne_new B133.lt (Nat.le_of_eq q135)
    have g_b135 : Z.heap.size ≤ b135 := Nat.le_trans OW134.1 (Nat.le_of_eq q135)
    replace hC := hC.trans (CHr.ext E135 hC.1)
    replace B133 := B133.ext E135
    replace V134 := V134.ext E135
    have OE135 := ext_trans OW134 E135
    replace hKd := Nat.le_trans hKd E135.1
    have F135_value : Fld Z h135 b135 xS0 "value" "[B" .null := D135 (Or.inr (wd21 hw)) (ty := (.array .byte)) (by decide)
    have F135_coder : Fld Z h135 b135 xS0 "coder" "B" (.int 0) := D135 (Or.inr (wd22 hw)) (ty := .byte) (by decide)
    clear D135
    refine Go.dup X135 hx (hb hby at_102) rfl (q := 103) rfl ?_
    refine Go.aload X135 hx (hb hby at_103) rfl rfl (q := 105) rfl ?_
    refine Go.init X135 hx hZ hown rfl (wd9 hw) (wd10 hw) (wd8 hw) (wd11 hw) (by decide) (csj1 l Z a0 hw b135 b133 (k133) y_124 cs h135 OE135 A135 F135_value F135_coder g_b135 V134 SCS hcs hk126) e135 (by rw [hml]; rfl) (hb hby at_105) (argsL := [(.ref b133)]) (rest := [(.ref b135)]) (lenOf pd30 rfl) rfl rfl (W := 1) (by first | exact Nat.le_refl _ | decide) (by decide) (by decide) (by decide) (by decide) ?_
    intro v136 T136 L136 X136 hQ136
    obtain ⟨h136, e136⟩ : ∃ z, T136.heap = z := ⟨_, rfl⟩
    rw [e136] at hQ136
    obtain ⟨b_136, kb_136, rfl, N136q, K136, fr136_b, P136_0, P136_1, P136_2⟩ := hQ136
    have N136 := Fr.app N134 N136q
    have ne_b133_b_136 : b133 ≠ b_136 := ne_new B133.lt fr136_b
    have ne_b135_b_136 : b135 ≠ b_136 := ne_new A135.lt fr136_b
    have g_b_136 : Z.heap.size ≤ b_136 := Nat.le_trans OE135.1 fr136_b
    replace hKd := Nat.le_trans hKd K136.1
    have hSk : ∀ x ∈ [b135], Safe Z consts_1 ss.vm h135 x := (allS (own_safeNull hZ.alike A135 F135_value) all0)
    replace hC := hC.trans (CHr.keep K136 hSk hC.1)
    replace B133 := B133.keep K136
    replace V134 := V134.keep K136 (ninS ne_b133_b135 nin0)
    replace A135 := A135.keep K136
    have OK136 := ext_keep OE135 K136 (allS g_b135 all0)
    refine Go.astore X136 hx (hb hby at_108) rfl (l' := #[.val (.int pn), .val (.int pa), .val (.int pb), .val (.int pd), .val (.int 1), .val (.int y_124), .val (.int y_127), .val (.int y_130), .val (.ref b133), .val (.ref b135), .unset, .unset, .unset, .unset]) rfl (q := 110) rfl ?_
    refine Go.aload X136 hx (hb hby at_110) rfl rfl (q := 112) rfl ?_
    refine Go.callSH X136 hx hZ hown hS hKd (own_EW hw) hC (wd27 hw) (wd28 hw) (wd29 hw) (wd30 hw) (by decide) (cwk1 l Z a0 hw b135 b_136 (kb_136) cs fm y_124 h136 OK136 A135 P136_1 P136_0 P136_2 SCS SFM hcs hfm P124_0) e136 (by rw [hml]; rfl) (hb hby at_112) (argsL := [(.ref b135)]) (rest := []) (lenOf pd31 rfl) rfl rfl (W := 0) (by first | exact Nat.le_refl _ | decide) (by decide) (by decide) (by decide) (by decide) ?_
    intro v137 T137 L137 k137 X137 hS hKd hZ hown hR137 hQ137
    obtain ⟨h137, e137⟩ : ∃ z, T137.heap = z := ⟨_, rfl⟩
    rw [e137] at hQ137 hKd hR137
    obtain ⟨t_137, rfl, N137q, K137, fr137_t, P137_0, P137_1, P137_2, P137_3⟩ := hQ137
    have N137 := Fr.app N136 N137q
    replace hC := hC.trans hR137
    have ne_b133_t_137 : b133 ≠ t_137 := ne_new B133.lt fr137_t
    have ne_b135_t_137 : b135 ≠ t_137 := ne_new A135.lt fr137_t
    have ne_b_136_t_137 : b_136 ≠ t_137 := ne_new P136_2.lt fr137_t
    have g_t_137 : Z.heap.size ≤ t_137 := Nat.le_trans OK136.1 fr137_t
    replace B133 := B133.keep K137
    replace V134 := V134.keep K137 nin0
    replace A135 := A135.keep K137
    replace P136_0 := P136_0.keep K137 nin0
    replace P136_1 := P136_1.keep K137 nin0
    replace P136_2 := P136_2.keep K137 nin0
    have OK137 := ext_keep OK136 K137 all0
    refine Go.astore X137 hx (hb hby at_115) rfl (l' := #[.val (.int pn), .val (.int pa), .val (.int pb), .val (.int pd), .val (.int 1), .val (.int y_124), .val (.int y_127), .val (.int y_130), .val (.ref b133), .val (.ref b135), .val (.ref t_137), .unset, .unset, .unset]) rfl (q := 117) rfl ?_
    refine Go.aload X137 hx (hb hby at_117) rfl rfl (q := 119) rfl ?_
    refine Go.virt X137 hx hZ hown (wd60 hw) (wd61 hw) (notFace_of_selects (args := #[]) (mvT hZ (wd63 hw))) (wd63 hw) (wd62 hw) (wd29 hw) (wd64 hw) (by decide) (cval l Z a0 hw t_137 b135 h137 OK137 P137_2) e137 P137_0 (by rw [hml]; rfl) (hb hby at_119) (argsL := []) (rest := []) (lenOf pd29 rfl) rfl rfl (W := 0) (by first | exact Nat.le_refl _ | decide) (by decide) (by decide) (by decide) (by decide) ?_
    intro v138 T138 L138 X138 hQ138
    obtain ⟨rfl, N138q, e138⟩ := hQ138
    have N138 := Fr.app N137 N138q
    refine Go.astore X138 hx (hb hby at_122) rfl (l' := #[.val (.int pn), .val (.int pa), .val (.int pb), .val (.int pd), .val (.int 1), .val (.int y_124), .val (.int y_127), .val (.int y_130), .val (.ref b133), .val (.ref b135), .val (.ref t_137), .val (.ref b135), .unset, .unset]) rfl (q := 124) rfl ?_
    refine Go.aload X138 hx (hb hby at_124) rfl rfl (q := 126) rfl ?_
    refine Go.virtH X138 hx hZ hown hS hKd (own_EW hw) hC (wd65 hw) (wd66 hw) (notFace_of_selects (args := #[]) (mvT hZ (wd68 hw))) (wd68 hw) (wd67 hw) (wd29 hw) (wd69 hw) (by decide) (ctos l Z a0 hw t_137 b135 b_136 (kb_136) cs ((1 : Int32)) ([(.int (y_124.toInt8.toInt32))]) ([(.int 87), (.int 47), (.int 34), (.int (y_124.toInt8.toInt32)), (.int 0), (.int 0), (.int 0)]) ([(.int 87), (.int 47), (.int 34), (.int (y_124.toInt8.toInt32)), (.int 34), (.int 0), (.int 0)]) ([(.int 87), (.int 47), (.int 34), (.int (y_124.toInt8.toInt32)), (.int 34)]) h137 OK137 P137_0 g_t_137 P137_1 P137_2 P137_3 A135 P136_1 P136_0 P136_2 SCS hcs ⟨⟨by decide, by decide, by decide⟩, by decide, by decide, rfl, Nat.le_of_ble_eq_true rfl, rfl⟩ (by decide) ⟨⟨by decide, by decide⟩, Nat.le_of_ble_eq_true rfl, rfl⟩ (by decide) ⟨⟨by decide, by decide⟩, by decide, rfl⟩) e138 P137_0 (by rw [hml]; rfl) (hb hby at_126) (argsL := []) (rest := []) (lenOf pd29 rfl) rfl rfl (W := 0) (by first | exact Nat.le_refl _ | decide) (by decide) (by decide) (by decide) (by decide) ?_
    intro v139 T139 L139 k139 X139 hS hKd hZ hown hR139 hQ139
    obtain ⟨h139, e139⟩ : ∃ z, T139.heap = z := ⟨_, rfl⟩
    rw [e139] at hQ139 hKd hR139
    obtain ⟨w_139, u_139, ku_139, rfl, N139q, K139, P139_0, P139_1, P139_2, P139_3, P139_4, P139_5, P139_6⟩ := hQ139
    have N139 := Fr.app N138 N139q
    replace hC := hC.trans hR139
    replace B133 := B133.keep K139
    replace V134 := V134.keep K139 (ninS ne_b133_t_137 nin0)
    replace A135 := A135.keep K139
    replace P136_0 := P136_0.keep K139 (ninS ne_b135_t_137 nin0)
    replace P136_1 := P136_1.keep K139 (ninS ne_b135_t_137 nin0)
    replace P136_2 := P136_2.keep K139 (ninS ne_b_136_t_137 nin0)
    replace P137_0 := P137_0.keep K139
    have OK139 := ext_keep OK137 K139 (allS g_t_137 all0)
    refine Go.astore X139 hx (hb hby at_129) rfl (l' := #[.val (.int pn), .val (.int pa), .val (.int pb), .val (.int pd), .val (.int 1), .val (.int y_124), .val (.int y_127), .val (.int y_130), .val (.ref b133), .val (.ref b135), .val (.ref t_137), .val (.ref b135), .val (.ref w_139), .unset]) rfl (q := 131) rfl ?_
    refine Go.aload X139 hx (hb hby at_131) rfl rfl (q := 133) rfl ?_
    refine Go.virt X139 hx hZ hown (wd188 hw) (wd189 hw) (notFace_of_selects (args := #[]) (mvT hZ (wd191 hw))) (wd191 hw) (wd190 hw) (wd29 hw) (wd192 hw) (by decide) (cisw l Z a0 hw t_137 h139 OK139 P139_0) e139 P137_0 (by rw [hml]; rfl) (hb hby at_133) (argsL := []) (rest := []) (lenOf pd7 rfl) rfl rfl (W := 0) (by first | exact Nat.le_refl _ | decide) (by decide) (by decide) (by decide) (by decide) ?_
    intro v140 T140 L140 X140 hQ140
    obtain ⟨rfl, N140q, e140⟩ := hQ140
    have N140 := Fr.app N139 N140q
    refine Go.ifNo X140 hx (hb hby at_136) (by decide) (q := 139) rfl ?_
    refine Go.aload X140 hx (hb hby at_139) rfl rfl (q := 141) rfl ?_
    refine Go.aload X140 hx (hb hby at_141) rfl rfl (q := 143) rfl ?_
    refine Go.virt X140 hx hZ hown (wd193 hw) (wd194 hw) (notFace_of_selects (args := #[]) (mvT hZ (wd196 hw))) (wd196 hw) (wd195 hw) (wd8 hw) (wd197 hw) (by decide) (ceqs l Z a0 hw b135 h139 OK139) e140 A135 (by rw [hml]; rfl) (hb hby at_143) (argsL := [(.ref b135)]) (rest := []) (lenOf pd32 rfl) rfl rfl (W := 0) (by first | exact Nat.le_refl _ | decide) (by decide) (by decide) (by decide) (by decide) ?_
    intro v141 T141 L141 X141 hQ141
    obtain ⟨rfl, N141q, e141⟩ := hQ141
    have N141 := Fr.app N140 N141q
    refine Go.ifNo X141 hx (hb hby at_146) (by decide) (q := 149) rfl ?_
    refine Go.aload X141 hx (hb hby at_149) rfl rfl (q := 151) rfl ?_
    refine Go.virt X141 hx hZ hown (wd198 hw) (wd42 hw) (notFace_of_selects (args := #[]) (mvT hZ (wd44 hw))) (wd44 hw) (wd43 hw) (wd8 hw) (wd45 hw) (by decide) (clen l Z a0 hw b135 cs b_136 (kb_136) ((1 : Int32)) ([(.int (y_124.toInt8.toInt32))]) h139 OK139 A135 P136_1 P136_0 P136_2 SCS hcs) e141 A135 (by rw [hml]; rfl) (hb hby at_151) (argsL := []) (rest := []) (lenOf pd10 rfl) rfl rfl (W := 0) (by first | exact Nat.le_refl _ | decide) (by decide) (by decide) (by decide) (by decide) ?_
    intro v142 T142 L142 X142 hQ142
    obtain ⟨rfl, N142q, e142⟩ := hQ142
    have N142 := Fr.app N141 N142q
    refine Go.iload X142 hx (hb hby at_154) rfl (q := 156) rfl ?_
    refine Go.icmpNo X142 hx (hb hby at_156) (by decide) (q := 159) rfl ?_
    refine Go.iconst X142 hx (hb hby at_159) (r := (1 : Int32)) rfl (q := 160) rfl ?_
    refine Go.goto X142 hx (hb hby at_160) (q := 164) (by decide) (by decide) ?_
    refine Go.istore X142 hx (hb hby at_164) (l' := #[.val (.int pn), .val (.int pa), .val (.int pb), .val (.int pd), .val (.int 1), .val (.int y_124), .val (.int y_127), .val (.int y_130), .val (.ref b133), .val (.ref b135), .val (.ref t_137), .val (.ref b135), .val (.ref w_139), .val (.int 1)]) rfl (q := 166) rfl ?_
    refine Go.iload X142 hx (hb hby at_166) rfl (q := 168) rfl ?_
    refine Go.ifNo X142 hx (hb hby at_168) (by decide) (q := 171) rfl ?_
    refine Go.aload X142 hx (hb hby at_171) rfl rfl (q := 173) rfl ?_
    refine Go.virt X142 hx hZ hown (wd198 hw) (wd42 hw) (notFace_of_selects (args := #[]) (mvT hZ (wd44 hw))) (wd44 hw) (wd43 hw) (wd8 hw) (wd45 hw) (by decide) (clen l Z a0 hw w_139 cs u_139 (ku_139) ((5 : Int32)) ([(.int 87), (.int 47), (.int 34), (.int (y_124.toInt8.toInt32)), (.int 34)]) h139 OK139 P139_3 P139_4 P139_5 P139_6 SCS hcs) e142 P139_3 (by rw [hml]; rfl) (hb hby at_173) (argsL := []) (rest := []) (lenOf pd10 rfl) rfl rfl (W := 0) (by first | exact Nat.le_refl _ | decide) (by decide) (by decide) (by decide) (by decide) ?_
    intro v143 T143 L143 X143 hQ143
    obtain ⟨rfl, N143q, e143⟩ := hQ143
    have N143 := Fr.app N142 N143q
    refine Go.iload X143 hx (hb hby at_176) rfl (q := 178) rfl ?_
    refine Go.iconst X143 hx (hb hby at_178) (r := (4 : Int32)) rfl (q := 179) rfl ?_
    refine Go.iadd X143 hx (hb hby at_179) (r := (5 : Int32)) rfl (q := 180) rfl ?_
    refine Go.icmpNo X143 hx (hb hby at_180) (by decide) (q := 183) rfl ?_
    refine Go.aload X143 hx (hb hby at_183) rfl rfl (q := 185) rfl ?_
    refine Go.iconst X143 hx (hb hby at_185) (r := (0 : Int32)) rfl (q := 186) rfl ?_
    refine Go.virt X143 hx hZ hown (wd199 hw) (wd200 hw) (notFace_of_selects (args := #[]) (mvT hZ (wd202 hw))) (wd202 hw) (wd201 hw) (wd8 hw) (wd203 hw) (by decide) (cchar l Z a0 hw w_139 ((0 : Int32)) cs u_139 (ku_139) ((5 : Int32)) ([(.int 87), (.int 47), (.int 34), (.int (y_124.toInt8.toInt32)), (.int 34)]) ((87 : Int32)) fm h139 OK139 P139_3 P139_4 P139_5 P139_6 SCS SFM hcs hfm (by decide) (by decide) rfl) e143 P139_3 (by rw [hml]; rfl) (hb hby at_186) (argsL := [(.int 0)]) (rest := []) (lenOf pd11 rfl) rfl rfl (W := 0) (by first | exact Nat.le_refl _ | decide) (by decide) (by decide) (by decide) (by decide) ?_
    intro v144 T144 L144 X144 hQ144
    obtain ⟨rfl, N144q, e144⟩ := hQ144
    have N144 := Fr.app N143 N144q
    refine Go.bipush X144 hx (hb hby at_189) (r := (87 : Int32)) rfl (q := 191) rfl ?_
    refine Go.icmpNo X144 hx (hb hby at_191) (by decide) (q := 194) rfl ?_
    refine Go.aload X144 hx (hb hby at_194) rfl rfl (q := 196) rfl ?_
    refine Go.iconst X144 hx (hb hby at_196) (r := (1 : Int32)) rfl (q := 197) rfl ?_
    refine Go.virt X144 hx hZ hown (wd199 hw) (wd200 hw) (notFace_of_selects (args := #[]) (mvT hZ (wd202 hw))) (wd202 hw) (wd201 hw) (wd8 hw) (wd203 hw) (by decide) (cchar l Z a0 hw w_139 ((1 : Int32)) cs u_139 (ku_139) ((5 : Int32)) ([(.int 87), (.int 47), (.int 34), (.int (y_124.toInt8.toInt32)), (.int 34)]) ((47 : Int32)) fm h139 OK139 P139_3 P139_4 P139_5 P139_6 SCS SFM hcs hfm (by decide) (by decide) rfl) e144 P139_3 (by rw [hml]; rfl) (hb hby at_197) (argsL := [(.int 1)]) (rest := []) (lenOf pd11 rfl) rfl rfl (W := 0) (by first | exact Nat.le_refl _ | decide) (by decide) (by decide) (by decide) (by decide) ?_
    intro v145 T145 L145 X145 hQ145
    obtain ⟨rfl, N145q, e145⟩ := hQ145
    have N145 := Fr.app N144 N145q
    refine Go.bipush X145 hx (hb hby at_200) (r := (47 : Int32)) rfl (q := 202) rfl ?_
    refine Go.icmpNo X145 hx (hb hby at_202) (by decide) (q := 205) rfl ?_
    refine Go.aload X145 hx (hb hby at_205) rfl rfl (q := 207) rfl ?_
    refine Go.iconst X145 hx (hb hby at_207) (r := (2 : Int32)) rfl (q := 208) rfl ?_
    refine Go.virt X145 hx hZ hown (wd199 hw) (wd200 hw) (notFace_of_selects (args := #[]) (mvT hZ (wd202 hw))) (wd202 hw) (wd201 hw) (wd8 hw) (wd203 hw) (by decide) (cchar l Z a0 hw w_139 ((2 : Int32)) cs u_139 (ku_139) ((5 : Int32)) ([(.int 87), (.int 47), (.int 34), (.int (y_124.toInt8.toInt32)), (.int 34)]) ((34 : Int32)) fm h139 OK139 P139_3 P139_4 P139_5 P139_6 SCS SFM hcs hfm (by decide) (by decide) rfl) e145 P139_3 (by rw [hml]; rfl) (hb hby at_208) (argsL := [(.int 2)]) (rest := []) (lenOf pd11 rfl) rfl rfl (W := 0) (by first | exact Nat.le_refl _ | decide) (by decide) (by decide) (by decide) (by decide) ?_
    intro v146 T146 L146 X146 hQ146
    obtain ⟨rfl, N146q, e146⟩ := hQ146
    have N146 := Fr.app N145 N146q
    refine Go.bipush X146 hx (hb hby at_211) (r := (34 : Int32)) rfl (q := 213) rfl ?_
    refine Go.icmpNo X146 hx (hb hby at_213) (by decide) (q := 216) rfl ?_
    refine Go.aload X146 hx (hb hby at_216) rfl rfl (q := 218) rfl ?_
    refine Go.iload X146 hx (hb hby at_218) rfl (q := 220) rfl ?_
    refine Go.iconst X146 hx (hb hby at_220) (r := (3 : Int32)) rfl (q := 221) rfl ?_
    refine Go.iadd X146 hx (hb hby at_221) (r := (4 : Int32)) rfl (q := 222) rfl ?_
    refine Go.virt X146 hx hZ hown (wd199 hw) (wd200 hw) (notFace_of_selects (args := #[]) (mvT hZ (wd202 hw))) (wd202 hw) (wd201 hw) (wd8 hw) (wd203 hw) (by decide) (cchar l Z a0 hw w_139 ((4 : Int32)) cs u_139 (ku_139) ((5 : Int32)) ([(.int 87), (.int 47), (.int 34), (.int (y_124.toInt8.toInt32)), (.int 34)]) ((34 : Int32)) fm h139 OK139 P139_3 P139_4 P139_5 P139_6 SCS SFM hcs hfm (by decide) (by decide) rfl) e146 P139_3 (by rw [hml]; rfl) (hb hby at_222) (argsL := [(.int 4)]) (rest := []) (lenOf pd11 rfl) rfl rfl (W := 0) (by first | exact Nat.le_refl _ | decide) (by decide) (by decide) (by decide) (by decide) ?_
    intro v147 T147 L147 X147 hQ147
    obtain ⟨rfl, N147q, e147⟩ := hQ147
    have N147 := Fr.app N146 N147q
    refine Go.bipush X147 hx (hb hby at_225) (r := (34 : Int32)) rfl (q := 227) rfl ?_
    refine Go.icmpNo X147 hx (hb hby at_227) (by decide) (q := 230) rfl ?_
    refine Go.iconst X147 hx (hb hby at_230) (r := (1 : Int32)) rfl (q := 231) rfl ?_
    refine Go.goto X147 hx (hb hby at_231) (q := 235) (by decide) (by decide) ?_
    refine Go.istore X147 hx (hb hby at_235) (l' := #[.val (.int pn), .val (.int pa), .val (.int pb), .val (.int pd), .val (.int 1), .val (.int y_124), .val (.int y_127), .val (.int y_130), .val (.ref b133), .val (.ref b135), .val (.ref t_137), .val (.ref b135), .val (.ref w_139), .val (.int 1)]) rfl (q := 237) rfl ?_
    refine Go.iload X147 hx (hb hby at_237) rfl (q := 239) rfl ?_
    refine Go.ifNo X147 hx (hb hby at_239) (by decide) (q := 242) rfl ?_
    refine Go.iload X147 hx (hb hby at_242) rfl (q := 244) rfl ?_
    refine Go.iconst X147 hx (hb hby at_244) (r := (1 : Int32)) rfl (q := 245) rfl ?_
    refine Go.icmpNo X147 hx (hb hby at_245) (by decide) (q := 248) rfl ?_
    refine Go.aload X147 hx (hb hby at_248) rfl rfl (q := 250) rfl ?_
    refine Go.iconst X147 hx (hb hby at_250) (r := (3 : Int32)) rfl (q := 251) rfl ?_
    refine Go.virt X147 hx hZ hown (wd199 hw) (wd200 hw) (notFace_of_selects (args := #[]) (mvT hZ (wd202 hw))) (wd202 hw) (wd201 hw) (wd8 hw) (wd203 hw) (by decide) (cchar l Z a0 hw w_139 ((3 : Int32)) cs u_139 (ku_139) ((5 : Int32)) ([(.int 87), (.int 47), (.int 34), (.int (y_124.toInt8.toInt32)), (.int 34)]) ((y_124.toInt8.toInt32)) fm h139 OK139 P139_3 P139_4 P139_5 P139_6 SCS SFM hcs hfm (by decide) (by decide) rfl) e147 P139_3 (by rw [hml]; rfl) (hb hby at_251) (argsL := [(.int 3)]) (rest := []) (lenOf pd11 rfl) rfl rfl (W := 0) (by first | exact Nat.le_refl _ | decide) (by decide) (by decide) (by decide) (by decide) ?_
    intro v148 T148 L148 X148 hQ148
    obtain ⟨rfl, N148q, e148⟩ := hQ148
    have N148 := Fr.app N147 N148q
    rw [own_ech P124_0]
    show Go pp ee below _ (T148.setTop (mkF mm 254 #[.val (.int pn), .val (.int pa), .val (.int pb), .val (.int pd), .val (.int 1), .val (.int y_124), .val (.int y_127), .val (.int y_130), .val (.ref b133), .val (.ref b135), .val (.ref t_137), .val (.ref b135), .val (.ref w_139), .val (.int 1)] [(.int y_124)]))
    refine Go.iload X148 hx (hb hby at_254) rfl (q := 256) rfl ?_
    refine Go.icmpNo X148 hx (hb hby at_256) (Jvm.Free.XT.ii_ne_f rfl) (q := 259) rfl ?_
    refine Go.iload X148 hx (hb hby at_259) rfl (q := 261) rfl ?_
    refine Go.iconst X148 hx (hb hby at_261) (r := (2 : Int32)) rfl (q := 262) rfl ?_
    refine Go.icmpYes X148 hx (hb hby at_262) (by decide) (q := 276) (by decide) (by decide) ?_
    refine Go.iload X148 hx (hb hby at_276) rfl (q := 278) rfl ?_
    refine Go.iconst X148 hx (hb hby at_278) (r := (3 : Int32)) rfl (q := 279) rfl ?_
    refine Go.icmpYes X148 hx (hb hby at_279) (by decide) (q := 293) (by decide) (by decide) ?_
    refine Go.iconst X148 hx (hb hby at_293) (r := (1 : Int32)) rfl (q := 294) rfl ?_
    refine Go.goto X148 hx (hb hby at_294) (q := 298) (by decide) (by decide) ?_
    refine Go.istore X148 hx (hb hby at_298) (l' := #[.val (.int pn), .val (.int pa), .val (.int pb), .val (.int pd), .val (.int 1), .val (.int y_124), .val (.int y_127), .val (.int y_130), .val (.ref b133), .val (.ref b135), .val (.ref t_137), .val (.ref b135), .val (.ref w_139), .val (.int 1)]) rfl (q := 300) rfl ?_
    refine Go.iload X148 hx (hb hby at_300) rfl (q := 302) rfl ?_
    exact Go.retIH X148 hx hS hKd hs0 hZ (own_EW hw) hC hret hlk (by simp) rfl (hb hby at_302) e148 (by decide) (by decide) ⟨rfl, N148⟩
  · show Go pp ee below _ (s₁.setTop (mkF mm 3 #[.val (.int pn), .val (.int pa), .val (.int pb), .val (.int pd), .unset, .unset, .unset, .unset, .unset, .unset, .unset, .unset, .unset, .unset] [(.int 2)]))
    refine Go.istore X0 hx (hb hby at_3) (l' := #[.val (.int pn), .val (.int pa), .val (.int pb), .val (.int pd), .val (.int 2), .unset, .unset, .unset, .unset, .unset, .unset, .unset, .unset, .unset]) rfl (q := 5) rfl ?_
    refine Go.iloadN X0 hx (hb hby at_5) rfl (q := 6) rfl ?_
    refine Go.callS X0 hx hZ hown (wd0 hw) (wd1 hw) (wd2 hw) (wd3 hw) (by decide) (cetg l Z a0 hw pa h0 O0) e0 (by rw [hml]; rfl) (hb hby at_6) (argsL := [(.int pa)]) (rest := []) (lenOf pd11 rfl) rfl rfl (W := 0) (by first | exact Nat.le_refl _ | decide) (by decide) (by decide) (by decide) (by decide) ?_
    intro v149 T149 L149 X149 hQ149
    obtain ⟨y_149, rfl, N149q, e149, P149_0⟩ := hQ149
    have N149 := Fr.app N0 N149q
    have hk150 : nar .char y_149 = y_149 := own_ecn P149_0
    have hk151 : ¬ ((255 : Int32) < y_149) := own_ec255 P149_0
    refine Go.istore X149 hx (hb hby at_9) (l' := #[.val (.int pn), .val (.int pa), .val (.int pb), .val (.int pd), .val (.int 2), .val (.int y_149), .unset, .unset, .unset, .unset, .unset, .unset, .unset, .unset]) rfl (q := 11) rfl ?_
    refine Go.iloadN X149 hx (hb hby at_11) rfl (q := 12) rfl ?_
    refine Go.callS X149 hx hZ hown (wd0 hw) (wd1 hw) (wd2 hw) (wd3 hw) (by decide) (cetg l Z a0 hw pb h0 O0) e149 (by rw [hml]; rfl) (hb hby at_12) (argsL := [(.int pb)]) (rest := []) (lenOf pd11 rfl) rfl rfl (W := 0) (by first | exact Nat.le_refl _ | decide) (by decide) (by decide) (by decide) (by decide) ?_
    intro v152 T152 L152 X152 hQ152
    obtain ⟨y_152, rfl, N152q, e152, P152_0⟩ := hQ152
    have N152 := Fr.app N149 N152q
    have hk153 : nar .char y_152 = y_152 := own_ecn P152_0
    have hk154 : ¬ ((255 : Int32) < y_152) := own_ec255 P152_0
    refine Go.istore X152 hx (hb hby at_15) (l' := #[.val (.int pn), .val (.int pa), .val (.int pb), .val (.int pd), .val (.int 2), .val (.int y_149), .val (.int y_152), .unset, .unset, .unset, .unset, .unset, .unset, .unset]) rfl (q := 17) rfl ?_
    refine Go.iloadN X152 hx (hb hby at_17) rfl (q := 18) rfl ?_
    refine Go.callS X152 hx hZ hown (wd0 hw) (wd1 hw) (wd2 hw) (wd3 hw) (by decide) (cetg l Z a0 hw pd h0 O0) e152 (by rw [hml]; rfl) (hb hby at_18) (argsL := [(.int pd)]) (rest := []) (lenOf pd11 rfl) rfl rfl (W := 0) (by first | exact Nat.le_refl _ | decide) (by decide) (by decide) (by decide) (by decide) ?_
    intro v155 T155 L155 X155 hQ155
    obtain ⟨y_155, rfl, N155q, e155, P155_0⟩ := hQ155
    have N155 := Fr.app N152 N155q
    have hk156 : nar .char y_155 = y_155 := own_ecn P155_0
    have hk157 : ¬ ((255 : Int32) < y_155) := own_ec255 P155_0
    refine Go.istore X155 hx (hb hby at_21) (l' := #[.val (.int pn), .val (.int pa), .val (.int pb), .val (.int pd), .val (.int 2), .val (.int y_149), .val (.int y_152), .val (.int y_155), .unset, .unset, .unset, .unset, .unset, .unset]) rfl (q := 23) rfl ?_
    refine Go.iload X155 hx (hb hby at_23) rfl (q := 25) rfl ?_
    refine Go.ifYes X155 hx (hb hby at_25) (by decide) (q := 36) (by decide) (by decide) ?_
    refine Go.iload X155 hx (hb hby at_36) rfl (q := 38) rfl ?_
    refine Go.iconst X155 hx (hb hby at_38) (r := (1 : Int32)) rfl (q := 39) rfl ?_
    refine Go.icmpYes X155 hx (hb hby at_39) (by decide) (q := 55) (by decide) (by decide) ?_
    refine Go.iload X155 hx (hb hby at_55) rfl (q := 57) rfl ?_
    refine Go.iconst X155 hx (hb hby at_57) (r := (2 : Int32)) rfl (q := 58) rfl ?_
    refine Go.icmpNo X155 hx (hb hby at_58) (by decide) (q := 61) rfl ?_
    refine Go.iconst X155 hx (hb hby at_61) (r := (2 : Int32)) rfl (q := 62) rfl ?_
    refine Go.newP X155 hx hZ (hb hby at_62) (wd5 hw) e155 (by decide) (cap := 2) (by decide) (by decide) (by decide) (by decide) (ad := "[C") rfl (q := 64) rfl ?_
    intro b158 T158 h158 k158 X158 e158 q158 E158 V158 B158
    have g_b158 : Z.heap.size ≤ b158 := Nat.le_trans O0.1 (Nat.le_of_eq q158)
    replace hC := hC.trans (CHr.ext E158 hC.1)
    have OE158 := ext_trans O0 E158
    replace hKd := Nat.le_trans hKd E158.1
    replace V158 : Arv Z h158 b158 k158 .char (2 : Int32) [(.int 0), (.int 0)] (.int 0) := V158.pad (pad_rep [] (.int 0) 2)
    refine Go.dup X158 hx (hb hby at_64) rfl (q := 65) rfl ?_
    refine Go.iconst X158 hx (hb hby at_65) (r := (0 : Int32)) rfl (q := 66) rfl ?_
    refine Go.iload X158 hx (hb hby at_66) rfl (q := 68) rfl ?_
    refine Go.cst X158 hx hZ e158 V158 ⟨by decide, by decide⟩ (i := 0) rfl (Nat.le_of_ble_eq_true rfl) (hb hby at_68) ?_
    intro T159 h159 X159 e159 W159 V159
    rw [hk150] at V159
    replace V159 : Arv Z h159 b158 k158 .char (2 : Int32) [(.int y_149), (.int 0)] (.int 0) := V159
    have N159 := Fr.snoc X159 N155 g_b158
    replace hC := hC.trans (CHr.wr W159 (Safe.exa hZ.alike B158 (by decide) (by decide)) hC.1)
    replace B158 := B158.wr W159
    have OW159 := ext_wr OE158 W159 g_b158
    replace hKd := Nat.le_trans hKd (Keep.of_wr W159).1
    refine Go.dup X159 hx (hb hby at_69) rfl (q := 70) rfl ?_
    refine Go.iconst X159 hx (hb hby at_70) (r := (1 : Int32)) rfl (q := 71) rfl ?_
    refine Go.iload X159 hx (hb hby at_71) rfl (q := 73) rfl ?_
    refine Go.cst X159 hx hZ e159 V159 ⟨by decide, by decide⟩ (i := 1) rfl (Nat.le_of_ble_eq_true rfl) (hb hby at_73) ?_
    intro T160 h160 X160 e160 W160 V160
    rw [hk153] at V160
    replace V160 : Arv Z h160 b158 k158 .char (2 : Int32) [(.int y_149), (.int y_152)] (.int 0) := V160
    have N160 := Fr.snoc X160 N159 g_b158
    replace hC := hC.trans (CHr.wr W160 (Safe.exa hZ.alike B158 (by decide) (by decide)) hC.1)
    replace B158 := B158.wr W160
    have OW160 := ext_wr OW159 W160 g_b158
    replace hKd := Nat.le_trans hKd (Keep.of_wr W160).1
    refine Go.astore X160 hx (hb hby at_74) rfl (l' := #[.val (.int pn), .val (.int pa), .val (.int pb), .val (.int pd), .val (.int 2), .val (.int y_149), .val (.int y_152), .val (.int y_155), .val (.ref b158), .unset, .unset, .unset, .unset, .unset]) rfl (q := 76) rfl ?_
    refine Go.goto X160 hx (hb hby at_76) (q := 99) (by decide) (by decide) ?_
    refine Go.newO X160 hx hZ hown (wd6 hw) (wd7 hw) (wd8 hw) e160 (hb hby at_99) (by decide) (by decide) (q := 102) rfl ?_
    intro b161 T161 h161 X161 e161 q161 E161 A161 D161 U161
    have ne_b158_b161 : b158 ≠ b161 := ne_new B158.lt (Nat.le_of_eq q161)
    have g_b161 : Z.heap.size ≤ b161 := Nat.le_trans OW160.1 (Nat.le_of_eq q161)
    replace hC := hC.trans (CHr.ext E161 hC.1)
    replace B158 := B158.ext E161
    replace V160 := V160.ext E161
    have OE161 := ext_trans OW160 E161
    replace hKd := Nat.le_trans hKd E161.1
    have F161_value : Fld Z h161 b161 xS0 "value" "[B" .null := D161 (Or.inr (wd21 hw)) (ty := (.array .byte)) (by decide)
    have F161_coder : Fld Z h161 b161 xS0 "coder" "B" (.int 0) := D161 (Or.inr (wd22 hw)) (ty := .byte) (by decide)
    clear D161
    refine Go.dup X161 hx (hb hby at_102) rfl (q := 103) rfl ?_
    refine Go.aload X161 hx (hb hby at_103) rfl rfl (q := 105) rfl ?_
    refine Go.init X161 hx hZ hown rfl (wd9 hw) (wd10 hw) (wd8 hw) (wd11 hw) (by decide) (csj2 l Z a0 hw b161 b158 (k158) y_149 y_152 cs h161 OE161 A161 F161_value F161_coder g_b161 V160 SCS hcs hk151 hk154) e161 (by rw [hml]; rfl) (hb hby at_105) (argsL := [(.ref b158)]) (rest := [(.ref b161)]) (lenOf pd30 rfl) rfl rfl (W := 1) (by first | exact Nat.le_refl _ | decide) (by decide) (by decide) (by decide) (by decide) ?_
    intro v162 T162 L162 X162 hQ162
    obtain ⟨h162, e162⟩ : ∃ z, T162.heap = z := ⟨_, rfl⟩
    rw [e162] at hQ162
    obtain ⟨b_162, kb_162, rfl, N162q, K162, fr162_b, P162_0, P162_1, P162_2⟩ := hQ162
    have N162 := Fr.app N160 N162q
    have ne_b158_b_162 : b158 ≠ b_162 := ne_new B158.lt fr162_b
    have ne_b161_b_162 : b161 ≠ b_162 := ne_new A161.lt fr162_b
    have g_b_162 : Z.heap.size ≤ b_162 := Nat.le_trans OE161.1 fr162_b
    replace hKd := Nat.le_trans hKd K162.1
    have hSk : ∀ x ∈ [b161], Safe Z consts_1 ss.vm h161 x := (allS (own_safeNull hZ.alike A161 F161_value) all0)
    replace hC := hC.trans (CHr.keep K162 hSk hC.1)
    replace B158 := B158.keep K162
    replace V160 := V160.keep K162 (ninS ne_b158_b161 nin0)
    replace A161 := A161.keep K162
    have OK162 := ext_keep OE161 K162 (allS g_b161 all0)
    refine Go.astore X162 hx (hb hby at_108) rfl (l' := #[.val (.int pn), .val (.int pa), .val (.int pb), .val (.int pd), .val (.int 2), .val (.int y_149), .val (.int y_152), .val (.int y_155), .val (.ref b158), .val (.ref b161), .unset, .unset, .unset, .unset]) rfl (q := 110) rfl ?_
    refine Go.aload X162 hx (hb hby at_110) rfl rfl (q := 112) rfl ?_
    refine Go.callSH X162 hx hZ hown hS hKd (own_EW hw) hC (wd27 hw) (wd28 hw) (wd29 hw) (wd30 hw) (by decide) (cwk2 l Z a0 hw b161 b_162 (kb_162) cs fm y_149 y_152 h162 OK162 A161 P162_1 P162_0 P162_2 SCS SFM hcs hfm P149_0 P152_0) e162 (by rw [hml]; rfl) (hb hby at_112) (argsL := [(.ref b161)]) (rest := []) (lenOf pd31 rfl) rfl rfl (W := 0) (by first | exact Nat.le_refl _ | decide) (by decide) (by decide) (by decide) (by decide) ?_
    intro v163 T163 L163 k163 X163 hS hKd hZ hown hR163 hQ163
    obtain ⟨h163, e163⟩ : ∃ z, T163.heap = z := ⟨_, rfl⟩
    rw [e163] at hQ163 hKd hR163
    obtain ⟨t_163, rfl, N163q, K163, fr163_t, P163_0, P163_1, P163_2, P163_3⟩ := hQ163
    have N163 := Fr.app N162 N163q
    replace hC := hC.trans hR163
    have ne_b158_t_163 : b158 ≠ t_163 := ne_new B158.lt fr163_t
    have ne_b161_t_163 : b161 ≠ t_163 := ne_new A161.lt fr163_t
    have ne_b_162_t_163 : b_162 ≠ t_163 := ne_new P162_2.lt fr163_t
    have g_t_163 : Z.heap.size ≤ t_163 := Nat.le_trans OK162.1 fr163_t
    replace B158 := B158.keep K163
    replace V160 := V160.keep K163 nin0
    replace A161 := A161.keep K163
    replace P162_0 := P162_0.keep K163 nin0
    replace P162_1 := P162_1.keep K163 nin0
    replace P162_2 := P162_2.keep K163 nin0
    have OK163 := ext_keep OK162 K163 all0
    refine Go.astore X163 hx (hb hby at_115) rfl (l' := #[.val (.int pn), .val (.int pa), .val (.int pb), .val (.int pd), .val (.int 2), .val (.int y_149), .val (.int y_152), .val (.int y_155), .val (.ref b158), .val (.ref b161), .val (.ref t_163), .unset, .unset, .unset]) rfl (q := 117) rfl ?_
    refine Go.aload X163 hx (hb hby at_117) rfl rfl (q := 119) rfl ?_
    refine Go.virt X163 hx hZ hown (wd60 hw) (wd61 hw) (notFace_of_selects (args := #[]) (mvT hZ (wd63 hw))) (wd63 hw) (wd62 hw) (wd29 hw) (wd64 hw) (by decide) (cval l Z a0 hw t_163 b161 h163 OK163 P163_2) e163 P163_0 (by rw [hml]; rfl) (hb hby at_119) (argsL := []) (rest := []) (lenOf pd29 rfl) rfl rfl (W := 0) (by first | exact Nat.le_refl _ | decide) (by decide) (by decide) (by decide) (by decide) ?_
    intro v164 T164 L164 X164 hQ164
    obtain ⟨rfl, N164q, e164⟩ := hQ164
    have N164 := Fr.app N163 N164q
    refine Go.astore X164 hx (hb hby at_122) rfl (l' := #[.val (.int pn), .val (.int pa), .val (.int pb), .val (.int pd), .val (.int 2), .val (.int y_149), .val (.int y_152), .val (.int y_155), .val (.ref b158), .val (.ref b161), .val (.ref t_163), .val (.ref b161), .unset, .unset]) rfl (q := 124) rfl ?_
    refine Go.aload X164 hx (hb hby at_124) rfl rfl (q := 126) rfl ?_
    refine Go.virtH X164 hx hZ hown hS hKd (own_EW hw) hC (wd65 hw) (wd66 hw) (notFace_of_selects (args := #[]) (mvT hZ (wd68 hw))) (wd68 hw) (wd67 hw) (wd29 hw) (wd69 hw) (by decide) (ctos l Z a0 hw t_163 b161 b_162 (kb_162) cs ((2 : Int32)) ([(.int (y_149.toInt8.toInt32)), (.int (y_152.toInt8.toInt32))]) ([(.int 87), (.int 47), (.int 34), (.int (y_149.toInt8.toInt32)), (.int (y_152.toInt8.toInt32)), (.int 0), (.int 0)]) ([(.int 87), (.int 47), (.int 34), (.int (y_149.toInt8.toInt32)), (.int (y_152.toInt8.toInt32)), (.int 34), (.int 0)]) ([(.int 87), (.int 47), (.int 34), (.int (y_149.toInt8.toInt32)), (.int (y_152.toInt8.toInt32)), (.int 34)]) h163 OK163 P163_0 g_t_163 P163_1 P163_2 P163_3 A161 P162_1 P162_0 P162_2 SCS hcs ⟨⟨by decide, by decide, by decide⟩, by decide, by decide, rfl, Nat.le_of_ble_eq_true rfl, rfl⟩ (by decide) ⟨⟨by decide, by decide⟩, Nat.le_of_ble_eq_true rfl, rfl⟩ (by decide) ⟨⟨by decide, by decide⟩, by decide, rfl⟩) e164 P163_0 (by rw [hml]; rfl) (hb hby at_126) (argsL := []) (rest := []) (lenOf pd29 rfl) rfl rfl (W := 0) (by first | exact Nat.le_refl _ | decide) (by decide) (by decide) (by decide) (by decide) ?_
    intro v165 T165 L165 k165 X165 hS hKd hZ hown hR165 hQ165
    obtain ⟨h165, e165⟩ : ∃ z, T165.heap = z := ⟨_, rfl⟩
    rw [e165] at hQ165 hKd hR165
    obtain ⟨w_165, u_165, ku_165, rfl, N165q, K165, P165_0, P165_1, P165_2, P165_3, P165_4, P165_5, P165_6⟩ := hQ165
    have N165 := Fr.app N164 N165q
    replace hC := hC.trans hR165
    replace B158 := B158.keep K165
    replace V160 := V160.keep K165 (ninS ne_b158_t_163 nin0)
    replace A161 := A161.keep K165
    replace P162_0 := P162_0.keep K165 (ninS ne_b161_t_163 nin0)
    replace P162_1 := P162_1.keep K165 (ninS ne_b161_t_163 nin0)
    replace P162_2 := P162_2.keep K165 (ninS ne_b_162_t_163 nin0)
    replace P163_0 := P163_0.keep K165
    have OK165 := ext_keep OK163 K165 (allS g_t_163 all0)
    refine Go.astore X165 hx (hb hby at_129) rfl (l' := #[.val (.int pn), .val (.int pa), .val (.int pb), .val (.int pd), .val (.int 2), .val (.int y_149), .val (.int y_152), .val (.int y_155), .val (.ref b158), .val (.ref b161), .val (.ref t_163), .val (.ref b161), .val (.ref w_165), .unset]) rfl (q := 131) rfl ?_
    refine Go.aload X165 hx (hb hby at_131) rfl rfl (q := 133) rfl ?_
    refine Go.virt X165 hx hZ hown (wd188 hw) (wd189 hw) (notFace_of_selects (args := #[]) (mvT hZ (wd191 hw))) (wd191 hw) (wd190 hw) (wd29 hw) (wd192 hw) (by decide) (cisw l Z a0 hw t_163 h165 OK165 P165_0) e165 P163_0 (by rw [hml]; rfl) (hb hby at_133) (argsL := []) (rest := []) (lenOf pd7 rfl) rfl rfl (W := 0) (by first | exact Nat.le_refl _ | decide) (by decide) (by decide) (by decide) (by decide) ?_
    intro v166 T166 L166 X166 hQ166
    obtain ⟨rfl, N166q, e166⟩ := hQ166
    have N166 := Fr.app N165 N166q
    refine Go.ifNo X166 hx (hb hby at_136) (by decide) (q := 139) rfl ?_
    refine Go.aload X166 hx (hb hby at_139) rfl rfl (q := 141) rfl ?_
    refine Go.aload X166 hx (hb hby at_141) rfl rfl (q := 143) rfl ?_
    refine Go.virt X166 hx hZ hown (wd193 hw) (wd194 hw) (notFace_of_selects (args := #[]) (mvT hZ (wd196 hw))) (wd196 hw) (wd195 hw) (wd8 hw) (wd197 hw) (by decide) (ceqs l Z a0 hw b161 h165 OK165) e166 A161 (by rw [hml]; rfl) (hb hby at_143) (argsL := [(.ref b161)]) (rest := []) (lenOf pd32 rfl) rfl rfl (W := 0) (by first | exact Nat.le_refl _ | decide) (by decide) (by decide) (by decide) (by decide) ?_
    intro v167 T167 L167 X167 hQ167
    obtain ⟨rfl, N167q, e167⟩ := hQ167
    have N167 := Fr.app N166 N167q
    refine Go.ifNo X167 hx (hb hby at_146) (by decide) (q := 149) rfl ?_
    refine Go.aload X167 hx (hb hby at_149) rfl rfl (q := 151) rfl ?_
    refine Go.virt X167 hx hZ hown (wd198 hw) (wd42 hw) (notFace_of_selects (args := #[]) (mvT hZ (wd44 hw))) (wd44 hw) (wd43 hw) (wd8 hw) (wd45 hw) (by decide) (clen l Z a0 hw b161 cs b_162 (kb_162) ((2 : Int32)) ([(.int (y_149.toInt8.toInt32)), (.int (y_152.toInt8.toInt32))]) h165 OK165 A161 P162_1 P162_0 P162_2 SCS hcs) e167 A161 (by rw [hml]; rfl) (hb hby at_151) (argsL := []) (rest := []) (lenOf pd10 rfl) rfl rfl (W := 0) (by first | exact Nat.le_refl _ | decide) (by decide) (by decide) (by decide) (by decide) ?_
    intro v168 T168 L168 X168 hQ168
    obtain ⟨rfl, N168q, e168⟩ := hQ168
    have N168 := Fr.app N167 N168q
    refine Go.iload X168 hx (hb hby at_154) rfl (q := 156) rfl ?_
    refine Go.icmpNo X168 hx (hb hby at_156) (by decide) (q := 159) rfl ?_
    refine Go.iconst X168 hx (hb hby at_159) (r := (1 : Int32)) rfl (q := 160) rfl ?_
    refine Go.goto X168 hx (hb hby at_160) (q := 164) (by decide) (by decide) ?_
    refine Go.istore X168 hx (hb hby at_164) (l' := #[.val (.int pn), .val (.int pa), .val (.int pb), .val (.int pd), .val (.int 2), .val (.int y_149), .val (.int y_152), .val (.int y_155), .val (.ref b158), .val (.ref b161), .val (.ref t_163), .val (.ref b161), .val (.ref w_165), .val (.int 1)]) rfl (q := 166) rfl ?_
    refine Go.iload X168 hx (hb hby at_166) rfl (q := 168) rfl ?_
    refine Go.ifNo X168 hx (hb hby at_168) (by decide) (q := 171) rfl ?_
    refine Go.aload X168 hx (hb hby at_171) rfl rfl (q := 173) rfl ?_
    refine Go.virt X168 hx hZ hown (wd198 hw) (wd42 hw) (notFace_of_selects (args := #[]) (mvT hZ (wd44 hw))) (wd44 hw) (wd43 hw) (wd8 hw) (wd45 hw) (by decide) (clen l Z a0 hw w_165 cs u_165 (ku_165) ((6 : Int32)) ([(.int 87), (.int 47), (.int 34), (.int (y_149.toInt8.toInt32)), (.int (y_152.toInt8.toInt32)), (.int 34)]) h165 OK165 P165_3 P165_4 P165_5 P165_6 SCS hcs) e168 P165_3 (by rw [hml]; rfl) (hb hby at_173) (argsL := []) (rest := []) (lenOf pd10 rfl) rfl rfl (W := 0) (by first | exact Nat.le_refl _ | decide) (by decide) (by decide) (by decide) (by decide) ?_
    intro v169 T169 L169 X169 hQ169
    obtain ⟨rfl, N169q, e169⟩ := hQ169
    have N169 := Fr.app N168 N169q
    refine Go.iload X169 hx (hb hby at_176) rfl (q := 178) rfl ?_
    refine Go.iconst X169 hx (hb hby at_178) (r := (4 : Int32)) rfl (q := 179) rfl ?_
    refine Go.iadd X169 hx (hb hby at_179) (r := (6 : Int32)) rfl (q := 180) rfl ?_
    refine Go.icmpNo X169 hx (hb hby at_180) (by decide) (q := 183) rfl ?_
    refine Go.aload X169 hx (hb hby at_183) rfl rfl (q := 185) rfl ?_
    refine Go.iconst X169 hx (hb hby at_185) (r := (0 : Int32)) rfl (q := 186) rfl ?_
    refine Go.virt X169 hx hZ hown (wd199 hw) (wd200 hw) (notFace_of_selects (args := #[]) (mvT hZ (wd202 hw))) (wd202 hw) (wd201 hw) (wd8 hw) (wd203 hw) (by decide) (cchar l Z a0 hw w_165 ((0 : Int32)) cs u_165 (ku_165) ((6 : Int32)) ([(.int 87), (.int 47), (.int 34), (.int (y_149.toInt8.toInt32)), (.int (y_152.toInt8.toInt32)), (.int 34)]) ((87 : Int32)) fm h165 OK165 P165_3 P165_4 P165_5 P165_6 SCS SFM hcs hfm (by decide) (by decide) rfl) e169 P165_3 (by rw [hml]; rfl) (hb hby at_186) (argsL := [(.int 0)]) (rest := []) (lenOf pd11 rfl) rfl rfl (W := 0) (by first | exact Nat.le_refl _ | decide) (by decide) (by decide) (by decide) (by decide) ?_
    intro v170 T170 L170 X170 hQ170
    obtain ⟨rfl, N170q, e170⟩ := hQ170
    have N170 := Fr.app N169 N170q
    refine Go.bipush X170 hx (hb hby at_189) (r := (87 : Int32)) rfl (q := 191) rfl ?_
    refine Go.icmpNo X170 hx (hb hby at_191) (by decide) (q := 194) rfl ?_
    refine Go.aload X170 hx (hb hby at_194) rfl rfl (q := 196) rfl ?_
    refine Go.iconst X170 hx (hb hby at_196) (r := (1 : Int32)) rfl (q := 197) rfl ?_
    refine Go.virt X170 hx hZ hown (wd199 hw) (wd200 hw) (notFace_of_selects (args := #[]) (mvT hZ (wd202 hw))) (wd202 hw) (wd201 hw) (wd8 hw) (wd203 hw) (by decide) (cchar l Z a0 hw w_165 ((1 : Int32)) cs u_165 (ku_165) ((6 : Int32)) ([(.int 87), (.int 47), (.int 34), (.int (y_149.toInt8.toInt32)), (.int (y_152.toInt8.toInt32)), (.int 34)]) ((47 : Int32)) fm h165 OK165 P165_3 P165_4 P165_5 P165_6 SCS SFM hcs hfm (by decide) (by decide) rfl) e170 P165_3 (by rw [hml]; rfl) (hb hby at_197) (argsL := [(.int 1)]) (rest := []) (lenOf pd11 rfl) rfl rfl (W := 0) (by first | exact Nat.le_refl _ | decide) (by decide) (by decide) (by decide) (by decide) ?_
    intro v171 T171 L171 X171 hQ171
    obtain ⟨rfl, N171q, e171⟩ := hQ171
    have N171 := Fr.app N170 N171q
    refine Go.bipush X171 hx (hb hby at_200) (r := (47 : Int32)) rfl (q := 202) rfl ?_
    refine Go.icmpNo X171 hx (hb hby at_202) (by decide) (q := 205) rfl ?_
    refine Go.aload X171 hx (hb hby at_205) rfl rfl (q := 207) rfl ?_
    refine Go.iconst X171 hx (hb hby at_207) (r := (2 : Int32)) rfl (q := 208) rfl ?_
    refine Go.virt X171 hx hZ hown (wd199 hw) (wd200 hw) (notFace_of_selects (args := #[]) (mvT hZ (wd202 hw))) (wd202 hw) (wd201 hw) (wd8 hw) (wd203 hw) (by decide) (cchar l Z a0 hw w_165 ((2 : Int32)) cs u_165 (ku_165) ((6 : Int32)) ([(.int 87), (.int 47), (.int 34), (.int (y_149.toInt8.toInt32)), (.int (y_152.toInt8.toInt32)), (.int 34)]) ((34 : Int32)) fm h165 OK165 P165_3 P165_4 P165_5 P165_6 SCS SFM hcs hfm (by decide) (by decide) rfl) e171 P165_3 (by rw [hml]; rfl) (hb hby at_208) (argsL := [(.int 2)]) (rest := []) (lenOf pd11 rfl) rfl rfl (W := 0) (by first | exact Nat.le_refl _ | decide) (by decide) (by decide) (by decide) (by decide) ?_
    intro v172 T172 L172 X172 hQ172
    obtain ⟨rfl, N172q, e172⟩ := hQ172
    have N172 := Fr.app N171 N172q
    refine Go.bipush X172 hx (hb hby at_211) (r := (34 : Int32)) rfl (q := 213) rfl ?_
    refine Go.icmpNo X172 hx (hb hby at_213) (by decide) (q := 216) rfl ?_
    refine Go.aload X172 hx (hb hby at_216) rfl rfl (q := 218) rfl ?_
    refine Go.iload X172 hx (hb hby at_218) rfl (q := 220) rfl ?_
    refine Go.iconst X172 hx (hb hby at_220) (r := (3 : Int32)) rfl (q := 221) rfl ?_
    refine Go.iadd X172 hx (hb hby at_221) (r := (5 : Int32)) rfl (q := 222) rfl ?_
    refine Go.virt X172 hx hZ hown (wd199 hw) (wd200 hw) (notFace_of_selects (args := #[]) (mvT hZ (wd202 hw))) (wd202 hw) (wd201 hw) (wd8 hw) (wd203 hw) (by decide) (cchar l Z a0 hw w_165 ((5 : Int32)) cs u_165 (ku_165) ((6 : Int32)) ([(.int 87), (.int 47), (.int 34), (.int (y_149.toInt8.toInt32)), (.int (y_152.toInt8.toInt32)), (.int 34)]) ((34 : Int32)) fm h165 OK165 P165_3 P165_4 P165_5 P165_6 SCS SFM hcs hfm (by decide) (by decide) rfl) e172 P165_3 (by rw [hml]; rfl) (hb hby at_222) (argsL := [(.int 5)]) (rest := []) (lenOf pd11 rfl) rfl rfl (W := 0) (by first | exact Nat.le_refl _ | decide) (by decide) (by decide) (by decide) (by decide) ?_
    intro v173 T173 L173 X173 hQ173
    obtain ⟨rfl, N173q, e173⟩ := hQ173
    have N173 := Fr.app N172 N173q
    refine Go.bipush X173 hx (hb hby at_225) (r := (34 : Int32)) rfl (q := 227) rfl ?_
    refine Go.icmpNo X173 hx (hb hby at_227) (by decide) (q := 230) rfl ?_
    refine Go.iconst X173 hx (hb hby at_230) (r := (1 : Int32)) rfl (q := 231) rfl ?_
    refine Go.goto X173 hx (hb hby at_231) (q := 235) (by decide) (by decide) ?_
    refine Go.istore X173 hx (hb hby at_235) (l' := #[.val (.int pn), .val (.int pa), .val (.int pb), .val (.int pd), .val (.int 2), .val (.int y_149), .val (.int y_152), .val (.int y_155), .val (.ref b158), .val (.ref b161), .val (.ref t_163), .val (.ref b161), .val (.ref w_165), .val (.int 1)]) rfl (q := 237) rfl ?_
    refine Go.iload X173 hx (hb hby at_237) rfl (q := 239) rfl ?_
    refine Go.ifNo X173 hx (hb hby at_239) (by decide) (q := 242) rfl ?_
    refine Go.iload X173 hx (hb hby at_242) rfl (q := 244) rfl ?_
    refine Go.iconst X173 hx (hb hby at_244) (r := (1 : Int32)) rfl (q := 245) rfl ?_
    refine Go.icmpNo X173 hx (hb hby at_245) (by decide) (q := 248) rfl ?_
    refine Go.aload X173 hx (hb hby at_248) rfl rfl (q := 250) rfl ?_
    refine Go.iconst X173 hx (hb hby at_250) (r := (3 : Int32)) rfl (q := 251) rfl ?_
    refine Go.virt X173 hx hZ hown (wd199 hw) (wd200 hw) (notFace_of_selects (args := #[]) (mvT hZ (wd202 hw))) (wd202 hw) (wd201 hw) (wd8 hw) (wd203 hw) (by decide) (cchar l Z a0 hw w_165 ((3 : Int32)) cs u_165 (ku_165) ((6 : Int32)) ([(.int 87), (.int 47), (.int 34), (.int (y_149.toInt8.toInt32)), (.int (y_152.toInt8.toInt32)), (.int 34)]) ((y_149.toInt8.toInt32)) fm h165 OK165 P165_3 P165_4 P165_5 P165_6 SCS SFM hcs hfm (by decide) (by decide) rfl) e173 P165_3 (by rw [hml]; rfl) (hb hby at_251) (argsL := [(.int 3)]) (rest := []) (lenOf pd11 rfl) rfl rfl (W := 0) (by first | exact Nat.le_refl _ | decide) (by decide) (by decide) (by decide) (by decide) ?_
    intro v174 T174 L174 X174 hQ174
    obtain ⟨rfl, N174q, e174⟩ := hQ174
    have N174 := Fr.app N173 N174q
    rw [own_ech P149_0]
    show Go pp ee below _ (T174.setTop (mkF mm 254 #[.val (.int pn), .val (.int pa), .val (.int pb), .val (.int pd), .val (.int 2), .val (.int y_149), .val (.int y_152), .val (.int y_155), .val (.ref b158), .val (.ref b161), .val (.ref t_163), .val (.ref b161), .val (.ref w_165), .val (.int 1)] [(.int y_149)]))
    refine Go.iload X174 hx (hb hby at_254) rfl (q := 256) rfl ?_
    refine Go.icmpNo X174 hx (hb hby at_256) (Jvm.Free.XT.ii_ne_f rfl) (q := 259) rfl ?_
    refine Go.iload X174 hx (hb hby at_259) rfl (q := 261) rfl ?_
    refine Go.iconst X174 hx (hb hby at_261) (r := (2 : Int32)) rfl (q := 262) rfl ?_
    refine Go.icmpNo X174 hx (hb hby at_262) (by decide) (q := 265) rfl ?_
    refine Go.aload X174 hx (hb hby at_265) rfl rfl (q := 267) rfl ?_
    refine Go.iconst X174 hx (hb hby at_267) (r := (4 : Int32)) rfl (q := 268) rfl ?_
    refine Go.virt X174 hx hZ hown (wd199 hw) (wd200 hw) (notFace_of_selects (args := #[]) (mvT hZ (wd202 hw))) (wd202 hw) (wd201 hw) (wd8 hw) (wd203 hw) (by decide) (cchar l Z a0 hw w_165 ((4 : Int32)) cs u_165 (ku_165) ((6 : Int32)) ([(.int 87), (.int 47), (.int 34), (.int (y_149.toInt8.toInt32)), (.int (y_152.toInt8.toInt32)), (.int 34)]) ((y_152.toInt8.toInt32)) fm h165 OK165 P165_3 P165_4 P165_5 P165_6 SCS SFM hcs hfm (by decide) (by decide) rfl) e174 P165_3 (by rw [hml]; rfl) (hb hby at_268) (argsL := [(.int 4)]) (rest := []) (lenOf pd11 rfl) rfl rfl (W := 0) (by first | exact Nat.le_refl _ | decide) (by decide) (by decide) (by decide) (by decide) ?_
    intro v175 T175 L175 X175 hQ175
    obtain ⟨rfl, N175q, e175⟩ := hQ175
    have N175 := Fr.app N174 N175q
    rw [own_ech P152_0]
    show Go pp ee below _ (T175.setTop (mkF mm 271 #[.val (.int pn), .val (.int pa), .val (.int pb), .val (.int pd), .val (.int 2), .val (.int y_149), .val (.int y_152), .val (.int y_155), .val (.ref b158), .val (.ref b161), .val (.ref t_163), .val (.ref b161), .val (.ref w_165), .val (.int 1)] [(.int y_152)]))
    refine Go.iload X175 hx (hb hby at_271) rfl (q := 273) rfl ?_
    refine Go.icmpNo X175 hx (hb hby at_273) (Jvm.Free.XT.ii_ne_f rfl) (q := 276) rfl ?_
    refine Go.iload X175 hx (hb hby at_276) rfl (q := 278) rfl ?_
    refine Go.iconst X175 hx (hb hby at_278) (r := (3 : Int32)) rfl (q := 279) rfl ?_
    refine Go.icmpYes X175 hx (hb hby at_279) (by decide) (q := 293) (by decide) (by decide) ?_
    refine Go.iconst X175 hx (hb hby at_293) (r := (1 : Int32)) rfl (q := 294) rfl ?_
    refine Go.goto X175 hx (hb hby at_294) (q := 298) (by decide) (by decide) ?_
    refine Go.istore X175 hx (hb hby at_298) (l' := #[.val (.int pn), .val (.int pa), .val (.int pb), .val (.int pd), .val (.int 2), .val (.int y_149), .val (.int y_152), .val (.int y_155), .val (.ref b158), .val (.ref b161), .val (.ref t_163), .val (.ref b161), .val (.ref w_165), .val (.int 1)]) rfl (q := 300) rfl ?_
    refine Go.iload X175 hx (hb hby at_300) rfl (q := 302) rfl ?_
    exact Go.retIH X175 hx hS hKd hs0 hZ (own_EW hw) hC hret hlk (by simp) rfl (hb hby at_302) e175 (by decide) (by decide) ⟨rfl, N175⟩
  · show Go pp ee below _ (s₁.setTop (mkF mm 3 #[.val (.int pn), .val (.int pa), .val (.int pb), .val (.int pd), .unset, .unset, .unset, .unset, .unset, .unset, .unset, .unset, .unset, .unset] [(.int 3)]))
    refine Go.istore X0 hx (hb hby at_3) (l' := #[.val (.int pn), .val (.int pa), .val (.int pb), .val (.int pd), .val (.int 3), .unset, .unset, .unset, .unset, .unset, .unset, .unset, .unset, .unset]) rfl (q := 5) rfl ?_
    refine Go.iloadN X0 hx (hb hby at_5) rfl (q := 6) rfl ?_
    refine Go.callS X0 hx hZ hown (wd0 hw) (wd1 hw) (wd2 hw) (wd3 hw) (by decide) (cetg l Z a0 hw pa h0 O0) e0 (by rw [hml]; rfl) (hb hby at_6) (argsL := [(.int pa)]) (rest := []) (lenOf pd11 rfl) rfl rfl (W := 0) (by first | exact Nat.le_refl _ | decide) (by decide) (by decide) (by decide) (by decide) ?_
    intro v176 T176 L176 X176 hQ176
    obtain ⟨y_176, rfl, N176q, e176, P176_0⟩ := hQ176
    have N176 := Fr.app N0 N176q
    have hk177 : nar .char y_176 = y_176 := own_ecn P176_0
    have hk178 : ¬ ((255 : Int32) < y_176) := own_ec255 P176_0
    refine Go.istore X176 hx (hb hby at_9) (l' := #[.val (.int pn), .val (.int pa), .val (.int pb), .val (.int pd), .val (.int 3), .val (.int y_176), .unset, .unset, .unset, .unset, .unset, .unset, .unset, .unset]) rfl (q := 11) rfl ?_
    refine Go.iloadN X176 hx (hb hby at_11) rfl (q := 12) rfl ?_
    refine Go.callS X176 hx hZ hown (wd0 hw) (wd1 hw) (wd2 hw) (wd3 hw) (by decide) (cetg l Z a0 hw pb h0 O0) e176 (by rw [hml]; rfl) (hb hby at_12) (argsL := [(.int pb)]) (rest := []) (lenOf pd11 rfl) rfl rfl (W := 0) (by first | exact Nat.le_refl _ | decide) (by decide) (by decide) (by decide) (by decide) ?_
    intro v179 T179 L179 X179 hQ179
    obtain ⟨y_179, rfl, N179q, e179, P179_0⟩ := hQ179
    have N179 := Fr.app N176 N179q
    have hk180 : nar .char y_179 = y_179 := own_ecn P179_0
    have hk181 : ¬ ((255 : Int32) < y_179) := own_ec255 P179_0
    refine Go.istore X179 hx (hb hby at_15) (l' := #[.val (.int pn), .val (.int pa), .val (.int pb), .val (.int pd), .val (.int 3), .val (.int y_176), .val (.int y_179), .unset, .unset, .unset, .unset, .unset, .unset, .unset]) rfl (q := 17) rfl ?_
    refine Go.iloadN X179 hx (hb hby at_17) rfl (q := 18) rfl ?_
    refine Go.callS X179 hx hZ hown (wd0 hw) (wd1 hw) (wd2 hw) (wd3 hw) (by decide) (cetg l Z a0 hw pd h0 O0) e179 (by rw [hml]; rfl) (hb hby at_18) (argsL := [(.int pd)]) (rest := []) (lenOf pd11 rfl) rfl rfl (W := 0) (by first | exact Nat.le_refl _ | decide) (by decide) (by decide) (by decide) (by decide) ?_
    intro v182 T182 L182 X182 hQ182
    obtain ⟨y_182, rfl, N182q, e182, P182_0⟩ := hQ182
    have N182 := Fr.app N179 N182q
    have hk183 : nar .char y_182 = y_182 := own_ecn P182_0
    have hk184 : ¬ ((255 : Int32) < y_182) := own_ec255 P182_0
    refine Go.istore X182 hx (hb hby at_21) (l' := #[.val (.int pn), .val (.int pa), .val (.int pb), .val (.int pd), .val (.int 3), .val (.int y_176), .val (.int y_179), .val (.int y_182), .unset, .unset, .unset, .unset, .unset, .unset]) rfl (q := 23) rfl ?_
    refine Go.iload X182 hx (hb hby at_23) rfl (q := 25) rfl ?_
    refine Go.ifYes X182 hx (hb hby at_25) (by decide) (q := 36) (by decide) (by decide) ?_
    refine Go.iload X182 hx (hb hby at_36) rfl (q := 38) rfl ?_
    refine Go.iconst X182 hx (hb hby at_38) (r := (1 : Int32)) rfl (q := 39) rfl ?_
    refine Go.icmpYes X182 hx (hb hby at_39) (by decide) (q := 55) (by decide) (by decide) ?_
    refine Go.iload X182 hx (hb hby at_55) rfl (q := 57) rfl ?_
    refine Go.iconst X182 hx (hb hby at_57) (r := (2 : Int32)) rfl (q := 58) rfl ?_
    refine Go.icmpYes X182 hx (hb hby at_58) (by decide) (q := 79) (by decide) (by decide) ?_
    refine Go.iconst X182 hx (hb hby at_79) (r := (3 : Int32)) rfl (q := 80) rfl ?_
    refine Go.newP X182 hx hZ (hb hby at_80) (wd5 hw) e182 (by decide) (cap := 3) (by decide) (by decide) (by decide) (by decide) (ad := "[C") rfl (q := 82) rfl ?_
    intro b185 T185 h185 k185 X185 e185 q185 E185 V185 B185
    have g_b185 : Z.heap.size ≤ b185 := Nat.le_trans O0.1 (Nat.le_of_eq q185)
    replace hC := hC.trans (CHr.ext E185 hC.1)
    have OE185 := ext_trans O0 E185
    replace hKd := Nat.le_trans hKd E185.1
    replace V185 : Arv Z h185 b185 k185 .char (3 : Int32) [(.int 0), (.int 0), (.int 0)] (.int 0) := V185.pad (pad_rep [] (.int 0) 3)
    refine Go.dup X185 hx (hb hby at_82) rfl (q := 83) rfl ?_
    refine Go.iconst X185 hx (hb hby at_83) (r := (0 : Int32)) rfl (q := 84) rfl ?_
    refine Go.iload X185 hx (hb hby at_84) rfl (q := 86) rfl ?_
    refine Go.cst X185 hx hZ e185 V185 ⟨by decide, by decide⟩ (i := 0) rfl (Nat.le_of_ble_eq_true rfl) (hb hby at_86) ?_
    intro T186 h186 X186 e186 W186 V186
    rw [hk177] at V186
    replace V186 : Arv Z h186 b185 k185 .char (3 : Int32) [(.int y_176), (.int 0), (.int 0)] (.int 0) := V186
    have N186 := Fr.snoc X186 N182 g_b185
    replace hC := hC.trans (CHr.wr W186 (Safe.exa hZ.alike B185 (by decide) (by decide)) hC.1)
    replace B185 := B185.wr W186
    have OW186 := ext_wr OE185 W186 g_b185
    replace hKd := Nat.le_trans hKd (Keep.of_wr W186).1
    refine Go.dup X186 hx (hb hby at_87) rfl (q := 88) rfl ?_
    refine Go.iconst X186 hx (hb hby at_88) (r := (1 : Int32)) rfl (q := 89) rfl ?_
    refine Go.iload X186 hx (hb hby at_89) rfl (q := 91) rfl ?_
    refine Go.cst X186 hx hZ e186 V186 ⟨by decide, by decide⟩ (i := 1) rfl (Nat.le_of_ble_eq_true rfl) (hb hby at_91) ?_
    intro T187 h187 X187 e187 W187 V187
    rw [hk180] at V187
    replace V187 : Arv Z h187 b185 k185 .char (3 : Int32) [(.int y_176), (.int y_179), (.int 0)] (.int 0) := V187
    have N187 := Fr.snoc X187 N186 g_b185
    replace hC := hC.trans (CHr.wr W187 (Safe.exa hZ.alike B185 (by decide) (by decide)) hC.1)
    replace B185 := B185.wr W187
    have OW187 := ext_wr OW186 W187 g_b185
    replace hKd := Nat.le_trans hKd (Keep.of_wr W187).1
    refine Go.dup X187 hx (hb hby at_92) rfl (q := 93) rfl ?_
    refine Go.iconst X187 hx (hb hby at_93) (r := (2 : Int32)) rfl (q := 94) rfl ?_
    refine Go.iload X187 hx (hb hby at_94) rfl (q := 96) rfl ?_
    refine Go.cst X187 hx hZ e187 V187 ⟨by decide, by decide⟩ (i := 2) rfl (Nat.le_of_ble_eq_true rfl) (hb hby at_96) ?_
    intro T188 h188 X188 e188 W188 V188
    rw [hk183] at V188
    replace V188 : Arv Z h188 b185 k185 .char (3 : Int32) [(.int y_176), (.int y_179), (.int y_182)] (.int 0) := V188
    have N188 := Fr.snoc X188 N187 g_b185
    replace hC := hC.trans (CHr.wr W188 (Safe.exa hZ.alike B185 (by decide) (by decide)) hC.1)
    replace B185 := B185.wr W188
    have OW188 := ext_wr OW187 W188 g_b185
    replace hKd := Nat.le_trans hKd (Keep.of_wr W188).1
    refine Go.astore X188 hx (hb hby at_97) rfl (l' := #[.val (.int pn), .val (.int pa), .val (.int pb), .val (.int pd), .val (.int 3), .val (.int y_176), .val (.int y_179), .val (.int y_182), .val (.ref b185), .unset, .unset, .unset, .unset, .unset]) rfl (q := 99) rfl ?_
    refine Go.newO X188 hx hZ hown (wd6 hw) (wd7 hw) (wd8 hw) e188 (hb hby at_99) (by decide) (by decide) (q := 102) rfl ?_
    intro b189 T189 h189 X189 e189 q189 E189 A189 D189 U189
    have ne_b185_b189 : b185 ≠ b189 := ne_new B185.lt (Nat.le_of_eq q189)
    have g_b189 : Z.heap.size ≤ b189 := Nat.le_trans OW188.1 (Nat.le_of_eq q189)
    replace hC := hC.trans (CHr.ext E189 hC.1)
    replace B185 := B185.ext E189
    replace V188 := V188.ext E189
    have OE189 := ext_trans OW188 E189
    replace hKd := Nat.le_trans hKd E189.1
    have F189_value : Fld Z h189 b189 xS0 "value" "[B" .null := D189 (Or.inr (wd21 hw)) (ty := (.array .byte)) (by decide)
    have F189_coder : Fld Z h189 b189 xS0 "coder" "B" (.int 0) := D189 (Or.inr (wd22 hw)) (ty := .byte) (by decide)
    clear D189
    refine Go.dup X189 hx (hb hby at_102) rfl (q := 103) rfl ?_
    refine Go.aload X189 hx (hb hby at_103) rfl rfl (q := 105) rfl ?_
    refine Go.init X189 hx hZ hown rfl (wd9 hw) (wd10 hw) (wd8 hw) (wd11 hw) (by decide) (csj3 l Z a0 hw b189 b185 (k185) y_176 y_179 y_182 cs h189 OE189 A189 F189_value F189_coder g_b189 V188 SCS hcs hk178 hk181 hk184) e189 (by rw [hml]; rfl) (hb hby at_105) (argsL := [(.ref b185)]) (rest := [(.ref b189)]) (lenOf pd30 rfl) rfl rfl (W := 1) (by first | exact Nat.le_refl _ | decide) (by decide) (by decide) (by decide) (by decide) ?_
    intro v190 T190 L190 X190 hQ190
    obtain ⟨h190, e190⟩ : ∃ z, T190.heap = z := ⟨_, rfl⟩
    rw [e190] at hQ190
    obtain ⟨b_190, kb_190, rfl, N190q, K190, fr190_b, P190_0, P190_1, P190_2⟩ := hQ190
    have N190 := Fr.app N188 N190q
    have ne_b185_b_190 : b185 ≠ b_190 := ne_new B185.lt fr190_b
    have ne_b189_b_190 : b189 ≠ b_190 := ne_new A189.lt fr190_b
    have g_b_190 : Z.heap.size ≤ b_190 := Nat.le_trans OE189.1 fr190_b
    replace hKd := Nat.le_trans hKd K190.1
    have hSk : ∀ x ∈ [b189], Safe Z consts_1 ss.vm h189 x := (allS (own_safeNull hZ.alike A189 F189_value) all0)
    replace hC := hC.trans (CHr.keep K190 hSk hC.1)
    replace B185 := B185.keep K190
    replace V188 := V188.keep K190 (ninS ne_b185_b189 nin0)
    replace A189 := A189.keep K190
    have OK190 := ext_keep OE189 K190 (allS g_b189 all0)
    refine Go.astore X190 hx (hb hby at_108) rfl (l' := #[.val (.int pn), .val (.int pa), .val (.int pb), .val (.int pd), .val (.int 3), .val (.int y_176), .val (.int y_179), .val (.int y_182), .val (.ref b185), .val (.ref b189), .unset, .unset, .unset, .unset]) rfl (q := 110) rfl ?_
    refine Go.aload X190 hx (hb hby at_110) rfl rfl (q := 112) rfl ?_
    refine Go.callSH X190 hx hZ hown hS hKd (own_EW hw) hC (wd27 hw) (wd28 hw) (wd29 hw) (wd30 hw) (by decide) (cwk3 l Z a0 hw b189 b_190 (kb_190) cs fm y_176 y_179 y_182 h190 OK190 A189 P190_1 P190_0 P190_2 SCS SFM hcs hfm P176_0 P179_0 P182_0) e190 (by rw [hml]; rfl) (hb hby at_112) (argsL := [(.ref b189)]) (rest := []) (lenOf pd31 rfl) rfl rfl (W := 0) (by first | exact Nat.le_refl _ | decide) (by decide) (by decide) (by decide) (by decide) ?_
    intro v191 T191 L191 k191 X191 hS hKd hZ hown hR191 hQ191
    obtain ⟨h191, e191⟩ : ∃ z, T191.heap = z := ⟨_, rfl⟩
    rw [e191] at hQ191 hKd hR191
    obtain ⟨t_191, rfl, N191q, K191, fr191_t, P191_0, P191_1, P191_2, P191_3⟩ := hQ191
    have N191 := Fr.app N190 N191q
    replace hC := hC.trans hR191
    have ne_b185_t_191 : b185 ≠ t_191 := ne_new B185.lt fr191_t
    have ne_b189_t_191 : b189 ≠ t_191 := ne_new A189.lt fr191_t
    have ne_b_190_t_191 : b_190 ≠ t_191 := ne_new P190_2.lt fr191_t
    have g_t_191 : Z.heap.size ≤ t_191 := Nat.le_trans OK190.1 fr191_t
    replace B185 := B185.keep K191
    replace V188 := V188.keep K191 nin0
    replace A189 := A189.keep K191
    replace P190_0 := P190_0.keep K191 nin0
    replace P190_1 := P190_1.keep K191 nin0
    replace P190_2 := P190_2.keep K191 nin0
    have OK191 := ext_keep OK190 K191 all0
    refine Go.astore X191 hx (hb hby at_115) rfl (l' := #[.val (.int pn), .val (.int pa), .val (.int pb), .val (.int pd), .val (.int 3), .val (.int y_176), .val (.int y_179), .val (.int y_182), .val (.ref b185), .val (.ref b189), .val (.ref t_191), .unset, .unset, .unset]) rfl (q := 117) rfl ?_
    refine Go.aload X191 hx (hb hby at_117) rfl rfl (q := 119) rfl ?_
    refine Go.virt X191 hx hZ hown (wd60 hw) (wd61 hw) (notFace_of_selects (args := #[]) (mvT hZ (wd63 hw))) (wd63 hw) (wd62 hw) (wd29 hw) (wd64 hw) (by decide) (cval l Z a0 hw t_191 b189 h191 OK191 P191_2) e191 P191_0 (by rw [hml]; rfl) (hb hby at_119) (argsL := []) (rest := []) (lenOf pd29 rfl) rfl rfl (W := 0) (by first | exact Nat.le_refl _ | decide) (by decide) (by decide) (by decide) (by decide) ?_
    intro v192 T192 L192 X192 hQ192
    obtain ⟨rfl, N192q, e192⟩ := hQ192
    have N192 := Fr.app N191 N192q
    refine Go.astore X192 hx (hb hby at_122) rfl (l' := #[.val (.int pn), .val (.int pa), .val (.int pb), .val (.int pd), .val (.int 3), .val (.int y_176), .val (.int y_179), .val (.int y_182), .val (.ref b185), .val (.ref b189), .val (.ref t_191), .val (.ref b189), .unset, .unset]) rfl (q := 124) rfl ?_
    refine Go.aload X192 hx (hb hby at_124) rfl rfl (q := 126) rfl ?_
    refine Go.virtH X192 hx hZ hown hS hKd (own_EW hw) hC (wd65 hw) (wd66 hw) (notFace_of_selects (args := #[]) (mvT hZ (wd68 hw))) (wd68 hw) (wd67 hw) (wd29 hw) (wd69 hw) (by decide) (ctos l Z a0 hw t_191 b189 b_190 (kb_190) cs ((3 : Int32)) ([(.int (y_176.toInt8.toInt32)), (.int (y_179.toInt8.toInt32)), (.int (y_182.toInt8.toInt32))]) ([(.int 87), (.int 47), (.int 34), (.int (y_176.toInt8.toInt32)), (.int (y_179.toInt8.toInt32)), (.int (y_182.toInt8.toInt32)), (.int 0)]) ([(.int 87), (.int 47), (.int 34), (.int (y_176.toInt8.toInt32)), (.int (y_179.toInt8.toInt32)), (.int (y_182.toInt8.toInt32)), (.int 34)]) ([(.int 87), (.int 47), (.int 34), (.int (y_176.toInt8.toInt32)), (.int (y_179.toInt8.toInt32)), (.int (y_182.toInt8.toInt32)), (.int 34)]) h191 OK191 P191_0 g_t_191 P191_1 P191_2 P191_3 A189 P190_1 P190_0 P190_2 SCS hcs ⟨⟨by decide, by decide, by decide⟩, by decide, by decide, rfl, Nat.le_of_ble_eq_true rfl, rfl⟩ (by decide) ⟨⟨by decide, by decide⟩, Nat.le_of_ble_eq_true rfl, rfl⟩ (by decide) ⟨⟨by decide, by decide⟩, by decide, rfl⟩) e192 P191_0 (by rw [hml]; rfl) (hb hby at_126) (argsL := []) (rest := []) (lenOf pd29 rfl) rfl rfl (W := 0) (by first | exact Nat.le_refl _ | decide) (by decide) (by decide) (by decide) (by decide) ?_
    intro v193 T193 L193 k193 X193 hS hKd hZ hown hR193 hQ193
    obtain ⟨h193, e193⟩ : ∃ z, T193.heap = z := ⟨_, rfl⟩
    rw [e193] at hQ193 hKd hR193
    obtain ⟨w_193, u_193, ku_193, rfl, N193q, K193, P193_0, P193_1, P193_2, P193_3, P193_4, P193_5, P193_6⟩ := hQ193
    have N193 := Fr.app N192 N193q
    replace hC := hC.trans hR193
    replace B185 := B185.keep K193
    replace V188 := V188.keep K193 (ninS ne_b185_t_191 nin0)
    replace A189 := A189.keep K193
    replace P190_0 := P190_0.keep K193 (ninS ne_b189_t_191 nin0)
    replace P190_1 := P190_1.keep K193 (ninS ne_b189_t_191 nin0)
    replace P190_2 := P190_2.keep K193 (ninS ne_b_190_t_191 nin0)
    replace P191_0 := P191_0.keep K193
    have OK193 := ext_keep OK191 K193 (allS g_t_191 all0)
    refine Go.astore X193 hx (hb hby at_129) rfl (l' := #[.val (.int pn), .val (.int pa), .val (.int pb), .val (.int pd), .val (.int 3), .val (.int y_176), .val (.int y_179), .val (.int y_182), .val (.ref b185), .val (.ref b189), .val (.ref t_191), .val (.ref b189), .val (.ref w_193), .unset]) rfl (q := 131) rfl ?_
    refine Go.aload X193 hx (hb hby at_131) rfl rfl (q := 133) rfl ?_
    refine Go.virt X193 hx hZ hown (wd188 hw) (wd189 hw) (notFace_of_selects (args := #[]) (mvT hZ (wd191 hw))) (wd191 hw) (wd190 hw) (wd29 hw) (wd192 hw) (by decide) (cisw l Z a0 hw t_191 h193 OK193 P193_0) e193 P191_0 (by rw [hml]; rfl) (hb hby at_133) (argsL := []) (rest := []) (lenOf pd7 rfl) rfl rfl (W := 0) (by first | exact Nat.le_refl _ | decide) (by decide) (by decide) (by decide) (by decide) ?_
    intro v194 T194 L194 X194 hQ194
    obtain ⟨rfl, N194q, e194⟩ := hQ194
    have N194 := Fr.app N193 N194q
    refine Go.ifNo X194 hx (hb hby at_136) (by decide) (q := 139) rfl ?_
    refine Go.aload X194 hx (hb hby at_139) rfl rfl (q := 141) rfl ?_
    refine Go.aload X194 hx (hb hby at_141) rfl rfl (q := 143) rfl ?_
    refine Go.virt X194 hx hZ hown (wd193 hw) (wd194 hw) (notFace_of_selects (args := #[]) (mvT hZ (wd196 hw))) (wd196 hw) (wd195 hw) (wd8 hw) (wd197 hw) (by decide) (ceqs l Z a0 hw b189 h193 OK193) e194 A189 (by rw [hml]; rfl) (hb hby at_143) (argsL := [(.ref b189)]) (rest := []) (lenOf pd32 rfl) rfl rfl (W := 0) (by first | exact Nat.le_refl _ | decide) (by decide) (by decide) (by decide) (by decide) ?_
    intro v195 T195 L195 X195 hQ195
    obtain ⟨rfl, N195q, e195⟩ := hQ195
    have N195 := Fr.app N194 N195q
    refine Go.ifNo X195 hx (hb hby at_146) (by decide) (q := 149) rfl ?_
    refine Go.aload X195 hx (hb hby at_149) rfl rfl (q := 151) rfl ?_
    refine Go.virt X195 hx hZ hown (wd198 hw) (wd42 hw) (notFace_of_selects (args := #[]) (mvT hZ (wd44 hw))) (wd44 hw) (wd43 hw) (wd8 hw) (wd45 hw) (by decide) (clen l Z a0 hw b189 cs b_190 (kb_190) ((3 : Int32)) ([(.int (y_176.toInt8.toInt32)), (.int (y_179.toInt8.toInt32)), (.int (y_182.toInt8.toInt32))]) h193 OK193 A189 P190_1 P190_0 P190_2 SCS hcs) e195 A189 (by rw [hml]; rfl) (hb hby at_151) (argsL := []) (rest := []) (lenOf pd10 rfl) rfl rfl (W := 0) (by first | exact Nat.le_refl _ | decide) (by decide) (by decide) (by decide) (by decide) ?_
    intro v196 T196 L196 X196 hQ196
    obtain ⟨rfl, N196q, e196⟩ := hQ196
    have N196 := Fr.app N195 N196q
    refine Go.iload X196 hx (hb hby at_154) rfl (q := 156) rfl ?_
    refine Go.icmpNo X196 hx (hb hby at_156) (by decide) (q := 159) rfl ?_
    refine Go.iconst X196 hx (hb hby at_159) (r := (1 : Int32)) rfl (q := 160) rfl ?_
    refine Go.goto X196 hx (hb hby at_160) (q := 164) (by decide) (by decide) ?_
    refine Go.istore X196 hx (hb hby at_164) (l' := #[.val (.int pn), .val (.int pa), .val (.int pb), .val (.int pd), .val (.int 3), .val (.int y_176), .val (.int y_179), .val (.int y_182), .val (.ref b185), .val (.ref b189), .val (.ref t_191), .val (.ref b189), .val (.ref w_193), .val (.int 1)]) rfl (q := 166) rfl ?_
    refine Go.iload X196 hx (hb hby at_166) rfl (q := 168) rfl ?_
    refine Go.ifNo X196 hx (hb hby at_168) (by decide) (q := 171) rfl ?_
    refine Go.aload X196 hx (hb hby at_171) rfl rfl (q := 173) rfl ?_
    refine Go.virt X196 hx hZ hown (wd198 hw) (wd42 hw) (notFace_of_selects (args := #[]) (mvT hZ (wd44 hw))) (wd44 hw) (wd43 hw) (wd8 hw) (wd45 hw) (by decide) (clen l Z a0 hw w_193 cs u_193 (ku_193) ((7 : Int32)) ([(.int 87), (.int 47), (.int 34), (.int (y_176.toInt8.toInt32)), (.int (y_179.toInt8.toInt32)), (.int (y_182.toInt8.toInt32)), (.int 34)]) h193 OK193 P193_3 P193_4 P193_5 P193_6 SCS hcs) e196 P193_3 (by rw [hml]; rfl) (hb hby at_173) (argsL := []) (rest := []) (lenOf pd10 rfl) rfl rfl (W := 0) (by first | exact Nat.le_refl _ | decide) (by decide) (by decide) (by decide) (by decide) ?_
    intro v197 T197 L197 X197 hQ197
    obtain ⟨rfl, N197q, e197⟩ := hQ197
    have N197 := Fr.app N196 N197q
    refine Go.iload X197 hx (hb hby at_176) rfl (q := 178) rfl ?_
    refine Go.iconst X197 hx (hb hby at_178) (r := (4 : Int32)) rfl (q := 179) rfl ?_
    refine Go.iadd X197 hx (hb hby at_179) (r := (7 : Int32)) rfl (q := 180) rfl ?_
    refine Go.icmpNo X197 hx (hb hby at_180) (by decide) (q := 183) rfl ?_
    refine Go.aload X197 hx (hb hby at_183) rfl rfl (q := 185) rfl ?_
    refine Go.iconst X197 hx (hb hby at_185) (r := (0 : Int32)) rfl (q := 186) rfl ?_
    refine Go.virt X197 hx hZ hown (wd199 hw) (wd200 hw) (notFace_of_selects (args := #[]) (mvT hZ (wd202 hw))) (wd202 hw) (wd201 hw) (wd8 hw) (wd203 hw) (by decide) (cchar l Z a0 hw w_193 ((0 : Int32)) cs u_193 (ku_193) ((7 : Int32)) ([(.int 87), (.int 47), (.int 34), (.int (y_176.toInt8.toInt32)), (.int (y_179.toInt8.toInt32)), (.int (y_182.toInt8.toInt32)), (.int 34)]) ((87 : Int32)) fm h193 OK193 P193_3 P193_4 P193_5 P193_6 SCS SFM hcs hfm (by decide) (by decide) rfl) e197 P193_3 (by rw [hml]; rfl) (hb hby at_186) (argsL := [(.int 0)]) (rest := []) (lenOf pd11 rfl) rfl rfl (W := 0) (by first | exact Nat.le_refl _ | decide) (by decide) (by decide) (by decide) (by decide) ?_
    intro v198 T198 L198 X198 hQ198
    obtain ⟨rfl, N198q, e198⟩ := hQ198
    have N198 := Fr.app N197 N198q
    refine Go.bipush X198 hx (hb hby at_189) (r := (87 : Int32)) rfl (q := 191) rfl ?_
    refine Go.icmpNo X198 hx (hb hby at_191) (by decide) (q := 194) rfl ?_
    refine Go.aload X198 hx (hb hby at_194) rfl rfl (q := 196) rfl ?_
    refine Go.iconst X198 hx (hb hby at_196) (r := (1 : Int32)) rfl (q := 197) rfl ?_
    refine Go.virt X198 hx hZ hown (wd199 hw) (wd200 hw) (notFace_of_selects (args := #[]) (mvT hZ (wd202 hw))) (wd202 hw) (wd201 hw) (wd8 hw) (wd203 hw) (by decide) (cchar l Z a0 hw w_193 ((1 : Int32)) cs u_193 (ku_193) ((7 : Int32)) ([(.int 87), (.int 47), (.int 34), (.int (y_176.toInt8.toInt32)), (.int (y_179.toInt8.toInt32)), (.int (y_182.toInt8.toInt32)), (.int 34)]) ((47 : Int32)) fm h193 OK193 P193_3 P193_4 P193_5 P193_6 SCS SFM hcs hfm (by decide) (by decide) rfl) e198 P193_3 (by rw [hml]; rfl) (hb hby at_197) (argsL := [(.int 1)]) (rest := []) (lenOf pd11 rfl) rfl rfl (W := 0) (by first | exact Nat.le_refl _ | decide) (by decide) (by decide) (by decide) (by decide) ?_
    intro v199 T199 L199 X199 hQ199
    obtain ⟨rfl, N199q, e199⟩ := hQ199
    have N199 := Fr.app N198 N199q
    refine Go.bipush X199 hx (hb hby at_200) (r := (47 : Int32)) rfl (q := 202) rfl ?_
    refine Go.icmpNo X199 hx (hb hby at_202) (by decide) (q := 205) rfl ?_
    refine Go.aload X199 hx (hb hby at_205) rfl rfl (q := 207) rfl ?_
    refine Go.iconst X199 hx (hb hby at_207) (r := (2 : Int32)) rfl (q := 208) rfl ?_
    refine Go.virt X199 hx hZ hown (wd199 hw) (wd200 hw) (notFace_of_selects (args := #[]) (mvT hZ (wd202 hw))) (wd202 hw) (wd201 hw) (wd8 hw) (wd203 hw) (by decide) (cchar l Z a0 hw w_193 ((2 : Int32)) cs u_193 (ku_193) ((7 : Int32)) ([(.int 87), (.int 47), (.int 34), (.int (y_176.toInt8.toInt32)), (.int (y_179.toInt8.toInt32)), (.int (y_182.toInt8.toInt32)), (.int 34)]) ((34 : Int32)) fm h193 OK193 P193_3 P193_4 P193_5 P193_6 SCS SFM hcs hfm (by decide) (by decide) rfl) e199 P193_3 (by rw [hml]; rfl) (hb hby at_208) (argsL := [(.int 2)]) (rest := []) (lenOf pd11 rfl) rfl rfl (W := 0) (by first | exact Nat.le_refl _ | decide) (by decide) (by decide) (by decide) (by decide) ?_
    intro v200 T200 L200 X200 hQ200
    obtain ⟨rfl, N200q, e200⟩ := hQ200
    have N200 := Fr.app N199 N200q
    refine Go.bipush X200 hx (hb hby at_211) (r := (34 : Int32)) rfl (q := 213) rfl ?_
    refine Go.icmpNo X200 hx (hb hby at_213) (by decide) (q := 216) rfl ?_
    refine Go.aload X200 hx (hb hby at_216) rfl rfl (q := 218) rfl ?_
    refine Go.iload X200 hx (hb hby at_218) rfl (q := 220) rfl ?_
    refine Go.iconst X200 hx (hb hby at_220) (r := (3 : Int32)) rfl (q := 221) rfl ?_
    refine Go.iadd X200 hx (hb hby at_221) (r := (6 : Int32)) rfl (q := 222) rfl ?_
    refine Go.virt X200 hx hZ hown (wd199 hw) (wd200 hw) (notFace_of_selects (args := #[]) (mvT hZ (wd202 hw))) (wd202 hw) (wd201 hw) (wd8 hw) (wd203 hw) (by decide) (cchar l Z a0 hw w_193 ((6 : Int32)) cs u_193 (ku_193) ((7 : Int32)) ([(.int 87), (.int 47), (.int 34), (.int (y_176.toInt8.toInt32)), (.int (y_179.toInt8.toInt32)), (.int (y_182.toInt8.toInt32)), (.int 34)]) ((34 : Int32)) fm h193 OK193 P193_3 P193_4 P193_5 P193_6 SCS SFM hcs hfm (by decide) (by decide) rfl) e200 P193_3 (by rw [hml]; rfl) (hb hby at_222) (argsL := [(.int 6)]) (rest := []) (lenOf pd11 rfl) rfl rfl (W := 0) (by first | exact Nat.le_refl _ | decide) (by decide) (by decide) (by decide) (by decide) ?_
    intro v201 T201 L201 X201 hQ201
    obtain ⟨rfl, N201q, e201⟩ := hQ201
    have N201 := Fr.app N200 N201q
    refine Go.bipush X201 hx (hb hby at_225) (r := (34 : Int32)) rfl (q := 227) rfl ?_
    refine Go.icmpNo X201 hx (hb hby at_227) (by decide) (q := 230) rfl ?_
    refine Go.iconst X201 hx (hb hby at_230) (r := (1 : Int32)) rfl (q := 231) rfl ?_
    refine Go.goto X201 hx (hb hby at_231) (q := 235) (by decide) (by decide) ?_
    refine Go.istore X201 hx (hb hby at_235) (l' := #[.val (.int pn), .val (.int pa), .val (.int pb), .val (.int pd), .val (.int 3), .val (.int y_176), .val (.int y_179), .val (.int y_182), .val (.ref b185), .val (.ref b189), .val (.ref t_191), .val (.ref b189), .val (.ref w_193), .val (.int 1)]) rfl (q := 237) rfl ?_
    refine Go.iload X201 hx (hb hby at_237) rfl (q := 239) rfl ?_
    refine Go.ifNo X201 hx (hb hby at_239) (by decide) (q := 242) rfl ?_
    refine Go.iload X201 hx (hb hby at_242) rfl (q := 244) rfl ?_
    refine Go.iconst X201 hx (hb hby at_244) (r := (1 : Int32)) rfl (q := 245) rfl ?_
    refine Go.icmpNo X201 hx (hb hby at_245) (by decide) (q := 248) rfl ?_
    refine Go.aload X201 hx (hb hby at_248) rfl rfl (q := 250) rfl ?_
    refine Go.iconst X201 hx (hb hby at_250) (r := (3 : Int32)) rfl (q := 251) rfl ?_
    refine Go.virt X201 hx hZ hown (wd199 hw) (wd200 hw) (notFace_of_selects (args := #[]) (mvT hZ (wd202 hw))) (wd202 hw) (wd201 hw) (wd8 hw) (wd203 hw) (by decide) (cchar l Z a0 hw w_193 ((3 : Int32)) cs u_193 (ku_193) ((7 : Int32)) ([(.int 87), (.int 47), (.int 34), (.int (y_176.toInt8.toInt32)), (.int (y_179.toInt8.toInt32)), (.int (y_182.toInt8.toInt32)), (.int 34)]) ((y_176.toInt8.toInt32)) fm h193 OK193 P193_3 P193_4 P193_5 P193_6 SCS SFM hcs hfm (by decide) (by decide) rfl) e201 P193_3 (by rw [hml]; rfl) (hb hby at_251) (argsL := [(.int 3)]) (rest := []) (lenOf pd11 rfl) rfl rfl (W := 0) (by first | exact Nat.le_refl _ | decide) (by decide) (by decide) (by decide) (by decide) ?_
    intro v202 T202 L202 X202 hQ202
    obtain ⟨rfl, N202q, e202⟩ := hQ202
    have N202 := Fr.app N201 N202q
    rw [own_ech P176_0]
    show Go pp ee below _ (T202.setTop (mkF mm 254 #[.val (.int pn), .val (.int pa), .val (.int pb), .val (.int pd), .val (.int 3), .val (.int y_176), .val (.int y_179), .val (.int y_182), .val (.ref b185), .val (.ref b189), .val (.ref t_191), .val (.ref b189), .val (.ref w_193), .val (.int 1)] [(.int y_176)]))
    refine Go.iload X202 hx (hb hby at_254) rfl (q := 256) rfl ?_
    refine Go.icmpNo X202 hx (hb hby at_256) (Jvm.Free.XT.ii_ne_f rfl) (q := 259) rfl ?_
    refine Go.iload X202 hx (hb hby at_259) rfl (q := 261) rfl ?_
    refine Go.iconst X202 hx (hb hby at_261) (r := (2 : Int32)) rfl (q := 262) rfl ?_
    refine Go.icmpNo X202 hx (hb hby at_262) (by decide) (q := 265) rfl ?_
    refine Go.aload X202 hx (hb hby at_265) rfl rfl (q := 267) rfl ?_
    refine Go.iconst X202 hx (hb hby at_267) (r := (4 : Int32)) rfl (q := 268) rfl ?_
    refine Go.virt X202 hx hZ hown (wd199 hw) (wd200 hw) (notFace_of_selects (args := #[]) (mvT hZ (wd202 hw))) (wd202 hw) (wd201 hw) (wd8 hw) (wd203 hw) (by decide) (cchar l Z a0 hw w_193 ((4 : Int32)) cs u_193 (ku_193) ((7 : Int32)) ([(.int 87), (.int 47), (.int 34), (.int (y_176.toInt8.toInt32)), (.int (y_179.toInt8.toInt32)), (.int (y_182.toInt8.toInt32)), (.int 34)]) ((y_179.toInt8.toInt32)) fm h193 OK193 P193_3 P193_4 P193_5 P193_6 SCS SFM hcs hfm (by decide) (by decide) rfl) e202 P193_3 (by rw [hml]; rfl) (hb hby at_268) (argsL := [(.int 4)]) (rest := []) (lenOf pd11 rfl) rfl rfl (W := 0) (by first | exact Nat.le_refl _ | decide) (by decide) (by decide) (by decide) (by decide) ?_
    intro v203 T203 L203 X203 hQ203
    obtain ⟨rfl, N203q, e203⟩ := hQ203
    have N203 := Fr.app N202 N203q
    rw [own_ech P179_0]
    show Go pp ee below _ (T203.setTop (mkF mm 271 #[.val (.int pn), .val (.int pa), .val (.int pb), .val (.int pd), .val (.int 3), .val (.int y_176), .val (.int y_179), .val (.int y_182), .val (.ref b185), .val (.ref b189), .val (.ref t_191), .val (.ref b189), .val (.ref w_193), .val (.int 1)] [(.int y_179)]))
    refine Go.iload X203 hx (hb hby at_271) rfl (q := 273) rfl ?_
    refine Go.icmpNo X203 hx (hb hby at_273) (Jvm.Free.XT.ii_ne_f rfl) (q := 276) rfl ?_
    refine Go.iload X203 hx (hb hby at_276) rfl (q := 278) rfl ?_
    refine Go.iconst X203 hx (hb hby at_278) (r := (3 : Int32)) rfl (q := 279) rfl ?_
    refine Go.icmpNo X203 hx (hb hby at_279) (by decide) (q := 282) rfl ?_
    refine Go.aload X203 hx (hb hby at_282) rfl rfl (q := 284) rfl ?_
    refine Go.iconst X203 hx (hb hby at_284) (r := (5 : Int32)) rfl (q := 285) rfl ?_
    refine Go.virt X203 hx hZ hown (wd199 hw) (wd200 hw) (notFace_of_selects (args := #[]) (mvT hZ (wd202 hw))) (wd202 hw) (wd201 hw) (wd8 hw) (wd203 hw) (by decide) (cchar l Z a0 hw w_193 ((5 : Int32)) cs u_193 (ku_193) ((7 : Int32)) ([(.int 87), (.int 47), (.int 34), (.int (y_176.toInt8.toInt32)), (.int (y_179.toInt8.toInt32)), (.int (y_182.toInt8.toInt32)), (.int 34)]) ((y_182.toInt8.toInt32)) fm h193 OK193 P193_3 P193_4 P193_5 P193_6 SCS SFM hcs hfm (by decide) (by decide) rfl) e203 P193_3 (by rw [hml]; rfl) (hb hby at_285) (argsL := [(.int 5)]) (rest := []) (lenOf pd11 rfl) rfl rfl (W := 0) (by first | exact Nat.le_refl _ | decide) (by decide) (by decide) (by decide) (by decide) ?_
    intro v204 T204 L204 X204 hQ204
    obtain ⟨rfl, N204q, e204⟩ := hQ204
    have N204 := Fr.app N203 N204q
    rw [own_ech P182_0]
    show Go pp ee below _ (T204.setTop (mkF mm 288 #[.val (.int pn), .val (.int pa), .val (.int pb), .val (.int pd), .val (.int 3), .val (.int y_176), .val (.int y_179), .val (.int y_182), .val (.ref b185), .val (.ref b189), .val (.ref t_191), .val (.ref b189), .val (.ref w_193), .val (.int 1)] [(.int y_182)]))
    refine Go.iload X204 hx (hb hby at_288) rfl (q := 290) rfl ?_
    refine Go.icmpNo X204 hx (hb hby at_290) (Jvm.Free.XT.ii_ne_f rfl) (q := 293) rfl ?_
    refine Go.iconst X204 hx (hb hby at_293) (r := (1 : Int32)) rfl (q := 294) rfl ?_
    refine Go.goto X204 hx (hb hby at_294) (q := 298) (by decide) (by decide) ?_
    refine Go.istore X204 hx (hb hby at_298) (l' := #[.val (.int pn), .val (.int pa), .val (.int pb), .val (.int pd), .val (.int 3), .val (.int y_176), .val (.int y_179), .val (.int y_182), .val (.ref b185), .val (.ref b189), .val (.ref t_191), .val (.ref b189), .val (.ref w_193), .val (.int 1)]) rfl (q := 300) rfl ?_
    refine Go.iload X204 hx (hb hby at_300) rfl (q := 302) rfl ?_
    exact Go.retIH X204 hx hS hKd hs0 hZ (own_EW hw) hC hret hlk (by simp) rfl (hb hby at_302) e204 (by decide) (by decide) ⟨rfl, N204⟩
theorem comes_1 {Post : Tables → Env → Array Value → State → Outcome → State → Prop} (hpost : ∀ tb e args s v u, (limb_1_1.after args s (.returned v) u = true ∧ limb_1_2.after args s (.returned v) u = true ∧ True) → ReturnedEndW s (.returned v) u (Jvm.fieldLocs frame_1_writes args s ++ Jvm.arrayLocs frame_1_arrays args s ++ Jvm.staticLocs frame_1_statics s) 32 3264 → Post tb e args s (.returned v) u) :
    ArmFor flags0 classFile x code maxLocals ret World_1 tables_1 room_1 Calls_1 rest_1 Pre_1 Post := by
  intro l hfl _ _ p e ha hc hk s m args below hf hA hF happ hP
  obtain ⟨hcalls, hrest, hpre⟩ := hP
  obtain ⟨-, -, -, hnamed, -, -, -, hat⟩ := (Spec.applies_iff hf).mp happ
  obtain ⟨hg, hn⟩ := and_e (Cond.before_iff.mp (show (Jvm.Cond.and given_1 narrow_1).before args s = true from hpre))
  obtain ⟨ga1, gb1⟩ := and_e hg
  obtain ⟨ga2, gb2⟩ := and_e gb1
  obtain ⟨ga3, gb3⟩ := and_e gb2
  obtain ⟨ga4, gb4⟩ := and_e gb3
  obtain ⟨w0, w1, w2, w3, rfl⟩ : ∃ w0 w1 w2 w3 : Value, args = #[w0, w1, w2, w3] := by
    have hs : args.size = 4 := by simpa [Cond.value, given_1] using ga1
    obtain ⟨L⟩ := args
    match L, hs with
    | [w0, w1, w2, w3], _ => exact ⟨w0, w1, w2, w3, rfl⟩
  have hw := fun d (hd : d ∈ tables_1) => atoms_spec (ws := Jvm.Cond.code x code maxLocals ret :: tables_1) hat d (List.mem_cons_of_mem _ hd)
  have hfit : Fit s := fun {y c} hc i hi => by
    obtain ⟨ha, rfl⟩ := Array.getElem?_eq_some_iff.mp hc
    have q := List.all_eq_true.mp ((Array.all_eq_true_iff_forall_mem.mp hF) _ (Array.getElem_mem ha)) i (List.mem_range.mpr hi)
    simpa [Array.getElem?_eq_getElem hi] using q
  obtain ⟨hsets, hown0⟩ := atoms_of _ (rest_1_c_eq ▸ (show rest_1_c.before _ s = true from hrest))
  have hr0 := Cond.before_iff.mp hown0
  obtain ⟨i0, ei0⟩ := is_v ga2
  obtain rfl : w0 = (.int i0) := Option.some.inj ei0
  obtain ⟨i1, ei1⟩ := is_v ga3
  obtain rfl : w1 = (.int i1) := Option.some.inj ei1
  obtain ⟨i2, ei2⟩ := is_v ga4
  obtain rfl : w2 = (.int i2) := Option.some.inj ei2
  obtain ⟨i3, ei3⟩ := is_v gb4
  obtain rfl : w3 = (.int i3) := Option.some.inj ei3
  obtain ⟨cs, ecs, SCS⟩ := sta_int (hsets _ (List.mem_of_getElem? (i := 0) rfl)) (hsets _ (List.mem_of_getElem? (i := 1) rfl))
  have hcs := ne_int ecs (hsets _ (List.mem_of_getElem? (i := 2) rfl))
  obtain ⟨fm, efm, hfm, SFM⟩ := sta_ref (hsets _ (List.mem_of_getElem? (i := 7) rfl)) (hsets _ (List.mem_of_getElem? (i := 8) rfl))
  have hcw : Jvm.Lit.compactW.before #[.int i0, .int i1, .int i2, .int i3] s = true := (hsets _ (List.mem_of_getElem? (i := 2) rfl))
  have hCH := CHv.start (own_EW hw) (show ∀ p ∈ consts_1, Jvm.Lit.constHeld s p.1 p.2 from hcalls.1) hcw (wd20 hw) (wd7 hw)
  obtain ⟨n, o, h1, h2, h3, _, L, rfl, ⟨rfl, N⟩, -, hq⟩ := law0 l s _ hw i0 i1 i2 i3 cs fm s.heap ⟨Nat.le_refl _, fun _ _ q => q⟩ SCS SFM hcs hfm p e ha hc hk s m _ below hf ((Spec.applies_iff_loose hf).mp happ).1 ⟨rfl, State.Warmed39.refl s, rfl, hCH⟩ trivial
  refine ⟨n, _, h1, h2, h3, hpost _ _ _ _ _ _ ⟨Cond.after_iff.mpr rfl, Cond.after_iff.mpr (eq_i res_at (Term.int_eval (1)) rfl), trivial⟩ ⟨hq.1, hq.2.1, hq.2.2.1, (hq.2.2.2.sift fun y hy => Or.inr (N y hy)).mono (by decide) (by decide)⟩⟩
theorem main_1_1 : Claimed_1_1 := comes_1 fun _ _ _ _ _ _ h hF => ⟨h.1, hF⟩
theorem main_1_2 : Claimed_1_2 := comes_1 fun _ _ _ _ _ _ h hF => ⟨h.2.1, hF⟩
end Jvm.Pilot.@@N@@
namespace Jvm.Pilot.@@N@@
open Jvm Jvm.ClassFile Sem Op Lib Jvm.Free Jvm.Stand Jvm.Pilot.@@N@@.Jvm.D
/-! MADE BY PROGRAM (witnessworld.py) out of the Statement's table words and the real class files: 27 classes; the members and pool entries that the words name. The judged class is class 1, her method 2. -/
namespace start1
open Jvm.ClassFile
def u (s : String) : CpInfo := .utf8 (stringToUtf16 s)
/-- a pool by its gaps: so many unusable entries, then the entry; so many at the end -/
def gap : Nat → List CpInfo → List CpInfo
  | 0, r => r
  | n + 1, r => .unusable :: gap n r
def poolList (es : List (Nat × CpInfo)) (last : Nat) : List CpInfo := es.foldr (fun e r => gap e.1 (e.2 :: r)) (gap last [])
def pool (es : List (Nat × CpInfo)) (last : Nat) : Array CpInfo := ⟨poolList es last⟩
def fileOf (pool : Array CpInfo) (this : Nat) (attrs : Array Attribute := #[]) (ms : Array MethodInfo := #[]) (fl : Nat := 33) (sup : Nat := 0) (ifs : Array Nat := #[]) (fds : Array FieldInfo := #[]) : ClassFile where
  minorVersion := 0
  majorVersion := 65
  constantPool := pool
  accessFlags := fl
  thisClass := this
  superClass := sup
  interfaces := ifs
  fields := fds
  methods := ms
  attributes := attrs
def plain (name : String) (sup : Option ClassId) : Class where
  name := name
  kind := .ordinary
  loader := none
  accessFlags := 33
  super := sup
  interfaces := #[]
  cf := none
  fields := #[]
  methods := #[]
  instanceTypes := #[]
  staticTypes := #[]
  resolved := #[]
  callSites := []
  init := .initialized
  statics := none
  mirror := none

def pool0 : Array CpInfo := pool [(5, u "<init>"), (0, u "()V"), (1, .class_ 10), (1, u "java/lang/Object")] 113

def k0c0 : Code := { maxStack := 0, maxLocals := 1, code := object_method_1_code, exceptionTable := #[], attributes := #[] }
def k0m0 : Method := { name := "<init>", desc := "()V", sig := { parameters := [], returnType := none }, accessFlags := 1, code := some k0c0 }
/-- java/lang/Object -/
def k0 : Class := { plain "java/lang/Object" none with
  accessFlags := 33
  interfaces := #[]
  cf := some (fileOf pool0 8 #[] #[{ accessFlags := 1, nameIndex := 5, descriptorIndex := 6, attributes := #[] }] 33 0 #[] #[])
  fields := #[]
  methods := #[k0m0]
  instanceTypes := #[]
  staticTypes := #[]
  resolved := Array.replicate 124 none
  statics := none }

def pool1 : Array CpInfo := pool [(2, .class_ 4), (1, u "java/lang/Object"), (0, u "<init>"), (0, u "()V"), (0, .integer 2147483647), (0, .methodref 9 10), (0, .class_ 11), (0, .nameAndType 12 13), (0, u "com/example/match_before_write/matchbeforewrite/EntityTagWeakPinLaw"), (0, u "etagc"), (0, u "(I)C"), (0, .class_ 15), (0, u "java/lang/String"), (0, .methodref 14 17), (0, .nameAndType 5 18), (0, u "([C)V"), (0, .methodref 20 21), (0, .class_ 22), (0, .nameAndType 23 24), (0, u "com/example/match_before_write/matchbeforewrite/EntityTag"), (0, u "weak"), (0, u "(Ljava/lang/String;)Lcom/example/match_before_write/matchbeforewrite/EntityTag;"), (0, .methodref 20 26), (0, .nameAndType 27 28), (0, u "value"), (0, u "()Ljava/lang/String;"), (0, .methodref 20 30), (0, .nameAndType 31 28), (0, u "toString"), (0, .methodref 20 33), (0, .nameAndType 34 35), (0, u "isWeak"), (0, u "()Z"), (0, .methodref 14 37), (0, .nameAndType 38 39), (0, u "equals"), (0, u "(Ljava/lang/Object;)Z"), (0, .methodref 14 41), (0, .nameAndType 42 43), (0, u "length"), (0, u "()I"), (0, .methodref 14 45), (0, .nameAndType 46 13), (0, u "charAt"), (3, u "law"), (0, u "(IIII)Z")] 4

def k1m0 : Method := { name := "<init>", desc := "()V", sig := { parameters := [], returnType := none }, accessFlags := 1, code := none }
def k1c1 : Code := { maxStack := 3, maxLocals := 2, code := method_2_code, exceptionTable := #[], attributes := #[] }
def k1m1 : Method := { name := "etagc", desc := "(I)C", sig := { parameters := [.int], returnType := some .char }, accessFlags := 10, code := some k1c1 }
def k1c2 : Code := { maxStack := 4, maxLocals := 14, code := code, exceptionTable := #[], attributes := #[] }
def k1m2 : Method := { name := "law", desc := "(IIII)Z", sig := { parameters := [.int, .int, .int, .int], returnType := some .boolean }, accessFlags := 9, code := some k1c2 }
/-- com/example/match_before_write/matchbeforewrite/EntityTagWeakPinLaw -/
def k1 : Class := { plain "com/example/match_before_write/matchbeforewrite/EntityTagWeakPinLaw" (some 0) with
  accessFlags := 49
  interfaces := #[]
  cf := some (fileOf pool1 9 #[] #[{ accessFlags := 1, nameIndex := 5, descriptorIndex := 6, attributes := #[] }, { accessFlags := 10, nameIndex := 12, descriptorIndex := 13, attributes := #[] }, { accessFlags := 9, nameIndex := 50, descriptorIndex := 51, attributes := #[] }] 49 2 #[] #[])
  fields := #[]
  methods := #[k1m0, k1m1, k1m2]
  instanceTypes := #[]
  staticTypes := #[]
  resolved := Array.replicate 56 none
  statics := none }

def pool2 : Array CpInfo := pool [(1, .class_ 2), (0, u "java/io/Serializable"), (0, .class_ 4), (0, u "java/lang/Object")] 2

/-- java/io/Serializable -/
def k2 : Class := { plain "java/io/Serializable" (some 0) with
  accessFlags := 1537
  interfaces := #[]
  cf := some (fileOf pool2 1 #[] #[] 1537 3 #[] #[])
  fields := #[]
  methods := #[]
  instanceTypes := #[]
  staticTypes := #[]
  resolved := Array.replicate 7 none
  statics := none }

def pool3 : Array CpInfo := pool [(1, .class_ 2), (0, u "java/lang/Comparable"), (0, .class_ 4), (0, u "java/lang/Object")] 7

/-- java/lang/Comparable -/
def k3 : Class := { plain "java/lang/Comparable" (some 0) with
  accessFlags := 1537
  interfaces := #[]
  cf := some (fileOf pool3 1 #[] #[] 1537 3 #[] #[])
  fields := #[]
  methods := #[]
  instanceTypes := #[]
  staticTypes := #[]
  resolved := Array.replicate 12 none
  statics := none }

def pool4 : Array CpInfo := pool [(2, .class_ 4), (1, u "java/lang/CharSequence"), (42, .class_ 48), (0, u "java/lang/CharSequence$1CodePointIterator"), (10, .class_ 60), (0, u "java/lang/CharSequence$1CharIterator"), (5, .class_ 67), (0, u "java/lang/Object")] 63

/-- java/lang/CharSequence -/
def k4 : Class := { plain "java/lang/CharSequence" (some 0) with
  accessFlags := 1537
  interfaces := #[]
  cf := some (fileOf pool4 2 #[.nestMembers #[47, 59]] #[] 1537 66 #[] #[])
  fields := #[]
  methods := #[]
  instanceTypes := #[]
  staticTypes := #[]
  resolved := Array.replicate 131 none
  statics := none }

def pool5 : Array CpInfo := pool [(1, .class_ 2), (0, u "java/lang/constant/Constable"), (0, .class_ 4), (0, u "java/lang/Object")] 6

/-- java/lang/constant/Constable -/
def k5 : Class := { plain "java/lang/constant/Constable" (some 0) with
  accessFlags := 1537
  interfaces := #[]
  cf := some (fileOf pool5 1 #[] #[] 1537 3 #[] #[])
  fields := #[]
  methods := #[]
  instanceTypes := #[]
  staticTypes := #[]
  resolved := Array.replicate 11 none
  statics := none }

def pool6 : Array CpInfo := pool [(1, .class_ 2), (0, u "java/lang/constant/ConstantDesc"), (0, .class_ 4), (0, u "java/lang/Object")] 32

/-- java/lang/constant/ConstantDesc -/
def k6 : Class := { plain "java/lang/constant/ConstantDesc" (some 0) with
  accessFlags := 1537
  interfaces := #[]
  cf := some (fileOf pool6 1 #[] #[] 1537 3 #[] #[])
  fields := #[]
  methods := #[]
  instanceTypes := #[]
  staticTypes := #[]
  resolved := Array.replicate 37 none
  statics := none }

def pool7 : Array CpInfo := pool [(1, .methodref 2 3), (0, .class_ 4), (0, .nameAndType 5 6), (0, u "java/lang/Object"), (0, u "<init>"), (0, u "()V"), (0, .string 8), (0, u ""), (0, .fieldref 10 11), (0, .class_ 12), (0, .nameAndType 13 14), (0, u "java/lang/String"), (0, u "value"), (0, u "[B"), (0, .fieldref 10 16), (0, .nameAndType 17 18), (0, u "coder"), (0, u "B"), (2, u "hash"), (0, u "I"), (2, u "hashIsZero"), (0, u "Z"), (0, .methodref 10 28), (0, .nameAndType 5 29), (0, u "([CIILjava/lang/Void;)V"), (8, .fieldref 10 39), (0, .nameAndType 40 26), (0, u "COMPACT_STRINGS"), (1, .class_ 44), (1, u "java/lang/StringUTF16"), (0, u "compress"), (1, .methodref 42 48), (0, .nameAndType 49 50), (0, u "coderFromArrayLen"), (0, u "([BI)B"), (3, .methodref 55 56), (0, .class_ 57), (0, .nameAndType 58 59), (0, u "java/util/Arrays"), (0, u "copyOfRange"), (0, u "([BII)[B"), (47, .class_ 109), (1, u "java/lang/StringLatin1"), (32, u "()Z"), (34, .methodref 42 178), (0, .nameAndType 45 179), (0, u "([CII)[B"), (13, .class_ 195), (1, u "java/lang/System"), (16, .methodref 193 213), (0, .nameAndType 214 215), (0, u "arraycopy"), (0, u "(Ljava/lang/Object;ILjava/lang/Object;II)V"), (118, u "()I"), (0, .methodref 10 336), (0, .nameAndType 17 337), (0, u "()B"), (2, u "()[B"), (22, u "([BI)C"), (27, u "(II)V"), (35, u "(I)C"), (61, .methodref 10 490), (0, .nameAndType 5 491), (0, u "(Ljava/lang/AbstractStringBuilder;Ljava/lang/Void;)V"), (0, .methodref 10 493), (0, .nameAndType 494 142), (0, u "isLatin1"), (0, .methodref 107 496), (0, .nameAndType 497 363), (0, u "charAt"), (3, u "checkIndex"), (4, .nameAndType 507 334), (0, u "length"), (24, u "getBytes"), (10, u "equals"), (5, .methodref 550 506), (0, .class_ 551), (0, u "java/lang/AbstractStringBuilder"), (0, .methodref 550 553), (0, .nameAndType 554 340), (0, u "getValue"), (18, u "(Ljava/lang/Object;)Z"), (1, .class_ 576), (0, u "java/lang/CharSequence"), (22, u "CASE_INSENSITIVE_ORDER"), (0, u "Ljava/util/Comparator;"), (220, u "([BIB)V"), (188, u "([C)V"), (36, .methodref 550 493), (5, .fieldref 1054 1055), (0, .class_ 1056), (0, .nameAndType 1057 1058), (0, u "jdk/internal/util/Preconditions"), (0, u "SIOOBE_FORMATTER"), (0, u "Ljava/util/function/BiFunction;"), (0, .methodref 1054 1060), (0, .nameAndType 501 1061), (0, u "(IILjava/util/function/BiFunction;)I"), (39, u "serialPersistentFields"), (0, u "[Ljava/io/ObjectStreamField;"), (0, .class_ 1104), (0, u "java/lang/String$CaseInsensitiveComparator"), (1, .class_ 1107), (0, u "java/io/Serializable"), (0, .class_ 1109), (0, u "java/lang/Comparable"), (0, .class_ 1111), (0, u "java/lang/constant/Constable"), (0, .class_ 1113), (0, u "java/lang/constant/ConstantDesc"), (2, u "serialVersionUID"), (0, u "J"), (3, u "REPL"), (0, u "C"), (2, u "LATIN1"), (1, u "UTF16"), (105, u "(Ljava/lang/StringBuilder;)V")] 217

def k7m0 : Method := { name := "<init>", desc := "()V", sig := { parameters := [], returnType := none }, accessFlags := 1, code := none }
def k7c1 : Code := { maxStack := 5, maxLocals := 2, code := jdk_42_method_3_code, exceptionTable := #[], attributes := #[] }
def k7m1 : Method := { name := "<init>", desc := "([C)V", sig := { parameters := [(.array .char)], returnType := none }, accessFlags := 1, code := some k7c1 }
def k7c2 : Code := { maxStack := 3, maxLocals := 2, code := jdk_42_method_53_code, exceptionTable := #[], attributes := #[] }
def k7m2 : Method := { name := "<init>", desc := "(Ljava/lang/StringBuilder;)V", sig := { parameters := [(.object "java/lang/StringBuilder")], returnType := none }, accessFlags := 1, code := some k7c2 }
def k7c3 : Code := { maxStack := 2, maxLocals := 1, code := jdk_42_method_54_code, exceptionTable := #[], attributes := #[] }
def k7m3 : Method := { name := "length", desc := "()I", sig := { parameters := [], returnType := some .int }, accessFlags := 1, code := some k7c3 }
def k7c4 : Code := { maxStack := 2, maxLocals := 2, code := jdk_42_method_56_code, exceptionTable := #[], attributes := #[] }
def k7m4 : Method := { name := "charAt", desc := "(I)C", sig := { parameters := [.int], returnType := some .char }, accessFlags := 1, code := some k7c4 }
def k7c5 : Code := { maxStack := 2, maxLocals := 3, code := jdk_42_method_66_code, exceptionTable := #[], attributes := #[] }
def k7m5 : Method := { name := "equals", desc := "(Ljava/lang/Object;)Z", sig := { parameters := [(.object "java/lang/Object")], returnType := some .boolean }, accessFlags := 1, code := some k7c5 }
def k7c6 : Code := { maxStack := 5, maxLocals := 4, code := jdk_42_method_147_code, exceptionTable := #[], attributes := #[] }
def k7m6 : Method := { name := "getBytes", desc := "([BIB)V", sig := { parameters := [(.array .byte), .int, .byte], returnType := none }, accessFlags := 0, code := some k7c6 }
def k7c7 : Code := { maxStack := 4, maxLocals := 6, code := jdk_42_method_149_code, exceptionTable := #[], attributes := #[] }
def k7m7 : Method := { name := "<init>", desc := "([CIILjava/lang/Void;)V", sig := { parameters := [(.array .char), .int, .int, (.object "java/lang/Void")], returnType := none }, accessFlags := 2, code := some k7c7 }
def k7c8 : Code := { maxStack := 5, maxLocals := 5, code := jdk_42_method_150_code, exceptionTable := #[], attributes := #[] }
def k7m8 : Method := { name := "<init>", desc := "(Ljava/lang/AbstractStringBuilder;Ljava/lang/Void;)V", sig := { parameters := [(.object "java/lang/AbstractStringBuilder"), (.object "java/lang/Void")], returnType := none }, accessFlags := 0, code := some k7c8 }
def k7c9 : Code := { maxStack := 1, maxLocals := 1, code := jdk_42_method_152_code, exceptionTable := #[], attributes := #[] }
def k7m9 : Method := { name := "coder", desc := "()B", sig := { parameters := [], returnType := some .byte }, accessFlags := 0, code := some k7c9 }
def k7c10 : Code := { maxStack := 1, maxLocals := 1, code := jdk_42_method_154_code, exceptionTable := #[], attributes := #[] }
def k7m10 : Method := { name := "isLatin1", desc := "()Z", sig := { parameters := [], returnType := some .boolean }, accessFlags := 0, code := some k7c10 }
def k7c11 : Code := { maxStack := 3, maxLocals := 2, code := jdk_42_method_155_code, exceptionTable := #[], attributes := #[] }
def k7m11 : Method := { name := "checkIndex", desc := "(II)V", sig := { parameters := [.int, .int], returnType := none }, accessFlags := 8, code := some k7c11 }
/-- java/lang/String -/
def k7 : Class := { plain "java/lang/String" (some 0) with
  accessFlags := 49
  interfaces := #[2, 3, 4, 5, 6]
  cf := some (fileOf pool7 10 #[.nestMembers #[1103]] #[{ accessFlags := 1, nameIndex := 5, descriptorIndex := 6, attributes := #[] }, { accessFlags := 1, nameIndex := 5, descriptorIndex := 1010, attributes := #[] }, { accessFlags := 1, nameIndex := 5, descriptorIndex := 1233, attributes := #[] }, { accessFlags := 1, nameIndex := 507, descriptorIndex := 334, attributes := #[] }, { accessFlags := 1, nameIndex := 497, descriptorIndex := 427, attributes := #[] }, { accessFlags := 1, nameIndex := 543, descriptorIndex := 573, attributes := #[] }, { accessFlags := 0, nameIndex := 532, descriptorIndex := 821, attributes := #[] }, { accessFlags := 2, nameIndex := 5, descriptorIndex := 29, attributes := #[] }, { accessFlags := 0, nameIndex := 5, descriptorIndex := 491, attributes := #[] }, { accessFlags := 0, nameIndex := 17, descriptorIndex := 337, attributes := #[] }, { accessFlags := 0, nameIndex := 494, descriptorIndex := 142, attributes := #[] }, { accessFlags := 8, nameIndex := 501, descriptorIndex := 391, attributes := #[] }] 49 2 #[1106, 1108, 575, 1110, 1112] #[{ accessFlags := 18, nameIndex := 13, descriptorIndex := 14, attributes := #[] }, { accessFlags := 18, nameIndex := 17, descriptorIndex := 18, attributes := #[] }, { accessFlags := 2, nameIndex := 21, descriptorIndex := 22, attributes := #[] }, { accessFlags := 2, nameIndex := 25, descriptorIndex := 26, attributes := #[] }, { accessFlags := 26, nameIndex := 1116, descriptorIndex := 1117, attributes := #[] }, { accessFlags := 24, nameIndex := 40, descriptorIndex := 26, attributes := #[] }, { accessFlags := 26, nameIndex := 1101, descriptorIndex := 1102, attributes := #[] }, { accessFlags := 26, nameIndex := 1121, descriptorIndex := 1122, attributes := #[] }, { accessFlags := 25, nameIndex := 599, descriptorIndex := 600, attributes := #[] }, { accessFlags := 24, nameIndex := 1125, descriptorIndex := 18, attributes := #[] }, { accessFlags := 24, nameIndex := 1127, descriptorIndex := 18, attributes := #[] }])
  fields := #[{ name := "value", type := (.array .byte), accessFlags := 18, slot := 0, constantValue := 0 }, { name := "coder", type := .byte, accessFlags := 18, slot := 1, constantValue := 0 }, { name := "hash", type := .int, accessFlags := 2, slot := 2, constantValue := 0 }, { name := "hashIsZero", type := .boolean, accessFlags := 2, slot := 3, constantValue := 0 }, { name := "serialVersionUID", type := .long, accessFlags := 26, slot := 0, constantValue := 0 }, { name := "COMPACT_STRINGS", type := .boolean, accessFlags := 24, slot := 1, constantValue := 0 }, { name := "serialPersistentFields", type := (.array (.object "java/io/ObjectStreamField")), accessFlags := 26, slot := 2, constantValue := 0 }, { name := "REPL", type := .char, accessFlags := 26, slot := 3, constantValue := 0 }, { name := "CASE_INSENSITIVE_ORDER", type := (.object "java/util/Comparator"), accessFlags := 25, slot := 4, constantValue := 0 }, { name := "LATIN1", type := .byte, accessFlags := 24, slot := 5, constantValue := 0 }, { name := "UTF16", type := .byte, accessFlags := 24, slot := 6, constantValue := 0 }]
  methods := #[k7m0, k7m1, k7m2, k7m3, k7m4, k7m5, k7m6, k7m7, k7m8, k7m9, k7m10, k7m11]
  instanceTypes := #[(.array .byte), .byte, .int, .boolean]
  staticTypes := #[.long, .boolean, (.array (.object "java/io/ObjectStreamField")), .char, (.object "java/util/Comparator"), .byte, .byte]
  resolved := Array.replicate 1451 none
  statics := some 0 }

def pool8 : Array CpInfo := pool [(1, .methodref 2 3), (0, .class_ 4), (0, .nameAndType 5 6), (0, u "java/lang/Object"), (0, u "<init>"), (0, u "()V"), (0, .fieldref 8 9), (0, .class_ 10), (0, .nameAndType 11 12), (0, u "com/example/match_before_write/matchbeforewrite/EntityTag"), (0, u "weak"), (0, u "Z"), (0, .fieldref 8 14), (0, .nameAndType 15 16), (0, u "value"), (0, u "Ljava/lang/String;"), (0, .methodref 8 18), (0, .nameAndType 19 20), (0, u "checkedValue"), (0, u "(Ljava/lang/String;I)Ljava/lang/String;"), (0, .methodref 8 22), (0, .nameAndType 5 23), (0, u "(ZLjava/lang/String;)V"), (2, .methodref 27 28), (0, .class_ 29), (0, .nameAndType 30 31), (0, u "java/util/Objects"), (0, u "requireNonNull"), (0, u "(Ljava/lang/Object;Ljava/lang/String;)Ljava/lang/Object;"), (0, .string 33), (0, u "W/"), (1, .class_ 37), (1, u "java/lang/String"), (2, .methodref 35 41), (0, .nameAndType 42 43), (0, u "length"), (0, u "()I"), (0, .methodref 35 45), (0, .nameAndType 46 47), (0, u "charAt"), (0, u "(I)C"), (17, .fieldref 8 66), (0, .nameAndType 67 16), (0, u "field"), (0, .class_ 69), (0, u "java/lang/StringBuilder"), (0, .methodref 68 3), (2, .methodref 68 74), (0, .nameAndType 75 76), (0, u "append"), (0, u "(Ljava/lang/String;)Ljava/lang/StringBuilder;"), (0, .methodref 68 78), (0, .nameAndType 75 79), (0, u "(C)Ljava/lang/StringBuilder;"), (0, .methodref 68 81), (0, .nameAndType 82 83), (0, u "toString"), (0, u "()Ljava/lang/String;"), (8, .string 15), (16, u "WEAK_PREFIX"), (1, u "QUOTE"), (0, u "C"), (4, u "(Ljava/lang/String;)Lcom/example/match_before_write/matchbeforewrite/EntityTag;"), (2, u "isWeak"), (0, u "()Z")] 5

def k8c0 : Code := { maxStack := 2, maxLocals := 3, code := prog_5_method_1_code, exceptionTable := #[], attributes := #[] }
def k8m0 : Method := { name := "<init>", desc := "(ZLjava/lang/String;)V", sig := { parameters := [.boolean, (.object "java/lang/String")], returnType := none }, accessFlags := 2, code := some k8c0 }
def k8c1 : Code := { maxStack := 5, maxLocals := 1, code := prog_5_method_3_code, exceptionTable := #[], attributes := #[] }
def k8m1 : Method := { name := "weak", desc := "(Ljava/lang/String;)Lcom/example/match_before_write/matchbeforewrite/EntityTag;", sig := { parameters := [(.object "java/lang/String")], returnType := some (.object "com/example/match_before_write/matchbeforewrite/EntityTag") }, accessFlags := 9, code := some k8c1 }
def k8c2 : Code := { maxStack := 1, maxLocals := 1, code := prog_5_method_5_code, exceptionTable := #[], attributes := #[] }
def k8m2 : Method := { name := "isWeak", desc := "()Z", sig := { parameters := [], returnType := some .boolean }, accessFlags := 1, code := some k8c2 }
def k8c3 : Code := { maxStack := 1, maxLocals := 1, code := prog_5_method_6_code, exceptionTable := #[], attributes := #[] }
def k8m3 : Method := { name := "value", desc := "()Ljava/lang/String;", sig := { parameters := [], returnType := some (.object "java/lang/String") }, accessFlags := 1, code := some k8c3 }
def k8c4 : Code := { maxStack := 2, maxLocals := 2, code := prog_5_method_9_code, exceptionTable := #[], attributes := #[] }
def k8m4 : Method := { name := "toString", desc := "()Ljava/lang/String;", sig := { parameters := [], returnType := some (.object "java/lang/String") }, accessFlags := 1, code := some k8c4 }
def k8c5 : Code := { maxStack := 6, maxLocals := 6, code := prog_5_method_12_code, exceptionTable := #[], attributes := #[] }
def k8m5 : Method := { name := "checkedValue", desc := "(Ljava/lang/String;I)Ljava/lang/String;", sig := { parameters := [(.object "java/lang/String"), .int], returnType := some (.object "java/lang/String") }, accessFlags := 10, code := some k8c5 }
/-- com/example/match_before_write/matchbeforewrite/EntityTag -/
def k8 : Class := { plain "com/example/match_before_write/matchbeforewrite/EntityTag" (some 0) with
  accessFlags := 49
  interfaces := #[]
  cf := some (fileOf pool8 8 #[] #[{ accessFlags := 2, nameIndex := 5, descriptorIndex := 23, attributes := #[] }, { accessFlags := 9, nameIndex := 11, descriptorIndex := 117, attributes := #[] }, { accessFlags := 1, nameIndex := 120, descriptorIndex := 121, attributes := #[] }, { accessFlags := 1, nameIndex := 15, descriptorIndex := 83, attributes := #[] }, { accessFlags := 1, nameIndex := 82, descriptorIndex := 83, attributes := #[] }, { accessFlags := 10, nameIndex := 19, descriptorIndex := 20, attributes := #[] }] 49 2 #[] #[{ accessFlags := 26, nameIndex := 109, descriptorIndex := 16, attributes := #[] }, { accessFlags := 26, nameIndex := 111, descriptorIndex := 112, attributes := #[] }, { accessFlags := 18, nameIndex := 11, descriptorIndex := 12, attributes := #[] }, { accessFlags := 18, nameIndex := 15, descriptorIndex := 16, attributes := #[] }, { accessFlags := 2, nameIndex := 67, descriptorIndex := 16, attributes := #[] }])
  fields := #[{ name := "WEAK_PREFIX", type := (.object "java/lang/String"), accessFlags := 26, slot := 0, constantValue := 0 }, { name := "QUOTE", type := .char, accessFlags := 26, slot := 1, constantValue := 0 }, { name := "weak", type := .boolean, accessFlags := 18, slot := 0, constantValue := 0 }, { name := "value", type := (.object "java/lang/String"), accessFlags := 18, slot := 1, constantValue := 0 }, { name := "field", type := (.object "java/lang/String"), accessFlags := 2, slot := 2, constantValue := 0 }]
  methods := #[k8m0, k8m1, k8m2, k8m3, k8m4, k8m5]
  instanceTypes := #[.boolean, (.object "java/lang/String"), (.object "java/lang/String")]
  staticTypes := #[(.object "java/lang/String"), .char]
  resolved := Array.replicate 127 none
  statics := none }

def pool9 : Array CpInfo := pool [(2, .class_ 4), (1, u "java/lang/Object"), (0, u "<init>"), (0, u "()V"), (35, .class_ 44), (1, u "java/util/Objects"), (0, u "requireNonNull"), (48, u "(Ljava/lang/Object;Ljava/lang/String;)Ljava/lang/Object;")] 89

def k9m0 : Method := { name := "<init>", desc := "()V", sig := { parameters := [], returnType := none }, accessFlags := 2, code := none }
def k9c1 : Code := { maxStack := 3, maxLocals := 2, code := jdk_31_method_11_code, exceptionTable := #[], attributes := #[] }
def k9m1 : Method := { name := "requireNonNull", desc := "(Ljava/lang/Object;Ljava/lang/String;)Ljava/lang/Object;", sig := { parameters := [(.object "java/lang/Object"), (.object "java/lang/String")], returnType := some (.object "java/lang/Object") }, accessFlags := 9, code := some k9c1 }
/-- java/util/Objects -/
def k9 : Class := { plain "java/util/Objects" (some 0) with
  accessFlags := 49
  interfaces := #[]
  cf := some (fileOf pool9 42 #[] #[{ accessFlags := 2, nameIndex := 5, descriptorIndex := 6, attributes := #[] }, { accessFlags := 9, nameIndex := 45, descriptorIndex := 94, attributes := #[] }] 49 2 #[] #[])
  fields := #[]
  methods := #[k9m0, k9m1]
  instanceTypes := #[]
  staticTypes := #[]
  resolved := Array.replicate 184 none
  statics := none }

def pool10 : Array CpInfo := pool [(1, .class_ 2), (0, u "java/lang/Appendable"), (0, .class_ 4), (0, u "java/lang/Object")] 9

/-- java/lang/Appendable -/
def k10 : Class := { plain "java/lang/Appendable" (some 0) with
  accessFlags := 1537
  interfaces := #[]
  cf := some (fileOf pool10 1 #[] #[] 1537 3 #[] #[])
  fields := #[]
  methods := #[]
  instanceTypes := #[]
  staticTypes := #[]
  resolved := Array.replicate 14 none
  statics := none }

def pool11 : Array CpInfo := pool [(1, .class_ 2), (0, u "java/lang/String"), (0, .methodref 4 5), (0, .class_ 6), (0, .nameAndType 7 8), (0, u "java/lang/Object"), (0, u "<init>"), (0, u "()V"), (1, .class_ 12), (1, u "java/lang/AbstractStringBuilder"), (0, u "EMPTYVALUE"), (0, u "[B"), (0, .fieldref 10 16), (0, .nameAndType 17 14), (0, u "value"), (0, .fieldref 1 19), (0, .nameAndType 20 21), (0, u "COMPACT_STRINGS"), (0, u "Z"), (0, .fieldref 10 23), (0, .nameAndType 24 25), (0, u "coder"), (0, u "B"), (6, .methodref 1 33), (0, .nameAndType 34 35), (0, u "length"), (0, u "()I"), (4, .methodref 1 41), (0, .nameAndType 24 42), (0, u "()B"), (2, u "append"), (0, u "(Ljava/lang/String;)Ljava/lang/AbstractStringBuilder;"), (1, .class_ 49), (0, u "java/lang/CharSequence"), (19, u "(Ljava/lang/String;)V"), (5, u "maybeLatin1"), (3, .fieldref 10 80), (0, .nameAndType 81 82), (0, u "count"), (0, u "I"), (0, .methodref 10 84), (0, .nameAndType 85 86), (0, u "isLatin1"), (0, u "()Z"), (1, .class_ 90), (1, u "java/lang/StringLatin1"), (9, .methodref 10 101), (0, .nameAndType 102 103), (0, u "ensureCapacityInternal"), (0, u "(I)V"), (87, .methodref 88 192), (0, .nameAndType 193 194), (0, u "canEncode"), (0, u "(C)Z"), (13, .methodref 10 209), (0, .nameAndType 210 211), (0, u "putStringAt"), (0, u "(ILjava/lang/String;)V"), (5, u "inflateIfNeededFor"), (2, .nameAndType 221 222), (0, u "getBytes"), (0, u "([BIB)V"), (69, u "(C)Ljava/lang/AbstractStringBuilder;"), (104, .methodref 10 398), (0, .nameAndType 217 69), (0, .methodref 1 220), (3, u "()[B"), (40, .class_ 445), (0, u "java/lang/Appendable"), (106, u "getValue")] 56

def k11m0 : Method := { name := "<init>", desc := "()V", sig := { parameters := [], returnType := none }, accessFlags := 0, code := none }
def k11c1 : Code := { maxStack := 2, maxLocals := 2, code := jdk_68_method_2_code, exceptionTable := #[], attributes := #[] }
def k11m1 : Method := { name := "<init>", desc := "(I)V", sig := { parameters := [.int], returnType := none }, accessFlags := 0, code := some k11c1 }
def k11c2 : Code := { maxStack := 1, maxLocals := 1, code := jdk_68_method_6_code, exceptionTable := #[], attributes := #[] }
def k11m2 : Method := { name := "length", desc := "()I", sig := { parameters := [], returnType := some .int }, accessFlags := 1, code := some k11c2 }
def k11c3 : Code := { maxStack := 4, maxLocals := 3, code := jdk_68_method_9_code, exceptionTable := #[], attributes := #[] }
def k11m3 : Method := { name := "ensureCapacityInternal", desc := "(I)V", sig := { parameters := [.int], returnType := none }, accessFlags := 2, code := some k11c3 }
def k11c4 : Code := { maxStack := 3, maxLocals := 3, code := jdk_68_method_22_code, exceptionTable := #[], attributes := #[] }
def k11m4 : Method := { name := "append", desc := "(Ljava/lang/String;)Ljava/lang/AbstractStringBuilder;", sig := { parameters := [(.object "java/lang/String")], returnType := some (.object "java/lang/AbstractStringBuilder") }, accessFlags := 1, code := some k11c4 }
def k11c5 : Code := { maxStack := 5, maxLocals := 2, code := jdk_68_method_31_code, exceptionTable := #[], attributes := #[] }
def k11m5 : Method := { name := "append", desc := "(C)Ljava/lang/AbstractStringBuilder;", sig := { parameters := [.char], returnType := some (.object "java/lang/AbstractStringBuilder") }, accessFlags := 1, code := some k11c5 }
def k11c6 : Code := { maxStack := 1, maxLocals := 1, code := jdk_68_method_64_code, exceptionTable := #[], attributes := #[] }
def k11m6 : Method := { name := "getValue", desc := "()[B", sig := { parameters := [], returnType := some (.array .byte) }, accessFlags := 16, code := some k11c6 }
def k11c7 : Code := { maxStack := 1, maxLocals := 1, code := jdk_68_method_68_code, exceptionTable := #[], attributes := #[] }
def k11m7 : Method := { name := "isLatin1", desc := "()Z", sig := { parameters := [], returnType := some .boolean }, accessFlags := 16, code := some k11c7 }
def k11c8 : Code := { maxStack := 2, maxLocals := 2, code := jdk_68_method_71_code, exceptionTable := #[], attributes := #[] }
def k11m8 : Method := { name := "inflateIfNeededFor", desc := "(Ljava/lang/String;)V", sig := { parameters := [(.object "java/lang/String")], returnType := none }, accessFlags := 2, code := some k11c8 }
def k11c9 : Code := { maxStack := 4, maxLocals := 3, code := jdk_68_method_73_code, exceptionTable := #[], attributes := #[] }
def k11m9 : Method := { name := "putStringAt", desc := "(ILjava/lang/String;)V", sig := { parameters := [.int, (.object "java/lang/String")], returnType := none }, accessFlags := 2, code := some k11c9 }
/-- java/lang/AbstractStringBuilder -/
def k11 : Class := { plain "java/lang/AbstractStringBuilder" (some 0) with
  accessFlags := 1056
  interfaces := #[10, 4]
  cf := some (fileOf pool11 10 #[] #[{ accessFlags := 0, nameIndex := 7, descriptorIndex := 8, attributes := #[] }, { accessFlags := 0, nameIndex := 7, descriptorIndex := 103, attributes := #[] }, { accessFlags := 1, nameIndex := 34, descriptorIndex := 35, attributes := #[] }, { accessFlags := 2, nameIndex := 102, descriptorIndex := 103, attributes := #[] }, { accessFlags := 1, nameIndex := 45, descriptorIndex := 46, attributes := #[] }, { accessFlags := 1, nameIndex := 45, descriptorIndex := 292, attributes := #[] }, { accessFlags := 16, nameIndex := 552, descriptorIndex := 403, attributes := #[] }, { accessFlags := 16, nameIndex := 85, descriptorIndex := 86, attributes := #[] }, { accessFlags := 2, nameIndex := 217, descriptorIndex := 69, attributes := #[] }, { accessFlags := 2, nameIndex := 210, descriptorIndex := 211, attributes := #[] }] 1056 4 #[444, 48] #[{ accessFlags := 0, nameIndex := 17, descriptorIndex := 14, attributes := #[] }, { accessFlags := 0, nameIndex := 24, descriptorIndex := 25, attributes := #[] }, { accessFlags := 0, nameIndex := 75, descriptorIndex := 21, attributes := #[] }, { accessFlags := 0, nameIndex := 81, descriptorIndex := 82, attributes := #[] }, { accessFlags := 26, nameIndex := 13, descriptorIndex := 14, attributes := #[] }])
  fields := #[{ name := "value", type := (.array .byte), accessFlags := 0, slot := 0, constantValue := 0 }, { name := "coder", type := .byte, accessFlags := 0, slot := 1, constantValue := 0 }, { name := "maybeLatin1", type := .boolean, accessFlags := 0, slot := 2, constantValue := 0 }, { name := "count", type := .int, accessFlags := 0, slot := 3, constantValue := 0 }, { name := "EMPTYVALUE", type := (.array .byte), accessFlags := 26, slot := 0, constantValue := 0 }]
  methods := #[k11m0, k11m1, k11m2, k11m3, k11m4, k11m5, k11m6, k11m7, k11m8, k11m9]
  instanceTypes := #[(.array .byte), .byte, .boolean, .int]
  staticTypes := #[(.array .byte)]
  resolved := Array.replicate 609 none
  statics := none }

def pool12 : Array CpInfo := pool [(1, .methodref 2 3), (0, .class_ 4), (0, .nameAndType 5 6), (0, u "java/lang/AbstractStringBuilder"), (0, u "<init>"), (0, u "(I)V"), (11, .class_ 20), (1, u "java/lang/String"), (3, .class_ 26), (1, u "java/lang/StringBuilder"), (0, u "append"), (0, u "(Ljava/lang/String;)Ljava/lang/StringBuilder;"), (0, .methodref 2 30), (0, .nameAndType 27 31), (0, u "(Ljava/lang/String;)Ljava/lang/AbstractStringBuilder;"), (18, .methodref 2 51), (0, .nameAndType 27 52), (0, u "(C)Ljava/lang/AbstractStringBuilder;"), (84, .methodref 18 138), (0, .nameAndType 5 139), (0, u "(Ljava/lang/StringBuilder;)V"), (5, u "()V"), (10, u "()I"), (129, u "(C)Ljava/lang/StringBuilder;"), (56, .methodref 2 344), (0, .nameAndType 345 156), (0, u "length"), (3, .class_ 350), (0, u "java/lang/Appendable"), (0, .class_ 352), (0, u "java/io/Serializable"), (0, .class_ 354), (0, u "java/lang/Comparable"), (0, .class_ 356), (0, u "java/lang/CharSequence"), (0, u "serialVersionUID"), (0, u "J"), (40, u "toString"), (0, u "()Ljava/lang/String;")] 21

def k12c0 : Code := { maxStack := 2, maxLocals := 1, code := jdk_67_method_1_code, exceptionTable := #[], attributes := #[] }
def k12m0 : Method := { name := "<init>", desc := "()V", sig := { parameters := [], returnType := none }, accessFlags := 1, code := some k12c0 }
def k12c1 : Code := { maxStack := 2, maxLocals := 2, code := jdk_67_method_7_code, exceptionTable := #[], attributes := #[] }
def k12m1 : Method := { name := "append", desc := "(Ljava/lang/String;)Ljava/lang/StringBuilder;", sig := { parameters := [(.object "java/lang/String")], returnType := some (.object "java/lang/StringBuilder") }, accessFlags := 1, code := some k12c1 }
def k12c2 : Code := { maxStack := 2, maxLocals := 2, code := jdk_67_method_14_code, exceptionTable := #[], attributes := #[] }
def k12m2 : Method := { name := "append", desc := "(C)Ljava/lang/StringBuilder;", sig := { parameters := [.char], returnType := some (.object "java/lang/StringBuilder") }, accessFlags := 1, code := some k12c2 }
def k12c3 : Code := { maxStack := 3, maxLocals := 1, code := jdk_67_method_42_code, exceptionTable := #[], attributes := #[] }
def k12m3 : Method := { name := "toString", desc := "()Ljava/lang/String;", sig := { parameters := [], returnType := some (.object "java/lang/String") }, accessFlags := 1, code := some k12c3 }
def k12c4 : Code := { maxStack := 1, maxLocals := 1, code := jdk_67_method_93_code, exceptionTable := #[], attributes := #[] }
def k12m4 : Method := { name := "length", desc := "()I", sig := { parameters := [], returnType := some .int }, accessFlags := 4161, code := some k12c4 }
/-- java/lang/StringBuilder -/
def k12 : Class := { plain "java/lang/StringBuilder" (some 11) with
  accessFlags := 49
  interfaces := #[10, 2, 3, 4]
  cf := some (fileOf pool12 24 #[] #[{ accessFlags := 1, nameIndex := 5, descriptorIndex := 145, attributes := #[] }, { accessFlags := 1, nameIndex := 27, descriptorIndex := 28, attributes := #[] }, { accessFlags := 1, nameIndex := 27, descriptorIndex := 286, attributes := #[] }, { accessFlags := 1, nameIndex := 399, descriptorIndex := 400, attributes := #[] }, { accessFlags := 4161, nameIndex := 345, descriptorIndex := 156, attributes := #[] }] 49 2 #[349, 351, 353, 355] #[{ accessFlags := 24, nameIndex := 357, descriptorIndex := 358, attributes := #[] }])
  fields := #[{ name := "serialVersionUID", type := .long, accessFlags := 24, slot := 0, constantValue := 0 }]
  methods := #[k12m0, k12m1, k12m2, k12m3, k12m4]
  instanceTypes := #[(.array .byte), .byte, .boolean, .int]
  staticTypes := #[.long]
  resolved := Array.replicate 422 none
  statics := none }

def pool13 : Array CpInfo := pool [(2, .class_ 4), (1, u "java/lang/Object"), (0, u "<init>"), (0, u "()V"), (1, .class_ 10), (1, u "java/lang/System"), (0, u "allowSecurityManager"), (0, u "I"), (16, u "cons"), (0, u "Ljava/io/Console;"), (77, .class_ 110), (1, u "java/lang/System$CallersHolder"), (43, u "initialErrStream"), (0, u "Ljava/io/PrintStream;"), (19, u "security"), (0, u "Ljava/lang/SecurityManager;"), (31, .class_ 209), (0, u "java/lang/System$1"), (7, u "props"), (0, u "Ljava/util/Properties;"), (2, u "lineSeparator"), (0, u "Ljava/lang/String;"), (96, .class_ 321), (1, u "java/lang/System$LoggerFinder"), (5, .class_ 328), (0, u "java/lang/System$Logger"), (67, u "err"), (2, u "out"), (91, u "notSupportedJnuEncoding"), (15, u "in"), (17, u "initialIn"), (0, u "Ljava/io/InputStream;"), (35, u "bootLayer"), (0, u "Ljava/lang/ModuleLayer;"), (99, .class_ 664), (0, u "java/lang/System$2"), (9, u "NEVER"), (2, u "MAYBE"), (49, u "arraycopy"), (0, u "(Ljava/lang/Object;ILjava/lang/Object;II)V"), (72, .class_ 802), (0, u "java/lang/System$Logger$Level")] 31

def k13m0 : Method := { name := "<init>", desc := "()V", sig := { parameters := [], returnType := none }, accessFlags := 2, code := none }
def k13m1 : Method := { name := "arraycopy", desc := "(Ljava/lang/Object;ILjava/lang/Object;II)V", sig := { parameters := [(.object "java/lang/Object"), .int, (.object "java/lang/Object"), .int, .int], returnType := none }, accessFlags := 265, code := none }
/-- java/lang/System -/
def k13 : Class := { plain "java/lang/System" (some 0) with
  accessFlags := 49
  interfaces := #[]
  cf := some (fileOf pool13 8 #[.nestMembers #[319, 327, 801, 108, 663, 208]] #[{ accessFlags := 2, nameIndex := 5, descriptorIndex := 6, attributes := #[] }, { accessFlags := 265, nameIndex := 727, descriptorIndex := 728, attributes := #[] }] 49 2 #[] #[{ accessFlags := 25, nameIndex := 507, descriptorIndex := 526, attributes := #[] }, { accessFlags := 25, nameIndex := 399, descriptorIndex := 155, attributes := #[] }, { accessFlags := 25, nameIndex := 396, descriptorIndex := 155, attributes := #[] }, { accessFlags := 10, nameIndex := 525, descriptorIndex := 526, attributes := #[] }, { accessFlags := 26, nameIndex := 674, descriptorIndex := 12, attributes := #[] }, { accessFlags := 26, nameIndex := 677, descriptorIndex := 12, attributes := #[] }, { accessFlags := 10, nameIndex := 11, descriptorIndex := 12, attributes := #[] }, { accessFlags := 74, nameIndex := 175, descriptorIndex := 176, attributes := #[] }, { accessFlags := 10, nameIndex := 491, descriptorIndex := 222, attributes := #[] }, { accessFlags := 74, nameIndex := 29, descriptorIndex := 30, attributes := #[] }, { accessFlags := 74, nameIndex := 154, descriptorIndex := 155, attributes := #[] }, { accessFlags := 10, nameIndex := 217, descriptorIndex := 218, attributes := #[] }, { accessFlags := 10, nameIndex := 221, descriptorIndex := 222, attributes := #[] }, { accessFlags := 8, nameIndex := 562, descriptorIndex := 563, attributes := #[] }])
  fields := #[{ name := "in", type := (.object "java/io/InputStream"), accessFlags := 25, slot := 0, constantValue := 0 }, { name := "out", type := (.object "java/io/PrintStream"), accessFlags := 25, slot := 1, constantValue := 0 }, { name := "err", type := (.object "java/io/PrintStream"), accessFlags := 25, slot := 2, constantValue := 0 }, { name := "initialIn", type := (.object "java/io/InputStream"), accessFlags := 10, slot := 3, constantValue := 0 }, { name := "NEVER", type := .int, accessFlags := 26, slot := 4, constantValue := 0 }, { name := "MAYBE", type := .int, accessFlags := 26, slot := 5, constantValue := 0 }, { name := "allowSecurityManager", type := .int, accessFlags := 10, slot := 6, constantValue := 0 }, { name := "security", type := (.object "java/lang/SecurityManager"), accessFlags := 74, slot := 7, constantValue := 0 }, { name := "notSupportedJnuEncoding", type := (.object "java/lang/String"), accessFlags := 10, slot := 8, constantValue := 0 }, { name := "cons", type := (.object "java/io/Console"), accessFlags := 74, slot := 9, constantValue := 0 }, { name := "initialErrStream", type := (.object "java/io/PrintStream"), accessFlags := 74, slot := 10, constantValue := 0 }, { name := "props", type := (.object "java/util/Properties"), accessFlags := 10, slot := 11, constantValue := 0 }, { name := "lineSeparator", type := (.object "java/lang/String"), accessFlags := 10, slot := 12, constantValue := 0 }, { name := "bootLayer", type := (.object "java/lang/ModuleLayer"), accessFlags := 8, slot := 13, constantValue := 0 }]
  methods := #[k13m0, k13m1]
  instanceTypes := #[]
  staticTypes := #[(.object "java/io/InputStream"), (.object "java/io/PrintStream"), (.object "java/io/PrintStream"), (.object "java/io/InputStream"), .int, .int, .int, (.object "java/lang/SecurityManager"), (.object "java/lang/String"), (.object "java/io/Console"), (.object "java/io/PrintStream"), (.object "java/util/Properties"), (.object "java/lang/String"), (.object "java/lang/ModuleLayer")]
  resolved := Array.replicate 834 none
  statics := none }

def pool14 : Array CpInfo := pool [(1, .class_ 2), (0, u "java/lang/String"), (1, .class_ 6), (1, u "java/lang/Object"), (0, u "<init>"), (0, u "()V"), (0, .methodref 1 10), (0, .nameAndType 11 12), (0, u "checkIndex"), (0, u "(II)V"), (1, .class_ 16), (1, u "java/lang/StringLatin1"), (36, u "([BI)C"), (36, u "canEncode"), (14, u "(C)Z"), (15, u "$assertionsDisabled"), (0, u "Z"), (98, .class_ 223), (1, u "java/lang/StringLatin1$LinesSpliterator"), (28, u "charAt"), (137, .class_ 391), (0, u "java/lang/StringLatin1$CharsSpliterator")] 3

def k14m0 : Method := { name := "<init>", desc := "()V", sig := { parameters := [], returnType := none }, accessFlags := 0, code := none }
def k14c1 : Code := { maxStack := 2, maxLocals := 2, code := jdk_43_method_2_code, exceptionTable := #[], attributes := #[] }
def k14m1 : Method := { name := "charAt", desc := "([BI)C", sig := { parameters := [(.array .byte), .int], returnType := some .char }, accessFlags := 9, code := some k14c1 }
def k14c2 : Code := { maxStack := 2, maxLocals := 1, code := jdk_43_method_3_code, exceptionTable := #[], attributes := #[] }
def k14m2 : Method := { name := "canEncode", desc := "(C)Z", sig := { parameters := [.char], returnType := some .boolean }, accessFlags := 9, code := some k14c2 }
/-- java/lang/StringLatin1 -/
def k14 : Class := { plain "java/lang/StringLatin1" (some 0) with
  accessFlags := 48
  interfaces := #[]
  cf := some (fileOf pool14 14 #[.nestMembers #[390, 221]] #[{ accessFlags := 0, nameIndex := 7, descriptorIndex := 8, attributes := #[] }, { accessFlags := 9, nameIndex := 252, descriptorIndex := 53, attributes := #[] }, { accessFlags := 9, nameIndex := 90, descriptorIndex := 105, attributes := #[] }] 48 4 #[] #[{ accessFlags := 4120, nameIndex := 121, descriptorIndex := 122, attributes := #[] }])
  fields := #[{ name := "$assertionsDisabled", type := .boolean, accessFlags := 4120, slot := 0, constantValue := 0 }]
  methods := #[k14m0, k14m1, k14m2]
  instanceTypes := #[]
  staticTypes := #[.boolean]
  resolved := Array.replicate 395 none
  statics := none }

def pool15 : Array CpInfo := pool [(2, .class_ 4), (1, u "java/lang/Object"), (0, u "<init>"), (0, u "()V"), (7, .class_ 16), (1, u "java/util/Arrays"), (57, .class_ 76), (1, u "java/util/Arrays$NaturalOrder"), (36, .class_ 115), (1, u "java/util/Arrays$LegacyMergeSort"), (1, u "Z"), (21, u "copyOfRange"), (10, .methodref 151 152), (0, .class_ 153), (0, .nameAndType 154 155), (0, u "java/lang/System"), (0, u "arraycopy"), (0, u "(Ljava/lang/Object;ILjava/lang/Object;II)V"), (148, .methodref 305 306), (0, .class_ 307), (0, .nameAndType 308 309), (0, u "java/lang/Math"), (0, u "min"), (0, u "(II)I"), (29, .methodref 14 340), (0, .nameAndType 341 342), (0, u "copyOfRangeByte"), (0, u "([BII)[B"), (0, .methodref 14 344), (0, .nameAndType 345 346), (0, u "checkLength"), (0, u "(II)V"), (28, .class_ 376), (0, u "java/util/Arrays$ArrayList"), (68, u "$assertionsDisabled"), (269, u "MIN_ARRAY_SORT_GRAN"), (0, u "I"), (2, u "INSERTIONSORT_THRESHOLD"), (255, .class_ 976), (0, u "java/util/Arrays$ArrayItr")] 52

def k15m0 : Method := { name := "<init>", desc := "()V", sig := { parameters := [], returnType := none }, accessFlags := 2, code := none }
def k15c1 : Code := { maxStack := 4, maxLocals := 2, code := jdk_65_method_131_code, exceptionTable := #[], attributes := #[] }
def k15m1 : Method := { name := "checkLength", desc := "(II)V", sig := { parameters := [.int, .int], returnType := none }, accessFlags := 10, code := some k15c1 }
def k15c2 : Code := { maxStack := 3, maxLocals := 3, code := jdk_65_method_132_code, exceptionTable := #[], attributes := #[] }
def k15m2 : Method := { name := "copyOfRange", desc := "([BII)[B", sig := { parameters := [(.array .byte), .int, .int], returnType := some (.array .byte) }, accessFlags := 9, code := some k15c2 }
def k15c3 : Code := { maxStack := 6, maxLocals := 5, code := jdk_65_method_133_code, exceptionTable := #[], attributes := #[] }
def k15m3 : Method := { name := "copyOfRangeByte", desc := "([BII)[B", sig := { parameters := [(.array .byte), .int, .int], returnType := some (.array .byte) }, accessFlags := 10, code := some k15c3 }
/-- java/util/Arrays -/
def k15 : Class := { plain "java/util/Arrays" (some 0) with
  accessFlags := 49
  interfaces := #[]
  cf := some (fileOf pool15 14 #[.nestMembers #[975, 375, 113, 74]] #[{ accessFlags := 2, nameIndex := 5, descriptorIndex := 6, attributes := #[] }, { accessFlags := 10, nameIndex := 345, descriptorIndex := 346, attributes := #[] }, { accessFlags := 9, nameIndex := 139, descriptorIndex := 342, attributes := #[] }, { accessFlags := 10, nameIndex := 341, descriptorIndex := 342, attributes := #[] }] 49 2 #[] #[{ accessFlags := 26, nameIndex := 715, descriptorIndex := 716, attributes := #[] }, { accessFlags := 26, nameIndex := 719, descriptorIndex := 716, attributes := #[] }, { accessFlags := 4120, nameIndex := 445, descriptorIndex := 117, attributes := #[] }])
  fields := #[{ name := "MIN_ARRAY_SORT_GRAN", type := .int, accessFlags := 26, slot := 0, constantValue := 0 }, { name := "INSERTIONSORT_THRESHOLD", type := .int, accessFlags := 26, slot := 1, constantValue := 0 }, { name := "$assertionsDisabled", type := .boolean, accessFlags := 4120, slot := 2, constantValue := 0 }]
  methods := #[k15m0, k15m1, k15m2, k15m3]
  instanceTypes := #[]
  staticTypes := #[.int, .int, .boolean]
  resolved := Array.replicate 1029 none
  statics := none }

def pool16 : Array CpInfo := pool [(1, .class_ 2), (0, u "java/lang/Math"), (1, .class_ 6), (1, u "java/lang/Object"), (0, u "<init>"), (0, u "()V"), (89, .class_ 100), (1, u "java/lang/Math$RandomNumberGeneratorHolder"), (71, u "negativeZeroFloatBits"), (0, u "J"), (2, u "negativeZeroDoubleBits"), (24, u "min"), (43, u "$assertionsDisabled"), (0, u "Z"), (88, u "(II)I"), (2, u "twoToTheDoubleScaleDown"), (0, u "D"), (4, u "twoToTheDoubleScaleUp"), (9, u "E"), (3, u "PI"), (2, u "TAU"), (2, u "DEGREES_TO_RADIANS"), (0, u "RADIANS_TO_DEGREES")] 94

def k16m0 : Method := { name := "<init>", desc := "()V", sig := { parameters := [], returnType := none }, accessFlags := 2, code := none }
def k16c1 : Code := { maxStack := 2, maxLocals := 2, code := jdk_29_method_69_code, exceptionTable := #[], attributes := #[] }
def k16m1 : Method := { name := "min", desc := "(II)I", sig := { parameters := [.int, .int], returnType := some .int }, accessFlags := 9, code := some k16c1 }
/-- java/lang/Math -/
def k16 : Class := { plain "java/lang/Math" (some 0) with
  accessFlags := 49
  interfaces := #[]
  cf := some (fileOf pool16 1 #[.nestMembers #[98]] #[{ accessFlags := 2, nameIndex := 7, descriptorIndex := 8, attributes := #[] }, { accessFlags := 9, nameIndex := 201, descriptorIndex := 335, attributes := #[] }] 49 4 #[] #[{ accessFlags := 25, nameIndex := 354, descriptorIndex := 339, attributes := #[] }, { accessFlags := 25, nameIndex := 358, descriptorIndex := 339, attributes := #[] }, { accessFlags := 25, nameIndex := 361, descriptorIndex := 339, attributes := #[] }, { accessFlags := 26, nameIndex := 364, descriptorIndex := 339, attributes := #[] }, { accessFlags := 26, nameIndex := 365, descriptorIndex := 339, attributes := #[] }, { accessFlags := 26, nameIndex := 172, descriptorIndex := 173, attributes := #[] }, { accessFlags := 26, nameIndex := 176, descriptorIndex := 173, attributes := #[] }, { accessFlags := 8, nameIndex := 344, descriptorIndex := 339, attributes := #[] }, { accessFlags := 8, nameIndex := 338, descriptorIndex := 339, attributes := #[] }, { accessFlags := 4120, nameIndex := 245, descriptorIndex := 246, attributes := #[] }])
  fields := #[{ name := "E", type := .double, accessFlags := 25, slot := 0, constantValue := 0 }, { name := "PI", type := .double, accessFlags := 25, slot := 1, constantValue := 0 }, { name := "TAU", type := .double, accessFlags := 25, slot := 2, constantValue := 0 }, { name := "DEGREES_TO_RADIANS", type := .double, accessFlags := 26, slot := 3, constantValue := 0 }, { name := "RADIANS_TO_DEGREES", type := .double, accessFlags := 26, slot := 4, constantValue := 0 }, { name := "negativeZeroFloatBits", type := .long, accessFlags := 26, slot := 5, constantValue := 0 }, { name := "negativeZeroDoubleBits", type := .long, accessFlags := 26, slot := 6, constantValue := 0 }, { name := "twoToTheDoubleScaleUp", type := .double, accessFlags := 8, slot := 7, constantValue := 0 }, { name := "twoToTheDoubleScaleDown", type := .double, accessFlags := 8, slot := 8, constantValue := 0 }, { name := "$assertionsDisabled", type := .boolean, accessFlags := 4120, slot := 9, constantValue := 0 }]
  methods := #[k16m0, k16m1]
  instanceTypes := #[]
  staticTypes := #[.double, .double, .double, .double, .double, .long, .long, .double, .double, .boolean]
  resolved := Array.replicate 460 none
  statics := none }

def pool17 : Array CpInfo := pool [(2, .class_ 4), (1, u "java/lang/Object"), (0, u "<init>"), (0, u "()V"), (17, .class_ 26), (1, u "jdk/internal/util/Preconditions"), (6, u "checkIndex"), (21, .class_ 56), (0, u "jdk/internal/util/Preconditions$4"), (57, .class_ 115), (0, u "jdk/internal/util/Preconditions$1"), (7, u "SIOOBE_FORMATTER"), (0, u "Ljava/util/function/BiFunction;"), (0, .class_ 126), (0, u "jdk/internal/util/Preconditions$2"), (3, u "AIOOBE_FORMATTER"), (0, .class_ 132), (0, u "jdk/internal/util/Preconditions$3"), (3, u "IOOBE_FORMATTER"), (41, u "(IILjava/util/function/BiFunction;)I")] 15

def k17m0 : Method := { name := "<init>", desc := "()V", sig := { parameters := [], returnType := none }, accessFlags := 1, code := none }
def k17c1 : Code := { maxStack := 3, maxLocals := 3, code := jdk_41_method_11_code, exceptionTable := #[], attributes := #[] }
def k17m1 : Method := { name := "checkIndex", desc := "(IILjava/util/function/BiFunction;)I", sig := { parameters := [.int, .int, (.object "java/util/function/BiFunction")], returnType := some .int }, accessFlags := 9, code := some k17c1 }
/-- jdk/internal/util/Preconditions -/
def k17 : Class := { plain "jdk/internal/util/Preconditions" (some 0) with
  accessFlags := 33
  interfaces := #[]
  cf := some (fileOf pool17 24 #[.nestMembers #[55, 131, 125, 114]] #[{ accessFlags := 1, nameIndex := 5, descriptorIndex := 6, attributes := #[] }, { accessFlags := 9, nameIndex := 33, descriptorIndex := 178, attributes := #[] }] 33 2 #[] #[{ accessFlags := 25, nameIndex := 123, descriptorIndex := 124, attributes := #[] }, { accessFlags := 25, nameIndex := 130, descriptorIndex := 124, attributes := #[] }, { accessFlags := 25, nameIndex := 136, descriptorIndex := 124, attributes := #[] }])
  fields := #[{ name := "SIOOBE_FORMATTER", type := (.object "java/util/function/BiFunction"), accessFlags := 25, slot := 0, constantValue := 0 }, { name := "AIOOBE_FORMATTER", type := (.object "java/util/function/BiFunction"), accessFlags := 25, slot := 1, constantValue := 0 }, { name := "IOOBE_FORMATTER", type := (.object "java/util/function/BiFunction"), accessFlags := 25, slot := 2, constantValue := 0 }]
  methods := #[k17m0, k17m1]
  instanceTypes := #[]
  staticTypes := #[(.object "java/util/function/BiFunction"), (.object "java/util/function/BiFunction"), (.object "java/util/function/BiFunction")]
  resolved := Array.replicate 194 none
  statics := some 1 }

def pool18 : Array CpInfo := pool [(6, .class_ 8), (1, u "java/lang/Object"), (0, u "<init>"), (0, u "()V"), (1, .class_ 14), (1, u "java/lang/StringUTF16"), (31, u "$assertionsDisabled"), (0, u "Z"), (13, u "HI_BYTE_SHIFT"), (0, u "I"), (2, u "LO_BYTE_SHIFT"), (49, .methodref 12 116), (0, .nameAndType 117 118), (0, u "compress"), (0, u "([CI[BII)I"), (3, u "([CII)[B"), (138, u "coderFromArrayLen"), (0, u "([BI)B"), (106, .class_ 371), (1, u "java/lang/StringUTF16$LinesSpliterator"), (58, u "MAX_LENGTH"), (196, .class_ 628), (0, u "java/lang/StringUTF16$CodePointsSpliterator"), (0, .class_ 630), (0, u "java/lang/StringUTF16$CharsSpliterator")] 4

def k18m0 : Method := { name := "<init>", desc := "()V", sig := { parameters := [], returnType := none }, accessFlags := 0, code := none }
def k18c1 : Code := { maxStack := 2, maxLocals := 2, code := jdk_52_method_15_code, exceptionTable := #[], attributes := #[] }
def k18m1 : Method := { name := "coderFromArrayLen", desc := "([BI)B", sig := { parameters := [(.array .byte), .int], returnType := some .byte }, accessFlags := 8, code := some k18c1 }
def k18c2 : Code := { maxStack := 5, maxLocals := 6, code := jdk_52_method_16_code, exceptionTable := #[], attributes := #[] }
def k18m2 : Method := { name := "compress", desc := "([CII)[B", sig := { parameters := [(.array .char), .int, .int], returnType := some (.array .byte) }, accessFlags := 9, code := some k18c2 }
def k18c3 : Code := { maxStack := 3, maxLocals := 7, code := jdk_52_method_21_code, exceptionTable := #[], attributes := #[] }
def k18m3 : Method := { name := "compress", desc := "([CI[BII)I", sig := { parameters := [(.array .char), .int, (.array .byte), .int, .int], returnType := some .int }, accessFlags := 9, code := some k18c3 }
/-- java/lang/StringUTF16 -/
def k18 : Class := { plain "java/lang/StringUTF16" (some 0) with
  accessFlags := 48
  interfaces := #[]
  cf := some (fileOf pool18 12 #[.nestMembers #[627, 629, 369]] #[{ accessFlags := 0, nameIndex := 9, descriptorIndex := 10, attributes := #[] }, { accessFlags := 8, nameIndex := 261, descriptorIndex := 262, attributes := #[] }, { accessFlags := 9, nameIndex := 117, descriptorIndex := 122, attributes := #[] }, { accessFlags := 9, nameIndex := 117, descriptorIndex := 118, attributes := #[] }] 48 6 #[] #[{ accessFlags := 26, nameIndex := 61, descriptorIndex := 62, attributes := #[] }, { accessFlags := 26, nameIndex := 65, descriptorIndex := 62, attributes := #[] }, { accessFlags := 24, nameIndex := 430, descriptorIndex := 62, attributes := #[] }, { accessFlags := 4120, nameIndex := 46, descriptorIndex := 47, attributes := #[] }])
  fields := #[{ name := "HI_BYTE_SHIFT", type := .int, accessFlags := 26, slot := 0, constantValue := 0 }, { name := "LO_BYTE_SHIFT", type := .int, accessFlags := 26, slot := 1, constantValue := 0 }, { name := "MAX_LENGTH", type := .int, accessFlags := 24, slot := 2, constantValue := 0 }, { name := "$assertionsDisabled", type := .boolean, accessFlags := 4120, slot := 3, constantValue := 0 }]
  methods := #[k18m0, k18m1, k18m2, k18m3]
  instanceTypes := #[]
  staticTypes := #[.int, .int, .int, .boolean]
  resolved := Array.replicate 635 none
  statics := none }

def pool19 : Array CpInfo := pool [(9, u "<init>"), (6, .class_ 18), (1, u "java/lang/Object"), (0, u "()V"), (1, .class_ 23), (1, u "jdk/internal/util/ArraysSupport"), (0, u "LOG2_ARRAY_LONG_INDEX_SCALE"), (0, u "I"), (2, u "U"), (0, u "Ljdk/internal/misc/Unsafe;"), (8, u "BIG_ENDIAN"), (0, u "Z"), (8, u "LOG2_BYTE_BIT_SIZE"), (4, u "LOG2_ARRAY_INT_INDEX_SCALE"), (54, u "JLA"), (0, u "Ljdk/internal/access/JavaLangAccess;"), (11, u "LOG2_ARRAY_BOOLEAN_INDEX_SCALE"), (9, u "LOG2_ARRAY_BYTE_INDEX_SCALE"), (5, u "LOG2_ARRAY_CHAR_INDEX_SCALE"), (5, u "LOG2_ARRAY_SHORT_INDEX_SCALE"), (18, u "LOG2_ARRAY_FLOAT_INDEX_SCALE"), (24, u "LOG2_ARRAY_DOUBLE_INDEX_SCALE"), (89, u "T_BOOLEAN"), (2, u "T_CHAR"), (1, u "T_FLOAT"), (1, u "T_DOUBLE"), (1, u "T_BYTE"), (1, u "T_SHORT"), (1, u "T_INT"), (1, u "T_LONG"), (1, u "SOFT_MAX_ARRAY_LENGTH")] 83

def k19m0 : Method := { name := "<init>", desc := "()V", sig := { parameters := [], returnType := none }, accessFlags := 2, code := none }
/-- jdk/internal/util/ArraysSupport -/
def k19 : Class := { plain "jdk/internal/util/ArraysSupport" (some 0) with
  accessFlags := 33
  interfaces := #[]
  cf := some (fileOf pool19 21 #[] #[{ accessFlags := 2, nameIndex := 9, descriptorIndex := 19, attributes := #[] }] 33 16 #[] #[{ accessFlags := 24, nameIndex := 28, descriptorIndex := 29, attributes := #[] }, { accessFlags := 26, nameIndex := 38, descriptorIndex := 39, attributes := #[] }, { accessFlags := 25, nameIndex := 121, descriptorIndex := 25, attributes := #[] }, { accessFlags := 25, nameIndex := 131, descriptorIndex := 25, attributes := #[] }, { accessFlags := 25, nameIndex := 137, descriptorIndex := 25, attributes := #[] }, { accessFlags := 25, nameIndex := 143, descriptorIndex := 25, attributes := #[] }, { accessFlags := 25, nameIndex := 53, descriptorIndex := 25, attributes := #[] }, { accessFlags := 25, nameIndex := 24, descriptorIndex := 25, attributes := #[] }, { accessFlags := 25, nameIndex := 162, descriptorIndex := 25, attributes := #[] }, { accessFlags := 25, nameIndex := 187, descriptorIndex := 25, attributes := #[] }, { accessFlags := 26, nameIndex := 48, descriptorIndex := 25, attributes := #[] }, { accessFlags := 25, nameIndex := 277, descriptorIndex := 25, attributes := #[] }, { accessFlags := 25, nameIndex := 280, descriptorIndex := 25, attributes := #[] }, { accessFlags := 25, nameIndex := 282, descriptorIndex := 25, attributes := #[] }, { accessFlags := 25, nameIndex := 284, descriptorIndex := 25, attributes := #[] }, { accessFlags := 25, nameIndex := 286, descriptorIndex := 25, attributes := #[] }, { accessFlags := 25, nameIndex := 288, descriptorIndex := 25, attributes := #[] }, { accessFlags := 25, nameIndex := 290, descriptorIndex := 25, attributes := #[] }, { accessFlags := 25, nameIndex := 292, descriptorIndex := 25, attributes := #[] }, { accessFlags := 26, nameIndex := 108, descriptorIndex := 109, attributes := #[] }, { accessFlags := 25, nameIndex := 294, descriptorIndex := 25, attributes := #[] }])
  fields := #[{ name := "U", type := (.object "jdk/internal/misc/Unsafe"), accessFlags := 24, slot := 0, constantValue := 0 }, { name := "BIG_ENDIAN", type := .boolean, accessFlags := 26, slot := 1, constantValue := 0 }, { name := "LOG2_ARRAY_BOOLEAN_INDEX_SCALE", type := .int, accessFlags := 25, slot := 2, constantValue := 0 }, { name := "LOG2_ARRAY_BYTE_INDEX_SCALE", type := .int, accessFlags := 25, slot := 3, constantValue := 0 }, { name := "LOG2_ARRAY_CHAR_INDEX_SCALE", type := .int, accessFlags := 25, slot := 4, constantValue := 0 }, { name := "LOG2_ARRAY_SHORT_INDEX_SCALE", type := .int, accessFlags := 25, slot := 5, constantValue := 0 }, { name := "LOG2_ARRAY_INT_INDEX_SCALE", type := .int, accessFlags := 25, slot := 6, constantValue := 0 }, { name := "LOG2_ARRAY_LONG_INDEX_SCALE", type := .int, accessFlags := 25, slot := 7, constantValue := 0 }, { name := "LOG2_ARRAY_FLOAT_INDEX_SCALE", type := .int, accessFlags := 25, slot := 8, constantValue := 0 }, { name := "LOG2_ARRAY_DOUBLE_INDEX_SCALE", type := .int, accessFlags := 25, slot := 9, constantValue := 0 }, { name := "LOG2_BYTE_BIT_SIZE", type := .int, accessFlags := 26, slot := 10, constantValue := 0 }, { name := "T_BOOLEAN", type := .int, accessFlags := 25, slot := 11, constantValue := 0 }, { name := "T_CHAR", type := .int, accessFlags := 25, slot := 12, constantValue := 0 }, { name := "T_FLOAT", type := .int, accessFlags := 25, slot := 13, constantValue := 0 }, { name := "T_DOUBLE", type := .int, accessFlags := 25, slot := 14, constantValue := 0 }, { name := "T_BYTE", type := .int, accessFlags := 25, slot := 15, constantValue := 0 }, { name := "T_SHORT", type := .int, accessFlags := 25, slot := 16, constantValue := 0 }, { name := "T_INT", type := .int, accessFlags := 25, slot := 17, constantValue := 0 }, { name := "T_LONG", type := .int, accessFlags := 25, slot := 18, constantValue := 0 }, { name := "JLA", type := (.object "jdk/internal/access/JavaLangAccess"), accessFlags := 26, slot := 19, constantValue := 0 }, { name := "SOFT_MAX_ARRAY_LENGTH", type := .int, accessFlags := 25, slot := 20, constantValue := 0 }]
  methods := #[k19m0]
  instanceTypes := #[]
  staticTypes := #[(.object "jdk/internal/misc/Unsafe"), .boolean, .int, .int, .int, .int, .int, .int, .int, .int, .int, .int, .int, .int, .int, .int, .int, .int, .int, (.object "jdk/internal/access/JavaLangAccess"), .int]
  resolved := Array.replicate 378 none
  statics := none }

def pool20 : Array CpInfo := pool [(1, u "java/lang/Cloneable"), (0, .class_ 1), (0, u "java/lang/Object"), (0, .class_ 3)] 3

/-- java/lang/Cloneable -/
def k20 : Class := { plain "java/lang/Cloneable" (some 0) with
  accessFlags := 1537
  interfaces := #[]
  cf := some (fileOf pool20 2 #[] #[] 1537 4 #[] #[])
  fields := #[]
  methods := #[]
  instanceTypes := #[]
  staticTypes := #[]
  resolved := Array.replicate 8 none
  statics := none }

/-- the primitive byte -/
def k21 : Class := { plain "byte" none with kind := .primitive 'B', accessFlags := 0x411 }
/-- [B -/
def k22 : Class := { plain "[B" (some 0) with kind := .array 21 .byte, interfaces := #[20, 2], accessFlags := 1041 }

/-- the primitive char -/
def k23 : Class := { plain "char" none with kind := .primitive 'C', accessFlags := 0x411 }
/-- [C -/
def k24 : Class := { plain "[C" (some 0) with kind := .array 23 .char, interfaces := #[20, 2], accessFlags := 1041 }

/-- the primitive int -/
def k25 : Class := { plain "int" none with kind := .primitive 'I', accessFlags := 0x411 }
/-- [I -/
def k26 : Class := { plain "[I" (some 0) with kind := .array 25 .int, interfaces := #[20, 2], accessFlags := 1041 }

def heap : Heap := #[{ cls := 7, slots := #[.long 0, .int 1, .null, .int 0, .null, .int 0, .int 0], vm := .statics 7 },
  { cls := 17, slots := #[.null, .null, .null], vm := .statics 17 }]
def classes : Array Class := #[k0, k1, k2, k3, k4, k5, k6, k7, k8, k9, k10, k11, k12, k13, k14, k15, k16, k17, k18, k19, k20, k21, k22, k23, k24, k25, k26]
def interned : List (Array UInt16 × Addr) := []
def slotsUsed : Nat := 10
def theMethod : MethodId := ⟨1, 2⟩
def args0 : Array Value := #[.int 2, .int 5, .int 6, .int 7]
def aboutOver (below : List Frame) : State where
  vm := { classes := classes, interned := interned.toArray }
  heap := heap
  slotsUsed := slotsUsed
  threads := #[{ frames := .invoking theMethod args0 :: below }]
def below0 : List Frame := [.native { method := ⟨0, 0⟩, args := #[] }]
def about1 : State := aboutOver below0
def p0 : Program := .bare "" "" ""
def e0 : Env := launch0.env 0 0 0
theorem w_frames : about1.frames = Frame.invoking theMethod args0 :: below0 := rfl
set_option maxRecDepth 65536 in
theorem w_args : argsFit about1.vm theMethod args0 = true := by decide +kernel
set_option maxRecDepth 65536 in
theorem w_heap : heapFits about1 = true := by decide +kernel
set_option maxRecDepth 65536 in
theorem w_runnable : about1.curStatus? = some .runnable := by decide +kernel
set_option maxRecDepth 65536 in
theorem w_alone : about1.alone = true := by decide +kernel
set_option maxRecDepth 65536 in
theorem w_named : about1.methodNamed? x = some theMethod := by decide +kernel
set_option maxRecDepth 65536 in
theorem w_hears : about1.hears theMethod below0 = true := by decide +kernel
set_option maxRecDepth 65536 in
theorem w_ripe : about1.ripe theMethod args0 below0 = true := by decide +kernel
theorem w_running : about1.status = .running := rfl
set_option maxRecDepth 65536 in
theorem w_room : about1.hasRoom e0.platform room_1 = true :=
  launch0.hasRoom_least _ room_1 (by decide +kernel) (by decide +kernel) (by decide +kernel) (by decide +kernel) (by decide +kernel) (by decide +kernel)
theorem allAtoms_all (ts : List Jvm.Cond) (a : Array Jvm.Value) (st : Jvm.State) : (allAtoms ts).before a st = ts.all (fun c => c.before a st) := by
  induction ts with
  | nil => rfl
  | cons c t ih =>
    show (Jvm.Cond.and c (allAtoms t)).before a st = _
    rw [Jvm.Cond.before_and, ih, List.all_cons]
def words1 : List Jvm.Cond := Jvm.Cond.code x code maxLocals ret :: tables_1
/-- a 'code' word, met by the world's own term for the bytes: nothing is compared byte by byte -/
theorem code_word {y : MethodName} {bytes : ByteArray} {mx : Nat} {rt : Option FieldType} {a : Array Value} {s : State} {m : MethodId} {meth : Method} {c : Code} (h1 : s.methodNamed? y = some m) (h2 : s.vm.method? m = some meth) (h3 : meth.code = some c) (h4 : c.code = bytes)
    (h5 : (c.maxLocals == mx && c.exceptionTable.isEmpty && decide (c.maxStack ≤ mostOperands) && decide (meth.sig.returnType = rt) && !meth.locks && decide (parseMethodDescriptor y.desc = some meth.sig)) = true) : (Jvm.Cond.code y bytes mx rt).before a s = true := by
  simp only [Bool.and_eq_true, beq_iff_eq, Bool.not_eq_true', decide_eq_true_eq] at h5
  obtain ⟨⟨⟨⟨⟨g1, g2⟩, g3⟩, g4⟩, g5⟩, g6⟩ := h5
  simp [Cond.before, Cond.holds, Cond.value, h1, h2, h3, h4, g1, g2, g3, g4, g5, g6]
def isCode : Jvm.Cond → Bool
  | .code _ _ _ _ => true
  | _ => false
theorem all_split {L : List Jvm.Cond} {P : Jvm.Cond → Bool} (h1 : L.all (fun c => isCode c || P c) = true) (h2 : ∀ c ∈ L.filter isCode, P c = true) : L.all P = true := by
  refine List.all_eq_true.mpr fun c hc => ?_
  have h := List.all_eq_true.mp h1 c hc
  rcases Bool.eq_false_or_eq_true (isCode c) with hi | hi
  · exact h2 c (List.mem_filter.mpr ⟨hc, hi⟩)
  · simpa [hi] using h
set_option maxRecDepth 65536 in
theorem w_c0 : (Jvm.Cond.code x code maxLocals ret).before args0 about1 = true := code_word (m := ⟨1, 2⟩) (meth := k1m2) (c := k1c2) (by decide +kernel) rfl rfl rfl (by decide +kernel)
set_option maxRecDepth 65536 in
theorem w_c1 : (Jvm.Cond.code ({ cls := "com/example/match_before_write/matchbeforewrite/EntityTagWeakPinLaw", name := "etagc", desc := "(I)C" } : Jvm.MethodName) method_2_code (2 : Nat) (Option.some Jvm.ClassFile.FieldType.char)).before args0 about1 = true := code_word (m := ⟨1, 1⟩) (meth := k1m1) (c := k1c1) (by decide +kernel) rfl rfl rfl (by decide +kernel)
set_option maxRecDepth 65536 in
theorem w_c2 : (Jvm.Cond.code ({ cls := "java/lang/String", name := "<init>", desc := "([C)V" } : Jvm.MethodName) jdk_42_method_3_code (2 : Nat) (Option.none : Option Jvm.ClassFile.FieldType)).before args0 about1 = true := code_word (m := ⟨7, 1⟩) (meth := k7m1) (c := k7c1) (by decide +kernel) rfl rfl rfl (by decide +kernel)
set_option maxRecDepth 65536 in
theorem w_c3 : (Jvm.Cond.code ({ cls := "java/lang/String", name := "<init>", desc := "([CIILjava/lang/Void;)V" } : Jvm.MethodName) jdk_42_method_149_code (6 : Nat) (Option.none : Option Jvm.ClassFile.FieldType)).before args0 about1 = true := code_word (m := ⟨7, 7⟩) (meth := k7m7) (c := k7c7) (by decide +kernel) rfl rfl rfl (by decide +kernel)
set_option maxRecDepth 65536 in
theorem w_c4 : (Jvm.Cond.code ({ cls := "java/lang/Object", name := "<init>", desc := "()V" } : Jvm.MethodName) object_method_1_code (1 : Nat) (Option.none : Option Jvm.ClassFile.FieldType)).before args0 about1 = true := code_word (m := ⟨0, 0⟩) (meth := k0m0) (c := k0c0) (by decide +kernel) rfl rfl rfl (by decide +kernel)
set_option maxRecDepth 65536 in
theorem w_c5 : (Jvm.Cond.code ({ cls := "com/example/match_before_write/matchbeforewrite/EntityTag", name := "weak", desc := "(Ljava/lang/String;)Lcom/example/match_before_write/matchbeforewrite/EntityTag;" } : Jvm.MethodName) prog_5_method_3_code (1 : Nat) (Option.some (Jvm.ClassFile.FieldType.object "com/example/match_before_write/matchbeforewrite/EntityTag"))).before args0 about1 = true := code_word (m := ⟨8, 1⟩) (meth := k8m1) (c := k8c1) (by decide +kernel) rfl rfl rfl (by decide +kernel)
set_option maxRecDepth 65536 in
theorem w_c6 : (Jvm.Cond.code ({ cls := "com/example/match_before_write/matchbeforewrite/EntityTag", name := "checkedValue", desc := "(Ljava/lang/String;I)Ljava/lang/String;" } : Jvm.MethodName) prog_5_method_12_code (6 : Nat) (Option.some (Jvm.ClassFile.FieldType.object "java/lang/String"))).before args0 about1 = true := code_word (m := ⟨8, 5⟩) (meth := k8m5) (c := k8c5) (by decide +kernel) rfl rfl rfl (by decide +kernel)
set_option maxRecDepth 65536 in
theorem w_c7 : (Jvm.Cond.code ({ cls := "java/util/Objects", name := "requireNonNull", desc := "(Ljava/lang/Object;Ljava/lang/String;)Ljava/lang/Object;" } : Jvm.MethodName) jdk_31_method_11_code (2 : Nat) (Option.some (Jvm.ClassFile.FieldType.object "java/lang/Object"))).before args0 about1 = true := code_word (m := ⟨9, 1⟩) (meth := k9m1) (c := k9c1) (by decide +kernel) rfl rfl rfl (by decide +kernel)
set_option maxRecDepth 65536 in
theorem w_c8 : (Jvm.Cond.code ({ cls := "java/lang/String", name := "length", desc := "()I" } : Jvm.MethodName) jdk_42_method_54_code (1 : Nat) (Option.some Jvm.ClassFile.FieldType.int)).before args0 about1 = true := code_word (m := ⟨7, 3⟩) (meth := k7m3) (c := k7c3) (by decide +kernel) rfl rfl rfl (by decide +kernel)
set_option maxRecDepth 65536 in
theorem w_c9 : (Jvm.Cond.code ({ cls := "java/lang/String", name := "coder", desc := "()B" } : Jvm.MethodName) jdk_42_method_152_code (1 : Nat) (Option.some Jvm.ClassFile.FieldType.byte)).before args0 about1 = true := code_word (m := ⟨7, 9⟩) (meth := k7m9) (c := k7c9) (by decide +kernel) rfl rfl rfl (by decide +kernel)
set_option maxRecDepth 65536 in
theorem w_c10 : (Jvm.Cond.code ({ cls := "com/example/match_before_write/matchbeforewrite/EntityTag", name := "<init>", desc := "(ZLjava/lang/String;)V" } : Jvm.MethodName) prog_5_method_1_code (3 : Nat) (Option.none : Option Jvm.ClassFile.FieldType)).before args0 about1 = true := code_word (m := ⟨8, 0⟩) (meth := k8m0) (c := k8c0) (by decide +kernel) rfl rfl rfl (by decide +kernel)
set_option maxRecDepth 65536 in
theorem w_c11 : (Jvm.Cond.code ({ cls := "com/example/match_before_write/matchbeforewrite/EntityTag", name := "value", desc := "()Ljava/lang/String;" } : Jvm.MethodName) prog_5_method_6_code (1 : Nat) (Option.some (Jvm.ClassFile.FieldType.object "java/lang/String"))).before args0 about1 = true := code_word (m := ⟨8, 3⟩) (meth := k8m3) (c := k8c3) (by decide +kernel) rfl rfl rfl (by decide +kernel)
set_option maxRecDepth 65536 in
theorem w_c12 : (Jvm.Cond.code ({ cls := "com/example/match_before_write/matchbeforewrite/EntityTag", name := "toString", desc := "()Ljava/lang/String;" } : Jvm.MethodName) prog_5_method_9_code (2 : Nat) (Option.some (Jvm.ClassFile.FieldType.object "java/lang/String"))).before args0 about1 = true := code_word (m := ⟨8, 4⟩) (meth := k8m4) (c := k8c4) (by decide +kernel) rfl rfl rfl (by decide +kernel)
set_option maxRecDepth 65536 in
theorem w_c13 : (Jvm.Cond.code ({ cls := "java/lang/StringBuilder", name := "<init>", desc := "()V" } : Jvm.MethodName) jdk_67_method_1_code (1 : Nat) (Option.none : Option Jvm.ClassFile.FieldType)).before args0 about1 = true := code_word (m := ⟨12, 0⟩) (meth := k12m0) (c := k12c0) (by decide +kernel) rfl rfl rfl (by decide +kernel)
set_option maxRecDepth 65536 in
theorem w_c14 : (Jvm.Cond.code ({ cls := "java/lang/AbstractStringBuilder", name := "<init>", desc := "(I)V" } : Jvm.MethodName) jdk_68_method_2_code (2 : Nat) (Option.none : Option Jvm.ClassFile.FieldType)).before args0 about1 = true := code_word (m := ⟨11, 1⟩) (meth := k11m1) (c := k11c1) (by decide +kernel) rfl rfl rfl (by decide +kernel)
set_option maxRecDepth 65536 in
theorem w_c15 : (Jvm.Cond.code ({ cls := "java/lang/StringBuilder", name := "append", desc := "(Ljava/lang/String;)Ljava/lang/StringBuilder;" } : Jvm.MethodName) jdk_67_method_7_code (2 : Nat) (Option.some (Jvm.ClassFile.FieldType.object "java/lang/StringBuilder"))).before args0 about1 = true := code_word (m := ⟨12, 1⟩) (meth := k12m1) (c := k12c1) (by decide +kernel) rfl rfl rfl (by decide +kernel)
set_option maxRecDepth 65536 in
theorem w_c16 : (Jvm.Cond.code ({ cls := "java/lang/AbstractStringBuilder", name := "append", desc := "(Ljava/lang/String;)Ljava/lang/AbstractStringBuilder;" } : Jvm.MethodName) jdk_68_method_22_code (3 : Nat) (Option.some (Jvm.ClassFile.FieldType.object "java/lang/AbstractStringBuilder"))).before args0 about1 = true := code_word (m := ⟨11, 4⟩) (meth := k11m4) (c := k11c4) (by decide +kernel) rfl rfl rfl (by decide +kernel)
set_option maxRecDepth 65536 in
theorem w_c17 : (Jvm.Cond.code ({ cls := "java/lang/AbstractStringBuilder", name := "ensureCapacityInternal", desc := "(I)V" } : Jvm.MethodName) jdk_68_method_9_code (3 : Nat) (Option.none : Option Jvm.ClassFile.FieldType)).before args0 about1 = true := code_word (m := ⟨11, 3⟩) (meth := k11m3) (c := k11c3) (by decide +kernel) rfl rfl rfl (by decide +kernel)
set_option maxRecDepth 65536 in
theorem w_c18 : (Jvm.Cond.code ({ cls := "java/lang/AbstractStringBuilder", name := "putStringAt", desc := "(ILjava/lang/String;)V" } : Jvm.MethodName) jdk_68_method_73_code (3 : Nat) (Option.none : Option Jvm.ClassFile.FieldType)).before args0 about1 = true := code_word (m := ⟨11, 9⟩) (meth := k11m9) (c := k11c9) (by decide +kernel) rfl rfl rfl (by decide +kernel)
set_option maxRecDepth 65536 in
theorem w_c19 : (Jvm.Cond.code ({ cls := "java/lang/AbstractStringBuilder", name := "inflateIfNeededFor", desc := "(Ljava/lang/String;)V" } : Jvm.MethodName) jdk_68_method_71_code (2 : Nat) (Option.none : Option Jvm.ClassFile.FieldType)).before args0 about1 = true := code_word (m := ⟨11, 8⟩) (meth := k11m8) (c := k11c8) (by decide +kernel) rfl rfl rfl (by decide +kernel)
set_option maxRecDepth 65536 in
theorem w_c20 : (Jvm.Cond.code ({ cls := "java/lang/String", name := "getBytes", desc := "([BIB)V" } : Jvm.MethodName) jdk_42_method_147_code (4 : Nat) (Option.none : Option Jvm.ClassFile.FieldType)).before args0 about1 = true := code_word (m := ⟨7, 6⟩) (meth := k7m6) (c := k7c6) (by decide +kernel) rfl rfl rfl (by decide +kernel)
set_option maxRecDepth 65536 in
theorem w_c21 : (Jvm.Cond.code ({ cls := "java/lang/StringBuilder", name := "append", desc := "(C)Ljava/lang/StringBuilder;" } : Jvm.MethodName) jdk_67_method_14_code (2 : Nat) (Option.some (Jvm.ClassFile.FieldType.object "java/lang/StringBuilder"))).before args0 about1 = true := code_word (m := ⟨12, 2⟩) (meth := k12m2) (c := k12c2) (by decide +kernel) rfl rfl rfl (by decide +kernel)
set_option maxRecDepth 65536 in
theorem w_c22 : (Jvm.Cond.code ({ cls := "java/lang/AbstractStringBuilder", name := "append", desc := "(C)Ljava/lang/AbstractStringBuilder;" } : Jvm.MethodName) jdk_68_method_31_code (2 : Nat) (Option.some (Jvm.ClassFile.FieldType.object "java/lang/AbstractStringBuilder"))).before args0 about1 = true := code_word (m := ⟨11, 5⟩) (meth := k11m5) (c := k11c5) (by decide +kernel) rfl rfl rfl (by decide +kernel)
set_option maxRecDepth 65536 in
theorem w_c23 : (Jvm.Cond.code ({ cls := "java/lang/AbstractStringBuilder", name := "isLatin1", desc := "()Z" } : Jvm.MethodName) jdk_68_method_68_code (1 : Nat) (Option.some Jvm.ClassFile.FieldType.boolean)).before args0 about1 = true := code_word (m := ⟨11, 7⟩) (meth := k11m7) (c := k11c7) (by decide +kernel) rfl rfl rfl (by decide +kernel)
set_option maxRecDepth 65536 in
theorem w_c24 : (Jvm.Cond.code ({ cls := "java/lang/StringLatin1", name := "canEncode", desc := "(C)Z" } : Jvm.MethodName) jdk_43_method_3_code (1 : Nat) (Option.some Jvm.ClassFile.FieldType.boolean)).before args0 about1 = true := code_word (m := ⟨14, 2⟩) (meth := k14m2) (c := k14c2) (by decide +kernel) rfl rfl rfl (by decide +kernel)
set_option maxRecDepth 65536 in
theorem w_c25 : (Jvm.Cond.code ({ cls := "java/lang/StringBuilder", name := "toString", desc := "()Ljava/lang/String;" } : Jvm.MethodName) jdk_67_method_42_code (1 : Nat) (Option.some (Jvm.ClassFile.FieldType.object "java/lang/String"))).before args0 about1 = true := code_word (m := ⟨12, 3⟩) (meth := k12m3) (c := k12c3) (by decide +kernel) rfl rfl rfl (by decide +kernel)
set_option maxRecDepth 65536 in
theorem w_c26 : (Jvm.Cond.code ({ cls := "java/lang/String", name := "<init>", desc := "(Ljava/lang/StringBuilder;)V" } : Jvm.MethodName) jdk_42_method_53_code (2 : Nat) (Option.none : Option Jvm.ClassFile.FieldType)).before args0 about1 = true := code_word (m := ⟨7, 2⟩) (meth := k7m2) (c := k7c2) (by decide +kernel) rfl rfl rfl (by decide +kernel)
set_option maxRecDepth 65536 in
theorem w_c27 : (Jvm.Cond.code ({ cls := "java/lang/String", name := "<init>", desc := "(Ljava/lang/AbstractStringBuilder;Ljava/lang/Void;)V" } : Jvm.MethodName) jdk_42_method_150_code (5 : Nat) (Option.none : Option Jvm.ClassFile.FieldType)).before args0 about1 = true := code_word (m := ⟨7, 8⟩) (meth := k7m8) (c := k7c8) (by decide +kernel) rfl rfl rfl (by decide +kernel)
set_option maxRecDepth 65536 in
theorem w_c28 : (Jvm.Cond.code ({ cls := "java/lang/AbstractStringBuilder", name := "getValue", desc := "()[B" } : Jvm.MethodName) jdk_68_method_64_code (1 : Nat) (Option.some (Jvm.ClassFile.FieldType.array Jvm.ClassFile.FieldType.byte))).before args0 about1 = true := code_word (m := ⟨11, 6⟩) (meth := k11m6) (c := k11c6) (by decide +kernel) rfl rfl rfl (by decide +kernel)
set_option maxRecDepth 65536 in
theorem w_c29 : (Jvm.Cond.code ({ cls := "java/lang/StringBuilder", name := "length", desc := "()I" } : Jvm.MethodName) jdk_67_method_93_code (1 : Nat) (Option.some Jvm.ClassFile.FieldType.int)).before args0 about1 = true := code_word (m := ⟨12, 4⟩) (meth := k12m4) (c := k12c4) (by decide +kernel) rfl rfl rfl (by decide +kernel)
set_option maxRecDepth 65536 in
theorem w_c30 : (Jvm.Cond.code ({ cls := "java/lang/AbstractStringBuilder", name := "length", desc := "()I" } : Jvm.MethodName) jdk_68_method_6_code (1 : Nat) (Option.some Jvm.ClassFile.FieldType.int)).before args0 about1 = true := code_word (m := ⟨11, 2⟩) (meth := k11m2) (c := k11c2) (by decide +kernel) rfl rfl rfl (by decide +kernel)
set_option maxRecDepth 65536 in
theorem w_c31 : (Jvm.Cond.code ({ cls := "java/util/Arrays", name := "copyOfRange", desc := "([BII)[B" } : Jvm.MethodName) jdk_65_method_132_code (3 : Nat) (Option.some (Jvm.ClassFile.FieldType.array Jvm.ClassFile.FieldType.byte))).before args0 about1 = true := code_word (m := ⟨15, 2⟩) (meth := k15m2) (c := k15c2) (by decide +kernel) rfl rfl rfl (by decide +kernel)
set_option maxRecDepth 65536 in
theorem w_c32 : (Jvm.Cond.code ({ cls := "java/util/Arrays", name := "copyOfRangeByte", desc := "([BII)[B" } : Jvm.MethodName) jdk_65_method_133_code (5 : Nat) (Option.some (Jvm.ClassFile.FieldType.array Jvm.ClassFile.FieldType.byte))).before args0 about1 = true := code_word (m := ⟨15, 3⟩) (meth := k15m3) (c := k15c3) (by decide +kernel) rfl rfl rfl (by decide +kernel)
set_option maxRecDepth 65536 in
theorem w_c33 : (Jvm.Cond.code ({ cls := "java/util/Arrays", name := "checkLength", desc := "(II)V" } : Jvm.MethodName) jdk_65_method_131_code (2 : Nat) (Option.none : Option Jvm.ClassFile.FieldType)).before args0 about1 = true := code_word (m := ⟨15, 1⟩) (meth := k15m1) (c := k15c1) (by decide +kernel) rfl rfl rfl (by decide +kernel)
set_option maxRecDepth 65536 in
theorem w_c34 : (Jvm.Cond.code ({ cls := "java/lang/Math", name := "min", desc := "(II)I" } : Jvm.MethodName) jdk_29_method_69_code (2 : Nat) (Option.some Jvm.ClassFile.FieldType.int)).before args0 about1 = true := code_word (m := ⟨16, 1⟩) (meth := k16m1) (c := k16c1) (by decide +kernel) rfl rfl rfl (by decide +kernel)
set_option maxRecDepth 65536 in
theorem w_c35 : (Jvm.Cond.code ({ cls := "com/example/match_before_write/matchbeforewrite/EntityTag", name := "isWeak", desc := "()Z" } : Jvm.MethodName) prog_5_method_5_code (1 : Nat) (Option.some Jvm.ClassFile.FieldType.boolean)).before args0 about1 = true := code_word (m := ⟨8, 2⟩) (meth := k8m2) (c := k8c2) (by decide +kernel) rfl rfl rfl (by decide +kernel)
set_option maxRecDepth 65536 in
theorem w_c36 : (Jvm.Cond.code ({ cls := "java/lang/String", name := "equals", desc := "(Ljava/lang/Object;)Z" } : Jvm.MethodName) jdk_42_method_66_code (3 : Nat) (Option.some Jvm.ClassFile.FieldType.boolean)).before args0 about1 = true := code_word (m := ⟨7, 5⟩) (meth := k7m5) (c := k7c5) (by decide +kernel) rfl rfl rfl (by decide +kernel)
set_option maxRecDepth 65536 in
theorem w_c37 : (Jvm.Cond.code ({ cls := "java/lang/String", name := "charAt", desc := "(I)C" } : Jvm.MethodName) jdk_42_method_56_code (2 : Nat) (Option.some Jvm.ClassFile.FieldType.char)).before args0 about1 = true := code_word (m := ⟨7, 4⟩) (meth := k7m4) (c := k7c4) (by decide +kernel) rfl rfl rfl (by decide +kernel)
set_option maxRecDepth 65536 in
theorem w_c38 : (Jvm.Cond.code ({ cls := "java/lang/String", name := "isLatin1", desc := "()Z" } : Jvm.MethodName) jdk_42_method_154_code (1 : Nat) (Option.some Jvm.ClassFile.FieldType.boolean)).before args0 about1 = true := code_word (m := ⟨7, 10⟩) (meth := k7m10) (c := k7c10) (by decide +kernel) rfl rfl rfl (by decide +kernel)
set_option maxRecDepth 65536 in
theorem w_c39 : (Jvm.Cond.code ({ cls := "java/lang/StringLatin1", name := "charAt", desc := "([BI)C" } : Jvm.MethodName) jdk_43_method_2_code (2 : Nat) (Option.some Jvm.ClassFile.FieldType.char)).before args0 about1 = true := code_word (m := ⟨14, 1⟩) (meth := k14m1) (c := k14c1) (by decide +kernel) rfl rfl rfl (by decide +kernel)
set_option maxRecDepth 65536 in
theorem w_c40 : (Jvm.Cond.code ({ cls := "java/lang/String", name := "checkIndex", desc := "(II)V" } : Jvm.MethodName) jdk_42_method_155_code (2 : Nat) (Option.none : Option Jvm.ClassFile.FieldType)).before args0 about1 = true := code_word (m := ⟨7, 11⟩) (meth := k7m11) (c := k7c11) (by decide +kernel) rfl rfl rfl (by decide +kernel)
set_option maxRecDepth 65536 in
theorem w_c41 : (Jvm.Cond.code ({ cls := "jdk/internal/util/Preconditions", name := "checkIndex", desc := "(IILjava/util/function/BiFunction;)I" } : Jvm.MethodName) jdk_41_method_11_code (3 : Nat) (Option.some Jvm.ClassFile.FieldType.int)).before args0 about1 = true := code_word (m := ⟨17, 1⟩) (meth := k17m1) (c := k17c1) (by decide +kernel) rfl rfl rfl (by decide +kernel)
set_option maxRecDepth 65536 in
theorem w_c42 : (Jvm.Cond.code ({ cls := "java/lang/StringUTF16", name := "compress", desc := "([CII)[B" } : Jvm.MethodName) jdk_52_method_16_code (6 : Nat) (Option.some (Jvm.ClassFile.FieldType.array Jvm.ClassFile.FieldType.byte))).before args0 about1 = true := code_word (m := ⟨18, 2⟩) (meth := k18m2) (c := k18c2) (by decide +kernel) rfl rfl rfl (by decide +kernel)
set_option maxRecDepth 65536 in
theorem w_c43 : (Jvm.Cond.code ({ cls := "java/lang/StringUTF16", name := "compress", desc := "([CI[BII)I" } : Jvm.MethodName) jdk_52_method_21_code (7 : Nat) (Option.some Jvm.ClassFile.FieldType.int)).before args0 about1 = true := code_word (m := ⟨18, 3⟩) (meth := k18m3) (c := k18c3) (by decide +kernel) rfl rfl rfl (by decide +kernel)
set_option maxRecDepth 65536 in
theorem w_c44 : (Jvm.Cond.code ({ cls := "java/lang/StringUTF16", name := "coderFromArrayLen", desc := "([BI)B" } : Jvm.MethodName) jdk_52_method_15_code (2 : Nat) (Option.some Jvm.ClassFile.FieldType.byte)).before args0 about1 = true := code_word (m := ⟨18, 1⟩) (meth := k18m1) (c := k18c1) (by decide +kernel) rfl rfl rfl (by decide +kernel)
def codes1 : List Jvm.Cond := [Jvm.Cond.code x code maxLocals ret, Jvm.Cond.code ({ cls := "com/example/match_before_write/matchbeforewrite/EntityTagWeakPinLaw", name := "etagc", desc := "(I)C" } : Jvm.MethodName) method_2_code (2 : Nat) (Option.some Jvm.ClassFile.FieldType.char), Jvm.Cond.code ({ cls := "java/lang/String", name := "<init>", desc := "([C)V" } : Jvm.MethodName) jdk_42_method_3_code (2 : Nat) (Option.none : Option Jvm.ClassFile.FieldType), Jvm.Cond.code ({ cls := "java/lang/String", name := "<init>", desc := "([CIILjava/lang/Void;)V" } : Jvm.MethodName) jdk_42_method_149_code (6 : Nat) (Option.none : Option Jvm.ClassFile.FieldType), Jvm.Cond.code ({ cls := "java/lang/Object", name := "<init>", desc := "()V" } : Jvm.MethodName) object_method_1_code (1 : Nat) (Option.none : Option Jvm.ClassFile.FieldType), Jvm.Cond.code ({ cls := "com/example/match_before_write/matchbeforewrite/EntityTag", name := "weak", desc := "(Ljava/lang/String;)Lcom/example/match_before_write/matchbeforewrite/EntityTag;" } : Jvm.MethodName) prog_5_method_3_code (1 : Nat) (Option.some (Jvm.ClassFile.FieldType.object "com/example/match_before_write/matchbeforewrite/EntityTag")), Jvm.Cond.code ({ cls := "com/example/match_before_write/matchbeforewrite/EntityTag", name := "checkedValue", desc := "(Ljava/lang/String;I)Ljava/lang/String;" } : Jvm.MethodName) prog_5_method_12_code (6 : Nat) (Option.some (Jvm.ClassFile.FieldType.object "java/lang/String")), Jvm.Cond.code ({ cls := "java/util/Objects", name := "requireNonNull", desc := "(Ljava/lang/Object;Ljava/lang/String;)Ljava/lang/Object;" } : Jvm.MethodName) jdk_31_method_11_code (2 : Nat) (Option.some (Jvm.ClassFile.FieldType.object "java/lang/Object")), Jvm.Cond.code ({ cls := "java/lang/String", name := "length", desc := "()I" } : Jvm.MethodName) jdk_42_method_54_code (1 : Nat) (Option.some Jvm.ClassFile.FieldType.int), Jvm.Cond.code ({ cls := "java/lang/String", name := "coder", desc := "()B" } : Jvm.MethodName) jdk_42_method_152_code (1 : Nat) (Option.some Jvm.ClassFile.FieldType.byte), Jvm.Cond.code ({ cls := "com/example/match_before_write/matchbeforewrite/EntityTag", name := "<init>", desc := "(ZLjava/lang/String;)V" } : Jvm.MethodName) prog_5_method_1_code (3 : Nat) (Option.none : Option Jvm.ClassFile.FieldType), Jvm.Cond.code ({ cls := "com/example/match_before_write/matchbeforewrite/EntityTag", name := "value", desc := "()Ljava/lang/String;" } : Jvm.MethodName) prog_5_method_6_code (1 : Nat) (Option.some (Jvm.ClassFile.FieldType.object "java/lang/String")), Jvm.Cond.code ({ cls := "com/example/match_before_write/matchbeforewrite/EntityTag", name := "toString", desc := "()Ljava/lang/String;" } : Jvm.MethodName) prog_5_method_9_code (2 : Nat) (Option.some (Jvm.ClassFile.FieldType.object "java/lang/String")), Jvm.Cond.code ({ cls := "java/lang/StringBuilder", name := "<init>", desc := "()V" } : Jvm.MethodName) jdk_67_method_1_code (1 : Nat) (Option.none : Option Jvm.ClassFile.FieldType), Jvm.Cond.code ({ cls := "java/lang/AbstractStringBuilder", name := "<init>", desc := "(I)V" } : Jvm.MethodName) jdk_68_method_2_code (2 : Nat) (Option.none : Option Jvm.ClassFile.FieldType), Jvm.Cond.code ({ cls := "java/lang/StringBuilder", name := "append", desc := "(Ljava/lang/String;)Ljava/lang/StringBuilder;" } : Jvm.MethodName) jdk_67_method_7_code (2 : Nat) (Option.some (Jvm.ClassFile.FieldType.object "java/lang/StringBuilder")), Jvm.Cond.code ({ cls := "java/lang/AbstractStringBuilder", name := "append", desc := "(Ljava/lang/String;)Ljava/lang/AbstractStringBuilder;" } : Jvm.MethodName) jdk_68_method_22_code (3 : Nat) (Option.some (Jvm.ClassFile.FieldType.object "java/lang/AbstractStringBuilder")), Jvm.Cond.code ({ cls := "java/lang/AbstractStringBuilder", name := "ensureCapacityInternal", desc := "(I)V" } : Jvm.MethodName) jdk_68_method_9_code (3 : Nat) (Option.none : Option Jvm.ClassFile.FieldType), Jvm.Cond.code ({ cls := "java/lang/AbstractStringBuilder", name := "putStringAt", desc := "(ILjava/lang/String;)V" } : Jvm.MethodName) jdk_68_method_73_code (3 : Nat) (Option.none : Option Jvm.ClassFile.FieldType), Jvm.Cond.code ({ cls := "java/lang/AbstractStringBuilder", name := "inflateIfNeededFor", desc := "(Ljava/lang/String;)V" } : Jvm.MethodName) jdk_68_method_71_code (2 : Nat) (Option.none : Option Jvm.ClassFile.FieldType), Jvm.Cond.code ({ cls := "java/lang/String", name := "getBytes", desc := "([BIB)V" } : Jvm.MethodName) jdk_42_method_147_code (4 : Nat) (Option.none : Option Jvm.ClassFile.FieldType), Jvm.Cond.code ({ cls := "java/lang/StringBuilder", name := "append", desc := "(C)Ljava/lang/StringBuilder;" } : Jvm.MethodName) jdk_67_method_14_code (2 : Nat) (Option.some (Jvm.ClassFile.FieldType.object "java/lang/StringBuilder")), Jvm.Cond.code ({ cls := "java/lang/AbstractStringBuilder", name := "append", desc := "(C)Ljava/lang/AbstractStringBuilder;" } : Jvm.MethodName) jdk_68_method_31_code (2 : Nat) (Option.some (Jvm.ClassFile.FieldType.object "java/lang/AbstractStringBuilder")), Jvm.Cond.code ({ cls := "java/lang/AbstractStringBuilder", name := "isLatin1", desc := "()Z" } : Jvm.MethodName) jdk_68_method_68_code (1 : Nat) (Option.some Jvm.ClassFile.FieldType.boolean), Jvm.Cond.code ({ cls := "java/lang/StringLatin1", name := "canEncode", desc := "(C)Z" } : Jvm.MethodName) jdk_43_method_3_code (1 : Nat) (Option.some Jvm.ClassFile.FieldType.boolean), Jvm.Cond.code ({ cls := "java/lang/StringBuilder", name := "toString", desc := "()Ljava/lang/String;" } : Jvm.MethodName) jdk_67_method_42_code (1 : Nat) (Option.some (Jvm.ClassFile.FieldType.object "java/lang/String")), Jvm.Cond.code ({ cls := "java/lang/String", name := "<init>", desc := "(Ljava/lang/StringBuilder;)V" } : Jvm.MethodName) jdk_42_method_53_code (2 : Nat) (Option.none : Option Jvm.ClassFile.FieldType), Jvm.Cond.code ({ cls := "java/lang/String", name := "<init>", desc := "(Ljava/lang/AbstractStringBuilder;Ljava/lang/Void;)V" } : Jvm.MethodName) jdk_42_method_150_code (5 : Nat) (Option.none : Option Jvm.ClassFile.FieldType), Jvm.Cond.code ({ cls := "java/lang/AbstractStringBuilder", name := "getValue", desc := "()[B" } : Jvm.MethodName) jdk_68_method_64_code (1 : Nat) (Option.some (Jvm.ClassFile.FieldType.array Jvm.ClassFile.FieldType.byte)), Jvm.Cond.code ({ cls := "java/lang/StringBuilder", name := "length", desc := "()I" } : Jvm.MethodName) jdk_67_method_93_code (1 : Nat) (Option.some Jvm.ClassFile.FieldType.int), Jvm.Cond.code ({ cls := "java/lang/AbstractStringBuilder", name := "length", desc := "()I" } : Jvm.MethodName) jdk_68_method_6_code (1 : Nat) (Option.some Jvm.ClassFile.FieldType.int), Jvm.Cond.code ({ cls := "java/util/Arrays", name := "copyOfRange", desc := "([BII)[B" } : Jvm.MethodName) jdk_65_method_132_code (3 : Nat) (Option.some (Jvm.ClassFile.FieldType.array Jvm.ClassFile.FieldType.byte)), Jvm.Cond.code ({ cls := "java/util/Arrays", name := "copyOfRangeByte", desc := "([BII)[B" } : Jvm.MethodName) jdk_65_method_133_code (5 : Nat) (Option.some (Jvm.ClassFile.FieldType.array Jvm.ClassFile.FieldType.byte)), Jvm.Cond.code ({ cls := "java/util/Arrays", name := "checkLength", desc := "(II)V" } : Jvm.MethodName) jdk_65_method_131_code (2 : Nat) (Option.none : Option Jvm.ClassFile.FieldType), Jvm.Cond.code ({ cls := "java/lang/Math", name := "min", desc := "(II)I" } : Jvm.MethodName) jdk_29_method_69_code (2 : Nat) (Option.some Jvm.ClassFile.FieldType.int), Jvm.Cond.code ({ cls := "com/example/match_before_write/matchbeforewrite/EntityTag", name := "isWeak", desc := "()Z" } : Jvm.MethodName) prog_5_method_5_code (1 : Nat) (Option.some Jvm.ClassFile.FieldType.boolean), Jvm.Cond.code ({ cls := "java/lang/String", name := "equals", desc := "(Ljava/lang/Object;)Z" } : Jvm.MethodName) jdk_42_method_66_code (3 : Nat) (Option.some Jvm.ClassFile.FieldType.boolean), Jvm.Cond.code ({ cls := "java/lang/String", name := "charAt", desc := "(I)C" } : Jvm.MethodName) jdk_42_method_56_code (2 : Nat) (Option.some Jvm.ClassFile.FieldType.char), Jvm.Cond.code ({ cls := "java/lang/String", name := "isLatin1", desc := "()Z" } : Jvm.MethodName) jdk_42_method_154_code (1 : Nat) (Option.some Jvm.ClassFile.FieldType.boolean), Jvm.Cond.code ({ cls := "java/lang/StringLatin1", name := "charAt", desc := "([BI)C" } : Jvm.MethodName) jdk_43_method_2_code (2 : Nat) (Option.some Jvm.ClassFile.FieldType.char), Jvm.Cond.code ({ cls := "java/lang/String", name := "checkIndex", desc := "(II)V" } : Jvm.MethodName) jdk_42_method_155_code (2 : Nat) (Option.none : Option Jvm.ClassFile.FieldType), Jvm.Cond.code ({ cls := "jdk/internal/util/Preconditions", name := "checkIndex", desc := "(IILjava/util/function/BiFunction;)I" } : Jvm.MethodName) jdk_41_method_11_code (3 : Nat) (Option.some Jvm.ClassFile.FieldType.int), Jvm.Cond.code ({ cls := "java/lang/StringUTF16", name := "compress", desc := "([CII)[B" } : Jvm.MethodName) jdk_52_method_16_code (6 : Nat) (Option.some (Jvm.ClassFile.FieldType.array Jvm.ClassFile.FieldType.byte)), Jvm.Cond.code ({ cls := "java/lang/StringUTF16", name := "compress", desc := "([CI[BII)I" } : Jvm.MethodName) jdk_52_method_21_code (7 : Nat) (Option.some Jvm.ClassFile.FieldType.int), Jvm.Cond.code ({ cls := "java/lang/StringUTF16", name := "coderFromArrayLen", desc := "([BI)B" } : Jvm.MethodName) jdk_52_method_15_code (2 : Nat) (Option.some Jvm.ClassFile.FieldType.byte)]
set_option maxRecDepth 65536 in
theorem codes_eq : words1.filter isCode = codes1 := rfl
theorem w_codes : ∀ c ∈ words1.filter isCode, c.before args0 about1 = true := by
  rw [codes_eq]
  intro c hc
  simp only [codes1, List.mem_cons, List.not_mem_nil, or_false] at hc
  rcases hc with rfl | rfl | rfl | rfl | rfl | rfl | rfl | rfl | rfl | rfl | rfl | rfl | rfl | rfl | rfl | rfl | rfl | rfl | rfl | rfl | rfl | rfl | rfl | rfl | rfl | rfl | rfl | rfl | rfl | rfl | rfl | rfl | rfl | rfl | rfl | rfl | rfl | rfl | rfl | rfl | rfl | rfl | rfl | rfl | rfl
  · exact w_c0
  · exact w_c1
  · exact w_c2
  · exact w_c3
  · exact w_c4
  · exact w_c5
  · exact w_c6
  · exact w_c7
  · exact w_c8
  · exact w_c9
  · exact w_c10
  · exact w_c11
  · exact w_c12
  · exact w_c13
  · exact w_c14
  · exact w_c15
  · exact w_c16
  · exact w_c17
  · exact w_c18
  · exact w_c19
  · exact w_c20
  · exact w_c21
  · exact w_c22
  · exact w_c23
  · exact w_c24
  · exact w_c25
  · exact w_c26
  · exact w_c27
  · exact w_c28
  · exact w_c29
  · exact w_c30
  · exact w_c31
  · exact w_c32
  · exact w_c33
  · exact w_c34
  · exact w_c35
  · exact w_c36
  · exact w_c37
  · exact w_c38
  · exact w_c39
  · exact w_c40
  · exact w_c41
  · exact w_c42
  · exact w_c43
  · exact w_c44
set_option maxRecDepth 65536 in
theorem w_t1 : (words1.take 24).all (fun c => isCode c || c.before args0 about1) = true := by decide +kernel
set_option maxRecDepth 65536 in
theorem w_t2 : ((words1.drop 24).take 24).all (fun c => isCode c || c.before args0 about1) = true := by decide +kernel
set_option maxRecDepth 65536 in
theorem w_t3 : (((words1.drop 24).drop 24).take 24).all (fun c => isCode c || c.before args0 about1) = true := by decide +kernel
set_option maxRecDepth 65536 in
theorem w_t4 : ((((words1.drop 24).drop 24).drop 24).take 24).all (fun c => isCode c || c.before args0 about1) = true := by decide +kernel
set_option maxRecDepth 65536 in
theorem w_t5 : (((((words1.drop 24).drop 24).drop 24).drop 24).take 24).all (fun c => isCode c || c.before args0 about1) = true := by decide +kernel
set_option maxRecDepth 65536 in
theorem w_t6 : ((((((words1.drop 24).drop 24).drop 24).drop 24).drop 24).take 24).all (fun c => isCode c || c.before args0 about1) = true := by decide +kernel
set_option maxRecDepth 65536 in
theorem w_t7 : (((((((words1.drop 24).drop 24).drop 24).drop 24).drop 24).drop 24).take 24).all (fun c => isCode c || c.before args0 about1) = true := by decide +kernel
set_option maxRecDepth 65536 in
theorem w_t8 : ((((((((words1.drop 24).drop 24).drop 24).drop 24).drop 24).drop 24).drop 24).take 24).all (fun c => isCode c || c.before args0 about1) = true := by decide +kernel
set_option maxRecDepth 65536 in
theorem w_t9 : (((((((((words1.drop 24).drop 24).drop 24).drop 24).drop 24).drop 24).drop 24).drop 24).take 24).all (fun c => isCode c || c.before args0 about1) = true := by decide +kernel
set_option maxRecDepth 65536 in
theorem w_t10 : (((((((((words1.drop 24).drop 24).drop 24).drop 24).drop 24).drop 24).drop 24).drop 24).drop 24).all (fun c => isCode c || c.before args0 about1) = true := by decide +kernel
theorem w_tables : (allAtoms (Jvm.Cond.code x code maxLocals ret :: tables_1)).before args0 about1 = true := by
  rw [allAtoms_all]
  show words1.all (fun c => c.before args0 about1) = true
  refine all_split ?_ w_codes
  rw [← List.take_append_drop 24 words1, List.all_append, w_t1, ← List.take_append_drop 24 (words1.drop 24), List.all_append, w_t2, ← List.take_append_drop 24 ((words1.drop 24).drop 24), List.all_append, w_t3, ← List.take_append_drop 24 (((words1.drop 24).drop 24).drop 24), List.all_append, w_t4, ← List.take_append_drop 24 ((((words1.drop 24).drop 24).drop 24).drop 24), List.all_append, w_t5, ← List.take_append_drop 24 (((((words1.drop 24).drop 24).drop 24).drop 24).drop 24), List.all_append, w_t6, ← List.take_append_drop 24 ((((((words1.drop 24).drop 24).drop 24).drop 24).drop 24).drop 24), List.all_append, w_t7, ← List.take_append_drop 24 (((((((words1.drop 24).drop 24).drop 24).drop 24).drop 24).drop 24).drop 24), List.all_append, w_t8, ← List.take_append_drop 24 ((((((((words1.drop 24).drop 24).drop 24).drop 24).drop 24).drop 24).drop 24).drop 24), List.all_append, w_t9, w_t10]
  rfl
set_option maxRecDepth 65536 in
theorem w_rest : rest_1_c.before args0 about1 = true := by decide +kernel
set_option maxRecDepth 65536 in
theorem w_case : (Jvm.Cond.and given_1 narrow_1).before args0 about1 = true := by decide +kernel
set_option maxRecDepth 65536 in
theorem w_consts : constsHeld consts_1 about1 := Jvm.Lit.constsHeldB_iff.mp (by decide +kernel)
theorem w_applies : (headSpec (Jvm.Cond.code x code maxLocals ret :: tables_1) room_1).applies x e0.platform about1 = true :=
  (Spec.applies_iff w_frames).mpr ⟨w_running, w_runnable, w_alone, w_named, w_hears, w_ripe, w_room, w_tables⟩
theorem atStart : AtStart classFile x code maxLocals ret World_1 tables_1 room_1 Calls_1 rest_1 Pre_1 launch0 p0 e0 about1 theMethod args0 below0 :=
  ⟨lists_1, trivial, launch0.admits_env _ _ _, launch0.least_env, fairChoices_fair.cas, fairChoices_fair.clock, w_frames, w_args, w_heap, w_applies, ⟨w_consts, trivial⟩, w_rest, w_case⟩
end start1
theorem witness_1 : WitnessClaimed_1 := ⟨start1.p0, start1.e0, start1.about1, start1.theMethod, start1.args0, start1.below0, start1.atStart⟩
end Jvm.Pilot.@@N@@
