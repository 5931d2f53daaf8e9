import JvmDerived
import JvmDerived.Pilot.@@N@@Statement
import JvmDerived.Pilot.@@N@@Code
set_option linter.unusedVariables false
set_option linter.unusedSimpArgs false
set_option maxRecDepth 65536
set_option maxHeartbeats 40000000
namespace Jvm.RoadKit
open Sem ClassFile Op Lib Jvm.Stand Jvm.Free Jvm.LawKit
section Own
variable {p : Program} {l : Launch} {e : Env} {R : Room} {s : State} {m : MethodId} {args : Array Value} {below : List Frame} {meth : Method} {c : Code} {T T' : State} {locs : List Loc} {cells slots : Nat} {Z : State} {a0 : Array Value} {h h' h0 : Heap} {K : State → Outcome → Prop} {pc : Nat} {Ls : Array Slot} {rest : List Value} {Q : Option Value → Heap → List Loc → Prop} {k n : Nat} {a b : Addr} {ws : List Addr} {sl : Nat} {v : Value}
/-- from T the run comes to its end, and K holds there -/
def Go (p : Program) (e : Env) (below : List Frame) (K : State → Outcome → Prop) (T : State) : Prop := ∃ U o, Steps p.tables e below T U ∧ U.status = .running ∧ Ended U below o ∧ K U o
theorem Go.I (st : ∀ t, Steps p.tables e below T' t → Steps p.tables e below T t) (g : Go p e below K T') : Go p e below K T := by
  obtain ⟨U, o, q, r⟩ := g; exact ⟨U, o, st _ q, r⟩
theorem Go.jw (st : Steps p.tables e below T T') (g : Go p e below K T') : Go p e below K T := by
  obtain ⟨U, o, q, r⟩ := g; exact ⟨U, o, st.trans q, r⟩
theorem Go.r {T'' : State} (q : T = T'') (g : Go p e below K T'') : Go p e below K T := q ▸ g
def KK (s : State) (Q : Option Value → Heap → List Loc → Prop) (k n : Nat) : State → Outcome → Prop := fun U o => ∃ v L, o = .returned v ∧ Q v U.heap L ∧ FrameEnd s o U L k n
abbrev Ctr (l : Launch) (Z : State) (h0 : Heap) (y : MethodName) (bytes : ByteArray) (maxL : Nat) (ret : Option FieldType) (ws : List Cond) (rm : Room) (as' : Array Value) (Q : Option Value → Heap → List Loc → Prop) : Prop :=
  MetFree l y (head1 (Cond.code y bytes maxL ret :: ws) rm) (fun a U => a = as' ∧ Z.Warmed39 U.vm ∧ U.heap = h0) (fun _ _ _ _ _ => True) (fun _ U o U' => ∃ v L, o = .returned v ∧ Q v U'.heap L ∧ FrameEnd U o U' L rm.cells rm.slots)
theorem enter {y : MethodName} {bytes : ByteArray} {maxL : Nat} {ret : Option FieldType} {ws : List Cond} {rm : Room} {as' : Array Value} (hp : plainFor y = true)
    (H : ∀ (p : Program) (e : Env) (s : State) (m : MethodId) (below : List Frame) (meth : Method) (c : Code) (s₁ : State), p.tables.exec = Jvm.exec → c.code = bytes → c.maxLocals = maxL → Z.Warmed39 s.vm → s.vm.findClass y.cls = some m.cls → meth.name = y.name → meth.sig.returnType = ret → meth.locks = false →
      Stand p l e rm s m as' below meth c s₁ [] 0 0 → s₁.heap = h0 → s.heap = h0 → Go p e below (KK s Q rm.cells rm.slots) (s₁.setTop (entryFrame m as' maxL))) : Ctr l Z h0 y bytes maxL ret ws rm as' Q := by
  refine MetFree.of_bodySF hp hisR ?_
  intro p e s m args below meth c s₁ Bd hml0 hP hK
  obtain ⟨rfl, hZ, hh⟩ := hP
  exact H p e s m below meth c s₁ Bd.exec Bd.bytes hml0 hZ (findClass_of_methodNamed Bd.named) (name_of_methodNamed Bd.named Bd.method).1 Bd.returns Bd.notSynchronized (Stand.of_body Bd) (by rw [← hh, Bd.state]; rfl) hh
/-! returns -/
theorem Go.jI {w : Value} {t : FieldType} {i : Instr} (X : Stand p l e R s m args below meth c T locs cells slots) (hx : p.tables.exec = Jvm.exec) (hret : meth.sig.returnType = some t) (hlk : meth.locks = false) (hn : narrow t w = w)
    (hi : (i = .ireturn ∧ (t = .int ∨ t = .boolean ∨ t = .byte ∨ t = .char ∨ t = .short) ∧ ∃ z, w = .int z) ∨ (i = .lreturn ∧ t = .long ∧ ∃ z, w = .long z) ∨ (i = .dreturn ∧ t = .double ∧ ∃ z, w = .double z) ∨ (i = .freturn ∧ t = .float ∧ ∃ z, w = .float z) ∨ (i = .areturn ∧ t.isReference = true ∧ w.isRef = true))
    (hd : decode c.code pc = .ok (i, 1)) (eT : T.heap = h) (hk : cells ≤ k) (hs : slots ≤ n) (hQ : Q (some w) h locs) : Go p e below (KK s Q k n) (T.setTop (mkF m pc Ls (w :: rest))) := by
  obtain ⟨fs, hr, hrun, hended, hW, hsame⟩ := X.leave (v := some w) (fun h => by rw [hret] at h; cases h) hlk
  subst eT
  exact ⟨_, _, retOut X hx hret hn hi hd hr, hrun, hended, _, _, rfl, hQ, ⟨_, rfl⟩, hW, hsame.mono hk hs⟩
theorem Go.M {z : Int32} {t : FieldType} (X : Stand p l e R s m args below meth c T locs cells slots) (hx : p.tables.exec = Jvm.exec) (hret : meth.sig.returnType = some t) (hlk : meth.locks = false) (ht : t = .int ∨ t = .boolean ∨ t = .byte ∨ t = .char ∨ t = .short) (hn : narrow t (.int z) = .int z)
    (hd : decode c.code pc = .ok (.ireturn, 1)) (eT : T.heap = h) (hk : cells ≤ k) (hs : slots ≤ n) (hQ : Q (some (.int z)) h locs) : Go p e below (KK s Q k n) (T.setTop (mkF m pc Ls (.int z :: rest))) :=
  Go.jI X hx hret hlk hn (Or.inl ⟨rfl, ht, z, rfl⟩) hd eT hk hs hQ
theorem nar_ref {t : FieldType} {w : Value} (hw : w.isRef = true) : narrow t w = w := by cases w <;> first | (simp [Value.isRef] at hw; done) | (cases t <;> rfl)
theorem fits_any {C : String} {w : Value} (hw : w.isRef = true) : fits (.object C) w = true := by cases w <;> first | (simp [Value.isRef] at hw; done) | rfl
theorem Go.U {w : Value} {t : FieldType} (X : Stand p l e R s m args below meth c T locs cells slots) (hx : p.tables.exec = Jvm.exec) (hret : meth.sig.returnType = some t) (hlk : meth.locks = false) (ht : t.isReference = true) (hw : w.isRef = true)
    (hd : decode c.code pc = .ok (.areturn, 1)) (eT : T.heap = h) (hk : cells ≤ k) (hs : slots ≤ n) (hQ : Q (some w) h locs) : Go p e below (KK s Q k n) (T.setTop (mkF m pc Ls (w :: rest))) :=
  Go.jI X hx hret hlk (nar_ref hw) (Or.inr (Or.inr (Or.inr (Or.inr ⟨rfl, ht, hw⟩)))) hd eT hk hs hQ
theorem Go.jb (X : Stand p l e R s m args below meth c T locs cells slots) (hx : p.tables.exec = Jvm.exec) (hret : meth.sig.returnType = none) (hlk : meth.locks = false)
    (hd : decode c.code pc = .ok (.return_, 1)) (eT : T.heap = h) (hk : cells ≤ k) (hs : slots ≤ n) (hQ : Q none h locs) : Go p e below (KK s Q k n) (T.setTop (mkF m pc Ls [])) := by
  obtain ⟨fs, hr, hrun, hended, hW, hsame⟩ := X.leave (v := none) (fun _ => rfl) hlk
  subst eT
  exact ⟨_, _, X.returnOut hx hret hd hr, hrun, hended, _, _, rfl, hQ, ⟨_, rfl⟩, hW, hsame.mono hk hs⟩
/-! the old cells -/
theorem ext_trans {h1 h2 h3 : Heap} (E : Ext h1 h2) (F : Ext h2 h3) : Ext h1 h3 := ⟨Nat.le_trans E.1 F.1, fun a c q => F.2 a c (E.2 a c q)⟩
theorem ext_wr {h1 h2 h3 : Heap} (E : Ext h1 h2) (W : Wr h2 h3 a sl v) (g : h1.size ≤ a) : Ext h1 h3 := by
  obtain ⟨cell, q1, q2, q3, rfl⟩ := W
  refine ⟨by simpa using E.1, fun x c q => ?_⟩
  have hx : x < h1.size := (Array.getElem?_eq_some_iff.mp q).1
  rw [Array.getElem?_setIfInBounds_ne (Nat.ne_of_gt (Nat.lt_of_lt_of_le hx g))]
  exact E.2 x c q
theorem ext_keep {h1 h2 h3 : Heap} (E : Ext h1 h2) (F : Keep h2 h3 ws) (g : ∀ x ∈ ws, h1.size ≤ x) : Ext h1 h3 := by
  refine ⟨Nat.le_trans E.1 F.1, fun x c q => F.2.1 x c (E.2 x c q) fun z => ?_⟩
  exact absurd (Array.getElem?_eq_some_iff.mp q).1 (Nat.not_lt.mpr (g x z))
theorem ne_new (q : a < h.size) (r : h.size ≤ b) : a ≠ b := Nat.ne_of_lt (Nat.lt_of_lt_of_le q r)
/-! calls -/
theorem Go.A {own : String} {index : Nat} {y : MethodName} {bytes : ByteArray} {maxL : Nat} {ret : Option FieldType} {rm : Room} {as' : Array Value} {argsL S : List Value} (X : Stand p l e R s m args below meth c T locs cells slots) (hx : p.tables.exec = Jvm.exec) (hZ : Z.Warmed39 s.vm) (hown : s.vm.findClass own = some m.cls)
    (w1 : (Cond.methodLink own index y).before a0 Z = true) (w2 : (Cond.static y).before a0 Z = true) (w3 : (Cond.initialized y.cls).before a0 Z = true) (w4 : (Cond.code y bytes maxL ret).before a0 Z = true)
    (hy : y.cls ≠ "java/lang/invoke/MethodHandle" ∧ y.cls ≠ "java/lang/invoke/VarHandle") {Q : Option Value → Heap → List Loc → Prop} (hM : Ctr l Z h y bytes maxL ret [] rm as' Q) (eT : T.heap = h) (hsz : Ls.size = c.maxLocals)
    (hd : decode c.code pc = .ok (.invokestatic index, 3)) (hlen : ∀ sig, parseMethodDescriptor y.desc = some sig → argsL.length = sig.parameters.length) (hst : S = argsL.reverse ++ rest) (has : argsL.toArray = as')
    {W : Nat} (hW : 2 * 0 + (rest.map fun v => v.category).sum ≤ W) (hB : rm.frames + 1 ≤ R.frames ∧ W + (maxL + 11) + rm.locals ≤ R.locals ∧ cells + rm.cells ≤ R.cells ∧ slots + rm.slots ≤ R.slots)
    (g : ∀ (v : Option Value) (T' : State) (L : List Loc), Stand p l e R s m args below meth c T' (locs ++ L) (cells + rm.cells) (slots + rm.slots) → Q v T'.heap L → Go p e below K (T'.setTop (mkF m (pc + 3) Ls (v.toList ++ rest)))) : Go p e below K (T.setTop (mkF m pc Ls S)) := by
  obtain ⟨hf, hl, hc, hs⟩ := hB
  obtain ⟨v, _, ⟨T', L', k', n'⟩, -, X', ⟨Lc, hQ, l', y', z'⟩, st⟩ := Jvm.LawKit.callS X hx (y := y) hown (mvT hZ w1) (mvT hZ w2) (mvT hZ w3) (mvT hZ w4) hy (backOf (W := W) hM hZ w4 w3 hf hl) (g := mkF m pc Ls S) rfl hsz (argsL := argsL) (rest := rest) hlen hst hW hd (fun _ _ => ⟨has, eT, hc, hs⟩)
  dsimp only [Pt.U, Pt.locs, Pt.cells, Pt.slots] at X' l' y' z' st hQ
  subst l' y' z'
  exact Go.I st (g v T' Lc X' hQ)
theorem Go.Y {own : String} {index : Nat} {y : MethodName} {bytes : ByteArray} {maxL : Nat} {rm : Room} {as' : Array Value} {argsL S : List Value} (X : Stand p l e R s m args below meth c T locs cells slots) (hx : p.tables.exec = Jvm.exec) (hZ : Z.Warmed39 s.vm) (hown : s.vm.findClass own = some m.cls) (hy1 : y.name = "<init>")
    (w1 : (Cond.methodLink own index y).before a0 Z = true) (w2 : (Cond.instanceMethod y).before a0 Z = true) (w3 : (Cond.initialized y.cls).before a0 Z = true) (w4 : (Cond.code y bytes maxL none).before a0 Z = true)
    (hy : y.cls ≠ "java/lang/invoke/MethodHandle" ∧ y.cls ≠ "java/lang/invoke/VarHandle") {Q : Option Value → Heap → List Loc → Prop} (hM : Ctr l Z h y bytes maxL none [] rm as' Q) (eT : T.heap = h) (hsz : Ls.size = c.maxLocals)
    (hd : decode c.code pc = .ok (.invokespecial index, 3)) (hlen : ∀ sig, parseMethodDescriptor y.desc = some sig → argsL.length = sig.parameters.length) (hst : S = argsL.reverse ++ .ref a :: rest) (has : (Value.ref a :: argsL).toArray = as')
    {W : Nat} (hW : 2 * 0 + (rest.map fun v => v.category).sum ≤ W) (hB : rm.frames + 1 ≤ R.frames ∧ W + (maxL + 11) + rm.locals ≤ R.locals ∧ cells + rm.cells ≤ R.cells ∧ slots + rm.slots ≤ R.slots)
    (g : ∀ (v : Option Value) (T' : State) (L : List Loc), Stand p l e R s m args below meth c T' (locs ++ L) (cells + rm.cells) (slots + rm.slots) → Q v T'.heap L → Go p e below K (T'.setTop (mkF m (pc + 3) Ls (v.toList ++ rest)))) : Go p e below K (T.setTop (mkF m pc Ls S)) := by
  obtain ⟨hf, hl, hc, hs⟩ := hB
  obtain ⟨v, _, ⟨T', L', k', n'⟩, -, X', ⟨Lc, hQ, l', y', z'⟩, st⟩ := X.specialBack hx (y := y) hy1 hown (mvT hZ w1) (mvT hZ w2) (mvT hZ w4) hy (backOf (W := W) hM hZ w4 w3 hf hl) (g := mkF m pc Ls S) rfl hsz (Steps.refl _) (a := a) (argsL := argsL) (rest := rest) hlen hst hW hd (fun _ _ => ⟨has, eT, hc, hs⟩)
  dsimp only [Pt.U, Pt.locs, Pt.cells, Pt.slots] at X' l' y' z' st hQ
  subst l' y' z'
  exact Go.jw st (g v T' Lc X' hQ)
theorem Go.u {own C : String} {index : Nat} {y z : MethodName} {bytes : ByteArray} {maxL : Nat} {ret : Option FieldType} {rm : Room} {as' : Array Value} {argsL S : List Value} (X : Stand p l e R s m args below meth c T locs cells slots) (hx : p.tables.exec = Jvm.exec) (hZ : Z.Warmed39 s.vm) (hown : s.vm.findClass own = some m.cls)
    (w1 : (Cond.methodLink own index y).before a0 Z = true) (w2 : (Cond.declares y).before a0 Z = true) (hnf : NotFace s y) (w5 : (Cond.selects C y z).before a0 Z = true) (w6 : (Cond.instanceMethod z).before a0 Z = true) (w3 : (Cond.initialized z.cls).before a0 Z = true) (w4 : (Cond.code z bytes maxL ret).before a0 Z = true)
    (hy : y.cls ≠ "java/lang/invoke/MethodHandle" ∧ y.cls ≠ "java/lang/invoke/VarHandle") {Q : Option Value → Heap → List Loc → Prop} (hM : Ctr l Z h z bytes maxL ret [] rm as' Q) (eT : T.heap = h) (E : Exa Z h a C) (hsz : Ls.size = c.maxLocals)
    (hd : decode c.code pc = .ok (.invokevirtual index, 3)) (hlen : ∀ sig, parseMethodDescriptor y.desc = some sig → argsL.length = sig.parameters.length) (hst : S = argsL.reverse ++ .ref a :: rest) (has : (Value.ref a :: argsL).toArray = as')
    {W : Nat} (hW : 2 * 0 + (rest.map fun v => v.category).sum ≤ W) (hB : rm.frames + 1 ≤ R.frames ∧ W + (maxL + 11) + rm.locals ≤ R.locals ∧ cells + rm.cells ≤ R.cells ∧ slots + rm.slots ≤ R.slots)
    (g : ∀ (v : Option Value) (T' : State) (L : List Loc), Stand p l e R s m args below meth c T' (locs ++ L) (cells + rm.cells) (slots + rm.slots) → Q v T'.heap L → Go p e below K (T'.setTop (mkF m (pc + 3) Ls (v.toList ++ rest)))) : Go p e below K (T.setTop (mkF m pc Ls S)) := by
  obtain ⟨hf, hl, hc, hs⟩ := hB
  obtain ⟨cq, kq, q1, q2, q3⟩ := isOf hZ eT E
  obtain ⟨v, _, ⟨T', L', k', n'⟩, -, X', ⟨Lc, hQ, l', y', z'⟩, st⟩ := X.virtualBack hx (y := y) (z := z) hown (mvT hZ w1) (mvT hZ w2) hnf (mvT hZ w5) (mvT hZ w6) hy (backOf (W := W) hM hZ w4 w3 hf hl) q1 q3 (g := mkF m pc Ls S) rfl hsz (Steps.refl _) (argsL := argsL) (rest := rest) hlen hst hW hd (fun _ _ => ⟨has, eT, hc, hs⟩)
  dsimp only [Pt.U, Pt.locs, Pt.cells, Pt.slots] at X' l' y' z' st hQ
  subst l' y' z'
  exact Go.jw st (g v T' Lc X' hQ)
theorem Go.jB {own : String} {index : Nat} {y : MethodName} {bytes : ByteArray} {maxL : Nat} {ret : Option FieldType} {rm : Room} {as' : Array Value} {argsL S : List Value} {C : String} (X : Stand p l e R s m args below meth c T locs cells slots) (hx : p.tables.exec = Jvm.exec) (hZ : Z.Warmed39 s.vm) (hown : s.vm.findClass own = some m.cls)
    (w1 : (Cond.methodLink own index y).before a0 Z = true) (w6 : (Cond.instanceMethod y).before a0 Z = true) (w5 : (Cond.selects y.cls y y).before a0 Z = true) (w7 : (Cond.privateMethod y).before a0 Z = true) (w3 : (Cond.initialized y.cls).before a0 Z = true) (w4 : (Cond.code y bytes maxL ret).before a0 Z = true)
    (hy : y.cls ≠ "java/lang/invoke/MethodHandle" ∧ y.cls ≠ "java/lang/invoke/VarHandle") {Q : Option Value → Heap → List Loc → Prop} (hM : Ctr l Z h y bytes maxL ret [] rm as' Q) (eT : T.heap = h) (E : Exa Z h a C) (hsz : Ls.size = c.maxLocals)
    (hd : decode c.code pc = .ok (.invokevirtual index, 3)) (hlen : ∀ sig, parseMethodDescriptor y.desc = some sig → argsL.length = sig.parameters.length) (hst : S = argsL.reverse ++ .ref a :: rest) (has : (Value.ref a :: argsL).toArray = as')
    {W : Nat} (hW : 2 * 0 + (rest.map fun v => v.category).sum ≤ W) (hB : rm.frames + 1 ≤ R.frames ∧ W + (maxL + 11) + rm.locals ≤ R.locals ∧ cells + rm.cells ≤ R.cells ∧ slots + rm.slots ≤ R.slots)
    (g : ∀ (v : Option Value) (T' : State) (L : List Loc), Stand p l e R s m args below meth c T' (locs ++ L) (cells + rm.cells) (slots + rm.slots) → Q v T'.heap L → Go p e below K (T'.setTop (mkF m (pc + 3) Ls (v.toList ++ rest)))) : Go p e below K (T.setTop (mkF m pc Ls S)) := by
  obtain ⟨hf, hl, hc, hs⟩ := hB
  obtain ⟨cq, q1, q2⟩ := E.cell
  subst eT
  obtain ⟨v, _, ⟨T', L', k', n'⟩, -, X', ⟨Lc, hQ, l', y', z'⟩, st⟩ := X.privateBack hx (y := y) hown (mvT hZ w1) (mvT hZ w6) (mvT hZ w5) (Cond.privateMethod_at (mvP hZ w7 (args := #[]))) (mvT hZ w4) hy (backOf (W := W) hM hZ w4 w3 hf hl) (g := mkF m pc Ls S) rfl hsz (Steps.refl _) (a := a) q1 q2 (argsL := argsL) (rest := rest) hlen hst hW hd (fun _ _ => ⟨has, rfl, hc, hs⟩)
  dsimp only [Pt.U, Pt.locs, Pt.cells, Pt.slots] at X' l' y' z' st hQ
  subst l' y' z'
  exact Go.jw st (g v T' Lc X' hQ)
theorem Go.jE {own C : String} {index : Nat} {y : MethodName} {bytes : ByteArray} {maxL : Nat} {ret : Option FieldType} {rm : Room} {as' : Array Value} {argsL S : List Value} (X : Stand p l e R s m args below meth c T locs cells slots) (hx : p.tables.exec = Jvm.exec) (hZ : Z.Warmed39 s.vm) (hown : s.vm.findClass own = some m.cls)
    (w1 : (Cond.methodLink own index y).before a0 Z = true) (w2 : (Cond.sameMethod y.cls y.cls y.name y.desc).before a0 Z = true) (w6 : (Cond.instanceMethod y).before a0 Z = true) (w5 : (Cond.superclass own y.cls).before a0 Z = true) (hn : y.name ≠ "<init>") (w3 : (Cond.initialized y.cls).before a0 Z = true) (w4 : (Cond.code y bytes maxL ret).before a0 Z = true)
    {Q : Option Value → Heap → List Loc → Prop} (hM : Ctr l Z h y bytes maxL ret [] rm as' Q) (eT : T.heap = h) (E : Exa Z h a C) (hsz : Ls.size = c.maxLocals)
    (hd : decode c.code pc = .ok (.invokespecial index, 3)) (hlen : ∀ sig, parseMethodDescriptor y.desc = some sig → argsL.length = sig.parameters.length) (hst : S = argsL.reverse ++ .ref a :: rest) (has : (Value.ref a :: argsL).toArray = as')
    {W : Nat} (hW : 2 * 0 + (rest.map fun v => v.category).sum ≤ W) (hB : rm.frames + 1 ≤ R.frames ∧ W + (maxL + 11) + rm.locals ≤ R.locals ∧ cells + rm.cells ≤ R.cells ∧ slots + rm.slots ≤ R.slots)
    (g : ∀ (v : Option Value) (T' : State) (L : List Loc), Stand p l e R s m args below meth c T' (locs ++ L) (cells + rm.cells) (slots + rm.slots) → Q v T'.heap L → Go p e below K (T'.setTop (mkF m (pc + 3) Ls (v.toList ++ rest)))) : Go p e below K (T.setTop (mkF m pc Ls S)) := by
  obtain ⟨hf, hl, hc, hs⟩ := hB
  obtain ⟨v, _, ⟨T', L', k', n'⟩, -, X', ⟨Lc, hQ, l', y', z'⟩, st⟩ := superBack X hx hZ (y := y) hown w1 w2 w6 w5 hn (backOf (W := W) hM hZ w4 w3 hf hl) eT (Ins.self E) (g := mkF m pc Ls S) rfl hsz w4 (argsL := argsL) (rest := rest) hlen hst hW hd (fun _ _ => ⟨has, eT, hc, hs⟩)
  dsimp only [Pt.U, Pt.locs, Pt.cells, Pt.slots] at X' l' y' z' st hQ
  subst l' y' z'
  exact Go.jw st (g v T' Lc X' hQ)
/-! arrays whose components are known -/
variable {cA : ClassId} {ty : FieldType} {z j : Int32} {vs : List Value} {dv : Value}
theorem Go.J (X : Stand p l e R s m args below meth c T locs cells slots) (hx : p.tables.exec = Jvm.exec) (hZ : Z.Warmed39 s.vm) (eT : T.heap = h) (V : Arv Z h a cA ty z vs dv) (hd : decode c.code pc = .ok (.arraylength, 1))
    (g : Go p e below K (T.setTop (mkF m (pc + 1) Ls (.int z :: rest)))) : Go p e below K (T.setTop (mkF m pc Ls (.ref a :: rest))) := by
  obtain ⟨cl, A, -, S, N, -, -⟩ := V
  subst eT
  refine Go.I (fun t q => X.arraylength hx A.1 (State.isArrayOf_alike hZ.alike A.2.1) (g := mkF m pc Ls (.ref a :: rest)) rfl rfl hd _ q) ?_
  rw [len_of S N]
  exact g
/-- an array of which the length alone is known -/
def Lng (Z : State) (h : Heap) (a : Addr) (n : Int32) : Prop := ∃ (cl : Cell) (ty : FieldType), Arr Z h a cl ty ∧ cl.slots.size = n.toNatClampNeg ∧ ¬ n < 0
theorem Lng.ext (L : Lng Z h a z) (E : Ext h h') : Lng Z h' a z := by obtain ⟨cl, ty, A, r⟩ := L; exact ⟨cl, ty, A.ext E, r⟩
theorem Lng.lt (L : Lng Z h a z) : a < h.size := by obtain ⟨cl, ty, A, r⟩ := L; exact A.lt
theorem Lng.of {cl : Cell} (A : Arr Z h a cl ty) (q : cl.slots.size < 2 ^ 31) (e : cl.slots.size.toInt32 = z) (hz : ¬ z < 0) : Lng Z h a z := by
  refine ⟨cl, ty, A, ?_, hz⟩
  rw [← e]; simp only [Int32.toNatClampNeg, len_toInt q]; rfl
theorem cc (x : Int32) : nar .char x.toUInt32.toUInt16.toUInt32.toInt32 = x.toUInt32.toUInt16.toUInt32.toInt32 := by
  have h := Jvm.Free.XT.narrow_c x
  exact Value.int.inj h
theorem bb (x : Int32) : x.toInt8.toInt32.toInt8.toInt32 = x.toInt8.toInt32 := by simp
theorem Go.W {v : Value} (X : Stand p l e R s m args below meth c T locs cells slots) (hx : p.tables.exec = Jvm.exec) (hZ : Z.Warmed39 s.vm) (eT : T.heap = h) (V : Arv Z h a cA .byte z vs dv) (hj : ¬ j < 0 ∧ j < z) (hv : vs.getD j.toNatClampNeg dv = v) (hd : decode c.code pc = .ok (.baload, 1))
    (g : Go p e below K (T.setTop (mkF m (pc + 1) Ls (v :: rest)))) : Go p e below K (T.setTop (mkF m pc Ls (.int j :: .ref a :: rest))) := by
  obtain ⟨cl, A, -, S, N, H, -⟩ := V
  subst eT
  have hin := inb_of S hj
  exact Go.I (fun t q => X.baloadBytes hx (j := j) (v := v) A.1 (State.isArrayOf_alike hZ.alike A.2.1) A.2.2 hin (H.at hin hv) (g := mkF m pc Ls (.int j :: .ref a :: rest)) rfl rfl hd _ q) g
theorem Go.jn {v : Value} (X : Stand p l e R s m args below meth c T locs cells slots) (hx : p.tables.exec = Jvm.exec) (hZ : Z.Warmed39 s.vm) (eT : T.heap = h) (V : Arv Z h a cA .char z vs dv) (hj : ¬ j < 0 ∧ j < z) (hv : vs.getD j.toNatClampNeg dv = v) (hd : decode c.code pc = .ok (.caload, 1))
    (g : Go p e below K (T.setTop (mkF m (pc + 1) Ls (v :: rest)))) : Go p e below K (T.setTop (mkF m pc Ls (.int j :: .ref a :: rest))) := by
  obtain ⟨cl, A, -, S, N, H, -⟩ := V
  subst eT
  have hin := inb_of S hj
  exact Go.I (fun t q => X.caload hx (j := j) (v := v) A.1 (State.isArrayOf_alike hZ.alike A.2.1) A.2.2 hin (H.at hin hv) (g := mkF m pc Ls (.int j :: .ref a :: rest)) rfl rfl hd _ q) g
theorem Go.jl {x : Int32} {i : Nat} (X : Stand p l e R s m args below meth c T locs cells slots) (hx : p.tables.exec = Jvm.exec) (hZ : Z.Warmed39 s.vm) (eT : T.heap = h) (V : Arv Z h a cA .byte z vs dv) (hj : ¬ j < 0 ∧ j < z) (hi : j.toNatClampNeg = i) (hl : i < vs.length) (hd : decode c.code pc = .ok (.bastore, 1))
    (g : ∀ (T' : State) (h' : Heap), Stand p l e R s m args below meth c T' (locs ++ [⟨a, j.toNatClampNeg⟩]) cells slots → T'.heap = h' → Wr h h' a j.toNatClampNeg (.int x.toInt8.toInt32) → Arv Z h' a cA .byte z (vs.set i (.int x.toInt8.toInt32)) dv → Go p e below K (T'.setTop (mkF m (pc + 1) Ls rest))) : Go p e below K (T.setTop (mkF m pc Ls (.int x :: .int j :: .ref a :: rest))) := by
  obtain ⟨cl, A, q1, S, N, H, G⟩ := V
  obtain ⟨T', h', X', e', W, st⟩ := stB X hx hZ eT A (j := j) (x := x) (inb_of S hj) (g := mkF m pc Ls (.int x :: .int j :: .ref a :: rest)) rfl rfl hd
  exact Go.I st (g T' h' X' e' W (Arv.set A q1 S N H G (fits_nar_byte _) W i hi hl))
theorem Go.jg {x : Int32} {i : Nat} (X : Stand p l e R s m args below meth c T locs cells slots) (hx : p.tables.exec = Jvm.exec) (hZ : Z.Warmed39 s.vm) (eT : T.heap = h) (V : Arv Z h a cA .char z vs dv) (hj : ¬ j < 0 ∧ j < z) (hi : j.toNatClampNeg = i) (hl : i < vs.length) (hd : decode c.code pc = .ok (.castore, 1))
    (g : ∀ (T' : State) (h' : Heap), Stand p l e R s m args below meth c T' (locs ++ [⟨a, j.toNatClampNeg⟩]) cells slots → T'.heap = h' → Wr h h' a j.toNatClampNeg (.int (nar .char x)) → Arv Z h' a cA .char z (vs.set i (.int (nar .char x))) dv → Go p e below K (T'.setTop (mkF m (pc + 1) Ls rest))) : Go p e below K (T.setTop (mkF m pc Ls (.int x :: .int j :: .ref a :: rest))) := by
  obtain ⟨cl, A, q1, S, N, H, G⟩ := V
  obtain ⟨T', h', X', e', W, st⟩ := stC X hx hZ eT A (j := j) (x := x) (inb_of S hj) (g := mkF m pc Ls (.int x :: .int j :: .ref a :: rest)) rfl rfl hd
  exact Go.I st (g T' h' X' e' W (Arv.set A q1 S N H G (fits_nar_char _) W i hi hl))
/-! from the case's words -/
theorem sta_exa {C f d K : String} (hx : (Cond.exactly (Term.static C f d) K).value args s none s [] = some true) (w1 : (Cond.initialized C).before args s = true) (w2 : (Cond.laysStatic C f d).before args s = true) : ∃ a, (Term.static C f d).eval args s none [] s = some (.ref a) ∧ Sta s s.heap C f d (.ref a) ∧ Exa s s.heap a K := by
  obtain ⟨a, ev⟩ := exa_v hx
  exact ⟨a, ev, Sta.start ev (Or.inr ⟨w1, w2⟩), Exa.start ev hx⟩
theorem fld_int {t : Term} {C f d : String} {z : Int32} (ev : t.eval args s none [] s = some (.ref a)) (hx : (Cond.eq (Term.field t C f d) (Term.int z)).value args s none s [] = some true) : Fld s s.heap a C f d (.int z) := by
  obtain ⟨x, y, e1, e2, k1, k2⟩ := cmp_v (Or.inl hx)
  have e3 : y = .int z := by rw [Term.int_eval] at e2; exact (Option.some.inj e2).symm
  subst e3
  obtain ⟨q, rfl⟩ : ∃ q, x = .int q := k2
  have e4 : q = z := by simpa [Cond.value, e1, e2] using hx
  subst e4
  rw [fld_at ev] at e1
  exact Fld.start e1
theorem eq_int {t : Term} {x z : Int32} (ev : t.eval args s none [] s = some (.int x)) (h : (Cond.eq t (Term.int z)).before args s = true) : x = z := by
  have q := Cond.before_iff.mp h
  simpa [Cond.value, ev, Term.int_eval] using q
theorem fld_ref {t : Term} {C f d : String} (ev : t.eval args s none [] s = some (.ref a)) (ev2 : (Term.field t C f d).eval args s none [] s = some (.ref b)) : Fld s s.heap a C f d (.ref b) := by
  rw [fld_at ev] at ev2; exact Fld.start ev2
theorem fld_null {t : Term} {C f d : String} (ev : t.eval args s none [] s = some (.ref a)) (hx : (Cond.eq (Term.field t C f d) Term.null).value args s none s [] = some true) : Fld s s.heap a C f d .null := by
  have q := null_v hx
  rw [fld_at ev] at q; exact Fld.start q
theorem fld_same {t u : Term} {C f d : String} (ev : t.eval args s none [] s = some (.ref a)) (ev2 : u.eval args s none [] s = some (.ref b)) (hx : (Cond.eq (Term.field t C f d) u).value args s none s [] = some true) : Fld s s.heap a C f d (.ref b) := by
  obtain ⟨x, y, e1, e2, k1, k2⟩ := cmp_v (Or.inl hx)
  cases ev2.symm.trans e2
  have hr : x.isRef = true := by
    have := k2
    simp [Kin] at this
    exact this.2
  rw [eq_R e1 e2 hr rfl] at hx
  have e3 : x = .ref b := by simpa using hx
  subst e3
  exact fld_ref ev e1
theorem elem_int {t : Term} {i v : Int32} {cl : Cell} {ty : FieldType} (ev : t.eval args s none [] s = some (.ref a)) (A : Arr s s.heap a cl ty) (hx : (Cond.eq (Term.elem t (Term.int i)) (Term.int v)).value args s none s [] = some true) : cl.slots[i.toNatClampNeg]? = some (.int v) := by
  obtain ⟨x, y, e1, e2, k1, k2⟩ := cmp_v (Or.inl hx)
  have e3 : y = .int v := by rw [Term.int_eval] at e2; exact (Option.some.inj e2).symm
  subst e3
  obtain ⟨q, rfl⟩ : ∃ q, x = .int q := k2
  have e4 : q = v := eq_int e1 (Cond.before_iff.mpr hx)
  subst e4
  exact (elem_in e1 ev (Term.int_eval _) A.1).2
theorem sta_int {C f d : String} (h0 : (Cond.initializedFor C f d).before args s = true) (h1 : (Cond.isInt (Term.static C f d)).before args s = true) : ∃ x, (Term.static C f d).eval args s none [] s = some (.int x) ∧ Sta s s.heap C f d (.int x) := by
  obtain ⟨x, ev⟩ := is_v (Cond.before_iff.mp h1)
  exact ⟨x, ev, Sta.start ev (Or.inl h0)⟩
theorem sta_ref {C f d : String} (h0 : (Cond.initializedFor C f d).before args s = true) (h1 : (Cond.isRef (Term.static C f d)).before args s = true) : ∃ x, (Term.static C f d).eval args s none [] s = some x ∧ x.isRef = true ∧ Sta s s.heap C f d x := by
  obtain ⟨x, ev, hr⟩ := isR_v (Cond.before_iff.mp h1)
  exact ⟨x, ev, hr, Sta.start ev (Or.inl h0)⟩
theorem ne_int {t : Term} {x z : Int32} (ev : t.eval args s none [] s = some (.int x)) (h : (Cond.not (Cond.eq t (Term.int z))).before args s = true) : ¬ x = z := by
  have q := not_v (Cond.before_iff.mp h)
  intro e; subst e
  rw [eq_i ev (Term.int_eval _) rfl] at q
  cases q
/-! a class whose superclasses are named is not one that can be instantiated and isn't among them -/
theorem ns_root {O D : String} {nn : Nat} (w : (Cond.noSuperclass O).before a0 Z = true) (wk : (Cond.instantiable D nn).before a0 Z = true) (hn : O ≠ D) : NS Z O D := by
  obtain ⟨c1, k1, q1, q2, q3, -, -⟩ := Cond.noSuperclass_spec w
  obtain ⟨t, -, g1, -⟩ := Cond.instantiable_spec wk
  refine ⟨c1, t, q1, g1, fun fuel => ?_⟩
  have ne := ids_ne q1 g1 hn
  cases fuel <;> simp [Vm.isSubclassAux, ne, q2, q3]
theorem ns_no {C S D : String} {nn : Nat} (w : (Cond.superclass C S).before a0 Z = true) (wk : (Cond.instantiable D nn).before a0 Z = true) (n : NS Z C D) (hn : C ≠ D) : ∃ c t, Z.vm.findClass C = some c ∧ Z.vm.findClass D = some t ∧ Z.vm.assignable c t = false := by
  obtain ⟨c1, t, q0, g0, n3⟩ := n
  obtain ⟨p1, k1, kp, q1, q2, q3, q4, q5, -, q7⟩ := Cond.superclass_spec q0 w
  obtain ⟨t', k2, g1, g2, g3, g4, -⟩ := Cond.instantiable_spec wk
  cases g0.symm.trans g1
  have ne := ids_ne q0 g0 hn
  have g5 : k2.isInterface = false := by simpa using (Bool.or_eq_false_iff.mp g4).1
  refine ⟨c1, t, q0, g0, ?_⟩
  show Z.vm.assignableAux (255 + 1) c1 t = false
  simp [Vm.assignableAux, ne, q2, g2, q5, g3, g5, Vm.isSubclass, n3]
end Own
end Jvm.RoadKit
namespace Jvm.RoadKit
open Sem ClassFile Op Lib Jvm.Stand Jvm.Free Jvm.LawKit
section OwnSteps
variable {p : Program} {l : Launch} {e : Env} {R : Room} {s : State} {m : MethodId} {args : Array Value} {below : List Frame} {meth : Method} {c : Code} {T : State} {locs : List Loc} {cells slots : Nat} {K : State → Outcome → Prop} {pc q : Nat} {Ls l' : Array Slot} {S : List Value}
theorem Go.f {k : Fin 4} {v : Int32} (X : Stand p l e R s m args below meth c T locs cells slots) (hx : p.tables.exec = Jvm.exec) (hd : decode c.code pc = .ok (.iload_n k, 1)) (hl : Ls[k.val]? = some (.val (.int v))) (hp : pc + 1 = q) (g : Go p e below K (T.setTop (mkF m q Ls (.int v :: S)))) : Go p e below K (T.setTop (mkF m pc Ls S)) := by
  subst hp
  exact Go.I (fun t z => XS.iloadN X.here hx rfl hd hl z) g
theorem Go.o {k : Nat} {v : Int32} (X : Stand p l e R s m args below meth c T locs cells slots) (hx : p.tables.exec = Jvm.exec) (hd : decode c.code pc = .ok (.iload k, 2)) (hl : Ls[k]? = some (.val (.int v))) (hp : pc + 2 = q) (g : Go p e below K (T.setTop (mkF m q Ls (.int v :: S)))) : Go p e below K (T.setTop (mkF m pc Ls S)) := by
  subst hp
  exact Go.I (fun t z => XS.iload X.here hx rfl hd hl z) g
theorem Go.P {k : Fin 4} {v : Int32} (X : Stand p l e R s m args below meth c T locs cells slots) (hx : p.tables.exec = Jvm.exec) (hd : decode c.code pc = .ok (.istore_n k, 1)) (hl : storeLocals Ls k.val (.int v) = some l') (hp : pc + 1 = q) (g : Go p e below K (T.setTop (mkF m q l' S))) : Go p e below K (T.setTop (mkF m pc Ls (.int v :: S))) := by
  subst hp
  exact Go.I (fun t z => XS.istoreN X.here hx rfl hd rfl hl z) g
theorem Go.G {k : Nat} {v : Int32} (X : Stand p l e R s m args below meth c T locs cells slots) (hx : p.tables.exec = Jvm.exec) (hd : decode c.code pc = .ok (.istore k, 2)) (hl : storeLocals Ls k (.int v) = some l') (hp : pc + 2 = q) (g : Go p e below K (T.setTop (mkF m q l' S))) : Go p e below K (T.setTop (mkF m pc Ls (.int v :: S))) := by
  subst hp
  exact Go.I (fun t z => XS.istore X.here hx rfl hd rfl hl z) g
theorem Go.g {k : Fin 4} {v : Value} (X : Stand p l e R s m args below meth c T locs cells slots) (hx : p.tables.exec = Jvm.exec) (hd : decode c.code pc = .ok (.aload_n k, 1)) (hl : Ls[k.val]? = some (.val v)) (hv : v.isRef = true) (hp : pc + 1 = q) (g : Go p e below K (T.setTop (mkF m q Ls (v :: S)))) : Go p e below K (T.setTop (mkF m pc Ls S)) := by
  subst hp
  exact Go.I (fun t z => XS.aloadN X.here hx rfl hd hl hv z) g
theorem Go.w {k : Nat} {v : Value} (X : Stand p l e R s m args below meth c T locs cells slots) (hx : p.tables.exec = Jvm.exec) (hd : decode c.code pc = .ok (.aload k, 2)) (hl : Ls[k]? = some (.val v)) (hv : v.isRef = true) (hp : pc + 2 = q) (g : Go p e below K (T.setTop (mkF m q Ls (v :: S)))) : Go p e below K (T.setTop (mkF m pc Ls S)) := by
  subst hp
  exact Go.I (fun t z => XS.aload X.here hx rfl hd hl hv z) g
theorem Go.jf {k : Fin 4} {v : Value} (X : Stand p l e R s m args below meth c T locs cells slots) (hx : p.tables.exec = Jvm.exec) (hd : decode c.code pc = .ok (.astore_n k, 1)) (hv : v.isRef = true) (hl : storeLocals Ls k.val v = some l') (hp : pc + 1 = q) (g : Go p e below K (T.setTop (mkF m q l' S))) : Go p e below K (T.setTop (mkF m pc Ls (v :: S))) := by
  subst hp
  exact Go.I (fun t z => XS.astoreN X.here hx rfl hd rfl hv hl z) g
theorem Go.V {k : Nat} {v : Value} (X : Stand p l e R s m args below meth c T locs cells slots) (hx : p.tables.exec = Jvm.exec) (hd : decode c.code pc = .ok (.astore k, 2)) (hv : v.isRef = true) (hl : storeLocals Ls k v = some l') (hp : pc + 2 = q) (g : Go p e below K (T.setTop (mkF m q l' S))) : Go p e below K (T.setTop (mkF m pc Ls (v :: S))) := by
  subst hp
  exact Go.I (fun t z => XS.astore X.here hx rfl hd rfl hv hl z) g
theorem Go.i {i : Int} {r : Int32} (X : Stand p l e R s m args below meth c T locs cells slots) (hx : p.tables.exec = Jvm.exec) (hd : decode c.code pc = .ok (.iconst i, 1)) (hr : Int32.ofInt i = r) (hp : pc + 1 = q) (g : Go p e below K (T.setTop (mkF m q Ls (.int r :: S)))) : Go p e below K (T.setTop (mkF m pc Ls S)) := by
  subst hp hr
  exact Go.I (fun t z => XS.iconst X.here hx rfl hd z) g
theorem Go.E {i : Int} {r : Int32} (X : Stand p l e R s m args below meth c T locs cells slots) (hx : p.tables.exec = Jvm.exec) (hd : decode c.code pc = .ok (.bipush i, 2)) (hr : (Int8.ofInt i).toInt32 = r) (hp : pc + 2 = q) (g : Go p e below K (T.setTop (mkF m q Ls (.int r :: S)))) : Go p e below K (T.setTop (mkF m pc Ls S)) := by
  subst hp hr
  exact Go.I (fun t z => XS.bipush X.here hx rfl hd z) g
theorem Go.X {i : Int} {r : Int32} (X : Stand p l e R s m args below meth c T locs cells slots) (hx : p.tables.exec = Jvm.exec) (hd : decode c.code pc = .ok (.sipush i, 3)) (hr : (Int16.ofInt i).toInt32 = r) (hp : pc + 3 = q) (g : Go p e below K (T.setTop (mkF m q Ls (.int r :: S)))) : Go p e below K (T.setTop (mkF m pc Ls S)) := by
  subst hp hr
  exact Go.I (fun t z => XS.sipush X.here hx rfl hd z) g
theorem Go.jy  (X : Stand p l e R s m args below meth c T locs cells slots) (hx : p.tables.exec = Jvm.exec) (hd : decode c.code pc = .ok (.aconst_null, 1)) (hp : pc + 1 = q) (g : Go p e below K (T.setTop (mkF m q Ls (.null :: S)))) : Go p e below K (T.setTop (mkF m pc Ls S)) := by
  subst hp
  exact Go.I (fun t z => XS.aconstNull X.here hx rfl hd z) g
theorem Go.jh {x y r : Int32} (X : Stand p l e R s m args below meth c T locs cells slots) (hx : p.tables.exec = Jvm.exec) (hd : decode c.code pc = .ok (.iadd, 1)) (hr : x + y = r) (hp : pc + 1 = q) (g : Go p e below K (T.setTop (mkF m q Ls (.int r :: S)))) : Go p e below K (T.setTop (mkF m pc Ls (.int y :: .int x :: S))) := by
  subst hp hr
  exact Go.I (fun t z => XS.iadd X.here hx rfl hd rfl z) g
theorem Go.ja {x y r : Int32} (X : Stand p l e R s m args below meth c T locs cells slots) (hx : p.tables.exec = Jvm.exec) (hd : decode c.code pc = .ok (.isub, 1)) (hr : x - y = r) (hp : pc + 1 = q) (g : Go p e below K (T.setTop (mkF m q Ls (.int r :: S)))) : Go p e below K (T.setTop (mkF m pc Ls (.int y :: .int x :: S))) := by
  subst hp hr
  exact Go.I (fun t z => XS.isub X.here hx rfl hd rfl z) g
theorem Go.jD {x y r : Int32} (X : Stand p l e R s m args below meth c T locs cells slots) (hx : p.tables.exec = Jvm.exec) (hd : decode c.code pc = .ok (.iand, 1)) (hr : x &&& y = r) (hp : pc + 1 = q) (g : Go p e below K (T.setTop (mkF m q Ls (.int r :: S)))) : Go p e below K (T.setTop (mkF m pc Ls (.int y :: .int x :: S))) := by
  subst hp hr
  exact Go.I (fun t z => XS.iand X.here hx rfl hd rfl z) g
theorem Go.jM {x y r : Int32} (X : Stand p l e R s m args below meth c T locs cells slots) (hx : p.tables.exec = Jvm.exec) (hd : decode c.code pc = .ok (.irem, 1)) (hy : y ≠ 0) (hr : x % y = r) (hp : pc + 1 = q) (g : Go p e below K (T.setTop (mkF m q Ls (.int r :: S)))) : Go p e below K (T.setTop (mkF m pc Ls (.int y :: .int x :: S))) := by
  subst hp hr
  exact Go.I (fun t z => iremM X hx (g := mkF m pc Ls (.int y :: .int x :: S)) rfl hd rfl hy z) g
theorem Go.jO {x y r : Int32} (X : Stand p l e R s m args below meth c T locs cells slots) (hx : p.tables.exec = Jvm.exec) (hd : decode c.code pc = .ok (.ishl, 1)) (hr : x <<< (y &&& 31) = r) (hp : pc + 1 = q) (g : Go p e below K (T.setTop (mkF m q Ls (.int r :: S)))) : Go p e below K (T.setTop (mkF m pc Ls (.int y :: .int x :: S))) := by
  subst hp hr
  exact Go.I (fun t z => XS.ishl X.here hx rfl hd rfl z) g
theorem Go.jF {x y r : Int32} (X : Stand p l e R s m args below meth c T locs cells slots) (hx : p.tables.exec = Jvm.exec) (hd : decode c.code pc = .ok (.ishr, 1)) (hr : x >>> (y &&& 31) = r) (hp : pc + 1 = q) (g : Go p e below K (T.setTop (mkF m q Ls (.int r :: S)))) : Go p e below K (T.setTop (mkF m pc Ls (.int y :: .int x :: S))) := by
  subst hp hr
  exact Go.I (fun t z => XS.ishr X.here hx rfl hd rfl z) g
theorem Go.jA {x y r : Int32} (X : Stand p l e R s m args below meth c T locs cells slots) (hx : p.tables.exec = Jvm.exec) (hd : decode c.code pc = .ok (.iushr, 1)) (hr : (x.toUInt32 >>> (y &&& 31).toUInt32).toInt32 = r) (hp : pc + 1 = q) (g : Go p e below K (T.setTop (mkF m q Ls (.int r :: S)))) : Go p e below K (T.setTop (mkF m pc Ls (.int y :: .int x :: S))) := by
  subst hp hr
  exact Go.I (fun t z => XS.iushr X.here hx rfl hd rfl z) g
theorem Go.je {x : Int32} {r : Int32} (X : Stand p l e R s m args below meth c T locs cells slots) (hx : p.tables.exec = Jvm.exec) (hd : decode c.code pc = .ok (.i2b, 1)) (hr : x.toInt8.toInt32 = r) (hp : pc + 1 = q) (g : Go p e below K (T.setTop (mkF m q Ls (.int r :: S)))) : Go p e below K (T.setTop (mkF m pc Ls (.int x :: S))) := by
  subst hp hr
  exact Go.I (fun t z => XS.i2b X.here hx rfl hd rfl z) g
theorem Go.jC {x : Int32} {r : Int32} (X : Stand p l e R s m args below meth c T locs cells slots) (hx : p.tables.exec = Jvm.exec) (hd : decode c.code pc = .ok (.i2c, 1)) (hr : x.toUInt32.toUInt16.toUInt32.toInt32 = r) (hp : pc + 1 = q) (g : Go p e below K (T.setTop (mkF m q Ls (.int r :: S)))) : Go p e below K (T.setTop (mkF m pc Ls (.int x :: S))) := by
  subst hp hr
  exact Go.I (fun t z => XS.i2c X.here hx rfl hd rfl z) g
theorem Go.H {k : Nat} {cst : Int} {x r : Int32} (X : Stand p l e R s m args below meth c T locs cells slots) (hx : p.tables.exec = Jvm.exec) (hd : decode c.code pc = .ok (.iinc k cst, 3)) (hl : Ls[k]? = some (.val (.int x))) (hr : x + Int32.ofInt cst = r) (hl' : storeLocals Ls k (.int r) = some l') (hp : pc + 3 = q) (g : Go p e below K (T.setTop (mkF m q l' S))) : Go p e below K (T.setTop (mkF m pc Ls S)) := by
  subst hp hr
  exact Go.I (fun t z => XS.iinc X.here hx rfl hd hl hl' z) g
theorem Go.N {x : Value} (X : Stand p l e R s m args below meth c T locs cells slots) (hx : p.tables.exec = Jvm.exec) (hd : decode c.code pc = .ok (.dup, 1)) (hc : x.category = 1) (hp : pc + 1 = q) (g : Go p e below K (T.setTop (mkF m q Ls (x :: x :: S)))) : Go p e below K (T.setTop (mkF m pc Ls (x :: S))) := by
  subst hp
  exact Go.I (fun t z => XS.dup X.here hx rfl hd rfl hc z) g
theorem Go.jL {x y : Value} (X : Stand p l e R s m args below meth c T locs cells slots) (hx : p.tables.exec = Jvm.exec) (hd : decode c.code pc = .ok (.dup_x1, 1)) (hc : x.category = 1) (hc2 : y.category = 1) (hp : pc + 1 = q) (g : Go p e below K (T.setTop (mkF m q Ls (x :: y :: x :: S)))) : Go p e below K (T.setTop (mkF m pc Ls (x :: y :: S))) := by
  subst hp
  exact Go.I (fun t z => XS.dupX1 X.here hx rfl hd rfl hc hc2 z) g
theorem Go.jo {x : Value} (X : Stand p l e R s m args below meth c T locs cells slots) (hx : p.tables.exec = Jvm.exec) (hd : decode c.code pc = .ok (.pop, 1)) (hc : x.category = 1) (hp : pc + 1 = q) (g : Go p e below K (T.setTop (mkF m q Ls S))) : Go p e below K (T.setTop (mkF m pc Ls (x :: S))) := by
  subst hp
  exact Go.I (fun t z => XS.pop X.here hx rfl hd rfl hc z) g
theorem Go.D  {o : Int} (X : Stand p l e R s m args below meth c T locs cells slots) (hx : p.tables.exec = Jvm.exec) (hd : decode c.code pc = .ok (.goto o, 3)) (ho : 0 ≤ (pc : Int) + o) (hp : ((pc : Int) + o).toNat = q) (g : Go p e below K (T.setTop (mkF m q Ls S))) : Go p e below K (T.setTop (mkF m pc Ls S)) :=
  Go.I (fun t z => XS.goto X.here hx rfl (pc0 := pc) rfl hd ho hp z) g
theorem Go.F {cd : ClassFile.Cond} {x : Int32} {o : Int} (X : Stand p l e R s m args below meth c T locs cells slots) (hx : p.tables.exec = Jvm.exec) (hd : decode c.code pc = .ok (.ifCond cd o, 3)) (hc : ifCond.holds cd x = true) (ho : 0 ≤ (pc : Int) + o) (hp : ((pc : Int) + o).toNat = q) (g : Go p e below K (T.setTop (mkF m q Ls S))) : Go p e below K (T.setTop (mkF m pc Ls (.int x :: S))) :=
  Go.I (fun t z => XS.ifYes X.here hx rfl (pc0 := pc) rfl hd rfl hc ho hp z) g
theorem Go.y {cd : ClassFile.Cond} {x y : Int32} {o : Int} (X : Stand p l e R s m args below meth c T locs cells slots) (hx : p.tables.exec = Jvm.exec) (hd : decode c.code pc = .ok (.if_icmp cd o, 3)) (hc : if_icmp.holds cd x y = true) (ho : 0 ≤ (pc : Int) + o) (hp : ((pc : Int) + o).toNat = q) (g : Go p e below K (T.setTop (mkF m q Ls S))) : Go p e below K (T.setTop (mkF m pc Ls (.int y :: .int x :: S))) :=
  Go.I (fun t z => XS.icmpYes X.here hx rfl (pc0 := pc) rfl hd rfl hc ho hp z) g
theorem Go.jx {b : Addr} {o : Int} (X : Stand p l e R s m args below meth c T locs cells slots) (hx : p.tables.exec = Jvm.exec) (hd : decode c.code pc = .ok (.ifnonnull o, 3)) (ho : 0 ≤ (pc : Int) + o) (hp : ((pc : Int) + o).toNat = q) (g : Go p e below K (T.setTop (mkF m q Ls S))) : Go p e below K (T.setTop (mkF m pc Ls (.ref b :: S))) :=
  Go.I (fun t z => XS.ifnonnullYes X.here hx rfl (pc0 := pc) rfl hd rfl ho hp z) g
theorem Go.L {cd : ClassFile.Cond} {x : Int32} {o : Int} (X : Stand p l e R s m args below meth c T locs cells slots) (hx : p.tables.exec = Jvm.exec) (hd : decode c.code pc = .ok (.ifCond cd o, 3)) (hc : ifCond.holds cd x = false) (hp : pc + 3 = q) (g : Go p e below K (T.setTop (mkF m q Ls S))) : Go p e below K (T.setTop (mkF m pc Ls (.int x :: S))) := by
  subst hp
  exact Go.I (fun t z => XS.ifNo X.here hx rfl hd rfl hc z) g
theorem Go.t {cd : ClassFile.Cond} {x y : Int32} {o : Int} (X : Stand p l e R s m args below meth c T locs cells slots) (hx : p.tables.exec = Jvm.exec) (hd : decode c.code pc = .ok (.if_icmp cd o, 3)) (hc : if_icmp.holds cd x y = false) (hp : pc + 3 = q) (g : Go p e below K (T.setTop (mkF m q Ls S))) : Go p e below K (T.setTop (mkF m pc Ls (.int y :: .int x :: S))) := by
  subst hp
  exact Go.I (fun t z => XS.icmpNo X.here hx rfl hd rfl hc z) g
theorem Go.jN {o : Int} (X : Stand p l e R s m args below meth c T locs cells slots) (hx : p.tables.exec = Jvm.exec) (hd : decode c.code pc = .ok (.ifnonnull o, 3)) (hp : pc + 3 = q) (g : Go p e below K (T.setTop (mkF m q Ls S))) : Go p e below K (T.setTop (mkF m pc Ls (.null :: S))) := by
  subst hp
  exact Go.I (fun t z => XS.ifnonnullNo X.here hx rfl hd rfl z) g
theorem Go.jp {cd : ACond} {x y : Value} {o : Int} {same : Bool} (X : Stand p l e R s m args below meth c T locs cells slots) (hx : p.tables.exec = Jvm.exec) (h1 : x.isRef = true) (h2 : y.isRef = true) (hd : decode c.code pc = .ok (.if_acmp cd o, 3)) (hq : decide (x = y) = same) (ho : 0 ≤ (pc : Int) + o) (hp : q = if acV cd same = true then ((pc : Int) + o).toNat else pc + 3) (g : Go p e below K (T.setTop (mkF m q Ls S))) : Go p e below K (T.setTop (mkF m pc Ls (y :: x :: S))) :=
  Go.I (fun t z => Jvm.RoadKit.acmp (g := mkF m pc Ls (y :: x :: S)) X hx rfl h1 h2 (pc0 := pc) (same := same) rfl hd rfl hq ho hp z) g
variable {Z : State} {a0 : Array Value} {h : Heap} {own R0 O n d host C : String} {index kk : Nat} {a : Addr} {v v' old : Value} {ty : FieldType}
theorem Go.B (X : Stand p l e R s m args below meth c T locs cells slots) (hx : p.tables.exec = Jvm.exec) (hZ : Z.Warmed39 s.vm) (hown : s.vm.findClass own = some m.cls) (w : (Cond.fieldLink own index R0 n d).before a0 Z = true ∨ (Cond.fieldLinkNest own index R0 n d host).before a0 Z = true) (via : Via Z R0 O n d) (eT : T.heap = h) (F : Fld Z h a O n d v) (hd : decode c.code pc = .ok (.getfield index, 3)) (hp : pc + 3 = q)
    (g : ∀ T', Stand p l e R s m args below meth c T' locs cells slots → T'.heap = h → Go p e below K (T'.setTop (mkF m q Ls (v :: S)))) : Go p e below K (T.setTop (mkF m pc Ls (.ref a :: S))) := by
  subst hp
  obtain ⟨T', X', e', st⟩ := Jvm.RoadKit.getF X hx hZ hown w via eT F (g := mkF m pc Ls (.ref a :: S)) rfl rfl hd
  exact Go.I st (g T' X' e')
theorem Go.jj (X : Stand p l e R s m args below meth c T locs cells slots) (hx : p.tables.exec = Jvm.exec) (hZ : Z.Warmed39 s.vm) (hown : s.vm.findClass own = some m.cls) (w : (Cond.fieldLink own index R0 n d).before a0 Z = true ∨ (Cond.fieldLinkNest own index R0 n d host).before a0 Z = true) (via : Via Z R0 O n d) (eT : T.heap = h) (F : Sta Z h O n d v) (hd : decode c.code pc = .ok (.getstatic index, 3)) (hp : pc + 3 = q)
    (g : ∀ T', Stand p l e R s m args below meth c T' locs cells slots → T'.heap = h → Go p e below K (T'.setTop (mkF m q Ls (v :: S)))) : Go p e below K (T.setTop (mkF m pc Ls S)) := by
  subst hp
  obtain ⟨T', X', e', st⟩ := Jvm.RoadKit.getS2 X hx hZ hown w via eT F (g := mkF m pc Ls S) rfl hd
  exact Go.I st (g T' X' e')
theorem Go.jc (X : Stand p l e R s m args below meth c T locs cells slots) (hx : p.tables.exec = Jvm.exec) (hZ : Z.Warmed39 s.vm) (hown : s.vm.findClass own = some m.cls) (w : (Cond.fieldLink own index R0 n d).before a0 Z = true ∨ (Cond.fieldLinkNest own index R0 n d host).before a0 Z = true) (via : Via Z R0 O n d) (eT : T.heap = h) (F : Fld Z h a O n d old) (E : Exa Z h a C)
    (L : (Cond.lays C O n d).before a0 Z = true ∨ ((Cond.laysFinal C O n d).before a0 Z = true ∧ own = O ∧ meth.name = "<init>")) (wi : (Cond.instantiable C kk).before a0 Z = true) (hty : parseFieldDescriptor d = some ty) (hn : narrow ty v = v) (hf : fits ty v = true) (hd : decode c.code pc = .ok (.putfield index, 3)) (hp : pc + 3 = q)
    (g : ∀ T' h', Stand p l e R s m args below meth c T' (locs ++ [⟨a, slotOf Z O n d⟩]) cells slots → T'.heap = h' → Wr h h' a (slotOf Z O n d) v → Fld Z h' a O n d v → Go p e below K (T'.setTop (mkF m q Ls S))) : Go p e below K (T.setTop (mkF m pc Ls (v :: .ref a :: S))) := by
  subst hp
  obtain ⟨T', h', X', e', W, st⟩ := Jvm.RoadKit.putF X hx hZ hown w via eT F E L wi hty hn hf (g := mkF m pc Ls (v :: .ref a :: S)) rfl rfl hd
  exact Go.I st (g T' h' X' e' W (F.same W))
theorem Go.jd {nn : Nat} (X : Stand p l e R s m args below meth c T locs cells slots) (hx : p.tables.exec = Jvm.exec) (hZ : Z.Warmed39 s.vm) (hown : s.vm.findClass own = some m.cls) (w : (Cond.classLink own index C).before a0 Z = true) (wi : (Cond.instantiable C nn).before a0 Z = true) (wz : (Cond.initialized C).before a0 Z = true) (eT : T.heap = h) (hd : decode c.code pc = .ok (.new index, 3)) (hc : cells + 1 ≤ R.cells) (hl : slots + nn ≤ R.slots) (hp : pc + 3 = q)
    (g : ∀ (b : Addr) T' h', Stand p l e R s m args below meth c T' locs (cells + 1) (slots + nn) → T'.heap = h' → h.size = b → Ext h h' → Exa Z h' b C → (∀ {O nm d : String} {ty : FieldType}, Laid Z a0 C O nm d → parseFieldDescriptor d = some ty → Fld Z h' b O nm d (defaultValue ty)) → Unt h' b → Go p e below K (T'.setTop (mkF m q Ls (.ref b :: S)))) : Go p e below K (T.setTop (mkF m pc Ls S)) := by
  subst hp
  obtain ⟨T', h', X', e', E, A, D, U, st⟩ := Jvm.RoadKit.newO X hx hZ hown w wi wz eT (g := mkF m pc Ls S) rfl hd hc hl
  exact Go.I st (g _ T' h' X' e' rfl E A D U)
theorem Go.ji {aty : ArrayType} {z : Int32} {ad : String} {cap : Nat} (X : Stand p l e R s m args below meth c T locs cells slots) (hx : p.tables.exec = Jvm.exec) (hZ : Z.Warmed39 s.vm) (hd : decode c.code pc = .ok (.newarray aty, 2)) (w : (Cond.arrayClass (newarray.typeOf aty)).before a0 Z = true) (eT : T.heap = h) (hn : ¬ z < 0) (hcap : z.toNatClampNeg ≤ cap) (hb : cap * 8 ≤ 536870912) (hc : cells + 1 ≤ R.cells) (hl : slots + cap ≤ R.slots) (had : "[" ++ (newarray.typeOf aty).toString = ad) (hp : pc + 2 = q)
    (g : ∀ (b : Addr) T' h' cA, Stand p l e R s m args below meth c T' locs (cells + 1) (slots + cap) → T'.heap = h' → h.size = b → Ext h h' → Arv Z h' b cA (newarray.typeOf aty) z [] (defaultValue (newarray.typeOf aty)) → Exa Z h' b ad → Go p e below K (T'.setTop (mkF m q Ls (.ref b :: S)))) : Go p e below K (T.setTop (mkF m pc Ls (.int z :: S))) := by
  subst hp
  obtain ⟨T', h', cA, X', e', E, A, B, st⟩ := Jvm.RoadKit.newPE X hx hZ w eT (g := mkF m pc Ls (.int z :: S)) rfl hd rfl hn hcap hb hc hl had
  exact Go.I st (g _ T' h' cA X' e' rfl E (Arv.new A hn) B)
theorem Go.jq (X : Stand p l e R s m args below meth c T locs cells slots) (hx : p.tables.exec = Jvm.exec) (hZ : Z.Warmed39 s.vm) (hown : s.vm.findClass own = some m.cls) (w1 : (Cond.methodLink own index Lib.objectInit).before a0 Z = true) (w2 : (Cond.instanceMethod Lib.objectInit).before a0 Z = true) (w3 : (Cond.code Lib.objectInit ⟨#[0xb1]⟩ 1 none).before a0 Z = true) (eT : T.heap = h) (hsz : Ls.size = c.maxLocals) (hd : decode c.code pc = .ok (.invokespecial index, 3)) (hf : 1 ≤ R.frames) {W : Nat} (hW : 2 * 0 + (S.map fun v => v.category).sum ≤ W) (hl : W + 12 ≤ R.locals) (hp : pc + 3 = q)
    (g : ∀ T', Stand p l e R s m args below meth c T' locs cells slots → T'.heap = h → Go p e below K (T'.setTop (mkF m q Ls S))) : Go p e below K (T.setTop (mkF m pc Ls (.ref a :: S))) := by
  subst hp
  obtain ⟨T', X', e', st⟩ := Jvm.RoadKit.initO X hx hZ hown w1 w2 w3 eT (g := mkF m pc Ls (.ref a :: S)) rfl hsz rfl hd hf hW hl
  exact Go.I st (g T' X' e')
theorem Go.jr {D : String} (X : Stand p l e R s m args below meth c T locs cells slots) (hx : p.tables.exec = Jvm.exec) (hZ : Z.Warmed39 s.vm) (hown : s.vm.findClass own = some m.cls) (w : (Cond.classLink own index D).before a0 Z = true) (eT : T.heap = h) (F : Ins Z h a D true) (hd : decode c.code pc = .ok (.checkcast index, 3)) (hp : pc + 3 = q)
    (g : ∀ T', Stand p l e R s m args below meth c T' locs cells slots → T'.heap = h → Go p e below K (T'.setTop (mkF m q Ls (.ref a :: S)))) : Go p e below K (T.setTop (mkF m pc Ls (.ref a :: S))) := by
  subst hp
  obtain ⟨T', X', e', st⟩ := Jvm.RoadKit.castY X hx hZ hown w eT F (g := mkF m pc Ls (.ref a :: S)) rfl rfl hd
  exact Go.I st (g T' X' e')
theorem Go.js {D : String} (X : Stand p l e R s m args below meth c T locs cells slots) (hx : p.tables.exec = Jvm.exec) (hZ : Z.Warmed39 s.vm) (hown : s.vm.findClass own = some m.cls) (w : (Cond.classLink own index D).before a0 Z = true) (eT : T.heap = h) (F : Ins Z h a D true) (hd : decode c.code pc = .ok (.instanceof index, 3)) (hp : pc + 3 = q)
    (g : ∀ T', Stand p l e R s m args below meth c T' locs cells slots → T'.heap = h → Go p e below K (T'.setTop (mkF m q Ls (.int 1 :: S)))) : Go p e below K (T.setTop (mkF m pc Ls (.ref a :: S))) := by
  subst hp
  obtain ⟨T', X', e', st⟩ := Jvm.RoadKit.instY X hx hZ hown w eT F (g := mkF m pc Ls (.ref a :: S)) rfl rfl hd
  exact Go.I st (g T' X' e')
theorem Go.jK {z : Int32} (X : Stand p l e R s m args below meth c T locs cells slots) (hx : p.tables.exec = Jvm.exec) (hZ : Z.Warmed39 s.vm) (hown : s.vm.findClass own = some m.cls) (w : (Cond.constant own index z).before a0 Z = true) (hd : decode c.code pc = .ok (.ldc index, 2)) (hp : pc + 2 = q) (g : Go p e below K (T.setTop (mkF m q Ls (.int z :: S)))) : Go p e below K (T.setTop (mkF m pc Ls S)) := by
  subst hp
  exact Go.I (X.ldcInt hx hown (mvT hZ w) (g := mkF m pc Ls S) rfl hd) g

end OwnSteps
end Jvm.RoadKit
namespace Jvm.RoadKit
open Sem ClassFile Op Lib Jvm.Stand Jvm.Free Jvm.LawKit
section OwnRefs
variable {p : Program} {l : Launch} {e : Env} {R : Room} {s : State} {m : MethodId} {args : Array Value} {below : List Frame} {meth : Method} {c : Code} {T T' : State} {locs : List Loc} {cells slots : Nat} {Z : State} {a0 : Array Value} {h h' h0 : Heap} {K : State → Outcome → Prop} {pc q : Nat} {Ls : Array Slot} {rest S : List Value} {k n : Nat} {a b : Addr} {cA : ClassId} {ty : FieldType} {z j : Int32} {vs : List Value} {dv : Value}
theorem own_selp {C : String} {x' y y' : MethodName} (hs : (Cond.selects C x' y').before a0 Z = true) (hc : y'.cls = y.cls) (w6 : (Cond.instanceMethod y).before a0 Z = true) (w7 : (Cond.privateMethod y).before a0 Z = true) (hy : y.cls ≠ "java/lang/invoke/MethodHandle" ∧ y.cls ≠ "java/lang/invoke/VarHandle") : (Cond.selects y.cls y y).before a0 Z = true := by
  obtain ⟨c2, r2, m2, q1, -, q3, -, kP, hkP, hkPi⟩ := Cond.selects_spec hs
  have q4 := findClass_of_methodNamed q3
  rw [hc] at q4
  exact selects_self_of_private q4 hkP hkPi (Cond.privateMethod_at w7) w6 hy
theorem own_nf {C : String} {x' z' y : MethodName} (hs : (Cond.selects C x' z').before args s = true) (hc : z'.cls = y.cls) : NotFace s y := fun r0 h0 => by
  obtain ⟨c2, r2, m2, -, -, q3, -, kP, hkP, hkPi⟩ := Cond.selects_spec hs
  have q4 := findClass_of_methodNamed q3
  have q5 := findClass_of_methodNamed h0
  rw [hc, q5] at q4
  exact ⟨kP, by rw [Option.some.inj q4]; exact hkP, hkPi⟩
theorem own_sameM {C : String} {x' z' y : MethodName} (hs : (Cond.selects C x' z').before a0 Z = true) (hc : z'.cls = y.cls) (wi : (Cond.instanceMethod y).before a0 Z = true) (hy : y.cls ≠ "java/lang/invoke/MethodHandle" ∧ y.cls ≠ "java/lang/invoke/VarHandle") : (Cond.sameMethod y.cls y.cls y.name y.desc).before a0 Z = true := by
  obtain ⟨mk, methM, hnamed, -⟩ := Cond.instanceMethod_spec wi
  obtain ⟨kr, hkr, hni⟩ := own_nf hs hc mk hnamed
  have hf := State.methodFound?_of_named hnamed hy
  have hcn := findClass_of_methodNamed hnamed
  have hn' : Z.methodNamed? ⟨y.cls, y.name, y.desc⟩ = some mk := hnamed
  simp [Cond.before, Cond.holds, Cond.value, hcn, hf, hn', hkr, hni]
theorem Sto.ofArv {y : Addr} {C : String} (V : Arv Z h a cA ty z vs dv) (O : Ovr Z cA C) (I : Ins Z h y C true) : Sto Z h a (.ref y) := by
  obtain ⟨cl, A, q1, -⟩ := V
  exact Sto.ofV A q1 O I
end OwnRefs
end Jvm.RoadKit
namespace Jvm.RoadKit
open Sem ClassFile Op Lib Jvm.Stand Jvm.Free Jvm.LawKit
section OwnHeld
variable {p : Program} {l : Launch} {e : Env} {R : Room} {s : State} {m : MethodId} {args : Array Value} {below : List Frame} {meth : Method} {c : Code} {T T' : State} {locs : List Loc} {cells slots : Nat} {Z : State} {a0 : Array Value} {h h' h0 : Heap} {K : State → Outcome → Prop} {pc q : Nat} {Ls : Array Slot} {rest S : List Value} {Q : Option Value → Heap → List Loc → Prop} {k n k0 : Nat} {a b x : Addr} {vm vm0 : Vm} {EL : List (String × Nat)}
/-- as KKW, with what the String constants hold -/
def KKH (Z : State) (EL : List (String × Nat)) (s : State) (Q : Option Value → Heap → List Loc → Prop) (k n : Nat) : State → Outcome → Prop := fun U o => ∃ v L, o = .returned v ∧ Q v U.heap L ∧ CHr Z EL s.vm s.heap U.vm U.heap ∧ ReturnedEndW s o U L k n
abbrev CtrH (l : Launch) (Z : State) (EL : List (String × Nat)) (h0 : Heap) (y : MethodName) (bytes : ByteArray) (maxL : Nat) (ret : Option FieldType) (ws : List Cond) (rm : Room) (as' : Array Value) (Q : Option Value → Heap → List Loc → Prop) : Prop :=
  MetFree l y (head1 (Cond.code y bytes maxL ret :: ws) rm) (fun a U => a = as' ∧ Z.Warmed39 U.vm ∧ U.heap = h0 ∧ CHv Z EL U.vm h0) (fun _ _ _ _ _ => True) (fun _ U o U' => ∃ v L, o = .returned v ∧ Q v U'.heap L ∧ CHr Z EL U.vm U.heap U'.vm U'.heap ∧ ReturnedEndW U o U' L rm.cells rm.slots)
theorem enterH {y : MethodName} {bytes : ByteArray} {maxL : Nat} {ret : Option FieldType} {ws : List Cond} {rm : Room} {as' : Array Value} (hp : plainFor y = true)
    (H : ∀ (p : Program) (e : Env) (s : State) (m : MethodId) (below : List Frame) (meth : Method) (c : Code) (s₁ : State), p.tables.exec = Jvm.exec → c.code = bytes → c.maxLocals = maxL → Z.Warmed39 (s.setVm s.vm).vm → (s.setVm s.vm).vm.findClass y.cls = some m.cls → meth.name = y.name → meth.sig.returnType = ret → meth.locks = false →
      Stand p l e rm (s.setVm s.vm) m as' below meth c s₁ [] 0 0 → s₁.heap = h0 → s.heap = h0 → s.Since s.vm 0 → CHr Z EL s.vm h0 s.vm h0 → Go p e below (KKH Z EL s Q rm.cells rm.slots) (s₁.setTop (entryFrame m as' maxL))) : CtrH l Z EL h0 y bytes maxL ret ws rm as' Q := by
  refine MetFree.of_bodySF hp hisR ?_
  intro p e s m args below meth c s₁ Bd hml0 hP hK
  obtain ⟨rfl, hZ, hh, hC⟩ := hP
  exact H p e s m below meth c s₁ Bd.exec Bd.bytes hml0 hZ (findClass_of_methodNamed Bd.named) (name_of_methodNamed Bd.named Bd.method).1 Bd.returns Bd.notSynchronized (Stand.of_body Bd) (by rw [← hh, Bd.state]; rfl) hh ((State.WarmedH.refl s).since 0) (CHr.refl hC)
theorem Go.jH {w : Value} {t : FieldType} {i : Instr} (X : Stand p l e R (s.setVm vm0) m args below meth c T locs cells slots) (hx : p.tables.exec = Jvm.exec) (hS : s.Since vm0 k0) (hk0 : k0 ≤ h.size) (hs0 : s.heap = h0) (hZ : Z.Warmed39 (s.setVm vm0).vm) (hE : EW Z a0 EL) (hC : CHr Z EL s.vm h0 vm0 h) (hret : meth.sig.returnType = some t) (hlk : meth.locks = false) (hn : narrow t w = w)
    (hi : (i = .ireturn ∧ (t = .int ∨ t = .boolean ∨ t = .byte ∨ t = .char ∨ t = .short) ∧ ∃ z, w = .int z) ∨ (i = .lreturn ∧ t = .long ∧ ∃ z, w = .long z) ∨ (i = .dreturn ∧ t = .double ∧ ∃ z, w = .double z) ∨ (i = .freturn ∧ t = .float ∧ ∃ z, w = .float z) ∨ (i = .areturn ∧ t.isReference = true ∧ w.isRef = true))
    (hd : decode c.code pc = .ok (i, 1)) (eT : T.heap = h) (hk : cells ≤ k) (hs : slots ≤ n) (hQ : Q (some w) h locs) : Go p e below (KKH Z EL s Q k n) (T.setTop (mkF m pc Ls (w :: rest))) := by
  subst eT; subst hs0
  obtain ⟨fs, hr, hrun, hended, hq⟩ := X.leaveW hS hk0 (v := some w) (fun h => by rw [hret] at h; cases h) hlk
  exact ⟨_, _, retOut X hx hret hn hi hd hr, hrun, hended, _, _, rfl, hQ, (show CHr Z EL s.vm s.heap T.vm T.heap from hC.trans (CHv.at X hZ hE hC.1)), hq.1, hq.2.1, hq.2.2.1, hq.2.2.2.mono hk hs⟩
theorem Go.jz {z : Int32} {t : FieldType} (X : Stand p l e R (s.setVm vm0) m args below meth c T locs cells slots) (hx : p.tables.exec = Jvm.exec) (hS : s.Since vm0 k0) (hk0 : k0 ≤ h.size) (hs0 : s.heap = h0) (hZ : Z.Warmed39 (s.setVm vm0).vm) (hE : EW Z a0 EL) (hC : CHr Z EL s.vm h0 vm0 h) (hret : meth.sig.returnType = some t) (hlk : meth.locks = false) (ht : t = .int ∨ t = .boolean ∨ t = .byte ∨ t = .char ∨ t = .short) (hn : narrow t (.int z) = .int z)
    (hd : decode c.code pc = .ok (.ireturn, 1)) (eT : T.heap = h) (hk : cells ≤ k) (hs : slots ≤ n) (hQ : Q (some (.int z)) h locs) : Go p e below (KKH Z EL s Q k n) (T.setTop (mkF m pc Ls (.int z :: rest))) :=
  Go.jH X hx hS hk0 hs0 hZ hE hC hret hlk hn (Or.inl ⟨rfl, ht, z, rfl⟩) hd eT hk hs hQ
theorem Go.jm {w : Value} {t : FieldType} (X : Stand p l e R (s.setVm vm0) m args below meth c T locs cells slots) (hx : p.tables.exec = Jvm.exec) (hS : s.Since vm0 k0) (hk0 : k0 ≤ h.size) (hs0 : s.heap = h0) (hZ : Z.Warmed39 (s.setVm vm0).vm) (hE : EW Z a0 EL) (hC : CHr Z EL s.vm h0 vm0 h) (hret : meth.sig.returnType = some t) (hlk : meth.locks = false) (ht : t.isReference = true) (hw : w.isRef = true)
    (hd : decode c.code pc = .ok (.areturn, 1)) (eT : T.heap = h) (hk : cells ≤ k) (hs : slots ≤ n) (hQ : Q (some w) h locs) : Go p e below (KKH Z EL s Q k n) (T.setTop (mkF m pc Ls (w :: rest))) :=
  Go.jH X hx hS hk0 hs0 hZ hE hC hret hlk (nar_ref hw) (Or.inr (Or.inr (Or.inr (Or.inr ⟨rfl, ht, hw⟩)))) hd eT hk hs hQ
theorem Go.jG (X : Stand p l e R (s.setVm vm0) m args below meth c T locs cells slots) (hx : p.tables.exec = Jvm.exec) (hS : s.Since vm0 k0) (hk0 : k0 ≤ h.size) (hs0 : s.heap = h0) (hZ : Z.Warmed39 (s.setVm vm0).vm) (hE : EW Z a0 EL) (hC : CHr Z EL s.vm h0 vm0 h) (hret : meth.sig.returnType = none) (hlk : meth.locks = false)
    (hd : decode c.code pc = .ok (.return_, 1)) (eT : T.heap = h) (hk : cells ≤ k) (hs : slots ≤ n) (hQ : Q none h locs) : Go p e below (KKH Z EL s Q k n) (T.setTop (mkF m pc Ls [])) := by
  subst eT; subst hs0
  obtain ⟨fs, hr, hrun, hended, hq⟩ := X.leaveW hS hk0 (v := none) (fun _ => rfl) hlk
  exact ⟨_, _, X.returnOut hx hret hd hr, hrun, hended, _, _, rfl, hQ, (show CHr Z EL s.vm s.heap T.vm T.heap from hC.trans (CHv.at X hZ hE hC.1)), hq.1, hq.2.1, hq.2.2.1, hq.2.2.2.mono hk hs⟩
/-- ldc of a String whose text the walk reads -/
theorem Go.jv {own text : String} {index nn : Nat} {vs : List Value} {z : Int32} (X : Stand p l e R (s.setVm vm0) m args below meth c T locs cells slots) (hx : p.tables.exec = Jvm.exec) (hZ : Z.Warmed39 (s.setVm vm0).vm) (hown : (s.setVm vm0).vm.findClass own = some m.cls) (w : (Cond.stringLink own index text).before a0 Z = true) (wS : ∀ a ∈ Bundle.stringAtoms, a.before a0 Z = true)
    (eT : T.heap = h) (hS : s.Since vm0 k0) (hk0 : k0 ≤ h.size) (hE : EW Z a0 EL) (hmem : (own, index) ∈ EL) (hC : CHr Z EL vm h0 vm0 h) (ht : (∀ c ∈ text.toList, c.toNat < 256) ∧ text.toList.map (fun c => Value.int (Jvm.Lit.byteI c.toNat.toUInt16)) = vs) (hz : ¬ z < 0) (hl0 : z.toNatClampNeg = vs.length)
    (hd : decode c.code pc = .ok (.ldc index, 2)) (hn : 4 * text.toList.length ≤ nn) (hbig : nn ≤ 536870912) (hc : cells + 2 ≤ R.cells) (hl : slots + (nn + 4) ≤ R.slots) (hp : pc + 2 = q)
    (g : ∀ (b v : Addr) (kc : ClassId) (T' : State) (h' : Heap) (k1 : Nat), Stand p l e R (s.setVm T'.vm) m args below meth c T' locs (cells + 2) (slots + (nn + 4)) → T'.heap = h' → Ext h h' → s.Since T'.vm k1 → k1 ≤ h'.size → Z.Warmed39 (s.setVm T'.vm).vm → (s.setVm T'.vm).vm.findClass own = some m.cls →
      Exa Z h' b "java/lang/String" → Fld Z h' b "java/lang/String" "coder" "B" (.int 0) → Fld Z h' b "java/lang/String" "value" "[B" (.ref v) → Arv Z h' v kc .byte z vs (.int 0) → CHr Z EL vm0 h T'.vm h' → Go p e below K (T'.setTop (mkF m q Ls (.ref b :: S)))) : Go p e below K (T.setTop (mkF m pc Ls S)) := by
  subst hp
  obtain ⟨b, T', h', k1, v, kc, X', e', E, hS', hk1, hZ', ho', Eb, Fc, Fv, Va, -, -, hR, -, -, st⟩ := Jvm.RoadKit.ldcCH X hx hZ hown w wS eT hS hk0 hE hmem hC.1 ht hz hl0 (g := mkF m pc Ls S) rfl hd hn hbig hc hl
  exact Go.I st (g b v kc T' h' k1 X' e' E hS' hk1 hZ' ho' Eb Fc Fv Va hR)
/-- ldc of a String: which object it is isn't said -/
theorem Go.jt {own text : String} {index nn : Nat} (X : Stand p l e R (s.setVm vm0) m args below meth c T locs cells slots) (hx : p.tables.exec = Jvm.exec) (hZ : Z.Warmed39 (s.setVm vm0).vm) (hown : (s.setVm vm0).vm.findClass own = some m.cls) (w : (Cond.stringLink own index text).before a0 Z = true) (wS : ∀ a ∈ Bundle.stringAtoms, a.before a0 Z = true)
    (eT : T.heap = h) (hS : s.Since vm0 k0) (hk0 : k0 ≤ h.size) (hE : EW Z a0 EL) (hC : CHr Z EL vm h0 vm0 h) (hd : decode c.code pc = .ok (.ldc index, 2)) (hn : 4 * text.toList.length ≤ nn) (hbig : nn ≤ 536870912) (hc : cells + 2 ≤ R.cells) (hl : slots + (nn + 4) ≤ R.slots) (hp : pc + 2 = q)
    (g : ∀ (b : Addr) (T' : State) (h' : Heap) (k1 : Nat), Stand p l e R (s.setVm T'.vm) m args below meth c T' locs (cells + 2) (slots + (nn + 4)) → T'.heap = h' → Ext h h' → s.Since T'.vm k1 → k1 ≤ h'.size → Z.Warmed39 (s.setVm T'.vm).vm → (s.setVm T'.vm).vm.findClass own = some m.cls → CHr Z EL vm0 h T'.vm h' → Go p e below K (T'.setTop (mkF m q Ls (.ref b :: S)))) : Go p e below K (T.setTop (mkF m pc Ls S)) := by
  subst hp
  obtain ⟨b, T', h', k1, X', e', E, hS', hk1, hZ', ho', hR, -, st⟩ := Jvm.RoadKit.ldcOH X hx hZ hown w wS eT hS hk0 hE hC.1 (g := mkF m pc Ls S) rfl hd hn hbig hc hl
  exact Go.I st (g b T' h' k1 X' e' E hS' hk1 hZ' ho' hR)
theorem Go.jk {own : String} {index : Nat} {y : MethodName} {bytes : ByteArray} {maxL : Nat} {ret : Option FieldType} {rm : Room} {as' : Array Value} {argsL : List Value} (X : Stand p l e R (s.setVm vm0) m args below meth c T locs cells slots) (hx : p.tables.exec = Jvm.exec) (hZ : Z.Warmed39 (s.setVm vm0).vm) (hown : (s.setVm vm0).vm.findClass own = some m.cls) (hS : s.Since vm0 k0) (hk0 : k0 ≤ h.size) (hE : EW Z a0 EL) (hC : CHr Z EL vm h0 vm0 h)
    (w1 : (Cond.methodLink own index y).before a0 Z = true) (w2 : (Cond.static y).before a0 Z = true) (w3 : (Cond.initialized y.cls).before a0 Z = true) (w4 : (Cond.code y bytes maxL ret).before a0 Z = true)
    (hy : y.cls ≠ "java/lang/invoke/MethodHandle" ∧ y.cls ≠ "java/lang/invoke/VarHandle") {Q : Option Value → Heap → List Loc → Prop} (hM : CtrH l Z EL h y bytes maxL ret [] rm as' Q) (eT : T.heap = h) (hsz : Ls.size = c.maxLocals)
    (hd : decode c.code pc = .ok (.invokestatic index, 3)) (hlen : ∀ sig, parseMethodDescriptor y.desc = some sig → argsL.length = sig.parameters.length) (hst : S = argsL.reverse ++ rest) (has : argsL.toArray = as')
    {W : Nat} (hW : 2 * 0 + (rest.map fun v => v.category).sum ≤ W) (hB : rm.frames + 1 ≤ R.frames ∧ W + (maxL + 11) + rm.locals ≤ R.locals ∧ cells + rm.cells ≤ R.cells ∧ slots + rm.slots ≤ R.slots)
    (g : ∀ (v : Option Value) (T' : State) (L : List Loc) (k1 : Nat), Stand p l e R (s.setVm T'.vm) m args below meth c T' (locs ++ L) (cells + rm.cells) (slots + rm.slots) → s.Since T'.vm k1 → k1 ≤ T'.heap.size → Z.Warmed39 (s.setVm T'.vm).vm → (s.setVm T'.vm).vm.findClass own = some m.cls → CHr Z EL vm0 h T'.vm T'.heap → Q v T'.heap L → Go p e below K (T'.setTop (mkF m (pc + 3) Ls (v.toList ++ rest)))) : Go p e below K (T.setTop (mkF m pc Ls S)) := by
  obtain ⟨hf, hl, hc, hs⟩ := hB
  subst eT
  obtain ⟨v, _, ⟨T', L', k', n'⟩, -, X', hS', hgr, ⟨Lc, hQ, l', y', z', hR⟩, st⟩ := callSS X hx (y := y) hown (mvT hZ w1) (mvT hZ w2) (mvT hZ w3) (mvT hZ w4) hy (backOfSH (W := W) hM hZ w4 w3 hf hl hE hC.1) (g := mkF m pc Ls S) rfl hsz (argsL := argsL) (rest := rest) hlen hst hW hd (fun _ _ => ⟨has, rfl, hc, hs⟩)
  dsimp only [Pt.U, Pt.locs, Pt.cells, Pt.slots] at X' l' y' z' st hQ hS' hgr hR
  subst l' y' z'
  exact Go.jw st (g v T' Lc _ X' (foldS hS hk0 hS' hgr) (Nat.le_refl _) (State.Warmed39.trans (t := s.setVm vm0) hZ hS'.1) (by rw [show (s.setVm T'.vm).vm = T'.vm from rfl, hS'.1.alike.findClass]; exact hown) hR hQ)
theorem Go.jJ {own : String} {index : Nat} {y : MethodName} {bytes : ByteArray} {maxL : Nat} {rm : Room} {as' : Array Value} {argsL : List Value} (X : Stand p l e R (s.setVm vm0) m args below meth c T locs cells slots) (hx : p.tables.exec = Jvm.exec) (hZ : Z.Warmed39 (s.setVm vm0).vm) (hown : (s.setVm vm0).vm.findClass own = some m.cls) (hS : s.Since vm0 k0) (hk0 : k0 ≤ h.size) (hE : EW Z a0 EL) (hC : CHr Z EL vm h0 vm0 h) (hy1 : y.name = "<init>")
    (w1 : (Cond.methodLink own index y).before a0 Z = true) (w2 : (Cond.instanceMethod y).before a0 Z = true) (w3 : (Cond.initialized y.cls).before a0 Z = true) (w4 : (Cond.code y bytes maxL none).before a0 Z = true)
    (hy : y.cls ≠ "java/lang/invoke/MethodHandle" ∧ y.cls ≠ "java/lang/invoke/VarHandle") {Q : Option Value → Heap → List Loc → Prop} (hM : CtrH l Z EL h y bytes maxL none [] rm as' Q) (eT : T.heap = h) (hsz : Ls.size = c.maxLocals)
    (hd : decode c.code pc = .ok (.invokespecial index, 3)) (hlen : ∀ sig, parseMethodDescriptor y.desc = some sig → argsL.length = sig.parameters.length) (hst : S = argsL.reverse ++ .ref a :: rest) (has : (Value.ref a :: argsL).toArray = as')
    {W : Nat} (hW : 2 * 0 + (rest.map fun v => v.category).sum ≤ W) (hB : rm.frames + 1 ≤ R.frames ∧ W + (maxL + 11) + rm.locals ≤ R.locals ∧ cells + rm.cells ≤ R.cells ∧ slots + rm.slots ≤ R.slots)
    (g : ∀ (v : Option Value) (T' : State) (L : List Loc) (k1 : Nat), Stand p l e R (s.setVm T'.vm) m args below meth c T' (locs ++ L) (cells + rm.cells) (slots + rm.slots) → s.Since T'.vm k1 → k1 ≤ T'.heap.size → Z.Warmed39 (s.setVm T'.vm).vm → (s.setVm T'.vm).vm.findClass own = some m.cls → CHr Z EL vm0 h T'.vm T'.heap → Q v T'.heap L → Go p e below K (T'.setTop (mkF m (pc + 3) Ls (v.toList ++ rest)))) : Go p e below K (T.setTop (mkF m pc Ls S)) := by
  obtain ⟨hf, hl, hc, hs⟩ := hB
  subst eT
  obtain ⟨v, _, ⟨T', L', k', n'⟩, -, X', hS', hgr, ⟨Lc, hQ, l', y', z', hR⟩, st⟩ := X.specialBackS hx (y := y) hy1 hown (mvT hZ w1) (mvT hZ w2) (mvT hZ w4) hy (backOfSH (W := W) hM hZ w4 w3 hf hl hE hC.1) (g := mkF m pc Ls S) rfl hsz (Steps.refl _) (a := a) (argsL := argsL) (rest := rest) hlen hst hW hd (fun _ _ => ⟨has, rfl, hc, hs⟩)
  dsimp only [Pt.U, Pt.locs, Pt.cells, Pt.slots] at X' l' y' z' st hQ hS' hgr hR
  subst l' y' z'
  exact Go.jw st (g v T' Lc _ X' (foldS hS hk0 hS' hgr) (Nat.le_refl _) (State.Warmed39.trans (t := s.setVm vm0) hZ hS'.1) (by rw [show (s.setVm T'.vm).vm = T'.vm from rfl, hS'.1.alike.findClass]; exact hown) hR hQ)
theorem Go.ju {own C : String} {index : Nat} {y z : MethodName} {bytes : ByteArray} {maxL : Nat} {ret : Option FieldType} {rm : Room} {as' : Array Value} {argsL : List Value} (X : Stand p l e R (s.setVm vm0) m args below meth c T locs cells slots) (hx : p.tables.exec = Jvm.exec) (hZ : Z.Warmed39 (s.setVm vm0).vm) (hown : (s.setVm vm0).vm.findClass own = some m.cls) (hS : s.Since vm0 k0) (hk0 : k0 ≤ h.size) (hE : EW Z a0 EL) (hC : CHr Z EL vm h0 vm0 h)
    (w1 : (Cond.methodLink own index y).before a0 Z = true) (w2 : (Cond.declares y).before a0 Z = true) (hnf : NotFace (s.setVm vm0) y) (w5 : (Cond.selects C y z).before a0 Z = true) (w6 : (Cond.instanceMethod z).before a0 Z = true) (w3 : (Cond.initialized z.cls).before a0 Z = true) (w4 : (Cond.code z bytes maxL ret).before a0 Z = true)
    (hy : y.cls ≠ "java/lang/invoke/MethodHandle" ∧ y.cls ≠ "java/lang/invoke/VarHandle") {Q : Option Value → Heap → List Loc → Prop} (hM : CtrH l Z EL h z bytes maxL ret [] rm as' Q) (eT : T.heap = h) (E : Exa Z h a C) (hsz : Ls.size = c.maxLocals)
    (hd : decode c.code pc = .ok (.invokevirtual index, 3)) (hlen : ∀ sig, parseMethodDescriptor y.desc = some sig → argsL.length = sig.parameters.length) (hst : S = argsL.reverse ++ .ref a :: rest) (has : (Value.ref a :: argsL).toArray = as')
    {W : Nat} (hW : 2 * 0 + (rest.map fun v => v.category).sum ≤ W) (hB : rm.frames + 1 ≤ R.frames ∧ W + (maxL + 11) + rm.locals ≤ R.locals ∧ cells + rm.cells ≤ R.cells ∧ slots + rm.slots ≤ R.slots)
    (g : ∀ (v : Option Value) (T' : State) (L : List Loc) (k1 : Nat), Stand p l e R (s.setVm T'.vm) m args below meth c T' (locs ++ L) (cells + rm.cells) (slots + rm.slots) → s.Since T'.vm k1 → k1 ≤ T'.heap.size → Z.Warmed39 (s.setVm T'.vm).vm → (s.setVm T'.vm).vm.findClass own = some m.cls → CHr Z EL vm0 h T'.vm T'.heap → Q v T'.heap L → Go p e below K (T'.setTop (mkF m (pc + 3) Ls (v.toList ++ rest)))) : Go p e below K (T.setTop (mkF m pc Ls S)) := by
  obtain ⟨hf, hl, hc, hs⟩ := hB
  obtain ⟨cq, kq, q1, q2, q3⟩ := isOf hZ eT E
  subst eT
  obtain ⟨v, _, ⟨T', L', k', n'⟩, -, X', hS', hgr, ⟨Lc, hQ, l', y', z', hR⟩, st⟩ := X.virtualBackS hx (y := y) (z := z) hown (mvT hZ w1) (mvT hZ w2) hnf (mvT hZ w5) (mvT hZ w6) hy (backOfSH (W := W) hM hZ w4 w3 hf hl hE hC.1) q1 q3 (g := mkF m pc Ls S) rfl hsz (Steps.refl _) (argsL := argsL) (rest := rest) hlen hst hW hd (fun _ _ => ⟨has, rfl, hc, hs⟩)
  dsimp only [Pt.U, Pt.locs, Pt.cells, Pt.slots] at X' l' y' z' st hQ hS' hgr hR
  subst l' y' z'
  exact Go.jw st (g v T' Lc _ X' (foldS hS hk0 hS' hgr) (Nat.le_refl _) (State.Warmed39.trans (t := s.setVm vm0) hZ hS'.1) (by rw [show (s.setVm T'.vm).vm = T'.vm from rfl, hS'.1.alike.findClass]; exact hown) hR hQ)
/-- a String whose value is null is no booked one -/
theorem own_safeNull (hal : Z.vm.Alike vm) (E : Exa Z h x "java/lang/String") (F : Fld Z h x "java/lang/String" "value" "[B" .null) : Safe Z EL vm h x := fun B => by
  obtain ⟨p, -, u, a, -, q, -, G, rfl | rfl⟩ := B
  · obtain ⟨cell, cf, kf, i, f, g1, g2, g3, g4, g5, g6, g7⟩ := F
    cases (show h[q.sa]? = some q.sC from G.ha).symm.trans g1
    obtain ⟨cS, ⟨⟨-, -, -, ⟨c1, k1, i1, f1, -⟩, -, -, -, v1, -⟩, -⟩, -⟩ := G
    obtain ⟨k3, e3, -⟩ := State.fieldFound?_setVm (s := Z) hal g2
    have e4 := (show (Wst Z vm h).fieldFound? _ _ _ = _ from e3).symm.trans f1
    simp only [Option.some.injEq, Prod.mk.injEq] at e4
    rw [← e4.2.2.2, g7] at v1
    cases v1
  · obtain ⟨cell, kE, e1, e2, e3, -, -⟩ := E
    cases (show h[q.sd]? = some q.SA from G.hd).symm.trans e1
    obtain ⟨cS, -, -, f, -⟩ := G
    have f : vm.findClass "[B" = some q.SA.cls := f
    rw [hal.findClass] at f
    obtain ⟨k1, q1, q2⟩ := Vm.findClass_spec f
    obtain ⟨k2, q3, q4⟩ := Vm.findClass_spec e2
    cases q1.symm.trans q3
    exact absurd (q2.symm.trans q4) (by decide)
end OwnHeld
end Jvm.RoadKit
namespace Jvm.Pilot.@@N@@
open Jvm Jvm.ClassFile Sem Op Lib Jvm.Free Jvm.Stand Jvm.LawKit Jvm.RoadKit Bundle Jvm.Pilot.@@N@@.Jvm.D
section
variable {Z : State} {a0 : Array Value} (hw : ∀ d ∈ tables_1, d.before a0 Z = true)
def wd0 := hw _ (List.mem_of_getElem? (i := 0) rfl)
def wd1 := hw _ (List.mem_of_getElem? (i := 1) rfl)
def wd2 := hw _ (List.mem_of_getElem? (i := 2) rfl)
def wd3 := hw _ (List.mem_of_getElem? (i := 3) rfl)
def wd4 := hw _ (List.mem_of_getElem? (i := 4) rfl)
def wd5 := hw _ (List.mem_of_getElem? (i := 5) rfl)
def wd6 := hw _ (List.mem_of_getElem? (i := 6) rfl)
def wd7 := hw _ (List.mem_of_getElem? (i := 7) rfl)
def wd8 := hw _ (List.mem_of_getElem? (i := 8) rfl)
def wd9 := hw _ (List.mem_of_getElem? (i := 9) rfl)
def wd10 := hw _ (List.mem_of_getElem? (i := 10) rfl)
def wd11 := hw _ (List.mem_of_getElem? (i := 11) rfl)
def wd12 := hw _ (List.mem_of_getElem? (i := 12) rfl)
def wd13 := hw _ (List.mem_of_getElem? (i := 13) rfl)
def wd14 := hw _ (List.mem_of_getElem? (i := 14) rfl)
def wd15 := hw _ (List.mem_of_getElem? (i := 15) rfl)
def wd16 := hw _ (List.mem_of_getElem? (i := 16) rfl)
def wd18 := hw _ (List.mem_of_getElem? (i := 18) rfl)
def wd19 := hw _ (List.mem_of_getElem? (i := 19) rfl)
def wd20 := hw _ (List.mem_of_getElem? (i := 20) rfl)
def wd21 := hw _ (List.mem_of_getElem? (i := 21) rfl)
def wd22 := hw _ (List.mem_of_getElem? (i := 22) rfl)
def wd23 := hw _ (List.mem_of_getElem? (i := 23) rfl)
def wd24 := hw _ (List.mem_of_getElem? (i := 24) rfl)
def wd25 := hw _ (List.mem_of_getElem? (i := 25) rfl)
def wd28 := hw _ (List.mem_of_getElem? (i := 28) rfl)
def wd29 := hw _ (List.mem_of_getElem? (i := 29) rfl)
def wd30 := hw _ (List.mem_of_getElem? (i := 30) rfl)
def wd31 := hw _ (List.mem_of_getElem? (i := 31) rfl)
def wd32 := hw _ (List.mem_of_getElem? (i := 32) rfl)
def wd33 := hw _ (List.mem_of_getElem? (i := 33) rfl)
def wd34 := hw _ (List.mem_of_getElem? (i := 34) rfl)
def wd35 := hw _ (List.mem_of_getElem? (i := 35) rfl)
def wd36 := hw _ (List.mem_of_getElem? (i := 36) rfl)
def wd37 := hw _ (List.mem_of_getElem? (i := 37) rfl)
def wd38 := hw _ (List.mem_of_getElem? (i := 38) rfl)
def wd39 := hw _ (List.mem_of_getElem? (i := 39) rfl)
def wd40 := hw _ (List.mem_of_getElem? (i := 40) rfl)
def wd41 := hw _ (List.mem_of_getElem? (i := 41) rfl)
def wd42 := hw _ (List.mem_of_getElem? (i := 42) rfl)
def wd43 := hw _ (List.mem_of_getElem? (i := 43) rfl)
def wd44 := hw _ (List.mem_of_getElem? (i := 44) rfl)
def wd45 := hw _ (List.mem_of_getElem? (i := 45) rfl)
def wd46 := hw _ (List.mem_of_getElem? (i := 46) rfl)
def wd47 := hw _ (List.mem_of_getElem? (i := 47) rfl)
def wd48 := hw _ (List.mem_of_getElem? (i := 48) rfl)
def wd49 := hw _ (List.mem_of_getElem? (i := 49) rfl)
def wd50 := hw _ (List.mem_of_getElem? (i := 50) rfl)
def wd51 := hw _ (List.mem_of_getElem? (i := 51) rfl)
def wd52 := hw _ (List.mem_of_getElem? (i := 52) rfl)
def wd53 := hw _ (List.mem_of_getElem? (i := 53) rfl)
def wd54 := hw _ (List.mem_of_getElem? (i := 54) rfl)
def wd55 := hw _ (List.mem_of_getElem? (i := 55) rfl)
def wd56 := hw _ (List.mem_of_getElem? (i := 56) rfl)
def wd57 := hw _ (List.mem_of_getElem? (i := 57) rfl)
def wd58 := hw _ (List.mem_of_getElem? (i := 58) rfl)
def wd59 := hw _ (List.mem_of_getElem? (i := 59) rfl)
def wd60 := hw _ (List.mem_of_getElem? (i := 60) rfl)
def wd61 := hw _ (List.mem_of_getElem? (i := 61) rfl)
def wd62 := hw _ (List.mem_of_getElem? (i := 62) rfl)
def wd63 := hw _ (List.mem_of_getElem? (i := 63) rfl)
def wd64 := hw _ (List.mem_of_getElem? (i := 64) rfl)
def wd65 := hw _ (List.mem_of_getElem? (i := 65) rfl)
def wd66 := hw _ (List.mem_of_getElem? (i := 66) rfl)
def wd67 := hw _ (List.mem_of_getElem? (i := 67) rfl)
def wd68 := hw _ (List.mem_of_getElem? (i := 68) rfl)
def wd69 := hw _ (List.mem_of_getElem? (i := 69) rfl)
def wd70 := hw _ (List.mem_of_getElem? (i := 70) rfl)
def wd71 := hw _ (List.mem_of_getElem? (i := 71) rfl)
def wd72 := hw _ (List.mem_of_getElem? (i := 72) rfl)
def wd73 := hw _ (List.mem_of_getElem? (i := 73) rfl)
def wd74 := hw _ (List.mem_of_getElem? (i := 74) rfl)
def wd75 := hw _ (List.mem_of_getElem? (i := 75) rfl)
def wd76 := hw _ (List.mem_of_getElem? (i := 76) rfl)
def wd77 := hw _ (List.mem_of_getElem? (i := 77) rfl)
def wd78 := hw _ (List.mem_of_getElem? (i := 78) rfl)
def wd79 := hw _ (List.mem_of_getElem? (i := 79) rfl)
def wd80 := hw _ (List.mem_of_getElem? (i := 80) rfl)
def wd81 := hw _ (List.mem_of_getElem? (i := 81) rfl)
def wd82 := hw _ (List.mem_of_getElem? (i := 82) rfl)
def wd83 := hw _ (List.mem_of_getElem? (i := 83) rfl)
def wd84 := hw _ (List.mem_of_getElem? (i := 84) rfl)
def wd85 := hw _ (List.mem_of_getElem? (i := 85) rfl)
def wd86 := hw _ (List.mem_of_getElem? (i := 86) rfl)
def wd87 := hw _ (List.mem_of_getElem? (i := 87) rfl)
def wd88 := hw _ (List.mem_of_getElem? (i := 88) rfl)
def wd89 := hw _ (List.mem_of_getElem? (i := 89) rfl)
def wd90 := hw _ (List.mem_of_getElem? (i := 90) rfl)
def wd91 := hw _ (List.mem_of_getElem? (i := 91) rfl)
def wd92 := hw _ (List.mem_of_getElem? (i := 92) rfl)
def wd93 := hw _ (List.mem_of_getElem? (i := 93) rfl)
def wd94 := hw _ (List.mem_of_getElem? (i := 94) rfl)
def wd95 := hw _ (List.mem_of_getElem? (i := 95) rfl)
def wd96 := hw _ (List.mem_of_getElem? (i := 96) rfl)
def wd97 := hw _ (List.mem_of_getElem? (i := 97) rfl)
def wd98 := hw _ (List.mem_of_getElem? (i := 98) rfl)
def wd99 := hw _ (List.mem_of_getElem? (i := 99) rfl)
def wd100 := hw _ (List.mem_of_getElem? (i := 100) rfl)
def wd101 := hw _ (List.mem_of_getElem? (i := 101) rfl)
def wd102 := hw _ (List.mem_of_getElem? (i := 102) rfl)
def wd103 := hw _ (List.mem_of_getElem? (i := 103) rfl)
def wd104 := hw _ (List.mem_of_getElem? (i := 104) rfl)
def wd105 := hw _ (List.mem_of_getElem? (i := 105) rfl)
def wd108 := hw _ (List.mem_of_getElem? (i := 108) rfl)
def wd109 := hw _ (List.mem_of_getElem? (i := 109) rfl)
def wd110 := hw _ (List.mem_of_getElem? (i := 110) rfl)
def wd111 := hw _ (List.mem_of_getElem? (i := 111) rfl)
def wd112 := hw _ (List.mem_of_getElem? (i := 112) rfl)
def wd113 := hw _ (List.mem_of_getElem? (i := 113) rfl)
def wd114 := hw _ (List.mem_of_getElem? (i := 114) rfl)
def wd115 := hw _ (List.mem_of_getElem? (i := 115) rfl)
def wd116 := hw _ (List.mem_of_getElem? (i := 116) rfl)
def wd117 := hw _ (List.mem_of_getElem? (i := 117) rfl)
def wd118 := hw _ (List.mem_of_getElem? (i := 118) rfl)
def wd119 := hw _ (List.mem_of_getElem? (i := 119) rfl)
def wd120 := hw _ (List.mem_of_getElem? (i := 120) rfl)
def wd121 := hw _ (List.mem_of_getElem? (i := 121) rfl)
def wd122 := hw _ (List.mem_of_getElem? (i := 122) rfl)
def wd123 := hw _ (List.mem_of_getElem? (i := 123) rfl)
def wd124 := hw _ (List.mem_of_getElem? (i := 124) rfl)
def wd126 := hw _ (List.mem_of_getElem? (i := 126) rfl)
def wd127 := hw _ (List.mem_of_getElem? (i := 127) rfl)
def wd128 := hw _ (List.mem_of_getElem? (i := 128) rfl)
def wd129 := hw _ (List.mem_of_getElem? (i := 129) rfl)
def wd130 := hw _ (List.mem_of_getElem? (i := 130) rfl)
def wd131 := hw _ (List.mem_of_getElem? (i := 131) rfl)
def wd132 := hw _ (List.mem_of_getElem? (i := 132) rfl)
def wd133 := hw _ (List.mem_of_getElem? (i := 133) rfl)
def wd134 := hw _ (List.mem_of_getElem? (i := 134) rfl)
def wd135 := hw _ (List.mem_of_getElem? (i := 135) rfl)
def wd136 := hw _ (List.mem_of_getElem? (i := 136) rfl)
def wd137 := hw _ (List.mem_of_getElem? (i := 137) rfl)
def wd139 := hw _ (List.mem_of_getElem? (i := 139) rfl)
def wd140 := hw _ (List.mem_of_getElem? (i := 140) rfl)
def wd141 := hw _ (List.mem_of_getElem? (i := 141) rfl)
def wd142 := hw _ (List.mem_of_getElem? (i := 142) rfl)
def wd144 := hw _ (List.mem_of_getElem? (i := 144) rfl)
def wd145 := hw _ (List.mem_of_getElem? (i := 145) rfl)
def wd146 := hw _ (List.mem_of_getElem? (i := 146) rfl)
def wd147 := hw _ (List.mem_of_getElem? (i := 147) rfl)
def wd148 := hw _ (List.mem_of_getElem? (i := 148) rfl)
def wd149 := hw _ (List.mem_of_getElem? (i := 149) rfl)
def wd150 := hw _ (List.mem_of_getElem? (i := 150) rfl)
def wd151 := hw _ (List.mem_of_getElem? (i := 151) rfl)
def wd152 := hw _ (List.mem_of_getElem? (i := 152) rfl)
def wd153 := hw _ (List.mem_of_getElem? (i := 153) rfl)
def wd154 := hw _ (List.mem_of_getElem? (i := 154) rfl)
def wd155 := hw _ (List.mem_of_getElem? (i := 155) rfl)
def wd156 := hw _ (List.mem_of_getElem? (i := 156) rfl)
def wd157 := hw _ (List.mem_of_getElem? (i := 157) rfl)
def wd158 := hw _ (List.mem_of_getElem? (i := 158) rfl)
def wd159 := hw _ (List.mem_of_getElem? (i := 159) rfl)
def wd160 := hw _ (List.mem_of_getElem? (i := 160) rfl)
def wd161 := hw _ (List.mem_of_getElem? (i := 161) rfl)
def wd163 := hw _ (List.mem_of_getElem? (i := 163) rfl)
def wd164 := hw _ (List.mem_of_getElem? (i := 164) rfl)
def wd165 := hw _ (List.mem_of_getElem? (i := 165) rfl)
def wd166 := hw _ (List.mem_of_getElem? (i := 166) rfl)
def wd167 := hw _ (List.mem_of_getElem? (i := 167) rfl)
def wd168 := hw _ (List.mem_of_getElem? (i := 168) rfl)
def wd169 := hw _ (List.mem_of_getElem? (i := 169) rfl)
def wd170 := hw _ (List.mem_of_getElem? (i := 170) rfl)
def wd171 := hw _ (List.mem_of_getElem? (i := 171) rfl)
def wd172 := hw _ (List.mem_of_getElem? (i := 172) rfl)
def wd173 := hw _ (List.mem_of_getElem? (i := 173) rfl)
def wd174 := hw _ (List.mem_of_getElem? (i := 174) rfl)
def wd175 := hw _ (List.mem_of_getElem? (i := 175) rfl)
def wd176 := hw _ (List.mem_of_getElem? (i := 176) rfl)
def wd177 := hw _ (List.mem_of_getElem? (i := 177) rfl)
def wd178 := hw _ (List.mem_of_getElem? (i := 178) rfl)
def wd179 := hw _ (List.mem_of_getElem? (i := 179) rfl)
def wd180 := hw _ (List.mem_of_getElem? (i := 180) rfl)
def wd181 := hw _ (List.mem_of_getElem? (i := 181) rfl)
def wd182 := hw _ (List.mem_of_getElem? (i := 182) rfl)
def wd183 := hw _ (List.mem_of_getElem? (i := 183) rfl)
def wd184 := hw _ (List.mem_of_getElem? (i := 184) rfl)
def wd185 := hw _ (List.mem_of_getElem? (i := 185) rfl)
def wd186 := hw _ (List.mem_of_getElem? (i := 186) rfl)
def wd187 := hw _ (List.mem_of_getElem? (i := 187) rfl)
def wd188 := hw _ (List.mem_of_getElem? (i := 188) rfl)
def wd189 := hw _ (List.mem_of_getElem? (i := 189) rfl)
def wd190 := hw _ (List.mem_of_getElem? (i := 190) rfl)
def wd191 := hw _ (List.mem_of_getElem? (i := 191) rfl)
def wd192 := hw _ (List.mem_of_getElem? (i := 192) rfl)
def wd193 := hw _ (List.mem_of_getElem? (i := 193) rfl)
def wd194 := hw _ (List.mem_of_getElem? (i := 194) rfl)
def wd195 := hw _ (List.mem_of_getElem? (i := 195) rfl)
def wd196 := hw _ (List.mem_of_getElem? (i := 196) rfl)
def wd197 := hw _ (List.mem_of_getElem? (i := 197) rfl)
def wd198 := hw _ (List.mem_of_getElem? (i := 198) rfl)
def wd199 := hw _ (List.mem_of_getElem? (i := 199) rfl)
def wd200 := hw _ (List.mem_of_getElem? (i := 200) rfl)
def wd201 := hw _ (List.mem_of_getElem? (i := 201) rfl)
def wd202 := hw _ (List.mem_of_getElem? (i := 202) rfl)
def wd203 := hw _ (List.mem_of_getElem? (i := 203) rfl)
def wd204 := hw _ (List.mem_of_getElem? (i := 204) rfl)
def wd205 := hw _ (List.mem_of_getElem? (i := 205) rfl)
def wd206 := hw _ (List.mem_of_getElem? (i := 206) rfl)
def wd207 := hw _ (List.mem_of_getElem? (i := 207) rfl)
def wd208 := hw _ (List.mem_of_getElem? (i := 208) rfl)
def wd209 := hw _ (List.mem_of_getElem? (i := 209) rfl)
def wd210 := hw _ (List.mem_of_getElem? (i := 210) rfl)
def wd211 := hw _ (List.mem_of_getElem? (i := 211) rfl)
def wd212 := hw _ (List.mem_of_getElem? (i := 212) rfl)
def wd213 := hw _ (List.mem_of_getElem? (i := 213) rfl)
def wd214 := hw _ (List.mem_of_getElem? (i := 214) rfl)
def wd215 := hw _ (List.mem_of_getElem? (i := 215) rfl)
def wd216 := hw _ (List.mem_of_getElem? (i := 216) rfl)
def wd217 := hw _ (List.mem_of_getElem? (i := 217) rfl)
def wd218 := hw _ (List.mem_of_getElem? (i := 218) rfl)
def wd219 := hw _ (List.mem_of_getElem? (i := 219) rfl)
def wd220 := hw _ (List.mem_of_getElem? (i := 220) rfl)
def wd221 := hw _ (List.mem_of_getElem? (i := 221) rfl)
def wd222 := hw _ (List.mem_of_getElem? (i := 222) rfl)
def wd223 := hw _ (List.mem_of_getElem? (i := 223) rfl)
def wd224 := hw _ (List.mem_of_getElem? (i := 224) rfl)
def wd225 := hw _ (List.mem_of_getElem? (i := 225) rfl)
def wd226 := hw _ (List.mem_of_getElem? (i := 226) rfl)
def wd227 := hw _ (List.mem_of_getElem? (i := 227) rfl)
def wd228 := hw _ (List.mem_of_getElem? (i := 228) rfl)
def wd229 := hw _ (List.mem_of_getElem? (i := 229) rfl)
def wd230 := hw _ (List.mem_of_getElem? (i := 230) rfl)
def wd231 := hw _ (List.mem_of_getElem? (i := 231) rfl)
def wd232 := hw _ (List.mem_of_getElem? (i := 232) rfl)
def wd233 := hw _ (List.mem_of_getElem? (i := 233) rfl)
def wd234 := hw _ (List.mem_of_getElem? (i := 234) rfl)
def wd235 := hw _ (List.mem_of_getElem? (i := 235) rfl)
def wd236 := hw _ (List.mem_of_getElem? (i := 236) rfl)
def wd237 := hw _ (List.mem_of_getElem? (i := 237) rfl)
def wd238 := hw _ (List.mem_of_getElem? (i := 238) rfl)
def wd239 := hw _ (List.mem_of_getElem? (i := 239) rfl)
def wd240 := hw _ (List.mem_of_getElem? (i := 240) rfl)
def wd241 := hw _ (List.mem_of_getElem? (i := 241) rfl)
def wd242 := hw _ (List.mem_of_getElem? (i := 242) rfl)
def wd243 := hw _ (List.mem_of_getElem? (i := 243) rfl)
def wd244 := hw _ (List.mem_of_getElem? (i := 244) rfl)
def wd245 := hw _ (List.mem_of_getElem? (i := 245) rfl)
def wd246 := hw _ (List.mem_of_getElem? (i := 246) rfl)
def wd247 := hw _ (List.mem_of_getElem? (i := 247) rfl)
def wd248 := hw _ (List.mem_of_getElem? (i := 248) rfl)
def wd249 := hw _ (List.mem_of_getElem? (i := 249) rfl)
def wd250 := hw _ (List.mem_of_getElem? (i := 250) rfl)
def wd251 := hw _ (List.mem_of_getElem? (i := 251) rfl)
def wd252 := hw _ (List.mem_of_getElem? (i := 252) rfl)
def wd253 := hw _ (List.mem_of_getElem? (i := 253) rfl)
def wd254 := hw _ (List.mem_of_getElem? (i := 254) rfl)
def wd255 := hw _ (List.mem_of_getElem? (i := 255) rfl)
def wd256 := hw _ (List.mem_of_getElem? (i := 256) rfl)
def wd257 := hw _ (List.mem_of_getElem? (i := 257) rfl)
def wd258 := hw _ (List.mem_of_getElem? (i := 258) rfl)
def wd259 := hw _ (List.mem_of_getElem? (i := 259) rfl)
def wd260 := hw _ (List.mem_of_getElem? (i := 260) rfl)
def wd261 := hw _ (List.mem_of_getElem? (i := 261) rfl)
def wd262 := hw _ (List.mem_of_getElem? (i := 262) rfl)
def wd263 := hw _ (List.mem_of_getElem? (i := 263) rfl)
def wd264 := hw _ (List.mem_of_getElem? (i := 264) rfl)
def wd265 := hw _ (List.mem_of_getElem? (i := 265) rfl)
def wd266 := hw _ (List.mem_of_getElem? (i := 266) rfl)
def wd267 := hw _ (List.mem_of_getElem? (i := 267) rfl)
def wd268 := hw _ (List.mem_of_getElem? (i := 268) rfl)
def wd269 := hw _ (List.mem_of_getElem? (i := 269) rfl)
def wd270 := hw _ (List.mem_of_getElem? (i := 270) rfl)
def wd271 := hw _ (List.mem_of_getElem? (i := 271) rfl)
def wd272 := hw _ (List.mem_of_getElem? (i := 272) rfl)
def wd273 := hw _ (List.mem_of_getElem? (i := 273) rfl)
def wd274 := hw _ (List.mem_of_getElem? (i := 274) rfl)
def wd275 := hw _ (List.mem_of_getElem? (i := 275) rfl)
def wd276 := hw _ (List.mem_of_getElem? (i := 276) rfl)
def wd277 := hw _ (List.mem_of_getElem? (i := 277) rfl)
def wd278 := hw _ (List.mem_of_getElem? (i := 278) rfl)
def wd279 := hw _ (List.mem_of_getElem? (i := 279) rfl)
def wd280 := hw _ (List.mem_of_getElem? (i := 280) rfl)
def wd281 := hw _ (List.mem_of_getElem? (i := 281) rfl)
def wd282 := hw _ (List.mem_of_getElem? (i := 282) rfl)
def wd283 := hw _ (List.mem_of_getElem? (i := 283) rfl)
def wd284 := hw _ (List.mem_of_getElem? (i := 284) rfl)
def wd285 := hw _ (List.mem_of_getElem? (i := 285) rfl)
def wd287 := hw _ (List.mem_of_getElem? (i := 287) rfl)
def wd288 := hw _ (List.mem_of_getElem? (i := 288) rfl)
def wd289 := hw _ (List.mem_of_getElem? (i := 289) rfl)
def wd290 := hw _ (List.mem_of_getElem? (i := 290) rfl)
def wd291 := hw _ (List.mem_of_getElem? (i := 291) rfl)
end
theorem own_wS {Z : State} {a0 : Array Value} (hw : ∀ d ∈ tables_1, d.before a0 Z = true) : ∀ d ∈ Bundle.stringAtoms, d.before a0 Z = true := by
  intro d hd
  simp only [Bundle.stringAtoms, List.mem_cons, List.not_mem_nil, or_false] at hd
  rcases hd with rfl | rfl | rfl | rfl | rfl | rfl | rfl
  · exact hw _ (List.mem_of_getElem? (i := 7) rfl)
  · exact hw _ (List.mem_of_getElem? (i := 6) rfl)
  · exact hw _ (List.mem_of_getElem? (i := 23) rfl)
  · exact hw _ (List.mem_of_getElem? (i := 24) rfl)
  · exact hw _ (List.mem_of_getElem? (i := 25) rfl)
  · exact hw _ (List.mem_of_getElem? (i := 26) rfl)
  · exact hw _ (List.mem_of_getElem? (i := 27) rfl)
theorem own_EW {Z : State} {a0 : Array Value} (hw : ∀ d ∈ tables_1, d.before a0 Z = true) : EW Z a0 consts_1 := (EW.cons (hw _ (List.mem_of_getElem? (i := 228) (a := (Cond.stringLink "com/example/match_before_write/matchbeforewrite/EntityTag" (24 : Nat) "text")) rfl)) (by decide) (EW.cons (hw _ (List.mem_of_getElem? (i := 229) (a := (Cond.stringLink "com/example/match_before_write/matchbeforewrite/EntityTag" (32 : Nat) "W/")) rfl)) (by decide) (EW.cons (hw _ (List.mem_of_getElem? (i := 223) (a := (Cond.stringLink "com/example/match_before_write/matchbeforewrite/EntityTag" (59 : Nat) "other")) rfl)) (by decide) (EW.cons (hw _ (List.mem_of_getElem? (i := 116) (a := (Cond.stringLink "com/example/match_before_write/matchbeforewrite/EntityTag" (71 : Nat) "")) rfl)) (by decide) (EW.cons (hw _ (List.mem_of_getElem? (i := 53) (a := (Cond.stringLink "com/example/match_before_write/matchbeforewrite/EntityTag" (92 : Nat) "value")) rfl)) (by decide) (EW.cons (hw _ (List.mem_of_getElem? (i := 22) (a := (Cond.stringLink "java/lang/String" (7 : Nat) "")) rfl)) (by decide) (EW.cons (hw _ (List.mem_of_getElem? (i := 280) (a := (Cond.stringLink "java/lang/StringLatin1" (151 : Nat) "")) rfl)) (by decide) EW.nil)))))))
abbrev k1 := method_2_code
abbrev k2 := method_3_code
abbrev k3 := jdk_42_method_3_code
abbrev k4 := jdk_42_method_149_code
abbrev k5 := object_method_1_code
abbrev k6 := method_4_code
abbrev k7 := jdk_52_method_16_code
abbrev k8 := jdk_52_method_21_code
abbrev k9 := jdk_52_method_15_code
abbrev k10 := prog_5_method_2_code
abbrev k11 := prog_5_method_12_code
abbrev k12 := jdk_31_method_11_code
abbrev k13 := jdk_42_method_54_code
abbrev k14 := jdk_42_method_152_code
abbrev k15 := prog_5_method_1_code
abbrev k16 := prog_5_method_5_code
abbrev k17 := prog_5_method_6_code
abbrev k18 := jdk_42_method_66_code
abbrev k19 := prog_5_method_9_code
abbrev k20 := jdk_67_method_1_code
abbrev k21 := jdk_68_method_2_code
abbrev k22 := jdk_67_method_7_code
abbrev k23 := jdk_68_method_22_code
abbrev k24 := jdk_68_method_9_code
abbrev k25 := jdk_68_method_73_code
abbrev k26 := jdk_68_method_71_code
abbrev k27 := jdk_42_method_147_code
abbrev k28 := jdk_67_method_14_code
abbrev k29 := jdk_68_method_31_code
abbrev k30 := jdk_68_method_68_code
abbrev k31 := jdk_43_method_3_code
abbrev k32 := jdk_67_method_42_code
abbrev k33 := jdk_42_method_53_code
abbrev k34 := jdk_42_method_150_code
abbrev k35 := jdk_68_method_64_code
abbrev k36 := jdk_67_method_93_code
abbrev k37 := jdk_68_method_6_code
abbrev k38 := jdk_65_method_132_code
abbrev k39 := jdk_65_method_133_code
abbrev k40 := jdk_65_method_131_code
abbrev k41 := jdk_29_method_69_code
abbrev k42 := jdk_43_method_13_code
abbrev k43 := prog_5_method_7_code
abbrev k44 := prog_5_method_4_code
abbrev k45 := jdk_42_method_76_code
abbrev k46 := jdk_42_method_75_code
abbrev k47 := jdk_48_method_14_code
abbrev k48 := jdk_42_method_56_code
abbrev k49 := jdk_42_method_154_code
abbrev k50 := jdk_43_method_2_code
abbrev k51 := jdk_42_method_155_code
abbrev k52 := jdk_41_method_11_code
abbrev k53 := jdk_42_method_92_code
abbrev k54 := jdk_42_method_158_code
abbrev k55 := jdk_41_method_12_code
abbrev k56 := jdk_43_method_47_code
abbrev k57 := prog_5_method_10_code
abbrev k58 := jdk_42_method_151_code
theorem d1_0 : decode k1 0 = .ok (.iload_n 0, 1) := by decide +kernel
theorem d1_1 : decode k1 1 = .ok (.ldc 7, 2) := by decide +kernel
theorem d1_3 : decode k1 3 = .ok (.iand, 1) := by decide +kernel
theorem d1_4 : decode k1 4 = .ok (.sipush 221, 3) := by decide +kernel
theorem d1_7 : decode k1 7 = .ok (.irem, 1) := by decide +kernel
theorem d1_8 : decode k1 8 = .ok (.istore_n 1, 1) := by decide +kernel
theorem d1_9 : decode k1 9 = .ok (.iload_n 1, 1) := by decide +kernel
theorem d1_10 : decode k1 10 = .ok (.ifCond .ne 6, 3) := by decide +kernel
theorem d1_13 : decode k1 13 = .ok (.bipush 33, 2) := by decide +kernel
theorem d1_15 : decode k1 15 = .ok (.ireturn, 1) := by decide +kernel
theorem d1_16 : decode k1 16 = .ok (.iload_n 1, 1) := by decide +kernel
theorem d1_17 : decode k1 17 = .ok (.bipush 92, 2) := by decide +kernel
theorem d1_19 : decode k1 19 = .ok (.if_icmp .gt 9, 3) := by decide +kernel
theorem d1_22 : decode k1 22 = .ok (.bipush 34, 2) := by decide +kernel
theorem d1_24 : decode k1 24 = .ok (.iload_n 1, 1) := by decide +kernel
theorem d1_25 : decode k1 25 = .ok (.iadd, 1) := by decide +kernel
theorem d1_26 : decode k1 26 = .ok (.i2c, 1) := by decide +kernel
theorem d1_27 : decode k1 27 = .ok (.ireturn, 1) := by decide +kernel
theorem d1_28 : decode k1 28 = .ok (.sipush 128, 3) := by decide +kernel
theorem d1_31 : decode k1 31 = .ok (.iload_n 1, 1) := by decide +kernel
theorem d1_32 : decode k1 32 = .ok (.bipush 93, 2) := by decide +kernel
theorem d1_34 : decode k1 34 = .ok (.isub, 1) := by decide +kernel
theorem d1_35 : decode k1 35 = .ok (.iadd, 1) := by decide +kernel
theorem d1_36 : decode k1 36 = .ok (.i2c, 1) := by decide +kernel
theorem d1_37 : decode k1 37 = .ok (.ireturn, 1) := by decide +kernel
theorem d2_0 : decode k2 0 = .ok (.iload_n 0, 1) := by decide +kernel
theorem d2_1 : decode k2 1 = .ok (.ifCond .ne 7, 3) := by decide +kernel
theorem d2_4 : decode k2 4 = .ok (.iconst 0, 1) := by decide +kernel
theorem d2_5 : decode k2 5 = .ok (.newarray .char, 2) := by decide +kernel
theorem d2_7 : decode k2 7 = .ok (.areturn, 1) := by decide +kernel
theorem d2_8 : decode k2 8 = .ok (.iload_n 0, 1) := by decide +kernel
theorem d2_9 : decode k2 9 = .ok (.iconst 1, 1) := by decide +kernel
theorem d2_10 : decode k2 10 = .ok (.if_icmp .ne 11, 3) := by decide +kernel
theorem d2_13 : decode k2 13 = .ok (.iconst 1, 1) := by decide +kernel
theorem d2_14 : decode k2 14 = .ok (.newarray .char, 2) := by decide +kernel
theorem d2_16 : decode k2 16 = .ok (.dup, 1) := by decide +kernel
theorem d2_17 : decode k2 17 = .ok (.iconst 0, 1) := by decide +kernel
theorem d2_18 : decode k2 18 = .ok (.iload_n 1, 1) := by decide +kernel
theorem d2_19 : decode k2 19 = .ok (.castore, 1) := by decide +kernel
theorem d2_20 : decode k2 20 = .ok (.areturn, 1) := by decide +kernel
theorem d2_21 : decode k2 21 = .ok (.iload_n 0, 1) := by decide +kernel
theorem d2_22 : decode k2 22 = .ok (.iconst 2, 1) := by decide +kernel
theorem d2_23 : decode k2 23 = .ok (.if_icmp .ne 15, 3) := by decide +kernel
theorem d2_26 : decode k2 26 = .ok (.iconst 2, 1) := by decide +kernel
theorem d2_27 : decode k2 27 = .ok (.newarray .char, 2) := by decide +kernel
theorem d2_29 : decode k2 29 = .ok (.dup, 1) := by decide +kernel
theorem d2_30 : decode k2 30 = .ok (.iconst 0, 1) := by decide +kernel
theorem d2_31 : decode k2 31 = .ok (.iload_n 1, 1) := by decide +kernel
theorem d2_32 : decode k2 32 = .ok (.castore, 1) := by decide +kernel
theorem d2_33 : decode k2 33 = .ok (.dup, 1) := by decide +kernel
theorem d2_34 : decode k2 34 = .ok (.iconst 1, 1) := by decide +kernel
theorem d2_35 : decode k2 35 = .ok (.iload_n 2, 1) := by decide +kernel
theorem d2_36 : decode k2 36 = .ok (.castore, 1) := by decide +kernel
theorem d2_37 : decode k2 37 = .ok (.areturn, 1) := by decide +kernel
theorem d2_38 : decode k2 38 = .ok (.iconst 3, 1) := by decide +kernel
theorem d2_39 : decode k2 39 = .ok (.newarray .char, 2) := by decide +kernel
theorem d2_41 : decode k2 41 = .ok (.dup, 1) := by decide +kernel
theorem d2_42 : decode k2 42 = .ok (.iconst 0, 1) := by decide +kernel
theorem d2_43 : decode k2 43 = .ok (.iload_n 1, 1) := by decide +kernel
theorem d2_44 : decode k2 44 = .ok (.castore, 1) := by decide +kernel
theorem d2_45 : decode k2 45 = .ok (.dup, 1) := by decide +kernel
theorem d2_46 : decode k2 46 = .ok (.iconst 1, 1) := by decide +kernel
theorem d2_47 : decode k2 47 = .ok (.iload_n 2, 1) := by decide +kernel
theorem d2_48 : decode k2 48 = .ok (.castore, 1) := by decide +kernel
theorem d2_49 : decode k2 49 = .ok (.dup, 1) := by decide +kernel
theorem d2_50 : decode k2 50 = .ok (.iconst 2, 1) := by decide +kernel
theorem d2_51 : decode k2 51 = .ok (.iload_n 3, 1) := by decide +kernel
theorem d2_52 : decode k2 52 = .ok (.castore, 1) := by decide +kernel
theorem d2_53 : decode k2 53 = .ok (.areturn, 1) := by decide +kernel
theorem d3_0 : decode k3 0 = .ok (.aload_n 0, 1) := by decide +kernel
theorem d3_1 : decode k3 1 = .ok (.aload_n 1, 1) := by decide +kernel
theorem d3_2 : decode k3 2 = .ok (.iconst 0, 1) := by decide +kernel
theorem d3_3 : decode k3 3 = .ok (.aload_n 1, 1) := by decide +kernel
theorem d3_4 : decode k3 4 = .ok (.arraylength, 1) := by decide +kernel
theorem d3_5 : decode k3 5 = .ok (.aconst_null, 1) := by decide +kernel
theorem d3_6 : decode k3 6 = .ok (.invokespecial 27, 3) := by decide +kernel
theorem d3_9 : decode k3 9 = .ok (.return_, 1) := by decide +kernel
theorem d4_0 : decode k4 0 = .ok (.aload_n 0, 1) := by decide +kernel
theorem d4_1 : decode k4 1 = .ok (.invokespecial 1, 3) := by decide +kernel
theorem d4_4 : decode k4 4 = .ok (.iload_n 3, 1) := by decide +kernel
theorem d4_5 : decode k4 5 = .ok (.ifCond .ne 22, 3) := by decide +kernel
theorem d4_8 : decode k4 8 = .ok (.aload_n 0, 1) := by decide +kernel
theorem d4_9 : decode k4 9 = .ok (.ldc 7, 2) := by decide +kernel
theorem d4_11 : decode k4 11 = .ok (.getfield 9, 3) := by decide +kernel
theorem d4_14 : decode k4 14 = .ok (.putfield 9, 3) := by decide +kernel
theorem d4_17 : decode k4 17 = .ok (.aload_n 0, 1) := by decide +kernel
theorem d4_18 : decode k4 18 = .ok (.ldc 7, 2) := by decide +kernel
theorem d4_20 : decode k4 20 = .ok (.getfield 15, 3) := by decide +kernel
theorem d4_23 : decode k4 23 = .ok (.putfield 15, 3) := by decide +kernel
theorem d4_26 : decode k4 26 = .ok (.return_, 1) := by decide +kernel
theorem d4_27 : decode k4 27 = .ok (.getstatic 38, 3) := by decide +kernel
theorem d4_30 : decode k4 30 = .ok (.ifCond .eq 28, 3) := by decide +kernel
theorem d4_33 : decode k4 33 = .ok (.aload_n 1, 1) := by decide +kernel
theorem d4_34 : decode k4 34 = .ok (.iload_n 2, 1) := by decide +kernel
theorem d4_35 : decode k4 35 = .ok (.iload_n 3, 1) := by decide +kernel
theorem d4_36 : decode k4 36 = .ok (.invokestatic 177, 3) := by decide +kernel
theorem d4_39 : decode k4 39 = .ok (.astore 5, 2) := by decide +kernel
theorem d4_41 : decode k4 41 = .ok (.aload_n 0, 1) := by decide +kernel
theorem d4_42 : decode k4 42 = .ok (.aload 5, 2) := by decide +kernel
theorem d4_44 : decode k4 44 = .ok (.iload_n 3, 1) := by decide +kernel
theorem d4_45 : decode k4 45 = .ok (.invokestatic 47, 3) := by decide +kernel
theorem d4_48 : decode k4 48 = .ok (.putfield 15, 3) := by decide +kernel
theorem d4_51 : decode k4 51 = .ok (.aload_n 0, 1) := by decide +kernel
theorem d4_52 : decode k4 52 = .ok (.aload 5, 2) := by decide +kernel
theorem d4_54 : decode k4 54 = .ok (.putfield 9, 3) := by decide +kernel
theorem d4_57 : decode k4 57 = .ok (.return_, 1) := by decide +kernel
theorem d6_0 : decode k6 0 = .ok (.iload_n 0, 1) := by decide +kernel
theorem d6_1 : decode k6 1 = .ok (.ifCond .ne 17, 3) := by decide +kernel
theorem d6_4 : decode k6 4 = .ok (.iconst 2, 1) := by decide +kernel
theorem d6_5 : decode k6 5 = .ok (.newarray .char, 2) := by decide +kernel
theorem d6_7 : decode k6 7 = .ok (.dup, 1) := by decide +kernel
theorem d6_8 : decode k6 8 = .ok (.iconst 0, 1) := by decide +kernel
theorem d6_9 : decode k6 9 = .ok (.bipush 34, 2) := by decide +kernel
theorem d6_11 : decode k6 11 = .ok (.castore, 1) := by decide +kernel
theorem d6_12 : decode k6 12 = .ok (.dup, 1) := by decide +kernel
theorem d6_13 : decode k6 13 = .ok (.iconst 1, 1) := by decide +kernel
theorem d6_14 : decode k6 14 = .ok (.bipush 34, 2) := by decide +kernel
theorem d6_16 : decode k6 16 = .ok (.castore, 1) := by decide +kernel
theorem d6_17 : decode k6 17 = .ok (.areturn, 1) := by decide +kernel
theorem d6_18 : decode k6 18 = .ok (.iload_n 0, 1) := by decide +kernel
theorem d6_19 : decode k6 19 = .ok (.iconst 1, 1) := by decide +kernel
theorem d6_20 : decode k6 20 = .ok (.if_icmp .ne 21, 3) := by decide +kernel
theorem d6_23 : decode k6 23 = .ok (.iconst 3, 1) := by decide +kernel
theorem d6_24 : decode k6 24 = .ok (.newarray .char, 2) := by decide +kernel
theorem d6_26 : decode k6 26 = .ok (.dup, 1) := by decide +kernel
theorem d6_27 : decode k6 27 = .ok (.iconst 0, 1) := by decide +kernel
theorem d6_28 : decode k6 28 = .ok (.bipush 34, 2) := by decide +kernel
theorem d6_30 : decode k6 30 = .ok (.castore, 1) := by decide +kernel
theorem d6_31 : decode k6 31 = .ok (.dup, 1) := by decide +kernel
theorem d6_32 : decode k6 32 = .ok (.iconst 1, 1) := by decide +kernel
theorem d6_33 : decode k6 33 = .ok (.iload_n 1, 1) := by decide +kernel
theorem d6_34 : decode k6 34 = .ok (.castore, 1) := by decide +kernel
theorem d6_35 : decode k6 35 = .ok (.dup, 1) := by decide +kernel
theorem d6_36 : decode k6 36 = .ok (.iconst 2, 1) := by decide +kernel
theorem d6_37 : decode k6 37 = .ok (.bipush 34, 2) := by decide +kernel
theorem d6_39 : decode k6 39 = .ok (.castore, 1) := by decide +kernel
theorem d6_40 : decode k6 40 = .ok (.areturn, 1) := by decide +kernel
theorem d6_41 : decode k6 41 = .ok (.iload_n 0, 1) := by decide +kernel
theorem d6_42 : decode k6 42 = .ok (.iconst 2, 1) := by decide +kernel
theorem d6_43 : decode k6 43 = .ok (.if_icmp .ne 25, 3) := by decide +kernel
theorem d6_46 : decode k6 46 = .ok (.iconst 4, 1) := by decide +kernel
theorem d6_47 : decode k6 47 = .ok (.newarray .char, 2) := by decide +kernel
theorem d6_49 : decode k6 49 = .ok (.dup, 1) := by decide +kernel
theorem d6_50 : decode k6 50 = .ok (.iconst 0, 1) := by decide +kernel
theorem d6_51 : decode k6 51 = .ok (.bipush 34, 2) := by decide +kernel
theorem d6_53 : decode k6 53 = .ok (.castore, 1) := by decide +kernel
theorem d6_54 : decode k6 54 = .ok (.dup, 1) := by decide +kernel
theorem d6_55 : decode k6 55 = .ok (.iconst 1, 1) := by decide +kernel
theorem d6_56 : decode k6 56 = .ok (.iload_n 1, 1) := by decide +kernel
theorem d6_57 : decode k6 57 = .ok (.castore, 1) := by decide +kernel
theorem d6_58 : decode k6 58 = .ok (.dup, 1) := by decide +kernel
theorem d6_59 : decode k6 59 = .ok (.iconst 2, 1) := by decide +kernel
theorem d6_60 : decode k6 60 = .ok (.iload_n 2, 1) := by decide +kernel
theorem d6_61 : decode k6 61 = .ok (.castore, 1) := by decide +kernel
theorem d6_62 : decode k6 62 = .ok (.dup, 1) := by decide +kernel
theorem d6_63 : decode k6 63 = .ok (.iconst 3, 1) := by decide +kernel
theorem d6_64 : decode k6 64 = .ok (.bipush 34, 2) := by decide +kernel
theorem d6_66 : decode k6 66 = .ok (.castore, 1) := by decide +kernel
theorem d6_67 : decode k6 67 = .ok (.areturn, 1) := by decide +kernel
theorem d6_68 : decode k6 68 = .ok (.iconst 5, 1) := by decide +kernel
theorem d6_69 : decode k6 69 = .ok (.newarray .char, 2) := by decide +kernel
theorem d6_71 : decode k6 71 = .ok (.dup, 1) := by decide +kernel
theorem d6_72 : decode k6 72 = .ok (.iconst 0, 1) := by decide +kernel
theorem d6_73 : decode k6 73 = .ok (.bipush 34, 2) := by decide +kernel
theorem d6_75 : decode k6 75 = .ok (.castore, 1) := by decide +kernel
theorem d6_76 : decode k6 76 = .ok (.dup, 1) := by decide +kernel
theorem d6_77 : decode k6 77 = .ok (.iconst 1, 1) := by decide +kernel
theorem d6_78 : decode k6 78 = .ok (.iload_n 1, 1) := by decide +kernel
theorem d6_79 : decode k6 79 = .ok (.castore, 1) := by decide +kernel
theorem d6_80 : decode k6 80 = .ok (.dup, 1) := by decide +kernel
theorem d6_81 : decode k6 81 = .ok (.iconst 2, 1) := by decide +kernel
theorem d6_82 : decode k6 82 = .ok (.iload_n 2, 1) := by decide +kernel
theorem d6_83 : decode k6 83 = .ok (.castore, 1) := by decide +kernel
theorem d6_84 : decode k6 84 = .ok (.dup, 1) := by decide +kernel
theorem d6_85 : decode k6 85 = .ok (.iconst 3, 1) := by decide +kernel
theorem d6_86 : decode k6 86 = .ok (.iload_n 3, 1) := by decide +kernel
theorem d6_87 : decode k6 87 = .ok (.castore, 1) := by decide +kernel
theorem d6_88 : decode k6 88 = .ok (.dup, 1) := by decide +kernel
theorem d6_89 : decode k6 89 = .ok (.iconst 4, 1) := by decide +kernel
theorem d6_90 : decode k6 90 = .ok (.bipush 34, 2) := by decide +kernel
theorem d6_92 : decode k6 92 = .ok (.castore, 1) := by decide +kernel
theorem d6_93 : decode k6 93 = .ok (.areturn, 1) := by decide +kernel
theorem d7_0 : decode k7 0 = .ok (.iload_n 2, 1) := by decide +kernel
theorem d7_1 : decode k7 1 = .ok (.newarray .byte, 2) := by decide +kernel
theorem d7_3 : decode k7 3 = .ok (.astore_n 3, 1) := by decide +kernel
theorem d7_4 : decode k7 4 = .ok (.aload_n 0, 1) := by decide +kernel
theorem d7_5 : decode k7 5 = .ok (.iload_n 1, 1) := by decide +kernel
theorem d7_6 : decode k7 6 = .ok (.aload_n 3, 1) := by decide +kernel
theorem d7_7 : decode k7 7 = .ok (.iconst 0, 1) := by decide +kernel
theorem d7_8 : decode k7 8 = .ok (.iload_n 2, 1) := by decide +kernel
theorem d7_9 : decode k7 9 = .ok (.invokestatic 115, 3) := by decide +kernel
theorem d7_12 : decode k7 12 = .ok (.istore 4, 2) := by decide +kernel
theorem d7_14 : decode k7 14 = .ok (.iload 4, 2) := by decide +kernel
theorem d7_16 : decode k7 16 = .ok (.iload_n 2, 1) := by decide +kernel
theorem d7_17 : decode k7 17 = .ok (.if_icmp .eq 40, 3) := by decide +kernel
theorem d7_57 : decode k7 57 = .ok (.aload_n 3, 1) := by decide +kernel
theorem d7_58 : decode k7 58 = .ok (.areturn, 1) := by decide +kernel
theorem d8_0 : decode k8 0 = .ok (.iconst 0, 1) := by decide +kernel
theorem d8_1 : decode k8 1 = .ok (.istore 5, 2) := by decide +kernel
theorem d8_3 : decode k8 3 = .ok (.iload 5, 2) := by decide +kernel
theorem d8_5 : decode k8 5 = .ok (.iload 4, 2) := by decide +kernel
theorem d8_7 : decode k8 7 = .ok (.if_icmp .ge 37, 3) := by decide +kernel
theorem d8_10 : decode k8 10 = .ok (.aload_n 0, 1) := by decide +kernel
theorem d8_11 : decode k8 11 = .ok (.iload_n 1, 1) := by decide +kernel
theorem d8_12 : decode k8 12 = .ok (.caload, 1) := by decide +kernel
theorem d8_13 : decode k8 13 = .ok (.istore 6, 2) := by decide +kernel
theorem d8_15 : decode k8 15 = .ok (.iload 6, 2) := by decide +kernel
theorem d8_17 : decode k8 17 = .ok (.sipush 255, 3) := by decide +kernel
theorem d8_20 : decode k8 20 = .ok (.if_icmp .le 6, 3) := by decide +kernel
theorem d8_26 : decode k8 26 = .ok (.aload_n 2, 1) := by decide +kernel
theorem d8_27 : decode k8 27 = .ok (.iload_n 3, 1) := by decide +kernel
theorem d8_28 : decode k8 28 = .ok (.iload 6, 2) := by decide +kernel
theorem d8_30 : decode k8 30 = .ok (.i2b, 1) := by decide +kernel
theorem d8_31 : decode k8 31 = .ok (.bastore, 1) := by decide +kernel
theorem d8_32 : decode k8 32 = .ok (.iinc 1 1, 3) := by decide +kernel
theorem d8_35 : decode k8 35 = .ok (.iinc 3 1, 3) := by decide +kernel
theorem d8_38 : decode k8 38 = .ok (.iinc 5 1, 3) := by decide +kernel
theorem d8_41 : decode k8 41 = .ok (.goto (-38), 3) := by decide +kernel
theorem d8_44 : decode k8 44 = .ok (.iload 4, 2) := by decide +kernel
theorem d8_46 : decode k8 46 = .ok (.ireturn, 1) := by decide +kernel
theorem d9_0 : decode k9 0 = .ok (.iload_n 1, 1) := by decide +kernel
theorem d9_1 : decode k9 1 = .ok (.aload_n 0, 1) := by decide +kernel
theorem d9_2 : decode k9 2 = .ok (.arraylength, 1) := by decide +kernel
theorem d9_3 : decode k9 3 = .ok (.isub, 1) := by decide +kernel
theorem d9_4 : decode k9 4 = .ok (.bipush 31, 2) := by decide +kernel
theorem d9_6 : decode k9 6 = .ok (.iushr, 1) := by decide +kernel
theorem d9_7 : decode k9 7 = .ok (.i2b, 1) := by decide +kernel
theorem d9_8 : decode k9 8 = .ok (.ireturn, 1) := by decide +kernel
theorem d10_0 : decode k10 0 = .ok (.new 8, 3) := by decide +kernel
theorem d10_3 : decode k10 3 = .ok (.dup, 1) := by decide +kernel
theorem d10_4 : decode k10 4 = .ok (.iconst 0, 1) := by decide +kernel
theorem d10_5 : decode k10 5 = .ok (.aload_n 0, 1) := by decide +kernel
theorem d10_6 : decode k10 6 = .ok (.iconst 0, 1) := by decide +kernel
theorem d10_7 : decode k10 7 = .ok (.invokestatic 17, 3) := by decide +kernel
theorem d10_10 : decode k10 10 = .ok (.invokespecial 21, 3) := by decide +kernel
theorem d10_13 : decode k10 13 = .ok (.areturn, 1) := by decide +kernel
theorem d11_0 : decode k11 0 = .ok (.aload_n 0, 1) := by decide +kernel
theorem d11_1 : decode k11 1 = .ok (.ldc 92, 2) := by decide +kernel
theorem d11_3 : decode k11 3 = .ok (.invokestatic 26, 3) := by decide +kernel
theorem d11_6 : decode k11 6 = .ok (.pop, 1) := by decide +kernel
theorem d11_7 : decode k11 7 = .ok (.iconst 0, 1) := by decide +kernel
theorem d11_8 : decode k11 8 = .ok (.istore_n 2, 1) := by decide +kernel
theorem d11_9 : decode k11 9 = .ok (.iload_n 2, 1) := by decide +kernel
theorem d11_10 : decode k11 10 = .ok (.aload_n 0, 1) := by decide +kernel
theorem d11_11 : decode k11 11 = .ok (.invokevirtual 40, 3) := by decide +kernel
theorem d11_14 : decode k11 14 = .ok (.if_icmp .ge 119, 3) := by decide +kernel
theorem d11_17 : decode k11 17 = .ok (.aload_n 0, 1) := by decide +kernel
theorem d11_18 : decode k11 18 = .ok (.iload_n 2, 1) := by decide +kernel
theorem d11_19 : decode k11 19 = .ok (.invokevirtual 44, 3) := by decide +kernel
theorem d11_22 : decode k11 22 = .ok (.istore_n 3, 1) := by decide +kernel
theorem d11_23 : decode k11 23 = .ok (.iload_n 3, 1) := by decide +kernel
theorem d11_24 : decode k11 24 = .ok (.bipush 33, 2) := by decide +kernel
theorem d11_26 : decode k11 26 = .ok (.if_icmp .eq 29, 3) := by decide +kernel
theorem d11_29 : decode k11 29 = .ok (.iload_n 3, 1) := by decide +kernel
theorem d11_30 : decode k11 30 = .ok (.bipush 35, 2) := by decide +kernel
theorem d11_32 : decode k11 32 = .ok (.if_icmp .lt 9, 3) := by decide +kernel
theorem d11_35 : decode k11 35 = .ok (.iload_n 3, 1) := by decide +kernel
theorem d11_36 : decode k11 36 = .ok (.bipush 126, 2) := by decide +kernel
theorem d11_38 : decode k11 38 = .ok (.if_icmp .le 17, 3) := by decide +kernel
theorem d11_41 : decode k11 41 = .ok (.iload_n 3, 1) := by decide +kernel
theorem d11_42 : decode k11 42 = .ok (.sipush 128, 3) := by decide +kernel
theorem d11_45 : decode k11 45 = .ok (.if_icmp .lt 14, 3) := by decide +kernel
theorem d11_48 : decode k11 48 = .ok (.iload_n 3, 1) := by decide +kernel
theorem d11_49 : decode k11 49 = .ok (.sipush 255, 3) := by decide +kernel
theorem d11_52 : decode k11 52 = .ok (.if_icmp .gt 7, 3) := by decide +kernel
theorem d11_55 : decode k11 55 = .ok (.iconst 1, 1) := by decide +kernel
theorem d11_56 : decode k11 56 = .ok (.goto 4, 3) := by decide +kernel
theorem d11_60 : decode k11 60 = .ok (.istore 4, 2) := by decide +kernel
theorem d11_62 : decode k11 62 = .ok (.iload 4, 2) := by decide +kernel
theorem d11_64 : decode k11 64 = .ok (.ifCond .ne 63, 3) := by decide +kernel
theorem d11_127 : decode k11 127 = .ok (.iinc 2 1, 3) := by decide +kernel
theorem d11_130 : decode k11 130 = .ok (.goto (-121), 3) := by decide +kernel
theorem d11_133 : decode k11 133 = .ok (.aload_n 0, 1) := by decide +kernel
theorem d11_134 : decode k11 134 = .ok (.areturn, 1) := by decide +kernel
theorem d12_0 : decode k12 0 = .ok (.aload_n 0, 1) := by decide +kernel
theorem d12_1 : decode k12 1 = .ok (.ifnonnull 12, 3) := by decide +kernel
theorem d12_13 : decode k12 13 = .ok (.aload_n 0, 1) := by decide +kernel
theorem d12_14 : decode k12 14 = .ok (.areturn, 1) := by decide +kernel
theorem d13_0 : decode k13 0 = .ok (.aload_n 0, 1) := by decide +kernel
theorem d13_1 : decode k13 1 = .ok (.getfield 9, 3) := by decide +kernel
theorem d13_4 : decode k13 4 = .ok (.arraylength, 1) := by decide +kernel
theorem d13_5 : decode k13 5 = .ok (.aload_n 0, 1) := by decide +kernel
theorem d13_6 : decode k13 6 = .ok (.invokevirtual 335, 3) := by decide +kernel
theorem d13_9 : decode k13 9 = .ok (.ishr, 1) := by decide +kernel
theorem d13_10 : decode k13 10 = .ok (.ireturn, 1) := by decide +kernel
theorem d14_0 : decode k14 0 = .ok (.getstatic 38, 3) := by decide +kernel
theorem d14_3 : decode k14 3 = .ok (.ifCond .eq 10, 3) := by decide +kernel
theorem d14_6 : decode k14 6 = .ok (.aload_n 0, 1) := by decide +kernel
theorem d14_7 : decode k14 7 = .ok (.getfield 15, 3) := by decide +kernel
theorem d14_10 : decode k14 10 = .ok (.goto 4, 3) := by decide +kernel
theorem d14_14 : decode k14 14 = .ok (.ireturn, 1) := by decide +kernel
theorem d15_0 : decode k15 0 = .ok (.aload_n 0, 1) := by decide +kernel
theorem d15_1 : decode k15 1 = .ok (.invokespecial 1, 3) := by decide +kernel
theorem d15_4 : decode k15 4 = .ok (.aload_n 0, 1) := by decide +kernel
theorem d15_5 : decode k15 5 = .ok (.iload_n 1, 1) := by decide +kernel
theorem d15_6 : decode k15 6 = .ok (.putfield 7, 3) := by decide +kernel
theorem d15_9 : decode k15 9 = .ok (.aload_n 0, 1) := by decide +kernel
theorem d15_10 : decode k15 10 = .ok (.aload_n 2, 1) := by decide +kernel
theorem d15_11 : decode k15 11 = .ok (.putfield 13, 3) := by decide +kernel
theorem d15_14 : decode k15 14 = .ok (.return_, 1) := by decide +kernel
theorem d16_0 : decode k16 0 = .ok (.aload_n 0, 1) := by decide +kernel
theorem d16_1 : decode k16 1 = .ok (.getfield 7, 3) := by decide +kernel
theorem d16_4 : decode k16 4 = .ok (.ireturn, 1) := by decide +kernel
theorem d17_0 : decode k17 0 = .ok (.aload_n 0, 1) := by decide +kernel
theorem d17_1 : decode k17 1 = .ok (.getfield 13, 3) := by decide +kernel
theorem d17_4 : decode k17 4 = .ok (.areturn, 1) := by decide +kernel
theorem d18_0 : decode k18 0 = .ok (.aload_n 0, 1) := by decide +kernel
theorem d18_1 : decode k18 1 = .ok (.aload_n 1, 1) := by decide +kernel
theorem d18_2 : decode k18 2 = .ok (.if_acmp .ne 5, 3) := by decide +kernel
theorem d18_5 : decode k18 5 = .ok (.iconst 1, 1) := by decide +kernel
theorem d18_6 : decode k18 6 = .ok (.ireturn, 1) := by decide +kernel
theorem d18_7 : decode k18 7 = .ok (.aload_n 1, 1) := by decide +kernel
theorem d18_8 : decode k18 8 = .ok (.instanceof 10, 3) := by decide +kernel
theorem d18_11 : decode k18 11 = .ok (.ifCond .eq 43, 3) := by decide +kernel
theorem d18_14 : decode k18 14 = .ok (.aload_n 1, 1) := by decide +kernel
theorem d18_15 : decode k18 15 = .ok (.checkcast 10, 3) := by decide +kernel
theorem d18_18 : decode k18 18 = .ok (.astore_n 2, 1) := by decide +kernel
theorem d18_19 : decode k18 19 = .ok (.getstatic 38, 3) := by decide +kernel
theorem d18_22 : decode k18 22 = .ok (.ifCond .eq 14, 3) := by decide +kernel
theorem d18_25 : decode k18 25 = .ok (.aload_n 0, 1) := by decide +kernel
theorem d18_26 : decode k18 26 = .ok (.getfield 15, 3) := by decide +kernel
theorem d18_29 : decode k18 29 = .ok (.aload_n 2, 1) := by decide +kernel
theorem d18_30 : decode k18 30 = .ok (.getfield 15, 3) := by decide +kernel
theorem d18_33 : decode k18 33 = .ok (.if_icmp .ne 21, 3) := by decide +kernel
theorem d18_36 : decode k18 36 = .ok (.aload_n 0, 1) := by decide +kernel
theorem d18_37 : decode k18 37 = .ok (.getfield 9, 3) := by decide +kernel
theorem d18_40 : decode k18 40 = .ok (.aload_n 2, 1) := by decide +kernel
theorem d18_41 : decode k18 41 = .ok (.getfield 9, 3) := by decide +kernel
theorem d18_44 : decode k18 44 = .ok (.invokestatic 541, 3) := by decide +kernel
theorem d18_47 : decode k18 47 = .ok (.ifCond .eq 7, 3) := by decide +kernel
theorem d18_50 : decode k18 50 = .ok (.iconst 1, 1) := by decide +kernel
theorem d18_51 : decode k18 51 = .ok (.goto 4, 3) := by decide +kernel
theorem d18_55 : decode k18 55 = .ok (.ireturn, 1) := by decide +kernel
theorem d19_0 : decode k19 0 = .ok (.aload_n 0, 1) := by decide +kernel
theorem d19_1 : decode k19 1 = .ok (.getfield 65, 3) := by decide +kernel
theorem d19_4 : decode k19 4 = .ok (.astore_n 1, 1) := by decide +kernel
theorem d19_5 : decode k19 5 = .ok (.aload_n 1, 1) := by decide +kernel
theorem d19_6 : decode k19 6 = .ok (.ifnonnull 53, 3) := by decide +kernel
theorem d19_9 : decode k19 9 = .ok (.new 68, 3) := by decide +kernel
theorem d19_12 : decode k19 12 = .ok (.dup, 1) := by decide +kernel
theorem d19_13 : decode k19 13 = .ok (.invokespecial 70, 3) := by decide +kernel
theorem d19_16 : decode k19 16 = .ok (.aload_n 0, 1) := by decide +kernel
theorem d19_17 : decode k19 17 = .ok (.getfield 7, 3) := by decide +kernel
theorem d19_20 : decode k19 20 = .ok (.ifCond .eq 8, 3) := by decide +kernel
theorem d19_28 : decode k19 28 = .ok (.ldc 71, 2) := by decide +kernel
theorem d19_30 : decode k19 30 = .ok (.invokevirtual 73, 3) := by decide +kernel
theorem d19_33 : decode k19 33 = .ok (.bipush 34, 2) := by decide +kernel
theorem d19_35 : decode k19 35 = .ok (.invokevirtual 77, 3) := by decide +kernel
theorem d19_38 : decode k19 38 = .ok (.aload_n 0, 1) := by decide +kernel
theorem d19_39 : decode k19 39 = .ok (.getfield 13, 3) := by decide +kernel
theorem d19_42 : decode k19 42 = .ok (.invokevirtual 73, 3) := by decide +kernel
theorem d19_45 : decode k19 45 = .ok (.bipush 34, 2) := by decide +kernel
theorem d19_47 : decode k19 47 = .ok (.invokevirtual 77, 3) := by decide +kernel
theorem d19_50 : decode k19 50 = .ok (.invokevirtual 80, 3) := by decide +kernel
theorem d19_53 : decode k19 53 = .ok (.astore_n 1, 1) := by decide +kernel
theorem d19_54 : decode k19 54 = .ok (.aload_n 0, 1) := by decide +kernel
theorem d19_55 : decode k19 55 = .ok (.aload_n 1, 1) := by decide +kernel
theorem d19_56 : decode k19 56 = .ok (.putfield 65, 3) := by decide +kernel
theorem d19_59 : decode k19 59 = .ok (.aload_n 1, 1) := by decide +kernel
theorem d19_60 : decode k19 60 = .ok (.areturn, 1) := by decide +kernel
theorem d20_0 : decode k20 0 = .ok (.aload_n 0, 1) := by decide +kernel
theorem d20_1 : decode k20 1 = .ok (.bipush 16, 2) := by decide +kernel
theorem d20_3 : decode k20 3 = .ok (.invokespecial 1, 3) := by decide +kernel
theorem d20_6 : decode k20 6 = .ok (.return_, 1) := by decide +kernel
theorem d21_0 : decode k21 0 = .ok (.aload_n 0, 1) := by decide +kernel
theorem d21_1 : decode k21 1 = .ok (.invokespecial 3, 3) := by decide +kernel
theorem d21_4 : decode k21 4 = .ok (.getstatic 18, 3) := by decide +kernel
theorem d21_7 : decode k21 7 = .ok (.ifCond .eq 18, 3) := by decide +kernel
theorem d21_10 : decode k21 10 = .ok (.aload_n 0, 1) := by decide +kernel
theorem d21_11 : decode k21 11 = .ok (.iload_n 1, 1) := by decide +kernel
theorem d21_12 : decode k21 12 = .ok (.newarray .byte, 2) := by decide +kernel
theorem d21_14 : decode k21 14 = .ok (.putfield 15, 3) := by decide +kernel
theorem d21_17 : decode k21 17 = .ok (.aload_n 0, 1) := by decide +kernel
theorem d21_18 : decode k21 18 = .ok (.iconst 0, 1) := by decide +kernel
theorem d21_19 : decode k21 19 = .ok (.putfield 22, 3) := by decide +kernel
theorem d21_22 : decode k21 22 = .ok (.goto 16, 3) := by decide +kernel
theorem d21_38 : decode k21 38 = .ok (.return_, 1) := by decide +kernel
theorem d22_0 : decode k22 0 = .ok (.aload_n 0, 1) := by decide +kernel
theorem d22_1 : decode k22 1 = .ok (.aload_n 1, 1) := by decide +kernel
theorem d22_2 : decode k22 2 = .ok (.invokespecial 29, 3) := by decide +kernel
theorem d22_5 : decode k22 5 = .ok (.pop, 1) := by decide +kernel
theorem d22_6 : decode k22 6 = .ok (.aload_n 0, 1) := by decide +kernel
theorem d22_7 : decode k22 7 = .ok (.areturn, 1) := by decide +kernel
theorem d23_0 : decode k23 0 = .ok (.aload_n 1, 1) := by decide +kernel
theorem d23_1 : decode k23 1 = .ok (.ifnonnull 8, 3) := by decide +kernel
theorem d23_9 : decode k23 9 = .ok (.aload_n 1, 1) := by decide +kernel
theorem d23_10 : decode k23 10 = .ok (.invokevirtual 32, 3) := by decide +kernel
theorem d23_13 : decode k23 13 = .ok (.istore_n 2, 1) := by decide +kernel
theorem d23_14 : decode k23 14 = .ok (.aload_n 0, 1) := by decide +kernel
theorem d23_15 : decode k23 15 = .ok (.aload_n 0, 1) := by decide +kernel
theorem d23_16 : decode k23 16 = .ok (.getfield 79, 3) := by decide +kernel
theorem d23_19 : decode k23 19 = .ok (.iload_n 2, 1) := by decide +kernel
theorem d23_20 : decode k23 20 = .ok (.iadd, 1) := by decide +kernel
theorem d23_21 : decode k23 21 = .ok (.invokevirtual 100, 3) := by decide +kernel
theorem d23_24 : decode k23 24 = .ok (.aload_n 0, 1) := by decide +kernel
theorem d23_25 : decode k23 25 = .ok (.aload_n 0, 1) := by decide +kernel
theorem d23_26 : decode k23 26 = .ok (.getfield 79, 3) := by decide +kernel
theorem d23_29 : decode k23 29 = .ok (.aload_n 1, 1) := by decide +kernel
theorem d23_30 : decode k23 30 = .ok (.invokevirtual 208, 3) := by decide +kernel
theorem d23_33 : decode k23 33 = .ok (.aload_n 0, 1) := by decide +kernel
theorem d23_34 : decode k23 34 = .ok (.dup, 1) := by decide +kernel
theorem d23_35 : decode k23 35 = .ok (.getfield 79, 3) := by decide +kernel
theorem d23_38 : decode k23 38 = .ok (.iload_n 2, 1) := by decide +kernel
theorem d23_39 : decode k23 39 = .ok (.iadd, 1) := by decide +kernel
theorem d23_40 : decode k23 40 = .ok (.putfield 79, 3) := by decide +kernel
theorem d23_43 : decode k23 43 = .ok (.aload_n 0, 1) := by decide +kernel
theorem d23_44 : decode k23 44 = .ok (.areturn, 1) := by decide +kernel
theorem d24_0 : decode k24 0 = .ok (.aload_n 0, 1) := by decide +kernel
theorem d24_1 : decode k24 1 = .ok (.getfield 15, 3) := by decide +kernel
theorem d24_4 : decode k24 4 = .ok (.arraylength, 1) := by decide +kernel
theorem d24_5 : decode k24 5 = .ok (.aload_n 0, 1) := by decide +kernel
theorem d24_6 : decode k24 6 = .ok (.getfield 22, 3) := by decide +kernel
theorem d24_9 : decode k24 9 = .ok (.ishr, 1) := by decide +kernel
theorem d24_10 : decode k24 10 = .ok (.istore_n 2, 1) := by decide +kernel
theorem d24_11 : decode k24 11 = .ok (.iload_n 1, 1) := by decide +kernel
theorem d24_12 : decode k24 12 = .ok (.iload_n 2, 1) := by decide +kernel
theorem d24_13 : decode k24 13 = .ok (.isub, 1) := by decide +kernel
theorem d24_14 : decode k24 14 = .ok (.ifCond .le 24, 3) := by decide +kernel
theorem d24_38 : decode k24 38 = .ok (.return_, 1) := by decide +kernel
theorem d25_0 : decode k25 0 = .ok (.aload_n 0, 1) := by decide +kernel
theorem d25_1 : decode k25 1 = .ok (.aload_n 2, 1) := by decide +kernel
theorem d25_2 : decode k25 2 = .ok (.invokevirtual 397, 3) := by decide +kernel
theorem d25_5 : decode k25 5 = .ok (.aload_n 2, 1) := by decide +kernel
theorem d25_6 : decode k25 6 = .ok (.aload_n 0, 1) := by decide +kernel
theorem d25_7 : decode k25 7 = .ok (.getfield 15, 3) := by decide +kernel
theorem d25_10 : decode k25 10 = .ok (.iload_n 1, 1) := by decide +kernel
theorem d25_11 : decode k25 11 = .ok (.aload_n 0, 1) := by decide +kernel
theorem d25_12 : decode k25 12 = .ok (.getfield 22, 3) := by decide +kernel
theorem d25_15 : decode k25 15 = .ok (.invokevirtual 399, 3) := by decide +kernel
theorem d25_18 : decode k25 18 = .ok (.return_, 1) := by decide +kernel
theorem d26_0 : decode k26 0 = .ok (.getstatic 18, 3) := by decide +kernel
theorem d26_3 : decode k26 3 = .ok (.ifCond .eq 18, 3) := by decide +kernel
theorem d26_6 : decode k26 6 = .ok (.aload_n 0, 1) := by decide +kernel
theorem d26_7 : decode k26 7 = .ok (.getfield 22, 3) := by decide +kernel
theorem d26_10 : decode k26 10 = .ok (.aload_n 1, 1) := by decide +kernel
theorem d26_11 : decode k26 11 = .ok (.invokevirtual 40, 3) := by decide +kernel
theorem d26_14 : decode k26 14 = .ok (.if_icmp .eq 7, 3) := by decide +kernel
theorem d26_21 : decode k26 21 = .ok (.return_, 1) := by decide +kernel
theorem d27_0 : decode k27 0 = .ok (.aload_n 0, 1) := by decide +kernel
theorem d27_1 : decode k27 1 = .ok (.invokevirtual 335, 3) := by decide +kernel
theorem d27_4 : decode k27 4 = .ok (.iload_n 3, 1) := by decide +kernel
theorem d27_5 : decode k27 5 = .ok (.if_icmp .ne 23, 3) := by decide +kernel
theorem d27_8 : decode k27 8 = .ok (.aload_n 0, 1) := by decide +kernel
theorem d27_9 : decode k27 9 = .ok (.getfield 9, 3) := by decide +kernel
theorem d27_12 : decode k27 12 = .ok (.iconst 0, 1) := by decide +kernel
theorem d27_13 : decode k27 13 = .ok (.aload_n 1, 1) := by decide +kernel
theorem d27_14 : decode k27 14 = .ok (.iload_n 2, 1) := by decide +kernel
theorem d27_15 : decode k27 15 = .ok (.iload_n 3, 1) := by decide +kernel
theorem d27_16 : decode k27 16 = .ok (.ishl, 1) := by decide +kernel
theorem d27_17 : decode k27 17 = .ok (.aload_n 0, 1) := by decide +kernel
theorem d27_18 : decode k27 18 = .ok (.getfield 9, 3) := by decide +kernel
theorem d27_21 : decode k27 21 = .ok (.arraylength, 1) := by decide +kernel
theorem d27_22 : decode k27 22 = .ok (.invokestatic 212, 3) := by decide +kernel
theorem d27_25 : decode k27 25 = .ok (.goto 18, 3) := by decide +kernel
theorem d27_43 : decode k27 43 = .ok (.return_, 1) := by decide +kernel
theorem d28_0 : decode k28 0 = .ok (.aload_n 0, 1) := by decide +kernel
theorem d28_1 : decode k28 1 = .ok (.iload_n 1, 1) := by decide +kernel
theorem d28_2 : decode k28 2 = .ok (.invokespecial 50, 3) := by decide +kernel
theorem d28_5 : decode k28 5 = .ok (.pop, 1) := by decide +kernel
theorem d28_6 : decode k28 6 = .ok (.aload_n 0, 1) := by decide +kernel
theorem d28_7 : decode k28 7 = .ok (.areturn, 1) := by decide +kernel
theorem d29_0 : decode k29 0 = .ok (.aload_n 0, 1) := by decide +kernel
theorem d29_1 : decode k29 1 = .ok (.aload_n 0, 1) := by decide +kernel
theorem d29_2 : decode k29 2 = .ok (.getfield 79, 3) := by decide +kernel
theorem d29_5 : decode k29 5 = .ok (.iconst 1, 1) := by decide +kernel
theorem d29_6 : decode k29 6 = .ok (.iadd, 1) := by decide +kernel
theorem d29_7 : decode k29 7 = .ok (.invokevirtual 100, 3) := by decide +kernel
theorem d29_10 : decode k29 10 = .ok (.aload_n 0, 1) := by decide +kernel
theorem d29_11 : decode k29 11 = .ok (.invokevirtual 83, 3) := by decide +kernel
theorem d29_14 : decode k29 14 = .ok (.ifCond .eq 31, 3) := by decide +kernel
theorem d29_17 : decode k29 17 = .ok (.iload_n 1, 1) := by decide +kernel
theorem d29_18 : decode k29 18 = .ok (.invokestatic 191, 3) := by decide +kernel
theorem d29_21 : decode k29 21 = .ok (.ifCond .eq 24, 3) := by decide +kernel
theorem d29_24 : decode k29 24 = .ok (.aload_n 0, 1) := by decide +kernel
theorem d29_25 : decode k29 25 = .ok (.getfield 15, 3) := by decide +kernel
theorem d29_28 : decode k29 28 = .ok (.aload_n 0, 1) := by decide +kernel
theorem d29_29 : decode k29 29 = .ok (.dup, 1) := by decide +kernel
theorem d29_30 : decode k29 30 = .ok (.getfield 79, 3) := by decide +kernel
theorem d29_33 : decode k29 33 = .ok (.dup_x1, 1) := by decide +kernel
theorem d29_34 : decode k29 34 = .ok (.iconst 1, 1) := by decide +kernel
theorem d29_35 : decode k29 35 = .ok (.iadd, 1) := by decide +kernel
theorem d29_36 : decode k29 36 = .ok (.putfield 79, 3) := by decide +kernel
theorem d29_39 : decode k29 39 = .ok (.iload_n 1, 1) := by decide +kernel
theorem d29_40 : decode k29 40 = .ok (.i2b, 1) := by decide +kernel
theorem d29_41 : decode k29 41 = .ok (.bastore, 1) := by decide +kernel
theorem d29_42 : decode k29 42 = .ok (.goto 33, 3) := by decide +kernel
theorem d29_75 : decode k29 75 = .ok (.aload_n 0, 1) := by decide +kernel
theorem d29_76 : decode k29 76 = .ok (.areturn, 1) := by decide +kernel
theorem d30_0 : decode k30 0 = .ok (.getstatic 18, 3) := by decide +kernel
theorem d30_3 : decode k30 3 = .ok (.ifCond .eq 14, 3) := by decide +kernel
theorem d30_6 : decode k30 6 = .ok (.aload_n 0, 1) := by decide +kernel
theorem d30_7 : decode k30 7 = .ok (.getfield 22, 3) := by decide +kernel
theorem d30_10 : decode k30 10 = .ok (.ifCond .ne 7, 3) := by decide +kernel
theorem d30_13 : decode k30 13 = .ok (.iconst 1, 1) := by decide +kernel
theorem d30_14 : decode k30 14 = .ok (.goto 4, 3) := by decide +kernel
theorem d30_18 : decode k30 18 = .ok (.ireturn, 1) := by decide +kernel
theorem d31_0 : decode k31 0 = .ok (.iload_n 0, 1) := by decide +kernel
theorem d31_1 : decode k31 1 = .ok (.sipush 255, 3) := by decide +kernel
theorem d31_4 : decode k31 4 = .ok (.if_icmp .gt 7, 3) := by decide +kernel
theorem d31_7 : decode k31 7 = .ok (.iconst 1, 1) := by decide +kernel
theorem d31_8 : decode k31 8 = .ok (.goto 4, 3) := by decide +kernel
theorem d31_12 : decode k31 12 = .ok (.ireturn, 1) := by decide +kernel
theorem d32_0 : decode k32 0 = .ok (.new 18, 3) := by decide +kernel
theorem d32_3 : decode k32 3 = .ok (.dup, 1) := by decide +kernel
theorem d32_4 : decode k32 4 = .ok (.aload_n 0, 1) := by decide +kernel
theorem d32_5 : decode k32 5 = .ok (.invokespecial 137, 3) := by decide +kernel
theorem d32_8 : decode k32 8 = .ok (.areturn, 1) := by decide +kernel
theorem d33_0 : decode k33 0 = .ok (.aload_n 0, 1) := by decide +kernel
theorem d33_1 : decode k33 1 = .ok (.aload_n 1, 1) := by decide +kernel
theorem d33_2 : decode k33 2 = .ok (.aconst_null, 1) := by decide +kernel
theorem d33_3 : decode k33 3 = .ok (.invokespecial 489, 3) := by decide +kernel
theorem d33_6 : decode k33 6 = .ok (.return_, 1) := by decide +kernel
theorem d34_0 : decode k34 0 = .ok (.aload_n 0, 1) := by decide +kernel
theorem d34_1 : decode k34 1 = .ok (.invokespecial 1, 3) := by decide +kernel
theorem d34_4 : decode k34 4 = .ok (.aload_n 1, 1) := by decide +kernel
theorem d34_5 : decode k34 5 = .ok (.invokevirtual 552, 3) := by decide +kernel
theorem d34_8 : decode k34 8 = .ok (.astore_n 3, 1) := by decide +kernel
theorem d34_9 : decode k34 9 = .ok (.aload_n 1, 1) := by decide +kernel
theorem d34_10 : decode k34 10 = .ok (.invokevirtual 549, 3) := by decide +kernel
theorem d34_13 : decode k34 13 = .ok (.istore 4, 2) := by decide +kernel
theorem d34_15 : decode k34 15 = .ok (.aload_n 1, 1) := by decide +kernel
theorem d34_16 : decode k34 16 = .ok (.invokevirtual 1047, 3) := by decide +kernel
theorem d34_19 : decode k34 19 = .ok (.ifCond .eq 22, 3) := by decide +kernel
theorem d34_22 : decode k34 22 = .ok (.aload_n 0, 1) := by decide +kernel
theorem d34_23 : decode k34 23 = .ok (.iconst 0, 1) := by decide +kernel
theorem d34_24 : decode k34 24 = .ok (.putfield 15, 3) := by decide +kernel
theorem d34_27 : decode k34 27 = .ok (.aload_n 0, 1) := by decide +kernel
theorem d34_28 : decode k34 28 = .ok (.aload_n 3, 1) := by decide +kernel
theorem d34_29 : decode k34 29 = .ok (.iconst 0, 1) := by decide +kernel
theorem d34_30 : decode k34 30 = .ok (.iload 4, 2) := by decide +kernel
theorem d34_32 : decode k34 32 = .ok (.invokestatic 54, 3) := by decide +kernel
theorem d34_35 : decode k34 35 = .ok (.putfield 9, 3) := by decide +kernel
theorem d34_38 : decode k34 38 = .ok (.goto 59, 3) := by decide +kernel
theorem d34_97 : decode k34 97 = .ok (.return_, 1) := by decide +kernel
theorem d35_0 : decode k35 0 = .ok (.aload_n 0, 1) := by decide +kernel
theorem d35_1 : decode k35 1 = .ok (.getfield 15, 3) := by decide +kernel
theorem d35_4 : decode k35 4 = .ok (.areturn, 1) := by decide +kernel
theorem d36_0 : decode k36 0 = .ok (.aload_n 0, 1) := by decide +kernel
theorem d36_1 : decode k36 1 = .ok (.invokespecial 343, 3) := by decide +kernel
theorem d36_4 : decode k36 4 = .ok (.ireturn, 1) := by decide +kernel
theorem d37_0 : decode k37 0 = .ok (.aload_n 0, 1) := by decide +kernel
theorem d37_1 : decode k37 1 = .ok (.getfield 79, 3) := by decide +kernel
theorem d37_4 : decode k37 4 = .ok (.ireturn, 1) := by decide +kernel
theorem d38_0 : decode k38 0 = .ok (.iload_n 1, 1) := by decide +kernel
theorem d38_1 : decode k38 1 = .ok (.ifCond .ne 9, 3) := by decide +kernel
theorem d38_4 : decode k38 4 = .ok (.iload_n 2, 1) := by decide +kernel
theorem d38_5 : decode k38 5 = .ok (.aload_n 0, 1) := by decide +kernel
theorem d38_6 : decode k38 6 = .ok (.arraylength, 1) := by decide +kernel
theorem d38_7 : decode k38 7 = .ok (.if_icmp .eq 10, 3) := by decide +kernel
theorem d38_10 : decode k38 10 = .ok (.aload_n 0, 1) := by decide +kernel
theorem d38_11 : decode k38 11 = .ok (.iload_n 1, 1) := by decide +kernel
theorem d38_12 : decode k38 12 = .ok (.iload_n 2, 1) := by decide +kernel
theorem d38_13 : decode k38 13 = .ok (.invokestatic 339, 3) := by decide +kernel
theorem d38_16 : decode k38 16 = .ok (.areturn, 1) := by decide +kernel
theorem d39_0 : decode k39 0 = .ok (.iload_n 1, 1) := by decide +kernel
theorem d39_1 : decode k39 1 = .ok (.iload_n 2, 1) := by decide +kernel
theorem d39_2 : decode k39 2 = .ok (.invokestatic 343, 3) := by decide +kernel
theorem d39_5 : decode k39 5 = .ok (.iload_n 2, 1) := by decide +kernel
theorem d39_6 : decode k39 6 = .ok (.iload_n 1, 1) := by decide +kernel
theorem d39_7 : decode k39 7 = .ok (.isub, 1) := by decide +kernel
theorem d39_8 : decode k39 8 = .ok (.istore_n 3, 1) := by decide +kernel
theorem d39_9 : decode k39 9 = .ok (.iload_n 3, 1) := by decide +kernel
theorem d39_10 : decode k39 10 = .ok (.newarray .byte, 2) := by decide +kernel
theorem d39_12 : decode k39 12 = .ok (.astore 4, 2) := by decide +kernel
theorem d39_14 : decode k39 14 = .ok (.aload_n 0, 1) := by decide +kernel
theorem d39_15 : decode k39 15 = .ok (.iload_n 1, 1) := by decide +kernel
theorem d39_16 : decode k39 16 = .ok (.aload 4, 2) := by decide +kernel
theorem d39_18 : decode k39 18 = .ok (.iconst 0, 1) := by decide +kernel
theorem d39_19 : decode k39 19 = .ok (.aload_n 0, 1) := by decide +kernel
theorem d39_20 : decode k39 20 = .ok (.arraylength, 1) := by decide +kernel
theorem d39_21 : decode k39 21 = .ok (.iload_n 1, 1) := by decide +kernel
theorem d39_22 : decode k39 22 = .ok (.isub, 1) := by decide +kernel
theorem d39_23 : decode k39 23 = .ok (.iload_n 3, 1) := by decide +kernel
theorem d39_24 : decode k39 24 = .ok (.invokestatic 304, 3) := by decide +kernel
theorem d39_27 : decode k39 27 = .ok (.invokestatic 150, 3) := by decide +kernel
theorem d39_30 : decode k39 30 = .ok (.aload 4, 2) := by decide +kernel
theorem d39_32 : decode k39 32 = .ok (.areturn, 1) := by decide +kernel
theorem d40_0 : decode k40 0 = .ok (.iload_n 1, 1) := by decide +kernel
theorem d40_1 : decode k40 1 = .ok (.iload_n 0, 1) := by decide +kernel
theorem d40_2 : decode k40 2 = .ok (.if_icmp .ge 35, 3) := by decide +kernel
theorem d40_37 : decode k40 37 = .ok (.return_, 1) := by decide +kernel
theorem d41_0 : decode k41 0 = .ok (.iload_n 0, 1) := by decide +kernel
theorem d41_1 : decode k41 1 = .ok (.iload_n 1, 1) := by decide +kernel
theorem d41_2 : decode k41 2 = .ok (.if_icmp .gt 7, 3) := by decide +kernel
theorem d41_5 : decode k41 5 = .ok (.iload_n 0, 1) := by decide +kernel
theorem d41_6 : decode k41 6 = .ok (.goto 4, 3) := by decide +kernel
theorem d41_9 : decode k41 9 = .ok (.iload_n 1, 1) := by decide +kernel
theorem d41_10 : decode k41 10 = .ok (.ireturn, 1) := by decide +kernel
theorem d42_0 : decode k42 0 = .ok (.aload_n 0, 1) := by decide +kernel
theorem d42_1 : decode k42 1 = .ok (.arraylength, 1) := by decide +kernel
theorem d42_2 : decode k42 2 = .ok (.aload_n 1, 1) := by decide +kernel
theorem d42_3 : decode k42 3 = .ok (.arraylength, 1) := by decide +kernel
theorem d42_4 : decode k42 4 = .ok (.if_icmp .ne 30, 3) := by decide +kernel
theorem d42_7 : decode k42 7 = .ok (.iconst 0, 1) := by decide +kernel
theorem d42_8 : decode k42 8 = .ok (.istore_n 2, 1) := by decide +kernel
theorem d42_9 : decode k42 9 = .ok (.iload_n 2, 1) := by decide +kernel
theorem d42_10 : decode k42 10 = .ok (.aload_n 0, 1) := by decide +kernel
theorem d42_11 : decode k42 11 = .ok (.arraylength, 1) := by decide +kernel
theorem d42_12 : decode k42 12 = .ok (.if_icmp .ge 20, 3) := by decide +kernel
theorem d42_15 : decode k42 15 = .ok (.aload_n 0, 1) := by decide +kernel
theorem d42_16 : decode k42 16 = .ok (.iload_n 2, 1) := by decide +kernel
theorem d42_17 : decode k42 17 = .ok (.baload, 1) := by decide +kernel
theorem d42_18 : decode k42 18 = .ok (.aload_n 1, 1) := by decide +kernel
theorem d42_19 : decode k42 19 = .ok (.iload_n 2, 1) := by decide +kernel
theorem d42_20 : decode k42 20 = .ok (.baload, 1) := by decide +kernel
theorem d42_21 : decode k42 21 = .ok (.if_icmp .eq 5, 3) := by decide +kernel
theorem d42_26 : decode k42 26 = .ok (.iinc 2 1, 3) := by decide +kernel
theorem d42_29 : decode k42 29 = .ok (.goto (-20), 3) := by decide +kernel
theorem d42_32 : decode k42 32 = .ok (.iconst 1, 1) := by decide +kernel
theorem d42_33 : decode k42 33 = .ok (.ireturn, 1) := by decide +kernel
theorem d43_0 : decode k43 0 = .ok (.aload_n 1, 1) := by decide +kernel
theorem d43_1 : decode k43 1 = .ok (.ldc 59, 2) := by decide +kernel
theorem d43_3 : decode k43 3 = .ok (.invokestatic 26, 3) := by decide +kernel
theorem d43_6 : decode k43 6 = .ok (.pop, 1) := by decide +kernel
theorem d43_7 : decode k43 7 = .ok (.aload_n 0, 1) := by decide +kernel
theorem d43_8 : decode k43 8 = .ok (.getfield 7, 3) := by decide +kernel
theorem d43_11 : decode k43 11 = .ok (.ifCond .ne 28, 3) := by decide +kernel
theorem d43_14 : decode k43 14 = .ok (.aload_n 1, 1) := by decide +kernel
theorem d43_15 : decode k43 15 = .ok (.getfield 7, 3) := by decide +kernel
theorem d43_18 : decode k43 18 = .ok (.ifCond .ne 21, 3) := by decide +kernel
theorem d43_21 : decode k43 21 = .ok (.aload_n 0, 1) := by decide +kernel
theorem d43_22 : decode k43 22 = .ok (.getfield 13, 3) := by decide +kernel
theorem d43_25 : decode k43 25 = .ok (.aload_n 1, 1) := by decide +kernel
theorem d43_26 : decode k43 26 = .ok (.getfield 13, 3) := by decide +kernel
theorem d43_29 : decode k43 29 = .ok (.invokevirtual 61, 3) := by decide +kernel
theorem d43_32 : decode k43 32 = .ok (.ifCond .eq 7, 3) := by decide +kernel
theorem d43_35 : decode k43 35 = .ok (.iconst 1, 1) := by decide +kernel
theorem d43_36 : decode k43 36 = .ok (.goto 4, 3) := by decide +kernel
theorem d43_40 : decode k43 40 = .ok (.ireturn, 1) := by decide +kernel
theorem d44_0 : decode k44 0 = .ok (.aload_n 0, 1) := by decide +kernel
theorem d44_1 : decode k44 1 = .ok (.ldc 24, 2) := by decide +kernel
theorem d44_3 : decode k44 3 = .ok (.invokestatic 26, 3) := by decide +kernel
theorem d44_6 : decode k44 6 = .ok (.pop, 1) := by decide +kernel
theorem d44_7 : decode k44 7 = .ok (.aload_n 0, 1) := by decide +kernel
theorem d44_8 : decode k44 8 = .ok (.ldc 32, 2) := by decide +kernel
theorem d44_10 : decode k44 10 = .ok (.invokevirtual 34, 3) := by decide +kernel
theorem d44_13 : decode k44 13 = .ok (.istore_n 1, 1) := by decide +kernel
theorem d44_14 : decode k44 14 = .ok (.iload_n 1, 1) := by decide +kernel
theorem d44_15 : decode k44 15 = .ok (.ifCond .eq 11, 3) := by decide +kernel
theorem d44_26 : decode k44 26 = .ok (.iconst 0, 1) := by decide +kernel
theorem d44_27 : decode k44 27 = .ok (.istore_n 2, 1) := by decide +kernel
theorem d44_28 : decode k44 28 = .ok (.aload_n 0, 1) := by decide +kernel
theorem d44_29 : decode k44 29 = .ok (.invokevirtual 40, 3) := by decide +kernel
theorem d44_32 : decode k44 32 = .ok (.iconst 1, 1) := by decide +kernel
theorem d44_33 : decode k44 33 = .ok (.isub, 1) := by decide +kernel
theorem d44_34 : decode k44 34 = .ok (.istore_n 3, 1) := by decide +kernel
theorem d44_35 : decode k44 35 = .ok (.iload_n 3, 1) := by decide +kernel
theorem d44_36 : decode k44 36 = .ok (.iload_n 2, 1) := by decide +kernel
theorem d44_37 : decode k44 37 = .ok (.if_icmp .le 23, 3) := by decide +kernel
theorem d44_40 : decode k44 40 = .ok (.aload_n 0, 1) := by decide +kernel
theorem d44_41 : decode k44 41 = .ok (.iload_n 2, 1) := by decide +kernel
theorem d44_42 : decode k44 42 = .ok (.invokevirtual 44, 3) := by decide +kernel
theorem d44_45 : decode k44 45 = .ok (.bipush 34, 2) := by decide +kernel
theorem d44_47 : decode k44 47 = .ok (.if_icmp .ne 13, 3) := by decide +kernel
theorem d44_50 : decode k44 50 = .ok (.aload_n 0, 1) := by decide +kernel
theorem d44_51 : decode k44 51 = .ok (.iload_n 3, 1) := by decide +kernel
theorem d44_52 : decode k44 52 = .ok (.invokevirtual 44, 3) := by decide +kernel
theorem d44_55 : decode k44 55 = .ok (.bipush 34, 2) := by decide +kernel
theorem d44_57 : decode k44 57 = .ok (.if_icmp .eq 13, 3) := by decide +kernel
theorem d44_70 : decode k44 70 = .ok (.aload_n 0, 1) := by decide +kernel
theorem d44_71 : decode k44 71 = .ok (.iload_n 2, 1) := by decide +kernel
theorem d44_72 : decode k44 72 = .ok (.iconst 1, 1) := by decide +kernel
theorem d44_73 : decode k44 73 = .ok (.iadd, 1) := by decide +kernel
theorem d44_74 : decode k44 74 = .ok (.iload_n 3, 1) := by decide +kernel
theorem d44_75 : decode k44 75 = .ok (.invokevirtual 55, 3) := by decide +kernel
theorem d44_78 : decode k44 78 = .ok (.iload_n 2, 1) := by decide +kernel
theorem d44_79 : decode k44 79 = .ok (.iconst 1, 1) := by decide +kernel
theorem d44_80 : decode k44 80 = .ok (.iadd, 1) := by decide +kernel
theorem d44_81 : decode k44 81 = .ok (.invokestatic 17, 3) := by decide +kernel
theorem d44_84 : decode k44 84 = .ok (.astore 4, 2) := by decide +kernel
theorem d44_86 : decode k44 86 = .ok (.new 8, 3) := by decide +kernel
theorem d44_89 : decode k44 89 = .ok (.dup, 1) := by decide +kernel
theorem d44_90 : decode k44 90 = .ok (.iload_n 1, 1) := by decide +kernel
theorem d44_91 : decode k44 91 = .ok (.aload 4, 2) := by decide +kernel
theorem d44_93 : decode k44 93 = .ok (.invokespecial 21, 3) := by decide +kernel
theorem d44_96 : decode k44 96 = .ok (.areturn, 1) := by decide +kernel
theorem d45_0 : decode k45 0 = .ok (.aload_n 0, 1) := by decide +kernel
theorem d45_1 : decode k45 1 = .ok (.aload_n 1, 1) := by decide +kernel
theorem d45_2 : decode k45 2 = .ok (.iconst 0, 1) := by decide +kernel
theorem d45_3 : decode k45 3 = .ok (.invokevirtual 624, 3) := by decide +kernel
theorem d45_6 : decode k45 6 = .ok (.ireturn, 1) := by decide +kernel
theorem d46_0 : decode k46 0 = .ok (.iload_n 2, 1) := by decide +kernel
theorem d46_1 : decode k46 1 = .ok (.ifCond .lt 16, 3) := by decide +kernel
theorem d46_4 : decode k46 4 = .ok (.iload_n 2, 1) := by decide +kernel
theorem d46_5 : decode k46 5 = .ok (.aload_n 0, 1) := by decide +kernel
theorem d46_6 : decode k46 6 = .ok (.invokevirtual 505, 3) := by decide +kernel
theorem d46_9 : decode k46 9 = .ok (.aload_n 1, 1) := by decide +kernel
theorem d46_10 : decode k46 10 = .ok (.invokevirtual 505, 3) := by decide +kernel
theorem d46_13 : decode k46 13 = .ok (.isub, 1) := by decide +kernel
theorem d46_14 : decode k46 14 = .ok (.if_icmp .le 5, 3) := by decide +kernel
theorem d46_19 : decode k46 19 = .ok (.aload_n 0, 1) := by decide +kernel
theorem d46_20 : decode k46 20 = .ok (.getfield 9, 3) := by decide +kernel
theorem d46_23 : decode k46 23 = .ok (.astore_n 3, 1) := by decide +kernel
theorem d46_24 : decode k46 24 = .ok (.aload_n 1, 1) := by decide +kernel
theorem d46_25 : decode k46 25 = .ok (.getfield 9, 3) := by decide +kernel
theorem d46_28 : decode k46 28 = .ok (.astore 4, 2) := by decide +kernel
theorem d46_30 : decode k46 30 = .ok (.iconst 0, 1) := by decide +kernel
theorem d46_31 : decode k46 31 = .ok (.istore 5, 2) := by decide +kernel
theorem d46_33 : decode k46 33 = .ok (.aload 4, 2) := by decide +kernel
theorem d46_35 : decode k46 35 = .ok (.arraylength, 1) := by decide +kernel
theorem d46_36 : decode k46 36 = .ok (.istore 6, 2) := by decide +kernel
theorem d46_38 : decode k46 38 = .ok (.aload_n 0, 1) := by decide +kernel
theorem d46_39 : decode k46 39 = .ok (.invokevirtual 335, 3) := by decide +kernel
theorem d46_42 : decode k46 42 = .ok (.istore 7, 2) := by decide +kernel
theorem d46_44 : decode k46 44 = .ok (.iload 7, 2) := by decide +kernel
theorem d46_46 : decode k46 46 = .ok (.aload_n 1, 1) := by decide +kernel
theorem d46_47 : decode k46 47 = .ok (.invokevirtual 335, 3) := by decide +kernel
theorem d46_50 : decode k46 50 = .ok (.if_icmp .ne 32, 3) := by decide +kernel
theorem d46_53 : decode k46 53 = .ok (.iload 7, 2) := by decide +kernel
theorem d46_55 : decode k46 55 = .ok (.iconst 1, 1) := by decide +kernel
theorem d46_56 : decode k46 56 = .ok (.if_icmp .ne 7, 3) := by decide +kernel
theorem d46_63 : decode k46 63 = .ok (.aload_n 3, 1) := by decide +kernel
theorem d46_64 : decode k46 64 = .ok (.iload_n 2, 1) := by decide +kernel
theorem d46_65 : decode k46 65 = .ok (.aload 4, 2) := by decide +kernel
theorem d46_67 : decode k46 67 = .ok (.iconst 0, 1) := by decide +kernel
theorem d46_68 : decode k46 68 = .ok (.iload 6, 2) := by decide +kernel
theorem d46_70 : decode k46 70 = .ok (.invokestatic 607, 3) := by decide +kernel
theorem d46_73 : decode k46 73 = .ok (.ifCond .ge 7, 3) := by decide +kernel
theorem d46_80 : decode k46 80 = .ok (.iconst 0, 1) := by decide +kernel
theorem d46_81 : decode k46 81 = .ok (.ireturn, 1) := by decide +kernel
theorem d47_0 : decode k47 0 = .ok (.iconst 0, 1) := by decide +kernel
theorem d47_1 : decode k47 1 = .ok (.istore 5, 2) := by decide +kernel
theorem d47_3 : decode k47 3 = .ok (.iload 4, 2) := by decide +kernel
theorem d47_5 : decode k47 5 = .ok (.bipush 7, 2) := by decide +kernel
theorem d47_7 : decode k47 7 = .ok (.if_icmp .le 63, 3) := by decide +kernel
theorem d47_70 : decode k47 70 = .ok (.iload 5, 2) := by decide +kernel
theorem d47_72 : decode k47 72 = .ok (.iload 4, 2) := by decide +kernel
theorem d47_74 : decode k47 74 = .ok (.if_icmp .ge 27, 3) := by decide +kernel
theorem d47_77 : decode k47 77 = .ok (.aload_n 0, 1) := by decide +kernel
theorem d47_78 : decode k47 78 = .ok (.iload_n 1, 1) := by decide +kernel
theorem d47_79 : decode k47 79 = .ok (.iload 5, 2) := by decide +kernel
theorem d47_81 : decode k47 81 = .ok (.iadd, 1) := by decide +kernel
theorem d47_82 : decode k47 82 = .ok (.baload, 1) := by decide +kernel
theorem d47_83 : decode k47 83 = .ok (.aload_n 2, 1) := by decide +kernel
theorem d47_84 : decode k47 84 = .ok (.iload_n 3, 1) := by decide +kernel
theorem d47_85 : decode k47 85 = .ok (.iload 5, 2) := by decide +kernel
theorem d47_87 : decode k47 87 = .ok (.iadd, 1) := by decide +kernel
theorem d47_88 : decode k47 88 = .ok (.baload, 1) := by decide +kernel
theorem d47_89 : decode k47 89 = .ok (.if_icmp .eq 6, 3) := by decide +kernel
theorem d47_92 : decode k47 92 = .ok (.iload 5, 2) := by decide +kernel
theorem d47_94 : decode k47 94 = .ok (.ireturn, 1) := by decide +kernel
theorem d48_0 : decode k48 0 = .ok (.aload_n 0, 1) := by decide +kernel
theorem d48_1 : decode k48 1 = .ok (.invokevirtual 492, 3) := by decide +kernel
theorem d48_4 : decode k48 4 = .ok (.ifCond .eq 12, 3) := by decide +kernel
theorem d48_7 : decode k48 7 = .ok (.aload_n 0, 1) := by decide +kernel
theorem d48_8 : decode k48 8 = .ok (.getfield 9, 3) := by decide +kernel
theorem d48_11 : decode k48 11 = .ok (.iload_n 1, 1) := by decide +kernel
theorem d48_12 : decode k48 12 = .ok (.invokestatic 495, 3) := by decide +kernel
theorem d48_15 : decode k48 15 = .ok (.ireturn, 1) := by decide +kernel
theorem d49_0 : decode k49 0 = .ok (.getstatic 38, 3) := by decide +kernel
theorem d49_3 : decode k49 3 = .ok (.ifCond .eq 14, 3) := by decide +kernel
theorem d49_6 : decode k49 6 = .ok (.aload_n 0, 1) := by decide +kernel
theorem d49_7 : decode k49 7 = .ok (.getfield 15, 3) := by decide +kernel
theorem d49_10 : decode k49 10 = .ok (.ifCond .ne 7, 3) := by decide +kernel
theorem d49_13 : decode k49 13 = .ok (.iconst 1, 1) := by decide +kernel
theorem d49_14 : decode k49 14 = .ok (.goto 4, 3) := by decide +kernel
theorem d49_18 : decode k49 18 = .ok (.ireturn, 1) := by decide +kernel
theorem d50_0 : decode k50 0 = .ok (.iload_n 1, 1) := by decide +kernel
theorem d50_1 : decode k50 1 = .ok (.aload_n 0, 1) := by decide +kernel
theorem d50_2 : decode k50 2 = .ok (.arraylength, 1) := by decide +kernel
theorem d50_3 : decode k50 3 = .ok (.invokestatic 9, 3) := by decide +kernel
theorem d50_6 : decode k50 6 = .ok (.aload_n 0, 1) := by decide +kernel
theorem d50_7 : decode k50 7 = .ok (.iload_n 1, 1) := by decide +kernel
theorem d50_8 : decode k50 8 = .ok (.baload, 1) := by decide +kernel
theorem d50_9 : decode k50 9 = .ok (.sipush 255, 3) := by decide +kernel
theorem d50_12 : decode k50 12 = .ok (.iand, 1) := by decide +kernel
theorem d50_13 : decode k50 13 = .ok (.i2c, 1) := by decide +kernel
theorem d50_14 : decode k50 14 = .ok (.ireturn, 1) := by decide +kernel
theorem d51_0 : decode k51 0 = .ok (.iload_n 0, 1) := by decide +kernel
theorem d51_1 : decode k51 1 = .ok (.iload_n 1, 1) := by decide +kernel
theorem d51_2 : decode k51 2 = .ok (.getstatic 1053, 3) := by decide +kernel
theorem d51_5 : decode k51 5 = .ok (.invokestatic 1059, 3) := by decide +kernel
theorem d51_8 : decode k51 8 = .ok (.pop, 1) := by decide +kernel
theorem d51_9 : decode k51 9 = .ok (.return_, 1) := by decide +kernel
theorem d52_0 : decode k52 0 = .ok (.iload_n 0, 1) := by decide +kernel
theorem d52_1 : decode k52 1 = .ok (.ifCond .lt 8, 3) := by decide +kernel
theorem d52_4 : decode k52 4 = .ok (.iload_n 0, 1) := by decide +kernel
theorem d52_5 : decode k52 5 = .ok (.iload_n 1, 1) := by decide +kernel
theorem d52_6 : decode k52 6 = .ok (.if_icmp .lt 10, 3) := by decide +kernel
theorem d52_16 : decode k52 16 = .ok (.iload_n 0, 1) := by decide +kernel
theorem d52_17 : decode k52 17 = .ok (.ireturn, 1) := by decide +kernel
theorem d53_0 : decode k53 0 = .ok (.aload_n 0, 1) := by decide +kernel
theorem d53_1 : decode k53 1 = .ok (.invokevirtual 505, 3) := by decide +kernel
theorem d53_4 : decode k53 4 = .ok (.istore_n 3, 1) := by decide +kernel
theorem d53_5 : decode k53 5 = .ok (.iload_n 1, 1) := by decide +kernel
theorem d53_6 : decode k53 6 = .ok (.iload_n 2, 1) := by decide +kernel
theorem d53_7 : decode k53 7 = .ok (.iload_n 3, 1) := by decide +kernel
theorem d53_8 : decode k53 8 = .ok (.invokestatic 521, 3) := by decide +kernel
theorem d53_11 : decode k53 11 = .ok (.iload_n 1, 1) := by decide +kernel
theorem d53_12 : decode k53 12 = .ok (.ifCond .ne 10, 3) := by decide +kernel
theorem d53_22 : decode k53 22 = .ok (.iload_n 2, 1) := by decide +kernel
theorem d53_23 : decode k53 23 = .ok (.iload_n 1, 1) := by decide +kernel
theorem d53_24 : decode k53 24 = .ok (.isub, 1) := by decide +kernel
theorem d53_25 : decode k53 25 = .ok (.istore 4, 2) := by decide +kernel
theorem d53_27 : decode k53 27 = .ok (.aload_n 0, 1) := by decide +kernel
theorem d53_28 : decode k53 28 = .ok (.invokevirtual 492, 3) := by decide +kernel
theorem d53_31 : decode k53 31 = .ok (.ifCond .eq 16, 3) := by decide +kernel
theorem d53_34 : decode k53 34 = .ok (.aload_n 0, 1) := by decide +kernel
theorem d53_35 : decode k53 35 = .ok (.getfield 9, 3) := by decide +kernel
theorem d53_38 : decode k53 38 = .ok (.iload_n 1, 1) := by decide +kernel
theorem d53_39 : decode k53 39 = .ok (.iload 4, 2) := by decide +kernel
theorem d53_41 : decode k53 41 = .ok (.invokestatic 685, 3) := by decide +kernel
theorem d53_44 : decode k53 44 = .ok (.goto 13, 3) := by decide +kernel
theorem d53_57 : decode k53 57 = .ok (.areturn, 1) := by decide +kernel
theorem d54_0 : decode k54 0 = .ok (.iload_n 0, 1) := by decide +kernel
theorem d54_1 : decode k54 1 = .ok (.iload_n 1, 1) := by decide +kernel
theorem d54_2 : decode k54 2 = .ok (.iload_n 2, 1) := by decide +kernel
theorem d54_3 : decode k54 3 = .ok (.getstatic 1053, 3) := by decide +kernel
theorem d54_6 : decode k54 6 = .ok (.invokestatic 1062, 3) := by decide +kernel
theorem d54_9 : decode k54 9 = .ok (.pop, 1) := by decide +kernel
theorem d54_10 : decode k54 10 = .ok (.return_, 1) := by decide +kernel
theorem d55_0 : decode k55 0 = .ok (.iload_n 0, 1) := by decide +kernel
theorem d55_1 : decode k55 1 = .ok (.ifCond .lt 13, 3) := by decide +kernel
theorem d55_4 : decode k55 4 = .ok (.iload_n 0, 1) := by decide +kernel
theorem d55_5 : decode k55 5 = .ok (.iload_n 1, 1) := by decide +kernel
theorem d55_6 : decode k55 6 = .ok (.if_icmp .gt 8, 3) := by decide +kernel
theorem d55_9 : decode k55 9 = .ok (.iload_n 1, 1) := by decide +kernel
theorem d55_10 : decode k55 10 = .ok (.iload_n 2, 1) := by decide +kernel
theorem d55_11 : decode k55 11 = .ok (.if_icmp .le 11, 3) := by decide +kernel
theorem d55_22 : decode k55 22 = .ok (.iload_n 0, 1) := by decide +kernel
theorem d55_23 : decode k55 23 = .ok (.ireturn, 1) := by decide +kernel
theorem d56_0 : decode k56 0 = .ok (.iload_n 2, 1) := by decide +kernel
theorem d56_1 : decode k56 1 = .ok (.ifCond .ne 6, 3) := by decide +kernel
theorem d56_4 : decode k56 4 = .ok (.ldc 151, 2) := by decide +kernel
theorem d56_6 : decode k56 6 = .ok (.areturn, 1) := by decide +kernel
theorem d56_7 : decode k56 7 = .ok (.new 1, 3) := by decide +kernel
theorem d56_10 : decode k56 10 = .ok (.dup, 1) := by decide +kernel
theorem d56_11 : decode k56 11 = .ok (.aload_n 0, 1) := by decide +kernel
theorem d56_12 : decode k56 12 = .ok (.iload_n 1, 1) := by decide +kernel
theorem d56_13 : decode k56 13 = .ok (.iload_n 1, 1) := by decide +kernel
theorem d56_14 : decode k56 14 = .ok (.iload_n 2, 1) := by decide +kernel
theorem d56_15 : decode k56 15 = .ok (.iadd, 1) := by decide +kernel
theorem d56_16 : decode k56 16 = .ok (.invokestatic 232, 3) := by decide +kernel
theorem d56_19 : decode k56 19 = .ok (.iconst 0, 1) := by decide +kernel
theorem d56_20 : decode k56 20 = .ok (.invokespecial 112, 3) := by decide +kernel
theorem d56_23 : decode k56 23 = .ok (.areturn, 1) := by decide +kernel
theorem d57_0 : decode k57 0 = .ok (.aload_n 0, 1) := by decide +kernel
theorem d57_1 : decode k57 1 = .ok (.aload_n 1, 1) := by decide +kernel
theorem d57_2 : decode k57 2 = .ok (.if_acmp .ne 5, 3) := by decide +kernel
theorem d57_7 : decode k57 7 = .ok (.aload_n 1, 1) := by decide +kernel
theorem d57_8 : decode k57 8 = .ok (.instanceof 8, 3) := by decide +kernel
theorem d57_11 : decode k57 11 = .ok (.ifCond .ne 5, 3) := by decide +kernel
theorem d57_16 : decode k57 16 = .ok (.aload_n 1, 1) := by decide +kernel
theorem d57_17 : decode k57 17 = .ok (.checkcast 8, 3) := by decide +kernel
theorem d57_20 : decode k57 20 = .ok (.astore_n 2, 1) := by decide +kernel
theorem d57_21 : decode k57 21 = .ok (.aload_n 0, 1) := by decide +kernel
theorem d57_22 : decode k57 22 = .ok (.getfield 7, 3) := by decide +kernel
theorem d57_25 : decode k57 25 = .ok (.aload_n 2, 1) := by decide +kernel
theorem d57_26 : decode k57 26 = .ok (.getfield 7, 3) := by decide +kernel
theorem d57_29 : decode k57 29 = .ok (.if_icmp .ne 21, 3) := by decide +kernel
theorem d57_32 : decode k57 32 = .ok (.aload_n 0, 1) := by decide +kernel
theorem d57_33 : decode k57 33 = .ok (.getfield 13, 3) := by decide +kernel
theorem d57_36 : decode k57 36 = .ok (.aload_n 2, 1) := by decide +kernel
theorem d57_37 : decode k57 37 = .ok (.getfield 13, 3) := by decide +kernel
theorem d57_40 : decode k57 40 = .ok (.invokevirtual 61, 3) := by decide +kernel
theorem d57_43 : decode k57 43 = .ok (.ifCond .eq 7, 3) := by decide +kernel
theorem d57_46 : decode k57 46 = .ok (.iconst 1, 1) := by decide +kernel
theorem d57_47 : decode k57 47 = .ok (.goto 4, 3) := by decide +kernel
theorem d57_51 : decode k57 51 = .ok (.ireturn, 1) := by decide +kernel
theorem d58_0 : decode k58 0 = .ok (.aload_n 0, 1) := by decide +kernel
theorem d58_1 : decode k58 1 = .ok (.invokespecial 1, 3) := by decide +kernel
theorem d58_4 : decode k58 4 = .ok (.aload_n 0, 1) := by decide +kernel
theorem d58_5 : decode k58 5 = .ok (.aload_n 1, 1) := by decide +kernel
theorem d58_6 : decode k58 6 = .ok (.putfield 9, 3) := by decide +kernel
theorem d58_9 : decode k58 9 = .ok (.aload_n 0, 1) := by decide +kernel
theorem d58_10 : decode k58 10 = .ok (.iload_n 2, 1) := by decide +kernel
theorem d58_11 : decode k58 11 = .ok (.putfield 15, 3) := by decide +kernel
theorem d58_14 : decode k58 14 = .ok (.return_, 1) := by decide +kernel
theorem pd0 : parseMethodDescriptor "([CIILjava/lang/Void;)V" = some ⟨[(.array .char), .int, .int, (.object "java/lang/Void")], none⟩ := by decide +kernel
theorem pd1 : parseMethodDescriptor "([CI[BII)I" = some ⟨[(.array .char), .int, (.array .byte), .int, .int], some .int⟩ := by decide +kernel
theorem pd2 : parseMethodDescriptor "([CII)[B" = some ⟨[(.array .char), .int, .int], some (.array .byte)⟩ := by decide +kernel
theorem pd3 : parseMethodDescriptor "([BI)B" = some ⟨[(.array .byte), .int], some .byte⟩ := by decide +kernel
theorem pd4 : parseMethodDescriptor "()B" = some ⟨[], some .byte⟩ := by decide +kernel
theorem pd5 : parseMethodDescriptor "(IILjava/util/function/BiFunction;)I" = some ⟨[.int, .int, (.object "java/util/function/BiFunction")], some .int⟩ := by decide +kernel
theorem pd6 : parseMethodDescriptor "(II)V" = some ⟨[.int, .int], none⟩ := by decide +kernel
theorem pd7 : parseMethodDescriptor "()Z" = some ⟨[], some .boolean⟩ := by decide +kernel
theorem pd8 : parseMethodDescriptor "([BI)C" = some ⟨[(.array .byte), .int], some .char⟩ := by decide +kernel
theorem pd9 : parseMethodDescriptor "(Ljava/lang/Object;Ljava/lang/String;)Ljava/lang/Object;" = some ⟨[(.object "java/lang/Object"), (.object "java/lang/String")], some (.object "java/lang/Object")⟩ := by decide +kernel
theorem pd10 : parseMethodDescriptor "()I" = some ⟨[], some .int⟩ := by decide +kernel
theorem pd11 : parseMethodDescriptor "(I)C" = some ⟨[.int], some .char⟩ := by decide +kernel
theorem pd12 : parseMethodDescriptor "(Ljava/lang/String;I)Ljava/lang/String;" = some ⟨[(.object "java/lang/String"), .int], some (.object "java/lang/String")⟩ := by decide +kernel
theorem pd13 : parseMethodDescriptor "(ZLjava/lang/String;)V" = some ⟨[.boolean, (.object "java/lang/String")], none⟩ := by decide +kernel
theorem pd14 : parseMethodDescriptor "(I)V" = some ⟨[.int], none⟩ := by decide +kernel
theorem pd15 : parseMethodDescriptor "(Ljava/lang/String;)V" = some ⟨[(.object "java/lang/String")], none⟩ := by decide +kernel
theorem pd16 : parseMethodDescriptor "([BIB)V" = some ⟨[(.array .byte), .int, .byte], none⟩ := by decide +kernel
theorem pd17 : parseMethodDescriptor "(ILjava/lang/String;)V" = some ⟨[.int, (.object "java/lang/String")], none⟩ := by decide +kernel
theorem pd18 : parseMethodDescriptor "(Ljava/lang/String;)Ljava/lang/AbstractStringBuilder;" = some ⟨[(.object "java/lang/String")], some (.object "java/lang/AbstractStringBuilder")⟩ := by decide +kernel
theorem pd19 : parseMethodDescriptor "(C)Z" = some ⟨[.char], some .boolean⟩ := by decide +kernel
theorem pd20 : parseMethodDescriptor "(C)Ljava/lang/AbstractStringBuilder;" = some ⟨[.char], some (.object "java/lang/AbstractStringBuilder")⟩ := by decide +kernel
theorem pd21 : parseMethodDescriptor "(II)I" = some ⟨[.int, .int], some .int⟩ := by decide +kernel
theorem pd22 : parseMethodDescriptor "([BII)[B" = some ⟨[(.array .byte), .int, .int], some (.array .byte)⟩ := by decide +kernel
theorem pd23 : parseMethodDescriptor "()[B" = some ⟨[], some (.array .byte)⟩ := by decide +kernel
theorem pd24 : parseMethodDescriptor "(Ljava/lang/AbstractStringBuilder;Ljava/lang/Void;)V" = some ⟨[(.object "java/lang/AbstractStringBuilder"), (.object "java/lang/Void")], none⟩ := by decide +kernel
theorem pd25 : parseMethodDescriptor "(Ljava/lang/StringBuilder;)V" = some ⟨[(.object "java/lang/StringBuilder")], none⟩ := by decide +kernel
theorem pd26 : parseMethodDescriptor "()V" = some ⟨[], none⟩ := by decide +kernel
theorem pd27 : parseMethodDescriptor "(Ljava/lang/String;)Ljava/lang/StringBuilder;" = some ⟨[(.object "java/lang/String")], some (.object "java/lang/StringBuilder")⟩ := by decide +kernel
theorem pd28 : parseMethodDescriptor "(C)Ljava/lang/StringBuilder;" = some ⟨[.char], some (.object "java/lang/StringBuilder")⟩ := by decide +kernel
theorem pd29 : parseMethodDescriptor "()Ljava/lang/String;" = some ⟨[], some (.object "java/lang/String")⟩ := by decide +kernel
theorem pd30 : parseMethodDescriptor "([B[B)Z" = some ⟨[(.array .byte), (.array .byte)], some .boolean⟩ := by decide +kernel
theorem pd31 : parseMethodDescriptor "(Ljava/lang/Object;)Z" = some ⟨[(.object "java/lang/Object")], some .boolean⟩ := by decide +kernel
theorem pd32 : parseMethodDescriptor "([BI[BII)I" = some ⟨[(.array .byte), .int, (.array .byte), .int, .int], some .int⟩ := by decide +kernel
theorem pd33 : parseMethodDescriptor "(Ljava/lang/String;I)Z" = some ⟨[(.object "java/lang/String"), .int], some .boolean⟩ := by decide +kernel
theorem pd34 : parseMethodDescriptor "(IIILjava/util/function/BiFunction;)I" = some ⟨[.int, .int, .int, (.object "java/util/function/BiFunction")], some .int⟩ := by decide +kernel
theorem pd35 : parseMethodDescriptor "(III)V" = some ⟨[.int, .int, .int], none⟩ := by decide +kernel
theorem pd36 : parseMethodDescriptor "([BII)Ljava/lang/String;" = some ⟨[(.array .byte), .int, .int], some (.object "java/lang/String")⟩ := by decide +kernel
theorem pd37 : parseMethodDescriptor "(Ljava/lang/String;)Z" = some ⟨[(.object "java/lang/String")], some .boolean⟩ := by decide +kernel
theorem pd38 : parseMethodDescriptor "(II)Ljava/lang/String;" = some ⟨[.int, .int], some (.object "java/lang/String")⟩ := by decide +kernel
theorem pd39 : parseMethodDescriptor "([BB)V" = some ⟨[(.array .byte), .byte], none⟩ := by decide +kernel
theorem pd40 : parseMethodDescriptor "(ICCC)[C" = some ⟨[.int, .char, .char, .char], some (.array .char)⟩ := by decide +kernel
theorem pd41 : parseMethodDescriptor "([C)V" = some ⟨[(.array .char)], none⟩ := by decide +kernel
theorem pd42 : parseMethodDescriptor "(Ljava/lang/String;)Lcom/example/match_before_write/matchbeforewrite/EntityTag;" = some ⟨[(.object "java/lang/String")], some (.object "com/example/match_before_write/matchbeforewrite/EntityTag")⟩ := by decide +kernel
theorem pd43 : parseMethodDescriptor "(Lcom/example/match_before_write/matchbeforewrite/EntityTag;)Z" = some ⟨[(.object "com/example/match_before_write/matchbeforewrite/EntityTag")], some .boolean⟩ := by decide +kernel
theorem pn0 : plainName "com/example/match_before_write/matchbeforewrite/EntityTagStrongPinLaw" = true := by first | (simp [plainName, overriddenIn]; done) | decide +kernel
theorem pn1 : plainName "java/lang/String" = true := by first | (simp [plainName, overriddenIn]; done) | decide +kernel
theorem pn2 : plainName "java/lang/StringUTF16" = true := by first | (simp [plainName, overriddenIn]; done) | decide +kernel
theorem pn3 : plainName "jdk/internal/util/Preconditions" = true := by first | (simp [plainName, overriddenIn]; done) | decide +kernel
theorem pn4 : plainName "java/lang/StringLatin1" = true := by first | (simp [plainName, overriddenIn]; done) | decide +kernel
theorem pn5 : plainName "java/util/Objects" = true := by first | (simp [plainName, overriddenIn]; done) | decide +kernel
theorem pn6 : plainName "com/example/match_before_write/matchbeforewrite/EntityTag" = true := by first | (simp [plainName, overriddenIn]; done) | decide +kernel
theorem pn7 : plainName "java/lang/AbstractStringBuilder" = true := by first | (simp [plainName, overriddenIn]; done) | decide +kernel
theorem pn8 : plainName "java/lang/StringBuilder" = true := by first | (simp [plainName, overriddenIn]; done) | decide +kernel
theorem pn9 : plainName "java/util/Arrays" = true := by first | (simp [plainName, overriddenIn]; done) | decide +kernel
theorem pn10 : plainName "jdk/internal/util/ArraysSupport" = true := by first | (simp [plainName, overriddenIn]; done) | decide +kernel
theorem ef_cetg (m : MethodId) (x0 : Int32) : entryFrame m #[(.int x0)] 2 = mkF m 0 #[.val (.int x0), .unset] [] := by first | (simp [entryFrame, mkF, argsToLocals, Value.category, maxLocals]; done) | rfl
theorem ef_cch0 (m : MethodId) (x1 : Int32) (x2 : Int32) (x3 : Int32) : entryFrame m #[(.int 0), (.int x1), (.int x2), (.int x3)] 4 = mkF m 0 #[.val (.int 0), .val (.int x1), .val (.int x2), .val (.int x3)] [] := by first | (simp [entryFrame, mkF, argsToLocals, Value.category, maxLocals]; done) | rfl
theorem ef_cch1 (m : MethodId) (x1 : Int32) (x2 : Int32) (x3 : Int32) : entryFrame m #[(.int 1), (.int x1), (.int x2), (.int x3)] 4 = mkF m 0 #[.val (.int 1), .val (.int x1), .val (.int x2), .val (.int x3)] [] := by first | (simp [entryFrame, mkF, argsToLocals, Value.category, maxLocals]; done) | rfl
theorem ef_cch2 (m : MethodId) (x1 : Int32) (x2 : Int32) (x3 : Int32) : entryFrame m #[(.int 2), (.int x1), (.int x2), (.int x3)] 4 = mkF m 0 #[.val (.int 2), .val (.int x1), .val (.int x2), .val (.int x3)] [] := by first | (simp [entryFrame, mkF, argsToLocals, Value.category, maxLocals]; done) | rfl
theorem ef_cch3 (m : MethodId) (x1 : Int32) (x2 : Int32) (x3 : Int32) : entryFrame m #[(.int 3), (.int x1), (.int x2), (.int x3)] 4 = mkF m 0 #[.val (.int 3), .val (.int x1), .val (.int x2), .val (.int x3)] [] := by first | (simp [entryFrame, mkF, argsToLocals, Value.category, maxLocals]; done) | rfl
theorem ef_cqu0 (m : MethodId) (x1 : Int32) (x2 : Int32) (x3 : Int32) : entryFrame m #[(.int 0), (.int x1), (.int x2), (.int x3)] 4 = mkF m 0 #[.val (.int 0), .val (.int x1), .val (.int x2), .val (.int x3)] [] := by first | (simp [entryFrame, mkF, argsToLocals, Value.category, maxLocals]; done) | rfl
theorem ef_cqu1 (m : MethodId) (x1 : Int32) (x2 : Int32) (x3 : Int32) : entryFrame m #[(.int 1), (.int x1), (.int x2), (.int x3)] 4 = mkF m 0 #[.val (.int 1), .val (.int x1), .val (.int x2), .val (.int x3)] [] := by first | (simp [entryFrame, mkF, argsToLocals, Value.category, maxLocals]; done) | rfl
theorem ef_cqu2 (m : MethodId) (x1 : Int32) (x2 : Int32) (x3 : Int32) : entryFrame m #[(.int 2), (.int x1), (.int x2), (.int x3)] 4 = mkF m 0 #[.val (.int 2), .val (.int x1), .val (.int x2), .val (.int x3)] [] := by first | (simp [entryFrame, mkF, argsToLocals, Value.category, maxLocals]; done) | rfl
theorem ef_cqu3 (m : MethodId) (x1 : Int32) (x2 : Int32) (x3 : Int32) : entryFrame m #[(.int 3), (.int x1), (.int x2), (.int x3)] 4 = mkF m 0 #[.val (.int 3), .val (.int x1), .val (.int x2), .val (.int x3)] [] := by first | (simp [entryFrame, mkF, argsToLocals, Value.category, maxLocals]; done) | rfl
theorem ef_csi0 (m : MethodId) (x0 : Addr) (x1 : Addr) : entryFrame m #[(.ref x0), (.ref x1), (.int 0), (.int 0), .null] 6 = mkF m 0 #[.val (.ref x0), .val (.ref x1), .val (.int 0), .val (.int 0), .val .null, .unset] [] := by first | (simp [entryFrame, mkF, argsToLocals, Value.category, maxLocals]; done) | rfl
theorem ef_csj0 (m : MethodId) (x0 : Addr) (x1 : Addr) : entryFrame m #[(.ref x0), (.ref x1)] 2 = mkF m 0 #[.val (.ref x0), .val (.ref x1)] [] := by first | (simp [entryFrame, mkF, argsToLocals, Value.category, maxLocals]; done) | rfl
theorem ef_ccmp1 (m : MethodId) (x0 : Addr) (x2 : Addr) : entryFrame m #[(.ref x0), (.int 0), (.ref x2), (.int 0), (.int 1)] 7 = mkF m 0 #[.val (.ref x0), .val (.int 0), .val (.ref x2), .val (.int 0), .val (.int 1), .unset, .unset] [] := by first | (simp [entryFrame, mkF, argsToLocals, Value.category, maxLocals]; done) | rfl
theorem ef_ccmq1 (m : MethodId) (x0 : Addr) : entryFrame m #[(.ref x0), (.int 0), (.int 1)] 6 = mkF m 0 #[.val (.ref x0), .val (.int 0), .val (.int 1), .unset, .unset, .unset] [] := by first | (simp [entryFrame, mkF, argsToLocals, Value.category, maxLocals]; done) | rfl
theorem ef_ccal1 (m : MethodId) (x0 : Addr) : entryFrame m #[(.ref x0), (.int 1)] 2 = mkF m 0 #[.val (.ref x0), .val (.int 1)] [] := by first | (simp [entryFrame, mkF, argsToLocals, Value.category, maxLocals]; done) | rfl
theorem ef_csi1 (m : MethodId) (x0 : Addr) (x1 : Addr) : entryFrame m #[(.ref x0), (.ref x1), (.int 0), (.int 1), .null] 6 = mkF m 0 #[.val (.ref x0), .val (.ref x1), .val (.int 0), .val (.int 1), .val .null, .unset] [] := by first | (simp [entryFrame, mkF, argsToLocals, Value.category, maxLocals]; done) | rfl
theorem ef_csj1 (m : MethodId) (x0 : Addr) (x1 : Addr) : entryFrame m #[(.ref x0), (.ref x1)] 2 = mkF m 0 #[.val (.ref x0), .val (.ref x1)] [] := by first | (simp [entryFrame, mkF, argsToLocals, Value.category, maxLocals]; done) | rfl
theorem ef_ccmp2 (m : MethodId) (x0 : Addr) (x2 : Addr) : entryFrame m #[(.ref x0), (.int 0), (.ref x2), (.int 0), (.int 2)] 7 = mkF m 0 #[.val (.ref x0), .val (.int 0), .val (.ref x2), .val (.int 0), .val (.int 2), .unset, .unset] [] := by first | (simp [entryFrame, mkF, argsToLocals, Value.category, maxLocals]; done) | rfl
theorem ef_ccmq2 (m : MethodId) (x0 : Addr) : entryFrame m #[(.ref x0), (.int 0), (.int 2)] 6 = mkF m 0 #[.val (.ref x0), .val (.int 0), .val (.int 2), .unset, .unset, .unset] [] := by first | (simp [entryFrame, mkF, argsToLocals, Value.category, maxLocals]; done) | rfl
theorem ef_ccal2 (m : MethodId) (x0 : Addr) : entryFrame m #[(.ref x0), (.int 2)] 2 = mkF m 0 #[.val (.ref x0), .val (.int 2)] [] := by first | (simp [entryFrame, mkF, argsToLocals, Value.category, maxLocals]; done) | rfl
theorem ef_csi2 (m : MethodId) (x0 : Addr) (x1 : Addr) : entryFrame m #[(.ref x0), (.ref x1), (.int 0), (.int 2), .null] 6 = mkF m 0 #[.val (.ref x0), .val (.ref x1), .val (.int 0), .val (.int 2), .val .null, .unset] [] := by first | (simp [entryFrame, mkF, argsToLocals, Value.category, maxLocals]; done) | rfl
theorem ef_csj2 (m : MethodId) (x0 : Addr) (x1 : Addr) : entryFrame m #[(.ref x0), (.ref x1)] 2 = mkF m 0 #[.val (.ref x0), .val (.ref x1)] [] := by first | (simp [entryFrame, mkF, argsToLocals, Value.category, maxLocals]; done) | rfl
theorem ef_ccmp3 (m : MethodId) (x0 : Addr) (x2 : Addr) : entryFrame m #[(.ref x0), (.int 0), (.ref x2), (.int 0), (.int 3)] 7 = mkF m 0 #[.val (.ref x0), .val (.int 0), .val (.ref x2), .val (.int 0), .val (.int 3), .unset, .unset] [] := by first | (simp [entryFrame, mkF, argsToLocals, Value.category, maxLocals]; done) | rfl
theorem ef_ccmq3 (m : MethodId) (x0 : Addr) : entryFrame m #[(.ref x0), (.int 0), (.int 3)] 6 = mkF m 0 #[.val (.ref x0), .val (.int 0), .val (.int 3), .unset, .unset, .unset] [] := by first | (simp [entryFrame, mkF, argsToLocals, Value.category, maxLocals]; done) | rfl
theorem ef_ccal3 (m : MethodId) (x0 : Addr) : entryFrame m #[(.ref x0), (.int 3)] 2 = mkF m 0 #[.val (.ref x0), .val (.int 3)] [] := by first | (simp [entryFrame, mkF, argsToLocals, Value.category, maxLocals]; done) | rfl
theorem ef_csi3 (m : MethodId) (x0 : Addr) (x1 : Addr) : entryFrame m #[(.ref x0), (.ref x1), (.int 0), (.int 3), .null] 6 = mkF m 0 #[.val (.ref x0), .val (.ref x1), .val (.int 0), .val (.int 3), .val .null, .unset] [] := by first | (simp [entryFrame, mkF, argsToLocals, Value.category, maxLocals]; done) | rfl
theorem ef_csj3 (m : MethodId) (x0 : Addr) (x1 : Addr) : entryFrame m #[(.ref x0), (.ref x1)] 2 = mkF m 0 #[.val (.ref x0), .val (.ref x1)] [] := by first | (simp [entryFrame, mkF, argsToLocals, Value.category, maxLocals]; done) | rfl
theorem ef_ccmp4 (m : MethodId) (x0 : Addr) (x2 : Addr) : entryFrame m #[(.ref x0), (.int 0), (.ref x2), (.int 0), (.int 4)] 7 = mkF m 0 #[.val (.ref x0), .val (.int 0), .val (.ref x2), .val (.int 0), .val (.int 4), .unset, .unset] [] := by first | (simp [entryFrame, mkF, argsToLocals, Value.category, maxLocals]; done) | rfl
theorem ef_ccmq4 (m : MethodId) (x0 : Addr) : entryFrame m #[(.ref x0), (.int 0), (.int 4)] 6 = mkF m 0 #[.val (.ref x0), .val (.int 0), .val (.int 4), .unset, .unset, .unset] [] := by first | (simp [entryFrame, mkF, argsToLocals, Value.category, maxLocals]; done) | rfl
theorem ef_ccal4 (m : MethodId) (x0 : Addr) : entryFrame m #[(.ref x0), (.int 4)] 2 = mkF m 0 #[.val (.ref x0), .val (.int 4)] [] := by first | (simp [entryFrame, mkF, argsToLocals, Value.category, maxLocals]; done) | rfl
theorem ef_csi4 (m : MethodId) (x0 : Addr) (x1 : Addr) : entryFrame m #[(.ref x0), (.ref x1), (.int 0), (.int 4), .null] 6 = mkF m 0 #[.val (.ref x0), .val (.ref x1), .val (.int 0), .val (.int 4), .val .null, .unset] [] := by first | (simp [entryFrame, mkF, argsToLocals, Value.category, maxLocals]; done) | rfl
theorem ef_csj4 (m : MethodId) (x0 : Addr) (x1 : Addr) : entryFrame m #[(.ref x0), (.ref x1)] 2 = mkF m 0 #[.val (.ref x0), .val (.ref x1)] [] := by first | (simp [entryFrame, mkF, argsToLocals, Value.category, maxLocals]; done) | rfl
theorem ef_ccmp5 (m : MethodId) (x0 : Addr) (x2 : Addr) : entryFrame m #[(.ref x0), (.int 0), (.ref x2), (.int 0), (.int 5)] 7 = mkF m 0 #[.val (.ref x0), .val (.int 0), .val (.ref x2), .val (.int 0), .val (.int 5), .unset, .unset] [] := by first | (simp [entryFrame, mkF, argsToLocals, Value.category, maxLocals]; done) | rfl
theorem ef_ccmq5 (m : MethodId) (x0 : Addr) : entryFrame m #[(.ref x0), (.int 0), (.int 5)] 6 = mkF m 0 #[.val (.ref x0), .val (.int 0), .val (.int 5), .unset, .unset, .unset] [] := by first | (simp [entryFrame, mkF, argsToLocals, Value.category, maxLocals]; done) | rfl
theorem ef_ccal5 (m : MethodId) (x0 : Addr) : entryFrame m #[(.ref x0), (.int 5)] 2 = mkF m 0 #[.val (.ref x0), .val (.int 5)] [] := by first | (simp [entryFrame, mkF, argsToLocals, Value.category, maxLocals]; done) | rfl
theorem ef_csi5 (m : MethodId) (x0 : Addr) (x1 : Addr) : entryFrame m #[(.ref x0), (.ref x1), (.int 0), (.int 5), .null] 6 = mkF m 0 #[.val (.ref x0), .val (.ref x1), .val (.int 0), .val (.int 5), .val .null, .unset] [] := by first | (simp [entryFrame, mkF, argsToLocals, Value.category, maxLocals]; done) | rfl
theorem ef_csj5 (m : MethodId) (x0 : Addr) (x1 : Addr) : entryFrame m #[(.ref x0), (.ref x1)] 2 = mkF m 0 #[.val (.ref x0), .val (.ref x1)] [] := by first | (simp [entryFrame, mkF, argsToLocals, Value.category, maxLocals]; done) | rfl
theorem ef_ccoder (m : MethodId) (x0 : Addr) : entryFrame m #[(.ref x0)] 1 = mkF m 0 #[.val (.ref x0)] [] := by first | (simp [entryFrame, mkF, argsToLocals, Value.category, maxLocals]; done) | rfl
theorem ef_clen (m : MethodId) (x0 : Addr) : entryFrame m #[(.ref x0)] 1 = mkF m 0 #[.val (.ref x0)] [] := by first | (simp [entryFrame, mkF, argsToLocals, Value.category, maxLocals]; done) | rfl
theorem ef_clat (m : MethodId) (x0 : Addr) : entryFrame m #[(.ref x0)] 1 = mkF m 0 #[.val (.ref x0)] [] := by first | (simp [entryFrame, mkF, argsToLocals, Value.category, maxLocals]; done) | rfl
theorem ef_cpchk (m : MethodId) (x0 : Int32) (x1 : Int32) (x2 : Value) (hx2 : x2.isRef = true) : entryFrame m #[(.int x0), (.int x1), x2] 3 = mkF m 0 #[.val (.int x0), .val (.int x1), .val x2] [] := by rcases ref_cases hx2 with rfl | ⟨_, rfl⟩ <;> first | (simp [entryFrame, mkF, argsToLocals, Value.category, maxLocals]; done) | rfl
theorem ef_cschk (m : MethodId) (x0 : Int32) (x1 : Int32) : entryFrame m #[(.int x0), (.int x1)] 2 = mkF m 0 #[.val (.int x0), .val (.int x1)] [] := by first | (simp [entryFrame, mkF, argsToLocals, Value.category, maxLocals]; done) | rfl
theorem ef_cl1ch (m : MethodId) (x0 : Addr) (x1 : Int32) : entryFrame m #[(.ref x0), (.int x1)] 2 = mkF m 0 #[.val (.ref x0), .val (.int x1)] [] := by first | (simp [entryFrame, mkF, argsToLocals, Value.category, maxLocals]; done) | rfl
theorem ef_cchar (m : MethodId) (x0 : Addr) (x1 : Int32) : entryFrame m #[(.ref x0), (.int x1)] 2 = mkF m 0 #[.val (.ref x0), .val (.int x1)] [] := by first | (simp [entryFrame, mkF, argsToLocals, Value.category, maxLocals]; done) | rfl
theorem ef_creq (m : MethodId) (x0 : Addr) (x1 : Addr) : entryFrame m #[(.ref x0), (.ref x1)] 2 = mkF m 0 #[.val (.ref x0), .val (.ref x1)] [] := by first | (simp [entryFrame, mkF, argsToLocals, Value.category, maxLocals]; done) | rfl
theorem ef_cchk0 (m : MethodId) (x0 : Addr) (x1 : Int32) : entryFrame m #[(.ref x0), (.int x1)] 6 = mkF m 0 #[.val (.ref x0), .val (.int x1), .unset, .unset, .unset, .unset] [] := by first | (simp [entryFrame, mkF, argsToLocals, Value.category, maxLocals]; done) | rfl
theorem ef_cchk1 (m : MethodId) (x0 : Addr) (x1 : Int32) : entryFrame m #[(.ref x0), (.int x1)] 6 = mkF m 0 #[.val (.ref x0), .val (.int x1), .unset, .unset, .unset, .unset] [] := by first | (simp [entryFrame, mkF, argsToLocals, Value.category, maxLocals]; done) | rfl
theorem ef_cchk2 (m : MethodId) (x0 : Addr) (x1 : Int32) : entryFrame m #[(.ref x0), (.int x1)] 6 = mkF m 0 #[.val (.ref x0), .val (.int x1), .unset, .unset, .unset, .unset] [] := by first | (simp [entryFrame, mkF, argsToLocals, Value.category, maxLocals]; done) | rfl
theorem ef_cchk3 (m : MethodId) (x0 : Addr) (x1 : Int32) : entryFrame m #[(.ref x0), (.int x1)] 6 = mkF m 0 #[.val (.ref x0), .val (.int x1), .unset, .unset, .unset, .unset] [] := by first | (simp [entryFrame, mkF, argsToLocals, Value.category, maxLocals]; done) | rfl
theorem ef_ceti (m : MethodId) (x0 : Addr) (x2 : Addr) : entryFrame m #[(.ref x0), (.int 0), (.ref x2)] 3 = mkF m 0 #[.val (.ref x0), .val (.int 0), .val (.ref x2)] [] := by first | (simp [entryFrame, mkF, argsToLocals, Value.category, maxLocals]; done) | rfl
theorem ef_cwk0 (m : MethodId) (x0 : Addr) : entryFrame m #[(.ref x0)] 1 = mkF m 0 #[.val (.ref x0)] [] := by first | (simp [entryFrame, mkF, argsToLocals, Value.category, maxLocals]; done) | rfl
theorem ef_cwk1 (m : MethodId) (x0 : Addr) : entryFrame m #[(.ref x0)] 1 = mkF m 0 #[.val (.ref x0)] [] := by first | (simp [entryFrame, mkF, argsToLocals, Value.category, maxLocals]; done) | rfl
theorem ef_cwk2 (m : MethodId) (x0 : Addr) : entryFrame m #[(.ref x0)] 1 = mkF m 0 #[.val (.ref x0)] [] := by first | (simp [entryFrame, mkF, argsToLocals, Value.category, maxLocals]; done) | rfl
theorem ef_cwk3 (m : MethodId) (x0 : Addr) : entryFrame m #[(.ref x0)] 1 = mkF m 0 #[.val (.ref x0)] [] := by first | (simp [entryFrame, mkF, argsToLocals, Value.category, maxLocals]; done) | rfl
theorem ef_cval (m : MethodId) (x0 : Addr) : entryFrame m #[(.ref x0)] 1 = mkF m 0 #[.val (.ref x0)] [] := by first | (simp [entryFrame, mkF, argsToLocals, Value.category, maxLocals]; done) | rfl
theorem ef_cisw (m : MethodId) (x0 : Addr) : entryFrame m #[(.ref x0)] 1 = mkF m 0 #[.val (.ref x0)] [] := by first | (simp [entryFrame, mkF, argsToLocals, Value.category, maxLocals]; done) | rfl
theorem ef_casb (m : MethodId) (x0 : Addr) : entryFrame m #[(.ref x0), (.int 16)] 2 = mkF m 0 #[.val (.ref x0), .val (.int 16)] [] := by first | (simp [entryFrame, mkF, argsToLocals, Value.category, maxLocals]; done) | rfl
theorem ef_csb (m : MethodId) (x0 : Addr) : entryFrame m #[(.ref x0)] 1 = mkF m 0 #[.val (.ref x0)] [] := by first | (simp [entryFrame, mkF, argsToLocals, Value.category, maxLocals]; done) | rfl
theorem ef_cens (m : MethodId) (x0 : Addr) (x1 : Int32) : entryFrame m #[(.ref x0), (.int x1)] 3 = mkF m 0 #[.val (.ref x0), .val (.int x1), .unset] [] := by first | (simp [entryFrame, mkF, argsToLocals, Value.category, maxLocals]; done) | rfl
theorem ef_cinf (m : MethodId) (x0 : Addr) (x1 : Addr) : entryFrame m #[(.ref x0), (.ref x1)] 2 = mkF m 0 #[.val (.ref x0), .val (.ref x1)] [] := by first | (simp [entryFrame, mkF, argsToLocals, Value.category, maxLocals]; done) | rfl
theorem ef_csbl (m : MethodId) (x0 : Addr) : entryFrame m #[(.ref x0)] 1 = mkF m 0 #[.val (.ref x0)] [] := by first | (simp [entryFrame, mkF, argsToLocals, Value.category, maxLocals]; done) | rfl
theorem ef_cgva (m : MethodId) (x0 : Addr) : entryFrame m #[(.ref x0)] 1 = mkF m 0 #[.val (.ref x0)] [] := by first | (simp [entryFrame, mkF, argsToLocals, Value.category, maxLocals]; done) | rfl
theorem ef_clna (m : MethodId) (x0 : Addr) : entryFrame m #[(.ref x0)] 1 = mkF m 0 #[.val (.ref x0)] [] := by first | (simp [entryFrame, mkF, argsToLocals, Value.category, maxLocals]; done) | rfl
theorem ef_clnb (m : MethodId) (x0 : Addr) : entryFrame m #[(.ref x0)] 1 = mkF m 0 #[.val (.ref x0)] [] := by first | (simp [entryFrame, mkF, argsToLocals, Value.category, maxLocals]; done) | rfl
theorem ef_ccan (m : MethodId) (x0 : Int32) : entryFrame m #[(.int x0)] 1 = mkF m 0 #[.val (.int x0)] [] := by first | (simp [entryFrame, mkF, argsToLocals, Value.category, maxLocals]; done) | rfl
theorem ef_cchl (m : MethodId) (x0 : Int32) (x1 : Int32) : entryFrame m #[(.int x0), (.int x1)] 2 = mkF m 0 #[.val (.int x0), .val (.int x1)] [] := by first | (simp [entryFrame, mkF, argsToLocals, Value.category, maxLocals]; done) | rfl
theorem ef_cmin1 (m : MethodId) (x0 : Int32) (x1 : Int32) : entryFrame m #[(.int x0), (.int x1)] 2 = mkF m 0 #[.val (.int x0), .val (.int x1)] [] := by first | (simp [entryFrame, mkF, argsToLocals, Value.category, maxLocals]; done) | rfl
theorem ef_cmin2 (m : MethodId) (x0 : Int32) (x1 : Int32) : entryFrame m #[(.int x0), (.int x1)] 2 = mkF m 0 #[.val (.int x0), .val (.int x1)] [] := by first | (simp [entryFrame, mkF, argsToLocals, Value.category, maxLocals]; done) | rfl
theorem ef_cgb (m : MethodId) (x0 : Addr) (x1 : Addr) (x2 : Int32) : entryFrame m #[(.ref x0), (.ref x1), (.int x2), (.int 0)] 4 = mkF m 0 #[.val (.ref x0), .val (.ref x1), .val (.int x2), .val (.int 0)] [] := by first | (simp [entryFrame, mkF, argsToLocals, Value.category, maxLocals]; done) | rfl
theorem ef_cps (m : MethodId) (x0 : Addr) (x1 : Int32) (x2 : Addr) : entryFrame m #[(.ref x0), (.int x1), (.ref x2)] 3 = mkF m 0 #[.val (.ref x0), .val (.int x1), .val (.ref x2)] [] := by first | (simp [entryFrame, mkF, argsToLocals, Value.category, maxLocals]; done) | rfl
theorem ef_caa (m : MethodId) (x0 : Addr) (x1 : Addr) : entryFrame m #[(.ref x0), (.ref x1)] 3 = mkF m 0 #[.val (.ref x0), .val (.ref x1), .unset] [] := by first | (simp [entryFrame, mkF, argsToLocals, Value.category, maxLocals]; done) | rfl
theorem ef_cab (m : MethodId) (x0 : Addr) (x1 : Addr) : entryFrame m #[(.ref x0), (.ref x1)] 2 = mkF m 0 #[.val (.ref x0), .val (.ref x1)] [] := by first | (simp [entryFrame, mkF, argsToLocals, Value.category, maxLocals]; done) | rfl
theorem ef_cca (m : MethodId) (x0 : Addr) : entryFrame m #[(.ref x0), (.int 34)] 2 = mkF m 0 #[.val (.ref x0), .val (.int 34)] [] := by first | (simp [entryFrame, mkF, argsToLocals, Value.category, maxLocals]; done) | rfl
theorem ef_ccb (m : MethodId) (x0 : Addr) : entryFrame m #[(.ref x0), (.int 34)] 2 = mkF m 0 #[.val (.ref x0), .val (.int 34)] [] := by first | (simp [entryFrame, mkF, argsToLocals, Value.category, maxLocals]; done) | rfl
theorem ef_ccqb (m : MethodId) (x0 : Addr) (x2 : Int32) : entryFrame m #[(.ref x0), (.int 0), (.int x2)] 5 = mkF m 0 #[.val (.ref x0), .val (.int 0), .val (.int x2), .unset, .unset] [] := by first | (simp [entryFrame, mkF, argsToLocals, Value.category, maxLocals]; done) | rfl
theorem ef_ccq (m : MethodId) (x0 : Addr) (x2 : Int32) : entryFrame m #[(.ref x0), (.int 0), (.int x2)] 3 = mkF m 0 #[.val (.ref x0), .val (.int 0), .val (.int x2)] [] := by first | (simp [entryFrame, mkF, argsToLocals, Value.category, maxLocals]; done) | rfl
theorem ef_cia (m : MethodId) (x0 : Addr) (x1 : Addr) : entryFrame m #[(.ref x0), (.ref x1), .null] 5 = mkF m 0 #[.val (.ref x0), .val (.ref x1), .val .null, .unset, .unset] [] := by first | (simp [entryFrame, mkF, argsToLocals, Value.category, maxLocals]; done) | rfl
theorem ef_cib (m : MethodId) (x0 : Addr) (x1 : Addr) : entryFrame m #[(.ref x0), (.ref x1)] 2 = mkF m 0 #[.val (.ref x0), .val (.ref x1)] [] := by first | (simp [entryFrame, mkF, argsToLocals, Value.category, maxLocals]; done) | rfl
theorem ef_cts (m : MethodId) (x0 : Addr) : entryFrame m #[(.ref x0)] 1 = mkF m 0 #[.val (.ref x0)] [] := by first | (simp [entryFrame, mkF, argsToLocals, Value.category, maxLocals]; done) | rfl
theorem ef_ctos (m : MethodId) (x0 : Addr) : entryFrame m #[(.ref x0)] 2 = mkF m 0 #[.val (.ref x0), .unset] [] := by first | (simp [entryFrame, mkF, argsToLocals, Value.category, maxLocals]; done) | rfl
theorem ef_ceqs (m : MethodId) (x0 : Addr) (x1 : Addr) : entryFrame m #[(.ref x1), (.ref x1)] 3 = mkF m 0 #[.val (.ref x1), .val (.ref x1), .unset] [] := by first | (simp [entryFrame, mkF, argsToLocals, Value.category, maxLocals]; done) | rfl
theorem ef_ctox (m : MethodId) (x0 : Addr) : entryFrame m #[(.ref x0)] 2 = mkF m 0 #[.val (.ref x0), .unset] [] := by first | (simp [entryFrame, mkF, argsToLocals, Value.category, maxLocals]; done) | rfl
theorem ef_cle0 (m : MethodId) (x0 : Addr) (x1 : Addr) : entryFrame m #[(.ref x0), (.ref x1)] 3 = mkF m 0 #[.val (.ref x0), .val (.ref x1), .unset] [] := by first | (simp [entryFrame, mkF, argsToLocals, Value.category, maxLocals]; done) | rfl
theorem ef_cse0x (m : MethodId) (x0 : Addr) (x1 : Addr) : entryFrame m #[(.ref x0), (.ref x1)] 3 = mkF m 0 #[.val (.ref x0), .val (.ref x1), .unset] [] := by first | (simp [entryFrame, mkF, argsToLocals, Value.category, maxLocals]; done) | rfl
theorem ef_cle1 (m : MethodId) (x0 : Addr) (x1 : Addr) : entryFrame m #[(.ref x0), (.ref x1)] 3 = mkF m 0 #[.val (.ref x0), .val (.ref x1), .unset] [] := by first | (simp [entryFrame, mkF, argsToLocals, Value.category, maxLocals]; done) | rfl
theorem ef_cse1 (m : MethodId) (x0 : Addr) (x1 : Addr) : entryFrame m #[(.ref x0), (.ref x1)] 3 = mkF m 0 #[.val (.ref x0), .val (.ref x1), .unset] [] := by first | (simp [entryFrame, mkF, argsToLocals, Value.category, maxLocals]; done) | rfl
theorem ef_cle2 (m : MethodId) (x0 : Addr) (x1 : Addr) : entryFrame m #[(.ref x0), (.ref x1)] 3 = mkF m 0 #[.val (.ref x0), .val (.ref x1), .unset] [] := by first | (simp [entryFrame, mkF, argsToLocals, Value.category, maxLocals]; done) | rfl
theorem ef_cse2 (m : MethodId) (x0 : Addr) (x1 : Addr) : entryFrame m #[(.ref x0), (.ref x1)] 3 = mkF m 0 #[.val (.ref x0), .val (.ref x1), .unset] [] := by first | (simp [entryFrame, mkF, argsToLocals, Value.category, maxLocals]; done) | rfl
theorem ef_cle3 (m : MethodId) (x0 : Addr) (x1 : Addr) : entryFrame m #[(.ref x0), (.ref x1)] 3 = mkF m 0 #[.val (.ref x0), .val (.ref x1), .unset] [] := by first | (simp [entryFrame, mkF, argsToLocals, Value.category, maxLocals]; done) | rfl
theorem ef_cse3 (m : MethodId) (x0 : Addr) (x1 : Addr) : entryFrame m #[(.ref x0), (.ref x1)] 3 = mkF m 0 #[.val (.ref x0), .val (.ref x1), .unset] [] := by first | (simp [entryFrame, mkF, argsToLocals, Value.category, maxLocals]; done) | rfl
theorem ef_cle4 (m : MethodId) (x0 : Addr) (x1 : Addr) : entryFrame m #[(.ref x0), (.ref x1)] 3 = mkF m 0 #[.val (.ref x0), .val (.ref x1), .unset] [] := by first | (simp [entryFrame, mkF, argsToLocals, Value.category, maxLocals]; done) | rfl
theorem ef_cse4 (m : MethodId) (x0 : Addr) (x1 : Addr) : entryFrame m #[(.ref x0), (.ref x1)] 3 = mkF m 0 #[.val (.ref x0), .val (.ref x1), .unset] [] := by first | (simp [entryFrame, mkF, argsToLocals, Value.category, maxLocals]; done) | rfl
theorem ef_cle5 (m : MethodId) (x0 : Addr) (x1 : Addr) : entryFrame m #[(.ref x0), (.ref x1)] 3 = mkF m 0 #[.val (.ref x0), .val (.ref x1), .unset] [] := by first | (simp [entryFrame, mkF, argsToLocals, Value.category, maxLocals]; done) | rfl
theorem ef_cse5 (m : MethodId) (x0 : Addr) (x1 : Addr) : entryFrame m #[(.ref x0), (.ref x1)] 3 = mkF m 0 #[.val (.ref x0), .val (.ref x1), .unset] [] := by first | (simp [entryFrame, mkF, argsToLocals, Value.category, maxLocals]; done) | rfl
theorem ef_csm (m : MethodId) (x0 : Addr) (x1 : Addr) : entryFrame m #[(.ref x1), (.ref x1)] 2 = mkF m 0 #[.val (.ref x1), .val (.ref x1)] [] := by first | (simp [entryFrame, mkF, argsToLocals, Value.category, maxLocals]; done) | rfl
theorem ef_cmis (m : MethodId) (x0 : Addr) (x2 : Addr) : entryFrame m #[(.ref x0), (.int 0), (.ref x2), (.int 0), (.int 2)] 8 = mkF m 0 #[.val (.ref x0), .val (.int 0), .val (.ref x2), .val (.int 0), .val (.int 2), .unset, .unset, .unset] [] := by first | (simp [entryFrame, mkF, argsToLocals, Value.category, maxLocals]; done) | rfl
theorem ef_csw2 (m : MethodId) (x0 : Addr) (x1 : Addr) : entryFrame m #[(.ref x0), (.ref x1), (.int 0)] 8 = mkF m 0 #[.val (.ref x0), .val (.ref x1), .val (.int 0), .unset, .unset, .unset, .unset, .unset] [] := by first | (simp [entryFrame, mkF, argsToLocals, Value.category, maxLocals]; done) | rfl
theorem ef_csw1 (m : MethodId) (x0 : Addr) (x1 : Addr) : entryFrame m #[(.ref x0), (.ref x1)] 2 = mkF m 0 #[.val (.ref x0), .val (.ref x1)] [] := by first | (simp [entryFrame, mkF, argsToLocals, Value.category, maxLocals]; done) | rfl
theorem ef_cfti (m : MethodId) (x0 : Int32) (x1 : Int32) (x2 : Int32) (x3 : Value) (hx3 : x3.isRef = true) : entryFrame m #[(.int x0), (.int x1), (.int x2), x3] 4 = mkF m 0 #[.val (.int x0), .val (.int x1), .val (.int x2), .val x3] [] := by rcases ref_cases hx3 with rfl | ⟨_, rfl⟩ <;> first | (simp [entryFrame, mkF, argsToLocals, Value.category, maxLocals]; done) | rfl
theorem ef_cbbe (m : MethodId) (x0 : Int32) (x1 : Int32) (x2 : Int32) : entryFrame m #[(.int x0), (.int x1), (.int x2)] 3 = mkF m 0 #[.val (.int x0), .val (.int x1), .val (.int x2)] [] := by first | (simp [entryFrame, mkF, argsToLocals, Value.category, maxLocals]; done) | rfl
theorem ef_cstr (m : MethodId) (x0 : Addr) (x1 : Addr) : entryFrame m #[(.ref x0), (.ref x1), (.int 0)] 3 = mkF m 0 #[.val (.ref x0), .val (.ref x1), .val (.int 0)] [] := by first | (simp [entryFrame, mkF, argsToLocals, Value.category, maxLocals]; done) | rfl
theorem ef_cnew0 (m : MethodId) (x0 : Addr) : entryFrame m #[(.ref x0), (.int 1), (.int 0)] 3 = mkF m 0 #[.val (.ref x0), .val (.int 1), .val (.int 0)] [] := by first | (simp [entryFrame, mkF, argsToLocals, Value.category, maxLocals]; done) | rfl
theorem ef_csub0 (m : MethodId) (x0 : Addr) : entryFrame m #[(.ref x0), (.int 1), (.int 1)] 5 = mkF m 0 #[.val (.ref x0), .val (.int 1), .val (.int 1), .unset, .unset] [] := by first | (simp [entryFrame, mkF, argsToLocals, Value.category, maxLocals]; done) | rfl
theorem ef_cprs0 (m : MethodId) (x0 : Addr) : entryFrame m #[(.ref x0)] 5 = mkF m 0 #[.val (.ref x0), .unset, .unset, .unset, .unset] [] := by first | (simp [entryFrame, mkF, argsToLocals, Value.category, maxLocals]; done) | rfl
theorem ef_cete0 (m : MethodId) (x0 : Addr) (x1 : Addr) : entryFrame m #[(.ref x0), (.ref x1)] 3 = mkF m 0 #[.val (.ref x0), .val (.ref x1), .unset] [] := by first | (simp [entryFrame, mkF, argsToLocals, Value.category, maxLocals]; done) | rfl
theorem ef_ccsb1 (m : MethodId) (x0 : Addr) : entryFrame m #[(.ref x0), (.int 1), (.int 2)] 5 = mkF m 0 #[.val (.ref x0), .val (.int 1), .val (.int 2), .unset, .unset] [] := by first | (simp [entryFrame, mkF, argsToLocals, Value.category, maxLocals]; done) | rfl
theorem ef_ccs1 (m : MethodId) (x0 : Addr) : entryFrame m #[(.ref x0), (.int 1), (.int 2)] 3 = mkF m 0 #[.val (.ref x0), .val (.int 1), .val (.int 2)] [] := by first | (simp [entryFrame, mkF, argsToLocals, Value.category, maxLocals]; done) | rfl
theorem ef_cnew1 (m : MethodId) (x0 : Addr) : entryFrame m #[(.ref x0), (.int 1), (.int 1)] 3 = mkF m 0 #[.val (.ref x0), .val (.int 1), .val (.int 1)] [] := by first | (simp [entryFrame, mkF, argsToLocals, Value.category, maxLocals]; done) | rfl
theorem ef_csub1 (m : MethodId) (x0 : Addr) : entryFrame m #[(.ref x0), (.int 1), (.int 2)] 5 = mkF m 0 #[.val (.ref x0), .val (.int 1), .val (.int 2), .unset, .unset] [] := by first | (simp [entryFrame, mkF, argsToLocals, Value.category, maxLocals]; done) | rfl
theorem ef_cprs1 (m : MethodId) (x0 : Addr) : entryFrame m #[(.ref x0)] 5 = mkF m 0 #[.val (.ref x0), .unset, .unset, .unset, .unset] [] := by first | (simp [entryFrame, mkF, argsToLocals, Value.category, maxLocals]; done) | rfl
theorem ef_cete1 (m : MethodId) (x0 : Addr) (x1 : Addr) : entryFrame m #[(.ref x0), (.ref x1)] 3 = mkF m 0 #[.val (.ref x0), .val (.ref x1), .unset] [] := by first | (simp [entryFrame, mkF, argsToLocals, Value.category, maxLocals]; done) | rfl
theorem ef_ccsb2 (m : MethodId) (x0 : Addr) : entryFrame m #[(.ref x0), (.int 1), (.int 3)] 5 = mkF m 0 #[.val (.ref x0), .val (.int 1), .val (.int 3), .unset, .unset] [] := by first | (simp [entryFrame, mkF, argsToLocals, Value.category, maxLocals]; done) | rfl
theorem ef_ccs2 (m : MethodId) (x0 : Addr) : entryFrame m #[(.ref x0), (.int 1), (.int 3)] 3 = mkF m 0 #[.val (.ref x0), .val (.int 1), .val (.int 3)] [] := by first | (simp [entryFrame, mkF, argsToLocals, Value.category, maxLocals]; done) | rfl
theorem ef_cnew2 (m : MethodId) (x0 : Addr) : entryFrame m #[(.ref x0), (.int 1), (.int 2)] 3 = mkF m 0 #[.val (.ref x0), .val (.int 1), .val (.int 2)] [] := by first | (simp [entryFrame, mkF, argsToLocals, Value.category, maxLocals]; done) | rfl
theorem ef_csub2 (m : MethodId) (x0 : Addr) : entryFrame m #[(.ref x0), (.int 1), (.int 3)] 5 = mkF m 0 #[.val (.ref x0), .val (.int 1), .val (.int 3), .unset, .unset] [] := by first | (simp [entryFrame, mkF, argsToLocals, Value.category, maxLocals]; done) | rfl
theorem ef_cprs2 (m : MethodId) (x0 : Addr) : entryFrame m #[(.ref x0)] 5 = mkF m 0 #[.val (.ref x0), .unset, .unset, .unset, .unset] [] := by first | (simp [entryFrame, mkF, argsToLocals, Value.category, maxLocals]; done) | rfl
theorem ef_cete2 (m : MethodId) (x0 : Addr) (x1 : Addr) : entryFrame m #[(.ref x0), (.ref x1)] 3 = mkF m 0 #[.val (.ref x0), .val (.ref x1), .unset] [] := by first | (simp [entryFrame, mkF, argsToLocals, Value.category, maxLocals]; done) | rfl
theorem ef_ccsb3 (m : MethodId) (x0 : Addr) : entryFrame m #[(.ref x0), (.int 1), (.int 4)] 5 = mkF m 0 #[.val (.ref x0), .val (.int 1), .val (.int 4), .unset, .unset] [] := by first | (simp [entryFrame, mkF, argsToLocals, Value.category, maxLocals]; done) | rfl
theorem ef_ccs3 (m : MethodId) (x0 : Addr) : entryFrame m #[(.ref x0), (.int 1), (.int 4)] 3 = mkF m 0 #[.val (.ref x0), .val (.int 1), .val (.int 4)] [] := by first | (simp [entryFrame, mkF, argsToLocals, Value.category, maxLocals]; done) | rfl
theorem ef_cnew3 (m : MethodId) (x0 : Addr) : entryFrame m #[(.ref x0), (.int 1), (.int 3)] 3 = mkF m 0 #[.val (.ref x0), .val (.int 1), .val (.int 3)] [] := by first | (simp [entryFrame, mkF, argsToLocals, Value.category, maxLocals]; done) | rfl
theorem ef_csub3 (m : MethodId) (x0 : Addr) : entryFrame m #[(.ref x0), (.int 1), (.int 4)] 5 = mkF m 0 #[.val (.ref x0), .val (.int 1), .val (.int 4), .unset, .unset] [] := by first | (simp [entryFrame, mkF, argsToLocals, Value.category, maxLocals]; done) | rfl
theorem ef_cprs3 (m : MethodId) (x0 : Addr) : entryFrame m #[(.ref x0)] 5 = mkF m 0 #[.val (.ref x0), .unset, .unset, .unset, .unset] [] := by first | (simp [entryFrame, mkF, argsToLocals, Value.category, maxLocals]; done) | rfl
theorem ef_cete3 (m : MethodId) (x0 : Addr) (x1 : Addr) : entryFrame m #[(.ref x0), (.ref x1)] 3 = mkF m 0 #[.val (.ref x0), .val (.ref x1), .unset] [] := by first | (simp [entryFrame, mkF, argsToLocals, Value.category, maxLocals]; done) | rfl
theorem ef_law0 (m : MethodId) (x0 : Int32) (x1 : Int32) (x2 : Int32) (x3 : Int32) : entryFrame m #[(.int x0), (.int x1), (.int x2), (.int x3)] maxLocals = mkF m 0 #[.val (.int x0), .val (.int x1), .val (.int x2), .val (.int x3), .unset, .unset, .unset, .unset, .unset, .unset, .unset, .unset, .unset] [] := by first | (simp [entryFrame, mkF, argsToLocals, Value.category, maxLocals]; done) | rfl
theorem own_and3 (x : Int32) : x &&& (3 : Int32) = 0 ∨ x &&& (3 : Int32) = 1 ∨ x &&& (3 : Int32) = 2 ∨ x &&& (3 : Int32) = 3 := by
  have h := c_and x 3 (by decide)
  have e0 : (0 : Int32).toInt = 0 := rfl
  have e1 : (1 : Int32).toInt = 1 := rfl
  have e2 : (2 : Int32).toInt = 2 := rfl
  have e3 : (3 : Int32).toInt = 3 := rfl
  simp only [← Int32.toInt_inj]
  omega
theorem own_shr0 (n : Int32) : n >>> ((0 : Int32) &&& 31) = n := by
  have := c_ishr n 0 0 rfl
  apply Int32.toInt_inj.mp
  rw [this]; simp
theorem own_shl0 (n : Int32) : n <<< ((0 : Int32) &&& 31) = n := by
  apply Int32.toBitVec_inj.mp
  simp
theorem own_sub0 (n : Int32) : n - (0 : Int32) = n := by simp
def Cpy (sp dp nn z z' : Int32) (vs vd us out : List Value) : Prop := (¬ sp < 0 ∧ ¬ dp < 0 ∧ ¬ nn < 0) ∧ sp.toNatClampNeg + nn.toNatClampNeg ≤ z.toNatClampNeg ∧ dp.toNatClampNeg + nn.toNatClampNeg ≤ z'.toNatClampNeg ∧ us = ((List.range nn.toNatClampNeg).map fun i => vs.getD (sp.toNatClampNeg + i) (.int 0)) ∧ dp.toNatClampNeg + nn.toNatClampNeg ≤ vd.length ∧ vd.take dp.toNatClampNeg ++ us ++ vd.drop (dp.toNatClampNeg + nn.toNatClampNeg) = out
def Stp (j z : Int32) (vd : List Value) (x : Value) (out : List Value) : Prop := (¬ j < 0 ∧ j < z) ∧ j.toNatClampNeg < vd.length ∧ vd.set j.toNatClampNeg x = out
def Cut (ct cp : Int32) (ds us : List Value) : Prop := (¬ ct < 0 ∧ ct < cp) ∧ ct.toNatClampNeg ≤ 8 ∧ us = ((List.range ct.toNatClampNeg).map fun i => ds.getD ((0 : Int32).toNatClampNeg + i) (.int 0))
theorem own_cutL (ct : Int32) : (0 : Int32).toNatClampNeg + ct.toNatClampNeg ≤ ct.toNatClampNeg := Nat.le_of_eq (Nat.zero_add _)
theorem own_cutA {ct cp : Int32} {ds us : List Value} (h : Cut ct cp ds us) : (0 : Int32).toNatClampNeg + ct.toNatClampNeg ≤ cp.toNatClampNeg := by
  have e : (0 : Int32).toNatClampNeg = 0 := rfl
  have := Int32.lt_iff_toInt_lt.mp h.1.2; simp only [Int32.toNatClampNeg] at *; omega
theorem own_cutB {ct cp : Int32} {ds us : List Value} (h : Cut ct cp ds us) : (0 : Int32).toNatClampNeg + ct.toNatClampNeg ≤ [(.int 0 : Value), .int 0, .int 0, .int 0, .int 0, .int 0, .int 0, .int 0].length := by
  have e : (0 : Int32).toNatClampNeg = 0 := rfl
  have e2 : ([(.int 0 : Value), .int 0, .int 0, .int 0, .int 0, .int 0, .int 0, .int 0] : List Value).length = 8 := rfl
  have := h.2.1; omega
theorem own_cutN {ct cp : Int32} {ds us : List Value} (h : Cut ct cp ds us) : ¬ (ct = cp) := fun q => by
  have := Int32.lt_iff_toInt_lt.mp h.1.2; rw [q] at this; omega
theorem own_cut {Z : State} {h : Heap} {a : Addr} {c : ClassId} {ty : FieldType} {z : Int32} {us : List Value} {j : Nat} (A : Arv Z h a c ty z ([(.int 0 : Value), .int 0, .int 0, .int 0, .int 0, .int 0, .int 0, .int 0].take (0 : Int32).toNatClampNeg ++ us ++ [(.int 0 : Value), .int 0, .int 0, .int 0, .int 0, .int 0, .int 0, .int 0].drop j) (.int 0)) : Arv Z h a c ty z us (.int 0) := by
  refine A.pad fun i => ?_
  have e : (([(.int 0 : Value), .int 0, .int 0, .int 0, .int 0, .int 0, .int 0, .int 0] : List Value).take (0 : Int32).toNatClampNeg ++ us ++ [(.int 0 : Value), .int 0, .int 0, .int 0, .int 0, .int 0, .int 0, .int 0].drop j) = us ++ List.replicate (8 - j) (.int 0) := by
    rw [show ([(.int 0 : Value), .int 0, .int 0, .int 0, .int 0, .int 0, .int 0, .int 0] : List Value) = List.replicate 8 (.int 0) from rfl, List.drop_replicate, show (0 : Int32).toNatClampNeg = 0 from rfl, List.take_zero, List.nil_append]
  rw [e]; exact (pad_rep us (.int 0) (8 - j) i).symm
def ETC (y : Int32) : Prop := y.toInt = 33 ∨ (35 ≤ y.toInt ∧ y.toInt ≤ 126) ∨ (128 ≤ y.toInt ∧ y.toInt ≤ 255)
theorem own_etr {y : Int32} (h : ETC y) : y.toInt = 33 ∨ (35 ≤ y.toInt ∧ y.toInt ≤ 126) ∨ (128 ≤ y.toInt ∧ y.toInt ≤ 255) := h
theorem own_et3 {y : Int32} (h : ETC y) : y = (33 : Int32) ∨ (¬ y = (33 : Int32) ∧ ¬ y < (35 : Int32) ∧ ¬ (126 : Int32) < y) ∨ (¬ y = (33 : Int32) ∧ ¬ y < (35 : Int32) ∧ (126 : Int32) < y ∧ ¬ y < (128 : Int32) ∧ ¬ (255 : Int32) < y) := by
  have h := own_etr h
  simp only [Int32.lt_iff_toInt_lt, ← Int32.toInt_inj]
  have e1 : (33 : Int32).toInt = 33 := rfl
  have e2 : (35 : Int32).toInt = 35 := rfl
  have e3 : (126 : Int32).toInt = 126 := rfl
  have e4 : (128 : Int32).toInt = 128 := rfl
  have e5 : (255 : Int32).toInt = 255 := rfl
  omega
theorem own_lt {x y : Int32} (h : x < y) : x.toInt < y.toInt := Int32.lt_iff_toInt_lt.mp h
theorem own_ltn {x y : Int32} (h : ¬ x < y) : ¬ x.toInt < y.toInt := fun q => h (Int32.lt_iff_toInt_lt.mpr q)
theorem own_eq {x y : Int32} (h : x = y) : x.toInt = y.toInt := congrArg _ h
theorem own_eqn {x y : Int32} (h : ¬ x = y) : ¬ x.toInt = y.toInt := fun q => h (Int32.toInt_inj.mp q)
theorem own_ec255 {y : Int32} (h : ETC y) : ¬ (255 : Int32) < y := fun q => by
  have := own_lt q; have e : (255 : Int32).toInt = 255 := rfl; have := own_etr h; omega
theorem own_small {y : Int32} (h0 : 0 ≤ y.toInt) (h1 : y.toInt ≤ 255) : ∃ n : Nat, n < 256 ∧ y = Int32.ofNat n := by
  refine ⟨y.toInt.toNat, by omega, ?_⟩
  apply Int32.toInt_inj.mp
  rw [Int32.toInt_ofNat_of_lt (by omega)]; omega
theorem own_all : ∀ n : Nat, n < 256 → nar .char (Int32.ofNat n) = Int32.ofNat n ∧ ((Int32.ofNat n).toInt8.toInt32 &&& (255 : Int32)).toUInt32.toUInt16.toUInt32.toInt32 = Int32.ofNat n ∧ (Int32.ofNat n).toUInt32.toUInt16.toUInt32.toInt32 = Int32.ofNat n := by decide +kernel
theorem own_rng {y : Int32} (h : ETC y) : 0 ≤ y.toInt ∧ y.toInt ≤ 255 := by have := own_etr h; omega
theorem own_ecn {y : Int32} (h : ETC y) : nar .char y = y := by
  obtain ⟨n, hn, rfl⟩ := own_small (own_rng h).1 (own_rng h).2; exact (own_all n hn).1
theorem own_ech {y : Int32} (h : ETC y) : ((y.toInt8.toInt32) &&& (255 : Int32)).toUInt32.toUInt16.toUInt32.toInt32 = y := by
  obtain ⟨n, hn, rfl⟩ := own_small (own_rng h).1 (own_rng h).2; exact (own_all n hn).2.1
theorem own_i2c {y : Int32} (h0 : 0 ≤ y.toInt) (h1 : y.toInt ≤ 255) : y.toUInt32.toUInt16.toUInt32.toInt32 = y := by
  obtain ⟨n, hn, rfl⟩ := own_small h0 h1; exact (own_all n hn).2.2
theorem own_b221 (x : Int32) : 0 ≤ ((x &&& (2147483647 : Int32)) % (221 : Int32)).toInt ∧ ((x &&& (2147483647 : Int32)) % (221 : Int32)).toInt < 221 := by
  have h0 : 0 ≤ (x &&& (2147483647 : Int32)).toInt := by
    have : ¬ (x &&& (2147483647 : Int32)) < 0 := by rw [Jvm.Free.XT.and_neg32]; exact fun q => absurd q.2 (by decide)
    rw [Jvm.Free.XT.negI32] at this; omega
  generalize x &&& (2147483647 : Int32) = y at h0 ⊢
  have h1 : (y % 221).toInt = y.toInt.tmod 221 := Int32.toInt_mod y 221
  rw [Int.tmod_eq_emod_of_nonneg h0] at h1
  have h2 := Int.emod_nonneg y.toInt (by decide : (221 : Int) ≠ 0)
  have h3 := Int.emod_lt_of_pos y.toInt (by decide : (0 : Int) < 221)
  omega
theorem own_etA : ETC (33 : Int32) := Or.inl rfl
theorem own_bm {z : Int} (h : -2147483648 ≤ z) (h2 : z < 2147483648) : z.bmod 4294967296 = z := by rw [Int.bmod_eq_of_le (by omega) (by omega)]
theorem own_etB {k : Int32} (hk : 0 ≤ k.toInt ∧ k.toInt < 221) (h0 : ¬ (k = (0 : Int32))) (h1 : ¬ ((92 : Int32) < k)) : ETC (((34 : Int32) + k).toUInt32.toUInt16.toUInt32.toInt32) := by
  have a := own_ltn h1; have e1 : (92 : Int32).toInt = 92 := rfl; have b := own_eqn h0; have e0 : (0 : Int32).toInt = 0 := rfl
  have s : ((34 : Int32) + k).toInt = 34 + k.toInt := by rw [Int32.toInt_add, show (34 : Int32).toInt = 34 from rfl]; exact own_bm (by omega) (by omega)
  rw [own_i2c (by omega) (by omega)]; exact Or.inr (Or.inl ⟨by omega, by omega⟩)
theorem own_etC {k : Int32} (hk : 0 ≤ k.toInt ∧ k.toInt < 221) (h1 : (92 : Int32) < k) : ETC (((128 : Int32) + (k - (93 : Int32))).toUInt32.toUInt16.toUInt32.toInt32) := by
  have a := own_lt h1; have e1 : (92 : Int32).toInt = 92 := rfl
  have d : (k - (93 : Int32)).toInt = k.toInt - 93 := by rw [Int32.toInt_sub, show (93 : Int32).toInt = 93 from rfl]; exact own_bm (by omega) (by omega)
  have s : ((128 : Int32) + (k - (93 : Int32))).toInt = 128 + (k.toInt - 93) := by rw [Int32.toInt_add, d, show (128 : Int32).toInt = 128 from rfl]; exact own_bm (by omega) (by omega)
  rw [own_i2c (by omega) (by omega)]; exact Or.inr (Or.inr ⟨by omega, by omega⟩)
abbrev xS0 : String := "java/lang/String"
abbrev xS1 : String := "com/example/match_before_write/matchbeforewrite/EntityTag"
abbrev xS2 : String := "java/lang/AbstractStringBuilder"
abbrev xS3 : String := "COMPACT_STRINGS"
abbrev xS4 : String := "Ljava/lang/String;"
abbrev xS5 : String := "java/lang/StringUTF16"
abbrev xS6 : String := "jdk/internal/util/Preconditions"
abbrev xS7 : String := "java/lang/StringLatin1"
abbrev xS8 : String := "java/lang/StringBuilder"
abbrev xS9 : String := "Ljava/util/function/BiFunction;"
abbrev xS10 : String := "com/example/match_before_write/matchbeforewrite/EntityTagStrongPinLaw"
abbrev xS11 : String := "(Ljava/lang/String;)Lcom/example/match_before_write/matchbeforewrite/EntityTag;"
def Q_cetg (Z : State) (p : Int32) (h0 : Heap) (vR : Option Value) (hR : Heap) (LR : List Loc) : Prop := ∃ y : Int32, vR = some (.int y) ∧ Fr Z.heap.size LR ∧ hR = h0 ∧ ETC y
theorem cetg (l : Launch) (Z : State) (a0 : Array Value) (hw : ∀ d ∈ tables_1, d.before a0 Z = true) (p : Int32) (h0 : Heap) (O0 : Ext Z.heap h0) :
    Ctr l Z h0 (⟨xS10, "etagc", "(I)C"⟩ : MethodName) k1 2 (some .char) [] ({ frames := 0, cells := 0, slots := 0, locals := 0 } : Room) #[(.int p)] (Q_cetg Z p h0) := by
  refine enter (plainFor_of_name pn0) ?_
  intro pp ee ss mm below meth cc s₁ hx hby hml hZ hown hnm hret hlk X0 e0 hs0
  replace hown : ss.vm.findClass xS10 = some mm.cls := hown
  refine Go.r (congrArg s₁.setTop (ef_cetg mm p)) ?_
  have N0 := Fr.nil Z.heap.size
  show Go pp ee below _ (s₁.setTop (mkF mm 0 #[.val (.int p), .unset] []))
  refine Go.f X0 hx (hb hby d1_0) rfl (q := 1) rfl ?_
  refine Go.jK X0 hx hZ hown (wd4 hw) (hb hby d1_1) (q := 3) rfl ?_
  refine Go.jD X0 hx (hb hby d1_3) rfl (q := 4) rfl ?_
  refine Go.X X0 hx (hb hby d1_4) (r := (221 : Int32)) rfl (q := 7) rfl ?_
  refine Go.jM X0 hx (hb hby d1_7) (by decide) rfl (q := 8) rfl ?_
  have hk := own_b221 p
  generalize ((p &&& (2147483647 : Int32)) % (221 : Int32)) = kk at hk ⊢
  show Go pp ee below _ (s₁.setTop (mkF mm 8 #[.val (.int p), .unset] [(.int kk)]))
  refine Go.P X0 hx (hb hby d1_8) (l' := #[.val (.int p), .val (.int kk)]) rfl (q := 9) rfl ?_
  refine Go.f X0 hx (hb hby d1_9) rfl (q := 10) rfl ?_
  by_cases hc101 : kk = (0 : Int32)
  · refine Go.L X0 hx (hb hby d1_10) (Jvm.Free.XT.i0_ne_f hc101) (q := 13) rfl ?_
    refine Go.E X0 hx (hb hby d1_13) (r := (33 : Int32)) rfl (q := 15) rfl ?_
    exact Go.M X0 hx hret hlk (by simp) rfl (hb hby d1_15) e0 (by decide) (by decide) ⟨_, rfl, N0, rfl, own_etA⟩
  · refine Go.F X0 hx (hb hby d1_10) (Jvm.Free.XT.i0_ne_t hc101) (q := 16) (by decide) (by decide) ?_
    refine Go.f X0 hx (hb hby d1_16) rfl (q := 17) rfl ?_
    refine Go.E X0 hx (hb hby d1_17) (r := (92 : Int32)) rfl (q := 19) rfl ?_
    by_cases hc102 : (92 : Int32) < kk
    · refine Go.y X0 hx (hb hby d1_19) (Jvm.Free.XT.ii_gt_t hc102) (q := 28) (by decide) (by decide) ?_
      refine Go.X X0 hx (hb hby d1_28) (r := (128 : Int32)) rfl (q := 31) rfl ?_
      refine Go.f X0 hx (hb hby d1_31) rfl (q := 32) rfl ?_
      refine Go.E X0 hx (hb hby d1_32) (r := (93 : Int32)) rfl (q := 34) rfl ?_
      refine Go.ja X0 hx (hb hby d1_34) rfl (q := 35) rfl ?_
      refine Go.jh X0 hx (hb hby d1_35) rfl (q := 36) rfl ?_
      refine Go.jC X0 hx (hb hby d1_36) rfl (q := 37) rfl ?_
      exact Go.M X0 hx hret hlk (by simp) (Jvm.Free.XT.narrow_c _) (hb hby d1_37) e0 (by decide) (by decide) ⟨_, rfl, N0, rfl, own_etC hk hc102⟩
    · refine Go.t X0 hx (hb hby d1_19) (Jvm.Free.XT.ii_gt_f hc102) (q := 22) rfl ?_
      refine Go.E X0 hx (hb hby d1_22) (r := (34 : Int32)) rfl (q := 24) rfl ?_
      refine Go.f X0 hx (hb hby d1_24) rfl (q := 25) rfl ?_
      refine Go.jh X0 hx (hb hby d1_25) rfl (q := 26) rfl ?_
      refine Go.jC X0 hx (hb hby d1_26) rfl (q := 27) rfl ?_
      exact Go.M X0 hx hret hlk (by simp) (Jvm.Free.XT.narrow_c _) (hb hby d1_27) e0 (by decide) (by decide) ⟨_, rfl, N0, rfl, own_etB hk hc101 hc102⟩
def Q_cch0 (Z : State) (c0 c1 c2 : Int32) (h0 : Heap) (vR : Option Value) (hR : Heap) (LR : List Loc) : Prop := ∃ ar : Addr, ∃ ka : ClassId, vR = some (.ref ar) ∧ Fr Z.heap.size LR ∧ Keep h0 hR [] ∧ h0.size ≤ ar ∧ Exa Z hR ar "[C" ∧ Arv Z hR ar ka .char (0 : Int32) [] (.int 0)
theorem cch0 (l : Launch) (Z : State) (a0 : Array Value) (hw : ∀ d ∈ tables_1, d.before a0 Z = true) (c0 c1 c2 : Int32) (h0 : Heap) (O0 : Ext Z.heap h0) :
    Ctr l Z h0 (⟨xS10, "chars", "(ICCC)[C"⟩ : MethodName) k2 4 (some (.array .char)) [] ({ frames := 0, cells := 1, slots := 0, locals := 0 } : Room) #[(.int 0), (.int c0), (.int c1), (.int c2)] (Q_cch0 Z c0 c1 c2 h0) := by
  refine enter (plainFor_of_name pn0) ?_
  intro pp ee ss mm below meth cc s₁ hx hby hml hZ hown hnm hret hlk X0 e0 hs0
  replace hown : ss.vm.findClass xS10 = some mm.cls := hown
  refine Go.r (congrArg s₁.setTop (ef_cch0 mm c0 c1 c2)) ?_
  have N0 := Fr.nil Z.heap.size
  have KP := Keep.refl h0 []
  show Go pp ee below _ (s₁.setTop (mkF mm 0 #[.val (.int 0), .val (.int c0), .val (.int c1), .val (.int c2)] []))
  refine Go.f X0 hx (hb hby d2_0) rfl (q := 1) rfl ?_
  refine Go.L X0 hx (hb hby d2_1) (by decide) (q := 4) rfl ?_
  refine Go.i X0 hx (hb hby d2_4) (r := (0 : Int32)) rfl (q := 5) rfl ?_
  refine Go.ji X0 hx hZ (hb hby d2_5) (wd11 hw) e0 (by decide) (cap := 0) (by decide) (by decide) (by decide) (by decide) (ad := "[C") rfl (q := 7) rfl ?_
  intro b101 T101 h101 k101 X101 e101 q101 E101 V101 B101
  have g_b101 : Z.heap.size ≤ b101 := Nat.le_trans O0.1 (Nat.le_of_eq q101)
  have z_b101 : h0.size ≤ b101 := Nat.le_trans KP.1 (Nat.le_of_eq q101)
  have OE101 := ext_trans O0 E101
  replace KP := KP.ext E101
  replace V101 : Arv Z h101 b101 k101 .char (0 : Int32) [] (.int 0) := V101
  exact Go.U X101 hx hret hlk rfl rfl (hb hby d2_7) e101 (by decide) (by decide) ⟨b101, k101, rfl, N0, KP, z_b101, B101, V101⟩
def Q_cch1 (Z : State) (c0 c1 c2 : Int32) (h0 : Heap) (vR : Option Value) (hR : Heap) (LR : List Loc) : Prop := ∃ ar : Addr, ∃ ka : ClassId, vR = some (.ref ar) ∧ Fr Z.heap.size LR ∧ Keep h0 hR [] ∧ h0.size ≤ ar ∧ Exa Z hR ar "[C" ∧ Arv Z hR ar ka .char (1 : Int32) [(.int c0)] (.int 0)
theorem cch1 (l : Launch) (Z : State) (a0 : Array Value) (hw : ∀ d ∈ tables_1, d.before a0 Z = true) (c0 c1 c2 : Int32) (h0 : Heap) (O0 : Ext Z.heap h0) (hn0 : nar .char c0 = c0) :
    Ctr l Z h0 (⟨xS10, "chars", "(ICCC)[C"⟩ : MethodName) k2 4 (some (.array .char)) [] ({ frames := 0, cells := 1, slots := 1, locals := 0 } : Room) #[(.int 1), (.int c0), (.int c1), (.int c2)] (Q_cch1 Z c0 c1 c2 h0) := by
  refine enter (plainFor_of_name pn0) ?_
  intro pp ee ss mm below meth cc s₁ hx hby hml hZ hown hnm hret hlk X0 e0 hs0
  replace hown : ss.vm.findClass xS10 = some mm.cls := hown
  refine Go.r (congrArg s₁.setTop (ef_cch1 mm c0 c1 c2)) ?_
  have N0 := Fr.nil Z.heap.size
  have KP := Keep.refl h0 []
  show Go pp ee below _ (s₁.setTop (mkF mm 0 #[.val (.int 1), .val (.int c0), .val (.int c1), .val (.int c2)] []))
  refine Go.f X0 hx (hb hby d2_0) rfl (q := 1) rfl ?_
  refine Go.F X0 hx (hb hby d2_1) (by decide) (q := 8) (by decide) (by decide) ?_
  refine Go.f X0 hx (hb hby d2_8) rfl (q := 9) rfl ?_
  refine Go.i X0 hx (hb hby d2_9) (r := (1 : Int32)) rfl (q := 10) rfl ?_
  refine Go.t X0 hx (hb hby d2_10) (by decide) (q := 13) rfl ?_
  refine Go.i X0 hx (hb hby d2_13) (r := (1 : Int32)) rfl (q := 14) rfl ?_
  refine Go.ji X0 hx hZ (hb hby d2_14) (wd11 hw) e0 (by decide) (cap := 1) (by decide) (by decide) (by decide) (by decide) (ad := "[C") rfl (q := 16) rfl ?_
  intro b101 T101 h101 k101 X101 e101 q101 E101 V101 B101
  have g_b101 : Z.heap.size ≤ b101 := Nat.le_trans O0.1 (Nat.le_of_eq q101)
  have z_b101 : h0.size ≤ b101 := Nat.le_trans KP.1 (Nat.le_of_eq q101)
  have OE101 := ext_trans O0 E101
  replace KP := KP.ext E101
  replace V101 : Arv Z h101 b101 k101 .char (1 : Int32) [(.int 0)] (.int 0) := V101.pad (pad_rep [] (.int 0) 1)
  refine Go.N X101 hx (hb hby d2_16) rfl (q := 17) rfl ?_
  refine Go.i X101 hx (hb hby d2_17) (r := (0 : Int32)) rfl (q := 18) rfl ?_
  refine Go.f X101 hx (hb hby d2_18) rfl (q := 19) rfl ?_
  refine Go.jg X101 hx hZ e101 V101 ⟨by decide, by decide⟩ (i := 0) rfl (Nat.le_of_ble_eq_true rfl) (hb hby d2_19) ?_
  intro T102 h102 X102 e102 W102 V102
  rw [hn0] at V102
  replace V102 : Arv Z h102 b101 k101 .char (1 : Int32) [(.int c0)] (.int 0) := V102
  have N102 := Fr.snoc X102 N0 g_b101
  replace B101 := B101.wr W102
  have OW102 := ext_wr OE101 W102 g_b101
  replace KP := KP.wr W102 (Or.inr z_b101)
  exact Go.U X102 hx hret hlk rfl rfl (hb hby d2_20) e102 (by decide) (by decide) ⟨b101, k101, rfl, N102, KP, z_b101, B101, V102⟩
def Q_cch2 (Z : State) (c0 c1 c2 : Int32) (h0 : Heap) (vR : Option Value) (hR : Heap) (LR : List Loc) : Prop := ∃ ar : Addr, ∃ ka : ClassId, vR = some (.ref ar) ∧ Fr Z.heap.size LR ∧ Keep h0 hR [] ∧ h0.size ≤ ar ∧ Exa Z hR ar "[C" ∧ Arv Z hR ar ka .char (2 : Int32) [(.int c0), (.int c1)] (.int 0)
theorem cch2 (l : Launch) (Z : State) (a0 : Array Value) (hw : ∀ d ∈ tables_1, d.before a0 Z = true) (c0 c1 c2 : Int32) (h0 : Heap) (O0 : Ext Z.heap h0) (hn0 : nar .char c0 = c0) (hn1 : nar .char c1 = c1) :
    Ctr l Z h0 (⟨xS10, "chars", "(ICCC)[C"⟩ : MethodName) k2 4 (some (.array .char)) [] ({ frames := 0, cells := 1, slots := 2, locals := 0 } : Room) #[(.int 2), (.int c0), (.int c1), (.int c2)] (Q_cch2 Z c0 c1 c2 h0) := by
  refine enter (plainFor_of_name pn0) ?_
  intro pp ee ss mm below meth cc s₁ hx hby hml hZ hown hnm hret hlk X0 e0 hs0
  replace hown : ss.vm.findClass xS10 = some mm.cls := hown
  refine Go.r (congrArg s₁.setTop (ef_cch2 mm c0 c1 c2)) ?_
  have N0 := Fr.nil Z.heap.size
  have KP := Keep.refl h0 []
  show Go pp ee below _ (s₁.setTop (mkF mm 0 #[.val (.int 2), .val (.int c0), .val (.int c1), .val (.int c2)] []))
  refine Go.f X0 hx (hb hby d2_0) rfl (q := 1) rfl ?_
  refine Go.F X0 hx (hb hby d2_1) (by decide) (q := 8) (by decide) (by decide) ?_
  refine Go.f X0 hx (hb hby d2_8) rfl (q := 9) rfl ?_
  refine Go.i X0 hx (hb hby d2_9) (r := (1 : Int32)) rfl (q := 10) rfl ?_
  refine Go.y X0 hx (hb hby d2_10) (by decide) (q := 21) (by decide) (by decide) ?_
  refine Go.f X0 hx (hb hby d2_21) rfl (q := 22) rfl ?_
  refine Go.i X0 hx (hb hby d2_22) (r := (2 : Int32)) rfl (q := 23) rfl ?_
  refine Go.t X0 hx (hb hby d2_23) (by decide) (q := 26) rfl ?_
  refine Go.i X0 hx (hb hby d2_26) (r := (2 : Int32)) rfl (q := 27) rfl ?_
  refine Go.ji X0 hx hZ (hb hby d2_27) (wd11 hw) e0 (by decide) (cap := 2) (by decide) (by decide) (by decide) (by decide) (ad := "[C") rfl (q := 29) rfl ?_
  intro b101 T101 h101 k101 X101 e101 q101 E101 V101 B101
  have g_b101 : Z.heap.size ≤ b101 := Nat.le_trans O0.1 (Nat.le_of_eq q101)
  have z_b101 : h0.size ≤ b101 := Nat.le_trans KP.1 (Nat.le_of_eq q101)
  have OE101 := ext_trans O0 E101
  replace KP := KP.ext E101
  replace V101 : Arv Z h101 b101 k101 .char (2 : Int32) [(.int 0), (.int 0)] (.int 0) := V101.pad (pad_rep [] (.int 0) 2)
  refine Go.N X101 hx (hb hby d2_29) rfl (q := 30) rfl ?_
  refine Go.i X101 hx (hb hby d2_30) (r := (0 : Int32)) rfl (q := 31) rfl ?_
  refine Go.f X101 hx (hb hby d2_31) rfl (q := 32) rfl ?_
  refine Go.jg X101 hx hZ e101 V101 ⟨by decide, by decide⟩ (i := 0) rfl (Nat.le_of_ble_eq_true rfl) (hb hby d2_32) ?_
  intro T102 h102 X102 e102 W102 V102
  rw [hn0] at V102
  replace V102 : Arv Z h102 b101 k101 .char (2 : Int32) [(.int c0), (.int 0)] (.int 0) := V102
  have N102 := Fr.snoc X102 N0 g_b101
  replace B101 := B101.wr W102
  have OW102 := ext_wr OE101 W102 g_b101
  replace KP := KP.wr W102 (Or.inr z_b101)
  refine Go.N X102 hx (hb hby d2_33) rfl (q := 34) rfl ?_
  refine Go.i X102 hx (hb hby d2_34) (r := (1 : Int32)) rfl (q := 35) rfl ?_
  refine Go.f X102 hx (hb hby d2_35) rfl (q := 36) rfl ?_
  refine Go.jg X102 hx hZ e102 V102 ⟨by decide, by decide⟩ (i := 1) rfl (Nat.le_of_ble_eq_true rfl) (hb hby d2_36) ?_
  intro T103 h103 X103 e103 W103 V103
  rw [hn1] at V103
  replace V103 : Arv Z h103 b101 k101 .char (2 : Int32) [(.int c0), (.int c1)] (.int 0) := V103
  have N103 := Fr.snoc X103 N102 g_b101
  replace B101 := B101.wr W103
  have OW103 := ext_wr OW102 W103 g_b101
  replace KP := KP.wr W103 (Or.inr z_b101)
  exact Go.U X103 hx hret hlk rfl rfl (hb hby d2_37) e103 (by decide) (by decide) ⟨b101, k101, rfl, N103, KP, z_b101, B101, V103⟩
def Q_cch3 (Z : State) (c0 c1 c2 : Int32) (h0 : Heap) (vR : Option Value) (hR : Heap) (LR : List Loc) : Prop := ∃ ar : Addr, ∃ ka : ClassId, vR = some (.ref ar) ∧ Fr Z.heap.size LR ∧ Keep h0 hR [] ∧ h0.size ≤ ar ∧ Exa Z hR ar "[C" ∧ Arv Z hR ar ka .char (3 : Int32) [(.int c0), (.int c1), (.int c2)] (.int 0)
theorem cch3 (l : Launch) (Z : State) (a0 : Array Value) (hw : ∀ d ∈ tables_1, d.before a0 Z = true) (c0 c1 c2 : Int32) (h0 : Heap) (O0 : Ext Z.heap h0) (hn0 : nar .char c0 = c0) (hn1 : nar .char c1 = c1) (hn2 : nar .char c2 = c2) :
    Ctr l Z h0 (⟨xS10, "chars", "(ICCC)[C"⟩ : MethodName) k2 4 (some (.array .char)) [] ({ frames := 0, cells := 1, slots := 3, locals := 0 } : Room) #[(.int 3), (.int c0), (.int c1), (.int c2)] (Q_cch3 Z c0 c1 c2 h0) := by
  refine enter (plainFor_of_name pn0) ?_
  intro pp ee ss mm below meth cc s₁ hx hby hml hZ hown hnm hret hlk X0 e0 hs0
  replace hown : ss.vm.findClass xS10 = some mm.cls := hown
  refine Go.r (congrArg s₁.setTop (ef_cch3 mm c0 c1 c2)) ?_
  have N0 := Fr.nil Z.heap.size
  have KP := Keep.refl h0 []
  show Go pp ee below _ (s₁.setTop (mkF mm 0 #[.val (.int 3), .val (.int c0), .val (.int c1), .val (.int c2)] []))
  refine Go.f X0 hx (hb hby d2_0) rfl (q := 1) rfl ?_
  refine Go.F X0 hx (hb hby d2_1) (by decide) (q := 8) (by decide) (by decide) ?_
  refine Go.f X0 hx (hb hby d2_8) rfl (q := 9) rfl ?_
  refine Go.i X0 hx (hb hby d2_9) (r := (1 : Int32)) rfl (q := 10) rfl ?_
  refine Go.y X0 hx (hb hby d2_10) (by decide) (q := 21) (by decide) (by decide) ?_
  refine Go.f X0 hx (hb hby d2_21) rfl (q := 22) rfl ?_
  refine Go.i X0 hx (hb hby d2_22) (r := (2 : Int32)) rfl (q := 23) rfl ?_
  refine Go.y X0 hx (hb hby d2_23) (by decide) (q := 38) (by decide) (by decide) ?_
  refine Go.i X0 hx (hb hby d2_38) (r := (3 : Int32)) rfl (q := 39) rfl ?_
  refine Go.ji X0 hx hZ (hb hby d2_39) (wd11 hw) e0 (by decide) (cap := 3) (by decide) (by decide) (by decide) (by decide) (ad := "[C") rfl (q := 41) rfl ?_
  intro b101 T101 h101 k101 X101 e101 q101 E101 V101 B101
  have g_b101 : Z.heap.size ≤ b101 := Nat.le_trans O0.1 (Nat.le_of_eq q101)
  have z_b101 : h0.size ≤ b101 := Nat.le_trans KP.1 (Nat.le_of_eq q101)
  have OE101 := ext_trans O0 E101
  replace KP := KP.ext E101
  replace V101 : Arv Z h101 b101 k101 .char (3 : Int32) [(.int 0), (.int 0), (.int 0)] (.int 0) := V101.pad (pad_rep [] (.int 0) 3)
  refine Go.N X101 hx (hb hby d2_41) rfl (q := 42) rfl ?_
  refine Go.i X101 hx (hb hby d2_42) (r := (0 : Int32)) rfl (q := 43) rfl ?_
  refine Go.f X101 hx (hb hby d2_43) rfl (q := 44) rfl ?_
  refine Go.jg X101 hx hZ e101 V101 ⟨by decide, by decide⟩ (i := 0) rfl (Nat.le_of_ble_eq_true rfl) (hb hby d2_44) ?_
  intro T102 h102 X102 e102 W102 V102
  rw [hn0] at V102
  replace V102 : Arv Z h102 b101 k101 .char (3 : Int32) [(.int c0), (.int 0), (.int 0)] (.int 0) := V102
  have N102 := Fr.snoc X102 N0 g_b101
  replace B101 := B101.wr W102
  have OW102 := ext_wr OE101 W102 g_b101
  replace KP := KP.wr W102 (Or.inr z_b101)
  refine Go.N X102 hx (hb hby d2_45) rfl (q := 46) rfl ?_
  refine Go.i X102 hx (hb hby d2_46) (r := (1 : Int32)) rfl (q := 47) rfl ?_
  refine Go.f X102 hx (hb hby d2_47) rfl (q := 48) rfl ?_
  refine Go.jg X102 hx hZ e102 V102 ⟨by decide, by decide⟩ (i := 1) rfl (Nat.le_of_ble_eq_true rfl) (hb hby d2_48) ?_
  intro T103 h103 X103 e103 W103 V103
  rw [hn1] at V103
  replace V103 : Arv Z h103 b101 k101 .char (3 : Int32) [(.int c0), (.int c1), (.int 0)] (.int 0) := V103
  have N103 := Fr.snoc X103 N102 g_b101
  replace B101 := B101.wr W103
  have OW103 := ext_wr OW102 W103 g_b101
  replace KP := KP.wr W103 (Or.inr z_b101)
  refine Go.N X103 hx (hb hby d2_49) rfl (q := 50) rfl ?_
  refine Go.i X103 hx (hb hby d2_50) (r := (2 : Int32)) rfl (q := 51) rfl ?_
  refine Go.f X103 hx (hb hby d2_51) rfl (q := 52) rfl ?_
  refine Go.jg X103 hx hZ e103 V103 ⟨by decide, by decide⟩ (i := 2) rfl (Nat.le_of_ble_eq_true rfl) (hb hby d2_52) ?_
  intro T104 h104 X104 e104 W104 V104
  rw [hn2] at V104
  replace V104 : Arv Z h104 b101 k101 .char (3 : Int32) [(.int c0), (.int c1), (.int c2)] (.int 0) := V104
  have N104 := Fr.snoc X104 N103 g_b101
  replace B101 := B101.wr W104
  have OW104 := ext_wr OW103 W104 g_b101
  replace KP := KP.wr W104 (Or.inr z_b101)
  exact Go.U X104 hx hret hlk rfl rfl (hb hby d2_53) e104 (by decide) (by decide) ⟨b101, k101, rfl, N104, KP, z_b101, B101, V104⟩
def Q_cqu0 (Z : State) (c0 c1 c2 : Int32) (h0 : Heap) (vR : Option Value) (hR : Heap) (LR : List Loc) : Prop := ∃ ar : Addr, ∃ ka : ClassId, vR = some (.ref ar) ∧ Fr Z.heap.size LR ∧ Keep h0 hR [] ∧ h0.size ≤ ar ∧ Exa Z hR ar "[C" ∧ Arv Z hR ar ka .char (2 : Int32) [(.int 34), (.int 34)] (.int 0)
theorem cqu0 (l : Launch) (Z : State) (a0 : Array Value) (hw : ∀ d ∈ tables_1, d.before a0 Z = true) (c0 c1 c2 : Int32) (h0 : Heap) (O0 : Ext Z.heap h0) :
    Ctr l Z h0 (⟨xS10, "quoted", "(ICCC)[C"⟩ : MethodName) k6 4 (some (.array .char)) [] ({ frames := 0, cells := 1, slots := 2, locals := 0 } : Room) #[(.int 0), (.int c0), (.int c1), (.int c2)] (Q_cqu0 Z c0 c1 c2 h0) := by
  refine enter (plainFor_of_name pn0) ?_
  intro pp ee ss mm below meth cc s₁ hx hby hml hZ hown hnm hret hlk X0 e0 hs0
  replace hown : ss.vm.findClass xS10 = some mm.cls := hown
  refine Go.r (congrArg s₁.setTop (ef_cqu0 mm c0 c1 c2)) ?_
  have N0 := Fr.nil Z.heap.size
  have KP := Keep.refl h0 []
  show Go pp ee below _ (s₁.setTop (mkF mm 0 #[.val (.int 0), .val (.int c0), .val (.int c1), .val (.int c2)] []))
  refine Go.f X0 hx (hb hby d6_0) rfl (q := 1) rfl ?_
  refine Go.L X0 hx (hb hby d6_1) (by decide) (q := 4) rfl ?_
  refine Go.i X0 hx (hb hby d6_4) (r := (2 : Int32)) rfl (q := 5) rfl ?_
  refine Go.ji X0 hx hZ (hb hby d6_5) (wd11 hw) e0 (by decide) (cap := 2) (by decide) (by decide) (by decide) (by decide) (ad := "[C") rfl (q := 7) rfl ?_
  intro b101 T101 h101 k101 X101 e101 q101 E101 V101 B101
  have g_b101 : Z.heap.size ≤ b101 := Nat.le_trans O0.1 (Nat.le_of_eq q101)
  have z_b101 : h0.size ≤ b101 := Nat.le_trans KP.1 (Nat.le_of_eq q101)
  have OE101 := ext_trans O0 E101
  replace KP := KP.ext E101
  replace V101 : Arv Z h101 b101 k101 .char (2 : Int32) [(.int 0), (.int 0)] (.int 0) := V101.pad (pad_rep [] (.int 0) 2)
  refine Go.N X101 hx (hb hby d6_7) rfl (q := 8) rfl ?_
  refine Go.i X101 hx (hb hby d6_8) (r := (0 : Int32)) rfl (q := 9) rfl ?_
  refine Go.E X101 hx (hb hby d6_9) (r := (34 : Int32)) rfl (q := 11) rfl ?_
  refine Go.jg X101 hx hZ e101 V101 ⟨by decide, by decide⟩ (i := 0) rfl (Nat.le_of_ble_eq_true rfl) (hb hby d6_11) ?_
  intro T102 h102 X102 e102 W102 V102
  replace V102 : Arv Z h102 b101 k101 .char (2 : Int32) [(.int 34), (.int 0)] (.int 0) := V102
  have N102 := Fr.snoc X102 N0 g_b101
  replace B101 := B101.wr W102
  have OW102 := ext_wr OE101 W102 g_b101
  replace KP := KP.wr W102 (Or.inr z_b101)
  refine Go.N X102 hx (hb hby d6_12) rfl (q := 13) rfl ?_
  refine Go.i X102 hx (hb hby d6_13) (r := (1 : Int32)) rfl (q := 14) rfl ?_
  refine Go.E X102 hx (hb hby d6_14) (r := (34 : Int32)) rfl (q := 16) rfl ?_
  refine Go.jg X102 hx hZ e102 V102 ⟨by decide, by decide⟩ (i := 1) rfl (Nat.le_of_ble_eq_true rfl) (hb hby d6_16) ?_
  intro T103 h103 X103 e103 W103 V103
  replace V103 : Arv Z h103 b101 k101 .char (2 : Int32) [(.int 34), (.int 34)] (.int 0) := V103
  have N103 := Fr.snoc X103 N102 g_b101
  replace B101 := B101.wr W103
  have OW103 := ext_wr OW102 W103 g_b101
  replace KP := KP.wr W103 (Or.inr z_b101)
  exact Go.U X103 hx hret hlk rfl rfl (hb hby d6_17) e103 (by decide) (by decide) ⟨b101, k101, rfl, N103, KP, z_b101, B101, V103⟩
def Q_cqu1 (Z : State) (c0 c1 c2 : Int32) (h0 : Heap) (vR : Option Value) (hR : Heap) (LR : List Loc) : Prop := ∃ ar : Addr, ∃ ka : ClassId, vR = some (.ref ar) ∧ Fr Z.heap.size LR ∧ Keep h0 hR [] ∧ h0.size ≤ ar ∧ Exa Z hR ar "[C" ∧ Arv Z hR ar ka .char (3 : Int32) [(.int 34), (.int c0), (.int 34)] (.int 0)
theorem cqu1 (l : Launch) (Z : State) (a0 : Array Value) (hw : ∀ d ∈ tables_1, d.before a0 Z = true) (c0 c1 c2 : Int32) (h0 : Heap) (O0 : Ext Z.heap h0) (hn0 : nar .char c0 = c0) :
    Ctr l Z h0 (⟨xS10, "quoted", "(ICCC)[C"⟩ : MethodName) k6 4 (some (.array .char)) [] ({ frames := 0, cells := 1, slots := 3, locals := 0 } : Room) #[(.int 1), (.int c0), (.int c1), (.int c2)] (Q_cqu1 Z c0 c1 c2 h0) := by
  refine enter (plainFor_of_name pn0) ?_
  intro pp ee ss mm below meth cc s₁ hx hby hml hZ hown hnm hret hlk X0 e0 hs0
  replace hown : ss.vm.findClass xS10 = some mm.cls := hown
  refine Go.r (congrArg s₁.setTop (ef_cqu1 mm c0 c1 c2)) ?_
  have N0 := Fr.nil Z.heap.size
  have KP := Keep.refl h0 []
  show Go pp ee below _ (s₁.setTop (mkF mm 0 #[.val (.int 1), .val (.int c0), .val (.int c1), .val (.int c2)] []))
  refine Go.f X0 hx (hb hby d6_0) rfl (q := 1) rfl ?_
  refine Go.F X0 hx (hb hby d6_1) (by decide) (q := 18) (by decide) (by decide) ?_
  refine Go.f X0 hx (hb hby d6_18) rfl (q := 19) rfl ?_
  refine Go.i X0 hx (hb hby d6_19) (r := (1 : Int32)) rfl (q := 20) rfl ?_
  refine Go.t X0 hx (hb hby d6_20) (by decide) (q := 23) rfl ?_
  refine Go.i X0 hx (hb hby d6_23) (r := (3 : Int32)) rfl (q := 24) rfl ?_
  refine Go.ji X0 hx hZ (hb hby d6_24) (wd11 hw) e0 (by decide) (cap := 3) (by decide) (by decide) (by decide) (by decide) (ad := "[C") rfl (q := 26) rfl ?_
  intro b101 T101 h101 k101 X101 e101 q101 E101 V101 B101
  have g_b101 : Z.heap.size ≤ b101 := Nat.le_trans O0.1 (Nat.le_of_eq q101)
  have z_b101 : h0.size ≤ b101 := Nat.le_trans KP.1 (Nat.le_of_eq q101)
  have OE101 := ext_trans O0 E101
  replace KP := KP.ext E101
  replace V101 : Arv Z h101 b101 k101 .char (3 : Int32) [(.int 0), (.int 0), (.int 0)] (.int 0) := V101.pad (pad_rep [] (.int 0) 3)
  refine Go.N X101 hx (hb hby d6_26) rfl (q := 27) rfl ?_
  refine Go.i X101 hx (hb hby d6_27) (r := (0 : Int32)) rfl (q := 28) rfl ?_
  refine Go.E X101 hx (hb hby d6_28) (r := (34 : Int32)) rfl (q := 30) rfl ?_
  refine Go.jg X101 hx hZ e101 V101 ⟨by decide, by decide⟩ (i := 0) rfl (Nat.le_of_ble_eq_true rfl) (hb hby d6_30) ?_
  intro T102 h102 X102 e102 W102 V102
  replace V102 : Arv Z h102 b101 k101 .char (3 : Int32) [(.int 34), (.int 0), (.int 0)] (.int 0) := V102
  have N102 := Fr.snoc X102 N0 g_b101
  replace B101 := B101.wr W102
  have OW102 := ext_wr OE101 W102 g_b101
  replace KP := KP.wr W102 (Or.inr z_b101)
  refine Go.N X102 hx (hb hby d6_31) rfl (q := 32) rfl ?_
  refine Go.i X102 hx (hb hby d6_32) (r := (1 : Int32)) rfl (q := 33) rfl ?_
  refine Go.f X102 hx (hb hby d6_33) rfl (q := 34) rfl ?_
  refine Go.jg X102 hx hZ e102 V102 ⟨by decide, by decide⟩ (i := 1) rfl (Nat.le_of_ble_eq_true rfl) (hb hby d6_34) ?_
  intro T103 h103 X103 e103 W103 V103
  rw [hn0] at V103
  replace V103 : Arv Z h103 b101 k101 .char (3 : Int32) [(.int 34), (.int c0), (.int 0)] (.int 0) := V103
  have N103 := Fr.snoc X103 N102 g_b101
  replace B101 := B101.wr W103
  have OW103 := ext_wr OW102 W103 g_b101
  replace KP := KP.wr W103 (Or.inr z_b101)
  refine Go.N X103 hx (hb hby d6_35) rfl (q := 36) rfl ?_
  refine Go.i X103 hx (hb hby d6_36) (r := (2 : Int32)) rfl (q := 37) rfl ?_
  refine Go.E X103 hx (hb hby d6_37) (r := (34 : Int32)) rfl (q := 39) rfl ?_
  refine Go.jg X103 hx hZ e103 V103 ⟨by decide, by decide⟩ (i := 2) rfl (Nat.le_of_ble_eq_true rfl) (hb hby d6_39) ?_
  intro T104 h104 X104 e104 W104 V104
  replace V104 : Arv Z h104 b101 k101 .char (3 : Int32) [(.int 34), (.int c0), (.int 34)] (.int 0) := V104
  have N104 := Fr.snoc X104 N103 g_b101
  replace B101 := B101.wr W104
  have OW104 := ext_wr OW103 W104 g_b101
  replace KP := KP.wr W104 (Or.inr z_b101)
  exact Go.U X104 hx hret hlk rfl rfl (hb hby d6_40) e104 (by decide) (by decide) ⟨b101, k101, rfl, N104, KP, z_b101, B101, V104⟩
def Q_cqu2 (Z : State) (c0 c1 c2 : Int32) (h0 : Heap) (vR : Option Value) (hR : Heap) (LR : List Loc) : Prop := ∃ ar : Addr, ∃ ka : ClassId, vR = some (.ref ar) ∧ Fr Z.heap.size LR ∧ Keep h0 hR [] ∧ h0.size ≤ ar ∧ Exa Z hR ar "[C" ∧ Arv Z hR ar ka .char (4 : Int32) [(.int 34), (.int c0), (.int c1), (.int 34)] (.int 0)
theorem cqu2 (l : Launch) (Z : State) (a0 : Array Value) (hw : ∀ d ∈ tables_1, d.before a0 Z = true) (c0 c1 c2 : Int32) (h0 : Heap) (O0 : Ext Z.heap h0) (hn0 : nar .char c0 = c0) (hn1 : nar .char c1 = c1) :
    Ctr l Z h0 (⟨xS10, "quoted", "(ICCC)[C"⟩ : MethodName) k6 4 (some (.array .char)) [] ({ frames := 0, cells := 1, slots := 4, locals := 0 } : Room) #[(.int 2), (.int c0), (.int c1), (.int c2)] (Q_cqu2 Z c0 c1 c2 h0) := by
  refine enter (plainFor_of_name pn0) ?_
  intro pp ee ss mm below meth cc s₁ hx hby hml hZ hown hnm hret hlk X0 e0 hs0
  replace hown : ss.vm.findClass xS10 = some mm.cls := hown
  refine Go.r (congrArg s₁.setTop (ef_cqu2 mm c0 c1 c2)) ?_
  have N0 := Fr.nil Z.heap.size
  have KP := Keep.refl h0 []
  show Go pp ee below _ (s₁.setTop (mkF mm 0 #[.val (.int 2), .val (.int c0), .val (.int c1), .val (.int c2)] []))
  refine Go.f X0 hx (hb hby d6_0) rfl (q := 1) rfl ?_
  refine Go.F X0 hx (hb hby d6_1) (by decide) (q := 18) (by decide) (by decide) ?_
  refine Go.f X0 hx (hb hby d6_18) rfl (q := 19) rfl ?_
  refine Go.i X0 hx (hb hby d6_19) (r := (1 : Int32)) rfl (q := 20) rfl ?_
  refine Go.y X0 hx (hb hby d6_20) (by decide) (q := 41) (by decide) (by decide) ?_
  refine Go.f X0 hx (hb hby d6_41) rfl (q := 42) rfl ?_
  refine Go.i X0 hx (hb hby d6_42) (r := (2 : Int32)) rfl (q := 43) rfl ?_
  refine Go.t X0 hx (hb hby d6_43) (by decide) (q := 46) rfl ?_
  refine Go.i X0 hx (hb hby d6_46) (r := (4 : Int32)) rfl (q := 47) rfl ?_
  refine Go.ji X0 hx hZ (hb hby d6_47) (wd11 hw) e0 (by decide) (cap := 4) (by decide) (by decide) (by decide) (by decide) (ad := "[C") rfl (q := 49) rfl ?_
  intro b101 T101 h101 k101 X101 e101 q101 E101 V101 B101
  have g_b101 : Z.heap.size ≤ b101 := Nat.le_trans O0.1 (Nat.le_of_eq q101)
  have z_b101 : h0.size ≤ b101 := Nat.le_trans KP.1 (Nat.le_of_eq q101)
  have OE101 := ext_trans O0 E101
  replace KP := KP.ext E101
  replace V101 : Arv Z h101 b101 k101 .char (4 : Int32) [(.int 0), (.int 0), (.int 0), (.int 0)] (.int 0) := V101.pad (pad_rep [] (.int 0) 4)
  refine Go.N X101 hx (hb hby d6_49) rfl (q := 50) rfl ?_
  refine Go.i X101 hx (hb hby d6_50) (r := (0 : Int32)) rfl (q := 51) rfl ?_
  refine Go.E X101 hx (hb hby d6_51) (r := (34 : Int32)) rfl (q := 53) rfl ?_
  refine Go.jg X101 hx hZ e101 V101 ⟨by decide, by decide⟩ (i := 0) rfl (Nat.le_of_ble_eq_true rfl) (hb hby d6_53) ?_
  intro T102 h102 X102 e102 W102 V102
  replace V102 : Arv Z h102 b101 k101 .char (4 : Int32) [(.int 34), (.int 0), (.int 0), (.int 0)] (.int 0) := V102
  have N102 := Fr.snoc X102 N0 g_b101
  replace B101 := B101.wr W102
  have OW102 := ext_wr OE101 W102 g_b101
  replace KP := KP.wr W102 (Or.inr z_b101)
  refine Go.N X102 hx (hb hby d6_54) rfl (q := 55) rfl ?_
  refine Go.i X102 hx (hb hby d6_55) (r := (1 : Int32)) rfl (q := 56) rfl ?_
  refine Go.f X102 hx (hb hby d6_56) rfl (q := 57) rfl ?_
  refine Go.jg X102 hx hZ e102 V102 ⟨by decide, by decide⟩ (i := 1) rfl (Nat.le_of_ble_eq_true rfl) (hb hby d6_57) ?_
  intro T103 h103 X103 e103 W103 V103
  rw [hn0] at V103
  replace V103 : Arv Z h103 b101 k101 .char (4 : Int32) [(.int 34), (.int c0), (.int 0), (.int 0)] (.int 0) := V103
  have N103 := Fr.snoc X103 N102 g_b101
  replace B101 := B101.wr W103
  have OW103 := ext_wr OW102 W103 g_b101
  replace KP := KP.wr W103 (Or.inr z_b101)
  refine Go.N X103 hx (hb hby d6_58) rfl (q := 59) rfl ?_
  refine Go.i X103 hx (hb hby d6_59) (r := (2 : Int32)) rfl (q := 60) rfl ?_
  refine Go.f X103 hx (hb hby d6_60) rfl (q := 61) rfl ?_
  refine Go.jg X103 hx hZ e103 V103 ⟨by decide, by decide⟩ (i := 2) rfl (Nat.le_of_ble_eq_true rfl) (hb hby d6_61) ?_
  intro T104 h104 X104 e104 W104 V104
  rw [hn1] at V104
  replace V104 : Arv Z h104 b101 k101 .char (4 : Int32) [(.int 34), (.int c0), (.int c1), (.int 0)] (.int 0) := V104
  have N104 := Fr.snoc X104 N103 g_b101
  replace B101 := B101.wr W104
  have OW104 := ext_wr OW103 W104 g_b101
  replace KP := KP.wr W104 (Or.inr z_b101)
  refine Go.N X104 hx (hb hby d6_62) rfl (q := 63) rfl ?_
  refine Go.i X104 hx (hb hby d6_63) (r := (3 : Int32)) rfl (q := 64) rfl ?_
  refine Go.E X104 hx (hb hby d6_64) (r := (34 : Int32)) rfl (q := 66) rfl ?_
  refine Go.jg X104 hx hZ e104 V104 ⟨by decide, by decide⟩ (i := 3) rfl (Nat.le_of_ble_eq_true rfl) (hb hby d6_66) ?_
  intro T105 h105 X105 e105 W105 V105
  replace V105 : Arv Z h105 b101 k101 .char (4 : Int32) [(.int 34), (.int c0), (.int c1), (.int 34)] (.int 0) := V105
  have N105 := Fr.snoc X105 N104 g_b101
  replace B101 := B101.wr W105
  have OW105 := ext_wr OW104 W105 g_b101
  replace KP := KP.wr W105 (Or.inr z_b101)
  exact Go.U X105 hx hret hlk rfl rfl (hb hby d6_67) e105 (by decide) (by decide) ⟨b101, k101, rfl, N105, KP, z_b101, B101, V105⟩
def Q_cqu3 (Z : State) (c0 c1 c2 : Int32) (h0 : Heap) (vR : Option Value) (hR : Heap) (LR : List Loc) : Prop := ∃ ar : Addr, ∃ ka : ClassId, vR = some (.ref ar) ∧ Fr Z.heap.size LR ∧ Keep h0 hR [] ∧ h0.size ≤ ar ∧ Exa Z hR ar "[C" ∧ Arv Z hR ar ka .char (5 : Int32) [(.int 34), (.int c0), (.int c1), (.int c2), (.int 34)] (.int 0)
theorem cqu3 (l : Launch) (Z : State) (a0 : Array Value) (hw : ∀ d ∈ tables_1, d.before a0 Z = true) (c0 c1 c2 : Int32) (h0 : Heap) (O0 : Ext Z.heap h0) (hn0 : nar .char c0 = c0) (hn1 : nar .char c1 = c1) (hn2 : nar .char c2 = c2) :
    Ctr l Z h0 (⟨xS10, "quoted", "(ICCC)[C"⟩ : MethodName) k6 4 (some (.array .char)) [] ({ frames := 0, cells := 1, slots := 5, locals := 0 } : Room) #[(.int 3), (.int c0), (.int c1), (.int c2)] (Q_cqu3 Z c0 c1 c2 h0) := by
  refine enter (plainFor_of_name pn0) ?_
  intro pp ee ss mm below meth cc s₁ hx hby hml hZ hown hnm hret hlk X0 e0 hs0
  replace hown : ss.vm.findClass xS10 = some mm.cls := hown
  refine Go.r (congrArg s₁.setTop (ef_cqu3 mm c0 c1 c2)) ?_
  have N0 := Fr.nil Z.heap.size
  have KP := Keep.refl h0 []
  show Go pp ee below _ (s₁.setTop (mkF mm 0 #[.val (.int 3), .val (.int c0), .val (.int c1), .val (.int c2)] []))
  refine Go.f X0 hx (hb hby d6_0) rfl (q := 1) rfl ?_
  refine Go.F X0 hx (hb hby d6_1) (by decide) (q := 18) (by decide) (by decide) ?_
  refine Go.f X0 hx (hb hby d6_18) rfl (q := 19) rfl ?_
  refine Go.i X0 hx (hb hby d6_19) (r := (1 : Int32)) rfl (q := 20) rfl ?_
  refine Go.y X0 hx (hb hby d6_20) (by decide) (q := 41) (by decide) (by decide) ?_
  refine Go.f X0 hx (hb hby d6_41) rfl (q := 42) rfl ?_
  refine Go.i X0 hx (hb hby d6_42) (r := (2 : Int32)) rfl (q := 43) rfl ?_
  refine Go.y X0 hx (hb hby d6_43) (by decide) (q := 68) (by decide) (by decide) ?_
  refine Go.i X0 hx (hb hby d6_68) (r := (5 : Int32)) rfl (q := 69) rfl ?_
  refine Go.ji X0 hx hZ (hb hby d6_69) (wd11 hw) e0 (by decide) (cap := 5) (by decide) (by decide) (by decide) (by decide) (ad := "[C") rfl (q := 71) rfl ?_
  intro b101 T101 h101 k101 X101 e101 q101 E101 V101 B101
  have g_b101 : Z.heap.size ≤ b101 := Nat.le_trans O0.1 (Nat.le_of_eq q101)
  have z_b101 : h0.size ≤ b101 := Nat.le_trans KP.1 (Nat.le_of_eq q101)
  have OE101 := ext_trans O0 E101
  replace KP := KP.ext E101
  replace V101 : Arv Z h101 b101 k101 .char (5 : Int32) [(.int 0), (.int 0), (.int 0), (.int 0), (.int 0)] (.int 0) := V101.pad (pad_rep [] (.int 0) 5)
  refine Go.N X101 hx (hb hby d6_71) rfl (q := 72) rfl ?_
  refine Go.i X101 hx (hb hby d6_72) (r := (0 : Int32)) rfl (q := 73) rfl ?_
  refine Go.E X101 hx (hb hby d6_73) (r := (34 : Int32)) rfl (q := 75) rfl ?_
  refine Go.jg X101 hx hZ e101 V101 ⟨by decide, by decide⟩ (i := 0) rfl (Nat.le_of_ble_eq_true rfl) (hb hby d6_75) ?_
  intro T102 h102 X102 e102 W102 V102
  replace V102 : Arv Z h102 b101 k101 .char (5 : Int32) [(.int 34), (.int 0), (.int 0), (.int 0), (.int 0)] (.int 0) := V102
  have N102 := Fr.snoc X102 N0 g_b101
  replace B101 := B101.wr W102
  have OW102 := ext_wr OE101 W102 g_b101
  replace KP := KP.wr W102 (Or.inr z_b101)
  refine Go.N X102 hx (hb hby d6_76) rfl (q := 77) rfl ?_
  refine Go.i X102 hx (hb hby d6_77) (r := (1 : Int32)) rfl (q := 78) rfl ?_
  refine Go.f X102 hx (hb hby d6_78) rfl (q := 79) rfl ?_
  refine Go.jg X102 hx hZ e102 V102 ⟨by decide, by decide⟩ (i := 1) rfl (Nat.le_of_ble_eq_true rfl) (hb hby d6_79) ?_
  intro T103 h103 X103 e103 W103 V103
  rw [hn0] at V103
  replace V103 : Arv Z h103 b101 k101 .char (5 : Int32) [(.int 34), (.int c0), (.int 0), (.int 0), (.int 0)] (.int 0) := V103
  have N103 := Fr.snoc X103 N102 g_b101
  replace B101 := B101.wr W103
  have OW103 := ext_wr OW102 W103 g_b101
  replace KP := KP.wr W103 (Or.inr z_b101)
  refine Go.N X103 hx (hb hby d6_80) rfl (q := 81) rfl ?_
  refine Go.i X103 hx (hb hby d6_81) (r := (2 : Int32)) rfl (q := 82) rfl ?_
  refine Go.f X103 hx (hb hby d6_82) rfl (q := 83) rfl ?_
  refine Go.jg X103 hx hZ e103 V103 ⟨by decide, by decide⟩ (i := 2) rfl (Nat.le_of_ble_eq_true rfl) (hb hby d6_83) ?_
  intro T104 h104 X104 e104 W104 V104
  rw [hn1] at V104
  replace V104 : Arv Z h104 b101 k101 .char (5 : Int32) [(.int 34), (.int c0), (.int c1), (.int 0), (.int 0)] (.int 0) := V104
  have N104 := Fr.snoc X104 N103 g_b101
  replace B101 := B101.wr W104
  have OW104 := ext_wr OW103 W104 g_b101
  replace KP := KP.wr W104 (Or.inr z_b101)
  refine Go.N X104 hx (hb hby d6_84) rfl (q := 85) rfl ?_
  refine Go.i X104 hx (hb hby d6_85) (r := (3 : Int32)) rfl (q := 86) rfl ?_
  refine Go.f X104 hx (hb hby d6_86) rfl (q := 87) rfl ?_
  refine Go.jg X104 hx hZ e104 V104 ⟨by decide, by decide⟩ (i := 3) rfl (Nat.le_of_ble_eq_true rfl) (hb hby d6_87) ?_
  intro T105 h105 X105 e105 W105 V105
  rw [hn2] at V105
  replace V105 : Arv Z h105 b101 k101 .char (5 : Int32) [(.int 34), (.int c0), (.int c1), (.int c2), (.int 0)] (.int 0) := V105
  have N105 := Fr.snoc X105 N104 g_b101
  replace B101 := B101.wr W105
  have OW105 := ext_wr OW104 W105 g_b101
  replace KP := KP.wr W105 (Or.inr z_b101)
  refine Go.N X105 hx (hb hby d6_88) rfl (q := 89) rfl ?_
  refine Go.i X105 hx (hb hby d6_89) (r := (4 : Int32)) rfl (q := 90) rfl ?_
  refine Go.E X105 hx (hb hby d6_90) (r := (34 : Int32)) rfl (q := 92) rfl ?_
  refine Go.jg X105 hx hZ e105 V105 ⟨by decide, by decide⟩ (i := 4) rfl (Nat.le_of_ble_eq_true rfl) (hb hby d6_92) ?_
  intro T106 h106 X106 e106 W106 V106
  replace V106 : Arv Z h106 b101 k101 .char (5 : Int32) [(.int 34), (.int c0), (.int c1), (.int c2), (.int 34)] (.int 0) := V106
  have N106 := Fr.snoc X106 N105 g_b101
  replace B101 := B101.wr W106
  have OW106 := ext_wr OW105 W106 g_b101
  replace KP := KP.wr W106 (Or.inr z_b101)
  exact Go.U X106 hx hret hlk rfl rfl (hb hby d6_93) e106 (by decide) (by decide) ⟨b101, k101, rfl, N106, KP, z_b101, B101, V106⟩
def Q_csi0 (Z : State) (o a : Addr) (ka : ClassId) (h0 : Heap) (vR : Option Value) (hR : Heap) (LR : List Loc) : Prop := ∃ b : Addr, ∃ kb : ClassId, vR = none ∧ Fr Z.heap.size LR ∧ Keep h0 hR [o] ∧ Fld Z hR o xS0 "value" "[B" (.ref b) ∧ Fld Z hR o xS0 "coder" "B" (.int 0) ∧ Arv Z hR b kb .byte (0 : Int32) [] (.int 0)
theorem csi0 (l : Launch) (Z : State) (a0 : Array Value) (hw : ∀ d ∈ tables_1, d.before a0 Z = true) (o a : Addr) (ka : ClassId) (h0 : Heap) (O0 : Ext Z.heap h0) (Eo : Exa Z h0 o xS0) (Fv : Fld Z h0 o xS0 "value" "[B" .null) (Fc : Fld Z h0 o xS0 "coder" "B" (.int 0)) (g_o : Z.heap.size ≤ o) (Va : Arv Z h0 a ka .char (0 : Int32) [] (.int 0)) :
    CtrH l Z consts_1 h0 (⟨xS0, "<init>", "([CIILjava/lang/Void;)V"⟩ : MethodName) k4 6 none [] ({ frames := 1, cells := 4, slots := 8, locals := 12 } : Room) #[(.ref o), (.ref a), (.int 0), (.int 0), .null] (Q_csi0 Z o a ka h0) := by
  refine enterH (plainFor_of_name pn1) ?_
  intro pp ee ss mm below meth cc s₁ hx hby hml hZ hown hnm hret hlk X0 e0 hs0 hS hC
  replace hown : (ss.setVm ss.vm).vm.findClass xS0 = some mm.cls := hown
  have hKd := Nat.zero_le h0.size
  refine Go.r (congrArg s₁.setTop (ef_csi0 mm o a)) ?_
  have N0 := Fr.nil Z.heap.size
  have KP := Keep.refl h0 [o]
  show Go pp ee below _ (s₁.setTop (mkF mm 0 #[.val (.ref o), .val (.ref a), .val (.int 0), .val (.int 0), .val .null, .unset] []))
  have sf_o : Safe Z consts_1 ss.vm h0 o := own_safeNull hZ.alike Eo Fv
  refine Go.g X0 hx (hb hby d4_0) rfl rfl (q := 1) rfl ?_
  refine Go.jq X0 hx hZ hown (wd19 hw) (wd20 hw) (wd21 hw) e0 (by rw [hml]; rfl) (hb hby d4_1) (by decide) (W := 0) (by exact Nat.le_refl _) (by decide) (q := 4) rfl ?_
  intro T101 X101 e101
  refine Go.f X101 hx (hb hby d4_4) rfl (q := 5) rfl ?_
  refine Go.L X101 hx (hb hby d4_5) (by decide) (q := 8) rfl ?_
  refine Go.g X101 hx (hb hby d4_8) rfl rfl (q := 9) rfl ?_
  refine Go.jv X101 hx hZ hown (wd22 hw) (own_wS hw) e101 hS hKd (own_EW hw) (List.mem_of_getElem? (i := 5) rfl) hC (vs := []) (z := (0 : Int32)) ⟨by decide, rfl⟩ (by decide) rfl (hb hby d4_9) (nn := 0) (by decide) (by decide) (by decide) (by decide) (q := 11) rfl ?_
  intro b102 u102 kc102 T102 h102 k102 X102 e102 E102 hS hKd hZ hown B102 C102 F102 V102 hR102
  replace sf_o := hR102.safe Eo.lt sf_o
  replace hC := hC.trans hR102
  replace Eo := Eo.ext E102
  replace Fv := Fv.ext E102
  replace Fc := Fc.ext E102
  replace Va := Va.ext E102
  have OE102 := ext_trans O0 E102
  replace KP := KP.ext E102
  have ne_b102_o := Fld.ne F102 Fv nofun
  have ne_o_u102 := Exa.neArv Eo V102 (wd6 hw)
  refine Go.B X102 hx hZ hown (host := "") (Or.inl (wd28 hw)) Via.refl e102 F102 (hb hby d4_11) (q := 14) rfl ?_
  intro T103 X103 e103
  refine Go.jc X103 hx hZ hown (host := "") (Or.inl (wd28 hw)) Via.refl e103 Fv Eo (Or.inr ⟨(wd24 hw), rfl, hnm⟩) (wd6 hw) (ty := (.array .byte)) (by decide) rfl rfl (hb hby d4_14) (q := 17) rfl ?_
  intro T104 h104 X104 e104 W104 F104
  have N104 := Fr.snoc X104 N0 g_o
  have hSw := sf_o
  replace sf_o := Safe.wr W104 hSw hC.1 hSw
  replace hC := hC.trans (CHr.wr W104 hSw hC.1)
  replace Eo := Eo.wr W104
  replace Fc := Fc.other W104 (Or.inr (slot_ne (Or.inr (wd25 hw)) (Or.inr (wd24 hw)) (by decide) (t := .byte) (t' := (.array .byte)) (by decide) (by decide)))
  replace B102 := B102.wr W104
  replace C102 := C102.other W104 (Or.inl ne_b102_o)
  replace F102 := F102.other W104 (Or.inl ne_b102_o)
  replace V102 := V102.other W104 (Ne.symm ne_o_u102)
  have OW104 := ext_wr OE102 W104 g_o
  replace hKd := Nat.le_trans hKd (Keep.of_wr W104).1
  replace KP := KP.wr W104 (Or.inl (List.mem_of_getElem? (i := 0) rfl))
  refine Go.g X104 hx (hb hby d4_17) rfl rfl (q := 18) rfl ?_
  refine Go.jv X104 hx hZ hown (wd22 hw) (own_wS hw) e104 hS hKd (own_EW hw) (List.mem_of_getElem? (i := 5) rfl) hC (vs := []) (z := (0 : Int32)) ⟨by decide, rfl⟩ (by decide) rfl (hb hby d4_18) (nn := 0) (by decide) (by decide) (by decide) (by decide) (q := 20) rfl ?_
  intro b105 u105 kc105 T105 h105 k105 X105 e105 E105 hS hKd hZ hown B105 C105 F105 V105 hR105
  replace sf_o := hR105.safe Eo.lt sf_o
  replace hC := hC.trans hR105
  replace Eo := Eo.ext E105
  replace Fc := Fc.ext E105
  replace B102 := B102.ext E105
  replace C102 := C102.ext E105
  replace F102 := F102.ext E105
  replace V102 := V102.ext E105
  replace F104 := F104.ext E105
  have OE105 := ext_trans OW104 E105
  replace KP := KP.ext E105
  have ne_o_u105 := Exa.neArv Eo V105 (wd6 hw)
  have ne_b102_u105 := Exa.neArv B102 V105 (wd6 hw)
  refine Go.B X105 hx hZ hown (host := "") (Or.inl (wd29 hw)) Via.refl e105 C105 (hb hby d4_20) (q := 23) rfl ?_
  intro T106 X106 e106
  refine Go.jc X106 hx hZ hown (host := "") (Or.inl (wd29 hw)) Via.refl e106 Fc Eo (Or.inr ⟨(wd25 hw), rfl, hnm⟩) (wd6 hw) (ty := .byte) (by decide) rfl rfl (hb hby d4_23) (q := 26) rfl ?_
  intro T107 h107 X107 e107 W107 F107
  have N107 := Fr.snoc X107 N104 g_o
  have hSw := sf_o
  replace sf_o := Safe.wr W107 hSw hC.1 hSw
  replace hC := hC.trans (CHr.wr W107 hSw hC.1)
  replace Eo := Eo.wr W107
  replace B102 := B102.wr W107
  replace C102 := C102.other W107 (Or.inl ne_b102_o)
  replace F102 := F102.other W107 (Or.inl ne_b102_o)
  replace V102 := V102.other W107 (Ne.symm ne_o_u102)
  replace F104 := F104.other W107 (Or.inr (slot_ne (Or.inr (wd24 hw)) (Or.inr (wd25 hw)) (by decide) (t := (.array .byte)) (t' := .byte) (by decide) (by decide)))
  replace B105 := B105.wr W107
  replace V105 := V105.other W107 (Ne.symm ne_o_u105)
  have OW107 := ext_wr OE105 W107 g_o
  replace hKd := Nat.le_trans hKd (Keep.of_wr W107).1
  replace KP := KP.wr W107 (Or.inl (List.mem_of_getElem? (i := 0) rfl))
  exact Go.jG X107 hx hS hKd hs0 hZ (own_EW hw) hC hret hlk (hb hby d4_26) e107 (by decide) (by decide) ⟨u102, kc102, rfl, N107, KP, F104, F107, V102⟩
def Q_csj0 (Z : State) (o a : Addr) (ka : ClassId) (h0 : Heap) (vR : Option Value) (hR : Heap) (LR : List Loc) : Prop := ∃ b : Addr, ∃ kb : ClassId, vR = none ∧ Fr Z.heap.size LR ∧ Keep h0 hR [o] ∧ Fld Z hR o xS0 "value" "[B" (.ref b) ∧ Fld Z hR o xS0 "coder" "B" (.int 0) ∧ Arv Z hR b kb .byte (0 : Int32) [] (.int 0)
theorem csj0 (l : Launch) (Z : State) (a0 : Array Value) (hw : ∀ d ∈ tables_1, d.before a0 Z = true) (o a : Addr) (ka : ClassId) (h0 : Heap) (O0 : Ext Z.heap h0) (Eo : Exa Z h0 o xS0) (Fv : Fld Z h0 o xS0 "value" "[B" .null) (Fc : Fld Z h0 o xS0 "coder" "B" (.int 0)) (g_o : Z.heap.size ≤ o) (Va : Arv Z h0 a ka .char (0 : Int32) [] (.int 0)) :
    CtrH l Z consts_1 h0 (⟨xS0, "<init>", "([C)V"⟩ : MethodName) k3 2 none [] ({ frames := 2, cells := 4, slots := 8, locals := 29 } : Room) #[(.ref o), (.ref a)] (Q_csj0 Z o a ka h0) := by
  refine enterH (plainFor_of_name pn1) ?_
  intro pp ee ss mm below meth cc s₁ hx hby hml hZ hown hnm hret hlk X0 e0 hs0 hS hC
  replace hown : (ss.setVm ss.vm).vm.findClass xS0 = some mm.cls := hown
  have hKd := Nat.zero_le h0.size
  refine Go.r (congrArg s₁.setTop (ef_csj0 mm o a)) ?_
  have N0 := Fr.nil Z.heap.size
  have KP := Keep.refl h0 [o]
  show Go pp ee below _ (s₁.setTop (mkF mm 0 #[.val (.ref o), .val (.ref a)] []))
  refine Go.g X0 hx (hb hby d3_0) rfl rfl (q := 1) rfl ?_
  refine Go.g X0 hx (hb hby d3_1) rfl rfl (q := 2) rfl ?_
  refine Go.i X0 hx (hb hby d3_2) (r := (0 : Int32)) rfl (q := 3) rfl ?_
  refine Go.g X0 hx (hb hby d3_3) rfl rfl (q := 4) rfl ?_
  refine Go.J X0 hx hZ e0 Va (hb hby d3_4) ?_
  refine Go.jy X0 hx (hb hby d3_5) (q := 6) rfl ?_
  refine Go.jJ X0 hx hZ hown hS hKd (own_EW hw) hC rfl (wd15 hw) (wd16 hw) (wd7 hw) (wd18 hw) (by decide) (csi0 l Z a0 hw o a (ka) h0 O0 Eo Fv Fc g_o Va) e0 (by rw [hml]; rfl) (hb hby d3_6) (argsL := [(.ref a), (.int 0), (.int 0), .null]) (rest := []) (lenOf pd0 rfl) rfl rfl (W := 0) (Nat.le_refl _) (by decide) ?_
  intro v101 T101 L101 k101 X101 hS hKd hZ hown hR101 hQ101
  obtain ⟨h101, e101⟩ : ∃ z, T101.heap = z := ⟨_, rfl⟩
  rw [e101] at hQ101 hKd hR101
  obtain ⟨b_101, kb_101, rfl, N101q, K101, P101_0, P101_1, P101_2⟩ := hQ101
  have N101 := Fr.app N0 N101q
  replace hC := hC.trans hR101
  replace Eo := Eo.keep K101
  have OK101 := ext_keep O0 K101 (allS g_o all0)
  replace KP := KP.trans K101 (allS (Or.inl (List.mem_of_getElem? (i := 0) rfl)) all0)
  exact Go.jG X101 hx hS hKd hs0 hZ (own_EW hw) hC hret hlk (hb hby d3_9) e101 (by decide) (by decide) ⟨b_101, kb_101, rfl, N101, KP, P101_0, P101_1, P101_2⟩
def Q_ccmp1 (Z : State) (a b : Addr) (ka kb : ClassId) (c0 : Int32) (h0 : Heap) (vR : Option Value) (hR : Heap) (LR : List Loc) : Prop := vR = some (.int 1) ∧ Fr Z.heap.size LR ∧ Keep h0 hR [b] ∧ Arv Z hR b kb .byte (1 : Int32) [(.int (c0.toInt8.toInt32))] (.int 0)
theorem ccmp1 (l : Launch) (Z : State) (a0 : Array Value) (hw : ∀ d ∈ tables_1, d.before a0 Z = true) (a b : Addr) (ka kb : ClassId) (c0 : Int32) (h0 : Heap) (O0 : Ext Z.heap h0) (Va : Arv Z h0 a ka .char (1 : Int32) [(.int c0)] (.int 0)) (Vb : Arv Z h0 b kb .byte (1 : Int32) [(.int 0)] (.int 0)) (g_b : Z.heap.size ≤ b) (nab : a ≠ b) (hc0 : ¬ ((255 : Int32) < c0)) :
    Ctr l Z h0 (⟨xS5, "compress", "([CI[BII)I"⟩ : MethodName) k8 7 (some .int) [] ({ frames := 0, cells := 0, slots := 0, locals := 0 } : Room) #[(.ref a), (.int 0), (.ref b), (.int 0), (.int 1)] (Q_ccmp1 Z a b ka kb c0 h0) := by
  refine enter (plainFor_of_name pn2) ?_
  intro pp ee ss mm below meth cc s₁ hx hby hml hZ hown hnm hret hlk X0 e0 hs0
  replace hown : ss.vm.findClass xS5 = some mm.cls := hown
  refine Go.r (congrArg s₁.setTop (ef_ccmp1 mm a b)) ?_
  have N0 := Fr.nil Z.heap.size
  have KP := Keep.refl h0 [b]
  show Go pp ee below _ (s₁.setTop (mkF mm 0 #[.val (.ref a), .val (.int 0), .val (.ref b), .val (.int 0), .val (.int 1), .unset, .unset] []))
  refine Go.i X0 hx (hb hby d8_0) (r := (0 : Int32)) rfl (q := 1) rfl ?_
  refine Go.G X0 hx (hb hby d8_1) (l' := #[.val (.ref a), .val (.int 0), .val (.ref b), .val (.int 0), .val (.int 1), .val (.int 0), .unset]) rfl (q := 3) rfl ?_
  refine Go.o X0 hx (hb hby d8_3) rfl (q := 5) rfl ?_
  refine Go.o X0 hx (hb hby d8_5) rfl (q := 7) rfl ?_
  refine Go.t X0 hx (hb hby d8_7) (by decide) (q := 10) rfl ?_
  refine Go.g X0 hx (hb hby d8_10) rfl rfl (q := 11) rfl ?_
  refine Go.f X0 hx (hb hby d8_11) rfl (q := 12) rfl ?_
  refine Go.jn X0 hx hZ e0 Va ⟨by decide, by decide⟩ (v := (.int c0)) rfl (hb hby d8_12) ?_
  refine Go.G X0 hx (hb hby d8_13) (l' := #[.val (.ref a), .val (.int 0), .val (.ref b), .val (.int 0), .val (.int 1), .val (.int 0), .val (.int c0)]) rfl (q := 15) rfl ?_
  refine Go.o X0 hx (hb hby d8_15) rfl (q := 17) rfl ?_
  refine Go.X X0 hx (hb hby d8_17) (r := (255 : Int32)) rfl (q := 20) rfl ?_
  refine Go.y X0 hx (hb hby d8_20) (Jvm.Free.XT.ii_le_t hc0) (q := 26) (by decide) (by decide) ?_
  refine Go.g X0 hx (hb hby d8_26) rfl rfl (q := 27) rfl ?_
  refine Go.f X0 hx (hb hby d8_27) rfl (q := 28) rfl ?_
  refine Go.o X0 hx (hb hby d8_28) rfl (q := 30) rfl ?_
  refine Go.je X0 hx (hb hby d8_30) rfl (q := 31) rfl ?_
  refine Go.jl X0 hx hZ e0 Vb ⟨by decide, by decide⟩ (i := 0) rfl (Nat.le_of_ble_eq_true rfl) (hb hby d8_31) ?_
  intro T101 h101 X101 e101 W101 V101
  rw [bb c0] at V101
  replace V101 : Arv Z h101 b kb .byte (1 : Int32) [(.int (c0.toInt8.toInt32))] (.int 0) := V101
  have N101 := Fr.snoc X101 N0 g_b
  replace Va := Va.other W101 nab
  have OW101 := ext_wr O0 W101 g_b
  replace KP := KP.wr W101 (Or.inl (List.mem_of_getElem? (i := 0) rfl))
  refine Go.H X101 hx (hb hby d8_32) rfl (r := (1 : Int32)) rfl (l' := #[.val (.ref a), .val (.int 1), .val (.ref b), .val (.int 0), .val (.int 1), .val (.int 0), .val (.int c0)]) rfl (q := 35) rfl ?_
  refine Go.H X101 hx (hb hby d8_35) rfl (r := (1 : Int32)) rfl (l' := #[.val (.ref a), .val (.int 1), .val (.ref b), .val (.int 1), .val (.int 1), .val (.int 0), .val (.int c0)]) rfl (q := 38) rfl ?_
  refine Go.H X101 hx (hb hby d8_38) rfl (r := (1 : Int32)) rfl (l' := #[.val (.ref a), .val (.int 1), .val (.ref b), .val (.int 1), .val (.int 1), .val (.int 1), .val (.int c0)]) rfl (q := 41) rfl ?_
  refine Go.D X101 hx (hb hby d8_41) (q := 3) (by decide) (by decide) ?_
  refine Go.o X101 hx (hb hby d8_3) rfl (q := 5) rfl ?_
  refine Go.o X101 hx (hb hby d8_5) rfl (q := 7) rfl ?_
  refine Go.y X101 hx (hb hby d8_7) (by decide) (q := 44) (by decide) (by decide) ?_
  refine Go.o X101 hx (hb hby d8_44) rfl (q := 46) rfl ?_
  exact Go.M X101 hx hret hlk (Or.inl rfl) rfl (hb hby d8_46) e101 (by decide) (by decide) ⟨rfl, N101, KP, V101⟩
def Q_ccmq1 (Z : State) (a : Addr) (ka : ClassId) (c0 : Int32) (h0 : Heap) (vR : Option Value) (hR : Heap) (LR : List Loc) : Prop := ∃ b : Addr, ∃ kb : ClassId, vR = some (.ref b) ∧ Fr Z.heap.size LR ∧ Keep h0 hR [] ∧ h0.size ≤ b ∧ Arv Z hR b kb .byte (1 : Int32) [(.int (c0.toInt8.toInt32))] (.int 0)
theorem ccmq1 (l : Launch) (Z : State) (a0 : Array Value) (hw : ∀ d ∈ tables_1, d.before a0 Z = true) (a : Addr) (ka : ClassId) (c0 : Int32) (h0 : Heap) (O0 : Ext Z.heap h0) (Va : Arv Z h0 a ka .char (1 : Int32) [(.int c0)] (.int 0)) (hc0 : ¬ ((255 : Int32) < c0)) :
    Ctr l Z h0 (⟨xS5, "compress", "([CII)[B"⟩ : MethodName) k7 6 (some (.array .byte)) [] ({ frames := 1, cells := 1, slots := 1, locals := 18 } : Room) #[(.ref a), (.int 0), (.int 1)] (Q_ccmq1 Z a ka c0 h0) := by
  refine enter (plainFor_of_name pn2) ?_
  intro pp ee ss mm below meth cc s₁ hx hby hml hZ hown hnm hret hlk X0 e0 hs0
  replace hown : ss.vm.findClass xS5 = some mm.cls := hown
  refine Go.r (congrArg s₁.setTop (ef_ccmq1 mm a)) ?_
  have N0 := Fr.nil Z.heap.size
  have KP := Keep.refl h0 []
  show Go pp ee below _ (s₁.setTop (mkF mm 0 #[.val (.ref a), .val (.int 0), .val (.int 1), .unset, .unset, .unset] []))
  refine Go.f X0 hx (hb hby d7_0) rfl (q := 1) rfl ?_
  refine Go.ji X0 hx hZ (hb hby d7_1) (wd23 hw) e0 (by decide) (cap := 1) (by decide) (by decide) (by decide) (by decide) (ad := "[B") rfl (q := 3) rfl ?_
  intro b101 T101 h101 k101 X101 e101 q101 E101 V101 B101
  have ne_a_b101 : a ≠ b101 := ne_new Va.lt (Nat.le_of_eq q101)
  have g_b101 : Z.heap.size ≤ b101 := Nat.le_trans O0.1 (Nat.le_of_eq q101)
  have z_b101 : h0.size ≤ b101 := Nat.le_trans KP.1 (Nat.le_of_eq q101)
  replace Va := Va.ext E101
  have OE101 := ext_trans O0 E101
  replace KP := KP.ext E101
  replace V101 : Arv Z h101 b101 k101 .byte (1 : Int32) [(.int 0)] (.int 0) := V101.pad (pad_rep [] (.int 0) 1)
  refine Go.jf X101 hx (hb hby d7_3) rfl (l' := #[.val (.ref a), .val (.int 0), .val (.int 1), .val (.ref b101), .unset, .unset]) rfl (q := 4) rfl ?_
  refine Go.g X101 hx (hb hby d7_4) rfl rfl (q := 5) rfl ?_
  refine Go.f X101 hx (hb hby d7_5) rfl (q := 6) rfl ?_
  refine Go.g X101 hx (hb hby d7_6) rfl rfl (q := 7) rfl ?_
  refine Go.i X101 hx (hb hby d7_7) (r := (0 : Int32)) rfl (q := 8) rfl ?_
  refine Go.f X101 hx (hb hby d7_8) rfl (q := 9) rfl ?_
  refine Go.A X101 hx hZ hown (wd38 hw) (wd39 hw) (wd36 hw) (wd40 hw) (by decide) (ccmp1 l Z a0 hw a b101 (ka) (k101) c0 h101 OE101 Va V101 g_b101 ne_a_b101 hc0) e101 (by rw [hml]; rfl) (hb hby d7_9) (argsL := [(.ref a), (.int 0), (.ref b101), (.int 0), (.int 1)]) (rest := []) (lenOf pd1 rfl) rfl rfl (W := 0) (Nat.le_refl _) (by decide) ?_
  intro v102 T102 L102 X102 hQ102
  obtain ⟨h102, e102⟩ : ∃ z, T102.heap = z := ⟨_, rfl⟩
  rw [e102] at hQ102
  obtain ⟨rfl, N102q, K102, P102_0⟩ := hQ102
  have N102 := Fr.app N0 N102q
  replace Va := Va.keep K102 (ninS ne_a_b101 nin0)
  replace B101 := B101.keep K102
  have OK102 := ext_keep OE101 K102 (allS g_b101 all0)
  replace KP := KP.trans K102 (allS (Or.inr z_b101) all0)
  refine Go.G X102 hx (hb hby d7_12) (l' := #[.val (.ref a), .val (.int 0), .val (.int 1), .val (.ref b101), .val (.int 1), .unset]) rfl (q := 14) rfl ?_
  refine Go.o X102 hx (hb hby d7_14) rfl (q := 16) rfl ?_
  refine Go.f X102 hx (hb hby d7_16) rfl (q := 17) rfl ?_
  refine Go.y X102 hx (hb hby d7_17) (by decide) (q := 57) (by decide) (by decide) ?_
  refine Go.g X102 hx (hb hby d7_57) rfl rfl (q := 58) rfl ?_
  exact Go.U X102 hx hret hlk rfl rfl (hb hby d7_58) e102 (by decide) (by decide) ⟨b101, k101, rfl, N102, KP, z_b101, P102_0⟩
def Q_ccal1 (Z : State) (b : Addr) (kb : ClassId) (vs : List Value) (h0 : Heap) (vR : Option Value) (hR : Heap) (LR : List Loc) : Prop := vR = some (.int 0) ∧ Fr Z.heap.size LR ∧ hR = h0
theorem ccal1 (l : Launch) (Z : State) (a0 : Array Value) (hw : ∀ d ∈ tables_1, d.before a0 Z = true) (b : Addr) (kb : ClassId) (vs : List Value) (h0 : Heap) (O0 : Ext Z.heap h0) (Vb : Arv Z h0 b kb .byte (1 : Int32) vs (.int 0)) :
    Ctr l Z h0 (⟨xS5, "coderFromArrayLen", "([BI)B"⟩ : MethodName) k9 2 (some .byte) [] ({ frames := 0, cells := 0, slots := 0, locals := 0 } : Room) #[(.ref b), (.int 1)] (Q_ccal1 Z b kb vs h0) := by
  refine enter (plainFor_of_name pn2) ?_
  intro pp ee ss mm below meth cc s₁ hx hby hml hZ hown hnm hret hlk X0 e0 hs0
  replace hown : ss.vm.findClass xS5 = some mm.cls := hown
  refine Go.r (congrArg s₁.setTop (ef_ccal1 mm b)) ?_
  have N0 := Fr.nil Z.heap.size
  show Go pp ee below _ (s₁.setTop (mkF mm 0 #[.val (.ref b), .val (.int 1)] []))
  refine Go.f X0 hx (hb hby d9_0) rfl (q := 1) rfl ?_
  refine Go.g X0 hx (hb hby d9_1) rfl rfl (q := 2) rfl ?_
  refine Go.J X0 hx hZ e0 Vb (hb hby d9_2) ?_
  refine Go.ja X0 hx (hb hby d9_3) (r := (0 : Int32)) rfl (q := 4) rfl ?_
  refine Go.E X0 hx (hb hby d9_4) (r := (31 : Int32)) rfl (q := 6) rfl ?_
  refine Go.jA X0 hx (hb hby d9_6) (r := (0 : Int32)) rfl (q := 7) rfl ?_
  refine Go.je X0 hx (hb hby d9_7) (r := (0 : Int32)) rfl (q := 8) rfl ?_
  exact Go.M X0 hx hret hlk (by simp) rfl (hb hby d9_8) e0 (by decide) (by decide) ⟨rfl, N0, rfl⟩
def Q_csi1 (Z : State) (o a : Addr) (ka : ClassId) (c0 cs : Int32) (h0 : Heap) (vR : Option Value) (hR : Heap) (LR : List Loc) : Prop := ∃ b : Addr, ∃ kb : ClassId, vR = none ∧ Fr Z.heap.size LR ∧ Keep h0 hR [o] ∧ h0.size ≤ b ∧ Fld Z hR o xS0 "value" "[B" (.ref b) ∧ Fld Z hR o xS0 "coder" "B" (.int 0) ∧ Arv Z hR b kb .byte (1 : Int32) [(.int (c0.toInt8.toInt32))] (.int 0)
theorem csi1 (l : Launch) (Z : State) (a0 : Array Value) (hw : ∀ d ∈ tables_1, d.before a0 Z = true) (o a : Addr) (ka : ClassId) (c0 cs : Int32) (h0 : Heap) (O0 : Ext Z.heap h0) (Eo : Exa Z h0 o xS0) (Fv : Fld Z h0 o xS0 "value" "[B" .null) (Fc : Fld Z h0 o xS0 "coder" "B" (.int 0)) (g_o : Z.heap.size ≤ o) (Va : Arv Z h0 a ka .char (1 : Int32) [(.int c0)] (.int 0)) (SCS : Sta Z Z.heap xS0 xS3 "Z" (.int cs)) (hcs : ¬ (cs = (0 : Int32))) (hc0 : ¬ ((255 : Int32) < c0)) :
    Ctr l Z h0 (⟨xS0, "<init>", "([CIILjava/lang/Void;)V"⟩ : MethodName) k4 6 none [] ({ frames := 2, cells := 1, slots := 1, locals := 35 } : Room) #[(.ref o), (.ref a), (.int 0), (.int 1), .null] (Q_csi1 Z o a ka c0 cs h0) := by
  refine enter (plainFor_of_name pn1) ?_
  intro pp ee ss mm below meth cc s₁ hx hby hml hZ hown hnm hret hlk X0 e0 hs0
  replace hown : ss.vm.findClass xS0 = some mm.cls := hown
  refine Go.r (congrArg s₁.setTop (ef_csi1 mm o a)) ?_
  have N0 := Fr.nil Z.heap.size
  have KP := Keep.refl h0 [o]
  show Go pp ee below _ (s₁.setTop (mkF mm 0 #[.val (.ref o), .val (.ref a), .val (.int 0), .val (.int 1), .val .null, .unset] []))
  refine Go.g X0 hx (hb hby d4_0) rfl rfl (q := 1) rfl ?_
  refine Go.jq X0 hx hZ hown (wd19 hw) (wd20 hw) (wd21 hw) e0 (by rw [hml]; rfl) (hb hby d4_1) (by decide) (W := 0) (by exact Nat.le_refl _) (by decide) (q := 4) rfl ?_
  intro T101 X101 e101
  refine Go.f X101 hx (hb hby d4_4) rfl (q := 5) rfl ?_
  refine Go.F X101 hx (hb hby d4_5) (by decide) (q := 27) (by decide) (by decide) ?_
  refine Go.jj X101 hx hZ hown (host := "") (Or.inl (wd33 hw)) Via.refl e101 (SCS.ext O0) (hb hby d4_27) (q := 30) rfl ?_
  intro T102 X102 e102
  refine Go.L X102 hx (hb hby d4_30) (Jvm.Free.XT.i0_eq_f hcs) (q := 33) rfl ?_
  refine Go.g X102 hx (hb hby d4_33) rfl rfl (q := 34) rfl ?_
  refine Go.f X102 hx (hb hby d4_34) rfl (q := 35) rfl ?_
  refine Go.f X102 hx (hb hby d4_35) rfl (q := 36) rfl ?_
  refine Go.A X102 hx hZ hown (wd34 hw) (wd35 hw) (wd36 hw) (wd37 hw) (by decide) (ccmq1 l Z a0 hw a (ka) c0 h0 O0 Va hc0) e102 (by rw [hml]; rfl) (hb hby d4_36) (argsL := [(.ref a), (.int 0), (.int 1)]) (rest := []) (lenOf pd2 rfl) rfl rfl (W := 0) (Nat.le_refl _) (by decide) ?_
  intro v103 T103 L103 X103 hQ103
  obtain ⟨h103, e103⟩ : ∃ z, T103.heap = z := ⟨_, rfl⟩
  rw [e103] at hQ103
  obtain ⟨b_103, kb_103, rfl, N103q, K103, fr103_b, P103_0⟩ := hQ103
  have N103 := Fr.app N0 N103q
  have ne_o_b_103 : o ≠ b_103 := ne_new Eo.lt fr103_b
  have ne_a_b_103 : a ≠ b_103 := ne_new Va.lt fr103_b
  have g_b_103 : Z.heap.size ≤ b_103 := Nat.le_trans O0.1 fr103_b
  have z_b_103 : h0.size ≤ b_103 := Nat.le_trans KP.1 fr103_b
  replace Eo := Eo.keep K103
  replace Fv := Fv.keep K103 nin0
  replace Fc := Fc.keep K103 nin0
  replace Va := Va.keep K103 nin0
  have OK103 := ext_keep O0 K103 all0
  replace KP := KP.trans K103 all0
  refine Go.V X103 hx (hb hby d4_39) rfl (l' := #[.val (.ref o), .val (.ref a), .val (.int 0), .val (.int 1), .val .null, .val (.ref b_103)]) rfl (q := 41) rfl ?_
  refine Go.g X103 hx (hb hby d4_41) rfl rfl (q := 42) rfl ?_
  refine Go.w X103 hx (hb hby d4_42) rfl rfl (q := 44) rfl ?_
  refine Go.f X103 hx (hb hby d4_44) rfl (q := 45) rfl ?_
  refine Go.A X103 hx hZ hown (wd41 hw) (wd42 hw) (wd36 hw) (wd43 hw) (by decide) (ccal1 l Z a0 hw b_103 (kb_103) ([(.int (c0.toInt8.toInt32))]) h103 OK103 P103_0) e103 (by rw [hml]; rfl) (hb hby d4_45) (argsL := [(.ref b_103), (.int 1)]) (rest := [(.ref o)]) (lenOf pd3 rfl) rfl rfl (W := 1) (Nat.le_refl _) (by decide) ?_
  intro v104 T104 L104 X104 hQ104
  obtain ⟨rfl, N104q, e104⟩ := hQ104
  have N104 := Fr.app N103 N104q
  refine Go.jc X104 hx hZ hown (host := "") (Or.inl (wd29 hw)) Via.refl e104 Fc Eo (Or.inr ⟨(wd25 hw), rfl, hnm⟩) (wd6 hw) (ty := .byte) (by decide) rfl rfl (hb hby d4_48) (q := 51) rfl ?_
  intro T105 h105 X105 e105 W105 F105
  have N105 := Fr.snoc X105 N104 g_o
  replace Eo := Eo.wr W105
  replace Fv := Fv.other W105 (Or.inr (slot_ne (Or.inr (wd24 hw)) (Or.inr (wd25 hw)) (by decide) (t := (.array .byte)) (t' := .byte) (by decide) (by decide)))
  replace P103_0 := P103_0.other W105 (Ne.symm ne_o_b_103)
  have OW105 := ext_wr OK103 W105 g_o
  replace KP := KP.wr W105 (Or.inl (List.mem_of_getElem? (i := 0) rfl))
  refine Go.g X105 hx (hb hby d4_51) rfl rfl (q := 52) rfl ?_
  refine Go.w X105 hx (hb hby d4_52) rfl rfl (q := 54) rfl ?_
  refine Go.jc X105 hx hZ hown (host := "") (Or.inl (wd28 hw)) Via.refl e105 Fv Eo (Or.inr ⟨(wd24 hw), rfl, hnm⟩) (wd6 hw) (ty := (.array .byte)) (by decide) rfl rfl (hb hby d4_54) (q := 57) rfl ?_
  intro T106 h106 X106 e106 W106 F106
  have N106 := Fr.snoc X106 N105 g_o
  replace Eo := Eo.wr W106
  replace P103_0 := P103_0.other W106 (Ne.symm ne_o_b_103)
  replace F105 := F105.other W106 (Or.inr (slot_ne (Or.inr (wd25 hw)) (Or.inr (wd24 hw)) (by decide) (t := .byte) (t' := (.array .byte)) (by decide) (by decide)))
  have OW106 := ext_wr OW105 W106 g_o
  replace KP := KP.wr W106 (Or.inl (List.mem_of_getElem? (i := 0) rfl))
  exact Go.jb X106 hx hret hlk (hb hby d4_57) e106 (by decide) (by decide) ⟨b_103, kb_103, rfl, N106, KP, z_b_103, F106, F105, P103_0⟩
def Q_csj1 (Z : State) (o a : Addr) (ka : ClassId) (c0 cs : Int32) (h0 : Heap) (vR : Option Value) (hR : Heap) (LR : List Loc) : Prop := ∃ b : Addr, ∃ kb : ClassId, vR = none ∧ Fr Z.heap.size LR ∧ Keep h0 hR [o] ∧ h0.size ≤ b ∧ Fld Z hR o xS0 "value" "[B" (.ref b) ∧ Fld Z hR o xS0 "coder" "B" (.int 0) ∧ Arv Z hR b kb .byte (1 : Int32) [(.int (c0.toInt8.toInt32))] (.int 0)
theorem csj1 (l : Launch) (Z : State) (a0 : Array Value) (hw : ∀ d ∈ tables_1, d.before a0 Z = true) (o a : Addr) (ka : ClassId) (c0 cs : Int32) (h0 : Heap) (O0 : Ext Z.heap h0) (Eo : Exa Z h0 o xS0) (Fv : Fld Z h0 o xS0 "value" "[B" .null) (Fc : Fld Z h0 o xS0 "coder" "B" (.int 0)) (g_o : Z.heap.size ≤ o) (Va : Arv Z h0 a ka .char (1 : Int32) [(.int c0)] (.int 0)) (SCS : Sta Z Z.heap xS0 xS3 "Z" (.int cs)) (hcs : ¬ (cs = (0 : Int32))) (hc0 : ¬ ((255 : Int32) < c0)) :
    Ctr l Z h0 (⟨xS0, "<init>", "([C)V"⟩ : MethodName) k3 2 none [] ({ frames := 3, cells := 1, slots := 1, locals := 52 } : Room) #[(.ref o), (.ref a)] (Q_csj1 Z o a ka c0 cs h0) := by
  refine enter (plainFor_of_name pn1) ?_
  intro pp ee ss mm below meth cc s₁ hx hby hml hZ hown hnm hret hlk X0 e0 hs0
  replace hown : ss.vm.findClass xS0 = some mm.cls := hown
  refine Go.r (congrArg s₁.setTop (ef_csj1 mm o a)) ?_
  have N0 := Fr.nil Z.heap.size
  have KP := Keep.refl h0 [o]
  show Go pp ee below _ (s₁.setTop (mkF mm 0 #[.val (.ref o), .val (.ref a)] []))
  refine Go.g X0 hx (hb hby d3_0) rfl rfl (q := 1) rfl ?_
  refine Go.g X0 hx (hb hby d3_1) rfl rfl (q := 2) rfl ?_
  refine Go.i X0 hx (hb hby d3_2) (r := (0 : Int32)) rfl (q := 3) rfl ?_
  refine Go.g X0 hx (hb hby d3_3) rfl rfl (q := 4) rfl ?_
  refine Go.J X0 hx hZ e0 Va (hb hby d3_4) ?_
  refine Go.jy X0 hx (hb hby d3_5) (q := 6) rfl ?_
  refine Go.Y X0 hx hZ hown rfl (wd15 hw) (wd16 hw) (wd7 hw) (wd18 hw) (by decide) (csi1 l Z a0 hw o a (ka) c0 cs h0 O0 Eo Fv Fc g_o Va SCS hcs hc0) e0 (by rw [hml]; rfl) (hb hby d3_6) (argsL := [(.ref a), (.int 0), (.int 1), .null]) (rest := []) (lenOf pd0 rfl) rfl rfl (W := 0) (Nat.le_refl _) (by decide) ?_
  intro v101 T101 L101 X101 hQ101
  obtain ⟨h101, e101⟩ : ∃ z, T101.heap = z := ⟨_, rfl⟩
  rw [e101] at hQ101
  obtain ⟨b_101, kb_101, rfl, N101q, K101, fr101_b, P101_0, P101_1, P101_2⟩ := hQ101
  have N101 := Fr.app N0 N101q
  have ne_o_b_101 : o ≠ b_101 := ne_new Eo.lt fr101_b
  have ne_a_b_101 : a ≠ b_101 := ne_new Va.lt fr101_b
  have g_b_101 : Z.heap.size ≤ b_101 := Nat.le_trans O0.1 fr101_b
  have z_b_101 : h0.size ≤ b_101 := Nat.le_trans KP.1 fr101_b
  replace Eo := Eo.keep K101
  have OK101 := ext_keep O0 K101 (allS g_o all0)
  replace KP := KP.trans K101 (allS (Or.inl (List.mem_of_getElem? (i := 0) rfl)) all0)
  exact Go.jb X101 hx hret hlk (hb hby d3_9) e101 (by decide) (by decide) ⟨b_101, kb_101, rfl, N101, KP, z_b_101, P101_0, P101_1, P101_2⟩
def Q_ccmp2 (Z : State) (a b : Addr) (ka kb : ClassId) (c0 c1 : Int32) (h0 : Heap) (vR : Option Value) (hR : Heap) (LR : List Loc) : Prop := vR = some (.int 2) ∧ Fr Z.heap.size LR ∧ Keep h0 hR [b] ∧ Arv Z hR b kb .byte (2 : Int32) [(.int (c0.toInt8.toInt32)), (.int (c1.toInt8.toInt32))] (.int 0)
theorem ccmp2 (l : Launch) (Z : State) (a0 : Array Value) (hw : ∀ d ∈ tables_1, d.before a0 Z = true) (a b : Addr) (ka kb : ClassId) (c0 c1 : Int32) (h0 : Heap) (O0 : Ext Z.heap h0) (Va : Arv Z h0 a ka .char (2 : Int32) [(.int c0), (.int c1)] (.int 0)) (Vb : Arv Z h0 b kb .byte (2 : Int32) [(.int 0), (.int 0)] (.int 0)) (g_b : Z.heap.size ≤ b) (nab : a ≠ b) (hc0 : ¬ ((255 : Int32) < c0)) (hc1 : ¬ ((255 : Int32) < c1)) :
    Ctr l Z h0 (⟨xS5, "compress", "([CI[BII)I"⟩ : MethodName) k8 7 (some .int) [] ({ frames := 0, cells := 0, slots := 0, locals := 0 } : Room) #[(.ref a), (.int 0), (.ref b), (.int 0), (.int 2)] (Q_ccmp2 Z a b ka kb c0 c1 h0) := by
  refine enter (plainFor_of_name pn2) ?_
  intro pp ee ss mm below meth cc s₁ hx hby hml hZ hown hnm hret hlk X0 e0 hs0
  replace hown : ss.vm.findClass xS5 = some mm.cls := hown
  refine Go.r (congrArg s₁.setTop (ef_ccmp2 mm a b)) ?_
  have N0 := Fr.nil Z.heap.size
  have KP := Keep.refl h0 [b]
  show Go pp ee below _ (s₁.setTop (mkF mm 0 #[.val (.ref a), .val (.int 0), .val (.ref b), .val (.int 0), .val (.int 2), .unset, .unset] []))
  refine Go.i X0 hx (hb hby d8_0) (r := (0 : Int32)) rfl (q := 1) rfl ?_
  refine Go.G X0 hx (hb hby d8_1) (l' := #[.val (.ref a), .val (.int 0), .val (.ref b), .val (.int 0), .val (.int 2), .val (.int 0), .unset]) rfl (q := 3) rfl ?_
  refine Go.o X0 hx (hb hby d8_3) rfl (q := 5) rfl ?_
  refine Go.o X0 hx (hb hby d8_5) rfl (q := 7) rfl ?_
  refine Go.t X0 hx (hb hby d8_7) (by decide) (q := 10) rfl ?_
  refine Go.g X0 hx (hb hby d8_10) rfl rfl (q := 11) rfl ?_
  refine Go.f X0 hx (hb hby d8_11) rfl (q := 12) rfl ?_
  refine Go.jn X0 hx hZ e0 Va ⟨by decide, by decide⟩ (v := (.int c0)) rfl (hb hby d8_12) ?_
  refine Go.G X0 hx (hb hby d8_13) (l' := #[.val (.ref a), .val (.int 0), .val (.ref b), .val (.int 0), .val (.int 2), .val (.int 0), .val (.int c0)]) rfl (q := 15) rfl ?_
  refine Go.o X0 hx (hb hby d8_15) rfl (q := 17) rfl ?_
  refine Go.X X0 hx (hb hby d8_17) (r := (255 : Int32)) rfl (q := 20) rfl ?_
  refine Go.y X0 hx (hb hby d8_20) (Jvm.Free.XT.ii_le_t hc0) (q := 26) (by decide) (by decide) ?_
  refine Go.g X0 hx (hb hby d8_26) rfl rfl (q := 27) rfl ?_
  refine Go.f X0 hx (hb hby d8_27) rfl (q := 28) rfl ?_
  refine Go.o X0 hx (hb hby d8_28) rfl (q := 30) rfl ?_
  refine Go.je X0 hx (hb hby d8_30) rfl (q := 31) rfl ?_
  refine Go.jl X0 hx hZ e0 Vb ⟨by decide, by decide⟩ (i := 0) rfl (Nat.le_of_ble_eq_true rfl) (hb hby d8_31) ?_
  intro T101 h101 X101 e101 W101 V101
  rw [bb c0] at V101
  replace V101 : Arv Z h101 b kb .byte (2 : Int32) [(.int (c0.toInt8.toInt32)), (.int 0)] (.int 0) := V101
  have N101 := Fr.snoc X101 N0 g_b
  replace Va := Va.other W101 nab
  have OW101 := ext_wr O0 W101 g_b
  replace KP := KP.wr W101 (Or.inl (List.mem_of_getElem? (i := 0) rfl))
  refine Go.H X101 hx (hb hby d8_32) rfl (r := (1 : Int32)) rfl (l' := #[.val (.ref a), .val (.int 1), .val (.ref b), .val (.int 0), .val (.int 2), .val (.int 0), .val (.int c0)]) rfl (q := 35) rfl ?_
  refine Go.H X101 hx (hb hby d8_35) rfl (r := (1 : Int32)) rfl (l' := #[.val (.ref a), .val (.int 1), .val (.ref b), .val (.int 1), .val (.int 2), .val (.int 0), .val (.int c0)]) rfl (q := 38) rfl ?_
  refine Go.H X101 hx (hb hby d8_38) rfl (r := (1 : Int32)) rfl (l' := #[.val (.ref a), .val (.int 1), .val (.ref b), .val (.int 1), .val (.int 2), .val (.int 1), .val (.int c0)]) rfl (q := 41) rfl ?_
  refine Go.D X101 hx (hb hby d8_41) (q := 3) (by decide) (by decide) ?_
  refine Go.o X101 hx (hb hby d8_3) rfl (q := 5) rfl ?_
  refine Go.o X101 hx (hb hby d8_5) rfl (q := 7) rfl ?_
  refine Go.t X101 hx (hb hby d8_7) (by decide) (q := 10) rfl ?_
  refine Go.g X101 hx (hb hby d8_10) rfl rfl (q := 11) rfl ?_
  refine Go.f X101 hx (hb hby d8_11) rfl (q := 12) rfl ?_
  refine Go.jn X101 hx hZ e101 Va ⟨by decide, by decide⟩ (v := (.int c1)) rfl (hb hby d8_12) ?_
  refine Go.G X101 hx (hb hby d8_13) (l' := #[.val (.ref a), .val (.int 1), .val (.ref b), .val (.int 1), .val (.int 2), .val (.int 1), .val (.int c1)]) rfl (q := 15) rfl ?_
  refine Go.o X101 hx (hb hby d8_15) rfl (q := 17) rfl ?_
  refine Go.X X101 hx (hb hby d8_17) (r := (255 : Int32)) rfl (q := 20) rfl ?_
  refine Go.y X101 hx (hb hby d8_20) (Jvm.Free.XT.ii_le_t hc1) (q := 26) (by decide) (by decide) ?_
  refine Go.g X101 hx (hb hby d8_26) rfl rfl (q := 27) rfl ?_
  refine Go.f X101 hx (hb hby d8_27) rfl (q := 28) rfl ?_
  refine Go.o X101 hx (hb hby d8_28) rfl (q := 30) rfl ?_
  refine Go.je X101 hx (hb hby d8_30) rfl (q := 31) rfl ?_
  refine Go.jl X101 hx hZ e101 V101 ⟨by decide, by decide⟩ (i := 1) rfl (Nat.le_of_ble_eq_true rfl) (hb hby d8_31) ?_
  intro T102 h102 X102 e102 W102 V102
  rw [bb c1] at V102
  replace V102 : Arv Z h102 b kb .byte (2 : Int32) [(.int (c0.toInt8.toInt32)), (.int (c1.toInt8.toInt32))] (.int 0) := V102
  have N102 := Fr.snoc X102 N101 g_b
  replace Va := Va.other W102 nab
  have OW102 := ext_wr OW101 W102 g_b
  replace KP := KP.wr W102 (Or.inl (List.mem_of_getElem? (i := 0) rfl))
  refine Go.H X102 hx (hb hby d8_32) rfl (r := (2 : Int32)) rfl (l' := #[.val (.ref a), .val (.int 2), .val (.ref b), .val (.int 1), .val (.int 2), .val (.int 1), .val (.int c1)]) rfl (q := 35) rfl ?_
  refine Go.H X102 hx (hb hby d8_35) rfl (r := (2 : Int32)) rfl (l' := #[.val (.ref a), .val (.int 2), .val (.ref b), .val (.int 2), .val (.int 2), .val (.int 1), .val (.int c1)]) rfl (q := 38) rfl ?_
  refine Go.H X102 hx (hb hby d8_38) rfl (r := (2 : Int32)) rfl (l' := #[.val (.ref a), .val (.int 2), .val (.ref b), .val (.int 2), .val (.int 2), .val (.int 2), .val (.int c1)]) rfl (q := 41) rfl ?_
  refine Go.D X102 hx (hb hby d8_41) (q := 3) (by decide) (by decide) ?_
  refine Go.o X102 hx (hb hby d8_3) rfl (q := 5) rfl ?_
  refine Go.o X102 hx (hb hby d8_5) rfl (q := 7) rfl ?_
  refine Go.y X102 hx (hb hby d8_7) (by decide) (q := 44) (by decide) (by decide) ?_
  refine Go.o X102 hx (hb hby d8_44) rfl (q := 46) rfl ?_
  exact Go.M X102 hx hret hlk (Or.inl rfl) rfl (hb hby d8_46) e102 (by decide) (by decide) ⟨rfl, N102, KP, V102⟩
def Q_ccmq2 (Z : State) (a : Addr) (ka : ClassId) (c0 c1 : Int32) (h0 : Heap) (vR : Option Value) (hR : Heap) (LR : List Loc) : Prop := ∃ b : Addr, ∃ kb : ClassId, vR = some (.ref b) ∧ Fr Z.heap.size LR ∧ Keep h0 hR [] ∧ h0.size ≤ b ∧ Arv Z hR b kb .byte (2 : Int32) [(.int (c0.toInt8.toInt32)), (.int (c1.toInt8.toInt32))] (.int 0)
theorem ccmq2 (l : Launch) (Z : State) (a0 : Array Value) (hw : ∀ d ∈ tables_1, d.before a0 Z = true) (a : Addr) (ka : ClassId) (c0 c1 : Int32) (h0 : Heap) (O0 : Ext Z.heap h0) (Va : Arv Z h0 a ka .char (2 : Int32) [(.int c0), (.int c1)] (.int 0)) (hc0 : ¬ ((255 : Int32) < c0)) (hc1 : ¬ ((255 : Int32) < c1)) :
    Ctr l Z h0 (⟨xS5, "compress", "([CII)[B"⟩ : MethodName) k7 6 (some (.array .byte)) [] ({ frames := 1, cells := 1, slots := 2, locals := 18 } : Room) #[(.ref a), (.int 0), (.int 2)] (Q_ccmq2 Z a ka c0 c1 h0) := by
  refine enter (plainFor_of_name pn2) ?_
  intro pp ee ss mm below meth cc s₁ hx hby hml hZ hown hnm hret hlk X0 e0 hs0
  replace hown : ss.vm.findClass xS5 = some mm.cls := hown
  refine Go.r (congrArg s₁.setTop (ef_ccmq2 mm a)) ?_
  have N0 := Fr.nil Z.heap.size
  have KP := Keep.refl h0 []
  show Go pp ee below _ (s₁.setTop (mkF mm 0 #[.val (.ref a), .val (.int 0), .val (.int 2), .unset, .unset, .unset] []))
  refine Go.f X0 hx (hb hby d7_0) rfl (q := 1) rfl ?_
  refine Go.ji X0 hx hZ (hb hby d7_1) (wd23 hw) e0 (by decide) (cap := 2) (by decide) (by decide) (by decide) (by decide) (ad := "[B") rfl (q := 3) rfl ?_
  intro b101 T101 h101 k101 X101 e101 q101 E101 V101 B101
  have ne_a_b101 : a ≠ b101 := ne_new Va.lt (Nat.le_of_eq q101)
  have g_b101 : Z.heap.size ≤ b101 := Nat.le_trans O0.1 (Nat.le_of_eq q101)
  have z_b101 : h0.size ≤ b101 := Nat.le_trans KP.1 (Nat.le_of_eq q101)
  replace Va := Va.ext E101
  have OE101 := ext_trans O0 E101
  replace KP := KP.ext E101
  replace V101 : Arv Z h101 b101 k101 .byte (2 : Int32) [(.int 0), (.int 0)] (.int 0) := V101.pad (pad_rep [] (.int 0) 2)
  refine Go.jf X101 hx (hb hby d7_3) rfl (l' := #[.val (.ref a), .val (.int 0), .val (.int 2), .val (.ref b101), .unset, .unset]) rfl (q := 4) rfl ?_
  refine Go.g X101 hx (hb hby d7_4) rfl rfl (q := 5) rfl ?_
  refine Go.f X101 hx (hb hby d7_5) rfl (q := 6) rfl ?_
  refine Go.g X101 hx (hb hby d7_6) rfl rfl (q := 7) rfl ?_
  refine Go.i X101 hx (hb hby d7_7) (r := (0 : Int32)) rfl (q := 8) rfl ?_
  refine Go.f X101 hx (hb hby d7_8) rfl (q := 9) rfl ?_
  refine Go.A X101 hx hZ hown (wd38 hw) (wd39 hw) (wd36 hw) (wd40 hw) (by decide) (ccmp2 l Z a0 hw a b101 (ka) (k101) c0 c1 h101 OE101 Va V101 g_b101 ne_a_b101 hc0 hc1) e101 (by rw [hml]; rfl) (hb hby d7_9) (argsL := [(.ref a), (.int 0), (.ref b101), (.int 0), (.int 2)]) (rest := []) (lenOf pd1 rfl) rfl rfl (W := 0) (Nat.le_refl _) (by decide) ?_
  intro v102 T102 L102 X102 hQ102
  obtain ⟨h102, e102⟩ : ∃ z, T102.heap = z := ⟨_, rfl⟩
  rw [e102] at hQ102
  obtain ⟨rfl, N102q, K102, P102_0⟩ := hQ102
  have N102 := Fr.app N0 N102q
  replace Va := Va.keep K102 (ninS ne_a_b101 nin0)
  replace B101 := B101.keep K102
  have OK102 := ext_keep OE101 K102 (allS g_b101 all0)
  replace KP := KP.trans K102 (allS (Or.inr z_b101) all0)
  refine Go.G X102 hx (hb hby d7_12) (l' := #[.val (.ref a), .val (.int 0), .val (.int 2), .val (.ref b101), .val (.int 2), .unset]) rfl (q := 14) rfl ?_
  refine Go.o X102 hx (hb hby d7_14) rfl (q := 16) rfl ?_
  refine Go.f X102 hx (hb hby d7_16) rfl (q := 17) rfl ?_
  refine Go.y X102 hx (hb hby d7_17) (by decide) (q := 57) (by decide) (by decide) ?_
  refine Go.g X102 hx (hb hby d7_57) rfl rfl (q := 58) rfl ?_
  exact Go.U X102 hx hret hlk rfl rfl (hb hby d7_58) e102 (by decide) (by decide) ⟨b101, k101, rfl, N102, KP, z_b101, P102_0⟩
def Q_ccal2 (Z : State) (b : Addr) (kb : ClassId) (vs : List Value) (h0 : Heap) (vR : Option Value) (hR : Heap) (LR : List Loc) : Prop := vR = some (.int 0) ∧ Fr Z.heap.size LR ∧ hR = h0
theorem ccal2 (l : Launch) (Z : State) (a0 : Array Value) (hw : ∀ d ∈ tables_1, d.before a0 Z = true) (b : Addr) (kb : ClassId) (vs : List Value) (h0 : Heap) (O0 : Ext Z.heap h0) (Vb : Arv Z h0 b kb .byte (2 : Int32) vs (.int 0)) :
    Ctr l Z h0 (⟨xS5, "coderFromArrayLen", "([BI)B"⟩ : MethodName) k9 2 (some .byte) [] ({ frames := 0, cells := 0, slots := 0, locals := 0 } : Room) #[(.ref b), (.int 2)] (Q_ccal2 Z b kb vs h0) := by
  refine enter (plainFor_of_name pn2) ?_
  intro pp ee ss mm below meth cc s₁ hx hby hml hZ hown hnm hret hlk X0 e0 hs0
  replace hown : ss.vm.findClass xS5 = some mm.cls := hown
  refine Go.r (congrArg s₁.setTop (ef_ccal2 mm b)) ?_
  have N0 := Fr.nil Z.heap.size
  show Go pp ee below _ (s₁.setTop (mkF mm 0 #[.val (.ref b), .val (.int 2)] []))
  refine Go.f X0 hx (hb hby d9_0) rfl (q := 1) rfl ?_
  refine Go.g X0 hx (hb hby d9_1) rfl rfl (q := 2) rfl ?_
  refine Go.J X0 hx hZ e0 Vb (hb hby d9_2) ?_
  refine Go.ja X0 hx (hb hby d9_3) (r := (0 : Int32)) rfl (q := 4) rfl ?_
  refine Go.E X0 hx (hb hby d9_4) (r := (31 : Int32)) rfl (q := 6) rfl ?_
  refine Go.jA X0 hx (hb hby d9_6) (r := (0 : Int32)) rfl (q := 7) rfl ?_
  refine Go.je X0 hx (hb hby d9_7) (r := (0 : Int32)) rfl (q := 8) rfl ?_
  exact Go.M X0 hx hret hlk (by simp) rfl (hb hby d9_8) e0 (by decide) (by decide) ⟨rfl, N0, rfl⟩
def Q_csi2 (Z : State) (o a : Addr) (ka : ClassId) (c0 c1 cs : Int32) (h0 : Heap) (vR : Option Value) (hR : Heap) (LR : List Loc) : Prop := ∃ b : Addr, ∃ kb : ClassId, vR = none ∧ Fr Z.heap.size LR ∧ Keep h0 hR [o] ∧ h0.size ≤ b ∧ Fld Z hR o xS0 "value" "[B" (.ref b) ∧ Fld Z hR o xS0 "coder" "B" (.int 0) ∧ Arv Z hR b kb .byte (2 : Int32) [(.int (c0.toInt8.toInt32)), (.int (c1.toInt8.toInt32))] (.int 0)
theorem csi2 (l : Launch) (Z : State) (a0 : Array Value) (hw : ∀ d ∈ tables_1, d.before a0 Z = true) (o a : Addr) (ka : ClassId) (c0 c1 cs : Int32) (h0 : Heap) (O0 : Ext Z.heap h0) (Eo : Exa Z h0 o xS0) (Fv : Fld Z h0 o xS0 "value" "[B" .null) (Fc : Fld Z h0 o xS0 "coder" "B" (.int 0)) (g_o : Z.heap.size ≤ o) (Va : Arv Z h0 a ka .char (2 : Int32) [(.int c0), (.int c1)] (.int 0)) (SCS : Sta Z Z.heap xS0 xS3 "Z" (.int cs)) (hcs : ¬ (cs = (0 : Int32))) (hc0 : ¬ ((255 : Int32) < c0)) (hc1 : ¬ ((255 : Int32) < c1)) :
    Ctr l Z h0 (⟨xS0, "<init>", "([CIILjava/lang/Void;)V"⟩ : MethodName) k4 6 none [] ({ frames := 2, cells := 1, slots := 2, locals := 35 } : Room) #[(.ref o), (.ref a), (.int 0), (.int 2), .null] (Q_csi2 Z o a ka c0 c1 cs h0) := by
  refine enter (plainFor_of_name pn1) ?_
  intro pp ee ss mm below meth cc s₁ hx hby hml hZ hown hnm hret hlk X0 e0 hs0
  replace hown : ss.vm.findClass xS0 = some mm.cls := hown
  refine Go.r (congrArg s₁.setTop (ef_csi2 mm o a)) ?_
  have N0 := Fr.nil Z.heap.size
  have KP := Keep.refl h0 [o]
  show Go pp ee below _ (s₁.setTop (mkF mm 0 #[.val (.ref o), .val (.ref a), .val (.int 0), .val (.int 2), .val .null, .unset] []))
  refine Go.g X0 hx (hb hby d4_0) rfl rfl (q := 1) rfl ?_
  refine Go.jq X0 hx hZ hown (wd19 hw) (wd20 hw) (wd21 hw) e0 (by rw [hml]; rfl) (hb hby d4_1) (by decide) (W := 0) (by exact Nat.le_refl _) (by decide) (q := 4) rfl ?_
  intro T101 X101 e101
  refine Go.f X101 hx (hb hby d4_4) rfl (q := 5) rfl ?_
  refine Go.F X101 hx (hb hby d4_5) (by decide) (q := 27) (by decide) (by decide) ?_
  refine Go.jj X101 hx hZ hown (host := "") (Or.inl (wd33 hw)) Via.refl e101 (SCS.ext O0) (hb hby d4_27) (q := 30) rfl ?_
  intro T102 X102 e102
  refine Go.L X102 hx (hb hby d4_30) (Jvm.Free.XT.i0_eq_f hcs) (q := 33) rfl ?_
  refine Go.g X102 hx (hb hby d4_33) rfl rfl (q := 34) rfl ?_
  refine Go.f X102 hx (hb hby d4_34) rfl (q := 35) rfl ?_
  refine Go.f X102 hx (hb hby d4_35) rfl (q := 36) rfl ?_
  refine Go.A X102 hx hZ hown (wd34 hw) (wd35 hw) (wd36 hw) (wd37 hw) (by decide) (ccmq2 l Z a0 hw a (ka) c0 c1 h0 O0 Va hc0 hc1) e102 (by rw [hml]; rfl) (hb hby d4_36) (argsL := [(.ref a), (.int 0), (.int 2)]) (rest := []) (lenOf pd2 rfl) rfl rfl (W := 0) (Nat.le_refl _) (by decide) ?_
  intro v103 T103 L103 X103 hQ103
  obtain ⟨h103, e103⟩ : ∃ z, T103.heap = z := ⟨_, rfl⟩
  rw [e103] at hQ103
  obtain ⟨b_103, kb_103, rfl, N103q, K103, fr103_b, P103_0⟩ := hQ103
  have N103 := Fr.app N0 N103q
  have ne_o_b_103 : o ≠ b_103 := ne_new Eo.lt fr103_b
  have ne_a_b_103 : a ≠ b_103 := ne_new Va.lt fr103_b
  have g_b_103 : Z.heap.size ≤ b_103 := Nat.le_trans O0.1 fr103_b
  have z_b_103 : h0.size ≤ b_103 := Nat.le_trans KP.1 fr103_b
  replace Eo := Eo.keep K103
  replace Fv := Fv.keep K103 nin0
  replace Fc := Fc.keep K103 nin0
  replace Va := Va.keep K103 nin0
  have OK103 := ext_keep O0 K103 all0
  replace KP := KP.trans K103 all0
  refine Go.V X103 hx (hb hby d4_39) rfl (l' := #[.val (.ref o), .val (.ref a), .val (.int 0), .val (.int 2), .val .null, .val (.ref b_103)]) rfl (q := 41) rfl ?_
  refine Go.g X103 hx (hb hby d4_41) rfl rfl (q := 42) rfl ?_
  refine Go.w X103 hx (hb hby d4_42) rfl rfl (q := 44) rfl ?_
  refine Go.f X103 hx (hb hby d4_44) rfl (q := 45) rfl ?_
  refine Go.A X103 hx hZ hown (wd41 hw) (wd42 hw) (wd36 hw) (wd43 hw) (by decide) (ccal2 l Z a0 hw b_103 (kb_103) ([(.int (c0.toInt8.toInt32)), (.int (c1.toInt8.toInt32))]) h103 OK103 P103_0) e103 (by rw [hml]; rfl) (hb hby d4_45) (argsL := [(.ref b_103), (.int 2)]) (rest := [(.ref o)]) (lenOf pd3 rfl) rfl rfl (W := 1) (Nat.le_refl _) (by decide) ?_
  intro v104 T104 L104 X104 hQ104
  obtain ⟨rfl, N104q, e104⟩ := hQ104
  have N104 := Fr.app N103 N104q
  refine Go.jc X104 hx hZ hown (host := "") (Or.inl (wd29 hw)) Via.refl e104 Fc Eo (Or.inr ⟨(wd25 hw), rfl, hnm⟩) (wd6 hw) (ty := .byte) (by decide) rfl rfl (hb hby d4_48) (q := 51) rfl ?_
  intro T105 h105 X105 e105 W105 F105
  have N105 := Fr.snoc X105 N104 g_o
  replace Eo := Eo.wr W105
  replace Fv := Fv.other W105 (Or.inr (slot_ne (Or.inr (wd24 hw)) (Or.inr (wd25 hw)) (by decide) (t := (.array .byte)) (t' := .byte) (by decide) (by decide)))
  replace P103_0 := P103_0.other W105 (Ne.symm ne_o_b_103)
  have OW105 := ext_wr OK103 W105 g_o
  replace KP := KP.wr W105 (Or.inl (List.mem_of_getElem? (i := 0) rfl))
  refine Go.g X105 hx (hb hby d4_51) rfl rfl (q := 52) rfl ?_
  refine Go.w X105 hx (hb hby d4_52) rfl rfl (q := 54) rfl ?_
  refine Go.jc X105 hx hZ hown (host := "") (Or.inl (wd28 hw)) Via.refl e105 Fv Eo (Or.inr ⟨(wd24 hw), rfl, hnm⟩) (wd6 hw) (ty := (.array .byte)) (by decide) rfl rfl (hb hby d4_54) (q := 57) rfl ?_
  intro T106 h106 X106 e106 W106 F106
  have N106 := Fr.snoc X106 N105 g_o
  replace Eo := Eo.wr W106
  replace P103_0 := P103_0.other W106 (Ne.symm ne_o_b_103)
  replace F105 := F105.other W106 (Or.inr (slot_ne (Or.inr (wd25 hw)) (Or.inr (wd24 hw)) (by decide) (t := .byte) (t' := (.array .byte)) (by decide) (by decide)))
  have OW106 := ext_wr OW105 W106 g_o
  replace KP := KP.wr W106 (Or.inl (List.mem_of_getElem? (i := 0) rfl))
  exact Go.jb X106 hx hret hlk (hb hby d4_57) e106 (by decide) (by decide) ⟨b_103, kb_103, rfl, N106, KP, z_b_103, F106, F105, P103_0⟩
def Q_csj2 (Z : State) (o a : Addr) (ka : ClassId) (c0 c1 cs : Int32) (h0 : Heap) (vR : Option Value) (hR : Heap) (LR : List Loc) : Prop := ∃ b : Addr, ∃ kb : ClassId, vR = none ∧ Fr Z.heap.size LR ∧ Keep h0 hR [o] ∧ h0.size ≤ b ∧ Fld Z hR o xS0 "value" "[B" (.ref b) ∧ Fld Z hR o xS0 "coder" "B" (.int 0) ∧ Arv Z hR b kb .byte (2 : Int32) [(.int (c0.toInt8.toInt32)), (.int (c1.toInt8.toInt32))] (.int 0)
theorem csj2 (l : Launch) (Z : State) (a0 : Array Value) (hw : ∀ d ∈ tables_1, d.before a0 Z = true) (o a : Addr) (ka : ClassId) (c0 c1 cs : Int32) (h0 : Heap) (O0 : Ext Z.heap h0) (Eo : Exa Z h0 o xS0) (Fv : Fld Z h0 o xS0 "value" "[B" .null) (Fc : Fld Z h0 o xS0 "coder" "B" (.int 0)) (g_o : Z.heap.size ≤ o) (Va : Arv Z h0 a ka .char (2 : Int32) [(.int c0), (.int c1)] (.int 0)) (SCS : Sta Z Z.heap xS0 xS3 "Z" (.int cs)) (hcs : ¬ (cs = (0 : Int32))) (hc0 : ¬ ((255 : Int32) < c0)) (hc1 : ¬ ((255 : Int32) < c1)) :
    Ctr l Z h0 (⟨xS0, "<init>", "([C)V"⟩ : MethodName) k3 2 none [] ({ frames := 3, cells := 1, slots := 2, locals := 52 } : Room) #[(.ref o), (.ref a)] (Q_csj2 Z o a ka c0 c1 cs h0) := by
  refine enter (plainFor_of_name pn1) ?_
  intro pp ee ss mm below meth cc s₁ hx hby hml hZ hown hnm hret hlk X0 e0 hs0
  replace hown : ss.vm.findClass xS0 = some mm.cls := hown
  refine Go.r (congrArg s₁.setTop (ef_csj2 mm o a)) ?_
  have N0 := Fr.nil Z.heap.size
  have KP := Keep.refl h0 [o]
  show Go pp ee below _ (s₁.setTop (mkF mm 0 #[.val (.ref o), .val (.ref a)] []))
  refine Go.g X0 hx (hb hby d3_0) rfl rfl (q := 1) rfl ?_
  refine Go.g X0 hx (hb hby d3_1) rfl rfl (q := 2) rfl ?_
  refine Go.i X0 hx (hb hby d3_2) (r := (0 : Int32)) rfl (q := 3) rfl ?_
  refine Go.g X0 hx (hb hby d3_3) rfl rfl (q := 4) rfl ?_
  refine Go.J X0 hx hZ e0 Va (hb hby d3_4) ?_
  refine Go.jy X0 hx (hb hby d3_5) (q := 6) rfl ?_
  refine Go.Y X0 hx hZ hown rfl (wd15 hw) (wd16 hw) (wd7 hw) (wd18 hw) (by decide) (csi2 l Z a0 hw o a (ka) c0 c1 cs h0 O0 Eo Fv Fc g_o Va SCS hcs hc0 hc1) e0 (by rw [hml]; rfl) (hb hby d3_6) (argsL := [(.ref a), (.int 0), (.int 2), .null]) (rest := []) (lenOf pd0 rfl) rfl rfl (W := 0) (Nat.le_refl _) (by decide) ?_
  intro v101 T101 L101 X101 hQ101
  obtain ⟨h101, e101⟩ : ∃ z, T101.heap = z := ⟨_, rfl⟩
  rw [e101] at hQ101
  obtain ⟨b_101, kb_101, rfl, N101q, K101, fr101_b, P101_0, P101_1, P101_2⟩ := hQ101
  have N101 := Fr.app N0 N101q
  have ne_o_b_101 : o ≠ b_101 := ne_new Eo.lt fr101_b
  have ne_a_b_101 : a ≠ b_101 := ne_new Va.lt fr101_b
  have g_b_101 : Z.heap.size ≤ b_101 := Nat.le_trans O0.1 fr101_b
  have z_b_101 : h0.size ≤ b_101 := Nat.le_trans KP.1 fr101_b
  replace Eo := Eo.keep K101
  have OK101 := ext_keep O0 K101 (allS g_o all0)
  replace KP := KP.trans K101 (allS (Or.inl (List.mem_of_getElem? (i := 0) rfl)) all0)
  exact Go.jb X101 hx hret hlk (hb hby d3_9) e101 (by decide) (by decide) ⟨b_101, kb_101, rfl, N101, KP, z_b_101, P101_0, P101_1, P101_2⟩
def Q_ccmp3 (Z : State) (a b : Addr) (ka kb : ClassId) (c0 c1 c2 : Int32) (h0 : Heap) (vR : Option Value) (hR : Heap) (LR : List Loc) : Prop := vR = some (.int 3) ∧ Fr Z.heap.size LR ∧ Keep h0 hR [b] ∧ Arv Z hR b kb .byte (3 : Int32) [(.int (c0.toInt8.toInt32)), (.int (c1.toInt8.toInt32)), (.int (c2.toInt8.toInt32))] (.int 0)
theorem ccmp3 (l : Launch) (Z : State) (a0 : Array Value) (hw : ∀ d ∈ tables_1, d.before a0 Z = true) (a b : Addr) (ka kb : ClassId) (c0 c1 c2 : Int32) (h0 : Heap) (O0 : Ext Z.heap h0) (Va : Arv Z h0 a ka .char (3 : Int32) [(.int c0), (.int c1), (.int c2)] (.int 0)) (Vb : Arv Z h0 b kb .byte (3 : Int32) [(.int 0), (.int 0), (.int 0)] (.int 0)) (g_b : Z.heap.size ≤ b) (nab : a ≠ b) (hc0 : ¬ ((255 : Int32) < c0)) (hc1 : ¬ ((255 : Int32) < c1)) (hc2 : ¬ ((255 : Int32) < c2)) :
    Ctr l Z h0 (⟨xS5, "compress", "([CI[BII)I"⟩ : MethodName) k8 7 (some .int) [] ({ frames := 0, cells := 0, slots := 0, locals := 0 } : Room) #[(.ref a), (.int 0), (.ref b), (.int 0), (.int 3)] (Q_ccmp3 Z a b ka kb c0 c1 c2 h0) := by
  refine enter (plainFor_of_name pn2) ?_
  intro pp ee ss mm below meth cc s₁ hx hby hml hZ hown hnm hret hlk X0 e0 hs0
  replace hown : ss.vm.findClass xS5 = some mm.cls := hown
  refine Go.r (congrArg s₁.setTop (ef_ccmp3 mm a b)) ?_
  have N0 := Fr.nil Z.heap.size
  have KP := Keep.refl h0 [b]
  show Go pp ee below _ (s₁.setTop (mkF mm 0 #[.val (.ref a), .val (.int 0), .val (.ref b), .val (.int 0), .val (.int 3), .unset, .unset] []))
  refine Go.i X0 hx (hb hby d8_0) (r := (0 : Int32)) rfl (q := 1) rfl ?_
  refine Go.G X0 hx (hb hby d8_1) (l' := #[.val (.ref a), .val (.int 0), .val (.ref b), .val (.int 0), .val (.int 3), .val (.int 0), .unset]) rfl (q := 3) rfl ?_
  refine Go.o X0 hx (hb hby d8_3) rfl (q := 5) rfl ?_
  refine Go.o X0 hx (hb hby d8_5) rfl (q := 7) rfl ?_
  refine Go.t X0 hx (hb hby d8_7) (by decide) (q := 10) rfl ?_
  refine Go.g X0 hx (hb hby d8_10) rfl rfl (q := 11) rfl ?_
  refine Go.f X0 hx (hb hby d8_11) rfl (q := 12) rfl ?_
  refine Go.jn X0 hx hZ e0 Va ⟨by decide, by decide⟩ (v := (.int c0)) rfl (hb hby d8_12) ?_
  refine Go.G X0 hx (hb hby d8_13) (l' := #[.val (.ref a), .val (.int 0), .val (.ref b), .val (.int 0), .val (.int 3), .val (.int 0), .val (.int c0)]) rfl (q := 15) rfl ?_
  refine Go.o X0 hx (hb hby d8_15) rfl (q := 17) rfl ?_
  refine Go.X X0 hx (hb hby d8_17) (r := (255 : Int32)) rfl (q := 20) rfl ?_
  refine Go.y X0 hx (hb hby d8_20) (Jvm.Free.XT.ii_le_t hc0) (q := 26) (by decide) (by decide) ?_
  refine Go.g X0 hx (hb hby d8_26) rfl rfl (q := 27) rfl ?_
  refine Go.f X0 hx (hb hby d8_27) rfl (q := 28) rfl ?_
  refine Go.o X0 hx (hb hby d8_28) rfl (q := 30) rfl ?_
  refine Go.je X0 hx (hb hby d8_30) rfl (q := 31) rfl ?_
  refine Go.jl X0 hx hZ e0 Vb ⟨by decide, by decide⟩ (i := 0) rfl (Nat.le_of_ble_eq_true rfl) (hb hby d8_31) ?_
  intro T101 h101 X101 e101 W101 V101
  rw [bb c0] at V101
  replace V101 : Arv Z h101 b kb .byte (3 : Int32) [(.int (c0.toInt8.toInt32)), (.int 0), (.int 0)] (.int 0) := V101
  have N101 := Fr.snoc X101 N0 g_b
  replace Va := Va.other W101 nab
  have OW101 := ext_wr O0 W101 g_b
  replace KP := KP.wr W101 (Or.inl (List.mem_of_getElem? (i := 0) rfl))
  refine Go.H X101 hx (hb hby d8_32) rfl (r := (1 : Int32)) rfl (l' := #[.val (.ref a), .val (.int 1), .val (.ref b), .val (.int 0), .val (.int 3), .val (.int 0), .val (.int c0)]) rfl (q := 35) rfl ?_
  refine Go.H X101 hx (hb hby d8_35) rfl (r := (1 : Int32)) rfl (l' := #[.val (.ref a), .val (.int 1), .val (.ref b), .val (.int 1), .val (.int 3), .val (.int 0), .val (.int c0)]) rfl (q := 38) rfl ?_
  refine Go.H X101 hx (hb hby d8_38) rfl (r := (1 : Int32)) rfl (l' := #[.val (.ref a), .val (.int 1), .val (.ref b), .val (.int 1), .val (.int 3), .val (.int 1), .val (.int c0)]) rfl (q := 41) rfl ?_
  refine Go.D X101 hx (hb hby d8_41) (q := 3) (by decide) (by decide) ?_
  refine Go.o X101 hx (hb hby d8_3) rfl (q := 5) rfl ?_
  refine Go.o X101 hx (hb hby d8_5) rfl (q := 7) rfl ?_
  refine Go.t X101 hx (hb hby d8_7) (by decide) (q := 10) rfl ?_
  refine Go.g X101 hx (hb hby d8_10) rfl rfl (q := 11) rfl ?_
  refine Go.f X101 hx (hb hby d8_11) rfl (q := 12) rfl ?_
  refine Go.jn X101 hx hZ e101 Va ⟨by decide, by decide⟩ (v := (.int c1)) rfl (hb hby d8_12) ?_
  refine Go.G X101 hx (hb hby d8_13) (l' := #[.val (.ref a), .val (.int 1), .val (.ref b), .val (.int 1), .val (.int 3), .val (.int 1), .val (.int c1)]) rfl (q := 15) rfl ?_
  refine Go.o X101 hx (hb hby d8_15) rfl (q := 17) rfl ?_
  refine Go.X X101 hx (hb hby d8_17) (r := (255 : Int32)) rfl (q := 20) rfl ?_
  refine Go.y X101 hx (hb hby d8_20) (Jvm.Free.XT.ii_le_t hc1) (q := 26) (by decide) (by decide) ?_
  refine Go.g X101 hx (hb hby d8_26) rfl rfl (q := 27) rfl ?_
  refine Go.f X101 hx (hb hby d8_27) rfl (q := 28) rfl ?_
  refine Go.o X101 hx (hb hby d8_28) rfl (q := 30) rfl ?_
  refine Go.je X101 hx (hb hby d8_30) rfl (q := 31) rfl ?_
  refine Go.jl X101 hx hZ e101 V101 ⟨by decide, by decide⟩ (i := 1) rfl (Nat.le_of_ble_eq_true rfl) (hb hby d8_31) ?_
  intro T102 h102 X102 e102 W102 V102
  rw [bb c1] at V102
  replace V102 : Arv Z h102 b kb .byte (3 : Int32) [(.int (c0.toInt8.toInt32)), (.int (c1.toInt8.toInt32)), (.int 0)] (.int 0) := V102
  have N102 := Fr.snoc X102 N101 g_b
  replace Va := Va.other W102 nab
  have OW102 := ext_wr OW101 W102 g_b
  replace KP := KP.wr W102 (Or.inl (List.mem_of_getElem? (i := 0) rfl))
  refine Go.H X102 hx (hb hby d8_32) rfl (r := (2 : Int32)) rfl (l' := #[.val (.ref a), .val (.int 2), .val (.ref b), .val (.int 1), .val (.int 3), .val (.int 1), .val (.int c1)]) rfl (q := 35) rfl ?_
  refine Go.H X102 hx (hb hby d8_35) rfl (r := (2 : Int32)) rfl (l' := #[.val (.ref a), .val (.int 2), .val (.ref b), .val (.int 2), .val (.int 3), .val (.int 1), .val (.int c1)]) rfl (q := 38) rfl ?_
  refine Go.H X102 hx (hb hby d8_38) rfl (r := (2 : Int32)) rfl (l' := #[.val (.ref a), .val (.int 2), .val (.ref b), .val (.int 2), .val (.int 3), .val (.int 2), .val (.int c1)]) rfl (q := 41) rfl ?_
  refine Go.D X102 hx (hb hby d8_41) (q := 3) (by decide) (by decide) ?_
  refine Go.o X102 hx (hb hby d8_3) rfl (q := 5) rfl ?_
  refine Go.o X102 hx (hb hby d8_5) rfl (q := 7) rfl ?_
  refine Go.t X102 hx (hb hby d8_7) (by decide) (q := 10) rfl ?_
  refine Go.g X102 hx (hb hby d8_10) rfl rfl (q := 11) rfl ?_
  refine Go.f X102 hx (hb hby d8_11) rfl (q := 12) rfl ?_
  refine Go.jn X102 hx hZ e102 Va ⟨by decide, by decide⟩ (v := (.int c2)) rfl (hb hby d8_12) ?_
  refine Go.G X102 hx (hb hby d8_13) (l' := #[.val (.ref a), .val (.int 2), .val (.ref b), .val (.int 2), .val (.int 3), .val (.int 2), .val (.int c2)]) rfl (q := 15) rfl ?_
  refine Go.o X102 hx (hb hby d8_15) rfl (q := 17) rfl ?_
  refine Go.X X102 hx (hb hby d8_17) (r := (255 : Int32)) rfl (q := 20) rfl ?_
  refine Go.y X102 hx (hb hby d8_20) (Jvm.Free.XT.ii_le_t hc2) (q := 26) (by decide) (by decide) ?_
  refine Go.g X102 hx (hb hby d8_26) rfl rfl (q := 27) rfl ?_
  refine Go.f X102 hx (hb hby d8_27) rfl (q := 28) rfl ?_
  refine Go.o X102 hx (hb hby d8_28) rfl (q := 30) rfl ?_
  refine Go.je X102 hx (hb hby d8_30) rfl (q := 31) rfl ?_
  refine Go.jl X102 hx hZ e102 V102 ⟨by decide, by decide⟩ (i := 2) rfl (Nat.le_of_ble_eq_true rfl) (hb hby d8_31) ?_
  intro T103 h103 X103 e103 W103 V103
  rw [bb c2] at V103
  replace V103 : Arv Z h103 b kb .byte (3 : Int32) [(.int (c0.toInt8.toInt32)), (.int (c1.toInt8.toInt32)), (.int (c2.toInt8.toInt32))] (.int 0) := V103
  have N103 := Fr.snoc X103 N102 g_b
  replace Va := Va.other W103 nab
  have OW103 := ext_wr OW102 W103 g_b
  replace KP := KP.wr W103 (Or.inl (List.mem_of_getElem? (i := 0) rfl))
  refine Go.H X103 hx (hb hby d8_32) rfl (r := (3 : Int32)) rfl (l' := #[.val (.ref a), .val (.int 3), .val (.ref b), .val (.int 2), .val (.int 3), .val (.int 2), .val (.int c2)]) rfl (q := 35) rfl ?_
  refine Go.H X103 hx (hb hby d8_35) rfl (r := (3 : Int32)) rfl (l' := #[.val (.ref a), .val (.int 3), .val (.ref b), .val (.int 3), .val (.int 3), .val (.int 2), .val (.int c2)]) rfl (q := 38) rfl ?_
  refine Go.H X103 hx (hb hby d8_38) rfl (r := (3 : Int32)) rfl (l' := #[.val (.ref a), .val (.int 3), .val (.ref b), .val (.int 3), .val (.int 3), .val (.int 3), .val (.int c2)]) rfl (q := 41) rfl ?_
  refine Go.D X103 hx (hb hby d8_41) (q := 3) (by decide) (by decide) ?_
  refine Go.o X103 hx (hb hby d8_3) rfl (q := 5) rfl ?_
  refine Go.o X103 hx (hb hby d8_5) rfl (q := 7) rfl ?_
  refine Go.y X103 hx (hb hby d8_7) (by decide) (q := 44) (by decide) (by decide) ?_
  refine Go.o X103 hx (hb hby d8_44) rfl (q := 46) rfl ?_
  exact Go.M X103 hx hret hlk (Or.inl rfl) rfl (hb hby d8_46) e103 (by decide) (by decide) ⟨rfl, N103, KP, V103⟩
def Q_ccmq3 (Z : State) (a : Addr) (ka : ClassId) (c0 c1 c2 : Int32) (h0 : Heap) (vR : Option Value) (hR : Heap) (LR : List Loc) : Prop := ∃ b : Addr, ∃ kb : ClassId, vR = some (.ref b) ∧ Fr Z.heap.size LR ∧ Keep h0 hR [] ∧ h0.size ≤ b ∧ Arv Z hR b kb .byte (3 : Int32) [(.int (c0.toInt8.toInt32)), (.int (c1.toInt8.toInt32)), (.int (c2.toInt8.toInt32))] (.int 0)
theorem ccmq3 (l : Launch) (Z : State) (a0 : Array Value) (hw : ∀ d ∈ tables_1, d.before a0 Z = true) (a : Addr) (ka : ClassId) (c0 c1 c2 : Int32) (h0 : Heap) (O0 : Ext Z.heap h0) (Va : Arv Z h0 a ka .char (3 : Int32) [(.int c0), (.int c1), (.int c2)] (.int 0)) (hc0 : ¬ ((255 : Int32) < c0)) (hc1 : ¬ ((255 : Int32) < c1)) (hc2 : ¬ ((255 : Int32) < c2)) :
    Ctr l Z h0 (⟨xS5, "compress", "([CII)[B"⟩ : MethodName) k7 6 (some (.array .byte)) [] ({ frames := 1, cells := 1, slots := 3, locals := 18 } : Room) #[(.ref a), (.int 0), (.int 3)] (Q_ccmq3 Z a ka c0 c1 c2 h0) := by
  refine enter (plainFor_of_name pn2) ?_
  intro pp ee ss mm below meth cc s₁ hx hby hml hZ hown hnm hret hlk X0 e0 hs0
  replace hown : ss.vm.findClass xS5 = some mm.cls := hown
  refine Go.r (congrArg s₁.setTop (ef_ccmq3 mm a)) ?_
  have N0 := Fr.nil Z.heap.size
  have KP := Keep.refl h0 []
  show Go pp ee below _ (s₁.setTop (mkF mm 0 #[.val (.ref a), .val (.int 0), .val (.int 3), .unset, .unset, .unset] []))
  refine Go.f X0 hx (hb hby d7_0) rfl (q := 1) rfl ?_
  refine Go.ji X0 hx hZ (hb hby d7_1) (wd23 hw) e0 (by decide) (cap := 3) (by decide) (by decide) (by decide) (by decide) (ad := "[B") rfl (q := 3) rfl ?_
  intro b101 T101 h101 k101 X101 e101 q101 E101 V101 B101
  have ne_a_b101 : a ≠ b101 := ne_new Va.lt (Nat.le_of_eq q101)
  have g_b101 : Z.heap.size ≤ b101 := Nat.le_trans O0.1 (Nat.le_of_eq q101)
  have z_b101 : h0.size ≤ b101 := Nat.le_trans KP.1 (Nat.le_of_eq q101)
  replace Va := Va.ext E101
  have OE101 := ext_trans O0 E101
  replace KP := KP.ext E101
  replace V101 : Arv Z h101 b101 k101 .byte (3 : Int32) [(.int 0), (.int 0), (.int 0)] (.int 0) := V101.pad (pad_rep [] (.int 0) 3)
  refine Go.jf X101 hx (hb hby d7_3) rfl (l' := #[.val (.ref a), .val (.int 0), .val (.int 3), .val (.ref b101), .unset, .unset]) rfl (q := 4) rfl ?_
  refine Go.g X101 hx (hb hby d7_4) rfl rfl (q := 5) rfl ?_
  refine Go.f X101 hx (hb hby d7_5) rfl (q := 6) rfl ?_
  refine Go.g X101 hx (hb hby d7_6) rfl rfl (q := 7) rfl ?_
  refine Go.i X101 hx (hb hby d7_7) (r := (0 : Int32)) rfl (q := 8) rfl ?_
  refine Go.f X101 hx (hb hby d7_8) rfl (q := 9) rfl ?_
  refine Go.A X101 hx hZ hown (wd38 hw) (wd39 hw) (wd36 hw) (wd40 hw) (by decide) (ccmp3 l Z a0 hw a b101 (ka) (k101) c0 c1 c2 h101 OE101 Va V101 g_b101 ne_a_b101 hc0 hc1 hc2) e101 (by rw [hml]; rfl) (hb hby d7_9) (argsL := [(.ref a), (.int 0), (.ref b101), (.int 0), (.int 3)]) (rest := []) (lenOf pd1 rfl) rfl rfl (W := 0) (Nat.le_refl _) (by decide) ?_
  intro v102 T102 L102 X102 hQ102
  obtain ⟨h102, e102⟩ : ∃ z, T102.heap = z := ⟨_, rfl⟩
  rw [e102] at hQ102
  obtain ⟨rfl, N102q, K102, P102_0⟩ := hQ102
  have N102 := Fr.app N0 N102q
  replace Va := Va.keep K102 (ninS ne_a_b101 nin0)
  replace B101 := B101.keep K102
  have OK102 := ext_keep OE101 K102 (allS g_b101 all0)
  replace KP := KP.trans K102 (allS (Or.inr z_b101) all0)
  refine Go.G X102 hx (hb hby d7_12) (l' := #[.val (.ref a), .val (.int 0), .val (.int 3), .val (.ref b101), .val (.int 3), .unset]) rfl (q := 14) rfl ?_
  refine Go.o X102 hx (hb hby d7_14) rfl (q := 16) rfl ?_
  refine Go.f X102 hx (hb hby d7_16) rfl (q := 17) rfl ?_
  refine Go.y X102 hx (hb hby d7_17) (by decide) (q := 57) (by decide) (by decide) ?_
  refine Go.g X102 hx (hb hby d7_57) rfl rfl (q := 58) rfl ?_
  exact Go.U X102 hx hret hlk rfl rfl (hb hby d7_58) e102 (by decide) (by decide) ⟨b101, k101, rfl, N102, KP, z_b101, P102_0⟩
def Q_ccal3 (Z : State) (b : Addr) (kb : ClassId) (vs : List Value) (h0 : Heap) (vR : Option Value) (hR : Heap) (LR : List Loc) : Prop := vR = some (.int 0) ∧ Fr Z.heap.size LR ∧ hR = h0
theorem ccal3 (l : Launch) (Z : State) (a0 : Array Value) (hw : ∀ d ∈ tables_1, d.before a0 Z = true) (b : Addr) (kb : ClassId) (vs : List Value) (h0 : Heap) (O0 : Ext Z.heap h0) (Vb : Arv Z h0 b kb .byte (3 : Int32) vs (.int 0)) :
    Ctr l Z h0 (⟨xS5, "coderFromArrayLen", "([BI)B"⟩ : MethodName) k9 2 (some .byte) [] ({ frames := 0, cells := 0, slots := 0, locals := 0 } : Room) #[(.ref b), (.int 3)] (Q_ccal3 Z b kb vs h0) := by
  refine enter (plainFor_of_name pn2) ?_
  intro pp ee ss mm below meth cc s₁ hx hby hml hZ hown hnm hret hlk X0 e0 hs0
  replace hown : ss.vm.findClass xS5 = some mm.cls := hown
  refine Go.r (congrArg s₁.setTop (ef_ccal3 mm b)) ?_
  have N0 := Fr.nil Z.heap.size
  show Go pp ee below _ (s₁.setTop (mkF mm 0 #[.val (.ref b), .val (.int 3)] []))
  refine Go.f X0 hx (hb hby d9_0) rfl (q := 1) rfl ?_
  refine Go.g X0 hx (hb hby d9_1) rfl rfl (q := 2) rfl ?_
  refine Go.J X0 hx hZ e0 Vb (hb hby d9_2) ?_
  refine Go.ja X0 hx (hb hby d9_3) (r := (0 : Int32)) rfl (q := 4) rfl ?_
  refine Go.E X0 hx (hb hby d9_4) (r := (31 : Int32)) rfl (q := 6) rfl ?_
  refine Go.jA X0 hx (hb hby d9_6) (r := (0 : Int32)) rfl (q := 7) rfl ?_
  refine Go.je X0 hx (hb hby d9_7) (r := (0 : Int32)) rfl (q := 8) rfl ?_
  exact Go.M X0 hx hret hlk (by simp) rfl (hb hby d9_8) e0 (by decide) (by decide) ⟨rfl, N0, rfl⟩
def Q_csi3 (Z : State) (o a : Addr) (ka : ClassId) (c0 c1 c2 cs : Int32) (h0 : Heap) (vR : Option Value) (hR : Heap) (LR : List Loc) : Prop := ∃ b : Addr, ∃ kb : ClassId, vR = none ∧ Fr Z.heap.size LR ∧ Keep h0 hR [o] ∧ h0.size ≤ b ∧ Fld Z hR o xS0 "value" "[B" (.ref b) ∧ Fld Z hR o xS0 "coder" "B" (.int 0) ∧ Arv Z hR b kb .byte (3 : Int32) [(.int (c0.toInt8.toInt32)), (.int (c1.toInt8.toInt32)), (.int (c2.toInt8.toInt32))] (.int 0)
theorem csi3 (l : Launch) (Z : State) (a0 : Array Value) (hw : ∀ d ∈ tables_1, d.before a0 Z = true) (o a : Addr) (ka : ClassId) (c0 c1 c2 cs : Int32) (h0 : Heap) (O0 : Ext Z.heap h0) (Eo : Exa Z h0 o xS0) (Fv : Fld Z h0 o xS0 "value" "[B" .null) (Fc : Fld Z h0 o xS0 "coder" "B" (.int 0)) (g_o : Z.heap.size ≤ o) (Va : Arv Z h0 a ka .char (3 : Int32) [(.int c0), (.int c1), (.int c2)] (.int 0)) (SCS : Sta Z Z.heap xS0 xS3 "Z" (.int cs)) (hcs : ¬ (cs = (0 : Int32))) (hc0 : ¬ ((255 : Int32) < c0)) (hc1 : ¬ ((255 : Int32) < c1)) (hc2 : ¬ ((255 : Int32) < c2)) :
    Ctr l Z h0 (⟨xS0, "<init>", "([CIILjava/lang/Void;)V"⟩ : MethodName) k4 6 none [] ({ frames := 2, cells := 1, slots := 3, locals := 35 } : Room) #[(.ref o), (.ref a), (.int 0), (.int 3), .null] (Q_csi3 Z o a ka c0 c1 c2 cs h0) := by
  refine enter (plainFor_of_name pn1) ?_
  intro pp ee ss mm below meth cc s₁ hx hby hml hZ hown hnm hret hlk X0 e0 hs0
  replace hown : ss.vm.findClass xS0 = some mm.cls := hown
  refine Go.r (congrArg s₁.setTop (ef_csi3 mm o a)) ?_
  have N0 := Fr.nil Z.heap.size
  have KP := Keep.refl h0 [o]
  show Go pp ee below _ (s₁.setTop (mkF mm 0 #[.val (.ref o), .val (.ref a), .val (.int 0), .val (.int 3), .val .null, .unset] []))
  refine Go.g X0 hx (hb hby d4_0) rfl rfl (q := 1) rfl ?_
  refine Go.jq X0 hx hZ hown (wd19 hw) (wd20 hw) (wd21 hw) e0 (by rw [hml]; rfl) (hb hby d4_1) (by decide) (W := 0) (by exact Nat.le_refl _) (by decide) (q := 4) rfl ?_
  intro T101 X101 e101
  refine Go.f X101 hx (hb hby d4_4) rfl (q := 5) rfl ?_
  refine Go.F X101 hx (hb hby d4_5) (by decide) (q := 27) (by decide) (by decide) ?_
  refine Go.jj X101 hx hZ hown (host := "") (Or.inl (wd33 hw)) Via.refl e101 (SCS.ext O0) (hb hby d4_27) (q := 30) rfl ?_
  intro T102 X102 e102
  refine Go.L X102 hx (hb hby d4_30) (Jvm.Free.XT.i0_eq_f hcs) (q := 33) rfl ?_
  refine Go.g X102 hx (hb hby d4_33) rfl rfl (q := 34) rfl ?_
  refine Go.f X102 hx (hb hby d4_34) rfl (q := 35) rfl ?_
  refine Go.f X102 hx (hb hby d4_35) rfl (q := 36) rfl ?_
  refine Go.A X102 hx hZ hown (wd34 hw) (wd35 hw) (wd36 hw) (wd37 hw) (by decide) (ccmq3 l Z a0 hw a (ka) c0 c1 c2 h0 O0 Va hc0 hc1 hc2) e102 (by rw [hml]; rfl) (hb hby d4_36) (argsL := [(.ref a), (.int 0), (.int 3)]) (rest := []) (lenOf pd2 rfl) rfl rfl (W := 0) (Nat.le_refl _) (by decide) ?_
  intro v103 T103 L103 X103 hQ103
  obtain ⟨h103, e103⟩ : ∃ z, T103.heap = z := ⟨_, rfl⟩
  rw [e103] at hQ103
  obtain ⟨b_103, kb_103, rfl, N103q, K103, fr103_b, P103_0⟩ := hQ103
  have N103 := Fr.app N0 N103q
  have ne_o_b_103 : o ≠ b_103 := ne_new Eo.lt fr103_b
  have ne_a_b_103 : a ≠ b_103 := ne_new Va.lt fr103_b
  have g_b_103 : Z.heap.size ≤ b_103 := Nat.le_trans O0.1 fr103_b
  have z_b_103 : h0.size ≤ b_103 := Nat.le_trans KP.1 fr103_b
  replace Eo := Eo.keep K103
  replace Fv := Fv.keep K103 nin0
  replace Fc := Fc.keep K103 nin0
  replace Va := Va.keep K103 nin0
  have OK103 := ext_keep O0 K103 all0
  replace KP := KP.trans K103 all0
  refine Go.V X103 hx (hb hby d4_39) rfl (l' := #[.val (.ref o), .val (.ref a), .val (.int 0), .val (.int 3), .val .null, .val (.ref b_103)]) rfl (q := 41) rfl ?_
  refine Go.g X103 hx (hb hby d4_41) rfl rfl (q := 42) rfl ?_
  refine Go.w X103 hx (hb hby d4_42) rfl rfl (q := 44) rfl ?_
  refine Go.f X103 hx (hb hby d4_44) rfl (q := 45) rfl ?_
  refine Go.A X103 hx hZ hown (wd41 hw) (wd42 hw) (wd36 hw) (wd43 hw) (by decide) (ccal3 l Z a0 hw b_103 (kb_103) ([(.int (c0.toInt8.toInt32)), (.int (c1.toInt8.toInt32)), (.int (c2.toInt8.toInt32))]) h103 OK103 P103_0) e103 (by rw [hml]; rfl) (hb hby d4_45) (argsL := [(.ref b_103), (.int 3)]) (rest := [(.ref o)]) (lenOf pd3 rfl) rfl rfl (W := 1) (Nat.le_refl _) (by decide) ?_
  intro v104 T104 L104 X104 hQ104
  obtain ⟨rfl, N104q, e104⟩ := hQ104
  have N104 := Fr.app N103 N104q
  refine Go.jc X104 hx hZ hown (host := "") (Or.inl (wd29 hw)) Via.refl e104 Fc Eo (Or.inr ⟨(wd25 hw), rfl, hnm⟩) (wd6 hw) (ty := .byte) (by decide) rfl rfl (hb hby d4_48) (q := 51) rfl ?_
  intro T105 h105 X105 e105 W105 F105
  have N105 := Fr.snoc X105 N104 g_o
  replace Eo := Eo.wr W105
  replace Fv := Fv.other W105 (Or.inr (slot_ne (Or.inr (wd24 hw)) (Or.inr (wd25 hw)) (by decide) (t := (.array .byte)) (t' := .byte) (by decide) (by decide)))
  replace P103_0 := P103_0.other W105 (Ne.symm ne_o_b_103)
  have OW105 := ext_wr OK103 W105 g_o
  replace KP := KP.wr W105 (Or.inl (List.mem_of_getElem? (i := 0) rfl))
  refine Go.g X105 hx (hb hby d4_51) rfl rfl (q := 52) rfl ?_
  refine Go.w X105 hx (hb hby d4_52) rfl rfl (q := 54) rfl ?_
  refine Go.jc X105 hx hZ hown (host := "") (Or.inl (wd28 hw)) Via.refl e105 Fv Eo (Or.inr ⟨(wd24 hw), rfl, hnm⟩) (wd6 hw) (ty := (.array .byte)) (by decide) rfl rfl (hb hby d4_54) (q := 57) rfl ?_
  intro T106 h106 X106 e106 W106 F106
  have N106 := Fr.snoc X106 N105 g_o
  replace Eo := Eo.wr W106
  replace P103_0 := P103_0.other W106 (Ne.symm ne_o_b_103)
  replace F105 := F105.other W106 (Or.inr (slot_ne (Or.inr (wd25 hw)) (Or.inr (wd24 hw)) (by decide) (t := .byte) (t' := (.array .byte)) (by decide) (by decide)))
  have OW106 := ext_wr OW105 W106 g_o
  replace KP := KP.wr W106 (Or.inl (List.mem_of_getElem? (i := 0) rfl))
  exact Go.jb X106 hx hret hlk (hb hby d4_57) e106 (by decide) (by decide) ⟨b_103, kb_103, rfl, N106, KP, z_b_103, F106, F105, P103_0⟩
def Q_csj3 (Z : State) (o a : Addr) (ka : ClassId) (c0 c1 c2 cs : Int32) (h0 : Heap) (vR : Option Value) (hR : Heap) (LR : List Loc) : Prop := ∃ b : Addr, ∃ kb : ClassId, vR = none ∧ Fr Z.heap.size LR ∧ Keep h0 hR [o] ∧ h0.size ≤ b ∧ Fld Z hR o xS0 "value" "[B" (.ref b) ∧ Fld Z hR o xS0 "coder" "B" (.int 0) ∧ Arv Z hR b kb .byte (3 : Int32) [(.int (c0.toInt8.toInt32)), (.int (c1.toInt8.toInt32)), (.int (c2.toInt8.toInt32))] (.int 0)
theorem csj3 (l : Launch) (Z : State) (a0 : Array Value) (hw : ∀ d ∈ tables_1, d.before a0 Z = true) (o a : Addr) (ka : ClassId) (c0 c1 c2 cs : Int32) (h0 : Heap) (O0 : Ext Z.heap h0) (Eo : Exa Z h0 o xS0) (Fv : Fld Z h0 o xS0 "value" "[B" .null) (Fc : Fld Z h0 o xS0 "coder" "B" (.int 0)) (g_o : Z.heap.size ≤ o) (Va : Arv Z h0 a ka .char (3 : Int32) [(.int c0), (.int c1), (.int c2)] (.int 0)) (SCS : Sta Z Z.heap xS0 xS3 "Z" (.int cs)) (hcs : ¬ (cs = (0 : Int32))) (hc0 : ¬ ((255 : Int32) < c0)) (hc1 : ¬ ((255 : Int32) < c1)) (hc2 : ¬ ((255 : Int32) < c2)) :
    Ctr l Z h0 (⟨xS0, "<init>", "([C)V"⟩ : MethodName) k3 2 none [] ({ frames := 3, cells := 1, slots := 3, locals := 52 } : Room) #[(.ref o), (.ref a)] (Q_csj3 Z o a ka c0 c1 c2 cs h0) := by
  refine enter (plainFor_of_name pn1) ?_
  intro pp ee ss mm below meth cc s₁ hx hby hml hZ hown hnm hret hlk X0 e0 hs0
  replace hown : ss.vm.findClass xS0 = some mm.cls := hown
  refine Go.r (congrArg s₁.setTop (ef_csj3 mm o a)) ?_
  have N0 := Fr.nil Z.heap.size
  have KP := Keep.refl h0 [o]
  show Go pp ee below _ (s₁.setTop (mkF mm 0 #[.val (.ref o), .val (.ref a)] []))
  refine Go.g X0 hx (hb hby d3_0) rfl rfl (q := 1) rfl ?_
  refine Go.g X0 hx (hb hby d3_1) rfl rfl (q := 2) rfl ?_
  refine Go.i X0 hx (hb hby d3_2) (r := (0 : Int32)) rfl (q := 3) rfl ?_
  refine Go.g X0 hx (hb hby d3_3) rfl rfl (q := 4) rfl ?_
  refine Go.J X0 hx hZ e0 Va (hb hby d3_4) ?_
  refine Go.jy X0 hx (hb hby d3_5) (q := 6) rfl ?_
  refine Go.Y X0 hx hZ hown rfl (wd15 hw) (wd16 hw) (wd7 hw) (wd18 hw) (by decide) (csi3 l Z a0 hw o a (ka) c0 c1 c2 cs h0 O0 Eo Fv Fc g_o Va SCS hcs hc0 hc1 hc2) e0 (by rw [hml]; rfl) (hb hby d3_6) (argsL := [(.ref a), (.int 0), (.int 3), .null]) (rest := []) (lenOf pd0 rfl) rfl rfl (W := 0) (Nat.le_refl _) (by decide) ?_
  intro v101 T101 L101 X101 hQ101
  obtain ⟨h101, e101⟩ : ∃ z, T101.heap = z := ⟨_, rfl⟩
  rw [e101] at hQ101
  obtain ⟨b_101, kb_101, rfl, N101q, K101, fr101_b, P101_0, P101_1, P101_2⟩ := hQ101
  have N101 := Fr.app N0 N101q
  have ne_o_b_101 : o ≠ b_101 := ne_new Eo.lt fr101_b
  have ne_a_b_101 : a ≠ b_101 := ne_new Va.lt fr101_b
  have g_b_101 : Z.heap.size ≤ b_101 := Nat.le_trans O0.1 fr101_b
  have z_b_101 : h0.size ≤ b_101 := Nat.le_trans KP.1 fr101_b
  replace Eo := Eo.keep K101
  have OK101 := ext_keep O0 K101 (allS g_o all0)
  replace KP := KP.trans K101 (allS (Or.inl (List.mem_of_getElem? (i := 0) rfl)) all0)
  exact Go.jb X101 hx hret hlk (hb hby d3_9) e101 (by decide) (by decide) ⟨b_101, kb_101, rfl, N101, KP, z_b_101, P101_0, P101_1, P101_2⟩
def Q_ccmp4 (Z : State) (a b : Addr) (ka kb : ClassId) (c0 c1 c2 c3 : Int32) (h0 : Heap) (vR : Option Value) (hR : Heap) (LR : List Loc) : Prop := vR = some (.int 4) ∧ Fr Z.heap.size LR ∧ Keep h0 hR [b] ∧ Arv Z hR b kb .byte (4 : Int32) [(.int (c0.toInt8.toInt32)), (.int (c1.toInt8.toInt32)), (.int (c2.toInt8.toInt32)), (.int (c3.toInt8.toInt32))] (.int 0)
theorem ccmp4 (l : Launch) (Z : State) (a0 : Array Value) (hw : ∀ d ∈ tables_1, d.before a0 Z = true) (a b : Addr) (ka kb : ClassId) (c0 c1 c2 c3 : Int32) (h0 : Heap) (O0 : Ext Z.heap h0) (Va : Arv Z h0 a ka .char (4 : Int32) [(.int c0), (.int c1), (.int c2), (.int c3)] (.int 0)) (Vb : Arv Z h0 b kb .byte (4 : Int32) [(.int 0), (.int 0), (.int 0), (.int 0)] (.int 0)) (g_b : Z.heap.size ≤ b) (nab : a ≠ b) (hc0 : ¬ ((255 : Int32) < c0)) (hc1 : ¬ ((255 : Int32) < c1)) (hc2 : ¬ ((255 : Int32) < c2)) (hc3 : ¬ ((255 : Int32) < c3)) :
    Ctr l Z h0 (⟨xS5, "compress", "([CI[BII)I"⟩ : MethodName) k8 7 (some .int) [] ({ frames := 0, cells := 0, slots := 0, locals := 0 } : Room) #[(.ref a), (.int 0), (.ref b), (.int 0), (.int 4)] (Q_ccmp4 Z a b ka kb c0 c1 c2 c3 h0) := by
  refine enter (plainFor_of_name pn2) ?_
  intro pp ee ss mm below meth cc s₁ hx hby hml hZ hown hnm hret hlk X0 e0 hs0
  replace hown : ss.vm.findClass xS5 = some mm.cls := hown
  refine Go.r (congrArg s₁.setTop (ef_ccmp4 mm a b)) ?_
  have N0 := Fr.nil Z.heap.size
  have KP := Keep.refl h0 [b]
  show Go pp ee below _ (s₁.setTop (mkF mm 0 #[.val (.ref a), .val (.int 0), .val (.ref b), .val (.int 0), .val (.int 4), .unset, .unset] []))
  refine Go.i X0 hx (hb hby d8_0) (r := (0 : Int32)) rfl (q := 1) rfl ?_
  refine Go.G X0 hx (hb hby d8_1) (l' := #[.val (.ref a), .val (.int 0), .val (.ref b), .val (.int 0), .val (.int 4), .val (.int 0), .unset]) rfl (q := 3) rfl ?_
  refine Go.o X0 hx (hb hby d8_3) rfl (q := 5) rfl ?_
  refine Go.o X0 hx (hb hby d8_5) rfl (q := 7) rfl ?_
  refine Go.t X0 hx (hb hby d8_7) (by decide) (q := 10) rfl ?_
  refine Go.g X0 hx (hb hby d8_10) rfl rfl (q := 11) rfl ?_
  refine Go.f X0 hx (hb hby d8_11) rfl (q := 12) rfl ?_
  refine Go.jn X0 hx hZ e0 Va ⟨by decide, by decide⟩ (v := (.int c0)) rfl (hb hby d8_12) ?_
  refine Go.G X0 hx (hb hby d8_13) (l' := #[.val (.ref a), .val (.int 0), .val (.ref b), .val (.int 0), .val (.int 4), .val (.int 0), .val (.int c0)]) rfl (q := 15) rfl ?_
  refine Go.o X0 hx (hb hby d8_15) rfl (q := 17) rfl ?_
  refine Go.X X0 hx (hb hby d8_17) (r := (255 : Int32)) rfl (q := 20) rfl ?_
  refine Go.y X0 hx (hb hby d8_20) (Jvm.Free.XT.ii_le_t hc0) (q := 26) (by decide) (by decide) ?_
  refine Go.g X0 hx (hb hby d8_26) rfl rfl (q := 27) rfl ?_
  refine Go.f X0 hx (hb hby d8_27) rfl (q := 28) rfl ?_
  refine Go.o X0 hx (hb hby d8_28) rfl (q := 30) rfl ?_
  refine Go.je X0 hx (hb hby d8_30) rfl (q := 31) rfl ?_
  refine Go.jl X0 hx hZ e0 Vb ⟨by decide, by decide⟩ (i := 0) rfl (Nat.le_of_ble_eq_true rfl) (hb hby d8_31) ?_
  intro T101 h101 X101 e101 W101 V101
  rw [bb c0] at V101
  replace V101 : Arv Z h101 b kb .byte (4 : Int32) [(.int (c0.toInt8.toInt32)), (.int 0), (.int 0), (.int 0)] (.int 0) := V101
  have N101 := Fr.snoc X101 N0 g_b
  replace Va := Va.other W101 nab
  have OW101 := ext_wr O0 W101 g_b
  replace KP := KP.wr W101 (Or.inl (List.mem_of_getElem? (i := 0) rfl))
  refine Go.H X101 hx (hb hby d8_32) rfl (r := (1 : Int32)) rfl (l' := #[.val (.ref a), .val (.int 1), .val (.ref b), .val (.int 0), .val (.int 4), .val (.int 0), .val (.int c0)]) rfl (q := 35) rfl ?_
  refine Go.H X101 hx (hb hby d8_35) rfl (r := (1 : Int32)) rfl (l' := #[.val (.ref a), .val (.int 1), .val (.ref b), .val (.int 1), .val (.int 4), .val (.int 0), .val (.int c0)]) rfl (q := 38) rfl ?_
  refine Go.H X101 hx (hb hby d8_38) rfl (r := (1 : Int32)) rfl (l' := #[.val (.ref a), .val (.int 1), .val (.ref b), .val (.int 1), .val (.int 4), .val (.int 1), .val (.int c0)]) rfl (q := 41) rfl ?_
  refine Go.D X101 hx (hb hby d8_41) (q := 3) (by decide) (by decide) ?_
  refine Go.o X101 hx (hb hby d8_3) rfl (q := 5) rfl ?_
  refine Go.o X101 hx (hb hby d8_5) rfl (q := 7) rfl ?_
  refine Go.t X101 hx (hb hby d8_7) (by decide) (q := 10) rfl ?_
  refine Go.g X101 hx (hb hby d8_10) rfl rfl (q := 11) rfl ?_
  refine Go.f X101 hx (hb hby d8_11) rfl (q := 12) rfl ?_
  refine Go.jn X101 hx hZ e101 Va ⟨by decide, by decide⟩ (v := (.int c1)) rfl (hb hby d8_12) ?_
  refine Go.G X101 hx (hb hby d8_13) (l' := #[.val (.ref a), .val (.int 1), .val (.ref b), .val (.int 1), .val (.int 4), .val (.int 1), .val (.int c1)]) rfl (q := 15) rfl ?_
  refine Go.o X101 hx (hb hby d8_15) rfl (q := 17) rfl ?_
  refine Go.X X101 hx (hb hby d8_17) (r := (255 : Int32)) rfl (q := 20) rfl ?_
  refine Go.y X101 hx (hb hby d8_20) (Jvm.Free.XT.ii_le_t hc1) (q := 26) (by decide) (by decide) ?_
  refine Go.g X101 hx (hb hby d8_26) rfl rfl (q := 27) rfl ?_
  refine Go.f X101 hx (hb hby d8_27) rfl (q := 28) rfl ?_
  refine Go.o X101 hx (hb hby d8_28) rfl (q := 30) rfl ?_
  refine Go.je X101 hx (hb hby d8_30) rfl (q := 31) rfl ?_
  refine Go.jl X101 hx hZ e101 V101 ⟨by decide, by decide⟩ (i := 1) rfl (Nat.le_of_ble_eq_true rfl) (hb hby d8_31) ?_
  intro T102 h102 X102 e102 W102 V102
  rw [bb c1] at V102
  replace V102 : Arv Z h102 b kb .byte (4 : Int32) [(.int (c0.toInt8.toInt32)), (.int (c1.toInt8.toInt32)), (.int 0), (.int 0)] (.int 0) := V102
  have N102 := Fr.snoc X102 N101 g_b
  replace Va := Va.other W102 nab
  have OW102 := ext_wr OW101 W102 g_b
  replace KP := KP.wr W102 (Or.inl (List.mem_of_getElem? (i := 0) rfl))
  refine Go.H X102 hx (hb hby d8_32) rfl (r := (2 : Int32)) rfl (l' := #[.val (.ref a), .val (.int 2), .val (.ref b), .val (.int 1), .val (.int 4), .val (.int 1), .val (.int c1)]) rfl (q := 35) rfl ?_
  refine Go.H X102 hx (hb hby d8_35) rfl (r := (2 : Int32)) rfl (l' := #[.val (.ref a), .val (.int 2), .val (.ref b), .val (.int 2), .val (.int 4), .val (.int 1), .val (.int c1)]) rfl (q := 38) rfl ?_
  refine Go.H X102 hx (hb hby d8_38) rfl (r := (2 : Int32)) rfl (l' := #[.val (.ref a), .val (.int 2), .val (.ref b), .val (.int 2), .val (.int 4), .val (.int 2), .val (.int c1)]) rfl (q := 41) rfl ?_
  refine Go.D X102 hx (hb hby d8_41) (q := 3) (by decide) (by decide) ?_
  refine Go.o X102 hx (hb hby d8_3) rfl (q := 5) rfl ?_
  refine Go.o X102 hx (hb hby d8_5) rfl (q := 7) rfl ?_
  refine Go.t X102 hx (hb hby d8_7) (by decide) (q := 10) rfl ?_
  refine Go.g X102 hx (hb hby d8_10) rfl rfl (q := 11) rfl ?_
  refine Go.f X102 hx (hb hby d8_11) rfl (q := 12) rfl ?_
  refine Go.jn X102 hx hZ e102 Va ⟨by decide, by decide⟩ (v := (.int c2)) rfl (hb hby d8_12) ?_
  refine Go.G X102 hx (hb hby d8_13) (l' := #[.val (.ref a), .val (.int 2), .val (.ref b), .val (.int 2), .val (.int 4), .val (.int 2), .val (.int c2)]) rfl (q := 15) rfl ?_
  refine Go.o X102 hx (hb hby d8_15) rfl (q := 17) rfl ?_
  refine Go.X X102 hx (hb hby d8_17) (r := (255 : Int32)) rfl (q := 20) rfl ?_
  refine Go.y X102 hx (hb hby d8_20) (Jvm.Free.XT.ii_le_t hc2) (q := 26) (by decide) (by decide) ?_
  refine Go.g X102 hx (hb hby d8_26) rfl rfl (q := 27) rfl ?_
  refine Go.f X102 hx (hb hby d8_27) rfl (q := 28) rfl ?_
  refine Go.o X102 hx (hb hby d8_28) rfl (q := 30) rfl ?_
  refine Go.je X102 hx (hb hby d8_30) rfl (q := 31) rfl ?_
  refine Go.jl X102 hx hZ e102 V102 ⟨by decide, by decide⟩ (i := 2) rfl (Nat.le_of_ble_eq_true rfl) (hb hby d8_31) ?_
  intro T103 h103 X103 e103 W103 V103
  rw [bb c2] at V103
  replace V103 : Arv Z h103 b kb .byte (4 : Int32) [(.int (c0.toInt8.toInt32)), (.int (c1.toInt8.toInt32)), (.int (c2.toInt8.toInt32)), (.int 0)] (.int 0) := V103
  have N103 := Fr.snoc X103 N102 g_b
  replace Va := Va.other W103 nab
  have OW103 := ext_wr OW102 W103 g_b
  replace KP := KP.wr W103 (Or.inl (List.mem_of_getElem? (i := 0) rfl))
  refine Go.H X103 hx (hb hby d8_32) rfl (r := (3 : Int32)) rfl (l' := #[.val (.ref a), .val (.int 3), .val (.ref b), .val (.int 2), .val (.int 4), .val (.int 2), .val (.int c2)]) rfl (q := 35) rfl ?_
  refine Go.H X103 hx (hb hby d8_35) rfl (r := (3 : Int32)) rfl (l' := #[.val (.ref a), .val (.int 3), .val (.ref b), .val (.int 3), .val (.int 4), .val (.int 2), .val (.int c2)]) rfl (q := 38) rfl ?_
  refine Go.H X103 hx (hb hby d8_38) rfl (r := (3 : Int32)) rfl (l' := #[.val (.ref a), .val (.int 3), .val (.ref b), .val (.int 3), .val (.int 4), .val (.int 3), .val (.int c2)]) rfl (q := 41) rfl ?_
  refine Go.D X103 hx (hb hby d8_41) (q := 3) (by decide) (by decide) ?_
  refine Go.o X103 hx (hb hby d8_3) rfl (q := 5) rfl ?_
  refine Go.o X103 hx (hb hby d8_5) rfl (q := 7) rfl ?_
  refine Go.t X103 hx (hb hby d8_7) (by decide) (q := 10) rfl ?_
  refine Go.g X103 hx (hb hby d8_10) rfl rfl (q := 11) rfl ?_
  refine Go.f X103 hx (hb hby d8_11) rfl (q := 12) rfl ?_
  refine Go.jn X103 hx hZ e103 Va ⟨by decide, by decide⟩ (v := (.int c3)) rfl (hb hby d8_12) ?_
  refine Go.G X103 hx (hb hby d8_13) (l' := #[.val (.ref a), .val (.int 3), .val (.ref b), .val (.int 3), .val (.int 4), .val (.int 3), .val (.int c3)]) rfl (q := 15) rfl ?_
  refine Go.o X103 hx (hb hby d8_15) rfl (q := 17) rfl ?_
  refine Go.X X103 hx (hb hby d8_17) (r := (255 : Int32)) rfl (q := 20) rfl ?_
  refine Go.y X103 hx (hb hby d8_20) (Jvm.Free.XT.ii_le_t hc3) (q := 26) (by decide) (by decide) ?_
  refine Go.g X103 hx (hb hby d8_26) rfl rfl (q := 27) rfl ?_
  refine Go.f X103 hx (hb hby d8_27) rfl (q := 28) rfl ?_
  refine Go.o X103 hx (hb hby d8_28) rfl (q := 30) rfl ?_
  refine Go.je X103 hx (hb hby d8_30) rfl (q := 31) rfl ?_
  refine Go.jl X103 hx hZ e103 V103 ⟨by decide, by decide⟩ (i := 3) rfl (Nat.le_of_ble_eq_true rfl) (hb hby d8_31) ?_
  intro T104 h104 X104 e104 W104 V104
  rw [bb c3] at V104
  replace V104 : Arv Z h104 b kb .byte (4 : Int32) [(.int (c0.toInt8.toInt32)), (.int (c1.toInt8.toInt32)), (.int (c2.toInt8.toInt32)), (.int (c3.toInt8.toInt32))] (.int 0) := V104
  have N104 := Fr.snoc X104 N103 g_b
  replace Va := Va.other W104 nab
  have OW104 := ext_wr OW103 W104 g_b
  replace KP := KP.wr W104 (Or.inl (List.mem_of_getElem? (i := 0) rfl))
  refine Go.H X104 hx (hb hby d8_32) rfl (r := (4 : Int32)) rfl (l' := #[.val (.ref a), .val (.int 4), .val (.ref b), .val (.int 3), .val (.int 4), .val (.int 3), .val (.int c3)]) rfl (q := 35) rfl ?_
  refine Go.H X104 hx (hb hby d8_35) rfl (r := (4 : Int32)) rfl (l' := #[.val (.ref a), .val (.int 4), .val (.ref b), .val (.int 4), .val (.int 4), .val (.int 3), .val (.int c3)]) rfl (q := 38) rfl ?_
  refine Go.H X104 hx (hb hby d8_38) rfl (r := (4 : Int32)) rfl (l' := #[.val (.ref a), .val (.int 4), .val (.ref b), .val (.int 4), .val (.int 4), .val (.int 4), .val (.int c3)]) rfl (q := 41) rfl ?_
  refine Go.D X104 hx (hb hby d8_41) (q := 3) (by decide) (by decide) ?_
  refine Go.o X104 hx (hb hby d8_3) rfl (q := 5) rfl ?_
  refine Go.o X104 hx (hb hby d8_5) rfl (q := 7) rfl ?_
  refine Go.y X104 hx (hb hby d8_7) (by decide) (q := 44) (by decide) (by decide) ?_
  refine Go.o X104 hx (hb hby d8_44) rfl (q := 46) rfl ?_
  exact Go.M X104 hx hret hlk (Or.inl rfl) rfl (hb hby d8_46) e104 (by decide) (by decide) ⟨rfl, N104, KP, V104⟩
def Q_ccmq4 (Z : State) (a : Addr) (ka : ClassId) (c0 c1 c2 c3 : Int32) (h0 : Heap) (vR : Option Value) (hR : Heap) (LR : List Loc) : Prop := ∃ b : Addr, ∃ kb : ClassId, vR = some (.ref b) ∧ Fr Z.heap.size LR ∧ Keep h0 hR [] ∧ h0.size ≤ b ∧ Arv Z hR b kb .byte (4 : Int32) [(.int (c0.toInt8.toInt32)), (.int (c1.toInt8.toInt32)), (.int (c2.toInt8.toInt32)), (.int (c3.toInt8.toInt32))] (.int 0)
theorem ccmq4 (l : Launch) (Z : State) (a0 : Array Value) (hw : ∀ d ∈ tables_1, d.before a0 Z = true) (a : Addr) (ka : ClassId) (c0 c1 c2 c3 : Int32) (h0 : Heap) (O0 : Ext Z.heap h0) (Va : Arv Z h0 a ka .char (4 : Int32) [(.int c0), (.int c1), (.int c2), (.int c3)] (.int 0)) (hc0 : ¬ ((255 : Int32) < c0)) (hc1 : ¬ ((255 : Int32) < c1)) (hc2 : ¬ ((255 : Int32) < c2)) (hc3 : ¬ ((255 : Int32) < c3)) :
    Ctr l Z h0 (⟨xS5, "compress", "([CII)[B"⟩ : MethodName) k7 6 (some (.array .byte)) [] ({ frames := 1, cells := 1, slots := 4, locals := 18 } : Room) #[(.ref a), (.int 0), (.int 4)] (Q_ccmq4 Z a ka c0 c1 c2 c3 h0) := by
  refine enter (plainFor_of_name pn2) ?_
  intro pp ee ss mm below meth cc s₁ hx hby hml hZ hown hnm hret hlk X0 e0 hs0
  replace hown : ss.vm.findClass xS5 = some mm.cls := hown
  refine Go.r (congrArg s₁.setTop (ef_ccmq4 mm a)) ?_
  have N0 := Fr.nil Z.heap.size
  have KP := Keep.refl h0 []
  show Go pp ee below _ (s₁.setTop (mkF mm 0 #[.val (.ref a), .val (.int 0), .val (.int 4), .unset, .unset, .unset] []))
  refine Go.f X0 hx (hb hby d7_0) rfl (q := 1) rfl ?_
  refine Go.ji X0 hx hZ (hb hby d7_1) (wd23 hw) e0 (by decide) (cap := 4) (by decide) (by decide) (by decide) (by decide) (ad := "[B") rfl (q := 3) rfl ?_
  intro b101 T101 h101 k101 X101 e101 q101 E101 V101 B101
  have ne_a_b101 : a ≠ b101 := ne_new Va.lt (Nat.le_of_eq q101)
  have g_b101 : Z.heap.size ≤ b101 := Nat.le_trans O0.1 (Nat.le_of_eq q101)
  have z_b101 : h0.size ≤ b101 := Nat.le_trans KP.1 (Nat.le_of_eq q101)
  replace Va := Va.ext E101
  have OE101 := ext_trans O0 E101
  replace KP := KP.ext E101
  replace V101 : Arv Z h101 b101 k101 .byte (4 : Int32) [(.int 0), (.int 0), (.int 0), (.int 0)] (.int 0) := V101.pad (pad_rep [] (.int 0) 4)
  refine Go.jf X101 hx (hb hby d7_3) rfl (l' := #[.val (.ref a), .val (.int 0), .val (.int 4), .val (.ref b101), .unset, .unset]) rfl (q := 4) rfl ?_
  refine Go.g X101 hx (hb hby d7_4) rfl rfl (q := 5) rfl ?_
  refine Go.f X101 hx (hb hby d7_5) rfl (q := 6) rfl ?_
  refine Go.g X101 hx (hb hby d7_6) rfl rfl (q := 7) rfl ?_
  refine Go.i X101 hx (hb hby d7_7) (r := (0 : Int32)) rfl (q := 8) rfl ?_
  refine Go.f X101 hx (hb hby d7_8) rfl (q := 9) rfl ?_
  refine Go.A X101 hx hZ hown (wd38 hw) (wd39 hw) (wd36 hw) (wd40 hw) (by decide) (ccmp4 l Z a0 hw a b101 (ka) (k101) c0 c1 c2 c3 h101 OE101 Va V101 g_b101 ne_a_b101 hc0 hc1 hc2 hc3) e101 (by rw [hml]; rfl) (hb hby d7_9) (argsL := [(.ref a), (.int 0), (.ref b101), (.int 0), (.int 4)]) (rest := []) (lenOf pd1 rfl) rfl rfl (W := 0) (Nat.le_refl _) (by decide) ?_
  intro v102 T102 L102 X102 hQ102
  obtain ⟨h102, e102⟩ : ∃ z, T102.heap = z := ⟨_, rfl⟩
  rw [e102] at hQ102
  obtain ⟨rfl, N102q, K102, P102_0⟩ := hQ102
  have N102 := Fr.app N0 N102q
  replace Va := Va.keep K102 (ninS ne_a_b101 nin0)
  replace B101 := B101.keep K102
  have OK102 := ext_keep OE101 K102 (allS g_b101 all0)
  replace KP := KP.trans K102 (allS (Or.inr z_b101) all0)
  refine Go.G X102 hx (hb hby d7_12) (l' := #[.val (.ref a), .val (.int 0), .val (.int 4), .val (.ref b101), .val (.int 4), .unset]) rfl (q := 14) rfl ?_
  refine Go.o X102 hx (hb hby d7_14) rfl (q := 16) rfl ?_
  refine Go.f X102 hx (hb hby d7_16) rfl (q := 17) rfl ?_
  refine Go.y X102 hx (hb hby d7_17) (by decide) (q := 57) (by decide) (by decide) ?_
  refine Go.g X102 hx (hb hby d7_57) rfl rfl (q := 58) rfl ?_
  exact Go.U X102 hx hret hlk rfl rfl (hb hby d7_58) e102 (by decide) (by decide) ⟨b101, k101, rfl, N102, KP, z_b101, P102_0⟩
def Q_ccal4 (Z : State) (b : Addr) (kb : ClassId) (vs : List Value) (h0 : Heap) (vR : Option Value) (hR : Heap) (LR : List Loc) : Prop := vR = some (.int 0) ∧ Fr Z.heap.size LR ∧ hR = h0
theorem ccal4 (l : Launch) (Z : State) (a0 : Array Value) (hw : ∀ d ∈ tables_1, d.before a0 Z = true) (b : Addr) (kb : ClassId) (vs : List Value) (h0 : Heap) (O0 : Ext Z.heap h0) (Vb : Arv Z h0 b kb .byte (4 : Int32) vs (.int 0)) :
    Ctr l Z h0 (⟨xS5, "coderFromArrayLen", "([BI)B"⟩ : MethodName) k9 2 (some .byte) [] ({ frames := 0, cells := 0, slots := 0, locals := 0 } : Room) #[(.ref b), (.int 4)] (Q_ccal4 Z b kb vs h0) := by
  refine enter (plainFor_of_name pn2) ?_
  intro pp ee ss mm below meth cc s₁ hx hby hml hZ hown hnm hret hlk X0 e0 hs0
  replace hown : ss.vm.findClass xS5 = some mm.cls := hown
  refine Go.r (congrArg s₁.setTop (ef_ccal4 mm b)) ?_
  have N0 := Fr.nil Z.heap.size
  show Go pp ee below _ (s₁.setTop (mkF mm 0 #[.val (.ref b), .val (.int 4)] []))
  refine Go.f X0 hx (hb hby d9_0) rfl (q := 1) rfl ?_
  refine Go.g X0 hx (hb hby d9_1) rfl rfl (q := 2) rfl ?_
  refine Go.J X0 hx hZ e0 Vb (hb hby d9_2) ?_
  refine Go.ja X0 hx (hb hby d9_3) (r := (0 : Int32)) rfl (q := 4) rfl ?_
  refine Go.E X0 hx (hb hby d9_4) (r := (31 : Int32)) rfl (q := 6) rfl ?_
  refine Go.jA X0 hx (hb hby d9_6) (r := (0 : Int32)) rfl (q := 7) rfl ?_
  refine Go.je X0 hx (hb hby d9_7) (r := (0 : Int32)) rfl (q := 8) rfl ?_
  exact Go.M X0 hx hret hlk (by simp) rfl (hb hby d9_8) e0 (by decide) (by decide) ⟨rfl, N0, rfl⟩
def Q_csi4 (Z : State) (o a : Addr) (ka : ClassId) (c0 c1 c2 c3 cs : Int32) (h0 : Heap) (vR : Option Value) (hR : Heap) (LR : List Loc) : Prop := ∃ b : Addr, ∃ kb : ClassId, vR = none ∧ Fr Z.heap.size LR ∧ Keep h0 hR [o] ∧ h0.size ≤ b ∧ Fld Z hR o xS0 "value" "[B" (.ref b) ∧ Fld Z hR o xS0 "coder" "B" (.int 0) ∧ Arv Z hR b kb .byte (4 : Int32) [(.int (c0.toInt8.toInt32)), (.int (c1.toInt8.toInt32)), (.int (c2.toInt8.toInt32)), (.int (c3.toInt8.toInt32))] (.int 0)
theorem csi4 (l : Launch) (Z : State) (a0 : Array Value) (hw : ∀ d ∈ tables_1, d.before a0 Z = true) (o a : Addr) (ka : ClassId) (c0 c1 c2 c3 cs : Int32) (h0 : Heap) (O0 : Ext Z.heap h0) (Eo : Exa Z h0 o xS0) (Fv : Fld Z h0 o xS0 "value" "[B" .null) (Fc : Fld Z h0 o xS0 "coder" "B" (.int 0)) (g_o : Z.heap.size ≤ o) (Va : Arv Z h0 a ka .char (4 : Int32) [(.int c0), (.int c1), (.int c2), (.int c3)] (.int 0)) (SCS : Sta Z Z.heap xS0 xS3 "Z" (.int cs)) (hcs : ¬ (cs = (0 : Int32))) (hc0 : ¬ ((255 : Int32) < c0)) (hc1 : ¬ ((255 : Int32) < c1)) (hc2 : ¬ ((255 : Int32) < c2)) (hc3 : ¬ ((255 : Int32) < c3)) :
    Ctr l Z h0 (⟨xS0, "<init>", "([CIILjava/lang/Void;)V"⟩ : MethodName) k4 6 none [] ({ frames := 2, cells := 1, slots := 4, locals := 35 } : Room) #[(.ref o), (.ref a), (.int 0), (.int 4), .null] (Q_csi4 Z o a ka c0 c1 c2 c3 cs h0) := by
  refine enter (plainFor_of_name pn1) ?_
  intro pp ee ss mm below meth cc s₁ hx hby hml hZ hown hnm hret hlk X0 e0 hs0
  replace hown : ss.vm.findClass xS0 = some mm.cls := hown
  refine Go.r (congrArg s₁.setTop (ef_csi4 mm o a)) ?_
  have N0 := Fr.nil Z.heap.size
  have KP := Keep.refl h0 [o]
  show Go pp ee below _ (s₁.setTop (mkF mm 0 #[.val (.ref o), .val (.ref a), .val (.int 0), .val (.int 4), .val .null, .unset] []))
  refine Go.g X0 hx (hb hby d4_0) rfl rfl (q := 1) rfl ?_
  refine Go.jq X0 hx hZ hown (wd19 hw) (wd20 hw) (wd21 hw) e0 (by rw [hml]; rfl) (hb hby d4_1) (by decide) (W := 0) (by exact Nat.le_refl _) (by decide) (q := 4) rfl ?_
  intro T101 X101 e101
  refine Go.f X101 hx (hb hby d4_4) rfl (q := 5) rfl ?_
  refine Go.F X101 hx (hb hby d4_5) (by decide) (q := 27) (by decide) (by decide) ?_
  refine Go.jj X101 hx hZ hown (host := "") (Or.inl (wd33 hw)) Via.refl e101 (SCS.ext O0) (hb hby d4_27) (q := 30) rfl ?_
  intro T102 X102 e102
  refine Go.L X102 hx (hb hby d4_30) (Jvm.Free.XT.i0_eq_f hcs) (q := 33) rfl ?_
  refine Go.g X102 hx (hb hby d4_33) rfl rfl (q := 34) rfl ?_
  refine Go.f X102 hx (hb hby d4_34) rfl (q := 35) rfl ?_
  refine Go.f X102 hx (hb hby d4_35) rfl (q := 36) rfl ?_
  refine Go.A X102 hx hZ hown (wd34 hw) (wd35 hw) (wd36 hw) (wd37 hw) (by decide) (ccmq4 l Z a0 hw a (ka) c0 c1 c2 c3 h0 O0 Va hc0 hc1 hc2 hc3) e102 (by rw [hml]; rfl) (hb hby d4_36) (argsL := [(.ref a), (.int 0), (.int 4)]) (rest := []) (lenOf pd2 rfl) rfl rfl (W := 0) (Nat.le_refl _) (by decide) ?_
  intro v103 T103 L103 X103 hQ103
  obtain ⟨h103, e103⟩ : ∃ z, T103.heap = z := ⟨_, rfl⟩
  rw [e103] at hQ103
  obtain ⟨b_103, kb_103, rfl, N103q, K103, fr103_b, P103_0⟩ := hQ103
  have N103 := Fr.app N0 N103q
  have ne_o_b_103 : o ≠ b_103 := ne_new Eo.lt fr103_b
  have ne_a_b_103 : a ≠ b_103 := ne_new Va.lt fr103_b
  have g_b_103 : Z.heap.size ≤ b_103 := Nat.le_trans O0.1 fr103_b
  have z_b_103 : h0.size ≤ b_103 := Nat.le_trans KP.1 fr103_b
  replace Eo := Eo.keep K103
  replace Fv := Fv.keep K103 nin0
  replace Fc := Fc.keep K103 nin0
  replace Va := Va.keep K103 nin0
  have OK103 := ext_keep O0 K103 all0
  replace KP := KP.trans K103 all0
  refine Go.V X103 hx (hb hby d4_39) rfl (l' := #[.val (.ref o), .val (.ref a), .val (.int 0), .val (.int 4), .val .null, .val (.ref b_103)]) rfl (q := 41) rfl ?_
  refine Go.g X103 hx (hb hby d4_41) rfl rfl (q := 42) rfl ?_
  refine Go.w X103 hx (hb hby d4_42) rfl rfl (q := 44) rfl ?_
  refine Go.f X103 hx (hb hby d4_44) rfl (q := 45) rfl ?_
  refine Go.A X103 hx hZ hown (wd41 hw) (wd42 hw) (wd36 hw) (wd43 hw) (by decide) (ccal4 l Z a0 hw b_103 (kb_103) ([(.int (c0.toInt8.toInt32)), (.int (c1.toInt8.toInt32)), (.int (c2.toInt8.toInt32)), (.int (c3.toInt8.toInt32))]) h103 OK103 P103_0) e103 (by rw [hml]; rfl) (hb hby d4_45) (argsL := [(.ref b_103), (.int 4)]) (rest := [(.ref o)]) (lenOf pd3 rfl) rfl rfl (W := 1) (Nat.le_refl _) (by decide) ?_
  intro v104 T104 L104 X104 hQ104
  obtain ⟨rfl, N104q, e104⟩ := hQ104
  have N104 := Fr.app N103 N104q
  refine Go.jc X104 hx hZ hown (host := "") (Or.inl (wd29 hw)) Via.refl e104 Fc Eo (Or.inr ⟨(wd25 hw), rfl, hnm⟩) (wd6 hw) (ty := .byte) (by decide) rfl rfl (hb hby d4_48) (q := 51) rfl ?_
  intro T105 h105 X105 e105 W105 F105
  have N105 := Fr.snoc X105 N104 g_o
  replace Eo := Eo.wr W105
  replace Fv := Fv.other W105 (Or.inr (slot_ne (Or.inr (wd24 hw)) (Or.inr (wd25 hw)) (by decide) (t := (.array .byte)) (t' := .byte) (by decide) (by decide)))
  replace P103_0 := P103_0.other W105 (Ne.symm ne_o_b_103)
  have OW105 := ext_wr OK103 W105 g_o
  replace KP := KP.wr W105 (Or.inl (List.mem_of_getElem? (i := 0) rfl))
  refine Go.g X105 hx (hb hby d4_51) rfl rfl (q := 52) rfl ?_
  refine Go.w X105 hx (hb hby d4_52) rfl rfl (q := 54) rfl ?_
  refine Go.jc X105 hx hZ hown (host := "") (Or.inl (wd28 hw)) Via.refl e105 Fv Eo (Or.inr ⟨(wd24 hw), rfl, hnm⟩) (wd6 hw) (ty := (.array .byte)) (by decide) rfl rfl (hb hby d4_54) (q := 57) rfl ?_
  intro T106 h106 X106 e106 W106 F106
  have N106 := Fr.snoc X106 N105 g_o
  replace Eo := Eo.wr W106
  replace P103_0 := P103_0.other W106 (Ne.symm ne_o_b_103)
  replace F105 := F105.other W106 (Or.inr (slot_ne (Or.inr (wd25 hw)) (Or.inr (wd24 hw)) (by decide) (t := .byte) (t' := (.array .byte)) (by decide) (by decide)))
  have OW106 := ext_wr OW105 W106 g_o
  replace KP := KP.wr W106 (Or.inl (List.mem_of_getElem? (i := 0) rfl))
  exact Go.jb X106 hx hret hlk (hb hby d4_57) e106 (by decide) (by decide) ⟨b_103, kb_103, rfl, N106, KP, z_b_103, F106, F105, P103_0⟩
def Q_csj4 (Z : State) (o a : Addr) (ka : ClassId) (c0 c1 c2 c3 cs : Int32) (h0 : Heap) (vR : Option Value) (hR : Heap) (LR : List Loc) : Prop := ∃ b : Addr, ∃ kb : ClassId, vR = none ∧ Fr Z.heap.size LR ∧ Keep h0 hR [o] ∧ h0.size ≤ b ∧ Fld Z hR o xS0 "value" "[B" (.ref b) ∧ Fld Z hR o xS0 "coder" "B" (.int 0) ∧ Arv Z hR b kb .byte (4 : Int32) [(.int (c0.toInt8.toInt32)), (.int (c1.toInt8.toInt32)), (.int (c2.toInt8.toInt32)), (.int (c3.toInt8.toInt32))] (.int 0)
theorem csj4 (l : Launch) (Z : State) (a0 : Array Value) (hw : ∀ d ∈ tables_1, d.before a0 Z = true) (o a : Addr) (ka : ClassId) (c0 c1 c2 c3 cs : Int32) (h0 : Heap) (O0 : Ext Z.heap h0) (Eo : Exa Z h0 o xS0) (Fv : Fld Z h0 o xS0 "value" "[B" .null) (Fc : Fld Z h0 o xS0 "coder" "B" (.int 0)) (g_o : Z.heap.size ≤ o) (Va : Arv Z h0 a ka .char (4 : Int32) [(.int c0), (.int c1), (.int c2), (.int c3)] (.int 0)) (SCS : Sta Z Z.heap xS0 xS3 "Z" (.int cs)) (hcs : ¬ (cs = (0 : Int32))) (hc0 : ¬ ((255 : Int32) < c0)) (hc1 : ¬ ((255 : Int32) < c1)) (hc2 : ¬ ((255 : Int32) < c2)) (hc3 : ¬ ((255 : Int32) < c3)) :
    Ctr l Z h0 (⟨xS0, "<init>", "([C)V"⟩ : MethodName) k3 2 none [] ({ frames := 3, cells := 1, slots := 4, locals := 52 } : Room) #[(.ref o), (.ref a)] (Q_csj4 Z o a ka c0 c1 c2 c3 cs h0) := by
  refine enter (plainFor_of_name pn1) ?_
  intro pp ee ss mm below meth cc s₁ hx hby hml hZ hown hnm hret hlk X0 e0 hs0
  replace hown : ss.vm.findClass xS0 = some mm.cls := hown
  refine Go.r (congrArg s₁.setTop (ef_csj4 mm o a)) ?_
  have N0 := Fr.nil Z.heap.size
  have KP := Keep.refl h0 [o]
  show Go pp ee below _ (s₁.setTop (mkF mm 0 #[.val (.ref o), .val (.ref a)] []))
  refine Go.g X0 hx (hb hby d3_0) rfl rfl (q := 1) rfl ?_
  refine Go.g X0 hx (hb hby d3_1) rfl rfl (q := 2) rfl ?_
  refine Go.i X0 hx (hb hby d3_2) (r := (0 : Int32)) rfl (q := 3) rfl ?_
  refine Go.g X0 hx (hb hby d3_3) rfl rfl (q := 4) rfl ?_
  refine Go.J X0 hx hZ e0 Va (hb hby d3_4) ?_
  refine Go.jy X0 hx (hb hby d3_5) (q := 6) rfl ?_
  refine Go.Y X0 hx hZ hown rfl (wd15 hw) (wd16 hw) (wd7 hw) (wd18 hw) (by decide) (csi4 l Z a0 hw o a (ka) c0 c1 c2 c3 cs h0 O0 Eo Fv Fc g_o Va SCS hcs hc0 hc1 hc2 hc3) e0 (by rw [hml]; rfl) (hb hby d3_6) (argsL := [(.ref a), (.int 0), (.int 4), .null]) (rest := []) (lenOf pd0 rfl) rfl rfl (W := 0) (Nat.le_refl _) (by decide) ?_
  intro v101 T101 L101 X101 hQ101
  obtain ⟨h101, e101⟩ : ∃ z, T101.heap = z := ⟨_, rfl⟩
  rw [e101] at hQ101
  obtain ⟨b_101, kb_101, rfl, N101q, K101, fr101_b, P101_0, P101_1, P101_2⟩ := hQ101
  have N101 := Fr.app N0 N101q
  have ne_o_b_101 : o ≠ b_101 := ne_new Eo.lt fr101_b
  have ne_a_b_101 : a ≠ b_101 := ne_new Va.lt fr101_b
  have g_b_101 : Z.heap.size ≤ b_101 := Nat.le_trans O0.1 fr101_b
  have z_b_101 : h0.size ≤ b_101 := Nat.le_trans KP.1 fr101_b
  replace Eo := Eo.keep K101
  have OK101 := ext_keep O0 K101 (allS g_o all0)
  replace KP := KP.trans K101 (allS (Or.inl (List.mem_of_getElem? (i := 0) rfl)) all0)
  exact Go.jb X101 hx hret hlk (hb hby d3_9) e101 (by decide) (by decide) ⟨b_101, kb_101, rfl, N101, KP, z_b_101, P101_0, P101_1, P101_2⟩
def Q_ccmp5 (Z : State) (a b : Addr) (ka kb : ClassId) (c0 c1 c2 c3 c4 : Int32) (h0 : Heap) (vR : Option Value) (hR : Heap) (LR : List Loc) : Prop := vR = some (.int 5) ∧ Fr Z.heap.size LR ∧ Keep h0 hR [b] ∧ Arv Z hR b kb .byte (5 : Int32) [(.int (c0.toInt8.toInt32)), (.int (c1.toInt8.toInt32)), (.int (c2.toInt8.toInt32)), (.int (c3.toInt8.toInt32)), (.int (c4.toInt8.toInt32))] (.int 0)
theorem ccmp5 (l : Launch) (Z : State) (a0 : Array Value) (hw : ∀ d ∈ tables_1, d.before a0 Z = true) (a b : Addr) (ka kb : ClassId) (c0 c1 c2 c3 c4 : Int32) (h0 : Heap) (O0 : Ext Z.heap h0) (Va : Arv Z h0 a ka .char (5 : Int32) [(.int c0), (.int c1), (.int c2), (.int c3), (.int c4)] (.int 0)) (Vb : Arv Z h0 b kb .byte (5 : Int32) [(.int 0), (.int 0), (.int 0), (.int 0), (.int 0)] (.int 0)) (g_b : Z.heap.size ≤ b) (nab : a ≠ b) (hc0 : ¬ ((255 : Int32) < c0)) (hc1 : ¬ ((255 : Int32) < c1)) (hc2 : ¬ ((255 : Int32) < c2)) (hc3 : ¬ ((255 : Int32) < c3)) (hc4 : ¬ ((255 : Int32) < c4)) :
    Ctr l Z h0 (⟨xS5, "compress", "([CI[BII)I"⟩ : MethodName) k8 7 (some .int) [] ({ frames := 0, cells := 0, slots := 0, locals := 0 } : Room) #[(.ref a), (.int 0), (.ref b), (.int 0), (.int 5)] (Q_ccmp5 Z a b ka kb c0 c1 c2 c3 c4 h0) := by
  refine enter (plainFor_of_name pn2) ?_
  intro pp ee ss mm below meth cc s₁ hx hby hml hZ hown hnm hret hlk X0 e0 hs0
  replace hown : ss.vm.findClass xS5 = some mm.cls := hown
  refine Go.r (congrArg s₁.setTop (ef_ccmp5 mm a b)) ?_
  have N0 := Fr.nil Z.heap.size
  have KP := Keep.refl h0 [b]
  show Go pp ee below _ (s₁.setTop (mkF mm 0 #[.val (.ref a), .val (.int 0), .val (.ref b), .val (.int 0), .val (.int 5), .unset, .unset] []))
  refine Go.i X0 hx (hb hby d8_0) (r := (0 : Int32)) rfl (q := 1) rfl ?_
  refine Go.G X0 hx (hb hby d8_1) (l' := #[.val (.ref a), .val (.int 0), .val (.ref b), .val (.int 0), .val (.int 5), .val (.int 0), .unset]) rfl (q := 3) rfl ?_
  refine Go.o X0 hx (hb hby d8_3) rfl (q := 5) rfl ?_
  refine Go.o X0 hx (hb hby d8_5) rfl (q := 7) rfl ?_
  refine Go.t X0 hx (hb hby d8_7) (by decide) (q := 10) rfl ?_
  refine Go.g X0 hx (hb hby d8_10) rfl rfl (q := 11) rfl ?_
  refine Go.f X0 hx (hb hby d8_11) rfl (q := 12) rfl ?_
  refine Go.jn X0 hx hZ e0 Va ⟨by decide, by decide⟩ (v := (.int c0)) rfl (hb hby d8_12) ?_
  refine Go.G X0 hx (hb hby d8_13) (l' := #[.val (.ref a), .val (.int 0), .val (.ref b), .val (.int 0), .val (.int 5), .val (.int 0), .val (.int c0)]) rfl (q := 15) rfl ?_
  refine Go.o X0 hx (hb hby d8_15) rfl (q := 17) rfl ?_
  refine Go.X X0 hx (hb hby d8_17) (r := (255 : Int32)) rfl (q := 20) rfl ?_
  refine Go.y X0 hx (hb hby d8_20) (Jvm.Free.XT.ii_le_t hc0) (q := 26) (by decide) (by decide) ?_
  refine Go.g X0 hx (hb hby d8_26) rfl rfl (q := 27) rfl ?_
  refine Go.f X0 hx (hb hby d8_27) rfl (q := 28) rfl ?_
  refine Go.o X0 hx (hb hby d8_28) rfl (q := 30) rfl ?_
  refine Go.je X0 hx (hb hby d8_30) rfl (q := 31) rfl ?_
  refine Go.jl X0 hx hZ e0 Vb ⟨by decide, by decide⟩ (i := 0) rfl (Nat.le_of_ble_eq_true rfl) (hb hby d8_31) ?_
  intro T101 h101 X101 e101 W101 V101
  rw [bb c0] at V101
  replace V101 : Arv Z h101 b kb .byte (5 : Int32) [(.int (c0.toInt8.toInt32)), (.int 0), (.int 0), (.int 0), (.int 0)] (.int 0) := V101
  have N101 := Fr.snoc X101 N0 g_b
  replace Va := Va.other W101 nab
  have OW101 := ext_wr O0 W101 g_b
  replace KP := KP.wr W101 (Or.inl (List.mem_of_getElem? (i := 0) rfl))
  refine Go.H X101 hx (hb hby d8_32) rfl (r := (1 : Int32)) rfl (l' := #[.val (.ref a), .val (.int 1), .val (.ref b), .val (.int 0), .val (.int 5), .val (.int 0), .val (.int c0)]) rfl (q := 35) rfl ?_
  refine Go.H X101 hx (hb hby d8_35) rfl (r := (1 : Int32)) rfl (l' := #[.val (.ref a), .val (.int 1), .val (.ref b), .val (.int 1), .val (.int 5), .val (.int 0), .val (.int c0)]) rfl (q := 38) rfl ?_
  refine Go.H X101 hx (hb hby d8_38) rfl (r := (1 : Int32)) rfl (l' := #[.val (.ref a), .val (.int 1), .val (.ref b), .val (.int 1), .val (.int 5), .val (.int 1), .val (.int c0)]) rfl (q := 41) rfl ?_
  refine Go.D X101 hx (hb hby d8_41) (q := 3) (by decide) (by decide) ?_
  refine Go.o X101 hx (hb hby d8_3) rfl (q := 5) rfl ?_
  refine Go.o X101 hx (hb hby d8_5) rfl (q := 7) rfl ?_
  refine Go.t X101 hx (hb hby d8_7) (by decide) (q := 10) rfl ?_
  refine Go.g X101 hx (hb hby d8_10) rfl rfl (q := 11) rfl ?_
  refine Go.f X101 hx (hb hby d8_11) rfl (q := 12) rfl ?_
  refine Go.jn X101 hx hZ e101 Va ⟨by decide, by decide⟩ (v := (.int c1)) rfl (hb hby d8_12) ?_
  refine Go.G X101 hx (hb hby d8_13) (l' := #[.val (.ref a), .val (.int 1), .val (.ref b), .val (.int 1), .val (.int 5), .val (.int 1), .val (.int c1)]) rfl (q := 15) rfl ?_
  refine Go.o X101 hx (hb hby d8_15) rfl (q := 17) rfl ?_
  refine Go.X X101 hx (hb hby d8_17) (r := (255 : Int32)) rfl (q := 20) rfl ?_
  refine Go.y X101 hx (hb hby d8_20) (Jvm.Free.XT.ii_le_t hc1) (q := 26) (by decide) (by decide) ?_
  refine Go.g X101 hx (hb hby d8_26) rfl rfl (q := 27) rfl ?_
  refine Go.f X101 hx (hb hby d8_27) rfl (q := 28) rfl ?_
  refine Go.o X101 hx (hb hby d8_28) rfl (q := 30) rfl ?_
  refine Go.je X101 hx (hb hby d8_30) rfl (q := 31) rfl ?_
  refine Go.jl X101 hx hZ e101 V101 ⟨by decide, by decide⟩ (i := 1) rfl (Nat.le_of_ble_eq_true rfl) (hb hby d8_31) ?_
  intro T102 h102 X102 e102 W102 V102
  rw [bb c1] at V102
  replace V102 : Arv Z h102 b kb .byte (5 : Int32) [(.int (c0.toInt8.toInt32)), (.int (c1.toInt8.toInt32)), (.int 0), (.int 0), (.int 0)] (.int 0) := V102
  have N102 := Fr.snoc X102 N101 g_b
  replace Va := Va.other W102 nab
  have OW102 := ext_wr OW101 W102 g_b
  replace KP := KP.wr W102 (Or.inl (List.mem_of_getElem? (i := 0) rfl))
  refine Go.H X102 hx (hb hby d8_32) rfl (r := (2 : Int32)) rfl (l' := #[.val (.ref a), .val (.int 2), .val (.ref b), .val (.int 1), .val (.int 5), .val (.int 1), .val (.int c1)]) rfl (q := 35) rfl ?_
  refine Go.H X102 hx (hb hby d8_35) rfl (r := (2 : Int32)) rfl (l' := #[.val (.ref a), .val (.int 2), .val (.ref b), .val (.int 2), .val (.int 5), .val (.int 1), .val (.int c1)]) rfl (q := 38) rfl ?_
  refine Go.H X102 hx (hb hby d8_38) rfl (r := (2 : Int32)) rfl (l' := #[.val (.ref a), .val (.int 2), .val (.ref b), .val (.int 2), .val (.int 5), .val (.int 2), .val (.int c1)]) rfl (q := 41) rfl ?_
  refine Go.D X102 hx (hb hby d8_41) (q := 3) (by decide) (by decide) ?_
  refine Go.o X102 hx (hb hby d8_3) rfl (q := 5) rfl ?_
  refine Go.o X102 hx (hb hby d8_5) rfl (q := 7) rfl ?_
  refine Go.t X102 hx (hb hby d8_7) (by decide) (q := 10) rfl ?_
  refine Go.g X102 hx (hb hby d8_10) rfl rfl (q := 11) rfl ?_
  refine Go.f X102 hx (hb hby d8_11) rfl (q := 12) rfl ?_
  refine Go.jn X102 hx hZ e102 Va ⟨by decide, by decide⟩ (v := (.int c2)) rfl (hb hby d8_12) ?_
  refine Go.G X102 hx (hb hby d8_13) (l' := #[.val (.ref a), .val (.int 2), .val (.ref b), .val (.int 2), .val (.int 5), .val (.int 2), .val (.int c2)]) rfl (q := 15) rfl ?_
  refine Go.o X102 hx (hb hby d8_15) rfl (q := 17) rfl ?_
  refine Go.X X102 hx (hb hby d8_17) (r := (255 : Int32)) rfl (q := 20) rfl ?_
  refine Go.y X102 hx (hb hby d8_20) (Jvm.Free.XT.ii_le_t hc2) (q := 26) (by decide) (by decide) ?_
  refine Go.g X102 hx (hb hby d8_26) rfl rfl (q := 27) rfl ?_
  refine Go.f X102 hx (hb hby d8_27) rfl (q := 28) rfl ?_
  refine Go.o X102 hx (hb hby d8_28) rfl (q := 30) rfl ?_
  refine Go.je X102 hx (hb hby d8_30) rfl (q := 31) rfl ?_
  refine Go.jl X102 hx hZ e102 V102 ⟨by decide, by decide⟩ (i := 2) rfl (Nat.le_of_ble_eq_true rfl) (hb hby d8_31) ?_
  intro T103 h103 X103 e103 W103 V103
  rw [bb c2] at V103
  replace V103 : Arv Z h103 b kb .byte (5 : Int32) [(.int (c0.toInt8.toInt32)), (.int (c1.toInt8.toInt32)), (.int (c2.toInt8.toInt32)), (.int 0), (.int 0)] (.int 0) := V103
  have N103 := Fr.snoc X103 N102 g_b
  replace Va := Va.other W103 nab
  have OW103 := ext_wr OW102 W103 g_b
  replace KP := KP.wr W103 (Or.inl (List.mem_of_getElem? (i := 0) rfl))
  refine Go.H X103 hx (hb hby d8_32) rfl (r := (3 : Int32)) rfl (l' := #[.val (.ref a), .val (.int 3), .val (.ref b), .val (.int 2), .val (.int 5), .val (.int 2), .val (.int c2)]) rfl (q := 35) rfl ?_
  refine Go.H X103 hx (hb hby d8_35) rfl (r := (3 : Int32)) rfl (l' := #[.val (.ref a), .val (.int 3), .val (.ref b), .val (.int 3), .val (.int 5), .val (.int 2), .val (.int c2)]) rfl (q := 38) rfl ?_
  refine Go.H X103 hx (hb hby d8_38) rfl (r := (3 : Int32)) rfl (l' := #[.val (.ref a), .val (.int 3), .val (.ref b), .val (.int 3), .val (.int 5), .val (.int 3), .val (.int c2)]) rfl (q := 41) rfl ?_
  refine Go.D X103 hx (hb hby d8_41) (q := 3) (by decide) (by decide) ?_
  refine Go.o X103 hx (hb hby d8_3) rfl (q := 5) rfl ?_
  refine Go.o X103 hx (hb hby d8_5) rfl (q := 7) rfl ?_
  refine Go.t X103 hx (hb hby d8_7) (by decide) (q := 10) rfl ?_
  refine Go.g X103 hx (hb hby d8_10) rfl rfl (q := 11) rfl ?_
  refine Go.f X103 hx (hb hby d8_11) rfl (q := 12) rfl ?_
  refine Go.jn X103 hx hZ e103 Va ⟨by decide, by decide⟩ (v := (.int c3)) rfl (hb hby d8_12) ?_
  refine Go.G X103 hx (hb hby d8_13) (l' := #[.val (.ref a), .val (.int 3), .val (.ref b), .val (.int 3), .val (.int 5), .val (.int 3), .val (.int c3)]) rfl (q := 15) rfl ?_
  refine Go.o X103 hx (hb hby d8_15) rfl (q := 17) rfl ?_
  refine Go.X X103 hx (hb hby d8_17) (r := (255 : Int32)) rfl (q := 20) rfl ?_
  refine Go.y X103 hx (hb hby d8_20) (Jvm.Free.XT.ii_le_t hc3) (q := 26) (by decide) (by decide) ?_
  refine Go.g X103 hx (hb hby d8_26) rfl rfl (q := 27) rfl ?_
  refine Go.f X103 hx (hb hby d8_27) rfl (q := 28) rfl ?_
  refine Go.o X103 hx (hb hby d8_28) rfl (q := 30) rfl ?_
  refine Go.je X103 hx (hb hby d8_30) rfl (q := 31) rfl ?_
  refine Go.jl X103 hx hZ e103 V103 ⟨by decide, by decide⟩ (i := 3) rfl (Nat.le_of_ble_eq_true rfl) (hb hby d8_31) ?_
  intro T104 h104 X104 e104 W104 V104
  rw [bb c3] at V104
  replace V104 : Arv Z h104 b kb .byte (5 : Int32) [(.int (c0.toInt8.toInt32)), (.int (c1.toInt8.toInt32)), (.int (c2.toInt8.toInt32)), (.int (c3.toInt8.toInt32)), (.int 0)] (.int 0) := V104
  have N104 := Fr.snoc X104 N103 g_b
  replace Va := Va.other W104 nab
  have OW104 := ext_wr OW103 W104 g_b
  replace KP := KP.wr W104 (Or.inl (List.mem_of_getElem? (i := 0) rfl))
  refine Go.H X104 hx (hb hby d8_32) rfl (r := (4 : Int32)) rfl (l' := #[.val (.ref a), .val (.int 4), .val (.ref b), .val (.int 3), .val (.int 5), .val (.int 3), .val (.int c3)]) rfl (q := 35) rfl ?_
  refine Go.H X104 hx (hb hby d8_35) rfl (r := (4 : Int32)) rfl (l' := #[.val (.ref a), .val (.int 4), .val (.ref b), .val (.int 4), .val (.int 5), .val (.int 3), .val (.int c3)]) rfl (q := 38) rfl ?_
  refine Go.H X104 hx (hb hby d8_38) rfl (r := (4 : Int32)) rfl (l' := #[.val (.ref a), .val (.int 4), .val (.ref b), .val (.int 4), .val (.int 5), .val (.int 4), .val (.int c3)]) rfl (q := 41) rfl ?_
  refine Go.D X104 hx (hb hby d8_41) (q := 3) (by decide) (by decide) ?_
  refine Go.o X104 hx (hb hby d8_3) rfl (q := 5) rfl ?_
  refine Go.o X104 hx (hb hby d8_5) rfl (q := 7) rfl ?_
  refine Go.t X104 hx (hb hby d8_7) (by decide) (q := 10) rfl ?_
  refine Go.g X104 hx (hb hby d8_10) rfl rfl (q := 11) rfl ?_
  refine Go.f X104 hx (hb hby d8_11) rfl (q := 12) rfl ?_
  refine Go.jn X104 hx hZ e104 Va ⟨by decide, by decide⟩ (v := (.int c4)) rfl (hb hby d8_12) ?_
  refine Go.G X104 hx (hb hby d8_13) (l' := #[.val (.ref a), .val (.int 4), .val (.ref b), .val (.int 4), .val (.int 5), .val (.int 4), .val (.int c4)]) rfl (q := 15) rfl ?_
  refine Go.o X104 hx (hb hby d8_15) rfl (q := 17) rfl ?_
  refine Go.X X104 hx (hb hby d8_17) (r := (255 : Int32)) rfl (q := 20) rfl ?_
  refine Go.y X104 hx (hb hby d8_20) (Jvm.Free.XT.ii_le_t hc4) (q := 26) (by decide) (by decide) ?_
  refine Go.g X104 hx (hb hby d8_26) rfl rfl (q := 27) rfl ?_
  refine Go.f X104 hx (hb hby d8_27) rfl (q := 28) rfl ?_
  refine Go.o X104 hx (hb hby d8_28) rfl (q := 30) rfl ?_
  refine Go.je X104 hx (hb hby d8_30) rfl (q := 31) rfl ?_
  refine Go.jl X104 hx hZ e104 V104 ⟨by decide, by decide⟩ (i := 4) rfl (Nat.le_of_ble_eq_true rfl) (hb hby d8_31) ?_
  intro T105 h105 X105 e105 W105 V105
  rw [bb c4] at V105
  replace V105 : Arv Z h105 b kb .byte (5 : Int32) [(.int (c0.toInt8.toInt32)), (.int (c1.toInt8.toInt32)), (.int (c2.toInt8.toInt32)), (.int (c3.toInt8.toInt32)), (.int (c4.toInt8.toInt32))] (.int 0) := V105
  have N105 := Fr.snoc X105 N104 g_b
  replace Va := Va.other W105 nab
  have OW105 := ext_wr OW104 W105 g_b
  replace KP := KP.wr W105 (Or.inl (List.mem_of_getElem? (i := 0) rfl))
  refine Go.H X105 hx (hb hby d8_32) rfl (r := (5 : Int32)) rfl (l' := #[.val (.ref a), .val (.int 5), .val (.ref b), .val (.int 4), .val (.int 5), .val (.int 4), .val (.int c4)]) rfl (q := 35) rfl ?_
  refine Go.H X105 hx (hb hby d8_35) rfl (r := (5 : Int32)) rfl (l' := #[.val (.ref a), .val (.int 5), .val (.ref b), .val (.int 5), .val (.int 5), .val (.int 4), .val (.int c4)]) rfl (q := 38) rfl ?_
  refine Go.H X105 hx (hb hby d8_38) rfl (r := (5 : Int32)) rfl (l' := #[.val (.ref a), .val (.int 5), .val (.ref b), .val (.int 5), .val (.int 5), .val (.int 5), .val (.int c4)]) rfl (q := 41) rfl ?_
  refine Go.D X105 hx (hb hby d8_41) (q := 3) (by decide) (by decide) ?_
  refine Go.o X105 hx (hb hby d8_3) rfl (q := 5) rfl ?_
  refine Go.o X105 hx (hb hby d8_5) rfl (q := 7) rfl ?_
  refine Go.y X105 hx (hb hby d8_7) (by decide) (q := 44) (by decide) (by decide) ?_
  refine Go.o X105 hx (hb hby d8_44) rfl (q := 46) rfl ?_
  exact Go.M X105 hx hret hlk (Or.inl rfl) rfl (hb hby d8_46) e105 (by decide) (by decide) ⟨rfl, N105, KP, V105⟩
def Q_ccmq5 (Z : State) (a : Addr) (ka : ClassId) (c0 c1 c2 c3 c4 : Int32) (h0 : Heap) (vR : Option Value) (hR : Heap) (LR : List Loc) : Prop := ∃ b : Addr, ∃ kb : ClassId, vR = some (.ref b) ∧ Fr Z.heap.size LR ∧ Keep h0 hR [] ∧ h0.size ≤ b ∧ Arv Z hR b kb .byte (5 : Int32) [(.int (c0.toInt8.toInt32)), (.int (c1.toInt8.toInt32)), (.int (c2.toInt8.toInt32)), (.int (c3.toInt8.toInt32)), (.int (c4.toInt8.toInt32))] (.int 0)
theorem ccmq5 (l : Launch) (Z : State) (a0 : Array Value) (hw : ∀ d ∈ tables_1, d.before a0 Z = true) (a : Addr) (ka : ClassId) (c0 c1 c2 c3 c4 : Int32) (h0 : Heap) (O0 : Ext Z.heap h0) (Va : Arv Z h0 a ka .char (5 : Int32) [(.int c0), (.int c1), (.int c2), (.int c3), (.int c4)] (.int 0)) (hc0 : ¬ ((255 : Int32) < c0)) (hc1 : ¬ ((255 : Int32) < c1)) (hc2 : ¬ ((255 : Int32) < c2)) (hc3 : ¬ ((255 : Int32) < c3)) (hc4 : ¬ ((255 : Int32) < c4)) :
    Ctr l Z h0 (⟨xS5, "compress", "([CII)[B"⟩ : MethodName) k7 6 (some (.array .byte)) [] ({ frames := 1, cells := 1, slots := 5, locals := 18 } : Room) #[(.ref a), (.int 0), (.int 5)] (Q_ccmq5 Z a ka c0 c1 c2 c3 c4 h0) := by
  refine enter (plainFor_of_name pn2) ?_
  intro pp ee ss mm below meth cc s₁ hx hby hml hZ hown hnm hret hlk X0 e0 hs0
  replace hown : ss.vm.findClass xS5 = some mm.cls := hown
  refine Go.r (congrArg s₁.setTop (ef_ccmq5 mm a)) ?_
  have N0 := Fr.nil Z.heap.size
  have KP := Keep.refl h0 []
  show Go pp ee below _ (s₁.setTop (mkF mm 0 #[.val (.ref a), .val (.int 0), .val (.int 5), .unset, .unset, .unset] []))
  refine Go.f X0 hx (hb hby d7_0) rfl (q := 1) rfl ?_
  refine Go.ji X0 hx hZ (hb hby d7_1) (wd23 hw) e0 (by decide) (cap := 5) (by decide) (by decide) (by decide) (by decide) (ad := "[B") rfl (q := 3) rfl ?_
  intro b101 T101 h101 k101 X101 e101 q101 E101 V101 B101
  have ne_a_b101 : a ≠ b101 := ne_new Va.lt (Nat.le_of_eq q101)
  have g_b101 : Z.heap.size ≤ b101 := Nat.le_trans O0.1 (Nat.le_of_eq q101)
  have z_b101 : h0.size ≤ b101 := Nat.le_trans KP.1 (Nat.le_of_eq q101)
  replace Va := Va.ext E101
  have OE101 := ext_trans O0 E101
  replace KP := KP.ext E101
  replace V101 : Arv Z h101 b101 k101 .byte (5 : Int32) [(.int 0), (.int 0), (.int 0), (.int 0), (.int 0)] (.int 0) := V101.pad (pad_rep [] (.int 0) 5)
  refine Go.jf X101 hx (hb hby d7_3) rfl (l' := #[.val (.ref a), .val (.int 0), .val (.int 5), .val (.ref b101), .unset, .unset]) rfl (q := 4) rfl ?_
  refine Go.g X101 hx (hb hby d7_4) rfl rfl (q := 5) rfl ?_
  refine Go.f X101 hx (hb hby d7_5) rfl (q := 6) rfl ?_
  refine Go.g X101 hx (hb hby d7_6) rfl rfl (q := 7) rfl ?_
  refine Go.i X101 hx (hb hby d7_7) (r := (0 : Int32)) rfl (q := 8) rfl ?_
  refine Go.f X101 hx (hb hby d7_8) rfl (q := 9) rfl ?_
  refine Go.A X101 hx hZ hown (wd38 hw) (wd39 hw) (wd36 hw) (wd40 hw) (by decide) (ccmp5 l Z a0 hw a b101 (ka) (k101) c0 c1 c2 c3 c4 h101 OE101 Va V101 g_b101 ne_a_b101 hc0 hc1 hc2 hc3 hc4) e101 (by rw [hml]; rfl) (hb hby d7_9) (argsL := [(.ref a), (.int 0), (.ref b101), (.int 0), (.int 5)]) (rest := []) (lenOf pd1 rfl) rfl rfl (W := 0) (Nat.le_refl _) (by decide) ?_
  intro v102 T102 L102 X102 hQ102
  obtain ⟨h102, e102⟩ : ∃ z, T102.heap = z := ⟨_, rfl⟩
  rw [e102] at hQ102
  obtain ⟨rfl, N102q, K102, P102_0⟩ := hQ102
  have N102 := Fr.app N0 N102q
  replace Va := Va.keep K102 (ninS ne_a_b101 nin0)
  replace B101 := B101.keep K102
  have OK102 := ext_keep OE101 K102 (allS g_b101 all0)
  replace KP := KP.trans K102 (allS (Or.inr z_b101) all0)
  refine Go.G X102 hx (hb hby d7_12) (l' := #[.val (.ref a), .val (.int 0), .val (.int 5), .val (.ref b101), .val (.int 5), .unset]) rfl (q := 14) rfl ?_
  refine Go.o X102 hx (hb hby d7_14) rfl (q := 16) rfl ?_
  refine Go.f X102 hx (hb hby d7_16) rfl (q := 17) rfl ?_
  refine Go.y X102 hx (hb hby d7_17) (by decide) (q := 57) (by decide) (by decide) ?_
  refine Go.g X102 hx (hb hby d7_57) rfl rfl (q := 58) rfl ?_
  exact Go.U X102 hx hret hlk rfl rfl (hb hby d7_58) e102 (by decide) (by decide) ⟨b101, k101, rfl, N102, KP, z_b101, P102_0⟩
def Q_ccal5 (Z : State) (b : Addr) (kb : ClassId) (vs : List Value) (h0 : Heap) (vR : Option Value) (hR : Heap) (LR : List Loc) : Prop := vR = some (.int 0) ∧ Fr Z.heap.size LR ∧ hR = h0
theorem ccal5 (l : Launch) (Z : State) (a0 : Array Value) (hw : ∀ d ∈ tables_1, d.before a0 Z = true) (b : Addr) (kb : ClassId) (vs : List Value) (h0 : Heap) (O0 : Ext Z.heap h0) (Vb : Arv Z h0 b kb .byte (5 : Int32) vs (.int 0)) :
    Ctr l Z h0 (⟨xS5, "coderFromArrayLen", "([BI)B"⟩ : MethodName) k9 2 (some .byte) [] ({ frames := 0, cells := 0, slots := 0, locals := 0 } : Room) #[(.ref b), (.int 5)] (Q_ccal5 Z b kb vs h0) := by
  refine enter (plainFor_of_name pn2) ?_
  intro pp ee ss mm below meth cc s₁ hx hby hml hZ hown hnm hret hlk X0 e0 hs0
  replace hown : ss.vm.findClass xS5 = some mm.cls := hown
  refine Go.r (congrArg s₁.setTop (ef_ccal5 mm b)) ?_
  have N0 := Fr.nil Z.heap.size
  show Go pp ee below _ (s₁.setTop (mkF mm 0 #[.val (.ref b), .val (.int 5)] []))
  refine Go.f X0 hx (hb hby d9_0) rfl (q := 1) rfl ?_
  refine Go.g X0 hx (hb hby d9_1) rfl rfl (q := 2) rfl ?_
  refine Go.J X0 hx hZ e0 Vb (hb hby d9_2) ?_
  refine Go.ja X0 hx (hb hby d9_3) (r := (0 : Int32)) rfl (q := 4) rfl ?_
  refine Go.E X0 hx (hb hby d9_4) (r := (31 : Int32)) rfl (q := 6) rfl ?_
  refine Go.jA X0 hx (hb hby d9_6) (r := (0 : Int32)) rfl (q := 7) rfl ?_
  refine Go.je X0 hx (hb hby d9_7) (r := (0 : Int32)) rfl (q := 8) rfl ?_
  exact Go.M X0 hx hret hlk (by simp) rfl (hb hby d9_8) e0 (by decide) (by decide) ⟨rfl, N0, rfl⟩
def Q_csi5 (Z : State) (o a : Addr) (ka : ClassId) (c0 c1 c2 c3 c4 cs : Int32) (h0 : Heap) (vR : Option Value) (hR : Heap) (LR : List Loc) : Prop := ∃ b : Addr, ∃ kb : ClassId, vR = none ∧ Fr Z.heap.size LR ∧ Keep h0 hR [o] ∧ h0.size ≤ b ∧ Fld Z hR o xS0 "value" "[B" (.ref b) ∧ Fld Z hR o xS0 "coder" "B" (.int 0) ∧ Arv Z hR b kb .byte (5 : Int32) [(.int (c0.toInt8.toInt32)), (.int (c1.toInt8.toInt32)), (.int (c2.toInt8.toInt32)), (.int (c3.toInt8.toInt32)), (.int (c4.toInt8.toInt32))] (.int 0)
theorem csi5 (l : Launch) (Z : State) (a0 : Array Value) (hw : ∀ d ∈ tables_1, d.before a0 Z = true) (o a : Addr) (ka : ClassId) (c0 c1 c2 c3 c4 cs : Int32) (h0 : Heap) (O0 : Ext Z.heap h0) (Eo : Exa Z h0 o xS0) (Fv : Fld Z h0 o xS0 "value" "[B" .null) (Fc : Fld Z h0 o xS0 "coder" "B" (.int 0)) (g_o : Z.heap.size ≤ o) (Va : Arv Z h0 a ka .char (5 : Int32) [(.int c0), (.int c1), (.int c2), (.int c3), (.int c4)] (.int 0)) (SCS : Sta Z Z.heap xS0 xS3 "Z" (.int cs)) (hcs : ¬ (cs = (0 : Int32))) (hc0 : ¬ ((255 : Int32) < c0)) (hc1 : ¬ ((255 : Int32) < c1)) (hc2 : ¬ ((255 : Int32) < c2)) (hc3 : ¬ ((255 : Int32) < c3)) (hc4 : ¬ ((255 : Int32) < c4)) :
    Ctr l Z h0 (⟨xS0, "<init>", "([CIILjava/lang/Void;)V"⟩ : MethodName) k4 6 none [] ({ frames := 2, cells := 1, slots := 5, locals := 35 } : Room) #[(.ref o), (.ref a), (.int 0), (.int 5), .null] (Q_csi5 Z o a ka c0 c1 c2 c3 c4 cs h0) := by
  refine enter (plainFor_of_name pn1) ?_
  intro pp ee ss mm below meth cc s₁ hx hby hml hZ hown hnm hret hlk X0 e0 hs0
  replace hown : ss.vm.findClass xS0 = some mm.cls := hown
  refine Go.r (congrArg s₁.setTop (ef_csi5 mm o a)) ?_
  have N0 := Fr.nil Z.heap.size
  have KP := Keep.refl h0 [o]
  show Go pp ee below _ (s₁.setTop (mkF mm 0 #[.val (.ref o), .val (.ref a), .val (.int 0), .val (.int 5), .val .null, .unset] []))
  refine Go.g X0 hx (hb hby d4_0) rfl rfl (q := 1) rfl ?_
  refine Go.jq X0 hx hZ hown (wd19 hw) (wd20 hw) (wd21 hw) e0 (by rw [hml]; rfl) (hb hby d4_1) (by decide) (W := 0) (by exact Nat.le_refl _) (by decide) (q := 4) rfl ?_
  intro T101 X101 e101
  refine Go.f X101 hx (hb hby d4_4) rfl (q := 5) rfl ?_
  refine Go.F X101 hx (hb hby d4_5) (by decide) (q := 27) (by decide) (by decide) ?_
  refine Go.jj X101 hx hZ hown (host := "") (Or.inl (wd33 hw)) Via.refl e101 (SCS.ext O0) (hb hby d4_27) (q := 30) rfl ?_
  intro T102 X102 e102
  refine Go.L X102 hx (hb hby d4_30) (Jvm.Free.XT.i0_eq_f hcs) (q := 33) rfl ?_
  refine Go.g X102 hx (hb hby d4_33) rfl rfl (q := 34) rfl ?_
  refine Go.f X102 hx (hb hby d4_34) rfl (q := 35) rfl ?_
  refine Go.f X102 hx (hb hby d4_35) rfl (q := 36) rfl ?_
  refine Go.A X102 hx hZ hown (wd34 hw) (wd35 hw) (wd36 hw) (wd37 hw) (by decide) (ccmq5 l Z a0 hw a (ka) c0 c1 c2 c3 c4 h0 O0 Va hc0 hc1 hc2 hc3 hc4) e102 (by rw [hml]; rfl) (hb hby d4_36) (argsL := [(.ref a), (.int 0), (.int 5)]) (rest := []) (lenOf pd2 rfl) rfl rfl (W := 0) (Nat.le_refl _) (by decide) ?_
  intro v103 T103 L103 X103 hQ103
  obtain ⟨h103, e103⟩ : ∃ z, T103.heap = z := ⟨_, rfl⟩
  rw [e103] at hQ103
  obtain ⟨b_103, kb_103, rfl, N103q, K103, fr103_b, P103_0⟩ := hQ103
  have N103 := Fr.app N0 N103q
  have ne_o_b_103 : o ≠ b_103 := ne_new Eo.lt fr103_b
  have ne_a_b_103 : a ≠ b_103 := ne_new Va.lt fr103_b
  have g_b_103 : Z.heap.size ≤ b_103 := Nat.le_trans O0.1 fr103_b
  have z_b_103 : h0.size ≤ b_103 := Nat.le_trans KP.1 fr103_b
  replace Eo := Eo.keep K103
  replace Fv := Fv.keep K103 nin0
  replace Fc := Fc.keep K103 nin0
  replace Va := Va.keep K103 nin0
  have OK103 := ext_keep O0 K103 all0
  replace KP := KP.trans K103 all0
  refine Go.V X103 hx (hb hby d4_39) rfl (l' := #[.val (.ref o), .val (.ref a), .val (.int 0), .val (.int 5), .val .null, .val (.ref b_103)]) rfl (q := 41) rfl ?_
  refine Go.g X103 hx (hb hby d4_41) rfl rfl (q := 42) rfl ?_
  refine Go.w X103 hx (hb hby d4_42) rfl rfl (q := 44) rfl ?_
  refine Go.f X103 hx (hb hby d4_44) rfl (q := 45) rfl ?_
  refine Go.A X103 hx hZ hown (wd41 hw) (wd42 hw) (wd36 hw) (wd43 hw) (by decide) (ccal5 l Z a0 hw b_103 (kb_103) ([(.int (c0.toInt8.toInt32)), (.int (c1.toInt8.toInt32)), (.int (c2.toInt8.toInt32)), (.int (c3.toInt8.toInt32)), (.int (c4.toInt8.toInt32))]) h103 OK103 P103_0) e103 (by rw [hml]; rfl) (hb hby d4_45) (argsL := [(.ref b_103), (.int 5)]) (rest := [(.ref o)]) (lenOf pd3 rfl) rfl rfl (W := 1) (Nat.le_refl _) (by decide) ?_
  intro v104 T104 L104 X104 hQ104
  obtain ⟨rfl, N104q, e104⟩ := hQ104
  have N104 := Fr.app N103 N104q
  refine Go.jc X104 hx hZ hown (host := "") (Or.inl (wd29 hw)) Via.refl e104 Fc Eo (Or.inr ⟨(wd25 hw), rfl, hnm⟩) (wd6 hw) (ty := .byte) (by decide) rfl rfl (hb hby d4_48) (q := 51) rfl ?_
  intro T105 h105 X105 e105 W105 F105
  have N105 := Fr.snoc X105 N104 g_o
  replace Eo := Eo.wr W105
  replace Fv := Fv.other W105 (Or.inr (slot_ne (Or.inr (wd24 hw)) (Or.inr (wd25 hw)) (by decide) (t := (.array .byte)) (t' := .byte) (by decide) (by decide)))
  replace P103_0 := P103_0.other W105 (Ne.symm ne_o_b_103)
  have OW105 := ext_wr OK103 W105 g_o
  replace KP := KP.wr W105 (Or.inl (List.mem_of_getElem? (i := 0) rfl))
  refine Go.g X105 hx (hb hby d4_51) rfl rfl (q := 52) rfl ?_
  refine Go.w X105 hx (hb hby d4_52) rfl rfl (q := 54) rfl ?_
  refine Go.jc X105 hx hZ hown (host := "") (Or.inl (wd28 hw)) Via.refl e105 Fv Eo (Or.inr ⟨(wd24 hw), rfl, hnm⟩) (wd6 hw) (ty := (.array .byte)) (by decide) rfl rfl (hb hby d4_54) (q := 57) rfl ?_
  intro T106 h106 X106 e106 W106 F106
  have N106 := Fr.snoc X106 N105 g_o
  replace Eo := Eo.wr W106
  replace P103_0 := P103_0.other W106 (Ne.symm ne_o_b_103)
  replace F105 := F105.other W106 (Or.inr (slot_ne (Or.inr (wd25 hw)) (Or.inr (wd24 hw)) (by decide) (t := .byte) (t' := (.array .byte)) (by decide) (by decide)))
  have OW106 := ext_wr OW105 W106 g_o
  replace KP := KP.wr W106 (Or.inl (List.mem_of_getElem? (i := 0) rfl))
  exact Go.jb X106 hx hret hlk (hb hby d4_57) e106 (by decide) (by decide) ⟨b_103, kb_103, rfl, N106, KP, z_b_103, F106, F105, P103_0⟩
def Q_csj5 (Z : State) (o a : Addr) (ka : ClassId) (c0 c1 c2 c3 c4 cs : Int32) (h0 : Heap) (vR : Option Value) (hR : Heap) (LR : List Loc) : Prop := ∃ b : Addr, ∃ kb : ClassId, vR = none ∧ Fr Z.heap.size LR ∧ Keep h0 hR [o] ∧ h0.size ≤ b ∧ Fld Z hR o xS0 "value" "[B" (.ref b) ∧ Fld Z hR o xS0 "coder" "B" (.int 0) ∧ Arv Z hR b kb .byte (5 : Int32) [(.int (c0.toInt8.toInt32)), (.int (c1.toInt8.toInt32)), (.int (c2.toInt8.toInt32)), (.int (c3.toInt8.toInt32)), (.int (c4.toInt8.toInt32))] (.int 0)
theorem csj5 (l : Launch) (Z : State) (a0 : Array Value) (hw : ∀ d ∈ tables_1, d.before a0 Z = true) (o a : Addr) (ka : ClassId) (c0 c1 c2 c3 c4 cs : Int32) (h0 : Heap) (O0 : Ext Z.heap h0) (Eo : Exa Z h0 o xS0) (Fv : Fld Z h0 o xS0 "value" "[B" .null) (Fc : Fld Z h0 o xS0 "coder" "B" (.int 0)) (g_o : Z.heap.size ≤ o) (Va : Arv Z h0 a ka .char (5 : Int32) [(.int c0), (.int c1), (.int c2), (.int c3), (.int c4)] (.int 0)) (SCS : Sta Z Z.heap xS0 xS3 "Z" (.int cs)) (hcs : ¬ (cs = (0 : Int32))) (hc0 : ¬ ((255 : Int32) < c0)) (hc1 : ¬ ((255 : Int32) < c1)) (hc2 : ¬ ((255 : Int32) < c2)) (hc3 : ¬ ((255 : Int32) < c3)) (hc4 : ¬ ((255 : Int32) < c4)) :
    Ctr l Z h0 (⟨xS0, "<init>", "([C)V"⟩ : MethodName) k3 2 none [] ({ frames := 3, cells := 1, slots := 5, locals := 52 } : Room) #[(.ref o), (.ref a)] (Q_csj5 Z o a ka c0 c1 c2 c3 c4 cs h0) := by
  refine enter (plainFor_of_name pn1) ?_
  intro pp ee ss mm below meth cc s₁ hx hby hml hZ hown hnm hret hlk X0 e0 hs0
  replace hown : ss.vm.findClass xS0 = some mm.cls := hown
  refine Go.r (congrArg s₁.setTop (ef_csj5 mm o a)) ?_
  have N0 := Fr.nil Z.heap.size
  have KP := Keep.refl h0 [o]
  show Go pp ee below _ (s₁.setTop (mkF mm 0 #[.val (.ref o), .val (.ref a)] []))
  refine Go.g X0 hx (hb hby d3_0) rfl rfl (q := 1) rfl ?_
  refine Go.g X0 hx (hb hby d3_1) rfl rfl (q := 2) rfl ?_
  refine Go.i X0 hx (hb hby d3_2) (r := (0 : Int32)) rfl (q := 3) rfl ?_
  refine Go.g X0 hx (hb hby d3_3) rfl rfl (q := 4) rfl ?_
  refine Go.J X0 hx hZ e0 Va (hb hby d3_4) ?_
  refine Go.jy X0 hx (hb hby d3_5) (q := 6) rfl ?_
  refine Go.Y X0 hx hZ hown rfl (wd15 hw) (wd16 hw) (wd7 hw) (wd18 hw) (by decide) (csi5 l Z a0 hw o a (ka) c0 c1 c2 c3 c4 cs h0 O0 Eo Fv Fc g_o Va SCS hcs hc0 hc1 hc2 hc3 hc4) e0 (by rw [hml]; rfl) (hb hby d3_6) (argsL := [(.ref a), (.int 0), (.int 5), .null]) (rest := []) (lenOf pd0 rfl) rfl rfl (W := 0) (Nat.le_refl _) (by decide) ?_
  intro v101 T101 L101 X101 hQ101
  obtain ⟨h101, e101⟩ : ∃ z, T101.heap = z := ⟨_, rfl⟩
  rw [e101] at hQ101
  obtain ⟨b_101, kb_101, rfl, N101q, K101, fr101_b, P101_0, P101_1, P101_2⟩ := hQ101
  have N101 := Fr.app N0 N101q
  have ne_o_b_101 : o ≠ b_101 := ne_new Eo.lt fr101_b
  have ne_a_b_101 : a ≠ b_101 := ne_new Va.lt fr101_b
  have g_b_101 : Z.heap.size ≤ b_101 := Nat.le_trans O0.1 fr101_b
  have z_b_101 : h0.size ≤ b_101 := Nat.le_trans KP.1 fr101_b
  replace Eo := Eo.keep K101
  have OK101 := ext_keep O0 K101 (allS g_o all0)
  replace KP := KP.trans K101 (allS (Or.inl (List.mem_of_getElem? (i := 0) rfl)) all0)
  exact Go.jb X101 hx hret hlk (hb hby d3_9) e101 (by decide) (by decide) ⟨b_101, kb_101, rfl, N101, KP, z_b_101, P101_0, P101_1, P101_2⟩
def Q_ccoder (Z : State) (o : Addr) (cs : Int32) (h0 : Heap) (vR : Option Value) (hR : Heap) (LR : List Loc) : Prop := vR = some (.int 0) ∧ Fr Z.heap.size LR ∧ hR = h0
theorem ccoder (l : Launch) (Z : State) (a0 : Array Value) (hw : ∀ d ∈ tables_1, d.before a0 Z = true) (o : Addr) (cs : Int32) (h0 : Heap) (O0 : Ext Z.heap h0) (C : Fld Z h0 o xS0 "coder" "B" (.int 0)) (SCS : Sta Z Z.heap xS0 xS3 "Z" (.int cs)) (hcs : ¬ (cs = (0 : Int32))) :
    Ctr l Z h0 (⟨xS0, "coder", "()B"⟩ : MethodName) k14 1 (some .byte) [] ({ frames := 0, cells := 0, slots := 0, locals := 0 } : Room) #[(.ref o)] (Q_ccoder Z o cs h0) := by
  refine enter (plainFor_of_name pn1) ?_
  intro pp ee ss mm below meth cc s₁ hx hby hml hZ hown hnm hret hlk X0 e0 hs0
  replace hown : ss.vm.findClass xS0 = some mm.cls := hown
  refine Go.r (congrArg s₁.setTop (ef_ccoder mm o)) ?_
  have N0 := Fr.nil Z.heap.size
  show Go pp ee below _ (s₁.setTop (mkF mm 0 #[.val (.ref o)] []))
  refine Go.jj X0 hx hZ hown (host := "") (Or.inl (wd33 hw)) Via.refl e0 (SCS.ext O0) (hb hby d14_0) (q := 3) rfl ?_
  intro T101 X101 e101
  refine Go.L X101 hx (hb hby d14_3) (Jvm.Free.XT.i0_eq_f hcs) (q := 6) rfl ?_
  refine Go.g X101 hx (hb hby d14_6) rfl rfl (q := 7) rfl ?_
  refine Go.B X101 hx hZ hown (host := "") (Or.inl (wd29 hw)) Via.refl e101 C (hb hby d14_7) (q := 10) rfl ?_
  intro T102 X102 e102
  refine Go.D X102 hx (hb hby d14_10) (q := 14) (by decide) (by decide) ?_
  exact Go.M X102 hx hret hlk (by simp) rfl (hb hby d14_14) e102 (by decide) (by decide) ⟨rfl, N0, rfl⟩
def Q_clen (Z : State) (o : Addr) (cs : Int32) (v : Addr) (kv : ClassId) (n : Int32) (vs : List Value) (h0 : Heap) (vR : Option Value) (hR : Heap) (LR : List Loc) : Prop := vR = some (.int n) ∧ Fr Z.heap.size LR ∧ hR = h0
theorem clen (l : Launch) (Z : State) (a0 : Array Value) (hw : ∀ d ∈ tables_1, d.before a0 Z = true) (o : Addr) (cs : Int32) (v : Addr) (kv : ClassId) (n : Int32) (vs : List Value) (h0 : Heap) (O0 : Ext Z.heap h0) (E : Exa Z h0 o xS0) (C : Fld Z h0 o xS0 "coder" "B" (.int 0)) (F : Fld Z h0 o xS0 "value" "[B" (.ref v)) (Va : Arv Z h0 v kv .byte n vs (.int 0)) (SCS : Sta Z Z.heap xS0 xS3 "Z" (.int cs)) (hcs : ¬ (cs = (0 : Int32))) :
    Ctr l Z h0 (⟨xS0, "length", "()I"⟩ : MethodName) k13 1 (some .int) [] ({ frames := 1, cells := 0, slots := 0, locals := 13 } : Room) #[(.ref o)] (Q_clen Z o cs v kv n vs h0) := by
  refine enter (plainFor_of_name pn1) ?_
  intro pp ee ss mm below meth cc s₁ hx hby hml hZ hown hnm hret hlk X0 e0 hs0
  replace hown : ss.vm.findClass xS0 = some mm.cls := hown
  refine Go.r (congrArg s₁.setTop (ef_clen mm o)) ?_
  have N0 := Fr.nil Z.heap.size
  show Go pp ee below _ (s₁.setTop (mkF mm 0 #[.val (.ref o)] []))
  refine Go.g X0 hx (hb hby d13_0) rfl rfl (q := 1) rfl ?_
  refine Go.B X0 hx hZ hown (host := "") (Or.inl (wd28 hw)) Via.refl e0 F (hb hby d13_1) (q := 4) rfl ?_
  intro T101 X101 e101
  refine Go.J X101 hx hZ e101 Va (hb hby d13_4) ?_
  refine Go.g X101 hx (hb hby d13_5) rfl rfl (q := 6) rfl ?_
  refine Go.u X101 hx hZ hown (wd63 hw) (wd64 hw) (notFace_of_selects (args := #[]) (mvT hZ (wd66 hw))) (wd66 hw) (wd65 hw) (wd7 hw) (wd67 hw) (by decide) (ccoder l Z a0 hw o cs h0 O0 C SCS hcs) e101 E (by rw [hml]; rfl) (hb hby d13_6) (argsL := []) (rest := [(.int n)]) (lenOf pd4 rfl) rfl rfl (W := 1) (Nat.le_refl _) (by decide) ?_
  intro v102 T102 L102 X102 hQ102
  obtain ⟨rfl, N102q, e102⟩ := hQ102
  have N102 := Fr.app N0 N102q
  refine Go.jF X102 hx (hb hby d13_9) rfl (q := 10) rfl ?_
  exact Go.M X102 hx hret hlk (Or.inl rfl) rfl (hb hby d13_10) e102 (by decide) (by decide) ⟨by rw [own_shr0], N102, rfl⟩
def Q_clat (Z : State) (o : Addr) (cs : Int32) (h0 : Heap) (vR : Option Value) (hR : Heap) (LR : List Loc) : Prop := vR = some (.int 1) ∧ Fr Z.heap.size LR ∧ hR = h0
theorem clat (l : Launch) (Z : State) (a0 : Array Value) (hw : ∀ d ∈ tables_1, d.before a0 Z = true) (o : Addr) (cs : Int32) (h0 : Heap) (O0 : Ext Z.heap h0) (C : Fld Z h0 o xS0 "coder" "B" (.int 0)) (SCS : Sta Z Z.heap xS0 xS3 "Z" (.int cs)) (hcs : ¬ (cs = (0 : Int32))) :
    Ctr l Z h0 (⟨xS0, "isLatin1", "()Z"⟩ : MethodName) k49 1 (some .boolean) [] ({ frames := 0, cells := 0, slots := 0, locals := 0 } : Room) #[(.ref o)] (Q_clat Z o cs h0) := by
  refine enter (plainFor_of_name pn1) ?_
  intro pp ee ss mm below meth cc s₁ hx hby hml hZ hown hnm hret hlk X0 e0 hs0
  replace hown : ss.vm.findClass xS0 = some mm.cls := hown
  refine Go.r (congrArg s₁.setTop (ef_clat mm o)) ?_
  have N0 := Fr.nil Z.heap.size
  show Go pp ee below _ (s₁.setTop (mkF mm 0 #[.val (.ref o)] []))
  refine Go.jj X0 hx hZ hown (host := "") (Or.inl (wd33 hw)) Via.refl e0 (SCS.ext O0) (hb hby d49_0) (q := 3) rfl ?_
  intro T101 X101 e101
  refine Go.L X101 hx (hb hby d49_3) (Jvm.Free.XT.i0_eq_f hcs) (q := 6) rfl ?_
  refine Go.g X101 hx (hb hby d49_6) rfl rfl (q := 7) rfl ?_
  refine Go.B X101 hx hZ hown (host := "") (Or.inl (wd29 hw)) Via.refl e101 C (hb hby d49_7) (q := 10) rfl ?_
  intro T102 X102 e102
  refine Go.L X102 hx (hb hby d49_10) (by decide) (q := 13) rfl ?_
  refine Go.i X102 hx (hb hby d49_13) (r := (1 : Int32)) rfl (q := 14) rfl ?_
  refine Go.D X102 hx (hb hby d49_14) (q := 18) (by decide) (by decide) ?_
  exact Go.M X102 hx hret hlk (by simp) rfl (hb hby d49_18) e102 (by decide) (by decide) ⟨rfl, N0, rfl⟩
def Q_cpchk (Z : State) (i n : Int32) (fm : Value) (h0 : Heap) (vR : Option Value) (hR : Heap) (LR : List Loc) : Prop := vR = some (.int i) ∧ Fr Z.heap.size LR ∧ hR = h0
theorem cpchk (l : Launch) (Z : State) (a0 : Array Value) (hw : ∀ d ∈ tables_1, d.before a0 Z = true) (i n : Int32) (fm : Value) (h0 : Heap) (O0 : Ext Z.heap h0) (hfm : fm.isRef = true) (hi0 : ¬ (i < (0 : Int32))) (hi1 : i < n) :
    Ctr l Z h0 (⟨xS6, "checkIndex", "(IILjava/util/function/BiFunction;)I"⟩ : MethodName) k52 3 (some .int) [] ({ frames := 0, cells := 0, slots := 0, locals := 0 } : Room) #[(.int i), (.int n), fm] (Q_cpchk Z i n fm h0) := by
  refine enter (plainFor_of_name pn3) ?_
  intro pp ee ss mm below meth cc s₁ hx hby hml hZ hown hnm hret hlk X0 e0 hs0
  replace hown : ss.vm.findClass xS6 = some mm.cls := hown
  refine Go.r (congrArg s₁.setTop (ef_cpchk mm i n fm hfm)) ?_
  have N0 := Fr.nil Z.heap.size
  show Go pp ee below _ (s₁.setTop (mkF mm 0 #[.val (.int i), .val (.int n), .val fm] []))
  refine Go.f X0 hx (hb hby d52_0) rfl (q := 1) rfl ?_
  refine Go.L X0 hx (hb hby d52_1) (Jvm.Free.XT.i0_lt_f hi0) (q := 4) rfl ?_
  refine Go.f X0 hx (hb hby d52_4) rfl (q := 5) rfl ?_
  refine Go.f X0 hx (hb hby d52_5) rfl (q := 6) rfl ?_
  refine Go.y X0 hx (hb hby d52_6) (Jvm.Free.XT.ii_lt_t hi1) (q := 16) (by decide) (by decide) ?_
  refine Go.f X0 hx (hb hby d52_16) rfl (q := 17) rfl ?_
  exact Go.M X0 hx hret hlk (Or.inl rfl) rfl (hb hby d52_17) e0 (by decide) (by decide) ⟨rfl, N0, rfl⟩
def Q_cschk (Z : State) (i n : Int32) (fm : Value) (h0 : Heap) (vR : Option Value) (hR : Heap) (LR : List Loc) : Prop := vR = none ∧ Fr Z.heap.size LR ∧ hR = h0
theorem cschk (l : Launch) (Z : State) (a0 : Array Value) (hw : ∀ d ∈ tables_1, d.before a0 Z = true) (i n : Int32) (fm : Value) (h0 : Heap) (O0 : Ext Z.heap h0) (SFM : Sta Z Z.heap xS6 "SIOOBE_FORMATTER" xS9 fm) (hfm : fm.isRef = true) (hi0 : ¬ (i < (0 : Int32))) (hi1 : i < n) :
    Ctr l Z h0 (⟨xS0, "checkIndex", "(II)V"⟩ : MethodName) k51 2 none [] ({ frames := 1, cells := 0, slots := 0, locals := 14 } : Room) #[(.int i), (.int n)] (Q_cschk Z i n fm h0) := by
  refine enter (plainFor_of_name pn1) ?_
  intro pp ee ss mm below meth cc s₁ hx hby hml hZ hown hnm hret hlk X0 e0 hs0
  replace hown : ss.vm.findClass xS0 = some mm.cls := hown
  refine Go.r (congrArg s₁.setTop (ef_cschk mm i n)) ?_
  have N0 := Fr.nil Z.heap.size
  show Go pp ee below _ (s₁.setTop (mkF mm 0 #[.val (.int i), .val (.int n)] []))
  refine Go.f X0 hx (hb hby d51_0) rfl (q := 1) rfl ?_
  refine Go.f X0 hx (hb hby d51_1) rfl (q := 2) rfl ?_
  refine Go.jj X0 hx hZ hown (host := "") (Or.inl (wd261 hw)) Via.refl e0 (SFM.ext O0) (hb hby d51_2) (q := 5) rfl ?_
  intro T101 X101 e101
  refine Go.A X101 hx hZ hown (wd263 hw) (wd264 hw) (wd262 hw) (wd265 hw) (by decide) (cpchk l Z a0 hw i n fm h0 O0 hfm hi0 hi1) e101 (by rw [hml]; rfl) (hb hby d51_5) (argsL := [(.int i), (.int n), fm]) (rest := []) (lenOf pd5 rfl) rfl rfl (W := 0) (Nat.le_refl _) (by decide) ?_
  intro v102 T102 L102 X102 hQ102
  obtain ⟨rfl, N102q, e102⟩ := hQ102
  have N102 := Fr.app N0 N102q
  refine Go.jo X102 hx (hb hby d51_8) rfl (q := 9) rfl ?_
  exact Go.jb X102 hx hret hlk (hb hby d51_9) e102 (by decide) (by decide) ⟨rfl, N102, rfl⟩
def Q_cl1ch (Z : State) (v : Addr) (kv : ClassId) (n : Int32) (vs : List Value) (i x : Int32) (fm : Value) (h0 : Heap) (vR : Option Value) (hR : Heap) (LR : List Loc) : Prop := vR = some (.int ((x &&& (255 : Int32)).toUInt32.toUInt16.toUInt32.toInt32)) ∧ Fr Z.heap.size LR ∧ hR = h0
theorem cl1ch (l : Launch) (Z : State) (a0 : Array Value) (hw : ∀ d ∈ tables_1, d.before a0 Z = true) (v : Addr) (kv : ClassId) (n : Int32) (vs : List Value) (i x : Int32) (fm : Value) (h0 : Heap) (O0 : Ext Z.heap h0) (Va : Arv Z h0 v kv .byte n vs (.int 0)) (SFM : Sta Z Z.heap xS6 "SIOOBE_FORMATTER" xS9 fm) (hfm : fm.isRef = true) (hi0 : ¬ (i < (0 : Int32))) (hi1 : i < n) (hgx : vs.getD (i).toNatClampNeg (.int (0 : Int32)) = (.int x)) :
    Ctr l Z h0 (⟨xS7, "charAt", "([BI)C"⟩ : MethodName) k50 2 (some .char) [] ({ frames := 2, cells := 0, slots := 0, locals := 27 } : Room) #[(.ref v), (.int i)] (Q_cl1ch Z v kv n vs i x fm h0) := by
  refine enter (plainFor_of_name pn4) ?_
  intro pp ee ss mm below meth cc s₁ hx hby hml hZ hown hnm hret hlk X0 e0 hs0
  replace hown : ss.vm.findClass xS7 = some mm.cls := hown
  refine Go.r (congrArg s₁.setTop (ef_cl1ch mm v i)) ?_
  have N0 := Fr.nil Z.heap.size
  show Go pp ee below _ (s₁.setTop (mkF mm 0 #[.val (.ref v), .val (.int i)] []))
  refine Go.f X0 hx (hb hby d50_0) rfl (q := 1) rfl ?_
  refine Go.g X0 hx (hb hby d50_1) rfl rfl (q := 2) rfl ?_
  refine Go.J X0 hx hZ e0 Va (hb hby d50_2) ?_
  refine Go.A X0 hx hZ hown (wd258 hw) (wd259 hw) (wd7 hw) (wd260 hw) (by decide) (cschk l Z a0 hw i n fm h0 O0 SFM hfm hi0 hi1) e0 (by rw [hml]; rfl) (hb hby d50_3) (argsL := [(.int i), (.int n)]) (rest := []) (lenOf pd6 rfl) rfl rfl (W := 0) (Nat.le_refl _) (by decide) ?_
  intro v101 T101 L101 X101 hQ101
  obtain ⟨rfl, N101q, e101⟩ := hQ101
  have N101 := Fr.app N0 N101q
  refine Go.g X101 hx (hb hby d50_6) rfl rfl (q := 7) rfl ?_
  refine Go.f X101 hx (hb hby d50_7) rfl (q := 8) rfl ?_
  refine Go.W X101 hx hZ e101 Va ⟨hi0, hi1⟩ (v := (.int x)) hgx (hb hby d50_8) ?_
  refine Go.X X101 hx (hb hby d50_9) (r := (255 : Int32)) rfl (q := 12) rfl ?_
  refine Go.jD X101 hx (hb hby d50_12) rfl (q := 13) rfl ?_
  refine Go.jC X101 hx (hb hby d50_13) rfl (q := 14) rfl ?_
  exact Go.M X101 hx hret hlk (by simp) (Jvm.Free.XT.narrow_c _) (hb hby d50_14) e101 (by decide) (by decide) ⟨rfl, N101, rfl⟩
def Q_cchar (Z : State) (o : Addr) (i cs : Int32) (v : Addr) (kv : ClassId) (n : Int32) (vs : List Value) (x : Int32) (fm : Value) (h0 : Heap) (vR : Option Value) (hR : Heap) (LR : List Loc) : Prop := vR = some (.int ((x &&& (255 : Int32)).toUInt32.toUInt16.toUInt32.toInt32)) ∧ Fr Z.heap.size LR ∧ hR = h0
theorem cchar (l : Launch) (Z : State) (a0 : Array Value) (hw : ∀ d ∈ tables_1, d.before a0 Z = true) (o : Addr) (i cs : Int32) (v : Addr) (kv : ClassId) (n : Int32) (vs : List Value) (x : Int32) (fm : Value) (h0 : Heap) (O0 : Ext Z.heap h0) (E : Exa Z h0 o xS0) (C : Fld Z h0 o xS0 "coder" "B" (.int 0)) (F : Fld Z h0 o xS0 "value" "[B" (.ref v)) (Va : Arv Z h0 v kv .byte n vs (.int 0)) (SCS : Sta Z Z.heap xS0 xS3 "Z" (.int cs)) (SFM : Sta Z Z.heap xS6 "SIOOBE_FORMATTER" xS9 fm) (hcs : ¬ (cs = (0 : Int32))) (hfm : fm.isRef = true) (hi0 : ¬ (i < (0 : Int32))) (hi1 : i < n) (hgx : vs.getD (i).toNatClampNeg (.int (0 : Int32)) = (.int x)) :
    Ctr l Z h0 (⟨xS0, "charAt", "(I)C"⟩ : MethodName) k48 2 (some .char) [] ({ frames := 3, cells := 0, slots := 0, locals := 40 } : Room) #[(.ref o), (.int i)] (Q_cchar Z o i cs v kv n vs x fm h0) := by
  refine enter (plainFor_of_name pn1) ?_
  intro pp ee ss mm below meth cc s₁ hx hby hml hZ hown hnm hret hlk X0 e0 hs0
  replace hown : ss.vm.findClass xS0 = some mm.cls := hown
  refine Go.r (congrArg s₁.setTop (ef_cchar mm o i)) ?_
  have N0 := Fr.nil Z.heap.size
  show Go pp ee below _ (s₁.setTop (mkF mm 0 #[.val (.ref o), .val (.int i)] []))
  refine Go.g X0 hx (hb hby d48_0) rfl rfl (q := 1) rfl ?_
  refine Go.u X0 hx hZ hown (wd250 hw) (wd251 hw) (notFace_of_selects (args := #[]) (mvT hZ (wd253 hw))) (wd253 hw) (wd252 hw) (wd7 hw) (wd254 hw) (by decide) (clat l Z a0 hw o cs h0 O0 C SCS hcs) e0 E (by rw [hml]; rfl) (hb hby d48_1) (argsL := []) (rest := []) (lenOf pd7 rfl) rfl rfl (W := 0) (Nat.le_refl _) (by decide) ?_
  intro v101 T101 L101 X101 hQ101
  obtain ⟨rfl, N101q, e101⟩ := hQ101
  have N101 := Fr.app N0 N101q
  refine Go.L X101 hx (hb hby d48_4) (by decide) (q := 7) rfl ?_
  refine Go.g X101 hx (hb hby d48_7) rfl rfl (q := 8) rfl ?_
  refine Go.B X101 hx hZ hown (host := "") (Or.inl (wd28 hw)) Via.refl e101 F (hb hby d48_8) (q := 11) rfl ?_
  intro T102 X102 e102
  refine Go.f X102 hx (hb hby d48_11) rfl (q := 12) rfl ?_
  refine Go.A X102 hx hZ hown (wd255 hw) (wd256 hw) (wd171 hw) (wd257 hw) (by decide) (cl1ch l Z a0 hw v (kv) n (vs) i x fm h0 O0 Va SFM hfm hi0 hi1 hgx) e102 (by rw [hml]; rfl) (hb hby d48_12) (argsL := [(.ref v), (.int i)]) (rest := []) (lenOf pd8 rfl) rfl rfl (W := 0) (Nat.le_refl _) (by decide) ?_
  intro v103 T103 L103 X103 hQ103
  obtain ⟨rfl, N103q, e103⟩ := hQ103
  have N103 := Fr.app N101 N103q
  exact Go.M X103 hx hret hlk (by simp) (Jvm.Free.XT.narrow_c _) (hb hby d48_15) e103 (by decide) (by decide) ⟨rfl, N103, rfl⟩
def Q_creq (Z : State) (o q : Addr) (h0 : Heap) (vR : Option Value) (hR : Heap) (LR : List Loc) : Prop := vR = some (.ref o) ∧ Fr Z.heap.size LR ∧ hR = h0
theorem creq (l : Launch) (Z : State) (a0 : Array Value) (hw : ∀ d ∈ tables_1, d.before a0 Z = true) (o q : Addr) (h0 : Heap) (O0 : Ext Z.heap h0) :
    Ctr l Z h0 (⟨"java/util/Objects", "requireNonNull", "(Ljava/lang/Object;Ljava/lang/String;)Ljava/lang/Object;"⟩ : MethodName) k12 2 (some (.object "java/lang/Object")) [] ({ frames := 0, cells := 0, slots := 0, locals := 0 } : Room) #[(.ref o), (.ref q)] (Q_creq Z o q h0) := by
  refine enter (plainFor_of_name pn5) ?_
  intro pp ee ss mm below meth cc s₁ hx hby hml hZ hown hnm hret hlk X0 e0 hs0
  replace hown : ss.vm.findClass "java/util/Objects" = some mm.cls := hown
  refine Go.r (congrArg s₁.setTop (ef_creq mm o q)) ?_
  have N0 := Fr.nil Z.heap.size
  show Go pp ee below _ (s₁.setTop (mkF mm 0 #[.val (.ref o), .val (.ref q)] []))
  refine Go.g X0 hx (hb hby d12_0) rfl rfl (q := 1) rfl ?_
  refine Go.jx X0 hx (hb hby d12_1) (q := 13) (by decide) (by decide) ?_
  refine Go.g X0 hx (hb hby d12_13) rfl rfl (q := 14) rfl ?_
  exact Go.U X0 hx hret hlk rfl rfl (hb hby d12_14) e0 (by decide) (by decide) ⟨rfl, N0, rfl⟩
def Q_cchk0 (Z : State) (s v : Addr) (kv : ClassId) (cs : Int32) (fm : Value) (of : Int32) (h0 : Heap) (vR : Option Value) (hR : Heap) (LR : List Loc) : Prop := vR = some (.ref s) ∧ Fr Z.heap.size LR ∧ Keep h0 hR []
theorem cchk0 (l : Launch) (Z : State) (a0 : Array Value) (hw : ∀ d ∈ tables_1, d.before a0 Z = true) (s v : Addr) (kv : ClassId) (cs : Int32) (fm : Value) (of : Int32) (h0 : Heap) (O0 : Ext Z.heap h0) (Es : Exa Z h0 s xS0) (Cs : Fld Z h0 s xS0 "coder" "B" (.int 0)) (Fs : Fld Z h0 s xS0 "value" "[B" (.ref v)) (Vs : Arv Z h0 v kv .byte (0 : Int32) [] (.int 0)) (SCS : Sta Z Z.heap xS0 xS3 "Z" (.int cs)) (SFM : Sta Z Z.heap xS6 "SIOOBE_FORMATTER" xS9 fm) (hcs : ¬ (cs = (0 : Int32))) (hfm : fm.isRef = true) :
    CtrH l Z consts_1 h0 (⟨xS1, "checkedValue", "(Ljava/lang/String;I)Ljava/lang/String;"⟩ : MethodName) k11 6 (some (.object xS0)) [] ({ frames := 2, cells := 2, slots := 24, locals := 26 } : Room) #[(.ref s), (.int of)] (Q_cchk0 Z s v kv cs fm of h0) := by
  refine enterH (plainFor_of_name pn6) ?_
  intro pp ee ss mm below meth cc s₁ hx hby hml hZ hown hnm hret hlk X0 e0 hs0 hS hC
  replace hown : (ss.setVm ss.vm).vm.findClass xS1 = some mm.cls := hown
  have hKd := Nat.zero_le h0.size
  refine Go.r (congrArg s₁.setTop (ef_cchk0 mm s of)) ?_
  have N0 := Fr.nil Z.heap.size
  have KP := Keep.refl h0 []
  show Go pp ee below _ (s₁.setTop (mkF mm 0 #[.val (.ref s), .val (.int of), .unset, .unset, .unset, .unset] []))
  refine Go.g X0 hx (hb hby d11_0) rfl rfl (q := 1) rfl ?_
  refine Go.jt X0 hx hZ hown (wd53 hw) (own_wS hw) e0 hS hKd (own_EW hw) hC (hb hby d11_1) (nn := 20) (by decide) (by decide) (by decide) (by decide) (q := 3) rfl ?_
  intro b101 T101 h101 k101 X101 e101 E101 hS hKd hZ hown hR101
  replace hC := hC.trans hR101
  replace Es := Es.ext E101
  replace Cs := Cs.ext E101
  replace Fs := Fs.ext E101
  replace Vs := Vs.ext E101
  have OE101 := ext_trans O0 E101
  replace KP := KP.ext E101
  refine Go.A X101 hx hZ hown (wd54 hw) (wd55 hw) (wd56 hw) (wd57 hw) (by decide) (creq l Z a0 hw s b101 h101 OE101) e101 (by rw [hml]; rfl) (hb hby d11_3) (argsL := [(.ref s), (.ref b101)]) (rest := []) (lenOf pd9 rfl) rfl rfl (W := 0) (Nat.le_refl _) (by decide) ?_
  intro v102 T102 L102 X102 hQ102
  obtain ⟨rfl, N102q, e102⟩ := hQ102
  have N102 := Fr.app N0 N102q
  refine Go.jo X102 hx (hb hby d11_6) rfl (q := 7) rfl ?_
  refine Go.i X102 hx (hb hby d11_7) (r := (0 : Int32)) rfl (q := 8) rfl ?_
  refine Go.P X102 hx (hb hby d11_8) (l' := #[.val (.ref s), .val (.int of), .val (.int 0), .unset, .unset, .unset]) rfl (q := 9) rfl ?_
  refine Go.f X102 hx (hb hby d11_9) rfl (q := 10) rfl ?_
  refine Go.g X102 hx (hb hby d11_10) rfl rfl (q := 11) rfl ?_
  refine Go.u X102 hx hZ hown (wd58 hw) (wd59 hw) (notFace_of_selects (args := #[]) (mvT hZ (wd61 hw))) (wd61 hw) (wd60 hw) (wd7 hw) (wd62 hw) (by decide) (clen l Z a0 hw s cs v (kv) ((0 : Int32)) ([]) h101 OE101 Es Cs Fs Vs SCS hcs) e102 Es (by rw [hml]; rfl) (hb hby d11_11) (argsL := []) (rest := [(.int 0)]) (lenOf pd10 rfl) rfl rfl (W := 1) (Nat.le_refl _) (by decide) ?_
  intro v103 T103 L103 X103 hQ103
  obtain ⟨rfl, N103q, e103⟩ := hQ103
  have N103 := Fr.app N102 N103q
  refine Go.y X103 hx (hb hby d11_14) (by decide) (q := 133) (by decide) (by decide) ?_
  refine Go.g X103 hx (hb hby d11_133) rfl rfl (q := 134) rfl ?_
  exact Go.jm X103 hx hS hKd hs0 hZ (own_EW hw) hC hret hlk rfl rfl (hb hby d11_134) e103 (by decide) (by decide) ⟨rfl, N103, KP⟩
def Q_cchk1 (Z : State) (s v : Addr) (kv : ClassId) (cs : Int32) (fm : Value) (c0 of : Int32) (h0 : Heap) (vR : Option Value) (hR : Heap) (LR : List Loc) : Prop := vR = some (.ref s) ∧ Fr Z.heap.size LR ∧ Keep h0 hR []
theorem cchk1 (l : Launch) (Z : State) (a0 : Array Value) (hw : ∀ d ∈ tables_1, d.before a0 Z = true) (s v : Addr) (kv : ClassId) (cs : Int32) (fm : Value) (c0 of : Int32) (h0 : Heap) (O0 : Ext Z.heap h0) (Es : Exa Z h0 s xS0) (Cs : Fld Z h0 s xS0 "coder" "B" (.int 0)) (Fs : Fld Z h0 s xS0 "value" "[B" (.ref v)) (Vs : Arv Z h0 v kv .byte (1 : Int32) [(.int (c0.toInt8.toInt32))] (.int 0)) (SCS : Sta Z Z.heap xS0 xS3 "Z" (.int cs)) (SFM : Sta Z Z.heap xS6 "SIOOBE_FORMATTER" xS9 fm) (hcs : ¬ (cs = (0 : Int32))) (hfm : fm.isRef = true) (he0 : ETC c0) :
    CtrH l Z consts_1 h0 (⟨xS1, "checkedValue", "(Ljava/lang/String;I)Ljava/lang/String;"⟩ : MethodName) k11 6 (some (.object xS0)) [] ({ frames := 4, cells := 2, slots := 24, locals := 53 } : Room) #[(.ref s), (.int of)] (Q_cchk1 Z s v kv cs fm c0 of h0) := by
  refine enterH (plainFor_of_name pn6) ?_
  intro pp ee ss mm below meth cc s₁ hx hby hml hZ hown hnm hret hlk X0 e0 hs0 hS hC
  replace hown : (ss.setVm ss.vm).vm.findClass xS1 = some mm.cls := hown
  have hKd := Nat.zero_le h0.size
  refine Go.r (congrArg s₁.setTop (ef_cchk1 mm s of)) ?_
  have N0 := Fr.nil Z.heap.size
  have KP := Keep.refl h0 []
  show Go pp ee below _ (s₁.setTop (mkF mm 0 #[.val (.ref s), .val (.int of), .unset, .unset, .unset, .unset] []))
  refine Go.g X0 hx (hb hby d11_0) rfl rfl (q := 1) rfl ?_
  refine Go.jt X0 hx hZ hown (wd53 hw) (own_wS hw) e0 hS hKd (own_EW hw) hC (hb hby d11_1) (nn := 20) (by decide) (by decide) (by decide) (by decide) (q := 3) rfl ?_
  intro b101 T101 h101 k101 X101 e101 E101 hS hKd hZ hown hR101
  replace hC := hC.trans hR101
  replace Es := Es.ext E101
  replace Cs := Cs.ext E101
  replace Fs := Fs.ext E101
  replace Vs := Vs.ext E101
  have OE101 := ext_trans O0 E101
  replace KP := KP.ext E101
  refine Go.A X101 hx hZ hown (wd54 hw) (wd55 hw) (wd56 hw) (wd57 hw) (by decide) (creq l Z a0 hw s b101 h101 OE101) e101 (by rw [hml]; rfl) (hb hby d11_3) (argsL := [(.ref s), (.ref b101)]) (rest := []) (lenOf pd9 rfl) rfl rfl (W := 0) (Nat.le_refl _) (by decide) ?_
  intro v102 T102 L102 X102 hQ102
  obtain ⟨rfl, N102q, e102⟩ := hQ102
  have N102 := Fr.app N0 N102q
  refine Go.jo X102 hx (hb hby d11_6) rfl (q := 7) rfl ?_
  refine Go.i X102 hx (hb hby d11_7) (r := (0 : Int32)) rfl (q := 8) rfl ?_
  refine Go.P X102 hx (hb hby d11_8) (l' := #[.val (.ref s), .val (.int of), .val (.int 0), .unset, .unset, .unset]) rfl (q := 9) rfl ?_
  refine Go.f X102 hx (hb hby d11_9) rfl (q := 10) rfl ?_
  refine Go.g X102 hx (hb hby d11_10) rfl rfl (q := 11) rfl ?_
  refine Go.u X102 hx hZ hown (wd58 hw) (wd59 hw) (notFace_of_selects (args := #[]) (mvT hZ (wd61 hw))) (wd61 hw) (wd60 hw) (wd7 hw) (wd62 hw) (by decide) (clen l Z a0 hw s cs v (kv) ((1 : Int32)) ([(.int (c0.toInt8.toInt32))]) h101 OE101 Es Cs Fs Vs SCS hcs) e102 Es (by rw [hml]; rfl) (hb hby d11_11) (argsL := []) (rest := [(.int 0)]) (lenOf pd10 rfl) rfl rfl (W := 1) (Nat.le_refl _) (by decide) ?_
  intro v103 T103 L103 X103 hQ103
  obtain ⟨rfl, N103q, e103⟩ := hQ103
  have N103 := Fr.app N102 N103q
  refine Go.t X103 hx (hb hby d11_14) (by decide) (q := 17) rfl ?_
  refine Go.g X103 hx (hb hby d11_17) rfl rfl (q := 18) rfl ?_
  refine Go.f X103 hx (hb hby d11_18) rfl (q := 19) rfl ?_
  refine Go.u X103 hx hZ hown (wd245 hw) (wd246 hw) (notFace_of_selects (args := #[]) (mvT hZ (wd248 hw))) (wd248 hw) (wd247 hw) (wd7 hw) (wd249 hw) (by decide) (cchar l Z a0 hw s ((0 : Int32)) cs v (kv) ((1 : Int32)) ([(.int (c0.toInt8.toInt32))]) ((c0.toInt8.toInt32)) fm h101 OE101 Es Cs Fs Vs SCS SFM hcs hfm (by decide) (by decide) rfl) e103 Es (by rw [hml]; rfl) (hb hby d11_19) (argsL := [(.int 0)]) (rest := []) (lenOf pd11 rfl) rfl rfl (W := 0) (Nat.le_refl _) (by decide) ?_
  intro v104 T104 L104 X104 hQ104
  obtain ⟨rfl, N104q, e104⟩ := hQ104
  have N104 := Fr.app N103 N104q
  rw [own_ech he0]
  show Go pp ee below _ (T104.setTop (mkF mm 22 #[.val (.ref s), .val (.int of), .val (.int 0), .unset, .unset, .unset] [(.int c0)]))
  refine Go.P X104 hx (hb hby d11_22) (l' := #[.val (.ref s), .val (.int of), .val (.int 0), .val (.int c0), .unset, .unset]) rfl (q := 23) rfl ?_
  have J127_105 : Go pp ee below (KKH Z consts_1 ss (Q_cchk1 Z s v kv cs fm c0 of h0) ({ frames := 4, cells := 2, slots := 24, locals := 53 } : Room).cells ({ frames := 4, cells := 2, slots := 24, locals := 53 } : Room).slots) (T104.setTop (mkF mm 127 #[.val (.ref s), .val (.int of), .val (.int 0), .val (.int c0), .val (.int 1), .unset] [])) := by
    refine Go.H X104 hx (hb hby d11_127) rfl (r := (1 : Int32)) rfl (l' := #[.val (.ref s), .val (.int of), .val (.int 1), .val (.int c0), .val (.int 1), .unset]) rfl (q := 130) rfl ?_
    refine Go.D X104 hx (hb hby d11_130) (q := 9) (by decide) (by decide) ?_
    refine Go.f X104 hx (hb hby d11_9) rfl (q := 10) rfl ?_
    refine Go.g X104 hx (hb hby d11_10) rfl rfl (q := 11) rfl ?_
    refine Go.u X104 hx hZ hown (wd58 hw) (wd59 hw) (notFace_of_selects (args := #[]) (mvT hZ (wd61 hw))) (wd61 hw) (wd60 hw) (wd7 hw) (wd62 hw) (by decide) (clen l Z a0 hw s cs v (kv) ((1 : Int32)) ([(.int (c0.toInt8.toInt32))]) h101 OE101 Es Cs Fs Vs SCS hcs) e104 Es (by rw [hml]; rfl) (hb hby d11_11) (argsL := []) (rest := [(.int 1)]) (lenOf pd10 rfl) rfl rfl (W := 1) (Nat.le_refl _) (by decide) ?_
    intro v106 T106 L106 X106 hQ106
    obtain ⟨rfl, N106q, e106⟩ := hQ106
    have N106 := Fr.app N104 N106q
    refine Go.y X106 hx (hb hby d11_14) (by decide) (q := 133) (by decide) (by decide) ?_
    refine Go.g X106 hx (hb hby d11_133) rfl rfl (q := 134) rfl ?_
    exact Go.jm X106 hx hS hKd hs0 hZ (own_EW hw) hC hret hlk rfl rfl (hb hby d11_134) e106 (by decide) (by decide) ⟨rfl, N106, KP⟩
  rcases own_et3 he0 with a107 | ⟨a107, b107, c107x⟩ | ⟨a107, b107, c107x, d107x, f107⟩
  · show Go pp ee below _ (T104.setTop (mkF mm 23 #[.val (.ref s), .val (.int of), .val (.int 0), .val (.int c0), .unset, .unset] []))
    refine Go.f X104 hx (hb hby d11_23) rfl (q := 24) rfl ?_
    refine Go.E X104 hx (hb hby d11_24) (r := (33 : Int32)) rfl (q := 26) rfl ?_
    refine Go.y X104 hx (hb hby d11_26) (Jvm.Free.XT.ii_eq_t a107) (q := 55) (by decide) (by decide) ?_
    refine Go.i X104 hx (hb hby d11_55) (r := (1 : Int32)) rfl (q := 56) rfl ?_
    refine Go.D X104 hx (hb hby d11_56) (q := 60) (by decide) (by decide) ?_
    refine Go.G X104 hx (hb hby d11_60) (l' := #[.val (.ref s), .val (.int of), .val (.int 0), .val (.int c0), .val (.int 1), .unset]) rfl (q := 62) rfl ?_
    refine Go.o X104 hx (hb hby d11_62) rfl (q := 64) rfl ?_
    refine Go.F X104 hx (hb hby d11_64) (by decide) (q := 127) (by decide) (by decide) ?_
    exact J127_105
  · show Go pp ee below _ (T104.setTop (mkF mm 23 #[.val (.ref s), .val (.int of), .val (.int 0), .val (.int c0), .unset, .unset] []))
    refine Go.f X104 hx (hb hby d11_23) rfl (q := 24) rfl ?_
    refine Go.E X104 hx (hb hby d11_24) (r := (33 : Int32)) rfl (q := 26) rfl ?_
    refine Go.t X104 hx (hb hby d11_26) (Jvm.Free.XT.ii_eq_f a107) (q := 29) rfl ?_
    refine Go.f X104 hx (hb hby d11_29) rfl (q := 30) rfl ?_
    refine Go.E X104 hx (hb hby d11_30) (r := (35 : Int32)) rfl (q := 32) rfl ?_
    refine Go.t X104 hx (hb hby d11_32) (Jvm.Free.XT.ii_lt_f b107) (q := 35) rfl ?_
    refine Go.f X104 hx (hb hby d11_35) rfl (q := 36) rfl ?_
    refine Go.E X104 hx (hb hby d11_36) (r := (126 : Int32)) rfl (q := 38) rfl ?_
    refine Go.y X104 hx (hb hby d11_38) (Jvm.Free.XT.ii_le_t c107x) (q := 55) (by decide) (by decide) ?_
    refine Go.i X104 hx (hb hby d11_55) (r := (1 : Int32)) rfl (q := 56) rfl ?_
    refine Go.D X104 hx (hb hby d11_56) (q := 60) (by decide) (by decide) ?_
    refine Go.G X104 hx (hb hby d11_60) (l' := #[.val (.ref s), .val (.int of), .val (.int 0), .val (.int c0), .val (.int 1), .unset]) rfl (q := 62) rfl ?_
    refine Go.o X104 hx (hb hby d11_62) rfl (q := 64) rfl ?_
    refine Go.F X104 hx (hb hby d11_64) (by decide) (q := 127) (by decide) (by decide) ?_
    exact J127_105
  · show Go pp ee below _ (T104.setTop (mkF mm 23 #[.val (.ref s), .val (.int of), .val (.int 0), .val (.int c0), .unset, .unset] []))
    refine Go.f X104 hx (hb hby d11_23) rfl (q := 24) rfl ?_
    refine Go.E X104 hx (hb hby d11_24) (r := (33 : Int32)) rfl (q := 26) rfl ?_
    refine Go.t X104 hx (hb hby d11_26) (Jvm.Free.XT.ii_eq_f a107) (q := 29) rfl ?_
    refine Go.f X104 hx (hb hby d11_29) rfl (q := 30) rfl ?_
    refine Go.E X104 hx (hb hby d11_30) (r := (35 : Int32)) rfl (q := 32) rfl ?_
    refine Go.t X104 hx (hb hby d11_32) (Jvm.Free.XT.ii_lt_f b107) (q := 35) rfl ?_
    refine Go.f X104 hx (hb hby d11_35) rfl (q := 36) rfl ?_
    refine Go.E X104 hx (hb hby d11_36) (r := (126 : Int32)) rfl (q := 38) rfl ?_
    refine Go.t X104 hx (hb hby d11_38) (Jvm.Free.XT.ii_le_f c107x) (q := 41) rfl ?_
    refine Go.f X104 hx (hb hby d11_41) rfl (q := 42) rfl ?_
    refine Go.X X104 hx (hb hby d11_42) (r := (128 : Int32)) rfl (q := 45) rfl ?_
    refine Go.t X104 hx (hb hby d11_45) (Jvm.Free.XT.ii_lt_f d107x) (q := 48) rfl ?_
    refine Go.f X104 hx (hb hby d11_48) rfl (q := 49) rfl ?_
    refine Go.X X104 hx (hb hby d11_49) (r := (255 : Int32)) rfl (q := 52) rfl ?_
    refine Go.t X104 hx (hb hby d11_52) (Jvm.Free.XT.ii_gt_f f107) (q := 55) rfl ?_
    refine Go.i X104 hx (hb hby d11_55) (r := (1 : Int32)) rfl (q := 56) rfl ?_
    refine Go.D X104 hx (hb hby d11_56) (q := 60) (by decide) (by decide) ?_
    refine Go.G X104 hx (hb hby d11_60) (l' := #[.val (.ref s), .val (.int of), .val (.int 0), .val (.int c0), .val (.int 1), .unset]) rfl (q := 62) rfl ?_
    refine Go.o X104 hx (hb hby d11_62) rfl (q := 64) rfl ?_
    refine Go.F X104 hx (hb hby d11_64) (by decide) (q := 127) (by decide) (by decide) ?_
    exact J127_105
def Q_cchk2 (Z : State) (s v : Addr) (kv : ClassId) (cs : Int32) (fm : Value) (c0 c1 of : Int32) (h0 : Heap) (vR : Option Value) (hR : Heap) (LR : List Loc) : Prop := vR = some (.ref s) ∧ Fr Z.heap.size LR ∧ Keep h0 hR []
theorem cchk2 (l : Launch) (Z : State) (a0 : Array Value) (hw : ∀ d ∈ tables_1, d.before a0 Z = true) (s v : Addr) (kv : ClassId) (cs : Int32) (fm : Value) (c0 c1 of : Int32) (h0 : Heap) (O0 : Ext Z.heap h0) (Es : Exa Z h0 s xS0) (Cs : Fld Z h0 s xS0 "coder" "B" (.int 0)) (Fs : Fld Z h0 s xS0 "value" "[B" (.ref v)) (Vs : Arv Z h0 v kv .byte (2 : Int32) [(.int (c0.toInt8.toInt32)), (.int (c1.toInt8.toInt32))] (.int 0)) (SCS : Sta Z Z.heap xS0 xS3 "Z" (.int cs)) (SFM : Sta Z Z.heap xS6 "SIOOBE_FORMATTER" xS9 fm) (hcs : ¬ (cs = (0 : Int32))) (hfm : fm.isRef = true) (he0 : ETC c0) (he1 : ETC c1) :
    CtrH l Z consts_1 h0 (⟨xS1, "checkedValue", "(Ljava/lang/String;I)Ljava/lang/String;"⟩ : MethodName) k11 6 (some (.object xS0)) [] ({ frames := 4, cells := 2, slots := 24, locals := 53 } : Room) #[(.ref s), (.int of)] (Q_cchk2 Z s v kv cs fm c0 c1 of h0) := by
  refine enterH (plainFor_of_name pn6) ?_
  intro pp ee ss mm below meth cc s₁ hx hby hml hZ hown hnm hret hlk X0 e0 hs0 hS hC
  replace hown : (ss.setVm ss.vm).vm.findClass xS1 = some mm.cls := hown
  have hKd := Nat.zero_le h0.size
  refine Go.r (congrArg s₁.setTop (ef_cchk2 mm s of)) ?_
  have N0 := Fr.nil Z.heap.size
  have KP := Keep.refl h0 []
  show Go pp ee below _ (s₁.setTop (mkF mm 0 #[.val (.ref s), .val (.int of), .unset, .unset, .unset, .unset] []))
  refine Go.g X0 hx (hb hby d11_0) rfl rfl (q := 1) rfl ?_
  refine Go.jt X0 hx hZ hown (wd53 hw) (own_wS hw) e0 hS hKd (own_EW hw) hC (hb hby d11_1) (nn := 20) (by decide) (by decide) (by decide) (by decide) (q := 3) rfl ?_
  intro b101 T101 h101 k101 X101 e101 E101 hS hKd hZ hown hR101
  replace hC := hC.trans hR101
  replace Es := Es.ext E101
  replace Cs := Cs.ext E101
  replace Fs := Fs.ext E101
  replace Vs := Vs.ext E101
  have OE101 := ext_trans O0 E101
  replace KP := KP.ext E101
  refine Go.A X101 hx hZ hown (wd54 hw) (wd55 hw) (wd56 hw) (wd57 hw) (by decide) (creq l Z a0 hw s b101 h101 OE101) e101 (by rw [hml]; rfl) (hb hby d11_3) (argsL := [(.ref s), (.ref b101)]) (rest := []) (lenOf pd9 rfl) rfl rfl (W := 0) (Nat.le_refl _) (by decide) ?_
  intro v102 T102 L102 X102 hQ102
  obtain ⟨rfl, N102q, e102⟩ := hQ102
  have N102 := Fr.app N0 N102q
  refine Go.jo X102 hx (hb hby d11_6) rfl (q := 7) rfl ?_
  refine Go.i X102 hx (hb hby d11_7) (r := (0 : Int32)) rfl (q := 8) rfl ?_
  refine Go.P X102 hx (hb hby d11_8) (l' := #[.val (.ref s), .val (.int of), .val (.int 0), .unset, .unset, .unset]) rfl (q := 9) rfl ?_
  refine Go.f X102 hx (hb hby d11_9) rfl (q := 10) rfl ?_
  refine Go.g X102 hx (hb hby d11_10) rfl rfl (q := 11) rfl ?_
  refine Go.u X102 hx hZ hown (wd58 hw) (wd59 hw) (notFace_of_selects (args := #[]) (mvT hZ (wd61 hw))) (wd61 hw) (wd60 hw) (wd7 hw) (wd62 hw) (by decide) (clen l Z a0 hw s cs v (kv) ((2 : Int32)) ([(.int (c0.toInt8.toInt32)), (.int (c1.toInt8.toInt32))]) h101 OE101 Es Cs Fs Vs SCS hcs) e102 Es (by rw [hml]; rfl) (hb hby d11_11) (argsL := []) (rest := [(.int 0)]) (lenOf pd10 rfl) rfl rfl (W := 1) (Nat.le_refl _) (by decide) ?_
  intro v103 T103 L103 X103 hQ103
  obtain ⟨rfl, N103q, e103⟩ := hQ103
  have N103 := Fr.app N102 N103q
  refine Go.t X103 hx (hb hby d11_14) (by decide) (q := 17) rfl ?_
  refine Go.g X103 hx (hb hby d11_17) rfl rfl (q := 18) rfl ?_
  refine Go.f X103 hx (hb hby d11_18) rfl (q := 19) rfl ?_
  refine Go.u X103 hx hZ hown (wd245 hw) (wd246 hw) (notFace_of_selects (args := #[]) (mvT hZ (wd248 hw))) (wd248 hw) (wd247 hw) (wd7 hw) (wd249 hw) (by decide) (cchar l Z a0 hw s ((0 : Int32)) cs v (kv) ((2 : Int32)) ([(.int (c0.toInt8.toInt32)), (.int (c1.toInt8.toInt32))]) ((c0.toInt8.toInt32)) fm h101 OE101 Es Cs Fs Vs SCS SFM hcs hfm (by decide) (by decide) rfl) e103 Es (by rw [hml]; rfl) (hb hby d11_19) (argsL := [(.int 0)]) (rest := []) (lenOf pd11 rfl) rfl rfl (W := 0) (Nat.le_refl _) (by decide) ?_
  intro v104 T104 L104 X104 hQ104
  obtain ⟨rfl, N104q, e104⟩ := hQ104
  have N104 := Fr.app N103 N104q
  rw [own_ech he0]
  show Go pp ee below _ (T104.setTop (mkF mm 22 #[.val (.ref s), .val (.int of), .val (.int 0), .unset, .unset, .unset] [(.int c0)]))
  refine Go.P X104 hx (hb hby d11_22) (l' := #[.val (.ref s), .val (.int of), .val (.int 0), .val (.int c0), .unset, .unset]) rfl (q := 23) rfl ?_
  have J127_105 : Go pp ee below (KKH Z consts_1 ss (Q_cchk2 Z s v kv cs fm c0 c1 of h0) ({ frames := 4, cells := 2, slots := 24, locals := 53 } : Room).cells ({ frames := 4, cells := 2, slots := 24, locals := 53 } : Room).slots) (T104.setTop (mkF mm 127 #[.val (.ref s), .val (.int of), .val (.int 0), .val (.int c0), .val (.int 1), .unset] [])) := by
    refine Go.H X104 hx (hb hby d11_127) rfl (r := (1 : Int32)) rfl (l' := #[.val (.ref s), .val (.int of), .val (.int 1), .val (.int c0), .val (.int 1), .unset]) rfl (q := 130) rfl ?_
    refine Go.D X104 hx (hb hby d11_130) (q := 9) (by decide) (by decide) ?_
    refine Go.f X104 hx (hb hby d11_9) rfl (q := 10) rfl ?_
    refine Go.g X104 hx (hb hby d11_10) rfl rfl (q := 11) rfl ?_
    refine Go.u X104 hx hZ hown (wd58 hw) (wd59 hw) (notFace_of_selects (args := #[]) (mvT hZ (wd61 hw))) (wd61 hw) (wd60 hw) (wd7 hw) (wd62 hw) (by decide) (clen l Z a0 hw s cs v (kv) ((2 : Int32)) ([(.int (c0.toInt8.toInt32)), (.int (c1.toInt8.toInt32))]) h101 OE101 Es Cs Fs Vs SCS hcs) e104 Es (by rw [hml]; rfl) (hb hby d11_11) (argsL := []) (rest := [(.int 1)]) (lenOf pd10 rfl) rfl rfl (W := 1) (Nat.le_refl _) (by decide) ?_
    intro v106 T106 L106 X106 hQ106
    obtain ⟨rfl, N106q, e106⟩ := hQ106
    have N106 := Fr.app N104 N106q
    refine Go.t X106 hx (hb hby d11_14) (by decide) (q := 17) rfl ?_
    refine Go.g X106 hx (hb hby d11_17) rfl rfl (q := 18) rfl ?_
    refine Go.f X106 hx (hb hby d11_18) rfl (q := 19) rfl ?_
    refine Go.u X106 hx hZ hown (wd245 hw) (wd246 hw) (notFace_of_selects (args := #[]) (mvT hZ (wd248 hw))) (wd248 hw) (wd247 hw) (wd7 hw) (wd249 hw) (by decide) (cchar l Z a0 hw s ((1 : Int32)) cs v (kv) ((2 : Int32)) ([(.int (c0.toInt8.toInt32)), (.int (c1.toInt8.toInt32))]) ((c1.toInt8.toInt32)) fm h101 OE101 Es Cs Fs Vs SCS SFM hcs hfm (by decide) (by decide) rfl) e106 Es (by rw [hml]; rfl) (hb hby d11_19) (argsL := [(.int 1)]) (rest := []) (lenOf pd11 rfl) rfl rfl (W := 0) (Nat.le_refl _) (by decide) ?_
    intro v107 T107 L107 X107 hQ107
    obtain ⟨rfl, N107q, e107⟩ := hQ107
    have N107 := Fr.app N106 N107q
    rw [own_ech he1]
    show Go pp ee below _ (T107.setTop (mkF mm 22 #[.val (.ref s), .val (.int of), .val (.int 1), .val (.int c0), .val (.int 1), .unset] [(.int c1)]))
    refine Go.P X107 hx (hb hby d11_22) (l' := #[.val (.ref s), .val (.int of), .val (.int 1), .val (.int c1), .val (.int 1), .unset]) rfl (q := 23) rfl ?_
    have J127_108 : Go pp ee below (KKH Z consts_1 ss (Q_cchk2 Z s v kv cs fm c0 c1 of h0) ({ frames := 4, cells := 2, slots := 24, locals := 53 } : Room).cells ({ frames := 4, cells := 2, slots := 24, locals := 53 } : Room).slots) (T107.setTop (mkF mm 127 #[.val (.ref s), .val (.int of), .val (.int 1), .val (.int c1), .val (.int 1), .unset] [])) := by
      refine Go.H X107 hx (hb hby d11_127) rfl (r := (2 : Int32)) rfl (l' := #[.val (.ref s), .val (.int of), .val (.int 2), .val (.int c1), .val (.int 1), .unset]) rfl (q := 130) rfl ?_
      refine Go.D X107 hx (hb hby d11_130) (q := 9) (by decide) (by decide) ?_
      refine Go.f X107 hx (hb hby d11_9) rfl (q := 10) rfl ?_
      refine Go.g X107 hx (hb hby d11_10) rfl rfl (q := 11) rfl ?_
      refine Go.u X107 hx hZ hown (wd58 hw) (wd59 hw) (notFace_of_selects (args := #[]) (mvT hZ (wd61 hw))) (wd61 hw) (wd60 hw) (wd7 hw) (wd62 hw) (by decide) (clen l Z a0 hw s cs v (kv) ((2 : Int32)) ([(.int (c0.toInt8.toInt32)), (.int (c1.toInt8.toInt32))]) h101 OE101 Es Cs Fs Vs SCS hcs) e107 Es (by rw [hml]; rfl) (hb hby d11_11) (argsL := []) (rest := [(.int 2)]) (lenOf pd10 rfl) rfl rfl (W := 1) (Nat.le_refl _) (by decide) ?_
      intro v109 T109 L109 X109 hQ109
      obtain ⟨rfl, N109q, e109⟩ := hQ109
      have N109 := Fr.app N107 N109q
      refine Go.y X109 hx (hb hby d11_14) (by decide) (q := 133) (by decide) (by decide) ?_
      refine Go.g X109 hx (hb hby d11_133) rfl rfl (q := 134) rfl ?_
      exact Go.jm X109 hx hS hKd hs0 hZ (own_EW hw) hC hret hlk rfl rfl (hb hby d11_134) e109 (by decide) (by decide) ⟨rfl, N109, KP⟩
    rcases own_et3 he1 with a110 | ⟨a110, b110, c110x⟩ | ⟨a110, b110, c110x, d110x, f110⟩
    · show Go pp ee below _ (T107.setTop (mkF mm 23 #[.val (.ref s), .val (.int of), .val (.int 1), .val (.int c1), .val (.int 1), .unset] []))
      refine Go.f X107 hx (hb hby d11_23) rfl (q := 24) rfl ?_
      refine Go.E X107 hx (hb hby d11_24) (r := (33 : Int32)) rfl (q := 26) rfl ?_
      refine Go.y X107 hx (hb hby d11_26) (Jvm.Free.XT.ii_eq_t a110) (q := 55) (by decide) (by decide) ?_
      refine Go.i X107 hx (hb hby d11_55) (r := (1 : Int32)) rfl (q := 56) rfl ?_
      refine Go.D X107 hx (hb hby d11_56) (q := 60) (by decide) (by decide) ?_
      refine Go.G X107 hx (hb hby d11_60) (l' := #[.val (.ref s), .val (.int of), .val (.int 1), .val (.int c1), .val (.int 1), .unset]) rfl (q := 62) rfl ?_
      refine Go.o X107 hx (hb hby d11_62) rfl (q := 64) rfl ?_
      refine Go.F X107 hx (hb hby d11_64) (by decide) (q := 127) (by decide) (by decide) ?_
      exact J127_108
    · show Go pp ee below _ (T107.setTop (mkF mm 23 #[.val (.ref s), .val (.int of), .val (.int 1), .val (.int c1), .val (.int 1), .unset] []))
      refine Go.f X107 hx (hb hby d11_23) rfl (q := 24) rfl ?_
      refine Go.E X107 hx (hb hby d11_24) (r := (33 : Int32)) rfl (q := 26) rfl ?_
      refine Go.t X107 hx (hb hby d11_26) (Jvm.Free.XT.ii_eq_f a110) (q := 29) rfl ?_
      refine Go.f X107 hx (hb hby d11_29) rfl (q := 30) rfl ?_
      refine Go.E X107 hx (hb hby d11_30) (r := (35 : Int32)) rfl (q := 32) rfl ?_
      refine Go.t X107 hx (hb hby d11_32) (Jvm.Free.XT.ii_lt_f b110) (q := 35) rfl ?_
      refine Go.f X107 hx (hb hby d11_35) rfl (q := 36) rfl ?_
      refine Go.E X107 hx (hb hby d11_36) (r := (126 : Int32)) rfl (q := 38) rfl ?_
      refine Go.y X107 hx (hb hby d11_38) (Jvm.Free.XT.ii_le_t c110x) (q := 55) (by decide) (by decide) ?_
      refine Go.i X107 hx (hb hby d11_55) (r := (1 : Int32)) rfl (q := 56) rfl ?_
      refine Go.D X107 hx (hb hby d11_56) (q := 60) (by decide) (by decide) ?_
      refine Go.G X107 hx (hb hby d11_60) (l' := #[.val (.ref s), .val (.int of), .val (.int 1), .val (.int c1), .val (.int 1), .unset]) rfl (q := 62) rfl ?_
      refine Go.o X107 hx (hb hby d11_62) rfl (q := 64) rfl ?_
      refine Go.F X107 hx (hb hby d11_64) (by decide) (q := 127) (by decide) (by decide) ?_
      exact J127_108
    · show Go pp ee below _ (T107.setTop (mkF mm 23 #[.val (.ref s), .val (.int of), .val (.int 1), .val (.int c1), .val (.int 1), .unset] []))
      refine Go.f X107 hx (hb hby d11_23) rfl (q := 24) rfl ?_
      refine Go.E X107 hx (hb hby d11_24) (r := (33 : Int32)) rfl (q := 26) rfl ?_
      refine Go.t X107 hx (hb hby d11_26) (Jvm.Free.XT.ii_eq_f a110) (q := 29) rfl ?_
      refine Go.f X107 hx (hb hby d11_29) rfl (q := 30) rfl ?_
      refine Go.E X107 hx (hb hby d11_30) (r := (35 : Int32)) rfl (q := 32) rfl ?_
      refine Go.t X107 hx (hb hby d11_32) (Jvm.Free.XT.ii_lt_f b110) (q := 35) rfl ?_
      refine Go.f X107 hx (hb hby d11_35) rfl (q := 36) rfl ?_
      refine Go.E X107 hx (hb hby d11_36) (r := (126 : Int32)) rfl (q := 38) rfl ?_
      refine Go.t X107 hx (hb hby d11_38) (Jvm.Free.XT.ii_le_f c110x) (q := 41) rfl ?_
      refine Go.f X107 hx (hb hby d11_41) rfl (q := 42) rfl ?_
      refine Go.X X107 hx (hb hby d11_42) (r := (128 : Int32)) rfl (q := 45) rfl ?_
      refine Go.t X107 hx (hb hby d11_45) (Jvm.Free.XT.ii_lt_f d110x) (q := 48) rfl ?_
      refine Go.f X107 hx (hb hby d11_48) rfl (q := 49) rfl ?_
      refine Go.X X107 hx (hb hby d11_49) (r := (255 : Int32)) rfl (q := 52) rfl ?_
      refine Go.t X107 hx (hb hby d11_52) (Jvm.Free.XT.ii_gt_f f110) (q := 55) rfl ?_
      refine Go.i X107 hx (hb hby d11_55) (r := (1 : Int32)) rfl (q := 56) rfl ?_
      refine Go.D X107 hx (hb hby d11_56) (q := 60) (by decide) (by decide) ?_
      refine Go.G X107 hx (hb hby d11_60) (l' := #[.val (.ref s), .val (.int of), .val (.int 1), .val (.int c1), .val (.int 1), .unset]) rfl (q := 62) rfl ?_
      refine Go.o X107 hx (hb hby d11_62) rfl (q := 64) rfl ?_
      refine Go.F X107 hx (hb hby d11_64) (by decide) (q := 127) (by decide) (by decide) ?_
      exact J127_108
  rcases own_et3 he0 with a111 | ⟨a111, b111, c111x⟩ | ⟨a111, b111, c111x, d111x, f111⟩
  · show Go pp ee below _ (T104.setTop (mkF mm 23 #[.val (.ref s), .val (.int of), .val (.int 0), .val (.int c0), .unset, .unset] []))
    refine Go.f X104 hx (hb hby d11_23) rfl (q := 24) rfl ?_
    refine Go.E X104 hx (hb hby d11_24) (r := (33 : Int32)) rfl (q := 26) rfl ?_
    refine Go.y X104 hx (hb hby d11_26) (Jvm.Free.XT.ii_eq_t a111) (q := 55) (by decide) (by decide) ?_
    refine Go.i X104 hx (hb hby d11_55) (r := (1 : Int32)) rfl (q := 56) rfl ?_
    refine Go.D X104 hx (hb hby d11_56) (q := 60) (by decide) (by decide) ?_
    refine Go.G X104 hx (hb hby d11_60) (l' := #[.val (.ref s), .val (.int of), .val (.int 0), .val (.int c0), .val (.int 1), .unset]) rfl (q := 62) rfl ?_
    refine Go.o X104 hx (hb hby d11_62) rfl (q := 64) rfl ?_
    refine Go.F X104 hx (hb hby d11_64) (by decide) (q := 127) (by decide) (by decide) ?_
    exact J127_105
  · show Go pp ee below _ (T104.setTop (mkF mm 23 #[.val (.ref s), .val (.int of), .val (.int 0), .val (.int c0), .unset, .unset] []))
    refine Go.f X104 hx (hb hby d11_23) rfl (q := 24) rfl ?_
    refine Go.E X104 hx (hb hby d11_24) (r := (33 : Int32)) rfl (q := 26) rfl ?_
    refine Go.t X104 hx (hb hby d11_26) (Jvm.Free.XT.ii_eq_f a111) (q := 29) rfl ?_
    refine Go.f X104 hx (hb hby d11_29) rfl (q := 30) rfl ?_
    refine Go.E X104 hx (hb hby d11_30) (r := (35 : Int32)) rfl (q := 32) rfl ?_
    refine Go.t X104 hx (hb hby d11_32) (Jvm.Free.XT.ii_lt_f b111) (q := 35) rfl ?_
    refine Go.f X104 hx (hb hby d11_35) rfl (q := 36) rfl ?_
    refine Go.E X104 hx (hb hby d11_36) (r := (126 : Int32)) rfl (q := 38) rfl ?_
    refine Go.y X104 hx (hb hby d11_38) (Jvm.Free.XT.ii_le_t c111x) (q := 55) (by decide) (by decide) ?_
    refine Go.i X104 hx (hb hby d11_55) (r := (1 : Int32)) rfl (q := 56) rfl ?_
    refine Go.D X104 hx (hb hby d11_56) (q := 60) (by decide) (by decide) ?_
    refine Go.G X104 hx (hb hby d11_60) (l' := #[.val (.ref s), .val (.int of), .val (.int 0), .val (.int c0), .val (.int 1), .unset]) rfl (q := 62) rfl ?_
    refine Go.o X104 hx (hb hby d11_62) rfl (q := 64) rfl ?_
    refine Go.F X104 hx (hb hby d11_64) (by decide) (q := 127) (by decide) (by decide) ?_
    exact J127_105
  · show Go pp ee below _ (T104.setTop (mkF mm 23 #[.val (.ref s), .val (.int of), .val (.int 0), .val (.int c0), .unset, .unset] []))
    refine Go.f X104 hx (hb hby d11_23) rfl (q := 24) rfl ?_
    refine Go.E X104 hx (hb hby d11_24) (r := (33 : Int32)) rfl (q := 26) rfl ?_
    refine Go.t X104 hx (hb hby d11_26) (Jvm.Free.XT.ii_eq_f a111) (q := 29) rfl ?_
    refine Go.f X104 hx (hb hby d11_29) rfl (q := 30) rfl ?_
    refine Go.E X104 hx (hb hby d11_30) (r := (35 : Int32)) rfl (q := 32) rfl ?_
    refine Go.t X104 hx (hb hby d11_32) (Jvm.Free.XT.ii_lt_f b111) (q := 35) rfl ?_
    refine Go.f X104 hx (hb hby d11_35) rfl (q := 36) rfl ?_
    refine Go.E X104 hx (hb hby d11_36) (r := (126 : Int32)) rfl (q := 38) rfl ?_
    refine Go.t X104 hx (hb hby d11_38) (Jvm.Free.XT.ii_le_f c111x) (q := 41) rfl ?_
    refine Go.f X104 hx (hb hby d11_41) rfl (q := 42) rfl ?_
    refine Go.X X104 hx (hb hby d11_42) (r := (128 : Int32)) rfl (q := 45) rfl ?_
    refine Go.t X104 hx (hb hby d11_45) (Jvm.Free.XT.ii_lt_f d111x) (q := 48) rfl ?_
    refine Go.f X104 hx (hb hby d11_48) rfl (q := 49) rfl ?_
    refine Go.X X104 hx (hb hby d11_49) (r := (255 : Int32)) rfl (q := 52) rfl ?_
    refine Go.t X104 hx (hb hby d11_52) (Jvm.Free.XT.ii_gt_f f111) (q := 55) rfl ?_
    refine Go.i X104 hx (hb hby d11_55) (r := (1 : Int32)) rfl (q := 56) rfl ?_
    refine Go.D X104 hx (hb hby d11_56) (q := 60) (by decide) (by decide) ?_
    refine Go.G X104 hx (hb hby d11_60) (l' := #[.val (.ref s), .val (.int of), .val (.int 0), .val (.int c0), .val (.int 1), .unset]) rfl (q := 62) rfl ?_
    refine Go.o X104 hx (hb hby d11_62) rfl (q := 64) rfl ?_
    refine Go.F X104 hx (hb hby d11_64) (by decide) (q := 127) (by decide) (by decide) ?_
    exact J127_105
def Q_cchk3 (Z : State) (s v : Addr) (kv : ClassId) (cs : Int32) (fm : Value) (c0 c1 c2 of : Int32) (h0 : Heap) (vR : Option Value) (hR : Heap) (LR : List Loc) : Prop := vR = some (.ref s) ∧ Fr Z.heap.size LR ∧ Keep h0 hR []
theorem cchk3 (l : Launch) (Z : State) (a0 : Array Value) (hw : ∀ d ∈ tables_1, d.before a0 Z = true) (s v : Addr) (kv : ClassId) (cs : Int32) (fm : Value) (c0 c1 c2 of : Int32) (h0 : Heap) (O0 : Ext Z.heap h0) (Es : Exa Z h0 s xS0) (Cs : Fld Z h0 s xS0 "coder" "B" (.int 0)) (Fs : Fld Z h0 s xS0 "value" "[B" (.ref v)) (Vs : Arv Z h0 v kv .byte (3 : Int32) [(.int (c0.toInt8.toInt32)), (.int (c1.toInt8.toInt32)), (.int (c2.toInt8.toInt32))] (.int 0)) (SCS : Sta Z Z.heap xS0 xS3 "Z" (.int cs)) (SFM : Sta Z Z.heap xS6 "SIOOBE_FORMATTER" xS9 fm) (hcs : ¬ (cs = (0 : Int32))) (hfm : fm.isRef = true) (he0 : ETC c0) (he1 : ETC c1) (he2 : ETC c2) :
    CtrH l Z consts_1 h0 (⟨xS1, "checkedValue", "(Ljava/lang/String;I)Ljava/lang/String;"⟩ : MethodName) k11 6 (some (.object xS0)) [] ({ frames := 4, cells := 2, slots := 24, locals := 53 } : Room) #[(.ref s), (.int of)] (Q_cchk3 Z s v kv cs fm c0 c1 c2 of h0) := by
  refine enterH (plainFor_of_name pn6) ?_
  intro pp ee ss mm below meth cc s₁ hx hby hml hZ hown hnm hret hlk X0 e0 hs0 hS hC
  replace hown : (ss.setVm ss.vm).vm.findClass xS1 = some mm.cls := hown
  have hKd := Nat.zero_le h0.size
  refine Go.r (congrArg s₁.setTop (ef_cchk3 mm s of)) ?_
  have N0 := Fr.nil Z.heap.size
  have KP := Keep.refl h0 []
  show Go pp ee below _ (s₁.setTop (mkF mm 0 #[.val (.ref s), .val (.int of), .unset, .unset, .unset, .unset] []))
  refine Go.g X0 hx (hb hby d11_0) rfl rfl (q := 1) rfl ?_
  refine Go.jt X0 hx hZ hown (wd53 hw) (own_wS hw) e0 hS hKd (own_EW hw) hC (hb hby d11_1) (nn := 20) (by decide) (by decide) (by decide) (by decide) (q := 3) rfl ?_
  intro b101 T101 h101 k101 X101 e101 E101 hS hKd hZ hown hR101
  replace hC := hC.trans hR101
  replace Es := Es.ext E101
  replace Cs := Cs.ext E101
  replace Fs := Fs.ext E101
  replace Vs := Vs.ext E101
  have OE101 := ext_trans O0 E101
  replace KP := KP.ext E101
  refine Go.A X101 hx hZ hown (wd54 hw) (wd55 hw) (wd56 hw) (wd57 hw) (by decide) (creq l Z a0 hw s b101 h101 OE101) e101 (by rw [hml]; rfl) (hb hby d11_3) (argsL := [(.ref s), (.ref b101)]) (rest := []) (lenOf pd9 rfl) rfl rfl (W := 0) (Nat.le_refl _) (by decide) ?_
  intro v102 T102 L102 X102 hQ102
  obtain ⟨rfl, N102q, e102⟩ := hQ102
  have N102 := Fr.app N0 N102q
  refine Go.jo X102 hx (hb hby d11_6) rfl (q := 7) rfl ?_
  refine Go.i X102 hx (hb hby d11_7) (r := (0 : Int32)) rfl (q := 8) rfl ?_
  refine Go.P X102 hx (hb hby d11_8) (l' := #[.val (.ref s), .val (.int of), .val (.int 0), .unset, .unset, .unset]) rfl (q := 9) rfl ?_
  refine Go.f X102 hx (hb hby d11_9) rfl (q := 10) rfl ?_
  refine Go.g X102 hx (hb hby d11_10) rfl rfl (q := 11) rfl ?_
  refine Go.u X102 hx hZ hown (wd58 hw) (wd59 hw) (notFace_of_selects (args := #[]) (mvT hZ (wd61 hw))) (wd61 hw) (wd60 hw) (wd7 hw) (wd62 hw) (by decide) (clen l Z a0 hw s cs v (kv) ((3 : Int32)) ([(.int (c0.toInt8.toInt32)), (.int (c1.toInt8.toInt32)), (.int (c2.toInt8.toInt32))]) h101 OE101 Es Cs Fs Vs SCS hcs) e102 Es (by rw [hml]; rfl) (hb hby d11_11) (argsL := []) (rest := [(.int 0)]) (lenOf pd10 rfl) rfl rfl (W := 1) (Nat.le_refl _) (by decide) ?_
  intro v103 T103 L103 X103 hQ103
  obtain ⟨rfl, N103q, e103⟩ := hQ103
  have N103 := Fr.app N102 N103q
  refine Go.t X103 hx (hb hby d11_14) (by decide) (q := 17) rfl ?_
  refine Go.g X103 hx (hb hby d11_17) rfl rfl (q := 18) rfl ?_
  refine Go.f X103 hx (hb hby d11_18) rfl (q := 19) rfl ?_
  refine Go.u X103 hx hZ hown (wd245 hw) (wd246 hw) (notFace_of_selects (args := #[]) (mvT hZ (wd248 hw))) (wd248 hw) (wd247 hw) (wd7 hw) (wd249 hw) (by decide) (cchar l Z a0 hw s ((0 : Int32)) cs v (kv) ((3 : Int32)) ([(.int (c0.toInt8.toInt32)), (.int (c1.toInt8.toInt32)), (.int (c2.toInt8.toInt32))]) ((c0.toInt8.toInt32)) fm h101 OE101 Es Cs Fs Vs SCS SFM hcs hfm (by decide) (by decide) rfl) e103 Es (by rw [hml]; rfl) (hb hby d11_19) (argsL := [(.int 0)]) (rest := []) (lenOf pd11 rfl) rfl rfl (W := 0) (Nat.le_refl _) (by decide) ?_
  intro v104 T104 L104 X104 hQ104
  obtain ⟨rfl, N104q, e104⟩ := hQ104
  have N104 := Fr.app N103 N104q
  rw [own_ech he0]
  show Go pp ee below _ (T104.setTop (mkF mm 22 #[.val (.ref s), .val (.int of), .val (.int 0), .unset, .unset, .unset] [(.int c0)]))
  refine Go.P X104 hx (hb hby d11_22) (l' := #[.val (.ref s), .val (.int of), .val (.int 0), .val (.int c0), .unset, .unset]) rfl (q := 23) rfl ?_
  have J127_105 : Go pp ee below (KKH Z consts_1 ss (Q_cchk3 Z s v kv cs fm c0 c1 c2 of h0) ({ frames := 4, cells := 2, slots := 24, locals := 53 } : Room).cells ({ frames := 4, cells := 2, slots := 24, locals := 53 } : Room).slots) (T104.setTop (mkF mm 127 #[.val (.ref s), .val (.int of), .val (.int 0), .val (.int c0), .val (.int 1), .unset] [])) := by
    refine Go.H X104 hx (hb hby d11_127) rfl (r := (1 : Int32)) rfl (l' := #[.val (.ref s), .val (.int of), .val (.int 1), .val (.int c0), .val (.int 1), .unset]) rfl (q := 130) rfl ?_
    refine Go.D X104 hx (hb hby d11_130) (q := 9) (by decide) (by decide) ?_
    refine Go.f X104 hx (hb hby d11_9) rfl (q := 10) rfl ?_
    refine Go.g X104 hx (hb hby d11_10) rfl rfl (q := 11) rfl ?_
    refine Go.u X104 hx hZ hown (wd58 hw) (wd59 hw) (notFace_of_selects (args := #[]) (mvT hZ (wd61 hw))) (wd61 hw) (wd60 hw) (wd7 hw) (wd62 hw) (by decide) (clen l Z a0 hw s cs v (kv) ((3 : Int32)) ([(.int (c0.toInt8.toInt32)), (.int (c1.toInt8.toInt32)), (.int (c2.toInt8.toInt32))]) h101 OE101 Es Cs Fs Vs SCS hcs) e104 Es (by rw [hml]; rfl) (hb hby d11_11) (argsL := []) (rest := [(.int 1)]) (lenOf pd10 rfl) rfl rfl (W := 1) (Nat.le_refl _) (by decide) ?_
    intro v106 T106 L106 X106 hQ106
    obtain ⟨rfl, N106q, e106⟩ := hQ106
    have N106 := Fr.app N104 N106q
    refine Go.t X106 hx (hb hby d11_14) (by decide) (q := 17) rfl ?_
    refine Go.g X106 hx (hb hby d11_17) rfl rfl (q := 18) rfl ?_
    refine Go.f X106 hx (hb hby d11_18) rfl (q := 19) rfl ?_
    refine Go.u X106 hx hZ hown (wd245 hw) (wd246 hw) (notFace_of_selects (args := #[]) (mvT hZ (wd248 hw))) (wd248 hw) (wd247 hw) (wd7 hw) (wd249 hw) (by decide) (cchar l Z a0 hw s ((1 : Int32)) cs v (kv) ((3 : Int32)) ([(.int (c0.toInt8.toInt32)), (.int (c1.toInt8.toInt32)), (.int (c2.toInt8.toInt32))]) ((c1.toInt8.toInt32)) fm h101 OE101 Es Cs Fs Vs SCS SFM hcs hfm (by decide) (by decide) rfl) e106 Es (by rw [hml]; rfl) (hb hby d11_19) (argsL := [(.int 1)]) (rest := []) (lenOf pd11 rfl) rfl rfl (W := 0) (Nat.le_refl _) (by decide) ?_
    intro v107 T107 L107 X107 hQ107
    obtain ⟨rfl, N107q, e107⟩ := hQ107
    have N107 := Fr.app N106 N107q
    rw [own_ech he1]
    show Go pp ee below _ (T107.setTop (mkF mm 22 #[.val (.ref s), .val (.int of), .val (.int 1), .val (.int c0), .val (.int 1), .unset] [(.int c1)]))
    refine Go.P X107 hx (hb hby d11_22) (l' := #[.val (.ref s), .val (.int of), .val (.int 1), .val (.int c1), .val (.int 1), .unset]) rfl (q := 23) rfl ?_
    have J127_108 : Go pp ee below (KKH Z consts_1 ss (Q_cchk3 Z s v kv cs fm c0 c1 c2 of h0) ({ frames := 4, cells := 2, slots := 24, locals := 53 } : Room).cells ({ frames := 4, cells := 2, slots := 24, locals := 53 } : Room).slots) (T107.setTop (mkF mm 127 #[.val (.ref s), .val (.int of), .val (.int 1), .val (.int c1), .val (.int 1), .unset] [])) := by
      refine Go.H X107 hx (hb hby d11_127) rfl (r := (2 : Int32)) rfl (l' := #[.val (.ref s), .val (.int of), .val (.int 2), .val (.int c1), .val (.int 1), .unset]) rfl (q := 130) rfl ?_
      refine Go.D X107 hx (hb hby d11_130) (q := 9) (by decide) (by decide) ?_
      refine Go.f X107 hx (hb hby d11_9) rfl (q := 10) rfl ?_
      refine Go.g X107 hx (hb hby d11_10) rfl rfl (q := 11) rfl ?_
      refine Go.u X107 hx hZ hown (wd58 hw) (wd59 hw) (notFace_of_selects (args := #[]) (mvT hZ (wd61 hw))) (wd61 hw) (wd60 hw) (wd7 hw) (wd62 hw) (by decide) (clen l Z a0 hw s cs v (kv) ((3 : Int32)) ([(.int (c0.toInt8.toInt32)), (.int (c1.toInt8.toInt32)), (.int (c2.toInt8.toInt32))]) h101 OE101 Es Cs Fs Vs SCS hcs) e107 Es (by rw [hml]; rfl) (hb hby d11_11) (argsL := []) (rest := [(.int 2)]) (lenOf pd10 rfl) rfl rfl (W := 1) (Nat.le_refl _) (by decide) ?_
      intro v109 T109 L109 X109 hQ109
      obtain ⟨rfl, N109q, e109⟩ := hQ109
      have N109 := Fr.app N107 N109q
      refine Go.t X109 hx (hb hby d11_14) (by decide) (q := 17) rfl ?_
      refine Go.g X109 hx (hb hby d11_17) rfl rfl (q := 18) rfl ?_
      refine Go.f X109 hx (hb hby d11_18) rfl (q := 19) rfl ?_
      refine Go.u X109 hx hZ hown (wd245 hw) (wd246 hw) (notFace_of_selects (args := #[]) (mvT hZ (wd248 hw))) (wd248 hw) (wd247 hw) (wd7 hw) (wd249 hw) (by decide) (cchar l Z a0 hw s ((2 : Int32)) cs v (kv) ((3 : Int32)) ([(.int (c0.toInt8.toInt32)), (.int (c1.toInt8.toInt32)), (.int (c2.toInt8.toInt32))]) ((c2.toInt8.toInt32)) fm h101 OE101 Es Cs Fs Vs SCS SFM hcs hfm (by decide) (by decide) rfl) e109 Es (by rw [hml]; rfl) (hb hby d11_19) (argsL := [(.int 2)]) (rest := []) (lenOf pd11 rfl) rfl rfl (W := 0) (Nat.le_refl _) (by decide) ?_
      intro v110 T110 L110 X110 hQ110
      obtain ⟨rfl, N110q, e110⟩ := hQ110
      have N110 := Fr.app N109 N110q
      rw [own_ech he2]
      show Go pp ee below _ (T110.setTop (mkF mm 22 #[.val (.ref s), .val (.int of), .val (.int 2), .val (.int c1), .val (.int 1), .unset] [(.int c2)]))
      refine Go.P X110 hx (hb hby d11_22) (l' := #[.val (.ref s), .val (.int of), .val (.int 2), .val (.int c2), .val (.int 1), .unset]) rfl (q := 23) rfl ?_
      have J127_111 : Go pp ee below (KKH Z consts_1 ss (Q_cchk3 Z s v kv cs fm c0 c1 c2 of h0) ({ frames := 4, cells := 2, slots := 24, locals := 53 } : Room).cells ({ frames := 4, cells := 2, slots := 24, locals := 53 } : Room).slots) (T110.setTop (mkF mm 127 #[.val (.ref s), .val (.int of), .val (.int 2), .val (.int c2), .val (.int 1), .unset] [])) := by
        refine Go.H X110 hx (hb hby d11_127) rfl (r := (3 : Int32)) rfl (l' := #[.val (.ref s), .val (.int of), .val (.int 3), .val (.int c2), .val (.int 1), .unset]) rfl (q := 130) rfl ?_
        refine Go.D X110 hx (hb hby d11_130) (q := 9) (by decide) (by decide) ?_
        refine Go.f X110 hx (hb hby d11_9) rfl (q := 10) rfl ?_
        refine Go.g X110 hx (hb hby d11_10) rfl rfl (q := 11) rfl ?_
        refine Go.u X110 hx hZ hown (wd58 hw) (wd59 hw) (notFace_of_selects (args := #[]) (mvT hZ (wd61 hw))) (wd61 hw) (wd60 hw) (wd7 hw) (wd62 hw) (by decide) (clen l Z a0 hw s cs v (kv) ((3 : Int32)) ([(.int (c0.toInt8.toInt32)), (.int (c1.toInt8.toInt32)), (.int (c2.toInt8.toInt32))]) h101 OE101 Es Cs Fs Vs SCS hcs) e110 Es (by rw [hml]; rfl) (hb hby d11_11) (argsL := []) (rest := [(.int 3)]) (lenOf pd10 rfl) rfl rfl (W := 1) (Nat.le_refl _) (by decide) ?_
        intro v112 T112 L112 X112 hQ112
        obtain ⟨rfl, N112q, e112⟩ := hQ112
        have N112 := Fr.app N110 N112q
        refine Go.y X112 hx (hb hby d11_14) (by decide) (q := 133) (by decide) (by decide) ?_
        refine Go.g X112 hx (hb hby d11_133) rfl rfl (q := 134) rfl ?_
        exact Go.jm X112 hx hS hKd hs0 hZ (own_EW hw) hC hret hlk rfl rfl (hb hby d11_134) e112 (by decide) (by decide) ⟨rfl, N112, KP⟩
      rcases own_et3 he2 with a113 | ⟨a113, b113, c113x⟩ | ⟨a113, b113, c113x, d113x, f113⟩
      · show Go pp ee below _ (T110.setTop (mkF mm 23 #[.val (.ref s), .val (.int of), .val (.int 2), .val (.int c2), .val (.int 1), .unset] []))
        refine Go.f X110 hx (hb hby d11_23) rfl (q := 24) rfl ?_
        refine Go.E X110 hx (hb hby d11_24) (r := (33 : Int32)) rfl (q := 26) rfl ?_
        refine Go.y X110 hx (hb hby d11_26) (Jvm.Free.XT.ii_eq_t a113) (q := 55) (by decide) (by decide) ?_
        refine Go.i X110 hx (hb hby d11_55) (r := (1 : Int32)) rfl (q := 56) rfl ?_
        refine Go.D X110 hx (hb hby d11_56) (q := 60) (by decide) (by decide) ?_
        refine Go.G X110 hx (hb hby d11_60) (l' := #[.val (.ref s), .val (.int of), .val (.int 2), .val (.int c2), .val (.int 1), .unset]) rfl (q := 62) rfl ?_
        refine Go.o X110 hx (hb hby d11_62) rfl (q := 64) rfl ?_
        refine Go.F X110 hx (hb hby d11_64) (by decide) (q := 127) (by decide) (by decide) ?_
        exact J127_111
      · show Go pp ee below _ (T110.setTop (mkF mm 23 #[.val (.ref s), .val (.int of), .val (.int 2), .val (.int c2), .val (.int 1), .unset] []))
        refine Go.f X110 hx (hb hby d11_23) rfl (q := 24) rfl ?_
        refine Go.E X110 hx (hb hby d11_24) (r := (33 : Int32)) rfl (q := 26) rfl ?_
        refine Go.t X110 hx (hb hby d11_26) (Jvm.Free.XT.ii_eq_f a113) (q := 29) rfl ?_
        refine Go.f X110 hx (hb hby d11_29) rfl (q := 30) rfl ?_
        refine Go.E X110 hx (hb hby d11_30) (r := (35 : Int32)) rfl (q := 32) rfl ?_
        refine Go.t X110 hx (hb hby d11_32) (Jvm.Free.XT.ii_lt_f b113) (q := 35) rfl ?_
        refine Go.f X110 hx (hb hby d11_35) rfl (q := 36) rfl ?_
        refine Go.E X110 hx (hb hby d11_36) (r := (126 : Int32)) rfl (q := 38) rfl ?_
        refine Go.y X110 hx (hb hby d11_38) (Jvm.Free.XT.ii_le_t c113x) (q := 55) (by decide) (by decide) ?_
        refine Go.i X110 hx (hb hby d11_55) (r := (1 : Int32)) rfl (q := 56) rfl ?_
        refine Go.D X110 hx (hb hby d11_56) (q := 60) (by decide) (by decide) ?_
        refine Go.G X110 hx (hb hby d11_60) (l' := #[.val (.ref s), .val (.int of), .val (.int 2), .val (.int c2), .val (.int 1), .unset]) rfl (q := 62) rfl ?_
        refine Go.o X110 hx (hb hby d11_62) rfl (q := 64) rfl ?_
        refine Go.F X110 hx (hb hby d11_64) (by decide) (q := 127) (by decide) (by decide) ?_
        exact J127_111
      · show Go pp ee below _ (T110.setTop (mkF mm 23 #[.val (.ref s), .val (.int of), .val (.int 2), .val (.int c2), .val (.int 1), .unset] []))
        refine Go.f X110 hx (hb hby d11_23) rfl (q := 24) rfl ?_
        refine Go.E X110 hx (hb hby d11_24) (r := (33 : Int32)) rfl (q := 26) rfl ?_
        refine Go.t X110 hx (hb hby d11_26) (Jvm.Free.XT.ii_eq_f a113) (q := 29) rfl ?_
        refine Go.f X110 hx (hb hby d11_29) rfl (q := 30) rfl ?_
        refine Go.E X110 hx (hb hby d11_30) (r := (35 : Int32)) rfl (q := 32) rfl ?_
        refine Go.t X110 hx (hb hby d11_32) (Jvm.Free.XT.ii_lt_f b113) (q := 35) rfl ?_
        refine Go.f X110 hx (hb hby d11_35) rfl (q := 36) rfl ?_
        refine Go.E X110 hx (hb hby d11_36) (r := (126 : Int32)) rfl (q := 38) rfl ?_
        refine Go.t X110 hx (hb hby d11_38) (Jvm.Free.XT.ii_le_f c113x) (q := 41) rfl ?_
        refine Go.f X110 hx (hb hby d11_41) rfl (q := 42) rfl ?_
        refine Go.X X110 hx (hb hby d11_42) (r := (128 : Int32)) rfl (q := 45) rfl ?_
        refine Go.t X110 hx (hb hby d11_45) (Jvm.Free.XT.ii_lt_f d113x) (q := 48) rfl ?_
        refine Go.f X110 hx (hb hby d11_48) rfl (q := 49) rfl ?_
        refine Go.X X110 hx (hb hby d11_49) (r := (255 : Int32)) rfl (q := 52) rfl ?_
        refine Go.t X110 hx (hb hby d11_52) (Jvm.Free.XT.ii_gt_f f113) (q := 55) rfl ?_
        refine Go.i X110 hx (hb hby d11_55) (r := (1 : Int32)) rfl (q := 56) rfl ?_
        refine Go.D X110 hx (hb hby d11_56) (q := 60) (by decide) (by decide) ?_
        refine Go.G X110 hx (hb hby d11_60) (l' := #[.val (.ref s), .val (.int of), .val (.int 2), .val (.int c2), .val (.int 1), .unset]) rfl (q := 62) rfl ?_
        refine Go.o X110 hx (hb hby d11_62) rfl (q := 64) rfl ?_
        refine Go.F X110 hx (hb hby d11_64) (by decide) (q := 127) (by decide) (by decide) ?_
        exact J127_111
    rcases own_et3 he1 with a114 | ⟨a114, b114, c114x⟩ | ⟨a114, b114, c114x, d114x, f114⟩
    · show Go pp ee below _ (T107.setTop (mkF mm 23 #[.val (.ref s), .val (.int of), .val (.int 1), .val (.int c1), .val (.int 1), .unset] []))
      refine Go.f X107 hx (hb hby d11_23) rfl (q := 24) rfl ?_
      refine Go.E X107 hx (hb hby d11_24) (r := (33 : Int32)) rfl (q := 26) rfl ?_
      refine Go.y X107 hx (hb hby d11_26) (Jvm.Free.XT.ii_eq_t a114) (q := 55) (by decide) (by decide) ?_
      refine Go.i X107 hx (hb hby d11_55) (r := (1 : Int32)) rfl (q := 56) rfl ?_
      refine Go.D X107 hx (hb hby d11_56) (q := 60) (by decide) (by decide) ?_
      refine Go.G X107 hx (hb hby d11_60) (l' := #[.val (.ref s), .val (.int of), .val (.int 1), .val (.int c1), .val (.int 1), .unset]) rfl (q := 62) rfl ?_
      refine Go.o X107 hx (hb hby d11_62) rfl (q := 64) rfl ?_
      refine Go.F X107 hx (hb hby d11_64) (by decide) (q := 127) (by decide) (by decide) ?_
      exact J127_108
    · show Go pp ee below _ (T107.setTop (mkF mm 23 #[.val (.ref s), .val (.int of), .val (.int 1), .val (.int c1), .val (.int 1), .unset] []))
      refine Go.f X107 hx (hb hby d11_23) rfl (q := 24) rfl ?_
      refine Go.E X107 hx (hb hby d11_24) (r := (33 : Int32)) rfl (q := 26) rfl ?_
      refine Go.t X107 hx (hb hby d11_26) (Jvm.Free.XT.ii_eq_f a114) (q := 29) rfl ?_
      refine Go.f X107 hx (hb hby d11_29) rfl (q := 30) rfl ?_
      refine Go.E X107 hx (hb hby d11_30) (r := (35 : Int32)) rfl (q := 32) rfl ?_
      refine Go.t X107 hx (hb hby d11_32) (Jvm.Free.XT.ii_lt_f b114) (q := 35) rfl ?_
      refine Go.f X107 hx (hb hby d11_35) rfl (q := 36) rfl ?_
      refine Go.E X107 hx (hb hby d11_36) (r := (126 : Int32)) rfl (q := 38) rfl ?_
      refine Go.y X107 hx (hb hby d11_38) (Jvm.Free.XT.ii_le_t c114x) (q := 55) (by decide) (by decide) ?_
      refine Go.i X107 hx (hb hby d11_55) (r := (1 : Int32)) rfl (q := 56) rfl ?_
      refine Go.D X107 hx (hb hby d11_56) (q := 60) (by decide) (by decide) ?_
      refine Go.G X107 hx (hb hby d11_60) (l' := #[.val (.ref s), .val (.int of), .val (.int 1), .val (.int c1), .val (.int 1), .unset]) rfl (q := 62) rfl ?_
      refine Go.o X107 hx (hb hby d11_62) rfl (q := 64) rfl ?_
      refine Go.F X107 hx (hb hby d11_64) (by decide) (q := 127) (by decide) (by decide) ?_
      exact J127_108
    · show Go pp ee below _ (T107.setTop (mkF mm 23 #[.val (.ref s), .val (.int of), .val (.int 1), .val (.int c1), .val (.int 1), .unset] []))
      refine Go.f X107 hx (hb hby d11_23) rfl (q := 24) rfl ?_
      refine Go.E X107 hx (hb hby d11_24) (r := (33 : Int32)) rfl (q := 26) rfl ?_
      refine Go.t X107 hx (hb hby d11_26) (Jvm.Free.XT.ii_eq_f a114) (q := 29) rfl ?_
      refine Go.f X107 hx (hb hby d11_29) rfl (q := 30) rfl ?_
      refine Go.E X107 hx (hb hby d11_30) (r := (35 : Int32)) rfl (q := 32) rfl ?_
      refine Go.t X107 hx (hb hby d11_32) (Jvm.Free.XT.ii_lt_f b114) (q := 35) rfl ?_
      refine Go.f X107 hx (hb hby d11_35) rfl (q := 36) rfl ?_
      refine Go.E X107 hx (hb hby d11_36) (r := (126 : Int32)) rfl (q := 38) rfl ?_
      refine Go.t X107 hx (hb hby d11_38) (Jvm.Free.XT.ii_le_f c114x) (q := 41) rfl ?_
      refine Go.f X107 hx (hb hby d11_41) rfl (q := 42) rfl ?_
      refine Go.X X107 hx (hb hby d11_42) (r := (128 : Int32)) rfl (q := 45) rfl ?_
      refine Go.t X107 hx (hb hby d11_45) (Jvm.Free.XT.ii_lt_f d114x) (q := 48) rfl ?_
      refine Go.f X107 hx (hb hby d11_48) rfl (q := 49) rfl ?_
      refine Go.X X107 hx (hb hby d11_49) (r := (255 : Int32)) rfl (q := 52) rfl ?_
      refine Go.t X107 hx (hb hby d11_52) (Jvm.Free.XT.ii_gt_f f114) (q := 55) rfl ?_
      refine Go.i X107 hx (hb hby d11_55) (r := (1 : Int32)) rfl (q := 56) rfl ?_
      refine Go.D X107 hx (hb hby d11_56) (q := 60) (by decide) (by decide) ?_
      refine Go.G X107 hx (hb hby d11_60) (l' := #[.val (.ref s), .val (.int of), .val (.int 1), .val (.int c1), .val (.int 1), .unset]) rfl (q := 62) rfl ?_
      refine Go.o X107 hx (hb hby d11_62) rfl (q := 64) rfl ?_
      refine Go.F X107 hx (hb hby d11_64) (by decide) (q := 127) (by decide) (by decide) ?_
      exact J127_108
  rcases own_et3 he0 with a115 | ⟨a115, b115, c115x⟩ | ⟨a115, b115, c115x, d115x, f115⟩
  · show Go pp ee below _ (T104.setTop (mkF mm 23 #[.val (.ref s), .val (.int of), .val (.int 0), .val (.int c0), .unset, .unset] []))
    refine Go.f X104 hx (hb hby d11_23) rfl (q := 24) rfl ?_
    refine Go.E X104 hx (hb hby d11_24) (r := (33 : Int32)) rfl (q := 26) rfl ?_
    refine Go.y X104 hx (hb hby d11_26) (Jvm.Free.XT.ii_eq_t a115) (q := 55) (by decide) (by decide) ?_
    refine Go.i X104 hx (hb hby d11_55) (r := (1 : Int32)) rfl (q := 56) rfl ?_
    refine Go.D X104 hx (hb hby d11_56) (q := 60) (by decide) (by decide) ?_
    refine Go.G X104 hx (hb hby d11_60) (l' := #[.val (.ref s), .val (.int of), .val (.int 0), .val (.int c0), .val (.int 1), .unset]) rfl (q := 62) rfl ?_
    refine Go.o X104 hx (hb hby d11_62) rfl (q := 64) rfl ?_
    refine Go.F X104 hx (hb hby d11_64) (by decide) (q := 127) (by decide) (by decide) ?_
    exact J127_105
  · show Go pp ee below _ (T104.setTop (mkF mm 23 #[.val (.ref s), .val (.int of), .val (.int 0), .val (.int c0), .unset, .unset] []))
    refine Go.f X104 hx (hb hby d11_23) rfl (q := 24) rfl ?_
    refine Go.E X104 hx (hb hby d11_24) (r := (33 : Int32)) rfl (q := 26) rfl ?_
    refine Go.t X104 hx (hb hby d11_26) (Jvm.Free.XT.ii_eq_f a115) (q := 29) rfl ?_
    refine Go.f X104 hx (hb hby d11_29) rfl (q := 30) rfl ?_
    refine Go.E X104 hx (hb hby d11_30) (r := (35 : Int32)) rfl (q := 32) rfl ?_
    refine Go.t X104 hx (hb hby d11_32) (Jvm.Free.XT.ii_lt_f b115) (q := 35) rfl ?_
    refine Go.f X104 hx (hb hby d11_35) rfl (q := 36) rfl ?_
    refine Go.E X104 hx (hb hby d11_36) (r := (126 : Int32)) rfl (q := 38) rfl ?_
    refine Go.y X104 hx (hb hby d11_38) (Jvm.Free.XT.ii_le_t c115x) (q := 55) (by decide) (by decide) ?_
    refine Go.i X104 hx (hb hby d11_55) (r := (1 : Int32)) rfl (q := 56) rfl ?_
    refine Go.D X104 hx (hb hby d11_56) (q := 60) (by decide) (by decide) ?_
    refine Go.G X104 hx (hb hby d11_60) (l' := #[.val (.ref s), .val (.int of), .val (.int 0), .val (.int c0), .val (.int 1), .unset]) rfl (q := 62) rfl ?_
    refine Go.o X104 hx (hb hby d11_62) rfl (q := 64) rfl ?_
    refine Go.F X104 hx (hb hby d11_64) (by decide) (q := 127) (by decide) (by decide) ?_
    exact J127_105
  · show Go pp ee below _ (T104.setTop (mkF mm 23 #[.val (.ref s), .val (.int of), .val (.int 0), .val (.int c0), .unset, .unset] []))
    refine Go.f X104 hx (hb hby d11_23) rfl (q := 24) rfl ?_
    refine Go.E X104 hx (hb hby d11_24) (r := (33 : Int32)) rfl (q := 26) rfl ?_
    refine Go.t X104 hx (hb hby d11_26) (Jvm.Free.XT.ii_eq_f a115) (q := 29) rfl ?_
    refine Go.f X104 hx (hb hby d11_29) rfl (q := 30) rfl ?_
    refine Go.E X104 hx (hb hby d11_30) (r := (35 : Int32)) rfl (q := 32) rfl ?_
    refine Go.t X104 hx (hb hby d11_32) (Jvm.Free.XT.ii_lt_f b115) (q := 35) rfl ?_
    refine Go.f X104 hx (hb hby d11_35) rfl (q := 36) rfl ?_
    refine Go.E X104 hx (hb hby d11_36) (r := (126 : Int32)) rfl (q := 38) rfl ?_
    refine Go.t X104 hx (hb hby d11_38) (Jvm.Free.XT.ii_le_f c115x) (q := 41) rfl ?_
    refine Go.f X104 hx (hb hby d11_41) rfl (q := 42) rfl ?_
    refine Go.X X104 hx (hb hby d11_42) (r := (128 : Int32)) rfl (q := 45) rfl ?_
    refine Go.t X104 hx (hb hby d11_45) (Jvm.Free.XT.ii_lt_f d115x) (q := 48) rfl ?_
    refine Go.f X104 hx (hb hby d11_48) rfl (q := 49) rfl ?_
    refine Go.X X104 hx (hb hby d11_49) (r := (255 : Int32)) rfl (q := 52) rfl ?_
    refine Go.t X104 hx (hb hby d11_52) (Jvm.Free.XT.ii_gt_f f115) (q := 55) rfl ?_
    refine Go.i X104 hx (hb hby d11_55) (r := (1 : Int32)) rfl (q := 56) rfl ?_
    refine Go.D X104 hx (hb hby d11_56) (q := 60) (by decide) (by decide) ?_
    refine Go.G X104 hx (hb hby d11_60) (l' := #[.val (.ref s), .val (.int of), .val (.int 0), .val (.int c0), .val (.int 1), .unset]) rfl (q := 62) rfl ?_
    refine Go.o X104 hx (hb hby d11_62) rfl (q := 64) rfl ?_
    refine Go.F X104 hx (hb hby d11_64) (by decide) (q := 127) (by decide) (by decide) ?_
    exact J127_105
def Q_ceti (Z : State) (o s : Addr) (h0 : Heap) (vR : Option Value) (hR : Heap) (LR : List Loc) : Prop := vR = none ∧ Fr Z.heap.size LR ∧ Keep h0 hR [o] ∧ Fld Z hR o xS1 "weak" "Z" (.int 0) ∧ Fld Z hR o xS1 "value" xS4 (.ref s) ∧ Fld Z hR o xS1 "field" xS4 .null
theorem ceti (l : Launch) (Z : State) (a0 : Array Value) (hw : ∀ d ∈ tables_1, d.before a0 Z = true) (o s : Addr) (h0 : Heap) (O0 : Ext Z.heap h0) (Eo : Exa Z h0 o xS1) (g_o : Z.heap.size ≤ o) (F0 : Fld Z h0 o xS1 "weak" "Z" (.int 0)) (F1 : Fld Z h0 o xS1 "value" xS4 .null) (F2 : Fld Z h0 o xS1 "field" xS4 .null) :
    Ctr l Z h0 (⟨xS1, "<init>", "(ZLjava/lang/String;)V"⟩ : MethodName) k15 3 none [] ({ frames := 1, cells := 0, slots := 0, locals := 12 } : Room) #[(.ref o), (.int 0), (.ref s)] (Q_ceti Z o s h0) := by
  refine enter (plainFor_of_name pn6) ?_
  intro pp ee ss mm below meth cc s₁ hx hby hml hZ hown hnm hret hlk X0 e0 hs0
  replace hown : ss.vm.findClass xS1 = some mm.cls := hown
  refine Go.r (congrArg s₁.setTop (ef_ceti mm o s)) ?_
  have N0 := Fr.nil Z.heap.size
  have KP := Keep.refl h0 [o]
  show Go pp ee below _ (s₁.setTop (mkF mm 0 #[.val (.ref o), .val (.int 0), .val (.ref s)] []))
  refine Go.g X0 hx (hb hby d15_0) rfl rfl (q := 1) rfl ?_
  refine Go.jq X0 hx hZ hown (wd71 hw) (wd20 hw) (wd21 hw) e0 (by rw [hml]; rfl) (hb hby d15_1) (by decide) (W := 0) (by exact Nat.le_refl _) (by decide) (q := 4) rfl ?_
  intro T101 X101 e101
  refine Go.g X101 hx (hb hby d15_4) rfl rfl (q := 5) rfl ?_
  refine Go.f X101 hx (hb hby d15_5) rfl (q := 6) rfl ?_
  refine Go.jc X101 hx hZ hown (host := "") (Or.inl (wd72 hw)) Via.refl e101 F0 Eo (Or.inr ⟨(wd73 hw), rfl, hnm⟩) (wd49 hw) (ty := .boolean) (by decide) rfl rfl (hb hby d15_6) (q := 9) rfl ?_
  intro T102 h102 X102 e102 W102 F102
  have N102 := Fr.snoc X102 N0 g_o
  replace Eo := Eo.wr W102
  replace F1 := F1.other W102 (Or.inr (slot_ne (Or.inr (wd75 hw)) (Or.inr (wd73 hw)) (by decide) (t := (.object xS0)) (t' := .boolean) (by decide) (by decide)))
  replace F2 := F2.other W102 (Or.inr (slot_ne (Or.inl (wd97 hw)) (Or.inr (wd73 hw)) (by decide) (t := (.object xS0)) (t' := .boolean) (by decide) (by decide)))
  have OW102 := ext_wr O0 W102 g_o
  replace KP := KP.wr W102 (Or.inl (List.mem_of_getElem? (i := 0) rfl))
  refine Go.g X102 hx (hb hby d15_9) rfl rfl (q := 10) rfl ?_
  refine Go.g X102 hx (hb hby d15_10) rfl rfl (q := 11) rfl ?_
  refine Go.jc X102 hx hZ hown (host := "") (Or.inl (wd74 hw)) Via.refl e102 F1 Eo (Or.inr ⟨(wd75 hw), rfl, hnm⟩) (wd49 hw) (ty := (.object xS0)) (by decide) rfl rfl (hb hby d15_11) (q := 14) rfl ?_
  intro T103 h103 X103 e103 W103 F103
  have N103 := Fr.snoc X103 N102 g_o
  replace Eo := Eo.wr W103
  replace F2 := F2.other W103 (Or.inr (slot_ne (Or.inl (wd97 hw)) (Or.inr (wd75 hw)) (by decide) (t := (.object xS0)) (t' := (.object xS0)) (by decide) (by decide)))
  replace F102 := F102.other W103 (Or.inr (slot_ne (Or.inr (wd73 hw)) (Or.inr (wd75 hw)) (by decide) (t := .boolean) (t' := (.object xS0)) (by decide) (by decide)))
  have OW103 := ext_wr OW102 W103 g_o
  replace KP := KP.wr W103 (Or.inl (List.mem_of_getElem? (i := 0) rfl))
  exact Go.jb X103 hx hret hlk (hb hby d15_14) e103 (by decide) (by decide) ⟨rfl, N103, KP, F102, F103, F2⟩
def Q_cwk0 (Z : State) (s v : Addr) (kv : ClassId) (cs : Int32) (fm : Value) (h0 : Heap) (vR : Option Value) (hR : Heap) (LR : List Loc) : Prop := ∃ t : Addr, vR = some (.ref t) ∧ Fr Z.heap.size LR ∧ Keep h0 hR [] ∧ h0.size ≤ t ∧ Exa Z hR t xS1 ∧ Fld Z hR t xS1 "weak" "Z" (.int 0) ∧ Fld Z hR t xS1 "value" xS4 (.ref s) ∧ Fld Z hR t xS1 "field" xS4 .null
theorem cwk0 (l : Launch) (Z : State) (a0 : Array Value) (hw : ∀ d ∈ tables_1, d.before a0 Z = true) (s v : Addr) (kv : ClassId) (cs : Int32) (fm : Value) (h0 : Heap) (O0 : Ext Z.heap h0) (Es : Exa Z h0 s xS0) (Cs : Fld Z h0 s xS0 "coder" "B" (.int 0)) (Fs : Fld Z h0 s xS0 "value" "[B" (.ref v)) (Vs : Arv Z h0 v kv .byte (0 : Int32) [] (.int 0)) (SCS : Sta Z Z.heap xS0 xS3 "Z" (.int cs)) (SFM : Sta Z Z.heap xS6 "SIOOBE_FORMATTER" xS9 fm) (hcs : ¬ (cs = (0 : Int32))) (hfm : fm.isRef = true) :
    CtrH l Z consts_1 h0 (⟨xS1, "strong", xS11⟩ : MethodName) k10 1 (some (.object xS1)) [] ({ frames := 3, cells := 3, slots := 27, locals := 46 } : Room) #[(.ref s)] (Q_cwk0 Z s v kv cs fm h0) := by
  refine enterH (plainFor_of_name pn6) ?_
  intro pp ee ss mm below meth cc s₁ hx hby hml hZ hown hnm hret hlk X0 e0 hs0 hS hC
  replace hown : (ss.setVm ss.vm).vm.findClass xS1 = some mm.cls := hown
  have hKd := Nat.zero_le h0.size
  refine Go.r (congrArg s₁.setTop (ef_cwk0 mm s)) ?_
  have N0 := Fr.nil Z.heap.size
  have KP := Keep.refl h0 []
  show Go pp ee below _ (s₁.setTop (mkF mm 0 #[.val (.ref s)] []))
  refine Go.jd X0 hx hZ hown (wd48 hw) (wd49 hw) (wd46 hw) e0 (hb hby d10_0) (by decide) (by decide) (q := 3) rfl ?_
  intro b101 T101 h101 X101 e101 q101 E101 A101 D101 U101
  have ne_s_b101 : s ≠ b101 := ne_new Es.lt (Nat.le_of_eq q101)
  have ne_v_b101 : v ≠ b101 := ne_new Vs.lt (Nat.le_of_eq q101)
  have g_b101 : Z.heap.size ≤ b101 := Nat.le_trans O0.1 (Nat.le_of_eq q101)
  have z_b101 : h0.size ≤ b101 := Nat.le_trans KP.1 (Nat.le_of_eq q101)
  replace hC := hC.trans (CHr.ext E101 hC.1)
  replace Es := Es.ext E101
  replace Cs := Cs.ext E101
  replace Fs := Fs.ext E101
  replace Vs := Vs.ext E101
  have OE101 := ext_trans O0 E101
  replace hKd := Nat.le_trans hKd E101.1
  replace KP := KP.ext E101
  have F101_weak : Fld Z h101 b101 xS1 "weak" "Z" (.int 0) := D101 (Or.inr (wd73 hw)) (ty := .boolean) (by decide)
  have F101_value : Fld Z h101 b101 xS1 "value" xS4 .null := D101 (Or.inr (wd75 hw)) (ty := (.object xS0)) (by decide)
  have F101_field : Fld Z h101 b101 xS1 "field" xS4 .null := D101 (Or.inl (wd97 hw)) (ty := (.object xS0)) (by decide)
  clear D101
  refine Go.N X101 hx (hb hby d10_3) rfl (q := 4) rfl ?_
  refine Go.i X101 hx (hb hby d10_4) (r := (0 : Int32)) rfl (q := 5) rfl ?_
  refine Go.g X101 hx (hb hby d10_5) rfl rfl (q := 6) rfl ?_
  refine Go.i X101 hx (hb hby d10_6) (r := (0 : Int32)) rfl (q := 7) rfl ?_
  refine Go.jk X101 hx hZ hown hS hKd (own_EW hw) hC (wd50 hw) (wd51 hw) (wd46 hw) (wd52 hw) (by decide) (cchk0 l Z a0 hw s v (kv) cs fm ((0 : Int32)) h101 OE101 Es Cs Fs Vs SCS SFM hcs hfm) e101 (by rw [hml]; rfl) (hb hby d10_7) (argsL := [(.ref s), (.int 0)]) (rest := [(.int 0), (.ref b101), (.ref b101)]) (lenOf pd12 rfl) rfl rfl (W := 3) (Nat.le_refl _) (by decide) ?_
  intro v102 T102 L102 k102 X102 hS hKd hZ hown hR102 hQ102
  obtain ⟨h102, e102⟩ : ∃ z, T102.heap = z := ⟨_, rfl⟩
  rw [e102] at hQ102 hKd hR102
  obtain ⟨rfl, N102q, K102⟩ := hQ102
  have N102 := Fr.app N0 N102q
  replace hC := hC.trans hR102
  replace Es := Es.keep K102
  replace Cs := Cs.keep K102 nin0
  replace Fs := Fs.keep K102 nin0
  replace Vs := Vs.keep K102 nin0
  replace A101 := A101.keep K102
  replace F101_weak := F101_weak.keep K102 nin0
  replace F101_value := F101_value.keep K102 nin0
  replace F101_field := F101_field.keep K102 nin0
  have OK102 := ext_keep OE101 K102 all0
  replace KP := KP.trans K102 all0
  refine Go.Y X102 hx hZ hown rfl (wd68 hw) (wd69 hw) (wd46 hw) (wd70 hw) (by decide) (ceti l Z a0 hw b101 s h102 OK102 A101 g_b101 F101_weak F101_value F101_field) e102 (by rw [hml]; rfl) (hb hby d10_10) (argsL := [(.int 0), (.ref s)]) (rest := [(.ref b101)]) (lenOf pd13 rfl) rfl rfl (W := 1) (Nat.le_refl _) (by decide) ?_
  intro v103 T103 L103 X103 hQ103
  obtain ⟨h103, e103⟩ : ∃ z, T103.heap = z := ⟨_, rfl⟩
  rw [e103] at hQ103
  obtain ⟨rfl, N103q, K103, P103_0, P103_1, P103_2⟩ := hQ103
  have N103 := Fr.app N102 N103q
  replace hKd := Nat.le_trans hKd K103.1
  have hSk : ∀ x ∈ [b101], Safe Z consts_1 T102.vm h102 x := (allS (Safe.exa hZ.alike A101 (by decide) (by decide)) all0)
  replace hC := hC.trans (CHr.keep K103 hSk hC.1)
  replace Es := Es.keep K103
  replace Cs := Cs.keep K103 (ninS ne_s_b101 nin0)
  replace Fs := Fs.keep K103 (ninS ne_s_b101 nin0)
  replace Vs := Vs.keep K103 (ninS ne_v_b101 nin0)
  replace A101 := A101.keep K103
  have OK103 := ext_keep OK102 K103 (allS g_b101 all0)
  replace KP := KP.trans K103 (allS (Or.inr z_b101) all0)
  exact Go.jm X103 hx hS hKd hs0 hZ (own_EW hw) hC hret hlk rfl rfl (hb hby d10_13) e103 (by decide) (by decide) ⟨b101, rfl, N103, KP, z_b101, A101, P103_0, P103_1, P103_2⟩
def Q_cwk1 (Z : State) (s v : Addr) (kv : ClassId) (cs : Int32) (fm : Value) (c0 : Int32) (h0 : Heap) (vR : Option Value) (hR : Heap) (LR : List Loc) : Prop := ∃ t : Addr, vR = some (.ref t) ∧ Fr Z.heap.size LR ∧ Keep h0 hR [] ∧ h0.size ≤ t ∧ Exa Z hR t xS1 ∧ Fld Z hR t xS1 "weak" "Z" (.int 0) ∧ Fld Z hR t xS1 "value" xS4 (.ref s) ∧ Fld Z hR t xS1 "field" xS4 .null
theorem cwk1 (l : Launch) (Z : State) (a0 : Array Value) (hw : ∀ d ∈ tables_1, d.before a0 Z = true) (s v : Addr) (kv : ClassId) (cs : Int32) (fm : Value) (c0 : Int32) (h0 : Heap) (O0 : Ext Z.heap h0) (Es : Exa Z h0 s xS0) (Cs : Fld Z h0 s xS0 "coder" "B" (.int 0)) (Fs : Fld Z h0 s xS0 "value" "[B" (.ref v)) (Vs : Arv Z h0 v kv .byte (1 : Int32) [(.int (c0.toInt8.toInt32))] (.int 0)) (SCS : Sta Z Z.heap xS0 xS3 "Z" (.int cs)) (SFM : Sta Z Z.heap xS6 "SIOOBE_FORMATTER" xS9 fm) (hcs : ¬ (cs = (0 : Int32))) (hfm : fm.isRef = true) (he0 : ETC c0) :
    CtrH l Z consts_1 h0 (⟨xS1, "strong", xS11⟩ : MethodName) k10 1 (some (.object xS1)) [] ({ frames := 5, cells := 3, slots := 27, locals := 73 } : Room) #[(.ref s)] (Q_cwk1 Z s v kv cs fm c0 h0) := by
  refine enterH (plainFor_of_name pn6) ?_
  intro pp ee ss mm below meth cc s₁ hx hby hml hZ hown hnm hret hlk X0 e0 hs0 hS hC
  replace hown : (ss.setVm ss.vm).vm.findClass xS1 = some mm.cls := hown
  have hKd := Nat.zero_le h0.size
  refine Go.r (congrArg s₁.setTop (ef_cwk1 mm s)) ?_
  have N0 := Fr.nil Z.heap.size
  have KP := Keep.refl h0 []
  show Go pp ee below _ (s₁.setTop (mkF mm 0 #[.val (.ref s)] []))
  refine Go.jd X0 hx hZ hown (wd48 hw) (wd49 hw) (wd46 hw) e0 (hb hby d10_0) (by decide) (by decide) (q := 3) rfl ?_
  intro b101 T101 h101 X101 e101 q101 E101 A101 D101 U101
  have ne_s_b101 : s ≠ b101 := ne_new Es.lt (Nat.le_of_eq q101)
  have ne_v_b101 : v ≠ b101 := ne_new Vs.lt (Nat.le_of_eq q101)
  have g_b101 : Z.heap.size ≤ b101 := Nat.le_trans O0.1 (Nat.le_of_eq q101)
  have z_b101 : h0.size ≤ b101 := Nat.le_trans KP.1 (Nat.le_of_eq q101)
  replace hC := hC.trans (CHr.ext E101 hC.1)
  replace Es := Es.ext E101
  replace Cs := Cs.ext E101
  replace Fs := Fs.ext E101
  replace Vs := Vs.ext E101
  have OE101 := ext_trans O0 E101
  replace hKd := Nat.le_trans hKd E101.1
  replace KP := KP.ext E101
  have F101_weak : Fld Z h101 b101 xS1 "weak" "Z" (.int 0) := D101 (Or.inr (wd73 hw)) (ty := .boolean) (by decide)
  have F101_value : Fld Z h101 b101 xS1 "value" xS4 .null := D101 (Or.inr (wd75 hw)) (ty := (.object xS0)) (by decide)
  have F101_field : Fld Z h101 b101 xS1 "field" xS4 .null := D101 (Or.inl (wd97 hw)) (ty := (.object xS0)) (by decide)
  clear D101
  refine Go.N X101 hx (hb hby d10_3) rfl (q := 4) rfl ?_
  refine Go.i X101 hx (hb hby d10_4) (r := (0 : Int32)) rfl (q := 5) rfl ?_
  refine Go.g X101 hx (hb hby d10_5) rfl rfl (q := 6) rfl ?_
  refine Go.i X101 hx (hb hby d10_6) (r := (0 : Int32)) rfl (q := 7) rfl ?_
  refine Go.jk X101 hx hZ hown hS hKd (own_EW hw) hC (wd50 hw) (wd51 hw) (wd46 hw) (wd52 hw) (by decide) (cchk1 l Z a0 hw s v (kv) cs fm c0 ((0 : Int32)) h101 OE101 Es Cs Fs Vs SCS SFM hcs hfm he0) e101 (by rw [hml]; rfl) (hb hby d10_7) (argsL := [(.ref s), (.int 0)]) (rest := [(.int 0), (.ref b101), (.ref b101)]) (lenOf pd12 rfl) rfl rfl (W := 3) (Nat.le_refl _) (by decide) ?_
  intro v102 T102 L102 k102 X102 hS hKd hZ hown hR102 hQ102
  obtain ⟨h102, e102⟩ : ∃ z, T102.heap = z := ⟨_, rfl⟩
  rw [e102] at hQ102 hKd hR102
  obtain ⟨rfl, N102q, K102⟩ := hQ102
  have N102 := Fr.app N0 N102q
  replace hC := hC.trans hR102
  replace Es := Es.keep K102
  replace Cs := Cs.keep K102 nin0
  replace Fs := Fs.keep K102 nin0
  replace Vs := Vs.keep K102 nin0
  replace A101 := A101.keep K102
  replace F101_weak := F101_weak.keep K102 nin0
  replace F101_value := F101_value.keep K102 nin0
  replace F101_field := F101_field.keep K102 nin0
  have OK102 := ext_keep OE101 K102 all0
  replace KP := KP.trans K102 all0
  refine Go.Y X102 hx hZ hown rfl (wd68 hw) (wd69 hw) (wd46 hw) (wd70 hw) (by decide) (ceti l Z a0 hw b101 s h102 OK102 A101 g_b101 F101_weak F101_value F101_field) e102 (by rw [hml]; rfl) (hb hby d10_10) (argsL := [(.int 0), (.ref s)]) (rest := [(.ref b101)]) (lenOf pd13 rfl) rfl rfl (W := 1) (Nat.le_refl _) (by decide) ?_
  intro v103 T103 L103 X103 hQ103
  obtain ⟨h103, e103⟩ : ∃ z, T103.heap = z := ⟨_, rfl⟩
  rw [e103] at hQ103
  obtain ⟨rfl, N103q, K103, P103_0, P103_1, P103_2⟩ := hQ103
  have N103 := Fr.app N102 N103q
  replace hKd := Nat.le_trans hKd K103.1
  have hSk : ∀ x ∈ [b101], Safe Z consts_1 T102.vm h102 x := (allS (Safe.exa hZ.alike A101 (by decide) (by decide)) all0)
  replace hC := hC.trans (CHr.keep K103 hSk hC.1)
  replace Es := Es.keep K103
  replace Cs := Cs.keep K103 (ninS ne_s_b101 nin0)
  replace Fs := Fs.keep K103 (ninS ne_s_b101 nin0)
  replace Vs := Vs.keep K103 (ninS ne_v_b101 nin0)
  replace A101 := A101.keep K103
  have OK103 := ext_keep OK102 K103 (allS g_b101 all0)
  replace KP := KP.trans K103 (allS (Or.inr z_b101) all0)
  exact Go.jm X103 hx hS hKd hs0 hZ (own_EW hw) hC hret hlk rfl rfl (hb hby d10_13) e103 (by decide) (by decide) ⟨b101, rfl, N103, KP, z_b101, A101, P103_0, P103_1, P103_2⟩
def Q_cwk2 (Z : State) (s v : Addr) (kv : ClassId) (cs : Int32) (fm : Value) (c0 c1 : Int32) (h0 : Heap) (vR : Option Value) (hR : Heap) (LR : List Loc) : Prop := ∃ t : Addr, vR = some (.ref t) ∧ Fr Z.heap.size LR ∧ Keep h0 hR [] ∧ h0.size ≤ t ∧ Exa Z hR t xS1 ∧ Fld Z hR t xS1 "weak" "Z" (.int 0) ∧ Fld Z hR t xS1 "value" xS4 (.ref s) ∧ Fld Z hR t xS1 "field" xS4 .null
theorem cwk2 (l : Launch) (Z : State) (a0 : Array Value) (hw : ∀ d ∈ tables_1, d.before a0 Z = true) (s v : Addr) (kv : ClassId) (cs : Int32) (fm : Value) (c0 c1 : Int32) (h0 : Heap) (O0 : Ext Z.heap h0) (Es : Exa Z h0 s xS0) (Cs : Fld Z h0 s xS0 "coder" "B" (.int 0)) (Fs : Fld Z h0 s xS0 "value" "[B" (.ref v)) (Vs : Arv Z h0 v kv .byte (2 : Int32) [(.int (c0.toInt8.toInt32)), (.int (c1.toInt8.toInt32))] (.int 0)) (SCS : Sta Z Z.heap xS0 xS3 "Z" (.int cs)) (SFM : Sta Z Z.heap xS6 "SIOOBE_FORMATTER" xS9 fm) (hcs : ¬ (cs = (0 : Int32))) (hfm : fm.isRef = true) (he0 : ETC c0) (he1 : ETC c1) :
    CtrH l Z consts_1 h0 (⟨xS1, "strong", xS11⟩ : MethodName) k10 1 (some (.object xS1)) [] ({ frames := 5, cells := 3, slots := 27, locals := 73 } : Room) #[(.ref s)] (Q_cwk2 Z s v kv cs fm c0 c1 h0) := by
  refine enterH (plainFor_of_name pn6) ?_
  intro pp ee ss mm below meth cc s₁ hx hby hml hZ hown hnm hret hlk X0 e0 hs0 hS hC
  replace hown : (ss.setVm ss.vm).vm.findClass xS1 = some mm.cls := hown
  have hKd := Nat.zero_le h0.size
  refine Go.r (congrArg s₁.setTop (ef_cwk2 mm s)) ?_
  have N0 := Fr.nil Z.heap.size
  have KP := Keep.refl h0 []
  show Go pp ee below _ (s₁.setTop (mkF mm 0 #[.val (.ref s)] []))
  refine Go.jd X0 hx hZ hown (wd48 hw) (wd49 hw) (wd46 hw) e0 (hb hby d10_0) (by decide) (by decide) (q := 3) rfl ?_
  intro b101 T101 h101 X101 e101 q101 E101 A101 D101 U101
  have ne_s_b101 : s ≠ b101 := ne_new Es.lt (Nat.le_of_eq q101)
  have ne_v_b101 : v ≠ b101 := ne_new Vs.lt (Nat.le_of_eq q101)
  have g_b101 : Z.heap.size ≤ b101 := Nat.le_trans O0.1 (Nat.le_of_eq q101)
  have z_b101 : h0.size ≤ b101 := Nat.le_trans KP.1 (Nat.le_of_eq q101)
  replace hC := hC.trans (CHr.ext E101 hC.1)
  replace Es := Es.ext E101
  replace Cs := Cs.ext E101
  replace Fs := Fs.ext E101
  replace Vs := Vs.ext E101
  have OE101 := ext_trans O0 E101
  replace hKd := Nat.le_trans hKd E101.1
  replace KP := KP.ext E101
  have F101_weak : Fld Z h101 b101 xS1 "weak" "Z" (.int 0) := D101 (Or.inr (wd73 hw)) (ty := .boolean) (by decide)
  have F101_value : Fld Z h101 b101 xS1 "value" xS4 .null := D101 (Or.inr (wd75 hw)) (ty := (.object xS0)) (by decide)
  have F101_field : Fld Z h101 b101 xS1 "field" xS4 .null := D101 (Or.inl (wd97 hw)) (ty := (.object xS0)) (by decide)
  clear D101
  refine Go.N X101 hx (hb hby d10_3) rfl (q := 4) rfl ?_
  refine Go.i X101 hx (hb hby d10_4) (r := (0 : Int32)) rfl (q := 5) rfl ?_
  refine Go.g X101 hx (hb hby d10_5) rfl rfl (q := 6) rfl ?_
  refine Go.i X101 hx (hb hby d10_6) (r := (0 : Int32)) rfl (q := 7) rfl ?_
  refine Go.jk X101 hx hZ hown hS hKd (own_EW hw) hC (wd50 hw) (wd51 hw) (wd46 hw) (wd52 hw) (by decide) (cchk2 l Z a0 hw s v (kv) cs fm c0 c1 ((0 : Int32)) h101 OE101 Es Cs Fs Vs SCS SFM hcs hfm he0 he1) e101 (by rw [hml]; rfl) (hb hby d10_7) (argsL := [(.ref s), (.int 0)]) (rest := [(.int 0), (.ref b101), (.ref b101)]) (lenOf pd12 rfl) rfl rfl (W := 3) (Nat.le_refl _) (by decide) ?_
  intro v102 T102 L102 k102 X102 hS hKd hZ hown hR102 hQ102
  obtain ⟨h102, e102⟩ : ∃ z, T102.heap = z := ⟨_, rfl⟩
  rw [e102] at hQ102 hKd hR102
  obtain ⟨rfl, N102q, K102⟩ := hQ102
  have N102 := Fr.app N0 N102q
  replace hC := hC.trans hR102
  replace Es := Es.keep K102
  replace Cs := Cs.keep K102 nin0
  replace Fs := Fs.keep K102 nin0
  replace Vs := Vs.keep K102 nin0
  replace A101 := A101.keep K102
  replace F101_weak := F101_weak.keep K102 nin0
  replace F101_value := F101_value.keep K102 nin0
  replace F101_field := F101_field.keep K102 nin0
  have OK102 := ext_keep OE101 K102 all0
  replace KP := KP.trans K102 all0
  refine Go.Y X102 hx hZ hown rfl (wd68 hw) (wd69 hw) (wd46 hw) (wd70 hw) (by decide) (ceti l Z a0 hw b101 s h102 OK102 A101 g_b101 F101_weak F101_value F101_field) e102 (by rw [hml]; rfl) (hb hby d10_10) (argsL := [(.int 0), (.ref s)]) (rest := [(.ref b101)]) (lenOf pd13 rfl) rfl rfl (W := 1) (Nat.le_refl _) (by decide) ?_
  intro v103 T103 L103 X103 hQ103
  obtain ⟨h103, e103⟩ : ∃ z, T103.heap = z := ⟨_, rfl⟩
  rw [e103] at hQ103
  obtain ⟨rfl, N103q, K103, P103_0, P103_1, P103_2⟩ := hQ103
  have N103 := Fr.app N102 N103q
  replace hKd := Nat.le_trans hKd K103.1
  have hSk : ∀ x ∈ [b101], Safe Z consts_1 T102.vm h102 x := (allS (Safe.exa hZ.alike A101 (by decide) (by decide)) all0)
  replace hC := hC.trans (CHr.keep K103 hSk hC.1)
  replace Es := Es.keep K103
  replace Cs := Cs.keep K103 (ninS ne_s_b101 nin0)
  replace Fs := Fs.keep K103 (ninS ne_s_b101 nin0)
  replace Vs := Vs.keep K103 (ninS ne_v_b101 nin0)
  replace A101 := A101.keep K103
  have OK103 := ext_keep OK102 K103 (allS g_b101 all0)
  replace KP := KP.trans K103 (allS (Or.inr z_b101) all0)
  exact Go.jm X103 hx hS hKd hs0 hZ (own_EW hw) hC hret hlk rfl rfl (hb hby d10_13) e103 (by decide) (by decide) ⟨b101, rfl, N103, KP, z_b101, A101, P103_0, P103_1, P103_2⟩
def Q_cwk3 (Z : State) (s v : Addr) (kv : ClassId) (cs : Int32) (fm : Value) (c0 c1 c2 : Int32) (h0 : Heap) (vR : Option Value) (hR : Heap) (LR : List Loc) : Prop := ∃ t : Addr, vR = some (.ref t) ∧ Fr Z.heap.size LR ∧ Keep h0 hR [] ∧ h0.size ≤ t ∧ Exa Z hR t xS1 ∧ Fld Z hR t xS1 "weak" "Z" (.int 0) ∧ Fld Z hR t xS1 "value" xS4 (.ref s) ∧ Fld Z hR t xS1 "field" xS4 .null
theorem cwk3 (l : Launch) (Z : State) (a0 : Array Value) (hw : ∀ d ∈ tables_1, d.before a0 Z = true) (s v : Addr) (kv : ClassId) (cs : Int32) (fm : Value) (c0 c1 c2 : Int32) (h0 : Heap) (O0 : Ext Z.heap h0) (Es : Exa Z h0 s xS0) (Cs : Fld Z h0 s xS0 "coder" "B" (.int 0)) (Fs : Fld Z h0 s xS0 "value" "[B" (.ref v)) (Vs : Arv Z h0 v kv .byte (3 : Int32) [(.int (c0.toInt8.toInt32)), (.int (c1.toInt8.toInt32)), (.int (c2.toInt8.toInt32))] (.int 0)) (SCS : Sta Z Z.heap xS0 xS3 "Z" (.int cs)) (SFM : Sta Z Z.heap xS6 "SIOOBE_FORMATTER" xS9 fm) (hcs : ¬ (cs = (0 : Int32))) (hfm : fm.isRef = true) (he0 : ETC c0) (he1 : ETC c1) (he2 : ETC c2) :
    CtrH l Z consts_1 h0 (⟨xS1, "strong", xS11⟩ : MethodName) k10 1 (some (.object xS1)) [] ({ frames := 5, cells := 3, slots := 27, locals := 73 } : Room) #[(.ref s)] (Q_cwk3 Z s v kv cs fm c0 c1 c2 h0) := by
  refine enterH (plainFor_of_name pn6) ?_
  intro pp ee ss mm below meth cc s₁ hx hby hml hZ hown hnm hret hlk X0 e0 hs0 hS hC
  replace hown : (ss.setVm ss.vm).vm.findClass xS1 = some mm.cls := hown
  have hKd := Nat.zero_le h0.size
  refine Go.r (congrArg s₁.setTop (ef_cwk3 mm s)) ?_
  have N0 := Fr.nil Z.heap.size
  have KP := Keep.refl h0 []
  show Go pp ee below _ (s₁.setTop (mkF mm 0 #[.val (.ref s)] []))
  refine Go.jd X0 hx hZ hown (wd48 hw) (wd49 hw) (wd46 hw) e0 (hb hby d10_0) (by decide) (by decide) (q := 3) rfl ?_
  intro b101 T101 h101 X101 e101 q101 E101 A101 D101 U101
  have ne_s_b101 : s ≠ b101 := ne_new Es.lt (Nat.le_of_eq q101)
  have ne_v_b101 : v ≠ b101 := ne_new Vs.lt (Nat.le_of_eq q101)
  have g_b101 : Z.heap.size ≤ b101 := Nat.le_trans O0.1 (Nat.le_of_eq q101)
  have z_b101 : h0.size ≤ b101 := Nat.le_trans KP.1 (Nat.le_of_eq q101)
  replace hC := hC.trans (CHr.ext E101 hC.1)
  replace Es := Es.ext E101
  replace Cs := Cs.ext E101
  replace Fs := Fs.ext E101
  replace Vs := Vs.ext E101
  have OE101 := ext_trans O0 E101
  replace hKd := Nat.le_trans hKd E101.1
  replace KP := KP.ext E101
  have F101_weak : Fld Z h101 b101 xS1 "weak" "Z" (.int 0) := D101 (Or.inr (wd73 hw)) (ty := .boolean) (by decide)
  have F101_value : Fld Z h101 b101 xS1 "value" xS4 .null := D101 (Or.inr (wd75 hw)) (ty := (.object xS0)) (by decide)
  have F101_field : Fld Z h101 b101 xS1 "field" xS4 .null := D101 (Or.inl (wd97 hw)) (ty := (.object xS0)) (by decide)
  clear D101
  refine Go.N X101 hx (hb hby d10_3) rfl (q := 4) rfl ?_
  refine Go.i X101 hx (hb hby d10_4) (r := (0 : Int32)) rfl (q := 5) rfl ?_
  refine Go.g X101 hx (hb hby d10_5) rfl rfl (q := 6) rfl ?_
  refine Go.i X101 hx (hb hby d10_6) (r := (0 : Int32)) rfl (q := 7) rfl ?_
  refine Go.jk X101 hx hZ hown hS hKd (own_EW hw) hC (wd50 hw) (wd51 hw) (wd46 hw) (wd52 hw) (by decide) (cchk3 l Z a0 hw s v (kv) cs fm c0 c1 c2 ((0 : Int32)) h101 OE101 Es Cs Fs Vs SCS SFM hcs hfm he0 he1 he2) e101 (by rw [hml]; rfl) (hb hby d10_7) (argsL := [(.ref s), (.int 0)]) (rest := [(.int 0), (.ref b101), (.ref b101)]) (lenOf pd12 rfl) rfl rfl (W := 3) (Nat.le_refl _) (by decide) ?_
  intro v102 T102 L102 k102 X102 hS hKd hZ hown hR102 hQ102
  obtain ⟨h102, e102⟩ : ∃ z, T102.heap = z := ⟨_, rfl⟩
  rw [e102] at hQ102 hKd hR102
  obtain ⟨rfl, N102q, K102⟩ := hQ102
  have N102 := Fr.app N0 N102q
  replace hC := hC.trans hR102
  replace Es := Es.keep K102
  replace Cs := Cs.keep K102 nin0
  replace Fs := Fs.keep K102 nin0
  replace Vs := Vs.keep K102 nin0
  replace A101 := A101.keep K102
  replace F101_weak := F101_weak.keep K102 nin0
  replace F101_value := F101_value.keep K102 nin0
  replace F101_field := F101_field.keep K102 nin0
  have OK102 := ext_keep OE101 K102 all0
  replace KP := KP.trans K102 all0
  refine Go.Y X102 hx hZ hown rfl (wd68 hw) (wd69 hw) (wd46 hw) (wd70 hw) (by decide) (ceti l Z a0 hw b101 s h102 OK102 A101 g_b101 F101_weak F101_value F101_field) e102 (by rw [hml]; rfl) (hb hby d10_10) (argsL := [(.int 0), (.ref s)]) (rest := [(.ref b101)]) (lenOf pd13 rfl) rfl rfl (W := 1) (Nat.le_refl _) (by decide) ?_
  intro v103 T103 L103 X103 hQ103
  obtain ⟨h103, e103⟩ : ∃ z, T103.heap = z := ⟨_, rfl⟩
  rw [e103] at hQ103
  obtain ⟨rfl, N103q, K103, P103_0, P103_1, P103_2⟩ := hQ103
  have N103 := Fr.app N102 N103q
  replace hKd := Nat.le_trans hKd K103.1
  have hSk : ∀ x ∈ [b101], Safe Z consts_1 T102.vm h102 x := (allS (Safe.exa hZ.alike A101 (by decide) (by decide)) all0)
  replace hC := hC.trans (CHr.keep K103 hSk hC.1)
  replace Es := Es.keep K103
  replace Cs := Cs.keep K103 (ninS ne_s_b101 nin0)
  replace Fs := Fs.keep K103 (ninS ne_s_b101 nin0)
  replace Vs := Vs.keep K103 (ninS ne_v_b101 nin0)
  replace A101 := A101.keep K103
  have OK103 := ext_keep OK102 K103 (allS g_b101 all0)
  replace KP := KP.trans K103 (allS (Or.inr z_b101) all0)
  exact Go.jm X103 hx hS hKd hs0 hZ (own_EW hw) hC hret hlk rfl rfl (hb hby d10_13) e103 (by decide) (by decide) ⟨b101, rfl, N103, KP, z_b101, A101, P103_0, P103_1, P103_2⟩
def Q_cval (Z : State) (o s : Addr) (h0 : Heap) (vR : Option Value) (hR : Heap) (LR : List Loc) : Prop := vR = some (.ref s) ∧ Fr Z.heap.size LR ∧ hR = h0
theorem cval (l : Launch) (Z : State) (a0 : Array Value) (hw : ∀ d ∈ tables_1, d.before a0 Z = true) (o s : Addr) (h0 : Heap) (O0 : Ext Z.heap h0) (F : Fld Z h0 o xS1 "value" xS4 (.ref s)) :
    Ctr l Z h0 (⟨xS1, "value", "()Ljava/lang/String;"⟩ : MethodName) k17 1 (some (.object xS0)) [] ({ frames := 0, cells := 0, slots := 0, locals := 0 } : Room) #[(.ref o)] (Q_cval Z o s h0) := by
  refine enter (plainFor_of_name pn6) ?_
  intro pp ee ss mm below meth cc s₁ hx hby hml hZ hown hnm hret hlk X0 e0 hs0
  replace hown : ss.vm.findClass xS1 = some mm.cls := hown
  refine Go.r (congrArg s₁.setTop (ef_cval mm o)) ?_
  have N0 := Fr.nil Z.heap.size
  show Go pp ee below _ (s₁.setTop (mkF mm 0 #[.val (.ref o)] []))
  refine Go.g X0 hx (hb hby d17_0) rfl rfl (q := 1) rfl ?_
  refine Go.B X0 hx hZ hown (host := "") (Or.inl (wd74 hw)) Via.refl e0 F (hb hby d17_1) (q := 4) rfl ?_
  intro T101 X101 e101
  exact Go.U X101 hx hret hlk rfl rfl (hb hby d17_4) e101 (by decide) (by decide) ⟨rfl, N0, rfl⟩
def Q_cisw (Z : State) (o : Addr) (h0 : Heap) (vR : Option Value) (hR : Heap) (LR : List Loc) : Prop := vR = some (.int 0) ∧ Fr Z.heap.size LR ∧ hR = h0
theorem cisw (l : Launch) (Z : State) (a0 : Array Value) (hw : ∀ d ∈ tables_1, d.before a0 Z = true) (o : Addr) (h0 : Heap) (O0 : Ext Z.heap h0) (F : Fld Z h0 o xS1 "weak" "Z" (.int 0)) :
    Ctr l Z h0 (⟨xS1, "isWeak", "()Z"⟩ : MethodName) k16 1 (some .boolean) [] ({ frames := 0, cells := 0, slots := 0, locals := 0 } : Room) #[(.ref o)] (Q_cisw Z o h0) := by
  refine enter (plainFor_of_name pn6) ?_
  intro pp ee ss mm below meth cc s₁ hx hby hml hZ hown hnm hret hlk X0 e0 hs0
  replace hown : ss.vm.findClass xS1 = some mm.cls := hown
  refine Go.r (congrArg s₁.setTop (ef_cisw mm o)) ?_
  have N0 := Fr.nil Z.heap.size
  show Go pp ee below _ (s₁.setTop (mkF mm 0 #[.val (.ref o)] []))
  refine Go.g X0 hx (hb hby d16_0) rfl rfl (q := 1) rfl ?_
  refine Go.B X0 hx hZ hown (host := "") (Or.inl (wd72 hw)) Via.refl e0 F (hb hby d16_1) (q := 4) rfl ?_
  intro T101 X101 e101
  exact Go.M X101 hx hret hlk (by simp) rfl (hb hby d16_4) e101 (by decide) (by decide) ⟨rfl, N0, rfl⟩
def Q_casb (Z : State) (o : Addr) (cs : Int32) (h0 : Heap) (vR : Option Value) (hR : Heap) (LR : List Loc) : Prop := ∃ v : Addr, ∃ kv : ClassId, vR = none ∧ Fr Z.heap.size LR ∧ Keep h0 hR [o] ∧ h0.size ≤ v ∧ Fld Z hR o xS2 "value" "[B" (.ref v) ∧ Fld Z hR o xS2 "coder" "B" (.int 0) ∧ Fld Z hR o xS2 "count" "I" (.int 0) ∧ Exa Z hR v "[B" ∧ Arv Z hR v kv .byte (16 : Int32) [(.int 0), (.int 0), (.int 0), (.int 0), (.int 0)] (.int 0)
theorem casb (l : Launch) (Z : State) (a0 : Array Value) (hw : ∀ d ∈ tables_1, d.before a0 Z = true) (o : Addr) (cs : Int32) (h0 : Heap) (O0 : Ext Z.heap h0) (Eo : Exa Z h0 o xS8) (g_o : Z.heap.size ≤ o) (F0 : Fld Z h0 o xS2 "value" "[B" .null) (F1 : Fld Z h0 o xS2 "coder" "B" (.int 0)) (F2 : Fld Z h0 o xS2 "count" "I" (.int 0)) (SCS : Sta Z Z.heap xS0 xS3 "Z" (.int cs)) (hcs : ¬ (cs = (0 : Int32))) :
    Ctr l Z h0 (⟨xS2, "<init>", "(I)V"⟩ : MethodName) k21 2 none [] ({ frames := 1, cells := 1, slots := 16, locals := 12 } : Room) #[(.ref o), (.int 16)] (Q_casb Z o cs h0) := by
  refine enter (plainFor_of_name pn7) ?_
  intro pp ee ss mm below meth cc s₁ hx hby hml hZ hown hnm hret hlk X0 e0 hs0
  replace hown : ss.vm.findClass xS2 = some mm.cls := hown
  refine Go.r (congrArg s₁.setTop (ef_casb mm o)) ?_
  have N0 := Fr.nil Z.heap.size
  have KP := Keep.refl h0 [o]
  show Go pp ee below _ (s₁.setTop (mkF mm 0 #[.val (.ref o), .val (.int 16)] []))
  refine Go.g X0 hx (hb hby d21_0) rfl rfl (q := 1) rfl ?_
  refine Go.jq X0 hx hZ hown (wd110 hw) (wd20 hw) (wd21 hw) e0 (by rw [hml]; rfl) (hb hby d21_1) (by decide) (W := 0) (by exact Nat.le_refl _) (by decide) (q := 4) rfl ?_
  intro T101 X101 e101
  refine Go.jj X101 hx hZ hown (host := "") (Or.inl (wd111 hw)) Via.refl e101 (SCS.ext O0) (hb hby d21_4) (q := 7) rfl ?_
  intro T102 X102 e102
  refine Go.L X102 hx (hb hby d21_7) (Jvm.Free.XT.i0_eq_f hcs) (q := 10) rfl ?_
  refine Go.g X102 hx (hb hby d21_10) rfl rfl (q := 11) rfl ?_
  refine Go.f X102 hx (hb hby d21_11) rfl (q := 12) rfl ?_
  refine Go.ji X102 hx hZ (hb hby d21_12) (wd23 hw) e102 (by decide) (cap := 16) (by decide) (by decide) (by decide) (by decide) (ad := "[B") rfl (q := 14) rfl ?_
  intro b103 T103 h103 k103 X103 e103 q103 E103 V103 B103
  have ne_o_b103 : o ≠ b103 := ne_new Eo.lt (Nat.le_of_eq q103)
  have g_b103 : Z.heap.size ≤ b103 := Nat.le_trans O0.1 (Nat.le_of_eq q103)
  have z_b103 : h0.size ≤ b103 := Nat.le_trans KP.1 (Nat.le_of_eq q103)
  replace Eo := Eo.ext E103
  replace F0 := F0.ext E103
  replace F1 := F1.ext E103
  replace F2 := F2.ext E103
  have OE103 := ext_trans O0 E103
  replace KP := KP.ext E103
  replace V103 : Arv Z h103 b103 k103 .byte (16 : Int32) [(.int 0), (.int 0), (.int 0), (.int 0), (.int 0)] (.int 0) := V103.pad (pad_rep [] (.int 0) 5)
  refine Go.jc X103 hx hZ hown (host := "") (Or.inl (wd112 hw)) Via.refl e103 F0 Eo (Or.inl (wd113 hw)) (wd99 hw) (ty := (.array .byte)) (by decide) rfl rfl (hb hby d21_14) (q := 17) rfl ?_
  intro T104 h104 X104 e104 W104 F104
  have N104 := Fr.snoc X104 N0 g_o
  replace Eo := Eo.wr W104
  replace F1 := F1.other W104 (Or.inr (slot_ne (Or.inl (wd115 hw)) (Or.inl (wd113 hw)) (by decide) (t := .byte) (t' := (.array .byte)) (by decide) (by decide)))
  replace F2 := F2.other W104 (Or.inr (slot_ne (Or.inl (wd129 hw)) (Or.inl (wd113 hw)) (by decide) (t := .int) (t' := (.array .byte)) (by decide) (by decide)))
  replace B103 := B103.wr W104
  replace V103 := V103.other W104 (Ne.symm ne_o_b103)
  have OW104 := ext_wr OE103 W104 g_o
  replace KP := KP.wr W104 (Or.inl (List.mem_of_getElem? (i := 0) rfl))
  refine Go.g X104 hx (hb hby d21_17) rfl rfl (q := 18) rfl ?_
  refine Go.i X104 hx (hb hby d21_18) (r := (0 : Int32)) rfl (q := 19) rfl ?_
  refine Go.jc X104 hx hZ hown (host := "") (Or.inl (wd114 hw)) Via.refl e104 F1 Eo (Or.inl (wd115 hw)) (wd99 hw) (ty := .byte) (by decide) rfl rfl (hb hby d21_19) (q := 22) rfl ?_
  intro T105 h105 X105 e105 W105 F105
  have N105 := Fr.snoc X105 N104 g_o
  replace Eo := Eo.wr W105
  replace F2 := F2.other W105 (Or.inr (slot_ne (Or.inl (wd129 hw)) (Or.inl (wd115 hw)) (by decide) (t := .int) (t' := .byte) (by decide) (by decide)))
  replace B103 := B103.wr W105
  replace V103 := V103.other W105 (Ne.symm ne_o_b103)
  replace F104 := F104.other W105 (Or.inr (slot_ne (Or.inl (wd113 hw)) (Or.inl (wd115 hw)) (by decide) (t := (.array .byte)) (t' := .byte) (by decide) (by decide)))
  have OW105 := ext_wr OW104 W105 g_o
  replace KP := KP.wr W105 (Or.inl (List.mem_of_getElem? (i := 0) rfl))
  refine Go.D X105 hx (hb hby d21_22) (q := 38) (by decide) (by decide) ?_
  exact Go.jb X105 hx hret hlk (hb hby d21_38) e105 (by decide) (by decide) ⟨b103, k103, rfl, N105, KP, z_b103, F104, F105, F2, B103, V103⟩
def Q_csb (Z : State) (o : Addr) (cs : Int32) (h0 : Heap) (vR : Option Value) (hR : Heap) (LR : List Loc) : Prop := ∃ v : Addr, ∃ kv : ClassId, vR = none ∧ Fr Z.heap.size LR ∧ Keep h0 hR [o] ∧ h0.size ≤ v ∧ Fld Z hR o xS2 "value" "[B" (.ref v) ∧ Fld Z hR o xS2 "coder" "B" (.int 0) ∧ Fld Z hR o xS2 "count" "I" (.int 0) ∧ Exa Z hR v "[B" ∧ Arv Z hR v kv .byte (16 : Int32) [(.int 0), (.int 0), (.int 0), (.int 0), (.int 0)] (.int 0)
theorem csb (l : Launch) (Z : State) (a0 : Array Value) (hw : ∀ d ∈ tables_1, d.before a0 Z = true) (o : Addr) (cs : Int32) (h0 : Heap) (O0 : Ext Z.heap h0) (Eo : Exa Z h0 o xS8) (g_o : Z.heap.size ≤ o) (F0 : Fld Z h0 o xS2 "value" "[B" .null) (F1 : Fld Z h0 o xS2 "coder" "B" (.int 0)) (F2 : Fld Z h0 o xS2 "count" "I" (.int 0)) (SCS : Sta Z Z.heap xS0 xS3 "Z" (.int cs)) (hcs : ¬ (cs = (0 : Int32))) :
    Ctr l Z h0 (⟨xS8, "<init>", "()V"⟩ : MethodName) k20 1 none [] ({ frames := 2, cells := 1, slots := 16, locals := 25 } : Room) #[(.ref o)] (Q_csb Z o cs h0) := by
  refine enter (plainFor_of_name pn8) ?_
  intro pp ee ss mm below meth cc s₁ hx hby hml hZ hown hnm hret hlk X0 e0 hs0
  replace hown : ss.vm.findClass xS8 = some mm.cls := hown
  refine Go.r (congrArg s₁.setTop (ef_csb mm o)) ?_
  have N0 := Fr.nil Z.heap.size
  have KP := Keep.refl h0 [o]
  show Go pp ee below _ (s₁.setTop (mkF mm 0 #[.val (.ref o)] []))
  refine Go.g X0 hx (hb hby d20_0) rfl rfl (q := 1) rfl ?_
  refine Go.E X0 hx (hb hby d20_1) (r := (16 : Int32)) rfl (q := 3) rfl ?_
  refine Go.Y X0 hx hZ hown rfl (wd104 hw) (wd105 hw) (wd108 hw) (wd109 hw) (by decide) (casb l Z a0 hw o cs h0 O0 Eo g_o F0 F1 F2 SCS hcs) e0 (by rw [hml]; rfl) (hb hby d20_3) (argsL := [(.int 16)]) (rest := []) (lenOf pd14 rfl) rfl rfl (W := 0) (Nat.le_refl _) (by decide) ?_
  intro v101 T101 L101 X101 hQ101
  obtain ⟨h101, e101⟩ : ∃ z, T101.heap = z := ⟨_, rfl⟩
  rw [e101] at hQ101
  obtain ⟨v_101, kv_101, rfl, N101q, K101, fr101_v, P101_0, P101_1, P101_2, P101_3, P101_4⟩ := hQ101
  have N101 := Fr.app N0 N101q
  have ne_o_v_101 : o ≠ v_101 := ne_new Eo.lt fr101_v
  have g_v_101 : Z.heap.size ≤ v_101 := Nat.le_trans O0.1 fr101_v
  have z_v_101 : h0.size ≤ v_101 := Nat.le_trans KP.1 fr101_v
  replace Eo := Eo.keep K101
  have OK101 := ext_keep O0 K101 (allS g_o all0)
  replace KP := KP.trans K101 (allS (Or.inl (List.mem_of_getElem? (i := 0) rfl)) all0)
  exact Go.jb X101 hx hret hlk (hb hby d20_6) e101 (by decide) (by decide) ⟨v_101, kv_101, rfl, N101, KP, z_v_101, P101_0, P101_1, P101_2, P101_3, P101_4⟩
def Q_cens (Z : State) (o : Addr) (mn cp : Int32) (v : Addr) (kv : ClassId) (vs : List Value) (h0 : Heap) (vR : Option Value) (hR : Heap) (LR : List Loc) : Prop := vR = none ∧ Fr Z.heap.size LR ∧ hR = h0
theorem cens (l : Launch) (Z : State) (a0 : Array Value) (hw : ∀ d ∈ tables_1, d.before a0 Z = true) (o : Addr) (mn cp : Int32) (v : Addr) (kv : ClassId) (vs : List Value) (h0 : Heap) (O0 : Ext Z.heap h0) (Fv : Fld Z h0 o xS2 "value" "[B" (.ref v)) (Fc : Fld Z h0 o xS2 "coder" "B" (.int 0)) (Va : Arv Z h0 v kv .byte cp vs (.int 0)) (hmn : ¬ ((0 : Int32) < (mn - cp))) :
    Ctr l Z h0 (⟨xS2, "ensureCapacityInternal", "(I)V"⟩ : MethodName) k24 3 none [] ({ frames := 0, cells := 0, slots := 0, locals := 0 } : Room) #[(.ref o), (.int mn)] (Q_cens Z o mn cp v kv vs h0) := by
  refine enter (plainFor_of_name pn7) ?_
  intro pp ee ss mm below meth cc s₁ hx hby hml hZ hown hnm hret hlk X0 e0 hs0
  replace hown : ss.vm.findClass xS2 = some mm.cls := hown
  refine Go.r (congrArg s₁.setTop (ef_cens mm o mn)) ?_
  have N0 := Fr.nil Z.heap.size
  show Go pp ee below _ (s₁.setTop (mkF mm 0 #[.val (.ref o), .val (.int mn), .unset] []))
  refine Go.g X0 hx (hb hby d24_0) rfl rfl (q := 1) rfl ?_
  refine Go.B X0 hx hZ hown (host := "") (Or.inl (wd112 hw)) Via.refl e0 Fv (hb hby d24_1) (q := 4) rfl ?_
  intro T101 X101 e101
  refine Go.J X101 hx hZ e101 Va (hb hby d24_4) ?_
  refine Go.g X101 hx (hb hby d24_5) rfl rfl (q := 6) rfl ?_
  refine Go.B X101 hx hZ hown (host := "") (Or.inl (wd114 hw)) Via.refl e101 Fc (hb hby d24_6) (q := 9) rfl ?_
  intro T102 X102 e102
  refine Go.jF X102 hx (hb hby d24_9) rfl (q := 10) rfl ?_
  rw [own_shr0 cp]
  show Go pp ee below _ (T102.setTop (mkF mm 10 #[.val (.ref o), .val (.int mn), .unset] [(.int cp)]))
  refine Go.P X102 hx (hb hby d24_10) (l' := #[.val (.ref o), .val (.int mn), .val (.int cp)]) rfl (q := 11) rfl ?_
  refine Go.f X102 hx (hb hby d24_11) rfl (q := 12) rfl ?_
  refine Go.f X102 hx (hb hby d24_12) rfl (q := 13) rfl ?_
  refine Go.ja X102 hx (hb hby d24_13) rfl (q := 14) rfl ?_
  refine Go.F X102 hx (hb hby d24_14) (Jvm.Free.XT.i0_le_t hmn) (q := 38) (by decide) (by decide) ?_
  exact Go.jb X102 hx hret hlk (hb hby d24_38) e102 (by decide) (by decide) ⟨rfl, N0, rfl⟩
def Q_cinf (Z : State) (o t : Addr) (cs : Int32) (h0 : Heap) (vR : Option Value) (hR : Heap) (LR : List Loc) : Prop := vR = none ∧ Fr Z.heap.size LR ∧ hR = h0
theorem cinf (l : Launch) (Z : State) (a0 : Array Value) (hw : ∀ d ∈ tables_1, d.before a0 Z = true) (o t : Addr) (cs : Int32) (h0 : Heap) (O0 : Ext Z.heap h0) (Fc : Fld Z h0 o xS2 "coder" "B" (.int 0)) (Et : Exa Z h0 t xS0) (Ft : Fld Z h0 t xS0 "coder" "B" (.int 0)) (SCS : Sta Z Z.heap xS0 xS3 "Z" (.int cs)) (hcs : ¬ (cs = (0 : Int32))) :
    Ctr l Z h0 (⟨xS2, "inflateIfNeededFor", "(Ljava/lang/String;)V"⟩ : MethodName) k26 2 none [] ({ frames := 1, cells := 0, slots := 0, locals := 13 } : Room) #[(.ref o), (.ref t)] (Q_cinf Z o t cs h0) := by
  refine enter (plainFor_of_name pn7) ?_
  intro pp ee ss mm below meth cc s₁ hx hby hml hZ hown hnm hret hlk X0 e0 hs0
  replace hown : ss.vm.findClass xS2 = some mm.cls := hown
  refine Go.r (congrArg s₁.setTop (ef_cinf mm o t)) ?_
  have N0 := Fr.nil Z.heap.size
  show Go pp ee below _ (s₁.setTop (mkF mm 0 #[.val (.ref o), .val (.ref t)] []))
  refine Go.jj X0 hx hZ hown (host := "") (Or.inl (wd111 hw)) Via.refl e0 (SCS.ext O0) (hb hby d26_0) (q := 3) rfl ?_
  intro T101 X101 e101
  refine Go.L X101 hx (hb hby d26_3) (Jvm.Free.XT.i0_eq_f hcs) (q := 6) rfl ?_
  refine Go.g X101 hx (hb hby d26_6) rfl rfl (q := 7) rfl ?_
  refine Go.B X101 hx hZ hown (host := "") (Or.inl (wd114 hw)) Via.refl e101 Fc (hb hby d26_7) (q := 10) rfl ?_
  intro T102 X102 e102
  refine Go.g X102 hx (hb hby d26_10) rfl rfl (q := 11) rfl ?_
  refine Go.u X102 hx hZ hown (wd145 hw) (wd64 hw) (notFace_of_selects (args := #[]) (mvT hZ (wd66 hw))) (wd66 hw) (wd65 hw) (wd7 hw) (wd67 hw) (by decide) (ccoder l Z a0 hw t cs h0 O0 Ft SCS hcs) e102 Et (by rw [hml]; rfl) (hb hby d26_11) (argsL := []) (rest := [(.int 0)]) (lenOf pd4 rfl) rfl rfl (W := 1) (Nat.le_refl _) (by decide) ?_
  intro v103 T103 L103 X103 hQ103
  obtain ⟨rfl, N103q, e103⟩ := hQ103
  have N103 := Fr.app N0 N103q
  refine Go.y X103 hx (hb hby d26_14) (by decide) (q := 21) (by decide) (by decide) ?_
  exact Go.jb X103 hx hret hlk (hb hby d26_21) e103 (by decide) (by decide) ⟨rfl, N103, rfl⟩
def Q_csbl (Z : State) (o : Addr) (cs : Int32) (h0 : Heap) (vR : Option Value) (hR : Heap) (LR : List Loc) : Prop := vR = some (.int 1) ∧ Fr Z.heap.size LR ∧ hR = h0
theorem csbl (l : Launch) (Z : State) (a0 : Array Value) (hw : ∀ d ∈ tables_1, d.before a0 Z = true) (o : Addr) (cs : Int32) (h0 : Heap) (O0 : Ext Z.heap h0) (Fc : Fld Z h0 o xS2 "coder" "B" (.int 0)) (SCS : Sta Z Z.heap xS0 xS3 "Z" (.int cs)) (hcs : ¬ (cs = (0 : Int32))) :
    Ctr l Z h0 (⟨xS2, "isLatin1", "()Z"⟩ : MethodName) k30 1 (some .boolean) [] ({ frames := 0, cells := 0, slots := 0, locals := 0 } : Room) #[(.ref o)] (Q_csbl Z o cs h0) := by
  refine enter (plainFor_of_name pn7) ?_
  intro pp ee ss mm below meth cc s₁ hx hby hml hZ hown hnm hret hlk X0 e0 hs0
  replace hown : ss.vm.findClass xS2 = some mm.cls := hown
  refine Go.r (congrArg s₁.setTop (ef_csbl mm o)) ?_
  have N0 := Fr.nil Z.heap.size
  show Go pp ee below _ (s₁.setTop (mkF mm 0 #[.val (.ref o)] []))
  refine Go.jj X0 hx hZ hown (host := "") (Or.inl (wd111 hw)) Via.refl e0 (SCS.ext O0) (hb hby d30_0) (q := 3) rfl ?_
  intro T101 X101 e101
  refine Go.L X101 hx (hb hby d30_3) (Jvm.Free.XT.i0_eq_f hcs) (q := 6) rfl ?_
  refine Go.g X101 hx (hb hby d30_6) rfl rfl (q := 7) rfl ?_
  refine Go.B X101 hx hZ hown (host := "") (Or.inl (wd114 hw)) Via.refl e101 Fc (hb hby d30_7) (q := 10) rfl ?_
  intro T102 X102 e102
  refine Go.L X102 hx (hb hby d30_10) (by decide) (q := 13) rfl ?_
  refine Go.i X102 hx (hb hby d30_13) (r := (1 : Int32)) rfl (q := 14) rfl ?_
  refine Go.D X102 hx (hb hby d30_14) (q := 18) (by decide) (by decide) ?_
  exact Go.M X102 hx hret hlk (by simp) rfl (hb hby d30_18) e102 (by decide) (by decide) ⟨rfl, N0, rfl⟩
def Q_cgva (Z : State) (o v : Addr) (h0 : Heap) (vR : Option Value) (hR : Heap) (LR : List Loc) : Prop := vR = some (.ref v) ∧ Fr Z.heap.size LR ∧ hR = h0
theorem cgva (l : Launch) (Z : State) (a0 : Array Value) (hw : ∀ d ∈ tables_1, d.before a0 Z = true) (o v : Addr) (h0 : Heap) (O0 : Ext Z.heap h0) (Fv : Fld Z h0 o xS2 "value" "[B" (.ref v)) :
    Ctr l Z h0 (⟨xS2, "getValue", "()[B"⟩ : MethodName) k35 1 (some (.array .byte)) [] ({ frames := 0, cells := 0, slots := 0, locals := 0 } : Room) #[(.ref o)] (Q_cgva Z o v h0) := by
  refine enter (plainFor_of_name pn7) ?_
  intro pp ee ss mm below meth cc s₁ hx hby hml hZ hown hnm hret hlk X0 e0 hs0
  replace hown : ss.vm.findClass xS2 = some mm.cls := hown
  refine Go.r (congrArg s₁.setTop (ef_cgva mm o)) ?_
  have N0 := Fr.nil Z.heap.size
  show Go pp ee below _ (s₁.setTop (mkF mm 0 #[.val (.ref o)] []))
  refine Go.g X0 hx (hb hby d35_0) rfl rfl (q := 1) rfl ?_
  refine Go.B X0 hx hZ hown (host := "") (Or.inl (wd112 hw)) Via.refl e0 Fv (hb hby d35_1) (q := 4) rfl ?_
  intro T101 X101 e101
  exact Go.U X101 hx hret hlk rfl rfl (hb hby d35_4) e101 (by decide) (by decide) ⟨rfl, N0, rfl⟩
def Q_clna (Z : State) (o : Addr) (cn : Int32) (h0 : Heap) (vR : Option Value) (hR : Heap) (LR : List Loc) : Prop := vR = some (.int cn) ∧ Fr Z.heap.size LR ∧ hR = h0
theorem clna (l : Launch) (Z : State) (a0 : Array Value) (hw : ∀ d ∈ tables_1, d.before a0 Z = true) (o : Addr) (cn : Int32) (h0 : Heap) (O0 : Ext Z.heap h0) (Fn : Fld Z h0 o xS2 "count" "I" (.int cn)) :
    Ctr l Z h0 (⟨xS2, "length", "()I"⟩ : MethodName) k37 1 (some .int) [] ({ frames := 0, cells := 0, slots := 0, locals := 0 } : Room) #[(.ref o)] (Q_clna Z o cn h0) := by
  refine enter (plainFor_of_name pn7) ?_
  intro pp ee ss mm below meth cc s₁ hx hby hml hZ hown hnm hret hlk X0 e0 hs0
  replace hown : ss.vm.findClass xS2 = some mm.cls := hown
  refine Go.r (congrArg s₁.setTop (ef_clna mm o)) ?_
  have N0 := Fr.nil Z.heap.size
  show Go pp ee below _ (s₁.setTop (mkF mm 0 #[.val (.ref o)] []))
  refine Go.g X0 hx (hb hby d37_0) rfl rfl (q := 1) rfl ?_
  refine Go.B X0 hx hZ hown (host := "") (Or.inl (wd128 hw)) Via.refl e0 Fn (hb hby d37_1) (q := 4) rfl ?_
  intro T101 X101 e101
  exact Go.M X101 hx hret hlk (Or.inl rfl) rfl (hb hby d37_4) e101 (by decide) (by decide) ⟨rfl, N0, rfl⟩
def Q_clnb (Z : State) (o : Addr) (cn : Int32) (h0 : Heap) (vR : Option Value) (hR : Heap) (LR : List Loc) : Prop := vR = some (.int cn) ∧ Fr Z.heap.size LR ∧ hR = h0
theorem clnb (l : Launch) (Z : State) (a0 : Array Value) (hw : ∀ d ∈ tables_1, d.before a0 Z = true) (o : Addr) (cn : Int32) (h0 : Heap) (O0 : Ext Z.heap h0) (Eo : Exa Z h0 o xS8) (Fn : Fld Z h0 o xS2 "count" "I" (.int cn)) :
    Ctr l Z h0 (⟨xS8, "length", "()I"⟩ : MethodName) k36 1 (some .int) [] ({ frames := 1, cells := 0, slots := 0, locals := 12 } : Room) #[(.ref o)] (Q_clnb Z o cn h0) := by
  refine enter (plainFor_of_name pn8) ?_
  intro pp ee ss mm below meth cc s₁ hx hby hml hZ hown hnm hret hlk X0 e0 hs0
  replace hown : ss.vm.findClass xS8 = some mm.cls := hown
  refine Go.r (congrArg s₁.setTop (ef_clnb mm o)) ?_
  have N0 := Fr.nil Z.heap.size
  show Go pp ee below _ (s₁.setTop (mkF mm 0 #[.val (.ref o)] []))
  refine Go.g X0 hx (hb hby d36_0) rfl rfl (q := 1) rfl ?_
  refine Go.jE X0 hx hZ hown (wd196 hw) (own_sameM (x' := (⟨xS2, "ensureCapacityInternal", "(I)V"⟩ : MethodName)) (z' := (⟨xS2, "ensureCapacityInternal", "(I)V"⟩ : MethodName)) (y := (⟨xS2, "length", "()I"⟩ : MethodName)) (wd133 hw) rfl (wd192 hw) (by decide)) (wd192 hw) (wd124 hw) (by decide) (wd108 hw) (wd197 hw) (clna l Z a0 hw o cn h0 O0 Fn) e0 Eo (by rw [hml]; rfl) (hb hby d36_1) (argsL := []) (rest := []) (lenOf pd10 rfl) rfl rfl (W := 0) (Nat.le_refl _) (by decide) ?_
  intro v101 T101 L101 X101 hQ101
  obtain ⟨rfl, N101q, e101⟩ := hQ101
  have N101 := Fr.app N0 N101q
  exact Go.M X101 hx hret hlk (Or.inl rfl) rfl (hb hby d36_4) e101 (by decide) (by decide) ⟨rfl, N101, rfl⟩
def Q_ccan (Z : State) (c : Int32) (h0 : Heap) (vR : Option Value) (hR : Heap) (LR : List Loc) : Prop := vR = some (.int 1) ∧ Fr Z.heap.size LR ∧ hR = h0
theorem ccan (l : Launch) (Z : State) (a0 : Array Value) (hw : ∀ d ∈ tables_1, d.before a0 Z = true) (c : Int32) (h0 : Heap) (O0 : Ext Z.heap h0) (hc : ¬ ((255 : Int32) < c)) :
    Ctr l Z h0 (⟨xS7, "canEncode", "(C)Z"⟩ : MethodName) k31 1 (some .boolean) [] ({ frames := 0, cells := 0, slots := 0, locals := 0 } : Room) #[(.int c)] (Q_ccan Z c h0) := by
  refine enter (plainFor_of_name pn4) ?_
  intro pp ee ss mm below meth cc s₁ hx hby hml hZ hown hnm hret hlk X0 e0 hs0
  replace hown : ss.vm.findClass xS7 = some mm.cls := hown
  refine Go.r (congrArg s₁.setTop (ef_ccan mm c)) ?_
  have N0 := Fr.nil Z.heap.size
  show Go pp ee below _ (s₁.setTop (mkF mm 0 #[.val (.int c)] []))
  refine Go.f X0 hx (hb hby d31_0) rfl (q := 1) rfl ?_
  refine Go.X X0 hx (hb hby d31_1) (r := (255 : Int32)) rfl (q := 4) rfl ?_
  refine Go.t X0 hx (hb hby d31_4) (Jvm.Free.XT.ii_gt_f hc) (q := 7) rfl ?_
  refine Go.i X0 hx (hb hby d31_7) (r := (1 : Int32)) rfl (q := 8) rfl ?_
  refine Go.D X0 hx (hb hby d31_8) (q := 12) (by decide) (by decide) ?_
  exact Go.M X0 hx hret hlk (by simp) rfl (hb hby d31_12) e0 (by decide) (by decide) ⟨rfl, N0, rfl⟩
def Q_cchl (Z : State) (pa pb : Int32) (h0 : Heap) (vR : Option Value) (hR : Heap) (LR : List Loc) : Prop := vR = none ∧ Fr Z.heap.size LR ∧ hR = h0
theorem cchl (l : Launch) (Z : State) (a0 : Array Value) (hw : ∀ d ∈ tables_1, d.before a0 Z = true) (pa pb : Int32) (h0 : Heap) (O0 : Ext Z.heap h0) (h : ¬ (pb < pa)) :
    Ctr l Z h0 (⟨"java/util/Arrays", "checkLength", "(II)V"⟩ : MethodName) k40 2 none [] ({ frames := 0, cells := 0, slots := 0, locals := 0 } : Room) #[(.int pa), (.int pb)] (Q_cchl Z pa pb h0) := by
  refine enter (plainFor_of_name pn9) ?_
  intro pp ee ss mm below meth cc s₁ hx hby hml hZ hown hnm hret hlk X0 e0 hs0
  replace hown : ss.vm.findClass "java/util/Arrays" = some mm.cls := hown
  refine Go.r (congrArg s₁.setTop (ef_cchl mm pa pb)) ?_
  have N0 := Fr.nil Z.heap.size
  show Go pp ee below _ (s₁.setTop (mkF mm 0 #[.val (.int pa), .val (.int pb)] []))
  refine Go.f X0 hx (hb hby d40_0) rfl (q := 1) rfl ?_
  refine Go.f X0 hx (hb hby d40_1) rfl (q := 2) rfl ?_
  refine Go.y X0 hx (hb hby d40_2) (Jvm.Free.XT.ii_ge_t h) (q := 37) (by decide) (by decide) ?_
  exact Go.jb X0 hx hret hlk (hb hby d40_37) e0 (by decide) (by decide) ⟨rfl, N0, rfl⟩
def Q_cmin1 (Z : State) (pa pb : Int32) (h0 : Heap) (vR : Option Value) (hR : Heap) (LR : List Loc) : Prop := vR = some (.int pa) ∧ Fr Z.heap.size LR ∧ hR = h0
theorem cmin1 (l : Launch) (Z : State) (a0 : Array Value) (hw : ∀ d ∈ tables_1, d.before a0 Z = true) (pa pb : Int32) (h0 : Heap) (O0 : Ext Z.heap h0) (h : ¬ (pb < pa)) :
    Ctr l Z h0 (⟨"java/lang/Math", "min", "(II)I"⟩ : MethodName) k41 2 (some .int) [] ({ frames := 0, cells := 0, slots := 0, locals := 0 } : Room) #[(.int pa), (.int pb)] (Q_cmin1 Z pa pb h0) := by
  refine enter (Jvm.Free.JP.mathPlain rfl (by decide +kernel)) ?_
  intro pp ee ss mm below meth cc s₁ hx hby hml hZ hown hnm hret hlk X0 e0 hs0
  replace hown : ss.vm.findClass "java/lang/Math" = some mm.cls := hown
  refine Go.r (congrArg s₁.setTop (ef_cmin1 mm pa pb)) ?_
  have N0 := Fr.nil Z.heap.size
  show Go pp ee below _ (s₁.setTop (mkF mm 0 #[.val (.int pa), .val (.int pb)] []))
  refine Go.f X0 hx (hb hby d41_0) rfl (q := 1) rfl ?_
  refine Go.f X0 hx (hb hby d41_1) rfl (q := 2) rfl ?_
  refine Go.t X0 hx (hb hby d41_2) (Jvm.Free.XT.ii_gt_f h) (q := 5) rfl ?_
  refine Go.f X0 hx (hb hby d41_5) rfl (q := 6) rfl ?_
  refine Go.D X0 hx (hb hby d41_6) (q := 10) (by decide) (by decide) ?_
  exact Go.M X0 hx hret hlk (Or.inl rfl) rfl (hb hby d41_10) e0 (by decide) (by decide) ⟨rfl, N0, rfl⟩
def Q_cmin2 (Z : State) (pa pb : Int32) (h0 : Heap) (vR : Option Value) (hR : Heap) (LR : List Loc) : Prop := vR = some (.int pb) ∧ Fr Z.heap.size LR ∧ hR = h0
theorem cmin2 (l : Launch) (Z : State) (a0 : Array Value) (hw : ∀ d ∈ tables_1, d.before a0 Z = true) (pa pb : Int32) (h0 : Heap) (O0 : Ext Z.heap h0) (h : pb < pa) :
    Ctr l Z h0 (⟨"java/lang/Math", "min", "(II)I"⟩ : MethodName) k41 2 (some .int) [] ({ frames := 0, cells := 0, slots := 0, locals := 0 } : Room) #[(.int pa), (.int pb)] (Q_cmin2 Z pa pb h0) := by
  refine enter (Jvm.Free.JP.mathPlain rfl (by decide +kernel)) ?_
  intro pp ee ss mm below meth cc s₁ hx hby hml hZ hown hnm hret hlk X0 e0 hs0
  replace hown : ss.vm.findClass "java/lang/Math" = some mm.cls := hown
  refine Go.r (congrArg s₁.setTop (ef_cmin2 mm pa pb)) ?_
  have N0 := Fr.nil Z.heap.size
  show Go pp ee below _ (s₁.setTop (mkF mm 0 #[.val (.int pa), .val (.int pb)] []))
  refine Go.f X0 hx (hb hby d41_0) rfl (q := 1) rfl ?_
  refine Go.f X0 hx (hb hby d41_1) rfl (q := 2) rfl ?_
  refine Go.y X0 hx (hb hby d41_2) (Jvm.Free.XT.ii_gt_t h) (q := 9) (by decide) (by decide) ?_
  refine Go.f X0 hx (hb hby d41_9) rfl (q := 10) rfl ?_
  exact Go.M X0 hx hret hlk (Or.inl rfl) rfl (hb hby d41_10) e0 (by decide) (by decide) ⟨rfl, N0, rfl⟩
def Q_cgb (Z : State) (t u v : Addr) (cs cp : Int32) (kv ku : ClassId) (ct ln : Int32) (us ds ot : List Value) (h0 : Heap) (vR : Option Value) (hR : Heap) (LR : List Loc) : Prop := vR = none ∧ Fr Z.heap.size LR ∧ Keep h0 hR [v] ∧ Arv Z hR v kv .byte cp ot (.int 0)
theorem cgb (l : Launch) (Z : State) (a0 : Array Value) (hw : ∀ d ∈ tables_1, d.before a0 Z = true) (t u v : Addr) (cs cp : Int32) (kv ku : ClassId) (ct ln : Int32) (us ds ot : List Value) (h0 : Heap) (O0 : Ext Z.heap h0) (Et : Exa Z h0 t xS0) (Ct : Fld Z h0 t xS0 "coder" "B" (.int 0)) (Ft : Fld Z h0 t xS0 "value" "[B" (.ref u)) (Vu : Arv Z h0 u ku .byte ln us (.int 0)) (Vv : Arv Z h0 v kv .byte cp ds (.int 0)) (g_v : Z.heap.size ≤ v) (SCS : Sta Z Z.heap xS0 xS3 "Z" (.int cs)) (hcs : ¬ (cs = (0 : Int32))) (hcp : Cpy (0 : Int32) ct ln ln cp us ds us ot) :
    Ctr l Z h0 (⟨xS0, "getBytes", "([BIB)V"⟩ : MethodName) k27 4 none [] ({ frames := 1, cells := 0, slots := 0, locals := 18 } : Room) #[(.ref t), (.ref v), (.int ct), (.int 0)] (Q_cgb Z t u v cs cp kv ku ct ln us ds ot h0) := by
  refine enter (plainFor_of_name pn1) ?_
  intro pp ee ss mm below meth cc s₁ hx hby hml hZ hown hnm hret hlk X0 e0 hs0
  replace hown : ss.vm.findClass xS0 = some mm.cls := hown
  refine Go.r (congrArg s₁.setTop (ef_cgb mm t v ct)) ?_
  have N0 := Fr.nil Z.heap.size
  have KP := Keep.refl h0 [v]
  show Go pp ee below _ (s₁.setTop (mkF mm 0 #[.val (.ref t), .val (.ref v), .val (.int ct), .val (.int 0)] []))
  refine Go.g X0 hx (hb hby d27_0) rfl rfl (q := 1) rfl ?_
  refine Go.u X0 hx hZ hown (wd63 hw) (wd64 hw) (notFace_of_selects (args := #[]) (mvT hZ (wd66 hw))) (wd66 hw) (wd65 hw) (wd7 hw) (wd67 hw) (by decide) (ccoder l Z a0 hw t cs h0 O0 Ct SCS hcs) e0 Et (by rw [hml]; rfl) (hb hby d27_1) (argsL := []) (rest := []) (lenOf pd4 rfl) rfl rfl (W := 0) (Nat.le_refl _) (by decide) ?_
  intro v101 T101 L101 X101 hQ101
  obtain ⟨rfl, N101q, e101⟩ := hQ101
  have N101 := Fr.app N0 N101q
  refine Go.f X101 hx (hb hby d27_4) rfl (q := 5) rfl ?_
  refine Go.t X101 hx (hb hby d27_5) (by decide) (q := 8) rfl ?_
  refine Go.g X101 hx (hb hby d27_8) rfl rfl (q := 9) rfl ?_
  refine Go.B X101 hx hZ hown (host := "") (Or.inl (wd28 hw)) Via.refl e101 Ft (hb hby d27_9) (q := 12) rfl ?_
  intro T102 X102 e102
  refine Go.i X102 hx (hb hby d27_12) (r := (0 : Int32)) rfl (q := 13) rfl ?_
  refine Go.g X102 hx (hb hby d27_13) rfl rfl (q := 14) rfl ?_
  refine Go.f X102 hx (hb hby d27_14) rfl (q := 15) rfl ?_
  refine Go.f X102 hx (hb hby d27_15) rfl (q := 16) rfl ?_
  refine Go.jO X102 hx (hb hby d27_16) rfl (q := 17) rfl ?_
  rw [own_shl0 ct]
  show Go pp ee below _ (T102.setTop (mkF mm 17 #[.val (.ref t), .val (.ref v), .val (.int ct), .val (.int 0)] [(.int ct), (.ref v), (.int 0), (.ref u)]))
  refine Go.g X102 hx (hb hby d27_17) rfl rfl (q := 18) rfl ?_
  refine Go.B X102 hx hZ hown (host := "") (Or.inl (wd28 hw)) Via.refl e102 Ft (hb hby d27_18) (q := 21) rfl ?_
  intro T103 X103 e103
  refine Go.J X103 hx hZ e103 Vu (hb hby d27_21) ?_
  obtain ⟨T104, h104, L104, X104, e104, N104, K104, V104, st104⟩ := cpA X103 hx hZ hown (wd151 hw) (wd154 hw) (wd152 hw) (wd153 hw) e103 Vu Vv (us := us) (sp := (0 : Int32)) (dp := ct) (nn := ln) (Or.inl ⟨rfl, rfl⟩) hcp.1.1 hcp.1.2.1 hcp.1.2.2 hcp.2.1 hcp.2.2.1 hcp.2.2.2.1 hcp.2.2.2.2.1 N101 g_v (g := (mkF mm 22 #[.val (.ref t), .val (.ref v), .val (.int ct), .val (.int 0)] [(.int ln), (.int ct), (.ref v), (.int 0), (.ref u)])) rfl (by rw [hml]; rfl) rfl (hb hby d27_22) (by decide) (W := 0) (by show 2 * 0 + _ ≤ _; exact Nat.le_of_eq rfl) (by decide)
  refine Go.I st104 ?_
  replace Et := Et.keep K104
  have OK104 := ext_keep O0 K104 (allS g_v all0)
  replace KP := KP.trans K104 (allS (Or.inl (List.mem_of_getElem? (i := 0) rfl)) all0)
  rw [hcp.2.2.2.2.2] at V104
  show Go pp ee below _ (T104.setTop (mkF mm 25 #[.val (.ref t), .val (.ref v), .val (.int ct), .val (.int 0)] []))
  refine Go.D X104 hx (hb hby d27_25) (q := 43) (by decide) (by decide) ?_
  exact Go.jb X104 hx hret hlk (hb hby d27_43) e104 (by decide) (by decide) ⟨rfl, N104, KP, V104⟩
def Q_cps (Z : State) (o t u v : Addr) (cs cp : Int32) (kv ku : ClassId) (ct ln : Int32) (us ds ot : List Value) (h0 : Heap) (vR : Option Value) (hR : Heap) (LR : List Loc) : Prop := vR = none ∧ Fr Z.heap.size LR ∧ Keep h0 hR [v] ∧ Arv Z hR v kv .byte cp ot (.int 0)
theorem cps (l : Launch) (Z : State) (a0 : Array Value) (hw : ∀ d ∈ tables_1, d.before a0 Z = true) (o t u v : Addr) (cs cp : Int32) (kv ku : ClassId) (ct ln : Int32) (us ds ot : List Value) (h0 : Heap) (O0 : Ext Z.heap h0) (Eo : Exa Z h0 o xS8) (F0 : Fld Z h0 o xS2 "value" "[B" (.ref v)) (F1 : Fld Z h0 o xS2 "coder" "B" (.int 0)) (F2 : Fld Z h0 o xS2 "count" "I" (.int ct)) (Vv : Arv Z h0 v kv .byte cp ds (.int 0)) (g_v : Z.heap.size ≤ v) (g_o : Z.heap.size ≤ o) (nov : o ≠ v) (Et : Exa Z h0 t xS0) (Ct : Fld Z h0 t xS0 "coder" "B" (.int 0)) (Ft : Fld Z h0 t xS0 "value" "[B" (.ref u)) (Vu : Arv Z h0 u ku .byte ln us (.int 0)) (SCS : Sta Z Z.heap xS0 xS3 "Z" (.int cs)) (hcs : ¬ (cs = (0 : Int32))) (hcp : Cpy (0 : Int32) ct ln ln cp us ds us ot) :
    Ctr l Z h0 (⟨xS2, "putStringAt", "(ILjava/lang/String;)V"⟩ : MethodName) k25 3 none [] ({ frames := 2, cells := 0, slots := 0, locals := 33 } : Room) #[(.ref o), (.int ct), (.ref t)] (Q_cps Z o t u v cs cp kv ku ct ln us ds ot h0) := by
  refine enter (plainFor_of_name pn7) ?_
  intro pp ee ss mm below meth cc s₁ hx hby hml hZ hown hnm hret hlk X0 e0 hs0
  replace hown : ss.vm.findClass xS2 = some mm.cls := hown
  refine Go.r (congrArg s₁.setTop (ef_cps mm o ct t)) ?_
  have N0 := Fr.nil Z.heap.size
  have KP := Keep.refl h0 [v]
  show Go pp ee below _ (s₁.setTop (mkF mm 0 #[.val (.ref o), .val (.int ct), .val (.ref t)] []))
  refine Go.g X0 hx (hb hby d25_0) rfl rfl (q := 1) rfl ?_
  refine Go.g X0 hx (hb hby d25_1) rfl rfl (q := 2) rfl ?_
  refine Go.jB X0 hx hZ hown (wd140 hw) (wd141 hw) (own_selp (x' := (⟨xS2, "ensureCapacityInternal", "(I)V"⟩ : MethodName)) (y' := (⟨xS2, "ensureCapacityInternal", "(I)V"⟩ : MethodName)) (y := (⟨xS2, "inflateIfNeededFor", "(Ljava/lang/String;)V"⟩ : MethodName)) (wd133 hw) rfl (wd141 hw) (wd142 hw) (by decide)) (wd142 hw) (wd108 hw) (wd144 hw) (by decide) (cinf l Z a0 hw o t cs h0 O0 F1 Et Ct SCS hcs) e0 Eo (by rw [hml]; rfl) (hb hby d25_2) (argsL := [(.ref t)]) (rest := []) (lenOf pd15 rfl) rfl rfl (W := 0) (Nat.le_refl _) (by decide) ?_
  intro v101 T101 L101 X101 hQ101
  obtain ⟨rfl, N101q, e101⟩ := hQ101
  have N101 := Fr.app N0 N101q
  refine Go.g X101 hx (hb hby d25_5) rfl rfl (q := 6) rfl ?_
  refine Go.g X101 hx (hb hby d25_6) rfl rfl (q := 7) rfl ?_
  refine Go.B X101 hx hZ hown (host := "") (Or.inl (wd112 hw)) Via.refl e101 F0 (hb hby d25_7) (q := 10) rfl ?_
  intro T102 X102 e102
  refine Go.f X102 hx (hb hby d25_10) rfl (q := 11) rfl ?_
  refine Go.g X102 hx (hb hby d25_11) rfl rfl (q := 12) rfl ?_
  refine Go.B X102 hx hZ hown (host := "") (Or.inl (wd114 hw)) Via.refl e102 F1 (hb hby d25_12) (q := 15) rfl ?_
  intro T103 X103 e103
  refine Go.u X103 hx hZ hown (wd146 hw) (wd147 hw) (notFace_of_selects (args := #[]) (mvT hZ (wd149 hw))) (wd149 hw) (wd148 hw) (wd7 hw) (wd150 hw) (by decide) (cgb l Z a0 hw t u v cs cp (kv) (ku) ct ln (us) (ds) (ot) h0 O0 Et Ct Ft Vu Vv g_v SCS hcs hcp) e103 Et (by rw [hml]; rfl) (hb hby d25_15) (argsL := [(.ref v), (.int ct), (.int 0)]) (rest := []) (lenOf pd16 rfl) rfl rfl (W := 0) (Nat.le_refl _) (by decide) ?_
  intro v104 T104 L104 X104 hQ104
  obtain ⟨h104, e104⟩ : ∃ z, T104.heap = z := ⟨_, rfl⟩
  rw [e104] at hQ104
  obtain ⟨rfl, N104q, K104, P104_0⟩ := hQ104
  have N104 := Fr.app N101 N104q
  replace Eo := Eo.keep K104
  replace F0 := F0.keep K104 (ninS nov nin0)
  replace F1 := F1.keep K104 (ninS nov nin0)
  replace F2 := F2.keep K104 (ninS nov nin0)
  replace Et := Et.keep K104
  have OK104 := ext_keep O0 K104 (allS g_v all0)
  replace KP := KP.trans K104 (allS (Or.inl (List.mem_of_getElem? (i := 0) rfl)) all0)
  exact Go.jb X104 hx hret hlk (hb hby d25_18) e104 (by decide) (by decide) ⟨rfl, N104, KP, P104_0⟩
def Q_caa (Z : State) (o t u v : Addr) (cs cp : Int32) (kv ku : ClassId) (ct ln : Int32) (us ds ot : List Value) (h0 : Heap) (vR : Option Value) (hR : Heap) (LR : List Loc) : Prop := vR = some (.ref o) ∧ Fr Z.heap.size LR ∧ Keep h0 hR [o, v] ∧ Fld Z hR o xS2 "value" "[B" (.ref v) ∧ Fld Z hR o xS2 "coder" "B" (.int 0) ∧ Fld Z hR o xS2 "count" "I" (.int (ct + ln)) ∧ Arv Z hR v kv .byte cp ot (.int 0)
theorem caa (l : Launch) (Z : State) (a0 : Array Value) (hw : ∀ d ∈ tables_1, d.before a0 Z = true) (o t u v : Addr) (cs cp : Int32) (kv ku : ClassId) (ct ln : Int32) (us ds ot : List Value) (h0 : Heap) (O0 : Ext Z.heap h0) (Eo : Exa Z h0 o xS8) (F0 : Fld Z h0 o xS2 "value" "[B" (.ref v)) (F1 : Fld Z h0 o xS2 "coder" "B" (.int 0)) (F2 : Fld Z h0 o xS2 "count" "I" (.int ct)) (Vv : Arv Z h0 v kv .byte cp ds (.int 0)) (g_v : Z.heap.size ≤ v) (g_o : Z.heap.size ≤ o) (nov : o ≠ v) (Et : Exa Z h0 t xS0) (Ct : Fld Z h0 t xS0 "coder" "B" (.int 0)) (Ft : Fld Z h0 t xS0 "value" "[B" (.ref u)) (Vu : Arv Z h0 u ku .byte ln us (.int 0)) (SCS : Sta Z Z.heap xS0 xS3 "Z" (.int cs)) (hcs : ¬ (cs = (0 : Int32))) (hcp : Cpy (0 : Int32) ct ln ln cp us ds us ot) (hcap : ¬ ((0 : Int32) < ((ct + ln) - cp))) :
    Ctr l Z h0 (⟨xS2, "append", "(Ljava/lang/String;)Ljava/lang/AbstractStringBuilder;"⟩ : MethodName) k23 3 (some (.object xS2)) [] ({ frames := 3, cells := 0, slots := 0, locals := 47 } : Room) #[(.ref o), (.ref t)] (Q_caa Z o t u v cs cp kv ku ct ln us ds ot h0) := by
  refine enter (plainFor_of_name pn7) ?_
  intro pp ee ss mm below meth cc s₁ hx hby hml hZ hown hnm hret hlk X0 e0 hs0
  replace hown : ss.vm.findClass xS2 = some mm.cls := hown
  refine Go.r (congrArg s₁.setTop (ef_caa mm o t)) ?_
  have N0 := Fr.nil Z.heap.size
  have KP := Keep.refl h0 [o, v]
  show Go pp ee below _ (s₁.setTop (mkF mm 0 #[.val (.ref o), .val (.ref t), .unset] []))
  refine Go.g X0 hx (hb hby d23_0) rfl rfl (q := 1) rfl ?_
  refine Go.jx X0 hx (hb hby d23_1) (q := 9) (by decide) (by decide) ?_
  refine Go.g X0 hx (hb hby d23_9) rfl rfl (q := 10) rfl ?_
  refine Go.u X0 hx hZ hown (wd127 hw) (wd59 hw) (notFace_of_selects (args := #[]) (mvT hZ (wd61 hw))) (wd61 hw) (wd60 hw) (wd7 hw) (wd62 hw) (by decide) (clen l Z a0 hw t cs u (ku) ln (us) h0 O0 Et Ct Ft Vu SCS hcs) e0 Et (by rw [hml]; rfl) (hb hby d23_10) (argsL := []) (rest := []) (lenOf pd10 rfl) rfl rfl (W := 0) (Nat.le_refl _) (by decide) ?_
  intro v101 T101 L101 X101 hQ101
  obtain ⟨rfl, N101q, e101⟩ := hQ101
  have N101 := Fr.app N0 N101q
  refine Go.P X101 hx (hb hby d23_13) (l' := #[.val (.ref o), .val (.ref t), .val (.int ln)]) rfl (q := 14) rfl ?_
  refine Go.g X101 hx (hb hby d23_14) rfl rfl (q := 15) rfl ?_
  refine Go.g X101 hx (hb hby d23_15) rfl rfl (q := 16) rfl ?_
  refine Go.B X101 hx hZ hown (host := "") (Or.inl (wd128 hw)) Via.refl e101 F2 (hb hby d23_16) (q := 19) rfl ?_
  intro T102 X102 e102
  refine Go.f X102 hx (hb hby d23_19) rfl (q := 20) rfl ?_
  refine Go.jh X102 hx (hb hby d23_20) rfl (q := 21) rfl ?_
  refine Go.jB X102 hx hZ hown (wd130 hw) (wd131 hw) (own_selp (x' := (⟨xS2, "ensureCapacityInternal", "(I)V"⟩ : MethodName)) (y' := (⟨xS2, "ensureCapacityInternal", "(I)V"⟩ : MethodName)) (y := (⟨xS2, "ensureCapacityInternal", "(I)V"⟩ : MethodName)) (wd133 hw) rfl (wd131 hw) (wd132 hw) (by decide)) (wd132 hw) (wd108 hw) (wd134 hw) (by decide) (cens l Z a0 hw o ((ct + ln)) cp v (kv) (ds) h0 O0 F0 F1 Vv hcap) e102 Eo (by rw [hml]; rfl) (hb hby d23_21) (argsL := [(.int (ct + ln))]) (rest := []) (lenOf pd14 rfl) rfl rfl (W := 0) (Nat.le_refl _) (by decide) ?_
  intro v103 T103 L103 X103 hQ103
  obtain ⟨rfl, N103q, e103⟩ := hQ103
  have N103 := Fr.app N101 N103q
  refine Go.g X103 hx (hb hby d23_24) rfl rfl (q := 25) rfl ?_
  refine Go.g X103 hx (hb hby d23_25) rfl rfl (q := 26) rfl ?_
  refine Go.B X103 hx hZ hown (host := "") (Or.inl (wd128 hw)) Via.refl e103 F2 (hb hby d23_26) (q := 29) rfl ?_
  intro T104 X104 e104
  refine Go.g X104 hx (hb hby d23_29) rfl rfl (q := 30) rfl ?_
  refine Go.jB X104 hx hZ hown (wd135 hw) (wd136 hw) (own_selp (x' := (⟨xS2, "ensureCapacityInternal", "(I)V"⟩ : MethodName)) (y' := (⟨xS2, "ensureCapacityInternal", "(I)V"⟩ : MethodName)) (y := (⟨xS2, "putStringAt", "(ILjava/lang/String;)V"⟩ : MethodName)) (wd133 hw) rfl (wd136 hw) (wd137 hw) (by decide)) (wd137 hw) (wd108 hw) (wd139 hw) (by decide) (cps l Z a0 hw o t u v cs cp (kv) (ku) ct ln (us) (ds) (ot) h0 O0 Eo F0 F1 F2 Vv g_v g_o nov Et Ct Ft Vu SCS hcs hcp) e104 Eo (by rw [hml]; rfl) (hb hby d23_30) (argsL := [(.int ct), (.ref t)]) (rest := []) (lenOf pd17 rfl) rfl rfl (W := 0) (Nat.le_refl _) (by decide) ?_
  intro v105 T105 L105 X105 hQ105
  obtain ⟨h105, e105⟩ : ∃ z, T105.heap = z := ⟨_, rfl⟩
  rw [e105] at hQ105
  obtain ⟨rfl, N105q, K105, P105_0⟩ := hQ105
  have N105 := Fr.app N103 N105q
  replace Eo := Eo.keep K105
  replace F0 := F0.keep K105 (ninS nov nin0)
  replace F1 := F1.keep K105 (ninS nov nin0)
  replace F2 := F2.keep K105 (ninS nov nin0)
  replace Et := Et.keep K105
  have OK105 := ext_keep O0 K105 (allS g_v all0)
  replace KP := KP.trans K105 (allS (Or.inl (List.mem_of_getElem? (i := 1) rfl)) all0)
  refine Go.g X105 hx (hb hby d23_33) rfl rfl (q := 34) rfl ?_
  refine Go.N X105 hx (hb hby d23_34) rfl (q := 35) rfl ?_
  refine Go.B X105 hx hZ hown (host := "") (Or.inl (wd128 hw)) Via.refl e105 F2 (hb hby d23_35) (q := 38) rfl ?_
  intro T106 X106 e106
  refine Go.f X106 hx (hb hby d23_38) rfl (q := 39) rfl ?_
  refine Go.jh X106 hx (hb hby d23_39) rfl (q := 40) rfl ?_
  refine Go.jc X106 hx hZ hown (host := "") (Or.inl (wd128 hw)) Via.refl e106 F2 Eo (Or.inl (wd129 hw)) (wd99 hw) (ty := .int) (by decide) rfl rfl (hb hby d23_40) (q := 43) rfl ?_
  intro T107 h107 X107 e107 W107 F107
  have N107 := Fr.snoc X107 N105 g_o
  replace Eo := Eo.wr W107
  replace F0 := F0.other W107 (Or.inr (slot_ne (Or.inl (wd113 hw)) (Or.inl (wd129 hw)) (by decide) (t := (.array .byte)) (t' := .int) (by decide) (by decide)))
  replace F1 := F1.other W107 (Or.inr (slot_ne (Or.inl (wd115 hw)) (Or.inl (wd129 hw)) (by decide) (t := .byte) (t' := .int) (by decide) (by decide)))
  replace Et := Et.wr W107
  replace P105_0 := P105_0.other W107 (Ne.symm nov)
  have OW107 := ext_wr OK105 W107 g_o
  replace KP := KP.wr W107 (Or.inl (List.mem_of_getElem? (i := 0) rfl))
  refine Go.g X107 hx (hb hby d23_43) rfl rfl (q := 44) rfl ?_
  exact Go.U X107 hx hret hlk rfl rfl (hb hby d23_44) e107 (by decide) (by decide) ⟨rfl, N107, KP, F0, F1, F107, P105_0⟩
def Q_cab (Z : State) (o t u v : Addr) (cs cp : Int32) (kv ku : ClassId) (ct ln : Int32) (us ds ot : List Value) (h0 : Heap) (vR : Option Value) (hR : Heap) (LR : List Loc) : Prop := vR = some (.ref o) ∧ Fr Z.heap.size LR ∧ Keep h0 hR [o, v] ∧ Fld Z hR o xS2 "value" "[B" (.ref v) ∧ Fld Z hR o xS2 "coder" "B" (.int 0) ∧ Fld Z hR o xS2 "count" "I" (.int (ct + ln)) ∧ Arv Z hR v kv .byte cp ot (.int 0)
theorem cab (l : Launch) (Z : State) (a0 : Array Value) (hw : ∀ d ∈ tables_1, d.before a0 Z = true) (o t u v : Addr) (cs cp : Int32) (kv ku : ClassId) (ct ln : Int32) (us ds ot : List Value) (h0 : Heap) (O0 : Ext Z.heap h0) (Eo : Exa Z h0 o xS8) (F0 : Fld Z h0 o xS2 "value" "[B" (.ref v)) (F1 : Fld Z h0 o xS2 "coder" "B" (.int 0)) (F2 : Fld Z h0 o xS2 "count" "I" (.int ct)) (Vv : Arv Z h0 v kv .byte cp ds (.int 0)) (g_v : Z.heap.size ≤ v) (g_o : Z.heap.size ≤ o) (nov : o ≠ v) (Et : Exa Z h0 t xS0) (Ct : Fld Z h0 t xS0 "coder" "B" (.int 0)) (Ft : Fld Z h0 t xS0 "value" "[B" (.ref u)) (Vu : Arv Z h0 u ku .byte ln us (.int 0)) (SCS : Sta Z Z.heap xS0 xS3 "Z" (.int cs)) (hcs : ¬ (cs = (0 : Int32))) (hcp : Cpy (0 : Int32) ct ln ln cp us ds us ot) (hcap : ¬ ((0 : Int32) < ((ct + ln) - cp))) :
    Ctr l Z h0 (⟨xS8, "append", "(Ljava/lang/String;)Ljava/lang/StringBuilder;"⟩ : MethodName) k22 2 (some (.object xS8)) [] ({ frames := 4, cells := 0, slots := 0, locals := 61 } : Room) #[(.ref o), (.ref t)] (Q_cab Z o t u v cs cp kv ku ct ln us ds ot h0) := by
  refine enter (plainFor_of_name pn8) ?_
  intro pp ee ss mm below meth cc s₁ hx hby hml hZ hown hnm hret hlk X0 e0 hs0
  replace hown : ss.vm.findClass xS8 = some mm.cls := hown
  refine Go.r (congrArg s₁.setTop (ef_cab mm o t)) ?_
  have N0 := Fr.nil Z.heap.size
  have KP := Keep.refl h0 [o, v]
  show Go pp ee below _ (s₁.setTop (mkF mm 0 #[.val (.ref o), .val (.ref t)] []))
  refine Go.g X0 hx (hb hby d22_0) rfl rfl (q := 1) rfl ?_
  refine Go.g X0 hx (hb hby d22_1) rfl rfl (q := 2) rfl ?_
  refine Go.jE X0 hx hZ hown (wd122 hw) (own_sameM (x' := (⟨xS2, "ensureCapacityInternal", "(I)V"⟩ : MethodName)) (z' := (⟨xS2, "ensureCapacityInternal", "(I)V"⟩ : MethodName)) (y := (⟨xS2, "append", "(Ljava/lang/String;)Ljava/lang/AbstractStringBuilder;"⟩ : MethodName)) (wd133 hw) rfl (wd123 hw) (by decide)) (wd123 hw) (wd124 hw) (by decide) (wd108 hw) (wd126 hw) (caa l Z a0 hw o t u v cs cp (kv) (ku) ct ln (us) (ds) (ot) h0 O0 Eo F0 F1 F2 Vv g_v g_o nov Et Ct Ft Vu SCS hcs hcp hcap) e0 Eo (by rw [hml]; rfl) (hb hby d22_2) (argsL := [(.ref t)]) (rest := []) (lenOf pd18 rfl) rfl rfl (W := 0) (Nat.le_refl _) (by decide) ?_
  intro v101 T101 L101 X101 hQ101
  obtain ⟨h101, e101⟩ : ∃ z, T101.heap = z := ⟨_, rfl⟩
  rw [e101] at hQ101
  obtain ⟨rfl, N101q, K101, P101_0, P101_1, P101_2, P101_3⟩ := hQ101
  have N101 := Fr.app N0 N101q
  replace Eo := Eo.keep K101
  replace Et := Et.keep K101
  have OK101 := ext_keep O0 K101 (allS g_o (allS g_v all0))
  replace KP := KP.trans K101 (allS (Or.inl (List.mem_of_getElem? (i := 0) rfl)) (allS (Or.inl (List.mem_of_getElem? (i := 1) rfl)) all0))
  refine Go.jo X101 hx (hb hby d22_5) rfl (q := 6) rfl ?_
  refine Go.g X101 hx (hb hby d22_6) rfl rfl (q := 7) rfl ?_
  exact Go.U X101 hx hret hlk rfl rfl (hb hby d22_7) e101 (by decide) (by decide) ⟨rfl, N101, KP, P101_0, P101_1, P101_2, P101_3⟩
def Q_cca (Z : State) (o v : Addr) (cs cp : Int32) (kv : ClassId) (ct : Int32) (ds ot : List Value) (h0 : Heap) (vR : Option Value) (hR : Heap) (LR : List Loc) : Prop := vR = some (.ref o) ∧ Fr Z.heap.size LR ∧ Keep h0 hR [o, v] ∧ Fld Z hR o xS2 "value" "[B" (.ref v) ∧ Fld Z hR o xS2 "coder" "B" (.int 0) ∧ Fld Z hR o xS2 "count" "I" (.int (ct + (1 : Int32))) ∧ Arv Z hR v kv .byte cp ot (.int 0)
theorem cca (l : Launch) (Z : State) (a0 : Array Value) (hw : ∀ d ∈ tables_1, d.before a0 Z = true) (o v : Addr) (cs cp : Int32) (kv : ClassId) (ct : Int32) (ds ot : List Value) (h0 : Heap) (O0 : Ext Z.heap h0) (Eo : Exa Z h0 o xS8) (F0 : Fld Z h0 o xS2 "value" "[B" (.ref v)) (F1 : Fld Z h0 o xS2 "coder" "B" (.int 0)) (F2 : Fld Z h0 o xS2 "count" "I" (.int ct)) (Vv : Arv Z h0 v kv .byte cp ds (.int 0)) (g_v : Z.heap.size ≤ v) (g_o : Z.heap.size ≤ o) (nov : o ≠ v) (SCS : Sta Z Z.heap xS0 xS3 "Z" (.int cs)) (hcs : ¬ (cs = (0 : Int32))) (hst : Stp ct cp ds (.int 34) ot) (hcap : ¬ ((0 : Int32) < ((ct + (1 : Int32)) - cp))) :
    Ctr l Z h0 (⟨xS2, "append", "(C)Ljava/lang/AbstractStringBuilder;"⟩ : MethodName) k29 2 (some (.object xS2)) [] ({ frames := 1, cells := 0, slots := 0, locals := 14 } : Room) #[(.ref o), (.int 34)] (Q_cca Z o v cs cp kv ct ds ot h0) := by
  refine enter (plainFor_of_name pn7) ?_
  intro pp ee ss mm below meth cc s₁ hx hby hml hZ hown hnm hret hlk X0 e0 hs0
  replace hown : ss.vm.findClass xS2 = some mm.cls := hown
  refine Go.r (congrArg s₁.setTop (ef_cca mm o)) ?_
  have N0 := Fr.nil Z.heap.size
  have KP := Keep.refl h0 [o, v]
  show Go pp ee below _ (s₁.setTop (mkF mm 0 #[.val (.ref o), .val (.int 34)] []))
  refine Go.g X0 hx (hb hby d29_0) rfl rfl (q := 1) rfl ?_
  refine Go.g X0 hx (hb hby d29_1) rfl rfl (q := 2) rfl ?_
  refine Go.B X0 hx hZ hown (host := "") (Or.inl (wd128 hw)) Via.refl e0 F2 (hb hby d29_2) (q := 5) rfl ?_
  intro T101 X101 e101
  refine Go.i X101 hx (hb hby d29_5) (r := (1 : Int32)) rfl (q := 6) rfl ?_
  refine Go.jh X101 hx (hb hby d29_6) rfl (q := 7) rfl ?_
  refine Go.jB X101 hx hZ hown (wd130 hw) (wd131 hw) (own_selp (x' := (⟨xS2, "ensureCapacityInternal", "(I)V"⟩ : MethodName)) (y' := (⟨xS2, "ensureCapacityInternal", "(I)V"⟩ : MethodName)) (y := (⟨xS2, "ensureCapacityInternal", "(I)V"⟩ : MethodName)) (wd133 hw) rfl (wd131 hw) (wd132 hw) (by decide)) (wd132 hw) (wd108 hw) (wd134 hw) (by decide) (cens l Z a0 hw o ((ct + (1 : Int32))) cp v (kv) (ds) h0 O0 F0 F1 Vv hcap) e101 Eo (by rw [hml]; rfl) (hb hby d29_7) (argsL := [(.int (ct + (1 : Int32)))]) (rest := []) (lenOf pd14 rfl) rfl rfl (W := 0) (Nat.le_refl _) (by decide) ?_
  intro v102 T102 L102 X102 hQ102
  obtain ⟨rfl, N102q, e102⟩ := hQ102
  have N102 := Fr.app N0 N102q
  refine Go.g X102 hx (hb hby d29_10) rfl rfl (q := 11) rfl ?_
  refine Go.u X102 hx hZ hown (wd164 hw) (wd165 hw) (notFace_of_selects (args := #[]) (mvT hZ (wd167 hw))) (wd167 hw) (wd166 hw) (wd108 hw) (wd168 hw) (by decide) (csbl l Z a0 hw o cs h0 O0 F1 SCS hcs) e102 Eo (by rw [hml]; rfl) (hb hby d29_11) (argsL := []) (rest := []) (lenOf pd7 rfl) rfl rfl (W := 0) (Nat.le_refl _) (by decide) ?_
  intro v103 T103 L103 X103 hQ103
  obtain ⟨rfl, N103q, e103⟩ := hQ103
  have N103 := Fr.app N102 N103q
  refine Go.L X103 hx (hb hby d29_14) (by decide) (q := 17) rfl ?_
  refine Go.f X103 hx (hb hby d29_17) rfl (q := 18) rfl ?_
  refine Go.A X103 hx hZ hown (wd169 hw) (wd170 hw) (wd171 hw) (wd172 hw) (by decide) (ccan l Z a0 hw ((34 : Int32)) h0 O0 (by decide)) e103 (by rw [hml]; rfl) (hb hby d29_18) (argsL := [(.int 34)]) (rest := []) (lenOf pd19 rfl) rfl rfl (W := 0) (Nat.le_refl _) (by decide) ?_
  intro v104 T104 L104 X104 hQ104
  obtain ⟨rfl, N104q, e104⟩ := hQ104
  have N104 := Fr.app N103 N104q
  refine Go.L X104 hx (hb hby d29_21) (by decide) (q := 24) rfl ?_
  refine Go.g X104 hx (hb hby d29_24) rfl rfl (q := 25) rfl ?_
  refine Go.B X104 hx hZ hown (host := "") (Or.inl (wd112 hw)) Via.refl e104 F0 (hb hby d29_25) (q := 28) rfl ?_
  intro T105 X105 e105
  refine Go.g X105 hx (hb hby d29_28) rfl rfl (q := 29) rfl ?_
  refine Go.N X105 hx (hb hby d29_29) rfl (q := 30) rfl ?_
  refine Go.B X105 hx hZ hown (host := "") (Or.inl (wd128 hw)) Via.refl e105 F2 (hb hby d29_30) (q := 33) rfl ?_
  intro T106 X106 e106
  refine Go.jL X106 hx (hb hby d29_33) rfl rfl (q := 34) rfl ?_
  refine Go.i X106 hx (hb hby d29_34) (r := (1 : Int32)) rfl (q := 35) rfl ?_
  refine Go.jh X106 hx (hb hby d29_35) rfl (q := 36) rfl ?_
  refine Go.jc X106 hx hZ hown (host := "") (Or.inl (wd128 hw)) Via.refl e106 F2 Eo (Or.inl (wd129 hw)) (wd99 hw) (ty := .int) (by decide) rfl rfl (hb hby d29_36) (q := 39) rfl ?_
  intro T107 h107 X107 e107 W107 F107
  have N107 := Fr.snoc X107 N104 g_o
  replace Eo := Eo.wr W107
  replace F0 := F0.other W107 (Or.inr (slot_ne (Or.inl (wd113 hw)) (Or.inl (wd129 hw)) (by decide) (t := (.array .byte)) (t' := .int) (by decide) (by decide)))
  replace F1 := F1.other W107 (Or.inr (slot_ne (Or.inl (wd115 hw)) (Or.inl (wd129 hw)) (by decide) (t := .byte) (t' := .int) (by decide) (by decide)))
  replace Vv := Vv.other W107 (Ne.symm nov)
  have OW107 := ext_wr O0 W107 g_o
  replace KP := KP.wr W107 (Or.inl (List.mem_of_getElem? (i := 0) rfl))
  refine Go.f X107 hx (hb hby d29_39) rfl (q := 40) rfl ?_
  refine Go.je X107 hx (hb hby d29_40) (r := (34 : Int32)) rfl (q := 41) rfl ?_
  refine Go.jl X107 hx hZ e107 Vv hst.1 (i := ct.toNatClampNeg) rfl hst.2.1 (hb hby d29_41) ?_
  intro T108 h108 X108 e108 W108 V108
  replace V108 : Arv Z h108 v kv .byte cp ot (.int 0) := hst.2.2 ▸ V108
  have N108 := Fr.snoc X108 N107 g_v
  replace Eo := Eo.wr W108
  replace F0 := F0.other W108 (Or.inl nov)
  replace F1 := F1.other W108 (Or.inl nov)
  replace F107 := F107.other W108 (Or.inl nov)
  have OW108 := ext_wr OW107 W108 g_v
  replace KP := KP.wr W108 (Or.inl (List.mem_of_getElem? (i := 1) rfl))
  refine Go.D X108 hx (hb hby d29_42) (q := 75) (by decide) (by decide) ?_
  refine Go.g X108 hx (hb hby d29_75) rfl rfl (q := 76) rfl ?_
  exact Go.U X108 hx hret hlk rfl rfl (hb hby d29_76) e108 (by decide) (by decide) ⟨rfl, N108, KP, F0, F1, F107, V108⟩
def Q_ccb (Z : State) (o v : Addr) (cs cp : Int32) (kv : ClassId) (ct : Int32) (ds ot : List Value) (h0 : Heap) (vR : Option Value) (hR : Heap) (LR : List Loc) : Prop := vR = some (.ref o) ∧ Fr Z.heap.size LR ∧ Keep h0 hR [o, v] ∧ Fld Z hR o xS2 "value" "[B" (.ref v) ∧ Fld Z hR o xS2 "coder" "B" (.int 0) ∧ Fld Z hR o xS2 "count" "I" (.int (ct + (1 : Int32))) ∧ Arv Z hR v kv .byte cp ot (.int 0)
theorem ccb (l : Launch) (Z : State) (a0 : Array Value) (hw : ∀ d ∈ tables_1, d.before a0 Z = true) (o v : Addr) (cs cp : Int32) (kv : ClassId) (ct : Int32) (ds ot : List Value) (h0 : Heap) (O0 : Ext Z.heap h0) (Eo : Exa Z h0 o xS8) (F0 : Fld Z h0 o xS2 "value" "[B" (.ref v)) (F1 : Fld Z h0 o xS2 "coder" "B" (.int 0)) (F2 : Fld Z h0 o xS2 "count" "I" (.int ct)) (Vv : Arv Z h0 v kv .byte cp ds (.int 0)) (g_v : Z.heap.size ≤ v) (g_o : Z.heap.size ≤ o) (nov : o ≠ v) (SCS : Sta Z Z.heap xS0 xS3 "Z" (.int cs)) (hcs : ¬ (cs = (0 : Int32))) (hst : Stp ct cp ds (.int 34) ot) (hcap : ¬ ((0 : Int32) < ((ct + (1 : Int32)) - cp))) :
    Ctr l Z h0 (⟨xS8, "append", "(C)Ljava/lang/StringBuilder;"⟩ : MethodName) k28 2 (some (.object xS8)) [] ({ frames := 2, cells := 0, slots := 0, locals := 27 } : Room) #[(.ref o), (.int 34)] (Q_ccb Z o v cs cp kv ct ds ot h0) := by
  refine enter (plainFor_of_name pn8) ?_
  intro pp ee ss mm below meth cc s₁ hx hby hml hZ hown hnm hret hlk X0 e0 hs0
  replace hown : ss.vm.findClass xS8 = some mm.cls := hown
  refine Go.r (congrArg s₁.setTop (ef_ccb mm o)) ?_
  have N0 := Fr.nil Z.heap.size
  have KP := Keep.refl h0 [o, v]
  show Go pp ee below _ (s₁.setTop (mkF mm 0 #[.val (.ref o), .val (.int 34)] []))
  refine Go.g X0 hx (hb hby d28_0) rfl rfl (q := 1) rfl ?_
  refine Go.f X0 hx (hb hby d28_1) rfl (q := 2) rfl ?_
  refine Go.jE X0 hx hZ hown (wd160 hw) (own_sameM (x' := (⟨xS2, "ensureCapacityInternal", "(I)V"⟩ : MethodName)) (z' := (⟨xS2, "ensureCapacityInternal", "(I)V"⟩ : MethodName)) (y := (⟨xS2, "append", "(C)Ljava/lang/AbstractStringBuilder;"⟩ : MethodName)) (wd133 hw) rfl (wd161 hw) (by decide)) (wd161 hw) (wd124 hw) (by decide) (wd108 hw) (wd163 hw) (cca l Z a0 hw o v cs cp (kv) ct (ds) (ot) h0 O0 Eo F0 F1 F2 Vv g_v g_o nov SCS hcs hst hcap) e0 Eo (by rw [hml]; rfl) (hb hby d28_2) (argsL := [(.int 34)]) (rest := []) (lenOf pd20 rfl) rfl rfl (W := 0) (Nat.le_refl _) (by decide) ?_
  intro v101 T101 L101 X101 hQ101
  obtain ⟨h101, e101⟩ : ∃ z, T101.heap = z := ⟨_, rfl⟩
  rw [e101] at hQ101
  obtain ⟨rfl, N101q, K101, P101_0, P101_1, P101_2, P101_3⟩ := hQ101
  have N101 := Fr.app N0 N101q
  replace Eo := Eo.keep K101
  have OK101 := ext_keep O0 K101 (allS g_o (allS g_v all0))
  replace KP := KP.trans K101 (allS (Or.inl (List.mem_of_getElem? (i := 0) rfl)) (allS (Or.inl (List.mem_of_getElem? (i := 1) rfl)) all0))
  refine Go.jo X101 hx (hb hby d28_5) rfl (q := 6) rfl ?_
  refine Go.g X101 hx (hb hby d28_6) rfl rfl (q := 7) rfl ?_
  exact Go.U X101 hx hret hlk rfl rfl (hb hby d28_7) e101 (by decide) (by decide) ⟨rfl, N101, KP, P101_0, P101_1, P101_2, P101_3⟩
def Q_ccqb (Z : State) (v : Addr) (cp : Int32) (kv : ClassId) (ct : Int32) (ds us : List Value) (h0 : Heap) (vR : Option Value) (hR : Heap) (LR : List Loc) : Prop := ∃ u : Addr, ∃ ku : ClassId, vR = some (.ref u) ∧ Fr Z.heap.size LR ∧ Keep h0 hR [] ∧ h0.size ≤ u ∧ Arv Z hR u ku .byte ct us (.int 0)
theorem ccqb (l : Launch) (Z : State) (a0 : Array Value) (hw : ∀ d ∈ tables_1, d.before a0 Z = true) (v : Addr) (cp : Int32) (kv : ClassId) (ct : Int32) (ds us : List Value) (h0 : Heap) (O0 : Ext Z.heap h0) (Vv : Arv Z h0 v kv .byte cp ds (.int 0)) (hct : Cut ct cp ds us) :
    Ctr l Z h0 (⟨"java/util/Arrays", "copyOfRangeByte", "([BII)[B"⟩ : MethodName) k39 5 (some (.array .byte)) [] ({ frames := 1, cells := 1, slots := 8, locals := 18 } : Room) #[(.ref v), (.int 0), (.int ct)] (Q_ccqb Z v cp kv ct ds us h0) := by
  refine enter (plainFor_of_name pn9) ?_
  intro pp ee ss mm below meth cc s₁ hx hby hml hZ hown hnm hret hlk X0 e0 hs0
  replace hown : ss.vm.findClass "java/util/Arrays" = some mm.cls := hown
  refine Go.r (congrArg s₁.setTop (ef_ccqb mm v ct)) ?_
  have N0 := Fr.nil Z.heap.size
  have KP := Keep.refl h0 []
  show Go pp ee below _ (s₁.setTop (mkF mm 0 #[.val (.ref v), .val (.int 0), .val (.int ct), .unset, .unset] []))
  refine Go.f X0 hx (hb hby d39_0) rfl (q := 1) rfl ?_
  refine Go.f X0 hx (hb hby d39_1) rfl (q := 2) rfl ?_
  refine Go.A X0 hx hZ hown (wd206 hw) (wd207 hw) (wd201 hw) (wd208 hw) (by decide) (cchl l Z a0 hw ((0 : Int32)) ct h0 O0 hct.1.1) e0 (by rw [hml]; rfl) (hb hby d39_2) (argsL := [(.int 0), (.int ct)]) (rest := []) (lenOf pd6 rfl) rfl rfl (W := 0) (Nat.le_refl _) (by decide) ?_
  intro v101 T101 L101 X101 hQ101
  obtain ⟨rfl, N101q, e101⟩ := hQ101
  have N101 := Fr.app N0 N101q
  refine Go.f X101 hx (hb hby d39_5) rfl (q := 6) rfl ?_
  refine Go.f X101 hx (hb hby d39_6) rfl (q := 7) rfl ?_
  refine Go.ja X101 hx (hb hby d39_7) rfl (q := 8) rfl ?_
  rw [own_sub0 ct]
  show Go pp ee below _ (T101.setTop (mkF mm 8 #[.val (.ref v), .val (.int 0), .val (.int ct), .unset, .unset] [(.int ct)]))
  refine Go.P X101 hx (hb hby d39_8) (l' := #[.val (.ref v), .val (.int 0), .val (.int ct), .val (.int ct), .unset]) rfl (q := 9) rfl ?_
  refine Go.f X101 hx (hb hby d39_9) rfl (q := 10) rfl ?_
  refine Go.ji X101 hx hZ (hb hby d39_10) (wd23 hw) e101 hct.1.1 (cap := 8) hct.2.1 (by decide) (by decide) (by decide) (ad := "[B") rfl (q := 12) rfl ?_
  intro b102 T102 h102 k102 X102 e102 q102 E102 V102 B102
  have ne_v_b102 : v ≠ b102 := ne_new Vv.lt (Nat.le_of_eq q102)
  have g_b102 : Z.heap.size ≤ b102 := Nat.le_trans O0.1 (Nat.le_of_eq q102)
  have z_b102 : h0.size ≤ b102 := Nat.le_trans KP.1 (Nat.le_of_eq q102)
  replace Vv := Vv.ext E102
  have OE102 := ext_trans O0 E102
  replace KP := KP.ext E102
  replace V102 : Arv Z h102 b102 k102 .byte ct [(.int 0), (.int 0), (.int 0), (.int 0), (.int 0), (.int 0), (.int 0), (.int 0)] (.int 0) := V102.pad (pad_rep [] (.int 0) 8)
  refine Go.V X102 hx (hb hby d39_12) rfl (l' := #[.val (.ref v), .val (.int 0), .val (.int ct), .val (.int ct), .val (.ref b102)]) rfl (q := 14) rfl ?_
  refine Go.g X102 hx (hb hby d39_14) rfl rfl (q := 15) rfl ?_
  refine Go.f X102 hx (hb hby d39_15) rfl (q := 16) rfl ?_
  refine Go.w X102 hx (hb hby d39_16) rfl rfl (q := 18) rfl ?_
  refine Go.i X102 hx (hb hby d39_18) (r := (0 : Int32)) rfl (q := 19) rfl ?_
  refine Go.g X102 hx (hb hby d39_19) rfl rfl (q := 20) rfl ?_
  refine Go.J X102 hx hZ e102 Vv (hb hby d39_20) ?_
  refine Go.f X102 hx (hb hby d39_21) rfl (q := 22) rfl ?_
  refine Go.ja X102 hx (hb hby d39_22) rfl (q := 23) rfl ?_
  rw [own_sub0 cp]
  show Go pp ee below _ (T102.setTop (mkF mm 23 #[.val (.ref v), .val (.int 0), .val (.int ct), .val (.int ct), .val (.ref b102)] [(.int cp), (.int 0), (.ref b102), (.int 0), (.ref v)]))
  refine Go.f X102 hx (hb hby d39_23) rfl (q := 24) rfl ?_
  refine Go.A X102 hx hZ hown (wd209 hw) (wd210 hw) (wd211 hw) (wd212 hw) (by decide) (cmin2 l Z a0 hw cp ct h102 OE102 hct.1.2) e102 (by rw [hml]; rfl) (hb hby d39_24) (argsL := [(.int cp), (.int ct)]) (rest := [(.int 0), (.ref b102), (.int 0), (.ref v)]) (lenOf pd21 rfl) rfl rfl (W := 4) (Nat.le_refl _) (by decide) ?_
  intro v103 T103 L103 X103 hQ103
  obtain ⟨rfl, N103q, e103⟩ := hQ103
  have N103 := Fr.app N101 N103q
  obtain ⟨T104, h104, L104, X104, e104, N104, K104, V104, st104⟩ := cpA X103 hx hZ hown (wd213 hw) (wd154 hw) (wd152 hw) (wd153 hw) e103 Vv V102 (us := us) (sp := (0 : Int32)) (dp := (0 : Int32)) (nn := ct) (Or.inl ⟨rfl, rfl⟩) (by decide) (by decide) hct.1.1 (own_cutA hct) (own_cutL _) hct.2.2 (own_cutB hct) N103 g_b102 (g := (mkF mm 27 #[.val (.ref v), .val (.int 0), .val (.int ct), .val (.int ct), .val (.ref b102)] [(.int ct), (.int 0), (.ref b102), (.int 0), (.ref v)])) rfl (by rw [hml]; rfl) rfl (hb hby d39_27) (by decide) (W := 0) (by show 2 * 0 + _ ≤ _; exact Nat.le_of_eq rfl) (by decide)
  refine Go.I st104 ?_
  replace Vv := Vv.keep K104 (ninS ne_v_b102 nin0)
  replace B102 := B102.keep K104
  have OK104 := ext_keep OE102 K104 (allS g_b102 all0)
  replace KP := KP.trans K104 (allS (Or.inr z_b102) all0)
  replace V104 : Arv Z h104 b102 k102 .byte ct us (.int 0) := own_cut V104
  show Go pp ee below _ (T104.setTop (mkF mm 30 #[.val (.ref v), .val (.int 0), .val (.int ct), .val (.int ct), .val (.ref b102)] []))
  refine Go.w X104 hx (hb hby d39_30) rfl rfl (q := 32) rfl ?_
  exact Go.U X104 hx hret hlk rfl rfl (hb hby d39_32) e104 (by decide) (by decide) ⟨b102, k102, rfl, N104, KP, z_b102, V104⟩
def Q_ccq (Z : State) (v : Addr) (cp : Int32) (kv : ClassId) (ct : Int32) (ds us : List Value) (h0 : Heap) (vR : Option Value) (hR : Heap) (LR : List Loc) : Prop := ∃ u : Addr, ∃ ku : ClassId, vR = some (.ref u) ∧ Fr Z.heap.size LR ∧ Keep h0 hR [] ∧ h0.size ≤ u ∧ Arv Z hR u ku .byte ct us (.int 0)
theorem ccq (l : Launch) (Z : State) (a0 : Array Value) (hw : ∀ d ∈ tables_1, d.before a0 Z = true) (v : Addr) (cp : Int32) (kv : ClassId) (ct : Int32) (ds us : List Value) (h0 : Heap) (O0 : Ext Z.heap h0) (Vv : Arv Z h0 v kv .byte cp ds (.int 0)) (hct : Cut ct cp ds us) :
    Ctr l Z h0 (⟨"java/util/Arrays", "copyOfRange", "([BII)[B"⟩ : MethodName) k38 3 (some (.array .byte)) [] ({ frames := 2, cells := 1, slots := 8, locals := 34 } : Room) #[(.ref v), (.int 0), (.int ct)] (Q_ccq Z v cp kv ct ds us h0) := by
  refine enter (plainFor_of_name pn9) ?_
  intro pp ee ss mm below meth cc s₁ hx hby hml hZ hown hnm hret hlk X0 e0 hs0
  replace hown : ss.vm.findClass "java/util/Arrays" = some mm.cls := hown
  refine Go.r (congrArg s₁.setTop (ef_ccq mm v ct)) ?_
  have N0 := Fr.nil Z.heap.size
  have KP := Keep.refl h0 []
  show Go pp ee below _ (s₁.setTop (mkF mm 0 #[.val (.ref v), .val (.int 0), .val (.int ct)] []))
  refine Go.f X0 hx (hb hby d38_0) rfl (q := 1) rfl ?_
  refine Go.L X0 hx (hb hby d38_1) (by decide) (q := 4) rfl ?_
  refine Go.f X0 hx (hb hby d38_4) rfl (q := 5) rfl ?_
  refine Go.g X0 hx (hb hby d38_5) rfl rfl (q := 6) rfl ?_
  refine Go.J X0 hx hZ e0 Vv (hb hby d38_6) ?_
  refine Go.t X0 hx (hb hby d38_7) (Jvm.Free.XT.ii_eq_f (own_cutN hct)) (q := 10) rfl ?_
  refine Go.g X0 hx (hb hby d38_10) rfl rfl (q := 11) rfl ?_
  refine Go.f X0 hx (hb hby d38_11) rfl (q := 12) rfl ?_
  refine Go.f X0 hx (hb hby d38_12) rfl (q := 13) rfl ?_
  refine Go.A X0 hx hZ hown (wd203 hw) (wd204 hw) (wd201 hw) (wd205 hw) (by decide) (ccqb l Z a0 hw v cp (kv) ct (ds) (us) h0 O0 Vv hct) e0 (by rw [hml]; rfl) (hb hby d38_13) (argsL := [(.ref v), (.int 0), (.int ct)]) (rest := []) (lenOf pd22 rfl) rfl rfl (W := 0) (Nat.le_refl _) (by decide) ?_
  intro v101 T101 L101 X101 hQ101
  obtain ⟨h101, e101⟩ : ∃ z, T101.heap = z := ⟨_, rfl⟩
  rw [e101] at hQ101
  obtain ⟨u_101, ku_101, rfl, N101q, K101, fr101_u, P101_0⟩ := hQ101
  have N101 := Fr.app N0 N101q
  have ne_v_u_101 : v ≠ u_101 := ne_new Vv.lt fr101_u
  have g_u_101 : Z.heap.size ≤ u_101 := Nat.le_trans O0.1 fr101_u
  have z_u_101 : h0.size ≤ u_101 := Nat.le_trans KP.1 fr101_u
  replace Vv := Vv.keep K101 nin0
  have OK101 := ext_keep O0 K101 all0
  replace KP := KP.trans K101 all0
  exact Go.U X101 hx hret hlk rfl rfl (hb hby d38_16) e101 (by decide) (by decide) ⟨u_101, ku_101, rfl, N101, KP, z_u_101, P101_0⟩
def Q_cia (Z : State) (t o v : Addr) (cs cp : Int32) (kv : ClassId) (ct : Int32) (ds us : List Value) (h0 : Heap) (vR : Option Value) (hR : Heap) (LR : List Loc) : Prop := ∃ u : Addr, ∃ ku : ClassId, vR = none ∧ Fr Z.heap.size LR ∧ Keep h0 hR [t] ∧ h0.size ≤ u ∧ Fld Z hR t xS0 "value" "[B" (.ref u) ∧ Fld Z hR t xS0 "coder" "B" (.int 0) ∧ Arv Z hR u ku .byte ct us (.int 0)
theorem cia (l : Launch) (Z : State) (a0 : Array Value) (hw : ∀ d ∈ tables_1, d.before a0 Z = true) (t o v : Addr) (cs cp : Int32) (kv : ClassId) (ct : Int32) (ds us : List Value) (h0 : Heap) (O0 : Ext Z.heap h0) (Es : Exa Z h0 t xS0) (Fs : Fld Z h0 t xS0 "value" "[B" .null) (Cs : Fld Z h0 t xS0 "coder" "B" (.int 0)) (g_t : Z.heap.size ≤ t) (nto : t ≠ o) (Eo : Exa Z h0 o xS8) (F0 : Fld Z h0 o xS2 "value" "[B" (.ref v)) (F1 : Fld Z h0 o xS2 "coder" "B" (.int 0)) (F2 : Fld Z h0 o xS2 "count" "I" (.int ct)) (Vv : Arv Z h0 v kv .byte cp ds (.int 0)) (ntv : t ≠ v) (SCS : Sta Z Z.heap xS0 xS3 "Z" (.int cs)) (hcs : ¬ (cs = (0 : Int32))) (hct : Cut ct cp ds us) :
    Ctr l Z h0 (⟨xS0, "<init>", "(Ljava/lang/AbstractStringBuilder;Ljava/lang/Void;)V"⟩ : MethodName) k34 5 none [] ({ frames := 3, cells := 1, slots := 8, locals := 49 } : Room) #[(.ref t), (.ref o), .null] (Q_cia Z t o v cs cp kv ct ds us h0) := by
  refine enter (plainFor_of_name pn1) ?_
  intro pp ee ss mm below meth cc s₁ hx hby hml hZ hown hnm hret hlk X0 e0 hs0
  replace hown : ss.vm.findClass xS0 = some mm.cls := hown
  refine Go.r (congrArg s₁.setTop (ef_cia mm t o)) ?_
  have N0 := Fr.nil Z.heap.size
  have KP := Keep.refl h0 [t]
  show Go pp ee below _ (s₁.setTop (mkF mm 0 #[.val (.ref t), .val (.ref o), .val .null, .unset, .unset] []))
  refine Go.g X0 hx (hb hby d34_0) rfl rfl (q := 1) rfl ?_
  refine Go.jq X0 hx hZ hown (wd19 hw) (wd20 hw) (wd21 hw) e0 (by rw [hml]; rfl) (hb hby d34_1) (by decide) (W := 0) (by exact Nat.le_refl _) (by decide) (q := 4) rfl ?_
  intro T101 X101 e101
  refine Go.g X101 hx (hb hby d34_4) rfl rfl (q := 5) rfl ?_
  refine Go.u X101 hx hZ hown (wd185 hw) (wd186 hw) (notFace_of_selects (args := #[]) (mvT hZ (wd188 hw))) (wd188 hw) (wd187 hw) (wd108 hw) (wd189 hw) (by decide) (cgva l Z a0 hw o v h0 O0 F0) e101 Eo (by rw [hml]; rfl) (hb hby d34_5) (argsL := []) (rest := []) (lenOf pd23 rfl) rfl rfl (W := 0) (Nat.le_refl _) (by decide) ?_
  intro v102 T102 L102 X102 hQ102
  obtain ⟨rfl, N102q, e102⟩ := hQ102
  have N102 := Fr.app N0 N102q
  refine Go.jf X102 hx (hb hby d34_8) rfl (l' := #[.val (.ref t), .val (.ref o), .val .null, .val (.ref v), .unset]) rfl (q := 9) rfl ?_
  refine Go.g X102 hx (hb hby d34_9) rfl rfl (q := 10) rfl ?_
  refine Go.u X102 hx hZ hown (wd190 hw) (wd191 hw) (own_nf (args := #[]) (mvT hZ (wd133 hw)) rfl) (wd193 hw) (wd194 hw) (wd100 hw) (wd195 hw) (by decide) (clnb l Z a0 hw o ct h0 O0 Eo F2) e102 Eo (by rw [hml]; rfl) (hb hby d34_10) (argsL := []) (rest := []) (lenOf pd10 rfl) rfl rfl (W := 0) (Nat.le_refl _) (by decide) ?_
  intro v103 T103 L103 X103 hQ103
  obtain ⟨rfl, N103q, e103⟩ := hQ103
  have N103 := Fr.app N102 N103q
  refine Go.G X103 hx (hb hby d34_13) (l' := #[.val (.ref t), .val (.ref o), .val .null, .val (.ref v), .val (.int ct)]) rfl (q := 15) rfl ?_
  refine Go.g X103 hx (hb hby d34_15) rfl rfl (q := 16) rfl ?_
  refine Go.u X103 hx hZ hown (wd198 hw) (wd165 hw) (notFace_of_selects (args := #[]) (mvT hZ (wd167 hw))) (wd167 hw) (wd166 hw) (wd108 hw) (wd168 hw) (by decide) (csbl l Z a0 hw o cs h0 O0 F1 SCS hcs) e103 Eo (by rw [hml]; rfl) (hb hby d34_16) (argsL := []) (rest := []) (lenOf pd7 rfl) rfl rfl (W := 0) (Nat.le_refl _) (by decide) ?_
  intro v104 T104 L104 X104 hQ104
  obtain ⟨rfl, N104q, e104⟩ := hQ104
  have N104 := Fr.app N103 N104q
  refine Go.L X104 hx (hb hby d34_19) (by decide) (q := 22) rfl ?_
  refine Go.g X104 hx (hb hby d34_22) rfl rfl (q := 23) rfl ?_
  refine Go.i X104 hx (hb hby d34_23) (r := (0 : Int32)) rfl (q := 24) rfl ?_
  refine Go.jc X104 hx hZ hown (host := "") (Or.inl (wd29 hw)) Via.refl e104 Cs Es (Or.inr ⟨(wd25 hw), rfl, hnm⟩) (wd6 hw) (ty := .byte) (by decide) rfl rfl (hb hby d34_24) (q := 27) rfl ?_
  intro T105 h105 X105 e105 W105 F105
  have N105 := Fr.snoc X105 N104 g_t
  replace Es := Es.wr W105
  replace Fs := Fs.other W105 (Or.inr (slot_ne (Or.inr (wd24 hw)) (Or.inr (wd25 hw)) (by decide) (t := (.array .byte)) (t' := .byte) (by decide) (by decide)))
  replace Eo := Eo.wr W105
  replace F0 := F0.other W105 (Or.inl (Ne.symm nto))
  replace F1 := F1.other W105 (Or.inl (Ne.symm nto))
  replace F2 := F2.other W105 (Or.inl (Ne.symm nto))
  replace Vv := Vv.other W105 (Ne.symm ntv)
  have OW105 := ext_wr O0 W105 g_t
  replace KP := KP.wr W105 (Or.inl (List.mem_of_getElem? (i := 0) rfl))
  refine Go.g X105 hx (hb hby d34_27) rfl rfl (q := 28) rfl ?_
  refine Go.g X105 hx (hb hby d34_28) rfl rfl (q := 29) rfl ?_
  refine Go.i X105 hx (hb hby d34_29) (r := (0 : Int32)) rfl (q := 30) rfl ?_
  refine Go.o X105 hx (hb hby d34_30) rfl (q := 32) rfl ?_
  refine Go.A X105 hx hZ hown (wd199 hw) (wd200 hw) (wd201 hw) (wd202 hw) (by decide) (ccq l Z a0 hw v cp (kv) ct (ds) (us) h105 OW105 Vv hct) e105 (by rw [hml]; rfl) (hb hby d34_32) (argsL := [(.ref v), (.int 0), (.int ct)]) (rest := [(.ref t)]) (lenOf pd22 rfl) rfl rfl (W := 1) (Nat.le_refl _) (by decide) ?_
  intro v106 T106 L106 X106 hQ106
  obtain ⟨h106, e106⟩ : ∃ z, T106.heap = z := ⟨_, rfl⟩
  rw [e106] at hQ106
  obtain ⟨u_106, ku_106, rfl, N106q, K106, fr106_u, P106_0⟩ := hQ106
  have N106 := Fr.app N105 N106q
  have ne_t_u_106 : t ≠ u_106 := ne_new Es.lt fr106_u
  have ne_o_u_106 : o ≠ u_106 := ne_new Eo.lt fr106_u
  have ne_v_u_106 : v ≠ u_106 := ne_new Vv.lt fr106_u
  have g_u_106 : Z.heap.size ≤ u_106 := Nat.le_trans OW105.1 fr106_u
  have z_u_106 : h0.size ≤ u_106 := Nat.le_trans KP.1 fr106_u
  replace Es := Es.keep K106
  replace Fs := Fs.keep K106 nin0
  replace Eo := Eo.keep K106
  replace F0 := F0.keep K106 nin0
  replace F1 := F1.keep K106 nin0
  replace F2 := F2.keep K106 nin0
  replace Vv := Vv.keep K106 nin0
  replace F105 := F105.keep K106 nin0
  have OK106 := ext_keep OW105 K106 all0
  replace KP := KP.trans K106 all0
  refine Go.jc X106 hx hZ hown (host := "") (Or.inl (wd28 hw)) Via.refl e106 Fs Es (Or.inr ⟨(wd24 hw), rfl, hnm⟩) (wd6 hw) (ty := (.array .byte)) (by decide) rfl rfl (hb hby d34_35) (q := 38) rfl ?_
  intro T107 h107 X107 e107 W107 F107
  have N107 := Fr.snoc X107 N106 g_t
  replace Es := Es.wr W107
  replace Eo := Eo.wr W107
  replace F0 := F0.other W107 (Or.inl (Ne.symm nto))
  replace F1 := F1.other W107 (Or.inl (Ne.symm nto))
  replace F2 := F2.other W107 (Or.inl (Ne.symm nto))
  replace Vv := Vv.other W107 (Ne.symm ntv)
  replace F105 := F105.other W107 (Or.inr (slot_ne (Or.inr (wd25 hw)) (Or.inr (wd24 hw)) (by decide) (t := .byte) (t' := (.array .byte)) (by decide) (by decide)))
  replace P106_0 := P106_0.other W107 (Ne.symm ne_t_u_106)
  have OW107 := ext_wr OK106 W107 g_t
  replace KP := KP.wr W107 (Or.inl (List.mem_of_getElem? (i := 0) rfl))
  refine Go.D X107 hx (hb hby d34_38) (q := 97) (by decide) (by decide) ?_
  exact Go.jb X107 hx hret hlk (hb hby d34_97) e107 (by decide) (by decide) ⟨u_106, ku_106, rfl, N107, KP, z_u_106, F107, F105, P106_0⟩
def Q_cib (Z : State) (t o v : Addr) (cs cp : Int32) (kv : ClassId) (ct : Int32) (ds us : List Value) (h0 : Heap) (vR : Option Value) (hR : Heap) (LR : List Loc) : Prop := ∃ u : Addr, ∃ ku : ClassId, vR = none ∧ Fr Z.heap.size LR ∧ Keep h0 hR [t] ∧ h0.size ≤ u ∧ Fld Z hR t xS0 "value" "[B" (.ref u) ∧ Fld Z hR t xS0 "coder" "B" (.int 0) ∧ Arv Z hR u ku .byte ct us (.int 0)
theorem cib (l : Launch) (Z : State) (a0 : Array Value) (hw : ∀ d ∈ tables_1, d.before a0 Z = true) (t o v : Addr) (cs cp : Int32) (kv : ClassId) (ct : Int32) (ds us : List Value) (h0 : Heap) (O0 : Ext Z.heap h0) (Es : Exa Z h0 t xS0) (Fs : Fld Z h0 t xS0 "value" "[B" .null) (Cs : Fld Z h0 t xS0 "coder" "B" (.int 0)) (g_t : Z.heap.size ≤ t) (nto : t ≠ o) (Eo : Exa Z h0 o xS8) (F0 : Fld Z h0 o xS2 "value" "[B" (.ref v)) (F1 : Fld Z h0 o xS2 "coder" "B" (.int 0)) (F2 : Fld Z h0 o xS2 "count" "I" (.int ct)) (Vv : Arv Z h0 v kv .byte cp ds (.int 0)) (ntv : t ≠ v) (SCS : Sta Z Z.heap xS0 xS3 "Z" (.int cs)) (hcs : ¬ (cs = (0 : Int32))) (hct : Cut ct cp ds us) :
    Ctr l Z h0 (⟨xS0, "<init>", "(Ljava/lang/StringBuilder;)V"⟩ : MethodName) k33 2 none [] ({ frames := 4, cells := 1, slots := 8, locals := 65 } : Room) #[(.ref t), (.ref o)] (Q_cib Z t o v cs cp kv ct ds us h0) := by
  refine enter (plainFor_of_name pn1) ?_
  intro pp ee ss mm below meth cc s₁ hx hby hml hZ hown hnm hret hlk X0 e0 hs0
  replace hown : ss.vm.findClass xS0 = some mm.cls := hown
  refine Go.r (congrArg s₁.setTop (ef_cib mm t o)) ?_
  have N0 := Fr.nil Z.heap.size
  have KP := Keep.refl h0 [t]
  show Go pp ee below _ (s₁.setTop (mkF mm 0 #[.val (.ref t), .val (.ref o)] []))
  refine Go.g X0 hx (hb hby d33_0) rfl rfl (q := 1) rfl ?_
  refine Go.g X0 hx (hb hby d33_1) rfl rfl (q := 2) rfl ?_
  refine Go.jy X0 hx (hb hby d33_2) (q := 3) rfl ?_
  refine Go.Y X0 hx hZ hown rfl (wd182 hw) (wd183 hw) (wd7 hw) (wd184 hw) (by decide) (cia l Z a0 hw t o v cs cp (kv) ct (ds) (us) h0 O0 Es Fs Cs g_t nto Eo F0 F1 F2 Vv ntv SCS hcs hct) e0 (by rw [hml]; rfl) (hb hby d33_3) (argsL := [(.ref o), .null]) (rest := []) (lenOf pd24 rfl) rfl rfl (W := 0) (Nat.le_refl _) (by decide) ?_
  intro v101 T101 L101 X101 hQ101
  obtain ⟨h101, e101⟩ : ∃ z, T101.heap = z := ⟨_, rfl⟩
  rw [e101] at hQ101
  obtain ⟨u_101, ku_101, rfl, N101q, K101, fr101_u, P101_0, P101_1, P101_2⟩ := hQ101
  have N101 := Fr.app N0 N101q
  have ne_t_u_101 : t ≠ u_101 := ne_new Es.lt fr101_u
  have ne_o_u_101 : o ≠ u_101 := ne_new Eo.lt fr101_u
  have ne_v_u_101 : v ≠ u_101 := ne_new Vv.lt fr101_u
  have g_u_101 : Z.heap.size ≤ u_101 := Nat.le_trans O0.1 fr101_u
  have z_u_101 : h0.size ≤ u_101 := Nat.le_trans KP.1 fr101_u
  replace Es := Es.keep K101
  replace Eo := Eo.keep K101
  replace F0 := F0.keep K101 (ninS (Ne.symm nto) nin0)
  replace F1 := F1.keep K101 (ninS (Ne.symm nto) nin0)
  replace F2 := F2.keep K101 (ninS (Ne.symm nto) nin0)
  replace Vv := Vv.keep K101 (ninS (Ne.symm ntv) nin0)
  have OK101 := ext_keep O0 K101 (allS g_t all0)
  replace KP := KP.trans K101 (allS (Or.inl (List.mem_of_getElem? (i := 0) rfl)) all0)
  exact Go.jb X101 hx hret hlk (hb hby d33_6) e101 (by decide) (by decide) ⟨u_101, ku_101, rfl, N101, KP, z_u_101, P101_0, P101_1, P101_2⟩
def Q_cts (Z : State) (o v : Addr) (cs cp : Int32) (kv : ClassId) (ct : Int32) (ds us : List Value) (h0 : Heap) (vR : Option Value) (hR : Heap) (LR : List Loc) : Prop := ∃ t : Addr, ∃ u : Addr, ∃ ku : ClassId, vR = some (.ref t) ∧ Fr Z.heap.size LR ∧ Keep h0 hR [] ∧ h0.size ≤ t ∧ h0.size ≤ u ∧ Exa Z hR t xS0 ∧ Fld Z hR t xS0 "value" "[B" (.ref u) ∧ Fld Z hR t xS0 "coder" "B" (.int 0) ∧ Arv Z hR u ku .byte ct us (.int 0)
theorem cts (l : Launch) (Z : State) (a0 : Array Value) (hw : ∀ d ∈ tables_1, d.before a0 Z = true) (o v : Addr) (cs cp : Int32) (kv : ClassId) (ct : Int32) (ds us : List Value) (h0 : Heap) (O0 : Ext Z.heap h0) (Eo : Exa Z h0 o xS8) (F0 : Fld Z h0 o xS2 "value" "[B" (.ref v)) (F1 : Fld Z h0 o xS2 "coder" "B" (.int 0)) (F2 : Fld Z h0 o xS2 "count" "I" (.int ct)) (Vv : Arv Z h0 v kv .byte cp ds (.int 0)) (SCS : Sta Z Z.heap xS0 xS3 "Z" (.int cs)) (hcs : ¬ (cs = (0 : Int32))) (hct : Cut ct cp ds us) :
    Ctr l Z h0 (⟨xS8, "toString", "()Ljava/lang/String;"⟩ : MethodName) k32 1 (some (.object xS0)) [] ({ frames := 5, cells := 2, slots := 12, locals := 79 } : Room) #[(.ref o)] (Q_cts Z o v cs cp kv ct ds us h0) := by
  refine enter (plainFor_of_name pn8) ?_
  intro pp ee ss mm below meth cc s₁ hx hby hml hZ hown hnm hret hlk X0 e0 hs0
  replace hown : ss.vm.findClass xS8 = some mm.cls := hown
  refine Go.r (congrArg s₁.setTop (ef_cts mm o)) ?_
  have N0 := Fr.nil Z.heap.size
  have KP := Keep.refl h0 []
  show Go pp ee below _ (s₁.setTop (mkF mm 0 #[.val (.ref o)] []))
  refine Go.jd X0 hx hZ hown (wd178 hw) (wd6 hw) (wd7 hw) e0 (hb hby d32_0) (by decide) (by decide) (q := 3) rfl ?_
  intro b101 T101 h101 X101 e101 q101 E101 A101 D101 U101
  have ne_o_b101 : o ≠ b101 := ne_new Eo.lt (Nat.le_of_eq q101)
  have ne_v_b101 : v ≠ b101 := ne_new Vv.lt (Nat.le_of_eq q101)
  have g_b101 : Z.heap.size ≤ b101 := Nat.le_trans O0.1 (Nat.le_of_eq q101)
  have z_b101 : h0.size ≤ b101 := Nat.le_trans KP.1 (Nat.le_of_eq q101)
  replace Eo := Eo.ext E101
  replace F0 := F0.ext E101
  replace F1 := F1.ext E101
  replace F2 := F2.ext E101
  replace Vv := Vv.ext E101
  have OE101 := ext_trans O0 E101
  replace KP := KP.ext E101
  have F101_value : Fld Z h101 b101 xS0 "value" "[B" .null := D101 (Or.inr (wd24 hw)) (ty := (.array .byte)) (by decide)
  have F101_coder : Fld Z h101 b101 xS0 "coder" "B" (.int 0) := D101 (Or.inr (wd25 hw)) (ty := .byte) (by decide)
  clear D101
  refine Go.N X101 hx (hb hby d32_3) rfl (q := 4) rfl ?_
  refine Go.g X101 hx (hb hby d32_4) rfl rfl (q := 5) rfl ?_
  refine Go.Y X101 hx hZ hown rfl (wd179 hw) (wd180 hw) (wd7 hw) (wd181 hw) (by decide) (cib l Z a0 hw b101 o v cs cp (kv) ct (ds) (us) h101 OE101 A101 F101_value F101_coder g_b101 (Ne.symm ne_o_b101) Eo F0 F1 F2 Vv (Ne.symm ne_v_b101) SCS hcs hct) e101 (by rw [hml]; rfl) (hb hby d32_5) (argsL := [(.ref o)]) (rest := [(.ref b101)]) (lenOf pd25 rfl) rfl rfl (W := 1) (Nat.le_refl _) (by decide) ?_
  intro v102 T102 L102 X102 hQ102
  obtain ⟨h102, e102⟩ : ∃ z, T102.heap = z := ⟨_, rfl⟩
  rw [e102] at hQ102
  obtain ⟨u_102, ku_102, rfl, N102q, K102, fr102_u, P102_0, P102_1, P102_2⟩ := hQ102
  have N102 := Fr.app N0 N102q
  have ne_o_u_102 : o ≠ u_102 := ne_new Eo.lt fr102_u
  have ne_v_u_102 : v ≠ u_102 := ne_new Vv.lt fr102_u
  have ne_b101_u_102 : b101 ≠ u_102 := ne_new A101.lt fr102_u
  have g_u_102 : Z.heap.size ≤ u_102 := Nat.le_trans OE101.1 fr102_u
  have z_u_102 : h0.size ≤ u_102 := Nat.le_trans KP.1 fr102_u
  replace Eo := Eo.keep K102
  replace F0 := F0.keep K102 (ninS ne_o_b101 nin0)
  replace F1 := F1.keep K102 (ninS ne_o_b101 nin0)
  replace F2 := F2.keep K102 (ninS ne_o_b101 nin0)
  replace Vv := Vv.keep K102 (ninS ne_v_b101 nin0)
  replace A101 := A101.keep K102
  have OK102 := ext_keep OE101 K102 (allS g_b101 all0)
  replace KP := KP.trans K102 (allS (Or.inr z_b101) all0)
  exact Go.U X102 hx hret hlk rfl rfl (hb hby d32_8) e102 (by decide) (by decide) ⟨b101, u_102, ku_102, rfl, N102, KP, z_b101, z_u_102, A101, P102_0, P102_1, P102_2⟩
def Q_ctos (Z : State) (t s v : Addr) (kv : ClassId) (cs ln : Int32) (us oa ob oc : List Value) (h0 : Heap) (vR : Option Value) (hR : Heap) (LR : List Loc) : Prop := ∃ w : Addr, ∃ u : Addr, ∃ ku : ClassId, vR = some (.ref w) ∧ Fr Z.heap.size LR ∧ Keep h0 hR [t] ∧ h0.size ≤ w ∧ h0.size ≤ u ∧ Fld Z hR t xS1 "weak" "Z" (.int 0) ∧ Fld Z hR t xS1 "value" xS4 (.ref s) ∧ Fld Z hR t xS1 "field" xS4 (.ref w) ∧ Exa Z hR w xS0 ∧ Fld Z hR w xS0 "coder" "B" (.int 0) ∧ Fld Z hR w xS0 "value" "[B" (.ref u) ∧ Arv Z hR u ku .byte (((1 : Int32) + ln) + (1 : Int32)) oc (.int 0)
theorem ctos (l : Launch) (Z : State) (a0 : Array Value) (hw : ∀ d ∈ tables_1, d.before a0 Z = true) (t s v : Addr) (kv : ClassId) (cs ln : Int32) (us oa ob oc : List Value) (h0 : Heap) (O0 : Ext Z.heap h0) (Et : Exa Z h0 t xS1) (g_t : Z.heap.size ≤ t) (T0 : Fld Z h0 t xS1 "weak" "Z" (.int 0)) (T1 : Fld Z h0 t xS1 "value" xS4 (.ref s)) (T2 : Fld Z h0 t xS1 "field" xS4 .null) (Es : Exa Z h0 s xS0) (Cs : Fld Z h0 s xS0 "coder" "B" (.int 0)) (Fs : Fld Z h0 s xS0 "value" "[B" (.ref v)) (Vs : Arv Z h0 v kv .byte ln us (.int 0)) (SCS : Sta Z Z.heap xS0 xS3 "Z" (.int cs)) (hcs : ¬ (cs = (0 : Int32))) (hcp : Cpy (0 : Int32) (1 : Int32) ln ln (16 : Int32) us [(.int 34), (.int 0), (.int 0), (.int 0), (.int 0)] us oa) (hcap : ¬ ((0 : Int32) < (((1 : Int32) + ln) - (16 : Int32)))) (hst : Stp ((1 : Int32) + ln) (16 : Int32) oa (.int 34) ob) (hcaq : ¬ ((0 : Int32) < ((((1 : Int32) + ln) + (1 : Int32)) - (16 : Int32)))) (hct : Cut (((1 : Int32) + ln) + (1 : Int32)) (16 : Int32) ob oc) :
    CtrH l Z consts_1 h0 (⟨xS1, "toString", "()Ljava/lang/String;"⟩ : MethodName) k19 2 (some (.object xS0)) [] ({ frames := 6, cells := 6, slots := 36, locals := 91 } : Room) #[(.ref t)] (Q_ctos Z t s v kv cs ln us oa ob oc h0) := by
  refine enterH (plainFor_of_name pn6) ?_
  intro pp ee ss mm below meth cc s₁ hx hby hml hZ hown hnm hret hlk X0 e0 hs0 hS hC
  replace hown : (ss.setVm ss.vm).vm.findClass xS1 = some mm.cls := hown
  have hKd := Nat.zero_le h0.size
  refine Go.r (congrArg s₁.setTop (ef_ctos mm t)) ?_
  have N0 := Fr.nil Z.heap.size
  have KP := Keep.refl h0 [t]
  show Go pp ee below _ (s₁.setTop (mkF mm 0 #[.val (.ref t), .unset] []))
  refine Go.g X0 hx (hb hby d19_0) rfl rfl (q := 1) rfl ?_
  refine Go.B X0 hx hZ hown (host := "") (Or.inl (wd96 hw)) Via.refl e0 T2 (hb hby d19_1) (q := 4) rfl ?_
  intro T101 X101 e101
  refine Go.jf X101 hx (hb hby d19_4) rfl (l' := #[.val (.ref t), .val .null]) rfl (q := 5) rfl ?_
  refine Go.g X101 hx (hb hby d19_5) rfl rfl (q := 6) rfl ?_
  refine Go.jN X101 hx (hb hby d19_6) (q := 9) rfl ?_
  refine Go.jd X101 hx hZ hown (wd98 hw) (wd99 hw) (wd100 hw) e101 (hb hby d19_9) (by decide) (by decide) (q := 12) rfl ?_
  intro b102 T102 h102 X102 e102 q102 E102 A102 D102 U102
  have ne_t_b102 : t ≠ b102 := ne_new Et.lt (Nat.le_of_eq q102)
  have ne_s_b102 : s ≠ b102 := ne_new Es.lt (Nat.le_of_eq q102)
  have ne_v_b102 : v ≠ b102 := ne_new Vs.lt (Nat.le_of_eq q102)
  have g_b102 : Z.heap.size ≤ b102 := Nat.le_trans O0.1 (Nat.le_of_eq q102)
  have sf_b102 : Safe Z consts_1 ss.vm h0 b102 := Safe.new (Nat.le_of_eq q102)
  have z_b102 : h0.size ≤ b102 := Nat.le_trans KP.1 (Nat.le_of_eq q102)
  replace sf_b102 := sf_b102.ext E102 hC.1
  replace hC := hC.trans (CHr.ext E102 hC.1)
  replace Et := Et.ext E102
  replace T0 := T0.ext E102
  replace T1 := T1.ext E102
  replace T2 := T2.ext E102
  replace Es := Es.ext E102
  replace Cs := Cs.ext E102
  replace Fs := Fs.ext E102
  replace Vs := Vs.ext E102
  have OE102 := ext_trans O0 E102
  replace hKd := Nat.le_trans hKd E102.1
  replace KP := KP.ext E102
  have F102_value : Fld Z h102 b102 xS2 "value" "[B" .null := D102 (Or.inl (wd113 hw)) (ty := (.array .byte)) (by decide)
  have F102_coder : Fld Z h102 b102 xS2 "coder" "B" (.int 0) := D102 (Or.inl (wd115 hw)) (ty := .byte) (by decide)
  have F102_count : Fld Z h102 b102 xS2 "count" "I" (.int 0) := D102 (Or.inl (wd129 hw)) (ty := .int) (by decide)
  clear D102
  refine Go.N X102 hx (hb hby d19_12) rfl (q := 13) rfl ?_
  refine Go.Y X102 hx hZ hown rfl (wd101 hw) (wd102 hw) (wd100 hw) (wd103 hw) (by decide) (csb l Z a0 hw b102 cs h102 OE102 A102 g_b102 F102_value F102_coder F102_count SCS hcs) e102 (by rw [hml]; rfl) (hb hby d19_13) (argsL := []) (rest := [(.ref b102)]) (lenOf pd26 rfl) rfl rfl (W := 1) (Nat.le_refl _) (by decide) ?_
  intro v103 T103 L103 X103 hQ103
  obtain ⟨h103, e103⟩ : ∃ z, T103.heap = z := ⟨_, rfl⟩
  rw [e103] at hQ103
  obtain ⟨v_103, kv_103, rfl, N103q, K103, fr103_v, P103_0, P103_1, P103_2, P103_3, P103_4⟩ := hQ103
  have N103 := Fr.app N0 N103q
  have ne_t_v_103 : t ≠ v_103 := ne_new Et.lt fr103_v
  have ne_s_v_103 : s ≠ v_103 := ne_new Es.lt fr103_v
  have ne_v_v_103 : v ≠ v_103 := ne_new Vs.lt fr103_v
  have ne_b102_v_103 : b102 ≠ v_103 := ne_new A102.lt fr103_v
  have g_v_103 : Z.heap.size ≤ v_103 := Nat.le_trans OE102.1 fr103_v
  have sf_v_103 : Safe Z consts_1 ss.vm h102 v_103 := Safe.new fr103_v
  have z_v_103 : h0.size ≤ v_103 := Nat.le_trans KP.1 fr103_v
  replace hKd := Nat.le_trans hKd K103.1
  have hSk : ∀ x ∈ [b102], Safe Z consts_1 ss.vm h102 x := (allS sf_b102 all0)
  replace sf_b102 := Safe.keep K103 hSk hC.1 sf_b102
  replace sf_v_103 := Safe.keep K103 hSk hC.1 sf_v_103
  replace hC := hC.trans (CHr.keep K103 hSk hC.1)
  replace Et := Et.keep K103
  replace T0 := T0.keep K103 (ninS ne_t_b102 nin0)
  replace T1 := T1.keep K103 (ninS ne_t_b102 nin0)
  replace T2 := T2.keep K103 (ninS ne_t_b102 nin0)
  replace Es := Es.keep K103
  replace Cs := Cs.keep K103 (ninS ne_s_b102 nin0)
  replace Fs := Fs.keep K103 (ninS ne_s_b102 nin0)
  replace Vs := Vs.keep K103 (ninS ne_v_b102 nin0)
  replace A102 := A102.keep K103
  have OK103 := ext_keep OE102 K103 (allS g_b102 all0)
  replace KP := KP.trans K103 (allS (Or.inr z_b102) all0)
  refine Go.g X103 hx (hb hby d19_16) rfl rfl (q := 17) rfl ?_
  refine Go.B X103 hx hZ hown (host := "") (Or.inl (wd72 hw)) Via.refl e103 T0 (hb hby d19_17) (q := 20) rfl ?_
  intro T104 X104 e104
  refine Go.F X104 hx (hb hby d19_20) (by decide) (q := 28) (by decide) (by decide) ?_
  refine Go.jv X104 hx hZ hown (wd116 hw) (own_wS hw) e104 hS hKd (own_EW hw) (List.mem_of_getElem? (i := 3) rfl) hC (vs := []) (z := (0 : Int32)) ⟨by decide, rfl⟩ (by decide) rfl (hb hby d19_28) (nn := 0) (by decide) (by decide) (by decide) (by decide) (q := 30) rfl ?_
  intro b105 u105 kc105 T105 h105 k105 X105 e105 E105 hS hKd hZ hown B105 C105 F105 V105 hR105
  replace sf_b102 := hR105.safe A102.lt sf_b102
  replace sf_v_103 := hR105.safe P103_3.lt sf_v_103
  replace hC := hC.trans hR105
  replace Et := Et.ext E105
  replace T0 := T0.ext E105
  replace T1 := T1.ext E105
  replace T2 := T2.ext E105
  replace Es := Es.ext E105
  replace Cs := Cs.ext E105
  replace Fs := Fs.ext E105
  replace Vs := Vs.ext E105
  replace A102 := A102.ext E105
  replace P103_0 := P103_0.ext E105
  replace P103_1 := P103_1.ext E105
  replace P103_2 := P103_2.ext E105
  replace P103_3 := P103_3.ext E105
  replace P103_4 := P103_4.ext E105
  have OE105 := ext_trans OK103 E105
  replace KP := KP.ext E105
  have ne_b105_t := Exa.ne B105 Et (by decide)
  have ne_t_u105 := Exa.neArv Et V105 (wd49 hw)
  have ne_s_u105 := Exa.neArv Es V105 (wd6 hw)
  have ne_b105_b102 := Exa.ne B105 A102 (by decide)
  have ne_b102_u105 := Exa.neArv A102 V105 (wd99 hw)
  have ne_b105_v_103 := Exa.ne B105 P103_3 (by decide)
  refine Go.u X105 hx hZ hown (wd117 hw) (wd118 hw) (notFace_of_selects (args := #[]) (mvT hZ (wd120 hw))) (wd120 hw) (wd119 hw) (wd100 hw) (wd121 hw) (by decide) (cab l Z a0 hw b102 b105 u105 v_103 cs ((16 : Int32)) (kv_103) (kc105) ((0 : Int32)) ((0 : Int32)) ([]) ([(.int 0), (.int 0), (.int 0), (.int 0), (.int 0)]) ([(.int 0), (.int 0), (.int 0), (.int 0), (.int 0)]) h105 OE105 A102 P103_0 P103_1 P103_2 P103_4 g_v_103 g_b102 ne_b102_v_103 B105 C105 F105 V105 SCS hcs ⟨⟨by decide, by decide, by decide⟩, by decide, by decide, rfl, Nat.le_of_ble_eq_true rfl, rfl⟩ (by decide)) e105 A102 (by rw [hml]; rfl) (hb hby d19_30) (argsL := [(.ref b105)]) (rest := []) (lenOf pd27 rfl) rfl rfl (W := 0) (Nat.le_refl _) (by decide) ?_
  intro v106 T106 L106 X106 hQ106
  obtain ⟨h106, e106⟩ : ∃ z, T106.heap = z := ⟨_, rfl⟩
  rw [e106] at hQ106
  obtain ⟨rfl, N106q, K106, P106_0, P106_1, P106_2, P106_3⟩ := hQ106
  have N106 := Fr.app N103 N106q
  replace hKd := Nat.le_trans hKd K106.1
  have hSk : ∀ x ∈ [b102, v_103], Safe Z consts_1 T105.vm h105 x := (allS sf_b102 (allS sf_v_103 all0))
  replace sf_b102 := Safe.keep K106 hSk hC.1 sf_b102
  replace sf_v_103 := Safe.keep K106 hSk hC.1 sf_v_103
  replace hC := hC.trans (CHr.keep K106 hSk hC.1)
  replace Et := Et.keep K106
  replace T0 := T0.keep K106 (ninS ne_t_b102 (ninS ne_t_v_103 nin0))
  replace T1 := T1.keep K106 (ninS ne_t_b102 (ninS ne_t_v_103 nin0))
  replace T2 := T2.keep K106 (ninS ne_t_b102 (ninS ne_t_v_103 nin0))
  replace Es := Es.keep K106
  replace Cs := Cs.keep K106 (ninS ne_s_b102 (ninS ne_s_v_103 nin0))
  replace Fs := Fs.keep K106 (ninS ne_s_b102 (ninS ne_s_v_103 nin0))
  replace Vs := Vs.keep K106 (ninS ne_v_b102 (ninS ne_v_v_103 nin0))
  replace A102 := A102.keep K106
  replace P103_3 := P103_3.keep K106
  replace B105 := B105.keep K106
  replace C105 := C105.keep K106 (ninS ne_b105_b102 (ninS ne_b105_v_103 nin0))
  replace F105 := F105.keep K106 (ninS ne_b105_b102 (ninS ne_b105_v_103 nin0))
  have OK106 := ext_keep OE105 K106 (allS g_b102 (allS g_v_103 all0))
  replace KP := KP.trans K106 (allS (Or.inr z_b102) (allS (Or.inr z_v_103) all0))
  refine Go.E X106 hx (hb hby d19_33) (r := (34 : Int32)) rfl (q := 35) rfl ?_
  refine Go.u X106 hx hZ hown (wd155 hw) (wd156 hw) (notFace_of_selects (args := #[]) (mvT hZ (wd158 hw))) (wd158 hw) (wd157 hw) (wd100 hw) (wd159 hw) (by decide) (ccb l Z a0 hw b102 v_103 cs ((16 : Int32)) (kv_103) ((0 : Int32)) ([(.int 0), (.int 0), (.int 0), (.int 0), (.int 0)]) ([(.int 34), (.int 0), (.int 0), (.int 0), (.int 0)]) h106 OK106 A102 P106_0 P106_1 P106_2 P106_3 g_v_103 g_b102 ne_b102_v_103 SCS hcs ⟨⟨by decide, by decide⟩, Nat.le_of_ble_eq_true rfl, rfl⟩ (by decide)) e106 A102 (by rw [hml]; rfl) (hb hby d19_35) (argsL := [(.int 34)]) (rest := []) (lenOf pd28 rfl) rfl rfl (W := 0) (Nat.le_refl _) (by decide) ?_
  intro v107 T107 L107 X107 hQ107
  obtain ⟨h107, e107⟩ : ∃ z, T107.heap = z := ⟨_, rfl⟩
  rw [e107] at hQ107
  obtain ⟨rfl, N107q, K107, P107_0, P107_1, P107_2, P107_3⟩ := hQ107
  have N107 := Fr.app N106 N107q
  replace hKd := Nat.le_trans hKd K107.1
  have hSk : ∀ x ∈ [b102, v_103], Safe Z consts_1 T105.vm h106 x := (allS sf_b102 (allS sf_v_103 all0))
  replace sf_b102 := Safe.keep K107 hSk hC.1 sf_b102
  replace sf_v_103 := Safe.keep K107 hSk hC.1 sf_v_103
  replace hC := hC.trans (CHr.keep K107 hSk hC.1)
  replace Et := Et.keep K107
  replace T0 := T0.keep K107 (ninS ne_t_b102 (ninS ne_t_v_103 nin0))
  replace T1 := T1.keep K107 (ninS ne_t_b102 (ninS ne_t_v_103 nin0))
  replace T2 := T2.keep K107 (ninS ne_t_b102 (ninS ne_t_v_103 nin0))
  replace Es := Es.keep K107
  replace Cs := Cs.keep K107 (ninS ne_s_b102 (ninS ne_s_v_103 nin0))
  replace Fs := Fs.keep K107 (ninS ne_s_b102 (ninS ne_s_v_103 nin0))
  replace Vs := Vs.keep K107 (ninS ne_v_b102 (ninS ne_v_v_103 nin0))
  replace A102 := A102.keep K107
  replace P103_3 := P103_3.keep K107
  replace B105 := B105.keep K107
  replace C105 := C105.keep K107 (ninS ne_b105_b102 (ninS ne_b105_v_103 nin0))
  replace F105 := F105.keep K107 (ninS ne_b105_b102 (ninS ne_b105_v_103 nin0))
  have OK107 := ext_keep OK106 K107 (allS g_b102 (allS g_v_103 all0))
  replace KP := KP.trans K107 (allS (Or.inr z_b102) (allS (Or.inr z_v_103) all0))
  refine Go.g X107 hx (hb hby d19_38) rfl rfl (q := 39) rfl ?_
  refine Go.B X107 hx hZ hown (host := "") (Or.inl (wd74 hw)) Via.refl e107 T1 (hb hby d19_39) (q := 42) rfl ?_
  intro T108 X108 e108
  refine Go.u X108 hx hZ hown (wd117 hw) (wd118 hw) (notFace_of_selects (args := #[]) (mvT hZ (wd120 hw))) (wd120 hw) (wd119 hw) (wd100 hw) (wd121 hw) (by decide) (cab l Z a0 hw b102 s v v_103 cs ((16 : Int32)) (kv_103) (kv) ((1 : Int32)) ln (us) ([(.int 34), (.int 0), (.int 0), (.int 0), (.int 0)]) (oa) h107 OK107 A102 P107_0 P107_1 P107_2 P107_3 g_v_103 g_b102 ne_b102_v_103 Es Cs Fs Vs SCS hcs hcp hcap) e108 A102 (by rw [hml]; rfl) (hb hby d19_42) (argsL := [(.ref s)]) (rest := []) (lenOf pd27 rfl) rfl rfl (W := 0) (Nat.le_refl _) (by decide) ?_
  intro v109 T109 L109 X109 hQ109
  obtain ⟨h109, e109⟩ : ∃ z, T109.heap = z := ⟨_, rfl⟩
  rw [e109] at hQ109
  obtain ⟨rfl, N109q, K109, P109_0, P109_1, P109_2, P109_3⟩ := hQ109
  have N109 := Fr.app N107 N109q
  replace hKd := Nat.le_trans hKd K109.1
  have hSk : ∀ x ∈ [b102, v_103], Safe Z consts_1 T105.vm h107 x := (allS sf_b102 (allS sf_v_103 all0))
  replace sf_b102 := Safe.keep K109 hSk hC.1 sf_b102
  replace sf_v_103 := Safe.keep K109 hSk hC.1 sf_v_103
  replace hC := hC.trans (CHr.keep K109 hSk hC.1)
  replace Et := Et.keep K109
  replace T0 := T0.keep K109 (ninS ne_t_b102 (ninS ne_t_v_103 nin0))
  replace T1 := T1.keep K109 (ninS ne_t_b102 (ninS ne_t_v_103 nin0))
  replace T2 := T2.keep K109 (ninS ne_t_b102 (ninS ne_t_v_103 nin0))
  replace Es := Es.keep K109
  replace Cs := Cs.keep K109 (ninS ne_s_b102 (ninS ne_s_v_103 nin0))
  replace Fs := Fs.keep K109 (ninS ne_s_b102 (ninS ne_s_v_103 nin0))
  replace Vs := Vs.keep K109 (ninS ne_v_b102 (ninS ne_v_v_103 nin0))
  replace A102 := A102.keep K109
  replace P103_3 := P103_3.keep K109
  replace B105 := B105.keep K109
  replace C105 := C105.keep K109 (ninS ne_b105_b102 (ninS ne_b105_v_103 nin0))
  replace F105 := F105.keep K109 (ninS ne_b105_b102 (ninS ne_b105_v_103 nin0))
  have OK109 := ext_keep OK107 K109 (allS g_b102 (allS g_v_103 all0))
  replace KP := KP.trans K109 (allS (Or.inr z_b102) (allS (Or.inr z_v_103) all0))
  refine Go.E X109 hx (hb hby d19_45) (r := (34 : Int32)) rfl (q := 47) rfl ?_
  refine Go.u X109 hx hZ hown (wd155 hw) (wd156 hw) (notFace_of_selects (args := #[]) (mvT hZ (wd158 hw))) (wd158 hw) (wd157 hw) (wd100 hw) (wd159 hw) (by decide) (ccb l Z a0 hw b102 v_103 cs ((16 : Int32)) (kv_103) (((1 : Int32) + ln)) (oa) (ob) h109 OK109 A102 P109_0 P109_1 P109_2 P109_3 g_v_103 g_b102 ne_b102_v_103 SCS hcs hst hcaq) e109 A102 (by rw [hml]; rfl) (hb hby d19_47) (argsL := [(.int 34)]) (rest := []) (lenOf pd28 rfl) rfl rfl (W := 0) (Nat.le_refl _) (by decide) ?_
  intro v110 T110 L110 X110 hQ110
  obtain ⟨h110, e110⟩ : ∃ z, T110.heap = z := ⟨_, rfl⟩
  rw [e110] at hQ110
  obtain ⟨rfl, N110q, K110, P110_0, P110_1, P110_2, P110_3⟩ := hQ110
  have N110 := Fr.app N109 N110q
  replace hKd := Nat.le_trans hKd K110.1
  have hSk : ∀ x ∈ [b102, v_103], Safe Z consts_1 T105.vm h109 x := (allS sf_b102 (allS sf_v_103 all0))
  replace sf_b102 := Safe.keep K110 hSk hC.1 sf_b102
  replace sf_v_103 := Safe.keep K110 hSk hC.1 sf_v_103
  replace hC := hC.trans (CHr.keep K110 hSk hC.1)
  replace Et := Et.keep K110
  replace T0 := T0.keep K110 (ninS ne_t_b102 (ninS ne_t_v_103 nin0))
  replace T1 := T1.keep K110 (ninS ne_t_b102 (ninS ne_t_v_103 nin0))
  replace T2 := T2.keep K110 (ninS ne_t_b102 (ninS ne_t_v_103 nin0))
  replace Es := Es.keep K110
  replace Cs := Cs.keep K110 (ninS ne_s_b102 (ninS ne_s_v_103 nin0))
  replace Fs := Fs.keep K110 (ninS ne_s_b102 (ninS ne_s_v_103 nin0))
  replace Vs := Vs.keep K110 (ninS ne_v_b102 (ninS ne_v_v_103 nin0))
  replace A102 := A102.keep K110
  replace P103_3 := P103_3.keep K110
  replace B105 := B105.keep K110
  replace C105 := C105.keep K110 (ninS ne_b105_b102 (ninS ne_b105_v_103 nin0))
  replace F105 := F105.keep K110 (ninS ne_b105_b102 (ninS ne_b105_v_103 nin0))
  have OK110 := ext_keep OK109 K110 (allS g_b102 (allS g_v_103 all0))
  replace KP := KP.trans K110 (allS (Or.inr z_b102) (allS (Or.inr z_v_103) all0))
  refine Go.u X110 hx hZ hown (wd173 hw) (wd174 hw) (notFace_of_selects (args := #[]) (mvT hZ (wd176 hw))) (wd176 hw) (wd175 hw) (wd100 hw) (wd177 hw) (by decide) (cts l Z a0 hw b102 v_103 cs ((16 : Int32)) (kv_103) ((((1 : Int32) + ln) + (1 : Int32))) (ob) (oc) h110 OK110 A102 P110_0 P110_1 P110_2 P110_3 SCS hcs hct) e110 A102 (by rw [hml]; rfl) (hb hby d19_50) (argsL := []) (rest := []) (lenOf pd29 rfl) rfl rfl (W := 0) (Nat.le_refl _) (by decide) ?_
  intro v111 T111 L111 X111 hQ111
  obtain ⟨h111, e111⟩ : ∃ z, T111.heap = z := ⟨_, rfl⟩
  rw [e111] at hQ111
  obtain ⟨t_111, u_111, ku_111, rfl, N111q, K111, fr111_t, fr111_u, P111_0, P111_1, P111_2, P111_3⟩ := hQ111
  have N111 := Fr.app N110 N111q
  have ne_t_t_111 : t ≠ t_111 := ne_new Et.lt fr111_t
  have ne_s_t_111 : s ≠ t_111 := ne_new Es.lt fr111_t
  have ne_v_t_111 : v ≠ t_111 := ne_new Vs.lt fr111_t
  have ne_b102_t_111 : b102 ≠ t_111 := ne_new A102.lt fr111_t
  have ne_v_103_t_111 : v_103 ≠ t_111 := ne_new P103_3.lt fr111_t
  have ne_b105_t_111 : b105 ≠ t_111 := ne_new B105.lt fr111_t
  have g_t_111 : Z.heap.size ≤ t_111 := Nat.le_trans OK110.1 fr111_t
  have sf_t_111 : Safe Z consts_1 T105.vm h110 t_111 := Safe.new fr111_t
  have z_t_111 : h0.size ≤ t_111 := Nat.le_trans KP.1 fr111_t
  have ne_t_u_111 : t ≠ u_111 := ne_new Et.lt fr111_u
  have ne_s_u_111 : s ≠ u_111 := ne_new Es.lt fr111_u
  have ne_v_u_111 : v ≠ u_111 := ne_new Vs.lt fr111_u
  have ne_b102_u_111 : b102 ≠ u_111 := ne_new A102.lt fr111_u
  have ne_v_103_u_111 : v_103 ≠ u_111 := ne_new P103_3.lt fr111_u
  have ne_b105_u_111 : b105 ≠ u_111 := ne_new B105.lt fr111_u
  have g_u_111 : Z.heap.size ≤ u_111 := Nat.le_trans OK110.1 fr111_u
  have sf_u_111 : Safe Z consts_1 T105.vm h110 u_111 := Safe.new fr111_u
  have z_u_111 : h0.size ≤ u_111 := Nat.le_trans KP.1 fr111_u
  replace hKd := Nat.le_trans hKd K111.1
  have hSk : ∀ x ∈ ([] : List Addr), Safe Z consts_1 T105.vm h110 x := all0
  replace sf_b102 := Safe.keep K111 hSk hC.1 sf_b102
  replace sf_v_103 := Safe.keep K111 hSk hC.1 sf_v_103
  replace sf_t_111 := Safe.keep K111 hSk hC.1 sf_t_111
  replace sf_u_111 := Safe.keep K111 hSk hC.1 sf_u_111
  replace hC := hC.trans (CHr.keep K111 hSk hC.1)
  replace Et := Et.keep K111
  replace T0 := T0.keep K111 nin0
  replace T1 := T1.keep K111 nin0
  replace T2 := T2.keep K111 nin0
  replace Es := Es.keep K111
  replace Cs := Cs.keep K111 nin0
  replace Fs := Fs.keep K111 nin0
  replace Vs := Vs.keep K111 nin0
  replace A102 := A102.keep K111
  replace P103_3 := P103_3.keep K111
  replace B105 := B105.keep K111
  replace C105 := C105.keep K111 nin0
  replace F105 := F105.keep K111 nin0
  replace P110_0 := P110_0.keep K111 nin0
  replace P110_1 := P110_1.keep K111 nin0
  replace P110_2 := P110_2.keep K111 nin0
  replace P110_3 := P110_3.keep K111 nin0
  have OK111 := ext_keep OK110 K111 all0
  replace KP := KP.trans K111 all0
  refine Go.jf X111 hx (hb hby d19_53) rfl (l' := #[.val (.ref t), .val (.ref t_111)]) rfl (q := 54) rfl ?_
  refine Go.g X111 hx (hb hby d19_54) rfl rfl (q := 55) rfl ?_
  refine Go.g X111 hx (hb hby d19_55) rfl rfl (q := 56) rfl ?_
  refine Go.jc X111 hx hZ hown (host := "") (Or.inl (wd96 hw)) Via.refl e111 T2 Et (Or.inl (wd97 hw)) (wd49 hw) (ty := (.object xS0)) (by decide) rfl rfl (hb hby d19_56) (q := 59) rfl ?_
  intro T112 h112 X112 e112 W112 F112
  have N112 := Fr.snoc X112 N111 g_t
  replace sf_b102 := Safe.wr W112 (Safe.exa hZ.alike Et (by decide) (by decide)) hC.1 sf_b102
  replace sf_v_103 := Safe.wr W112 (Safe.exa hZ.alike Et (by decide) (by decide)) hC.1 sf_v_103
  replace sf_t_111 := Safe.wr W112 (Safe.exa hZ.alike Et (by decide) (by decide)) hC.1 sf_t_111
  replace sf_u_111 := Safe.wr W112 (Safe.exa hZ.alike Et (by decide) (by decide)) hC.1 sf_u_111
  replace hC := hC.trans (CHr.wr W112 (Safe.exa hZ.alike Et (by decide) (by decide)) hC.1)
  replace Et := Et.wr W112
  replace T0 := T0.other W112 (Or.inr (slot_ne (Or.inr (wd73 hw)) (Or.inl (wd97 hw)) (by decide) (t := .boolean) (t' := (.object xS0)) (by decide) (by decide)))
  replace T1 := T1.other W112 (Or.inr (slot_ne (Or.inr (wd75 hw)) (Or.inl (wd97 hw)) (by decide) (t := (.object xS0)) (t' := (.object xS0)) (by decide) (by decide)))
  replace Es := Es.wr W112
  replace A102 := A102.wr W112
  replace P103_3 := P103_3.wr W112
  replace B105 := B105.wr W112
  replace C105 := C105.other W112 (Or.inl ne_b105_t)
  replace F105 := F105.other W112 (Or.inl ne_b105_t)
  replace P110_0 := P110_0.other W112 (Or.inl (Ne.symm ne_t_b102))
  replace P110_1 := P110_1.other W112 (Or.inl (Ne.symm ne_t_b102))
  replace P110_2 := P110_2.other W112 (Or.inl (Ne.symm ne_t_b102))
  replace P110_3 := P110_3.other W112 (Ne.symm ne_t_v_103)
  replace P111_0 := P111_0.wr W112
  replace P111_1 := P111_1.other W112 (Or.inl (Ne.symm ne_t_t_111))
  replace P111_2 := P111_2.other W112 (Or.inl (Ne.symm ne_t_t_111))
  replace P111_3 := P111_3.other W112 (Ne.symm ne_t_u_111)
  have OW112 := ext_wr OK111 W112 g_t
  replace hKd := Nat.le_trans hKd (Keep.of_wr W112).1
  replace KP := KP.wr W112 (Or.inl (List.mem_of_getElem? (i := 0) rfl))
  refine Go.g X112 hx (hb hby d19_59) rfl rfl (q := 60) rfl ?_
  exact Go.jm X112 hx hS hKd hs0 hZ (own_EW hw) hC hret hlk rfl rfl (hb hby d19_60) e112 (by decide) (by decide) ⟨t_111, u_111, ku_111, rfl, N112, KP, z_t_111, z_u_111, T0, T1, F112, P111_0, P111_2, P111_1, P111_3⟩
def Q_ceqs (Z : State) (o : Addr) (h0 : Heap) (vR : Option Value) (hR : Heap) (LR : List Loc) : Prop := vR = some (.int 1) ∧ Fr Z.heap.size LR ∧ hR = h0
theorem ceqs (l : Launch) (Z : State) (a0 : Array Value) (hw : ∀ d ∈ tables_1, d.before a0 Z = true) (o : Addr) (h0 : Heap) (O0 : Ext Z.heap h0) :
    Ctr l Z h0 (⟨xS0, "equals", "(Ljava/lang/Object;)Z"⟩ : MethodName) k18 3 (some .boolean) [] ({ frames := 0, cells := 0, slots := 0, locals := 0 } : Room) #[(.ref o), (.ref o)] (Q_ceqs Z o h0) := by
  refine enter (plainFor_of_name pn1) ?_
  intro pp ee ss mm below meth cc s₁ hx hby hml hZ hown hnm hret hlk X0 e0 hs0
  replace hown : ss.vm.findClass xS0 = some mm.cls := hown
  refine Go.r (congrArg s₁.setTop (ef_ceqs mm o o)) ?_
  have N0 := Fr.nil Z.heap.size
  show Go pp ee below _ (s₁.setTop (mkF mm 0 #[.val (.ref o), .val (.ref o), .unset] []))
  refine Go.g X0 hx (hb hby d18_0) rfl rfl (q := 1) rfl ?_
  refine Go.g X0 hx (hb hby d18_1) rfl rfl (q := 2) rfl ?_
  refine Go.jp X0 hx rfl rfl (hb hby d18_2) (same := true) (decide_eq_true rfl) (q := 5) (by decide) (by decide) ?_
  refine Go.i X0 hx (hb hby d18_5) (r := (1 : Int32)) rfl (q := 6) rfl ?_
  exact Go.M X0 hx hret hlk (by simp) rfl (hb hby d18_6) e0 (by decide) (by decide) ⟨rfl, N0, rfl⟩
def Q_ctox (Z : State) (o w : Addr) (h0 : Heap) (vR : Option Value) (hR : Heap) (LR : List Loc) : Prop := vR = some (.ref w) ∧ Fr Z.heap.size LR ∧ hR = h0
theorem ctox (l : Launch) (Z : State) (a0 : Array Value) (hw : ∀ d ∈ tables_1, d.before a0 Z = true) (o w : Addr) (h0 : Heap) (O0 : Ext Z.heap h0) (F : Fld Z h0 o xS1 "field" xS4 (.ref w)) :
    Ctr l Z h0 (⟨xS1, "toString", "()Ljava/lang/String;"⟩ : MethodName) k19 2 (some (.object xS0)) [] ({ frames := 0, cells := 0, slots := 0, locals := 0 } : Room) #[(.ref o)] (Q_ctox Z o w h0) := by
  refine enter (plainFor_of_name pn6) ?_
  intro pp ee ss mm below meth cc s₁ hx hby hml hZ hown hnm hret hlk X0 e0 hs0
  replace hown : ss.vm.findClass xS1 = some mm.cls := hown
  refine Go.r (congrArg s₁.setTop (ef_ctox mm o)) ?_
  have N0 := Fr.nil Z.heap.size
  show Go pp ee below _ (s₁.setTop (mkF mm 0 #[.val (.ref o), .unset] []))
  refine Go.g X0 hx (hb hby d19_0) rfl rfl (q := 1) rfl ?_
  refine Go.B X0 hx hZ hown (host := "") (Or.inl (wd96 hw)) Via.refl e0 F (hb hby d19_1) (q := 4) rfl ?_
  intro T101 X101 e101
  refine Go.jf X101 hx (hb hby d19_4) rfl (l' := #[.val (.ref o), .val (.ref w)]) rfl (q := 5) rfl ?_
  refine Go.g X101 hx (hb hby d19_5) rfl rfl (q := 6) rfl ?_
  refine Go.jx X101 hx (hb hby d19_6) (q := 59) (by decide) (by decide) ?_
  refine Go.g X101 hx (hb hby d19_59) rfl rfl (q := 60) rfl ?_
  exact Go.U X101 hx hret hlk rfl rfl (hb hby d19_60) e101 (by decide) (by decide) ⟨rfl, N0, rfl⟩
def Q_cle0 (Z : State) (v1 v2 : Addr) (k1 k2 : ClassId) (h0 : Heap) (vR : Option Value) (hR : Heap) (LR : List Loc) : Prop := vR = some (.int 1) ∧ Fr Z.heap.size LR ∧ hR = h0
theorem cle0 (l : Launch) (Z : State) (a0 : Array Value) (hw : ∀ d ∈ tables_1, d.before a0 Z = true) (v1 v2 : Addr) (k1 k2 : ClassId) (h0 : Heap) (O0 : Ext Z.heap h0) (V1 : Arv Z h0 v1 k1 .byte (0 : Int32) [] (.int 0)) (V2 : Arv Z h0 v2 k2 .byte (0 : Int32) [] (.int 0)) :
    Ctr l Z h0 (⟨xS7, "equals", "([B[B)Z"⟩ : MethodName) k42 3 (some .boolean) [] ({ frames := 0, cells := 0, slots := 0, locals := 0 } : Room) #[(.ref v1), (.ref v2)] (Q_cle0 Z v1 v2 k1 k2 h0) := by
  refine enter (plainFor_of_name pn4) ?_
  intro pp ee ss mm below meth cc s₁ hx hby hml hZ hown hnm hret hlk X0 e0 hs0
  replace hown : ss.vm.findClass xS7 = some mm.cls := hown
  refine Go.r (congrArg s₁.setTop (ef_cle0 mm v1 v2)) ?_
  have N0 := Fr.nil Z.heap.size
  show Go pp ee below _ (s₁.setTop (mkF mm 0 #[.val (.ref v1), .val (.ref v2), .unset] []))
  refine Go.g X0 hx (hb hby d42_0) rfl rfl (q := 1) rfl ?_
  refine Go.J X0 hx hZ e0 V1 (hb hby d42_1) ?_
  refine Go.g X0 hx (hb hby d42_2) rfl rfl (q := 3) rfl ?_
  refine Go.J X0 hx hZ e0 V2 (hb hby d42_3) ?_
  refine Go.t X0 hx (hb hby d42_4) (by decide) (q := 7) rfl ?_
  refine Go.i X0 hx (hb hby d42_7) (r := (0 : Int32)) rfl (q := 8) rfl ?_
  refine Go.P X0 hx (hb hby d42_8) (l' := #[.val (.ref v1), .val (.ref v2), .val (.int 0)]) rfl (q := 9) rfl ?_
  refine Go.f X0 hx (hb hby d42_9) rfl (q := 10) rfl ?_
  refine Go.g X0 hx (hb hby d42_10) rfl rfl (q := 11) rfl ?_
  refine Go.J X0 hx hZ e0 V1 (hb hby d42_11) ?_
  refine Go.y X0 hx (hb hby d42_12) (by decide) (q := 32) (by decide) (by decide) ?_
  refine Go.i X0 hx (hb hby d42_32) (r := (1 : Int32)) rfl (q := 33) rfl ?_
  exact Go.M X0 hx hret hlk (by simp) rfl (hb hby d42_33) e0 (by decide) (by decide) ⟨rfl, N0, rfl⟩
def Q_cse0x (Z : State) (t1 t2 : Addr) (cs : Int32) (v1 v2 : Addr) (k1 k2 : ClassId) (h0 : Heap) (vR : Option Value) (hR : Heap) (LR : List Loc) : Prop := vR = some (.int 1) ∧ Fr Z.heap.size LR ∧ hR = h0
theorem cse0x (l : Launch) (Z : State) (a0 : Array Value) (hw : ∀ d ∈ tables_1, d.before a0 Z = true) (t1 t2 : Addr) (cs : Int32) (v1 v2 : Addr) (k1 k2 : ClassId) (h0 : Heap) (O0 : Ext Z.heap h0) (E1 : Exa Z h0 t1 xS0) (E2 : Exa Z h0 t2 xS0) (C1 : Fld Z h0 t1 xS0 "coder" "B" (.int 0)) (C2 : Fld Z h0 t2 xS0 "coder" "B" (.int 0)) (F1 : Fld Z h0 t1 xS0 "value" "[B" (.ref v1)) (F2 : Fld Z h0 t2 xS0 "value" "[B" (.ref v2)) (V1 : Arv Z h0 v1 k1 .byte (0 : Int32) [] (.int 0)) (V2 : Arv Z h0 v2 k2 .byte (0 : Int32) [] (.int 0)) (SCS : Sta Z Z.heap xS0 xS3 "Z" (.int cs)) (hcs : ¬ (cs = (0 : Int32))) :
    Ctr l Z h0 (⟨xS0, "equals", "(Ljava/lang/Object;)Z"⟩ : MethodName) k18 3 (some .boolean) [] ({ frames := 1, cells := 0, slots := 0, locals := 14 } : Room) #[(.ref t1), (.ref t2)] (Q_cse0x Z t1 t2 cs v1 v2 k1 k2 h0) := by
  refine enter (plainFor_of_name pn1) ?_
  intro pp ee ss mm below meth cc s₁ hx hby hml hZ hown hnm hret hlk X0 e0 hs0
  replace hown : ss.vm.findClass xS0 = some mm.cls := hown
  refine Go.r (congrArg s₁.setTop (ef_cse0x mm t1 t2)) ?_
  have N0 := Fr.nil Z.heap.size
  show Go pp ee below _ (s₁.setTop (mkF mm 0 #[.val (.ref t1), .val (.ref t2), .unset] []))
  refine Go.g X0 hx (hb hby d18_0) rfl rfl (q := 1) rfl ?_
  refine Go.g X0 hx (hb hby d18_1) rfl rfl (q := 2) rfl ?_
  by_cases ha101 : t1 = t2
  · refine Go.jp X0 hx rfl rfl (hb hby d18_2) (same := true) (decide_eq_true (congrArg Value.ref ha101)) (q := 5) (by decide) (by decide) ?_
    refine Go.i X0 hx (hb hby d18_5) (r := (1 : Int32)) rfl (q := 6) rfl ?_
    exact Go.M X0 hx hret hlk (by simp) rfl (hb hby d18_6) e0 (by decide) (by decide) ⟨rfl, N0, rfl⟩
  · refine Go.jp X0 hx rfl rfl (hb hby d18_2) (same := false) (decide_eq_false fun q => ha101 (Value.ref.inj q)) (q := 7) (by decide) (by decide) ?_
    refine Go.g X0 hx (hb hby d18_7) rfl rfl (q := 8) rfl ?_
    refine Go.js X0 hx hZ hown (wd214 hw) e0 (Ins.self E2) (hb hby d18_8) (q := 11) rfl ?_
    intro T102 X102 e102
    refine Go.L X102 hx (hb hby d18_11) (by decide) (q := 14) rfl ?_
    refine Go.g X102 hx (hb hby d18_14) rfl rfl (q := 15) rfl ?_
    refine Go.jr X102 hx hZ hown (wd214 hw) e102 (Ins.self E2) (hb hby d18_15) (q := 18) rfl ?_
    intro T103 X103 e103
    refine Go.jf X103 hx (hb hby d18_18) rfl (l' := #[.val (.ref t1), .val (.ref t2), .val (.ref t2)]) rfl (q := 19) rfl ?_
    refine Go.jj X103 hx hZ hown (host := "") (Or.inl (wd33 hw)) Via.refl e103 (SCS.ext O0) (hb hby d18_19) (q := 22) rfl ?_
    intro T104 X104 e104
    refine Go.L X104 hx (hb hby d18_22) (Jvm.Free.XT.i0_eq_f hcs) (q := 25) rfl ?_
    refine Go.g X104 hx (hb hby d18_25) rfl rfl (q := 26) rfl ?_
    refine Go.B X104 hx hZ hown (host := "") (Or.inl (wd29 hw)) Via.refl e104 C1 (hb hby d18_26) (q := 29) rfl ?_
    intro T105 X105 e105
    refine Go.g X105 hx (hb hby d18_29) rfl rfl (q := 30) rfl ?_
    refine Go.B X105 hx hZ hown (host := "") (Or.inl (wd29 hw)) Via.refl e105 C2 (hb hby d18_30) (q := 33) rfl ?_
    intro T106 X106 e106
    refine Go.t X106 hx (hb hby d18_33) (by decide) (q := 36) rfl ?_
    refine Go.g X106 hx (hb hby d18_36) rfl rfl (q := 37) rfl ?_
    refine Go.B X106 hx hZ hown (host := "") (Or.inl (wd28 hw)) Via.refl e106 F1 (hb hby d18_37) (q := 40) rfl ?_
    intro T107 X107 e107
    refine Go.g X107 hx (hb hby d18_40) rfl rfl (q := 41) rfl ?_
    refine Go.B X107 hx hZ hown (host := "") (Or.inl (wd28 hw)) Via.refl e107 F2 (hb hby d18_41) (q := 44) rfl ?_
    intro T108 X108 e108
    refine Go.A X108 hx hZ hown (wd215 hw) (wd216 hw) (wd171 hw) (wd217 hw) (by decide) (cle0 l Z a0 hw v1 v2 (k1) (k2) h0 O0 V1 V2) e108 (by rw [hml]; rfl) (hb hby d18_44) (argsL := [(.ref v1), (.ref v2)]) (rest := []) (lenOf pd30 rfl) rfl rfl (W := 0) (Nat.le_refl _) (by decide) ?_
    intro v109 T109 L109 X109 hQ109
    obtain ⟨rfl, N109q, e109⟩ := hQ109
    have N109 := Fr.app N0 N109q
    refine Go.L X109 hx (hb hby d18_47) (by decide) (q := 50) rfl ?_
    refine Go.i X109 hx (hb hby d18_50) (r := (1 : Int32)) rfl (q := 51) rfl ?_
    refine Go.D X109 hx (hb hby d18_51) (q := 55) (by decide) (by decide) ?_
    exact Go.M X109 hx hret hlk (by simp) rfl (hb hby d18_55) e109 (by decide) (by decide) ⟨rfl, N109, rfl⟩
def Q_cle1 (Z : State) (v1 v2 : Addr) (k1 k2 : ClassId) (x0 : Int32) (h0 : Heap) (vR : Option Value) (hR : Heap) (LR : List Loc) : Prop := vR = some (.int 1) ∧ Fr Z.heap.size LR ∧ hR = h0
theorem cle1 (l : Launch) (Z : State) (a0 : Array Value) (hw : ∀ d ∈ tables_1, d.before a0 Z = true) (v1 v2 : Addr) (k1 k2 : ClassId) (x0 : Int32) (h0 : Heap) (O0 : Ext Z.heap h0) (V1 : Arv Z h0 v1 k1 .byte (1 : Int32) [(.int x0)] (.int 0)) (V2 : Arv Z h0 v2 k2 .byte (1 : Int32) [(.int x0)] (.int 0)) :
    Ctr l Z h0 (⟨xS7, "equals", "([B[B)Z"⟩ : MethodName) k42 3 (some .boolean) [] ({ frames := 0, cells := 0, slots := 0, locals := 0 } : Room) #[(.ref v1), (.ref v2)] (Q_cle1 Z v1 v2 k1 k2 x0 h0) := by
  refine enter (plainFor_of_name pn4) ?_
  intro pp ee ss mm below meth cc s₁ hx hby hml hZ hown hnm hret hlk X0 e0 hs0
  replace hown : ss.vm.findClass xS7 = some mm.cls := hown
  refine Go.r (congrArg s₁.setTop (ef_cle1 mm v1 v2)) ?_
  have N0 := Fr.nil Z.heap.size
  show Go pp ee below _ (s₁.setTop (mkF mm 0 #[.val (.ref v1), .val (.ref v2), .unset] []))
  refine Go.g X0 hx (hb hby d42_0) rfl rfl (q := 1) rfl ?_
  refine Go.J X0 hx hZ e0 V1 (hb hby d42_1) ?_
  refine Go.g X0 hx (hb hby d42_2) rfl rfl (q := 3) rfl ?_
  refine Go.J X0 hx hZ e0 V2 (hb hby d42_3) ?_
  refine Go.t X0 hx (hb hby d42_4) (by decide) (q := 7) rfl ?_
  refine Go.i X0 hx (hb hby d42_7) (r := (0 : Int32)) rfl (q := 8) rfl ?_
  refine Go.P X0 hx (hb hby d42_8) (l' := #[.val (.ref v1), .val (.ref v2), .val (.int 0)]) rfl (q := 9) rfl ?_
  refine Go.f X0 hx (hb hby d42_9) rfl (q := 10) rfl ?_
  refine Go.g X0 hx (hb hby d42_10) rfl rfl (q := 11) rfl ?_
  refine Go.J X0 hx hZ e0 V1 (hb hby d42_11) ?_
  refine Go.t X0 hx (hb hby d42_12) (by decide) (q := 15) rfl ?_
  refine Go.g X0 hx (hb hby d42_15) rfl rfl (q := 16) rfl ?_
  refine Go.f X0 hx (hb hby d42_16) rfl (q := 17) rfl ?_
  refine Go.W X0 hx hZ e0 V1 ⟨by decide, by decide⟩ (v := (.int x0)) rfl (hb hby d42_17) ?_
  refine Go.g X0 hx (hb hby d42_18) rfl rfl (q := 19) rfl ?_
  refine Go.f X0 hx (hb hby d42_19) rfl (q := 20) rfl ?_
  refine Go.W X0 hx hZ e0 V2 ⟨by decide, by decide⟩ (v := (.int x0)) rfl (hb hby d42_20) ?_
  refine Go.y X0 hx (hb hby d42_21) (Jvm.Free.XT.ii_eq_t rfl) (q := 26) (by decide) (by decide) ?_
  refine Go.H X0 hx (hb hby d42_26) rfl (r := (1 : Int32)) rfl (l' := #[.val (.ref v1), .val (.ref v2), .val (.int 1)]) rfl (q := 29) rfl ?_
  refine Go.D X0 hx (hb hby d42_29) (q := 9) (by decide) (by decide) ?_
  refine Go.f X0 hx (hb hby d42_9) rfl (q := 10) rfl ?_
  refine Go.g X0 hx (hb hby d42_10) rfl rfl (q := 11) rfl ?_
  refine Go.J X0 hx hZ e0 V1 (hb hby d42_11) ?_
  refine Go.y X0 hx (hb hby d42_12) (by decide) (q := 32) (by decide) (by decide) ?_
  refine Go.i X0 hx (hb hby d42_32) (r := (1 : Int32)) rfl (q := 33) rfl ?_
  exact Go.M X0 hx hret hlk (by simp) rfl (hb hby d42_33) e0 (by decide) (by decide) ⟨rfl, N0, rfl⟩
def Q_cse1 (Z : State) (t1 t2 : Addr) (cs : Int32) (v1 v2 : Addr) (k1 k2 : ClassId) (x0 : Int32) (h0 : Heap) (vR : Option Value) (hR : Heap) (LR : List Loc) : Prop := vR = some (.int 1) ∧ Fr Z.heap.size LR ∧ hR = h0
theorem cse1 (l : Launch) (Z : State) (a0 : Array Value) (hw : ∀ d ∈ tables_1, d.before a0 Z = true) (t1 t2 : Addr) (cs : Int32) (v1 v2 : Addr) (k1 k2 : ClassId) (x0 : Int32) (h0 : Heap) (O0 : Ext Z.heap h0) (E1 : Exa Z h0 t1 xS0) (E2 : Exa Z h0 t2 xS0) (C1 : Fld Z h0 t1 xS0 "coder" "B" (.int 0)) (C2 : Fld Z h0 t2 xS0 "coder" "B" (.int 0)) (F1 : Fld Z h0 t1 xS0 "value" "[B" (.ref v1)) (F2 : Fld Z h0 t2 xS0 "value" "[B" (.ref v2)) (V1 : Arv Z h0 v1 k1 .byte (1 : Int32) [(.int x0)] (.int 0)) (V2 : Arv Z h0 v2 k2 .byte (1 : Int32) [(.int x0)] (.int 0)) (n12 : t1 ≠ t2) (SCS : Sta Z Z.heap xS0 xS3 "Z" (.int cs)) (hcs : ¬ (cs = (0 : Int32))) :
    Ctr l Z h0 (⟨xS0, "equals", "(Ljava/lang/Object;)Z"⟩ : MethodName) k18 3 (some .boolean) [] ({ frames := 1, cells := 0, slots := 0, locals := 14 } : Room) #[(.ref t1), (.ref t2)] (Q_cse1 Z t1 t2 cs v1 v2 k1 k2 x0 h0) := by
  refine enter (plainFor_of_name pn1) ?_
  intro pp ee ss mm below meth cc s₁ hx hby hml hZ hown hnm hret hlk X0 e0 hs0
  replace hown : ss.vm.findClass xS0 = some mm.cls := hown
  refine Go.r (congrArg s₁.setTop (ef_cse1 mm t1 t2)) ?_
  have N0 := Fr.nil Z.heap.size
  show Go pp ee below _ (s₁.setTop (mkF mm 0 #[.val (.ref t1), .val (.ref t2), .unset] []))
  refine Go.g X0 hx (hb hby d18_0) rfl rfl (q := 1) rfl ?_
  refine Go.g X0 hx (hb hby d18_1) rfl rfl (q := 2) rfl ?_
  refine Go.jp X0 hx rfl rfl (hb hby d18_2) (same := false) (decide_eq_false fun q => n12 (Value.ref.inj q)) (q := 7) (by decide) (by decide) ?_
  refine Go.g X0 hx (hb hby d18_7) rfl rfl (q := 8) rfl ?_
  refine Go.js X0 hx hZ hown (wd214 hw) e0 (Ins.self E2) (hb hby d18_8) (q := 11) rfl ?_
  intro T101 X101 e101
  refine Go.L X101 hx (hb hby d18_11) (by decide) (q := 14) rfl ?_
  refine Go.g X101 hx (hb hby d18_14) rfl rfl (q := 15) rfl ?_
  refine Go.jr X101 hx hZ hown (wd214 hw) e101 (Ins.self E2) (hb hby d18_15) (q := 18) rfl ?_
  intro T102 X102 e102
  refine Go.jf X102 hx (hb hby d18_18) rfl (l' := #[.val (.ref t1), .val (.ref t2), .val (.ref t2)]) rfl (q := 19) rfl ?_
  refine Go.jj X102 hx hZ hown (host := "") (Or.inl (wd33 hw)) Via.refl e102 (SCS.ext O0) (hb hby d18_19) (q := 22) rfl ?_
  intro T103 X103 e103
  refine Go.L X103 hx (hb hby d18_22) (Jvm.Free.XT.i0_eq_f hcs) (q := 25) rfl ?_
  refine Go.g X103 hx (hb hby d18_25) rfl rfl (q := 26) rfl ?_
  refine Go.B X103 hx hZ hown (host := "") (Or.inl (wd29 hw)) Via.refl e103 C1 (hb hby d18_26) (q := 29) rfl ?_
  intro T104 X104 e104
  refine Go.g X104 hx (hb hby d18_29) rfl rfl (q := 30) rfl ?_
  refine Go.B X104 hx hZ hown (host := "") (Or.inl (wd29 hw)) Via.refl e104 C2 (hb hby d18_30) (q := 33) rfl ?_
  intro T105 X105 e105
  refine Go.t X105 hx (hb hby d18_33) (by decide) (q := 36) rfl ?_
  refine Go.g X105 hx (hb hby d18_36) rfl rfl (q := 37) rfl ?_
  refine Go.B X105 hx hZ hown (host := "") (Or.inl (wd28 hw)) Via.refl e105 F1 (hb hby d18_37) (q := 40) rfl ?_
  intro T106 X106 e106
  refine Go.g X106 hx (hb hby d18_40) rfl rfl (q := 41) rfl ?_
  refine Go.B X106 hx hZ hown (host := "") (Or.inl (wd28 hw)) Via.refl e106 F2 (hb hby d18_41) (q := 44) rfl ?_
  intro T107 X107 e107
  refine Go.A X107 hx hZ hown (wd215 hw) (wd216 hw) (wd171 hw) (wd217 hw) (by decide) (cle1 l Z a0 hw v1 v2 (k1) (k2) x0 h0 O0 V1 V2) e107 (by rw [hml]; rfl) (hb hby d18_44) (argsL := [(.ref v1), (.ref v2)]) (rest := []) (lenOf pd30 rfl) rfl rfl (W := 0) (Nat.le_refl _) (by decide) ?_
  intro v108 T108 L108 X108 hQ108
  obtain ⟨rfl, N108q, e108⟩ := hQ108
  have N108 := Fr.app N0 N108q
  refine Go.L X108 hx (hb hby d18_47) (by decide) (q := 50) rfl ?_
  refine Go.i X108 hx (hb hby d18_50) (r := (1 : Int32)) rfl (q := 51) rfl ?_
  refine Go.D X108 hx (hb hby d18_51) (q := 55) (by decide) (by decide) ?_
  exact Go.M X108 hx hret hlk (by simp) rfl (hb hby d18_55) e108 (by decide) (by decide) ⟨rfl, N108, rfl⟩
def Q_cle2 (Z : State) (v1 v2 : Addr) (k1 k2 : ClassId) (x0 x1 : Int32) (h0 : Heap) (vR : Option Value) (hR : Heap) (LR : List Loc) : Prop := vR = some (.int 1) ∧ Fr Z.heap.size LR ∧ hR = h0
theorem cle2 (l : Launch) (Z : State) (a0 : Array Value) (hw : ∀ d ∈ tables_1, d.before a0 Z = true) (v1 v2 : Addr) (k1 k2 : ClassId) (x0 x1 : Int32) (h0 : Heap) (O0 : Ext Z.heap h0) (V1 : Arv Z h0 v1 k1 .byte (2 : Int32) [(.int x0), (.int x1)] (.int 0)) (V2 : Arv Z h0 v2 k2 .byte (2 : Int32) [(.int x0), (.int x1)] (.int 0)) :
    Ctr l Z h0 (⟨xS7, "equals", "([B[B)Z"⟩ : MethodName) k42 3 (some .boolean) [] ({ frames := 0, cells := 0, slots := 0, locals := 0 } : Room) #[(.ref v1), (.ref v2)] (Q_cle2 Z v1 v2 k1 k2 x0 x1 h0) := by
  refine enter (plainFor_of_name pn4) ?_
  intro pp ee ss mm below meth cc s₁ hx hby hml hZ hown hnm hret hlk X0 e0 hs0
  replace hown : ss.vm.findClass xS7 = some mm.cls := hown
  refine Go.r (congrArg s₁.setTop (ef_cle2 mm v1 v2)) ?_
  have N0 := Fr.nil Z.heap.size
  show Go pp ee below _ (s₁.setTop (mkF mm 0 #[.val (.ref v1), .val (.ref v2), .unset] []))
  refine Go.g X0 hx (hb hby d42_0) rfl rfl (q := 1) rfl ?_
  refine Go.J X0 hx hZ e0 V1 (hb hby d42_1) ?_
  refine Go.g X0 hx (hb hby d42_2) rfl rfl (q := 3) rfl ?_
  refine Go.J X0 hx hZ e0 V2 (hb hby d42_3) ?_
  refine Go.t X0 hx (hb hby d42_4) (by decide) (q := 7) rfl ?_
  refine Go.i X0 hx (hb hby d42_7) (r := (0 : Int32)) rfl (q := 8) rfl ?_
  refine Go.P X0 hx (hb hby d42_8) (l' := #[.val (.ref v1), .val (.ref v2), .val (.int 0)]) rfl (q := 9) rfl ?_
  refine Go.f X0 hx (hb hby d42_9) rfl (q := 10) rfl ?_
  refine Go.g X0 hx (hb hby d42_10) rfl rfl (q := 11) rfl ?_
  refine Go.J X0 hx hZ e0 V1 (hb hby d42_11) ?_
  refine Go.t X0 hx (hb hby d42_12) (by decide) (q := 15) rfl ?_
  refine Go.g X0 hx (hb hby d42_15) rfl rfl (q := 16) rfl ?_
  refine Go.f X0 hx (hb hby d42_16) rfl (q := 17) rfl ?_
  refine Go.W X0 hx hZ e0 V1 ⟨by decide, by decide⟩ (v := (.int x0)) rfl (hb hby d42_17) ?_
  refine Go.g X0 hx (hb hby d42_18) rfl rfl (q := 19) rfl ?_
  refine Go.f X0 hx (hb hby d42_19) rfl (q := 20) rfl ?_
  refine Go.W X0 hx hZ e0 V2 ⟨by decide, by decide⟩ (v := (.int x0)) rfl (hb hby d42_20) ?_
  refine Go.y X0 hx (hb hby d42_21) (Jvm.Free.XT.ii_eq_t rfl) (q := 26) (by decide) (by decide) ?_
  refine Go.H X0 hx (hb hby d42_26) rfl (r := (1 : Int32)) rfl (l' := #[.val (.ref v1), .val (.ref v2), .val (.int 1)]) rfl (q := 29) rfl ?_
  refine Go.D X0 hx (hb hby d42_29) (q := 9) (by decide) (by decide) ?_
  refine Go.f X0 hx (hb hby d42_9) rfl (q := 10) rfl ?_
  refine Go.g X0 hx (hb hby d42_10) rfl rfl (q := 11) rfl ?_
  refine Go.J X0 hx hZ e0 V1 (hb hby d42_11) ?_
  refine Go.t X0 hx (hb hby d42_12) (by decide) (q := 15) rfl ?_
  refine Go.g X0 hx (hb hby d42_15) rfl rfl (q := 16) rfl ?_
  refine Go.f X0 hx (hb hby d42_16) rfl (q := 17) rfl ?_
  refine Go.W X0 hx hZ e0 V1 ⟨by decide, by decide⟩ (v := (.int x1)) rfl (hb hby d42_17) ?_
  refine Go.g X0 hx (hb hby d42_18) rfl rfl (q := 19) rfl ?_
  refine Go.f X0 hx (hb hby d42_19) rfl (q := 20) rfl ?_
  refine Go.W X0 hx hZ e0 V2 ⟨by decide, by decide⟩ (v := (.int x1)) rfl (hb hby d42_20) ?_
  refine Go.y X0 hx (hb hby d42_21) (Jvm.Free.XT.ii_eq_t rfl) (q := 26) (by decide) (by decide) ?_
  refine Go.H X0 hx (hb hby d42_26) rfl (r := (2 : Int32)) rfl (l' := #[.val (.ref v1), .val (.ref v2), .val (.int 2)]) rfl (q := 29) rfl ?_
  refine Go.D X0 hx (hb hby d42_29) (q := 9) (by decide) (by decide) ?_
  refine Go.f X0 hx (hb hby d42_9) rfl (q := 10) rfl ?_
  refine Go.g X0 hx (hb hby d42_10) rfl rfl (q := 11) rfl ?_
  refine Go.J X0 hx hZ e0 V1 (hb hby d42_11) ?_
  refine Go.y X0 hx (hb hby d42_12) (by decide) (q := 32) (by decide) (by decide) ?_
  refine Go.i X0 hx (hb hby d42_32) (r := (1 : Int32)) rfl (q := 33) rfl ?_
  exact Go.M X0 hx hret hlk (by simp) rfl (hb hby d42_33) e0 (by decide) (by decide) ⟨rfl, N0, rfl⟩
def Q_cse2 (Z : State) (t1 t2 : Addr) (cs : Int32) (v1 v2 : Addr) (k1 k2 : ClassId) (x0 x1 : Int32) (h0 : Heap) (vR : Option Value) (hR : Heap) (LR : List Loc) : Prop := vR = some (.int 1) ∧ Fr Z.heap.size LR ∧ hR = h0
theorem cse2 (l : Launch) (Z : State) (a0 : Array Value) (hw : ∀ d ∈ tables_1, d.before a0 Z = true) (t1 t2 : Addr) (cs : Int32) (v1 v2 : Addr) (k1 k2 : ClassId) (x0 x1 : Int32) (h0 : Heap) (O0 : Ext Z.heap h0) (E1 : Exa Z h0 t1 xS0) (E2 : Exa Z h0 t2 xS0) (C1 : Fld Z h0 t1 xS0 "coder" "B" (.int 0)) (C2 : Fld Z h0 t2 xS0 "coder" "B" (.int 0)) (F1 : Fld Z h0 t1 xS0 "value" "[B" (.ref v1)) (F2 : Fld Z h0 t2 xS0 "value" "[B" (.ref v2)) (V1 : Arv Z h0 v1 k1 .byte (2 : Int32) [(.int x0), (.int x1)] (.int 0)) (V2 : Arv Z h0 v2 k2 .byte (2 : Int32) [(.int x0), (.int x1)] (.int 0)) (n12 : t1 ≠ t2) (SCS : Sta Z Z.heap xS0 xS3 "Z" (.int cs)) (hcs : ¬ (cs = (0 : Int32))) :
    Ctr l Z h0 (⟨xS0, "equals", "(Ljava/lang/Object;)Z"⟩ : MethodName) k18 3 (some .boolean) [] ({ frames := 1, cells := 0, slots := 0, locals := 14 } : Room) #[(.ref t1), (.ref t2)] (Q_cse2 Z t1 t2 cs v1 v2 k1 k2 x0 x1 h0) := by
  refine enter (plainFor_of_name pn1) ?_
  intro pp ee ss mm below meth cc s₁ hx hby hml hZ hown hnm hret hlk X0 e0 hs0
  replace hown : ss.vm.findClass xS0 = some mm.cls := hown
  refine Go.r (congrArg s₁.setTop (ef_cse2 mm t1 t2)) ?_
  have N0 := Fr.nil Z.heap.size
  show Go pp ee below _ (s₁.setTop (mkF mm 0 #[.val (.ref t1), .val (.ref t2), .unset] []))
  refine Go.g X0 hx (hb hby d18_0) rfl rfl (q := 1) rfl ?_
  refine Go.g X0 hx (hb hby d18_1) rfl rfl (q := 2) rfl ?_
  refine Go.jp X0 hx rfl rfl (hb hby d18_2) (same := false) (decide_eq_false fun q => n12 (Value.ref.inj q)) (q := 7) (by decide) (by decide) ?_
  refine Go.g X0 hx (hb hby d18_7) rfl rfl (q := 8) rfl ?_
  refine Go.js X0 hx hZ hown (wd214 hw) e0 (Ins.self E2) (hb hby d18_8) (q := 11) rfl ?_
  intro T101 X101 e101
  refine Go.L X101 hx (hb hby d18_11) (by decide) (q := 14) rfl ?_
  refine Go.g X101 hx (hb hby d18_14) rfl rfl (q := 15) rfl ?_
  refine Go.jr X101 hx hZ hown (wd214 hw) e101 (Ins.self E2) (hb hby d18_15) (q := 18) rfl ?_
  intro T102 X102 e102
  refine Go.jf X102 hx (hb hby d18_18) rfl (l' := #[.val (.ref t1), .val (.ref t2), .val (.ref t2)]) rfl (q := 19) rfl ?_
  refine Go.jj X102 hx hZ hown (host := "") (Or.inl (wd33 hw)) Via.refl e102 (SCS.ext O0) (hb hby d18_19) (q := 22) rfl ?_
  intro T103 X103 e103
  refine Go.L X103 hx (hb hby d18_22) (Jvm.Free.XT.i0_eq_f hcs) (q := 25) rfl ?_
  refine Go.g X103 hx (hb hby d18_25) rfl rfl (q := 26) rfl ?_
  refine Go.B X103 hx hZ hown (host := "") (Or.inl (wd29 hw)) Via.refl e103 C1 (hb hby d18_26) (q := 29) rfl ?_
  intro T104 X104 e104
  refine Go.g X104 hx (hb hby d18_29) rfl rfl (q := 30) rfl ?_
  refine Go.B X104 hx hZ hown (host := "") (Or.inl (wd29 hw)) Via.refl e104 C2 (hb hby d18_30) (q := 33) rfl ?_
  intro T105 X105 e105
  refine Go.t X105 hx (hb hby d18_33) (by decide) (q := 36) rfl ?_
  refine Go.g X105 hx (hb hby d18_36) rfl rfl (q := 37) rfl ?_
  refine Go.B X105 hx hZ hown (host := "") (Or.inl (wd28 hw)) Via.refl e105 F1 (hb hby d18_37) (q := 40) rfl ?_
  intro T106 X106 e106
  refine Go.g X106 hx (hb hby d18_40) rfl rfl (q := 41) rfl ?_
  refine Go.B X106 hx hZ hown (host := "") (Or.inl (wd28 hw)) Via.refl e106 F2 (hb hby d18_41) (q := 44) rfl ?_
  intro T107 X107 e107
  refine Go.A X107 hx hZ hown (wd215 hw) (wd216 hw) (wd171 hw) (wd217 hw) (by decide) (cle2 l Z a0 hw v1 v2 (k1) (k2) x0 x1 h0 O0 V1 V2) e107 (by rw [hml]; rfl) (hb hby d18_44) (argsL := [(.ref v1), (.ref v2)]) (rest := []) (lenOf pd30 rfl) rfl rfl (W := 0) (Nat.le_refl _) (by decide) ?_
  intro v108 T108 L108 X108 hQ108
  obtain ⟨rfl, N108q, e108⟩ := hQ108
  have N108 := Fr.app N0 N108q
  refine Go.L X108 hx (hb hby d18_47) (by decide) (q := 50) rfl ?_
  refine Go.i X108 hx (hb hby d18_50) (r := (1 : Int32)) rfl (q := 51) rfl ?_
  refine Go.D X108 hx (hb hby d18_51) (q := 55) (by decide) (by decide) ?_
  exact Go.M X108 hx hret hlk (by simp) rfl (hb hby d18_55) e108 (by decide) (by decide) ⟨rfl, N108, rfl⟩
def Q_cle3 (Z : State) (v1 v2 : Addr) (k1 k2 : ClassId) (x0 x1 x2 : Int32) (h0 : Heap) (vR : Option Value) (hR : Heap) (LR : List Loc) : Prop := vR = some (.int 1) ∧ Fr Z.heap.size LR ∧ hR = h0
theorem cle3 (l : Launch) (Z : State) (a0 : Array Value) (hw : ∀ d ∈ tables_1, d.before a0 Z = true) (v1 v2 : Addr) (k1 k2 : ClassId) (x0 x1 x2 : Int32) (h0 : Heap) (O0 : Ext Z.heap h0) (V1 : Arv Z h0 v1 k1 .byte (3 : Int32) [(.int x0), (.int x1), (.int x2)] (.int 0)) (V2 : Arv Z h0 v2 k2 .byte (3 : Int32) [(.int x0), (.int x1), (.int x2)] (.int 0)) :
    Ctr l Z h0 (⟨xS7, "equals", "([B[B)Z"⟩ : MethodName) k42 3 (some .boolean) [] ({ frames := 0, cells := 0, slots := 0, locals := 0 } : Room) #[(.ref v1), (.ref v2)] (Q_cle3 Z v1 v2 k1 k2 x0 x1 x2 h0) := by
  refine enter (plainFor_of_name pn4) ?_
  intro pp ee ss mm below meth cc s₁ hx hby hml hZ hown hnm hret hlk X0 e0 hs0
  replace hown : ss.vm.findClass xS7 = some mm.cls := hown
  refine Go.r (congrArg s₁.setTop (ef_cle3 mm v1 v2)) ?_
  have N0 := Fr.nil Z.heap.size
  show Go pp ee below _ (s₁.setTop (mkF mm 0 #[.val (.ref v1), .val (.ref v2), .unset] []))
  refine Go.g X0 hx (hb hby d42_0) rfl rfl (q := 1) rfl ?_
  refine Go.J X0 hx hZ e0 V1 (hb hby d42_1) ?_
  refine Go.g X0 hx (hb hby d42_2) rfl rfl (q := 3) rfl ?_
  refine Go.J X0 hx hZ e0 V2 (hb hby d42_3) ?_
  refine Go.t X0 hx (hb hby d42_4) (by decide) (q := 7) rfl ?_
  refine Go.i X0 hx (hb hby d42_7) (r := (0 : Int32)) rfl (q := 8) rfl ?_
  refine Go.P X0 hx (hb hby d42_8) (l' := #[.val (.ref v1), .val (.ref v2), .val (.int 0)]) rfl (q := 9) rfl ?_
  refine Go.f X0 hx (hb hby d42_9) rfl (q := 10) rfl ?_
  refine Go.g X0 hx (hb hby d42_10) rfl rfl (q := 11) rfl ?_
  refine Go.J X0 hx hZ e0 V1 (hb hby d42_11) ?_
  refine Go.t X0 hx (hb hby d42_12) (by decide) (q := 15) rfl ?_
  refine Go.g X0 hx (hb hby d42_15) rfl rfl (q := 16) rfl ?_
  refine Go.f X0 hx (hb hby d42_16) rfl (q := 17) rfl ?_
  refine Go.W X0 hx hZ e0 V1 ⟨by decide, by decide⟩ (v := (.int x0)) rfl (hb hby d42_17) ?_
  refine Go.g X0 hx (hb hby d42_18) rfl rfl (q := 19) rfl ?_
  refine Go.f X0 hx (hb hby d42_19) rfl (q := 20) rfl ?_
  refine Go.W X0 hx hZ e0 V2 ⟨by decide, by decide⟩ (v := (.int x0)) rfl (hb hby d42_20) ?_
  refine Go.y X0 hx (hb hby d42_21) (Jvm.Free.XT.ii_eq_t rfl) (q := 26) (by decide) (by decide) ?_
  refine Go.H X0 hx (hb hby d42_26) rfl (r := (1 : Int32)) rfl (l' := #[.val (.ref v1), .val (.ref v2), .val (.int 1)]) rfl (q := 29) rfl ?_
  refine Go.D X0 hx (hb hby d42_29) (q := 9) (by decide) (by decide) ?_
  refine Go.f X0 hx (hb hby d42_9) rfl (q := 10) rfl ?_
  refine Go.g X0 hx (hb hby d42_10) rfl rfl (q := 11) rfl ?_
  refine Go.J X0 hx hZ e0 V1 (hb hby d42_11) ?_
  refine Go.t X0 hx (hb hby d42_12) (by decide) (q := 15) rfl ?_
  refine Go.g X0 hx (hb hby d42_15) rfl rfl (q := 16) rfl ?_
  refine Go.f X0 hx (hb hby d42_16) rfl (q := 17) rfl ?_
  refine Go.W X0 hx hZ e0 V1 ⟨by decide, by decide⟩ (v := (.int x1)) rfl (hb hby d42_17) ?_
  refine Go.g X0 hx (hb hby d42_18) rfl rfl (q := 19) rfl ?_
  refine Go.f X0 hx (hb hby d42_19) rfl (q := 20) rfl ?_
  refine Go.W X0 hx hZ e0 V2 ⟨by decide, by decide⟩ (v := (.int x1)) rfl (hb hby d42_20) ?_
  refine Go.y X0 hx (hb hby d42_21) (Jvm.Free.XT.ii_eq_t rfl) (q := 26) (by decide) (by decide) ?_
  refine Go.H X0 hx (hb hby d42_26) rfl (r := (2 : Int32)) rfl (l' := #[.val (.ref v1), .val (.ref v2), .val (.int 2)]) rfl (q := 29) rfl ?_
  refine Go.D X0 hx (hb hby d42_29) (q := 9) (by decide) (by decide) ?_
  refine Go.f X0 hx (hb hby d42_9) rfl (q := 10) rfl ?_
  refine Go.g X0 hx (hb hby d42_10) rfl rfl (q := 11) rfl ?_
  refine Go.J X0 hx hZ e0 V1 (hb hby d42_11) ?_
  refine Go.t X0 hx (hb hby d42_12) (by decide) (q := 15) rfl ?_
  refine Go.g X0 hx (hb hby d42_15) rfl rfl (q := 16) rfl ?_
  refine Go.f X0 hx (hb hby d42_16) rfl (q := 17) rfl ?_
  refine Go.W X0 hx hZ e0 V1 ⟨by decide, by decide⟩ (v := (.int x2)) rfl (hb hby d42_17) ?_
  refine Go.g X0 hx (hb hby d42_18) rfl rfl (q := 19) rfl ?_
  refine Go.f X0 hx (hb hby d42_19) rfl (q := 20) rfl ?_
  refine Go.W X0 hx hZ e0 V2 ⟨by decide, by decide⟩ (v := (.int x2)) rfl (hb hby d42_20) ?_
  refine Go.y X0 hx (hb hby d42_21) (Jvm.Free.XT.ii_eq_t rfl) (q := 26) (by decide) (by decide) ?_
  refine Go.H X0 hx (hb hby d42_26) rfl (r := (3 : Int32)) rfl (l' := #[.val (.ref v1), .val (.ref v2), .val (.int 3)]) rfl (q := 29) rfl ?_
  refine Go.D X0 hx (hb hby d42_29) (q := 9) (by decide) (by decide) ?_
  refine Go.f X0 hx (hb hby d42_9) rfl (q := 10) rfl ?_
  refine Go.g X0 hx (hb hby d42_10) rfl rfl (q := 11) rfl ?_
  refine Go.J X0 hx hZ e0 V1 (hb hby d42_11) ?_
  refine Go.y X0 hx (hb hby d42_12) (by decide) (q := 32) (by decide) (by decide) ?_
  refine Go.i X0 hx (hb hby d42_32) (r := (1 : Int32)) rfl (q := 33) rfl ?_
  exact Go.M X0 hx hret hlk (by simp) rfl (hb hby d42_33) e0 (by decide) (by decide) ⟨rfl, N0, rfl⟩
def Q_cse3 (Z : State) (t1 t2 : Addr) (cs : Int32) (v1 v2 : Addr) (k1 k2 : ClassId) (x0 x1 x2 : Int32) (h0 : Heap) (vR : Option Value) (hR : Heap) (LR : List Loc) : Prop := vR = some (.int 1) ∧ Fr Z.heap.size LR ∧ hR = h0
theorem cse3 (l : Launch) (Z : State) (a0 : Array Value) (hw : ∀ d ∈ tables_1, d.before a0 Z = true) (t1 t2 : Addr) (cs : Int32) (v1 v2 : Addr) (k1 k2 : ClassId) (x0 x1 x2 : Int32) (h0 : Heap) (O0 : Ext Z.heap h0) (E1 : Exa Z h0 t1 xS0) (E2 : Exa Z h0 t2 xS0) (C1 : Fld Z h0 t1 xS0 "coder" "B" (.int 0)) (C2 : Fld Z h0 t2 xS0 "coder" "B" (.int 0)) (F1 : Fld Z h0 t1 xS0 "value" "[B" (.ref v1)) (F2 : Fld Z h0 t2 xS0 "value" "[B" (.ref v2)) (V1 : Arv Z h0 v1 k1 .byte (3 : Int32) [(.int x0), (.int x1), (.int x2)] (.int 0)) (V2 : Arv Z h0 v2 k2 .byte (3 : Int32) [(.int x0), (.int x1), (.int x2)] (.int 0)) (n12 : t1 ≠ t2) (SCS : Sta Z Z.heap xS0 xS3 "Z" (.int cs)) (hcs : ¬ (cs = (0 : Int32))) :
    Ctr l Z h0 (⟨xS0, "equals", "(Ljava/lang/Object;)Z"⟩ : MethodName) k18 3 (some .boolean) [] ({ frames := 1, cells := 0, slots := 0, locals := 14 } : Room) #[(.ref t1), (.ref t2)] (Q_cse3 Z t1 t2 cs v1 v2 k1 k2 x0 x1 x2 h0) := by
  refine enter (plainFor_of_name pn1) ?_
  intro pp ee ss mm below meth cc s₁ hx hby hml hZ hown hnm hret hlk X0 e0 hs0
  replace hown : ss.vm.findClass xS0 = some mm.cls := hown
  refine Go.r (congrArg s₁.setTop (ef_cse3 mm t1 t2)) ?_
  have N0 := Fr.nil Z.heap.size
  show Go pp ee below _ (s₁.setTop (mkF mm 0 #[.val (.ref t1), .val (.ref t2), .unset] []))
  refine Go.g X0 hx (hb hby d18_0) rfl rfl (q := 1) rfl ?_
  refine Go.g X0 hx (hb hby d18_1) rfl rfl (q := 2) rfl ?_
  refine Go.jp X0 hx rfl rfl (hb hby d18_2) (same := false) (decide_eq_false fun q => n12 (Value.ref.inj q)) (q := 7) (by decide) (by decide) ?_
  refine Go.g X0 hx (hb hby d18_7) rfl rfl (q := 8) rfl ?_
  refine Go.js X0 hx hZ hown (wd214 hw) e0 (Ins.self E2) (hb hby d18_8) (q := 11) rfl ?_
  intro T101 X101 e101
  refine Go.L X101 hx (hb hby d18_11) (by decide) (q := 14) rfl ?_
  refine Go.g X101 hx (hb hby d18_14) rfl rfl (q := 15) rfl ?_
  refine Go.jr X101 hx hZ hown (wd214 hw) e101 (Ins.self E2) (hb hby d18_15) (q := 18) rfl ?_
  intro T102 X102 e102
  refine Go.jf X102 hx (hb hby d18_18) rfl (l' := #[.val (.ref t1), .val (.ref t2), .val (.ref t2)]) rfl (q := 19) rfl ?_
  refine Go.jj X102 hx hZ hown (host := "") (Or.inl (wd33 hw)) Via.refl e102 (SCS.ext O0) (hb hby d18_19) (q := 22) rfl ?_
  intro T103 X103 e103
  refine Go.L X103 hx (hb hby d18_22) (Jvm.Free.XT.i0_eq_f hcs) (q := 25) rfl ?_
  refine Go.g X103 hx (hb hby d18_25) rfl rfl (q := 26) rfl ?_
  refine Go.B X103 hx hZ hown (host := "") (Or.inl (wd29 hw)) Via.refl e103 C1 (hb hby d18_26) (q := 29) rfl ?_
  intro T104 X104 e104
  refine Go.g X104 hx (hb hby d18_29) rfl rfl (q := 30) rfl ?_
  refine Go.B X104 hx hZ hown (host := "") (Or.inl (wd29 hw)) Via.refl e104 C2 (hb hby d18_30) (q := 33) rfl ?_
  intro T105 X105 e105
  refine Go.t X105 hx (hb hby d18_33) (by decide) (q := 36) rfl ?_
  refine Go.g X105 hx (hb hby d18_36) rfl rfl (q := 37) rfl ?_
  refine Go.B X105 hx hZ hown (host := "") (Or.inl (wd28 hw)) Via.refl e105 F1 (hb hby d18_37) (q := 40) rfl ?_
  intro T106 X106 e106
  refine Go.g X106 hx (hb hby d18_40) rfl rfl (q := 41) rfl ?_
  refine Go.B X106 hx hZ hown (host := "") (Or.inl (wd28 hw)) Via.refl e106 F2 (hb hby d18_41) (q := 44) rfl ?_
  intro T107 X107 e107
  refine Go.A X107 hx hZ hown (wd215 hw) (wd216 hw) (wd171 hw) (wd217 hw) (by decide) (cle3 l Z a0 hw v1 v2 (k1) (k2) x0 x1 x2 h0 O0 V1 V2) e107 (by rw [hml]; rfl) (hb hby d18_44) (argsL := [(.ref v1), (.ref v2)]) (rest := []) (lenOf pd30 rfl) rfl rfl (W := 0) (Nat.le_refl _) (by decide) ?_
  intro v108 T108 L108 X108 hQ108
  obtain ⟨rfl, N108q, e108⟩ := hQ108
  have N108 := Fr.app N0 N108q
  refine Go.L X108 hx (hb hby d18_47) (by decide) (q := 50) rfl ?_
  refine Go.i X108 hx (hb hby d18_50) (r := (1 : Int32)) rfl (q := 51) rfl ?_
  refine Go.D X108 hx (hb hby d18_51) (q := 55) (by decide) (by decide) ?_
  exact Go.M X108 hx hret hlk (by simp) rfl (hb hby d18_55) e108 (by decide) (by decide) ⟨rfl, N108, rfl⟩
def Q_cle4 (Z : State) (v1 v2 : Addr) (k1 k2 : ClassId) (x0 x1 x2 x3 : Int32) (h0 : Heap) (vR : Option Value) (hR : Heap) (LR : List Loc) : Prop := vR = some (.int 1) ∧ Fr Z.heap.size LR ∧ hR = h0
theorem cle4 (l : Launch) (Z : State) (a0 : Array Value) (hw : ∀ d ∈ tables_1, d.before a0 Z = true) (v1 v2 : Addr) (k1 k2 : ClassId) (x0 x1 x2 x3 : Int32) (h0 : Heap) (O0 : Ext Z.heap h0) (V1 : Arv Z h0 v1 k1 .byte (4 : Int32) [(.int x0), (.int x1), (.int x2), (.int x3)] (.int 0)) (V2 : Arv Z h0 v2 k2 .byte (4 : Int32) [(.int x0), (.int x1), (.int x2), (.int x3)] (.int 0)) :
    Ctr l Z h0 (⟨xS7, "equals", "([B[B)Z"⟩ : MethodName) k42 3 (some .boolean) [] ({ frames := 0, cells := 0, slots := 0, locals := 0 } : Room) #[(.ref v1), (.ref v2)] (Q_cle4 Z v1 v2 k1 k2 x0 x1 x2 x3 h0) := by
  refine enter (plainFor_of_name pn4) ?_
  intro pp ee ss mm below meth cc s₁ hx hby hml hZ hown hnm hret hlk X0 e0 hs0
  replace hown : ss.vm.findClass xS7 = some mm.cls := hown
  refine Go.r (congrArg s₁.setTop (ef_cle4 mm v1 v2)) ?_
  have N0 := Fr.nil Z.heap.size
  show Go pp ee below _ (s₁.setTop (mkF mm 0 #[.val (.ref v1), .val (.ref v2), .unset] []))
  refine Go.g X0 hx (hb hby d42_0) rfl rfl (q := 1) rfl ?_
  refine Go.J X0 hx hZ e0 V1 (hb hby d42_1) ?_
  refine Go.g X0 hx (hb hby d42_2) rfl rfl (q := 3) rfl ?_
  refine Go.J X0 hx hZ e0 V2 (hb hby d42_3) ?_
  refine Go.t X0 hx (hb hby d42_4) (by decide) (q := 7) rfl ?_
  refine Go.i X0 hx (hb hby d42_7) (r := (0 : Int32)) rfl (q := 8) rfl ?_
  refine Go.P X0 hx (hb hby d42_8) (l' := #[.val (.ref v1), .val (.ref v2), .val (.int 0)]) rfl (q := 9) rfl ?_
  refine Go.f X0 hx (hb hby d42_9) rfl (q := 10) rfl ?_
  refine Go.g X0 hx (hb hby d42_10) rfl rfl (q := 11) rfl ?_
  refine Go.J X0 hx hZ e0 V1 (hb hby d42_11) ?_
  refine Go.t X0 hx (hb hby d42_12) (by decide) (q := 15) rfl ?_
  refine Go.g X0 hx (hb hby d42_15) rfl rfl (q := 16) rfl ?_
  refine Go.f X0 hx (hb hby d42_16) rfl (q := 17) rfl ?_
  refine Go.W X0 hx hZ e0 V1 ⟨by decide, by decide⟩ (v := (.int x0)) rfl (hb hby d42_17) ?_
  refine Go.g X0 hx (hb hby d42_18) rfl rfl (q := 19) rfl ?_
  refine Go.f X0 hx (hb hby d42_19) rfl (q := 20) rfl ?_
  refine Go.W X0 hx hZ e0 V2 ⟨by decide, by decide⟩ (v := (.int x0)) rfl (hb hby d42_20) ?_
  refine Go.y X0 hx (hb hby d42_21) (Jvm.Free.XT.ii_eq_t rfl) (q := 26) (by decide) (by decide) ?_
  refine Go.H X0 hx (hb hby d42_26) rfl (r := (1 : Int32)) rfl (l' := #[.val (.ref v1), .val (.ref v2), .val (.int 1)]) rfl (q := 29) rfl ?_
  refine Go.D X0 hx (hb hby d42_29) (q := 9) (by decide) (by decide) ?_
  refine Go.f X0 hx (hb hby d42_9) rfl (q := 10) rfl ?_
  refine Go.g X0 hx (hb hby d42_10) rfl rfl (q := 11) rfl ?_
  refine Go.J X0 hx hZ e0 V1 (hb hby d42_11) ?_
  refine Go.t X0 hx (hb hby d42_12) (by decide) (q := 15) rfl ?_
  refine Go.g X0 hx (hb hby d42_15) rfl rfl (q := 16) rfl ?_
  refine Go.f X0 hx (hb hby d42_16) rfl (q := 17) rfl ?_
  refine Go.W X0 hx hZ e0 V1 ⟨by decide, by decide⟩ (v := (.int x1)) rfl (hb hby d42_17) ?_
  refine Go.g X0 hx (hb hby d42_18) rfl rfl (q := 19) rfl ?_
  refine Go.f X0 hx (hb hby d42_19) rfl (q := 20) rfl ?_
  refine Go.W X0 hx hZ e0 V2 ⟨by decide, by decide⟩ (v := (.int x1)) rfl (hb hby d42_20) ?_
  refine Go.y X0 hx (hb hby d42_21) (Jvm.Free.XT.ii_eq_t rfl) (q := 26) (by decide) (by decide) ?_
  refine Go.H X0 hx (hb hby d42_26) rfl (r := (2 : Int32)) rfl (l' := #[.val (.ref v1), .val (.ref v2), .val (.int 2)]) rfl (q := 29) rfl ?_
  refine Go.D X0 hx (hb hby d42_29) (q := 9) (by decide) (by decide) ?_
  refine Go.f X0 hx (hb hby d42_9) rfl (q := 10) rfl ?_
  refine Go.g X0 hx (hb hby d42_10) rfl rfl (q := 11) rfl ?_
  refine Go.J X0 hx hZ e0 V1 (hb hby d42_11) ?_
  refine Go.t X0 hx (hb hby d42_12) (by decide) (q := 15) rfl ?_
  refine Go.g X0 hx (hb hby d42_15) rfl rfl (q := 16) rfl ?_
  refine Go.f X0 hx (hb hby d42_16) rfl (q := 17) rfl ?_
  refine Go.W X0 hx hZ e0 V1 ⟨by decide, by decide⟩ (v := (.int x2)) rfl (hb hby d42_17) ?_
  refine Go.g X0 hx (hb hby d42_18) rfl rfl (q := 19) rfl ?_
  refine Go.f X0 hx (hb hby d42_19) rfl (q := 20) rfl ?_
  refine Go.W X0 hx hZ e0 V2 ⟨by decide, by decide⟩ (v := (.int x2)) rfl (hb hby d42_20) ?_
  refine Go.y X0 hx (hb hby d42_21) (Jvm.Free.XT.ii_eq_t rfl) (q := 26) (by decide) (by decide) ?_
  refine Go.H X0 hx (hb hby d42_26) rfl (r := (3 : Int32)) rfl (l' := #[.val (.ref v1), .val (.ref v2), .val (.int 3)]) rfl (q := 29) rfl ?_
  refine Go.D X0 hx (hb hby d42_29) (q := 9) (by decide) (by decide) ?_
  refine Go.f X0 hx (hb hby d42_9) rfl (q := 10) rfl ?_
  refine Go.g X0 hx (hb hby d42_10) rfl rfl (q := 11) rfl ?_
  refine Go.J X0 hx hZ e0 V1 (hb hby d42_11) ?_
  refine Go.t X0 hx (hb hby d42_12) (by decide) (q := 15) rfl ?_
  refine Go.g X0 hx (hb hby d42_15) rfl rfl (q := 16) rfl ?_
  refine Go.f X0 hx (hb hby d42_16) rfl (q := 17) rfl ?_
  refine Go.W X0 hx hZ e0 V1 ⟨by decide, by decide⟩ (v := (.int x3)) rfl (hb hby d42_17) ?_
  refine Go.g X0 hx (hb hby d42_18) rfl rfl (q := 19) rfl ?_
  refine Go.f X0 hx (hb hby d42_19) rfl (q := 20) rfl ?_
  refine Go.W X0 hx hZ e0 V2 ⟨by decide, by decide⟩ (v := (.int x3)) rfl (hb hby d42_20) ?_
  refine Go.y X0 hx (hb hby d42_21) (Jvm.Free.XT.ii_eq_t rfl) (q := 26) (by decide) (by decide) ?_
  refine Go.H X0 hx (hb hby d42_26) rfl (r := (4 : Int32)) rfl (l' := #[.val (.ref v1), .val (.ref v2), .val (.int 4)]) rfl (q := 29) rfl ?_
  refine Go.D X0 hx (hb hby d42_29) (q := 9) (by decide) (by decide) ?_
  refine Go.f X0 hx (hb hby d42_9) rfl (q := 10) rfl ?_
  refine Go.g X0 hx (hb hby d42_10) rfl rfl (q := 11) rfl ?_
  refine Go.J X0 hx hZ e0 V1 (hb hby d42_11) ?_
  refine Go.y X0 hx (hb hby d42_12) (by decide) (q := 32) (by decide) (by decide) ?_
  refine Go.i X0 hx (hb hby d42_32) (r := (1 : Int32)) rfl (q := 33) rfl ?_
  exact Go.M X0 hx hret hlk (by simp) rfl (hb hby d42_33) e0 (by decide) (by decide) ⟨rfl, N0, rfl⟩
def Q_cse4 (Z : State) (t1 t2 : Addr) (cs : Int32) (v1 v2 : Addr) (k1 k2 : ClassId) (x0 x1 x2 x3 : Int32) (h0 : Heap) (vR : Option Value) (hR : Heap) (LR : List Loc) : Prop := vR = some (.int 1) ∧ Fr Z.heap.size LR ∧ hR = h0
theorem cse4 (l : Launch) (Z : State) (a0 : Array Value) (hw : ∀ d ∈ tables_1, d.before a0 Z = true) (t1 t2 : Addr) (cs : Int32) (v1 v2 : Addr) (k1 k2 : ClassId) (x0 x1 x2 x3 : Int32) (h0 : Heap) (O0 : Ext Z.heap h0) (E1 : Exa Z h0 t1 xS0) (E2 : Exa Z h0 t2 xS0) (C1 : Fld Z h0 t1 xS0 "coder" "B" (.int 0)) (C2 : Fld Z h0 t2 xS0 "coder" "B" (.int 0)) (F1 : Fld Z h0 t1 xS0 "value" "[B" (.ref v1)) (F2 : Fld Z h0 t2 xS0 "value" "[B" (.ref v2)) (V1 : Arv Z h0 v1 k1 .byte (4 : Int32) [(.int x0), (.int x1), (.int x2), (.int x3)] (.int 0)) (V2 : Arv Z h0 v2 k2 .byte (4 : Int32) [(.int x0), (.int x1), (.int x2), (.int x3)] (.int 0)) (n12 : t1 ≠ t2) (SCS : Sta Z Z.heap xS0 xS3 "Z" (.int cs)) (hcs : ¬ (cs = (0 : Int32))) :
    Ctr l Z h0 (⟨xS0, "equals", "(Ljava/lang/Object;)Z"⟩ : MethodName) k18 3 (some .boolean) [] ({ frames := 1, cells := 0, slots := 0, locals := 14 } : Room) #[(.ref t1), (.ref t2)] (Q_cse4 Z t1 t2 cs v1 v2 k1 k2 x0 x1 x2 x3 h0) := by
  refine enter (plainFor_of_name pn1) ?_
  intro pp ee ss mm below meth cc s₁ hx hby hml hZ hown hnm hret hlk X0 e0 hs0
  replace hown : ss.vm.findClass xS0 = some mm.cls := hown
  refine Go.r (congrArg s₁.setTop (ef_cse4 mm t1 t2)) ?_
  have N0 := Fr.nil Z.heap.size
  show Go pp ee below _ (s₁.setTop (mkF mm 0 #[.val (.ref t1), .val (.ref t2), .unset] []))
  refine Go.g X0 hx (hb hby d18_0) rfl rfl (q := 1) rfl ?_
  refine Go.g X0 hx (hb hby d18_1) rfl rfl (q := 2) rfl ?_
  refine Go.jp X0 hx rfl rfl (hb hby d18_2) (same := false) (decide_eq_false fun q => n12 (Value.ref.inj q)) (q := 7) (by decide) (by decide) ?_
  refine Go.g X0 hx (hb hby d18_7) rfl rfl (q := 8) rfl ?_
  refine Go.js X0 hx hZ hown (wd214 hw) e0 (Ins.self E2) (hb hby d18_8) (q := 11) rfl ?_
  intro T101 X101 e101
  refine Go.L X101 hx (hb hby d18_11) (by decide) (q := 14) rfl ?_
  refine Go.g X101 hx (hb hby d18_14) rfl rfl (q := 15) rfl ?_
  refine Go.jr X101 hx hZ hown (wd214 hw) e101 (Ins.self E2) (hb hby d18_15) (q := 18) rfl ?_
  intro T102 X102 e102
  refine Go.jf X102 hx (hb hby d18_18) rfl (l' := #[.val (.ref t1), .val (.ref t2), .val (.ref t2)]) rfl (q := 19) rfl ?_
  refine Go.jj X102 hx hZ hown (host := "") (Or.inl (wd33 hw)) Via.refl e102 (SCS.ext O0) (hb hby d18_19) (q := 22) rfl ?_
  intro T103 X103 e103
  refine Go.L X103 hx (hb hby d18_22) (Jvm.Free.XT.i0_eq_f hcs) (q := 25) rfl ?_
  refine Go.g X103 hx (hb hby d18_25) rfl rfl (q := 26) rfl ?_
  refine Go.B X103 hx hZ hown (host := "") (Or.inl (wd29 hw)) Via.refl e103 C1 (hb hby d18_26) (q := 29) rfl ?_
  intro T104 X104 e104
  refine Go.g X104 hx (hb hby d18_29) rfl rfl (q := 30) rfl ?_
  refine Go.B X104 hx hZ hown (host := "") (Or.inl (wd29 hw)) Via.refl e104 C2 (hb hby d18_30) (q := 33) rfl ?_
  intro T105 X105 e105
  refine Go.t X105 hx (hb hby d18_33) (by decide) (q := 36) rfl ?_
  refine Go.g X105 hx (hb hby d18_36) rfl rfl (q := 37) rfl ?_
  refine Go.B X105 hx hZ hown (host := "") (Or.inl (wd28 hw)) Via.refl e105 F1 (hb hby d18_37) (q := 40) rfl ?_
  intro T106 X106 e106
  refine Go.g X106 hx (hb hby d18_40) rfl rfl (q := 41) rfl ?_
  refine Go.B X106 hx hZ hown (host := "") (Or.inl (wd28 hw)) Via.refl e106 F2 (hb hby d18_41) (q := 44) rfl ?_
  intro T107 X107 e107
  refine Go.A X107 hx hZ hown (wd215 hw) (wd216 hw) (wd171 hw) (wd217 hw) (by decide) (cle4 l Z a0 hw v1 v2 (k1) (k2) x0 x1 x2 x3 h0 O0 V1 V2) e107 (by rw [hml]; rfl) (hb hby d18_44) (argsL := [(.ref v1), (.ref v2)]) (rest := []) (lenOf pd30 rfl) rfl rfl (W := 0) (Nat.le_refl _) (by decide) ?_
  intro v108 T108 L108 X108 hQ108
  obtain ⟨rfl, N108q, e108⟩ := hQ108
  have N108 := Fr.app N0 N108q
  refine Go.L X108 hx (hb hby d18_47) (by decide) (q := 50) rfl ?_
  refine Go.i X108 hx (hb hby d18_50) (r := (1 : Int32)) rfl (q := 51) rfl ?_
  refine Go.D X108 hx (hb hby d18_51) (q := 55) (by decide) (by decide) ?_
  exact Go.M X108 hx hret hlk (by simp) rfl (hb hby d18_55) e108 (by decide) (by decide) ⟨rfl, N108, rfl⟩
def Q_cle5 (Z : State) (v1 v2 : Addr) (k1 k2 : ClassId) (x0 x1 x2 x3 x4 : Int32) (h0 : Heap) (vR : Option Value) (hR : Heap) (LR : List Loc) : Prop := vR = some (.int 1) ∧ Fr Z.heap.size LR ∧ hR = h0
theorem cle5 (l : Launch) (Z : State) (a0 : Array Value) (hw : ∀ d ∈ tables_1, d.before a0 Z = true) (v1 v2 : Addr) (k1 k2 : ClassId) (x0 x1 x2 x3 x4 : Int32) (h0 : Heap) (O0 : Ext Z.heap h0) (V1 : Arv Z h0 v1 k1 .byte (5 : Int32) [(.int x0), (.int x1), (.int x2), (.int x3), (.int x4)] (.int 0)) (V2 : Arv Z h0 v2 k2 .byte (5 : Int32) [(.int x0), (.int x1), (.int x2), (.int x3), (.int x4)] (.int 0)) :
    Ctr l Z h0 (⟨xS7, "equals", "([B[B)Z"⟩ : MethodName) k42 3 (some .boolean) [] ({ frames := 0, cells := 0, slots := 0, locals := 0 } : Room) #[(.ref v1), (.ref v2)] (Q_cle5 Z v1 v2 k1 k2 x0 x1 x2 x3 x4 h0) := by
  refine enter (plainFor_of_name pn4) ?_
  intro pp ee ss mm below meth cc s₁ hx hby hml hZ hown hnm hret hlk X0 e0 hs0
  replace hown : ss.vm.findClass xS7 = some mm.cls := hown
  refine Go.r (congrArg s₁.setTop (ef_cle5 mm v1 v2)) ?_
  have N0 := Fr.nil Z.heap.size
  show Go pp ee below _ (s₁.setTop (mkF mm 0 #[.val (.ref v1), .val (.ref v2), .unset] []))
  refine Go.g X0 hx (hb hby d42_0) rfl rfl (q := 1) rfl ?_
  refine Go.J X0 hx hZ e0 V1 (hb hby d42_1) ?_
  refine Go.g X0 hx (hb hby d42_2) rfl rfl (q := 3) rfl ?_
  refine Go.J X0 hx hZ e0 V2 (hb hby d42_3) ?_
  refine Go.t X0 hx (hb hby d42_4) (by decide) (q := 7) rfl ?_
  refine Go.i X0 hx (hb hby d42_7) (r := (0 : Int32)) rfl (q := 8) rfl ?_
  refine Go.P X0 hx (hb hby d42_8) (l' := #[.val (.ref v1), .val (.ref v2), .val (.int 0)]) rfl (q := 9) rfl ?_
  refine Go.f X0 hx (hb hby d42_9) rfl (q := 10) rfl ?_
  refine Go.g X0 hx (hb hby d42_10) rfl rfl (q := 11) rfl ?_
  refine Go.J X0 hx hZ e0 V1 (hb hby d42_11) ?_
  refine Go.t X0 hx (hb hby d42_12) (by decide) (q := 15) rfl ?_
  refine Go.g X0 hx (hb hby d42_15) rfl rfl (q := 16) rfl ?_
  refine Go.f X0 hx (hb hby d42_16) rfl (q := 17) rfl ?_
  refine Go.W X0 hx hZ e0 V1 ⟨by decide, by decide⟩ (v := (.int x0)) rfl (hb hby d42_17) ?_
  refine Go.g X0 hx (hb hby d42_18) rfl rfl (q := 19) rfl ?_
  refine Go.f X0 hx (hb hby d42_19) rfl (q := 20) rfl ?_
  refine Go.W X0 hx hZ e0 V2 ⟨by decide, by decide⟩ (v := (.int x0)) rfl (hb hby d42_20) ?_
  refine Go.y X0 hx (hb hby d42_21) (Jvm.Free.XT.ii_eq_t rfl) (q := 26) (by decide) (by decide) ?_
  refine Go.H X0 hx (hb hby d42_26) rfl (r := (1 : Int32)) rfl (l' := #[.val (.ref v1), .val (.ref v2), .val (.int 1)]) rfl (q := 29) rfl ?_
  refine Go.D X0 hx (hb hby d42_29) (q := 9) (by decide) (by decide) ?_
  refine Go.f X0 hx (hb hby d42_9) rfl (q := 10) rfl ?_
  refine Go.g X0 hx (hb hby d42_10) rfl rfl (q := 11) rfl ?_
  refine Go.J X0 hx hZ e0 V1 (hb hby d42_11) ?_
  refine Go.t X0 hx (hb hby d42_12) (by decide) (q := 15) rfl ?_
  refine Go.g X0 hx (hb hby d42_15) rfl rfl (q := 16) rfl ?_
  refine Go.f X0 hx (hb hby d42_16) rfl (q := 17) rfl ?_
  refine Go.W X0 hx hZ e0 V1 ⟨by decide, by decide⟩ (v := (.int x1)) rfl (hb hby d42_17) ?_
  refine Go.g X0 hx (hb hby d42_18) rfl rfl (q := 19) rfl ?_
  refine Go.f X0 hx (hb hby d42_19) rfl (q := 20) rfl ?_
  refine Go.W X0 hx hZ e0 V2 ⟨by decide, by decide⟩ (v := (.int x1)) rfl (hb hby d42_20) ?_
  refine Go.y X0 hx (hb hby d42_21) (Jvm.Free.XT.ii_eq_t rfl) (q := 26) (by decide) (by decide) ?_
  refine Go.H X0 hx (hb hby d42_26) rfl (r := (2 : Int32)) rfl (l' := #[.val (.ref v1), .val (.ref v2), .val (.int 2)]) rfl (q := 29) rfl ?_
  refine Go.D X0 hx (hb hby d42_29) (q := 9) (by decide) (by decide) ?_
  refine Go.f X0 hx (hb hby d42_9) rfl (q := 10) rfl ?_
  refine Go.g X0 hx (hb hby d42_10) rfl rfl (q := 11) rfl ?_
  refine Go.J X0 hx hZ e0 V1 (hb hby d42_11) ?_
  refine Go.t X0 hx (hb hby d42_12) (by decide) (q := 15) rfl ?_
  refine Go.g X0 hx (hb hby d42_15) rfl rfl (q := 16) rfl ?_
  refine Go.f X0 hx (hb hby d42_16) rfl (q := 17) rfl ?_
  refine Go.W X0 hx hZ e0 V1 ⟨by decide, by decide⟩ (v := (.int x2)) rfl (hb hby d42_17) ?_
  refine Go.g X0 hx (hb hby d42_18) rfl rfl (q := 19) rfl ?_
  refine Go.f X0 hx (hb hby d42_19) rfl (q := 20) rfl ?_
  refine Go.W X0 hx hZ e0 V2 ⟨by decide, by decide⟩ (v := (.int x2)) rfl (hb hby d42_20) ?_
  refine Go.y X0 hx (hb hby d42_21) (Jvm.Free.XT.ii_eq_t rfl) (q := 26) (by decide) (by decide) ?_
  refine Go.H X0 hx (hb hby d42_26) rfl (r := (3 : Int32)) rfl (l' := #[.val (.ref v1), .val (.ref v2), .val (.int 3)]) rfl (q := 29) rfl ?_
  refine Go.D X0 hx (hb hby d42_29) (q := 9) (by decide) (by decide) ?_
  refine Go.f X0 hx (hb hby d42_9) rfl (q := 10) rfl ?_
  refine Go.g X0 hx (hb hby d42_10) rfl rfl (q := 11) rfl ?_
  refine Go.J X0 hx hZ e0 V1 (hb hby d42_11) ?_
  refine Go.t X0 hx (hb hby d42_12) (by decide) (q := 15) rfl ?_
  refine Go.g X0 hx (hb hby d42_15) rfl rfl (q := 16) rfl ?_
  refine Go.f X0 hx (hb hby d42_16) rfl (q := 17) rfl ?_
  refine Go.W X0 hx hZ e0 V1 ⟨by decide, by decide⟩ (v := (.int x3)) rfl (hb hby d42_17) ?_
  refine Go.g X0 hx (hb hby d42_18) rfl rfl (q := 19) rfl ?_
  refine Go.f X0 hx (hb hby d42_19) rfl (q := 20) rfl ?_
  refine Go.W X0 hx hZ e0 V2 ⟨by decide, by decide⟩ (v := (.int x3)) rfl (hb hby d42_20) ?_
  refine Go.y X0 hx (hb hby d42_21) (Jvm.Free.XT.ii_eq_t rfl) (q := 26) (by decide) (by decide) ?_
  refine Go.H X0 hx (hb hby d42_26) rfl (r := (4 : Int32)) rfl (l' := #[.val (.ref v1), .val (.ref v2), .val (.int 4)]) rfl (q := 29) rfl ?_
  refine Go.D X0 hx (hb hby d42_29) (q := 9) (by decide) (by decide) ?_
  refine Go.f X0 hx (hb hby d42_9) rfl (q := 10) rfl ?_
  refine Go.g X0 hx (hb hby d42_10) rfl rfl (q := 11) rfl ?_
  refine Go.J X0 hx hZ e0 V1 (hb hby d42_11) ?_
  refine Go.t X0 hx (hb hby d42_12) (by decide) (q := 15) rfl ?_
  refine Go.g X0 hx (hb hby d42_15) rfl rfl (q := 16) rfl ?_
  refine Go.f X0 hx (hb hby d42_16) rfl (q := 17) rfl ?_
  refine Go.W X0 hx hZ e0 V1 ⟨by decide, by decide⟩ (v := (.int x4)) rfl (hb hby d42_17) ?_
  refine Go.g X0 hx (hb hby d42_18) rfl rfl (q := 19) rfl ?_
  refine Go.f X0 hx (hb hby d42_19) rfl (q := 20) rfl ?_
  refine Go.W X0 hx hZ e0 V2 ⟨by decide, by decide⟩ (v := (.int x4)) rfl (hb hby d42_20) ?_
  refine Go.y X0 hx (hb hby d42_21) (Jvm.Free.XT.ii_eq_t rfl) (q := 26) (by decide) (by decide) ?_
  refine Go.H X0 hx (hb hby d42_26) rfl (r := (5 : Int32)) rfl (l' := #[.val (.ref v1), .val (.ref v2), .val (.int 5)]) rfl (q := 29) rfl ?_
  refine Go.D X0 hx (hb hby d42_29) (q := 9) (by decide) (by decide) ?_
  refine Go.f X0 hx (hb hby d42_9) rfl (q := 10) rfl ?_
  refine Go.g X0 hx (hb hby d42_10) rfl rfl (q := 11) rfl ?_
  refine Go.J X0 hx hZ e0 V1 (hb hby d42_11) ?_
  refine Go.y X0 hx (hb hby d42_12) (by decide) (q := 32) (by decide) (by decide) ?_
  refine Go.i X0 hx (hb hby d42_32) (r := (1 : Int32)) rfl (q := 33) rfl ?_
  exact Go.M X0 hx hret hlk (by simp) rfl (hb hby d42_33) e0 (by decide) (by decide) ⟨rfl, N0, rfl⟩
def Q_cse5 (Z : State) (t1 t2 : Addr) (cs : Int32) (v1 v2 : Addr) (k1 k2 : ClassId) (x0 x1 x2 x3 x4 : Int32) (h0 : Heap) (vR : Option Value) (hR : Heap) (LR : List Loc) : Prop := vR = some (.int 1) ∧ Fr Z.heap.size LR ∧ hR = h0
theorem cse5 (l : Launch) (Z : State) (a0 : Array Value) (hw : ∀ d ∈ tables_1, d.before a0 Z = true) (t1 t2 : Addr) (cs : Int32) (v1 v2 : Addr) (k1 k2 : ClassId) (x0 x1 x2 x3 x4 : Int32) (h0 : Heap) (O0 : Ext Z.heap h0) (E1 : Exa Z h0 t1 xS0) (E2 : Exa Z h0 t2 xS0) (C1 : Fld Z h0 t1 xS0 "coder" "B" (.int 0)) (C2 : Fld Z h0 t2 xS0 "coder" "B" (.int 0)) (F1 : Fld Z h0 t1 xS0 "value" "[B" (.ref v1)) (F2 : Fld Z h0 t2 xS0 "value" "[B" (.ref v2)) (V1 : Arv Z h0 v1 k1 .byte (5 : Int32) [(.int x0), (.int x1), (.int x2), (.int x3), (.int x4)] (.int 0)) (V2 : Arv Z h0 v2 k2 .byte (5 : Int32) [(.int x0), (.int x1), (.int x2), (.int x3), (.int x4)] (.int 0)) (n12 : t1 ≠ t2) (SCS : Sta Z Z.heap xS0 xS3 "Z" (.int cs)) (hcs : ¬ (cs = (0 : Int32))) :
    Ctr l Z h0 (⟨xS0, "equals", "(Ljava/lang/Object;)Z"⟩ : MethodName) k18 3 (some .boolean) [] ({ frames := 1, cells := 0, slots := 0, locals := 14 } : Room) #[(.ref t1), (.ref t2)] (Q_cse5 Z t1 t2 cs v1 v2 k1 k2 x0 x1 x2 x3 x4 h0) := by
  refine enter (plainFor_of_name pn1) ?_
  intro pp ee ss mm below meth cc s₁ hx hby hml hZ hown hnm hret hlk X0 e0 hs0
  replace hown : ss.vm.findClass xS0 = some mm.cls := hown
  refine Go.r (congrArg s₁.setTop (ef_cse5 mm t1 t2)) ?_
  have N0 := Fr.nil Z.heap.size
  show Go pp ee below _ (s₁.setTop (mkF mm 0 #[.val (.ref t1), .val (.ref t2), .unset] []))
  refine Go.g X0 hx (hb hby d18_0) rfl rfl (q := 1) rfl ?_
  refine Go.g X0 hx (hb hby d18_1) rfl rfl (q := 2) rfl ?_
  refine Go.jp X0 hx rfl rfl (hb hby d18_2) (same := false) (decide_eq_false fun q => n12 (Value.ref.inj q)) (q := 7) (by decide) (by decide) ?_
  refine Go.g X0 hx (hb hby d18_7) rfl rfl (q := 8) rfl ?_
  refine Go.js X0 hx hZ hown (wd214 hw) e0 (Ins.self E2) (hb hby d18_8) (q := 11) rfl ?_
  intro T101 X101 e101
  refine Go.L X101 hx (hb hby d18_11) (by decide) (q := 14) rfl ?_
  refine Go.g X101 hx (hb hby d18_14) rfl rfl (q := 15) rfl ?_
  refine Go.jr X101 hx hZ hown (wd214 hw) e101 (Ins.self E2) (hb hby d18_15) (q := 18) rfl ?_
  intro T102 X102 e102
  refine Go.jf X102 hx (hb hby d18_18) rfl (l' := #[.val (.ref t1), .val (.ref t2), .val (.ref t2)]) rfl (q := 19) rfl ?_
  refine Go.jj X102 hx hZ hown (host := "") (Or.inl (wd33 hw)) Via.refl e102 (SCS.ext O0) (hb hby d18_19) (q := 22) rfl ?_
  intro T103 X103 e103
  refine Go.L X103 hx (hb hby d18_22) (Jvm.Free.XT.i0_eq_f hcs) (q := 25) rfl ?_
  refine Go.g X103 hx (hb hby d18_25) rfl rfl (q := 26) rfl ?_
  refine Go.B X103 hx hZ hown (host := "") (Or.inl (wd29 hw)) Via.refl e103 C1 (hb hby d18_26) (q := 29) rfl ?_
  intro T104 X104 e104
  refine Go.g X104 hx (hb hby d18_29) rfl rfl (q := 30) rfl ?_
  refine Go.B X104 hx hZ hown (host := "") (Or.inl (wd29 hw)) Via.refl e104 C2 (hb hby d18_30) (q := 33) rfl ?_
  intro T105 X105 e105
  refine Go.t X105 hx (hb hby d18_33) (by decide) (q := 36) rfl ?_
  refine Go.g X105 hx (hb hby d18_36) rfl rfl (q := 37) rfl ?_
  refine Go.B X105 hx hZ hown (host := "") (Or.inl (wd28 hw)) Via.refl e105 F1 (hb hby d18_37) (q := 40) rfl ?_
  intro T106 X106 e106
  refine Go.g X106 hx (hb hby d18_40) rfl rfl (q := 41) rfl ?_
  refine Go.B X106 hx hZ hown (host := "") (Or.inl (wd28 hw)) Via.refl e106 F2 (hb hby d18_41) (q := 44) rfl ?_
  intro T107 X107 e107
  refine Go.A X107 hx hZ hown (wd215 hw) (wd216 hw) (wd171 hw) (wd217 hw) (by decide) (cle5 l Z a0 hw v1 v2 (k1) (k2) x0 x1 x2 x3 x4 h0 O0 V1 V2) e107 (by rw [hml]; rfl) (hb hby d18_44) (argsL := [(.ref v1), (.ref v2)]) (rest := []) (lenOf pd30 rfl) rfl rfl (W := 0) (Nat.le_refl _) (by decide) ?_
  intro v108 T108 L108 X108 hQ108
  obtain ⟨rfl, N108q, e108⟩ := hQ108
  have N108 := Fr.app N0 N108q
  refine Go.L X108 hx (hb hby d18_47) (by decide) (q := 50) rfl ?_
  refine Go.i X108 hx (hb hby d18_50) (r := (1 : Int32)) rfl (q := 51) rfl ?_
  refine Go.D X108 hx (hb hby d18_51) (q := 55) (by decide) (by decide) ?_
  exact Go.M X108 hx hret hlk (by simp) rfl (hb hby d18_55) e108 (by decide) (by decide) ⟨rfl, N108, rfl⟩
def Q_csm (Z : State) (o s : Addr) (h0 : Heap) (vR : Option Value) (hR : Heap) (LR : List Loc) : Prop := vR = some (.int 1) ∧ Fr Z.heap.size LR ∧ Keep h0 hR []
theorem csm (l : Launch) (Z : State) (a0 : Array Value) (hw : ∀ d ∈ tables_1, d.before a0 Z = true) (o s : Addr) (h0 : Heap) (O0 : Ext Z.heap h0) (Eo : Exa Z h0 o xS1) (F0 : Fld Z h0 o xS1 "weak" "Z" (.int 0)) (F1 : Fld Z h0 o xS1 "value" xS4 (.ref s)) (Es : Exa Z h0 s xS0) :
    CtrH l Z consts_1 h0 (⟨xS1, "strongMatch", "(Lcom/example/match_before_write/matchbeforewrite/EntityTag;)Z"⟩ : MethodName) k43 2 (some .boolean) [] ({ frames := 1, cells := 2, slots := 24, locals := 14 } : Room) #[(.ref o), (.ref o)] (Q_csm Z o s h0) := by
  refine enterH (plainFor_of_name pn6) ?_
  intro pp ee ss mm below meth cc s₁ hx hby hml hZ hown hnm hret hlk X0 e0 hs0 hS hC
  replace hown : (ss.setVm ss.vm).vm.findClass xS1 = some mm.cls := hown
  have hKd := Nat.zero_le h0.size
  refine Go.r (congrArg s₁.setTop (ef_csm mm o o)) ?_
  have N0 := Fr.nil Z.heap.size
  have KP := Keep.refl h0 []
  show Go pp ee below _ (s₁.setTop (mkF mm 0 #[.val (.ref o), .val (.ref o)] []))
  refine Go.g X0 hx (hb hby d43_0) rfl rfl (q := 1) rfl ?_
  refine Go.jt X0 hx hZ hown (wd223 hw) (own_wS hw) e0 hS hKd (own_EW hw) hC (hb hby d43_1) (nn := 20) (by decide) (by decide) (by decide) (by decide) (q := 3) rfl ?_
  intro b101 T101 h101 k101 X101 e101 E101 hS hKd hZ hown hR101
  replace hC := hC.trans hR101
  replace Eo := Eo.ext E101
  replace F0 := F0.ext E101
  replace F1 := F1.ext E101
  replace Es := Es.ext E101
  have OE101 := ext_trans O0 E101
  replace KP := KP.ext E101
  refine Go.A X101 hx hZ hown (wd54 hw) (wd55 hw) (wd56 hw) (wd57 hw) (by decide) (creq l Z a0 hw o b101 h101 OE101) e101 (by rw [hml]; rfl) (hb hby d43_3) (argsL := [(.ref o), (.ref b101)]) (rest := []) (lenOf pd9 rfl) rfl rfl (W := 0) (Nat.le_refl _) (by decide) ?_
  intro v102 T102 L102 X102 hQ102
  obtain ⟨rfl, N102q, e102⟩ := hQ102
  have N102 := Fr.app N0 N102q
  refine Go.jo X102 hx (hb hby d43_6) rfl (q := 7) rfl ?_
  refine Go.g X102 hx (hb hby d43_7) rfl rfl (q := 8) rfl ?_
  refine Go.B X102 hx hZ hown (host := "") (Or.inl (wd72 hw)) Via.refl e102 F0 (hb hby d43_8) (q := 11) rfl ?_
  intro T103 X103 e103
  refine Go.L X103 hx (hb hby d43_11) (by decide) (q := 14) rfl ?_
  refine Go.g X103 hx (hb hby d43_14) rfl rfl (q := 15) rfl ?_
  refine Go.B X103 hx hZ hown (host := "") (Or.inl (wd72 hw)) Via.refl e103 F0 (hb hby d43_15) (q := 18) rfl ?_
  intro T104 X104 e104
  refine Go.L X104 hx (hb hby d43_18) (by decide) (q := 21) rfl ?_
  refine Go.g X104 hx (hb hby d43_21) rfl rfl (q := 22) rfl ?_
  refine Go.B X104 hx hZ hown (host := "") (Or.inl (wd74 hw)) Via.refl e104 F1 (hb hby d43_22) (q := 25) rfl ?_
  intro T105 X105 e105
  refine Go.g X105 hx (hb hby d43_25) rfl rfl (q := 26) rfl ?_
  refine Go.B X105 hx hZ hown (host := "") (Or.inl (wd74 hw)) Via.refl e105 F1 (hb hby d43_26) (q := 29) rfl ?_
  intro T106 X106 e106
  refine Go.u X106 hx hZ hown (wd224 hw) (wd87 hw) (notFace_of_selects (args := #[]) (mvT hZ (wd89 hw))) (wd89 hw) (wd88 hw) (wd7 hw) (wd90 hw) (by decide) (ceqs l Z a0 hw s h101 OE101) e106 Es (by rw [hml]; rfl) (hb hby d43_29) (argsL := [(.ref s)]) (rest := []) (lenOf pd31 rfl) rfl rfl (W := 0) (Nat.le_refl _) (by decide) ?_
  intro v107 T107 L107 X107 hQ107
  obtain ⟨rfl, N107q, e107⟩ := hQ107
  have N107 := Fr.app N102 N107q
  refine Go.L X107 hx (hb hby d43_32) (by decide) (q := 35) rfl ?_
  refine Go.i X107 hx (hb hby d43_35) (r := (1 : Int32)) rfl (q := 36) rfl ?_
  refine Go.D X107 hx (hb hby d43_36) (q := 40) (by decide) (by decide) ?_
  exact Go.jz X107 hx hS hKd hs0 hZ (own_EW hw) hC hret hlk (by simp) rfl (hb hby d43_40) e107 (by decide) (by decide) ⟨rfl, N107, KP⟩
def Q_cmis (Z : State) (v1 v2 : Addr) (k1 k2 : ClassId) (n : Int32) (vs : List Value) (h0 : Heap) (vR : Option Value) (hR : Heap) (LR : List Loc) : Prop := vR = some (.int 0) ∧ Fr Z.heap.size LR ∧ hR = h0
theorem cmis (l : Launch) (Z : State) (a0 : Array Value) (hw : ∀ d ∈ tables_1, d.before a0 Z = true) (v1 v2 : Addr) (k1 k2 : ClassId) (n : Int32) (vs : List Value) (h0 : Heap) (O0 : Ext Z.heap h0) (Va : Arv Z h0 v1 k1 .byte n vs (.int 0)) (Vb : Arv Z h0 v2 k2 .byte (2 : Int32) [(.int 87), (.int 47)] (.int 0)) (hn : (0 : Int32) < n) (hg : vs.getD ((0 : Int32)).toNatClampNeg (.int (0 : Int32)) = (.int (34 : Int32))) :
    Ctr l Z h0 (⟨"jdk/internal/util/ArraysSupport", "mismatch", "([BI[BII)I"⟩ : MethodName) k47 8 (some .int) [] ({ frames := 0, cells := 0, slots := 0, locals := 0 } : Room) #[(.ref v1), (.int 0), (.ref v2), (.int 0), (.int 2)] (Q_cmis Z v1 v2 k1 k2 n vs h0) := by
  refine enter (plainFor_of_name pn10) ?_
  intro pp ee ss mm below meth cc s₁ hx hby hml hZ hown hnm hret hlk X0 e0 hs0
  replace hown : ss.vm.findClass "jdk/internal/util/ArraysSupport" = some mm.cls := hown
  refine Go.r (congrArg s₁.setTop (ef_cmis mm v1 v2)) ?_
  have N0 := Fr.nil Z.heap.size
  show Go pp ee below _ (s₁.setTop (mkF mm 0 #[.val (.ref v1), .val (.int 0), .val (.ref v2), .val (.int 0), .val (.int 2), .unset, .unset, .unset] []))
  refine Go.i X0 hx (hb hby d47_0) (r := (0 : Int32)) rfl (q := 1) rfl ?_
  refine Go.G X0 hx (hb hby d47_1) (l' := #[.val (.ref v1), .val (.int 0), .val (.ref v2), .val (.int 0), .val (.int 2), .val (.int 0), .unset, .unset]) rfl (q := 3) rfl ?_
  refine Go.o X0 hx (hb hby d47_3) rfl (q := 5) rfl ?_
  refine Go.E X0 hx (hb hby d47_5) (r := (7 : Int32)) rfl (q := 7) rfl ?_
  refine Go.y X0 hx (hb hby d47_7) (by decide) (q := 70) (by decide) (by decide) ?_
  refine Go.o X0 hx (hb hby d47_70) rfl (q := 72) rfl ?_
  refine Go.o X0 hx (hb hby d47_72) rfl (q := 74) rfl ?_
  refine Go.t X0 hx (hb hby d47_74) (by decide) (q := 77) rfl ?_
  refine Go.g X0 hx (hb hby d47_77) rfl rfl (q := 78) rfl ?_
  refine Go.f X0 hx (hb hby d47_78) rfl (q := 79) rfl ?_
  refine Go.o X0 hx (hb hby d47_79) rfl (q := 81) rfl ?_
  refine Go.jh X0 hx (hb hby d47_81) (r := (0 : Int32)) rfl (q := 82) rfl ?_
  refine Go.W X0 hx hZ e0 Va ⟨by decide, hn⟩ (v := (.int 34)) hg (hb hby d47_82) ?_
  refine Go.g X0 hx (hb hby d47_83) rfl rfl (q := 84) rfl ?_
  refine Go.f X0 hx (hb hby d47_84) rfl (q := 85) rfl ?_
  refine Go.o X0 hx (hb hby d47_85) rfl (q := 87) rfl ?_
  refine Go.jh X0 hx (hb hby d47_87) (r := (0 : Int32)) rfl (q := 88) rfl ?_
  refine Go.W X0 hx hZ e0 Vb ⟨by decide, by decide⟩ (v := (.int 87)) rfl (hb hby d47_88) ?_
  refine Go.t X0 hx (hb hby d47_89) (by decide) (q := 92) rfl ?_
  refine Go.o X0 hx (hb hby d47_92) rfl (q := 94) rfl ?_
  exact Go.M X0 hx hret hlk (Or.inl rfl) rfl (hb hby d47_94) e0 (by decide) (by decide) ⟨rfl, N0, rfl⟩
def Q_csw2 (Z : State) (t1 t2 : Addr) (cs : Int32) (v1 v2 : Addr) (k1 k2 : ClassId) (n : Int32) (vs : List Value) (h0 : Heap) (vR : Option Value) (hR : Heap) (LR : List Loc) : Prop := vR = some (.int 0) ∧ Fr Z.heap.size LR ∧ hR = h0
theorem csw2 (l : Launch) (Z : State) (a0 : Array Value) (hw : ∀ d ∈ tables_1, d.before a0 Z = true) (t1 t2 : Addr) (cs : Int32) (v1 v2 : Addr) (k1 k2 : ClassId) (n : Int32) (vs : List Value) (h0 : Heap) (O0 : Ext Z.heap h0) (E1 : Exa Z h0 t1 xS0) (E2 : Exa Z h0 t2 xS0) (C1 : Fld Z h0 t1 xS0 "coder" "B" (.int 0)) (C2 : Fld Z h0 t2 xS0 "coder" "B" (.int 0)) (F1 : Fld Z h0 t1 xS0 "value" "[B" (.ref v1)) (F2 : Fld Z h0 t2 xS0 "value" "[B" (.ref v2)) (Va : Arv Z h0 v1 k1 .byte n vs (.int 0)) (Vb : Arv Z h0 v2 k2 .byte (2 : Int32) [(.int 87), (.int 47)] (.int 0)) (SCS : Sta Z Z.heap xS0 xS3 "Z" (.int cs)) (hcs : ¬ (cs = (0 : Int32))) (hn : (0 : Int32) < n) (hg : vs.getD ((0 : Int32)).toNatClampNeg (.int (0 : Int32)) = (.int (34 : Int32))) (hl : ¬ ((n - (2 : Int32)) < (0 : Int32))) :
    Ctr l Z h0 (⟨xS0, "startsWith", "(Ljava/lang/String;I)Z"⟩ : MethodName) k46 8 (some .boolean) [] ({ frames := 2, cells := 0, slots := 0, locals := 27 } : Room) #[(.ref t1), (.ref t2), (.int 0)] (Q_csw2 Z t1 t2 cs v1 v2 k1 k2 n vs h0) := by
  refine enter (plainFor_of_name pn1) ?_
  intro pp ee ss mm below meth cc s₁ hx hby hml hZ hown hnm hret hlk X0 e0 hs0
  replace hown : ss.vm.findClass xS0 = some mm.cls := hown
  refine Go.r (congrArg s₁.setTop (ef_csw2 mm t1 t2)) ?_
  have N0 := Fr.nil Z.heap.size
  show Go pp ee below _ (s₁.setTop (mkF mm 0 #[.val (.ref t1), .val (.ref t2), .val (.int 0), .unset, .unset, .unset, .unset, .unset] []))
  refine Go.f X0 hx (hb hby d46_0) rfl (q := 1) rfl ?_
  refine Go.L X0 hx (hb hby d46_1) (by decide) (q := 4) rfl ?_
  refine Go.f X0 hx (hb hby d46_4) rfl (q := 5) rfl ?_
  refine Go.g X0 hx (hb hby d46_5) rfl rfl (q := 6) rfl ?_
  refine Go.u X0 hx hZ hown (wd240 hw) (wd59 hw) (notFace_of_selects (args := #[]) (mvT hZ (wd61 hw))) (wd61 hw) (wd60 hw) (wd7 hw) (wd62 hw) (by decide) (clen l Z a0 hw t1 cs v1 (k1) n (vs) h0 O0 E1 C1 F1 Va SCS hcs) e0 E1 (by rw [hml]; rfl) (hb hby d46_6) (argsL := []) (rest := [(.int 0)]) (lenOf pd10 rfl) rfl rfl (W := 1) (Nat.le_refl _) (by decide) ?_
  intro v101 T101 L101 X101 hQ101
  obtain ⟨rfl, N101q, e101⟩ := hQ101
  have N101 := Fr.app N0 N101q
  refine Go.g X101 hx (hb hby d46_9) rfl rfl (q := 10) rfl ?_
  refine Go.u X101 hx hZ hown (wd240 hw) (wd59 hw) (notFace_of_selects (args := #[]) (mvT hZ (wd61 hw))) (wd61 hw) (wd60 hw) (wd7 hw) (wd62 hw) (by decide) (clen l Z a0 hw t2 cs v2 (k2) ((2 : Int32)) ([(.int 87), (.int 47)]) h0 O0 E2 C2 F2 Vb SCS hcs) e101 E2 (by rw [hml]; rfl) (hb hby d46_10) (argsL := []) (rest := [(.int n), (.int 0)]) (lenOf pd10 rfl) rfl rfl (W := 2) (Nat.le_refl _) (by decide) ?_
  intro v102 T102 L102 X102 hQ102
  obtain ⟨rfl, N102q, e102⟩ := hQ102
  have N102 := Fr.app N101 N102q
  refine Go.ja X102 hx (hb hby d46_13) rfl (q := 14) rfl ?_
  refine Go.y X102 hx (hb hby d46_14) (Jvm.Free.XT.ii_le_t hl) (q := 19) (by decide) (by decide) ?_
  refine Go.g X102 hx (hb hby d46_19) rfl rfl (q := 20) rfl ?_
  refine Go.B X102 hx hZ hown (host := "") (Or.inl (wd28 hw)) Via.refl e102 F1 (hb hby d46_20) (q := 23) rfl ?_
  intro T103 X103 e103
  refine Go.jf X103 hx (hb hby d46_23) rfl (l' := #[.val (.ref t1), .val (.ref t2), .val (.int 0), .val (.ref v1), .unset, .unset, .unset, .unset]) rfl (q := 24) rfl ?_
  refine Go.g X103 hx (hb hby d46_24) rfl rfl (q := 25) rfl ?_
  refine Go.B X103 hx hZ hown (host := "") (Or.inl (wd28 hw)) Via.refl e103 F2 (hb hby d46_25) (q := 28) rfl ?_
  intro T104 X104 e104
  refine Go.V X104 hx (hb hby d46_28) rfl (l' := #[.val (.ref t1), .val (.ref t2), .val (.int 0), .val (.ref v1), .val (.ref v2), .unset, .unset, .unset]) rfl (q := 30) rfl ?_
  refine Go.i X104 hx (hb hby d46_30) (r := (0 : Int32)) rfl (q := 31) rfl ?_
  refine Go.G X104 hx (hb hby d46_31) (l' := #[.val (.ref t1), .val (.ref t2), .val (.int 0), .val (.ref v1), .val (.ref v2), .val (.int 0), .unset, .unset]) rfl (q := 33) rfl ?_
  refine Go.w X104 hx (hb hby d46_33) rfl rfl (q := 35) rfl ?_
  refine Go.J X104 hx hZ e104 Vb (hb hby d46_35) ?_
  refine Go.G X104 hx (hb hby d46_36) (l' := #[.val (.ref t1), .val (.ref t2), .val (.int 0), .val (.ref v1), .val (.ref v2), .val (.int 0), .val (.int 2), .unset]) rfl (q := 38) rfl ?_
  refine Go.g X104 hx (hb hby d46_38) rfl rfl (q := 39) rfl ?_
  refine Go.u X104 hx hZ hown (wd63 hw) (wd64 hw) (notFace_of_selects (args := #[]) (mvT hZ (wd66 hw))) (wd66 hw) (wd65 hw) (wd7 hw) (wd67 hw) (by decide) (ccoder l Z a0 hw t1 cs h0 O0 C1 SCS hcs) e104 E1 (by rw [hml]; rfl) (hb hby d46_39) (argsL := []) (rest := []) (lenOf pd4 rfl) rfl rfl (W := 0) (Nat.le_refl _) (by decide) ?_
  intro v105 T105 L105 X105 hQ105
  obtain ⟨rfl, N105q, e105⟩ := hQ105
  have N105 := Fr.app N102 N105q
  refine Go.G X105 hx (hb hby d46_42) (l' := #[.val (.ref t1), .val (.ref t2), .val (.int 0), .val (.ref v1), .val (.ref v2), .val (.int 0), .val (.int 2), .val (.int 0)]) rfl (q := 44) rfl ?_
  refine Go.o X105 hx (hb hby d46_44) rfl (q := 46) rfl ?_
  refine Go.g X105 hx (hb hby d46_46) rfl rfl (q := 47) rfl ?_
  refine Go.u X105 hx hZ hown (wd63 hw) (wd64 hw) (notFace_of_selects (args := #[]) (mvT hZ (wd66 hw))) (wd66 hw) (wd65 hw) (wd7 hw) (wd67 hw) (by decide) (ccoder l Z a0 hw t2 cs h0 O0 C2 SCS hcs) e105 E2 (by rw [hml]; rfl) (hb hby d46_47) (argsL := []) (rest := [(.int 0)]) (lenOf pd4 rfl) rfl rfl (W := 1) (Nat.le_refl _) (by decide) ?_
  intro v106 T106 L106 X106 hQ106
  obtain ⟨rfl, N106q, e106⟩ := hQ106
  have N106 := Fr.app N105 N106q
  refine Go.t X106 hx (hb hby d46_50) (by decide) (q := 53) rfl ?_
  refine Go.o X106 hx (hb hby d46_53) rfl (q := 55) rfl ?_
  refine Go.i X106 hx (hb hby d46_55) (r := (1 : Int32)) rfl (q := 56) rfl ?_
  refine Go.y X106 hx (hb hby d46_56) (by decide) (q := 63) (by decide) (by decide) ?_
  refine Go.g X106 hx (hb hby d46_63) rfl rfl (q := 64) rfl ?_
  refine Go.f X106 hx (hb hby d46_64) rfl (q := 65) rfl ?_
  refine Go.w X106 hx (hb hby d46_65) rfl rfl (q := 67) rfl ?_
  refine Go.i X106 hx (hb hby d46_67) (r := (0 : Int32)) rfl (q := 68) rfl ?_
  refine Go.o X106 hx (hb hby d46_68) rfl (q := 70) rfl ?_
  refine Go.A X106 hx hZ hown (wd241 hw) (wd242 hw) (wd243 hw) (wd244 hw) (by decide) (cmis l Z a0 hw v1 v2 (k1) (k2) n (vs) h0 O0 Va Vb hn hg) e106 (by rw [hml]; rfl) (hb hby d46_70) (argsL := [(.ref v1), (.int 0), (.ref v2), (.int 0), (.int 2)]) (rest := []) (lenOf pd32 rfl) rfl rfl (W := 0) (Nat.le_refl _) (by decide) ?_
  intro v107 T107 L107 X107 hQ107
  obtain ⟨rfl, N107q, e107⟩ := hQ107
  have N107 := Fr.app N106 N107q
  refine Go.F X107 hx (hb hby d46_73) (by decide) (q := 80) (by decide) (by decide) ?_
  refine Go.i X107 hx (hb hby d46_80) (r := (0 : Int32)) rfl (q := 81) rfl ?_
  exact Go.M X107 hx hret hlk (by simp) rfl (hb hby d46_81) e107 (by decide) (by decide) ⟨rfl, N107, rfl⟩
def Q_csw1 (Z : State) (t1 t2 : Addr) (cs : Int32) (v1 v2 : Addr) (k1 k2 : ClassId) (n : Int32) (vs : List Value) (h0 : Heap) (vR : Option Value) (hR : Heap) (LR : List Loc) : Prop := vR = some (.int 0) ∧ Fr Z.heap.size LR ∧ hR = h0
theorem csw1 (l : Launch) (Z : State) (a0 : Array Value) (hw : ∀ d ∈ tables_1, d.before a0 Z = true) (t1 t2 : Addr) (cs : Int32) (v1 v2 : Addr) (k1 k2 : ClassId) (n : Int32) (vs : List Value) (h0 : Heap) (O0 : Ext Z.heap h0) (E1 : Exa Z h0 t1 xS0) (E2 : Exa Z h0 t2 xS0) (C1 : Fld Z h0 t1 xS0 "coder" "B" (.int 0)) (C2 : Fld Z h0 t2 xS0 "coder" "B" (.int 0)) (F1 : Fld Z h0 t1 xS0 "value" "[B" (.ref v1)) (F2 : Fld Z h0 t2 xS0 "value" "[B" (.ref v2)) (Va : Arv Z h0 v1 k1 .byte n vs (.int 0)) (Vb : Arv Z h0 v2 k2 .byte (2 : Int32) [(.int 87), (.int 47)] (.int 0)) (SCS : Sta Z Z.heap xS0 xS3 "Z" (.int cs)) (hcs : ¬ (cs = (0 : Int32))) (hn : (0 : Int32) < n) (hg : vs.getD ((0 : Int32)).toNatClampNeg (.int (0 : Int32)) = (.int (34 : Int32))) (hl : ¬ ((n - (2 : Int32)) < (0 : Int32))) :
    Ctr l Z h0 (⟨xS0, "startsWith", "(Ljava/lang/String;)Z"⟩ : MethodName) k45 2 (some .boolean) [] ({ frames := 3, cells := 0, slots := 0, locals := 46 } : Room) #[(.ref t1), (.ref t2)] (Q_csw1 Z t1 t2 cs v1 v2 k1 k2 n vs h0) := by
  refine enter (plainFor_of_name pn1) ?_
  intro pp ee ss mm below meth cc s₁ hx hby hml hZ hown hnm hret hlk X0 e0 hs0
  replace hown : ss.vm.findClass xS0 = some mm.cls := hown
  refine Go.r (congrArg s₁.setTop (ef_csw1 mm t1 t2)) ?_
  have N0 := Fr.nil Z.heap.size
  show Go pp ee below _ (s₁.setTop (mkF mm 0 #[.val (.ref t1), .val (.ref t2)] []))
  refine Go.g X0 hx (hb hby d45_0) rfl rfl (q := 1) rfl ?_
  refine Go.g X0 hx (hb hby d45_1) rfl rfl (q := 2) rfl ?_
  refine Go.i X0 hx (hb hby d45_2) (r := (0 : Int32)) rfl (q := 3) rfl ?_
  refine Go.u X0 hx hZ hown (wd235 hw) (wd236 hw) (notFace_of_selects (args := #[]) (mvT hZ (wd238 hw))) (wd238 hw) (wd237 hw) (wd7 hw) (wd239 hw) (by decide) (csw2 l Z a0 hw t1 t2 cs v1 v2 (k1) (k2) n (vs) h0 O0 E1 E2 C1 C2 F1 F2 Va Vb SCS hcs hn hg hl) e0 E1 (by rw [hml]; rfl) (hb hby d45_3) (argsL := [(.ref t2), (.int 0)]) (rest := []) (lenOf pd33 rfl) rfl rfl (W := 0) (Nat.le_refl _) (by decide) ?_
  intro v101 T101 L101 X101 hQ101
  obtain ⟨rfl, N101q, e101⟩ := hQ101
  have N101 := Fr.app N0 N101q
  exact Go.M X101 hx hret hlk (by simp) rfl (hb hby d45_6) e101 (by decide) (by decide) ⟨rfl, N101, rfl⟩
def Q_cfti (Z : State) (pa pb pd : Int32) (fm : Value) (h0 : Heap) (vR : Option Value) (hR : Heap) (LR : List Loc) : Prop := vR = some (.int pa) ∧ Fr Z.heap.size LR ∧ hR = h0
theorem cfti (l : Launch) (Z : State) (a0 : Array Value) (hw : ∀ d ∈ tables_1, d.before a0 Z = true) (pa pb pd : Int32) (fm : Value) (h0 : Heap) (O0 : Ext Z.heap h0) (hfm : fm.isRef = true) (hq0 : ¬ (pa < (0 : Int32))) (hq1 : ¬ (pb < pa)) (hq2 : ¬ (pd < pb)) :
    Ctr l Z h0 (⟨xS6, "checkFromToIndex", "(IIILjava/util/function/BiFunction;)I"⟩ : MethodName) k55 4 (some .int) [] ({ frames := 0, cells := 0, slots := 0, locals := 0 } : Room) #[(.int pa), (.int pb), (.int pd), fm] (Q_cfti Z pa pb pd fm h0) := by
  refine enter (plainFor_of_name pn3) ?_
  intro pp ee ss mm below meth cc s₁ hx hby hml hZ hown hnm hret hlk X0 e0 hs0
  replace hown : ss.vm.findClass xS6 = some mm.cls := hown
  refine Go.r (congrArg s₁.setTop (ef_cfti mm pa pb pd fm hfm)) ?_
  have N0 := Fr.nil Z.heap.size
  show Go pp ee below _ (s₁.setTop (mkF mm 0 #[.val (.int pa), .val (.int pb), .val (.int pd), .val fm] []))
  refine Go.f X0 hx (hb hby d55_0) rfl (q := 1) rfl ?_
  refine Go.L X0 hx (hb hby d55_1) (Jvm.Free.XT.i0_lt_f hq0) (q := 4) rfl ?_
  refine Go.f X0 hx (hb hby d55_4) rfl (q := 5) rfl ?_
  refine Go.f X0 hx (hb hby d55_5) rfl (q := 6) rfl ?_
  refine Go.t X0 hx (hb hby d55_6) (Jvm.Free.XT.ii_gt_f hq1) (q := 9) rfl ?_
  refine Go.f X0 hx (hb hby d55_9) rfl (q := 10) rfl ?_
  refine Go.f X0 hx (hb hby d55_10) rfl (q := 11) rfl ?_
  refine Go.y X0 hx (hb hby d55_11) (Jvm.Free.XT.ii_le_t hq2) (q := 22) (by decide) (by decide) ?_
  refine Go.f X0 hx (hb hby d55_22) rfl (q := 23) rfl ?_
  exact Go.M X0 hx hret hlk (Or.inl rfl) rfl (hb hby d55_23) e0 (by decide) (by decide) ⟨rfl, N0, rfl⟩
def Q_cbbe (Z : State) (pa pb pd : Int32) (fm : Value) (h0 : Heap) (vR : Option Value) (hR : Heap) (LR : List Loc) : Prop := vR = none ∧ Fr Z.heap.size LR ∧ hR = h0
theorem cbbe (l : Launch) (Z : State) (a0 : Array Value) (hw : ∀ d ∈ tables_1, d.before a0 Z = true) (pa pb pd : Int32) (fm : Value) (h0 : Heap) (O0 : Ext Z.heap h0) (SFM : Sta Z Z.heap xS6 "SIOOBE_FORMATTER" xS9 fm) (hfm : fm.isRef = true) (hq0 : ¬ (pa < (0 : Int32))) (hq1 : ¬ (pb < pa)) (hq2 : ¬ (pd < pb)) :
    Ctr l Z h0 (⟨xS0, "checkBoundsBeginEnd", "(III)V"⟩ : MethodName) k54 3 none [] ({ frames := 1, cells := 0, slots := 0, locals := 15 } : Room) #[(.int pa), (.int pb), (.int pd)] (Q_cbbe Z pa pb pd fm h0) := by
  refine enter (plainFor_of_name pn1) ?_
  intro pp ee ss mm below meth cc s₁ hx hby hml hZ hown hnm hret hlk X0 e0 hs0
  replace hown : ss.vm.findClass xS0 = some mm.cls := hown
  refine Go.r (congrArg s₁.setTop (ef_cbbe mm pa pb pd)) ?_
  have N0 := Fr.nil Z.heap.size
  show Go pp ee below _ (s₁.setTop (mkF mm 0 #[.val (.int pa), .val (.int pb), .val (.int pd)] []))
  refine Go.f X0 hx (hb hby d54_0) rfl (q := 1) rfl ?_
  refine Go.f X0 hx (hb hby d54_1) rfl (q := 2) rfl ?_
  refine Go.f X0 hx (hb hby d54_2) rfl (q := 3) rfl ?_
  refine Go.jj X0 hx hZ hown (host := "") (Or.inl (wd261 hw)) Via.refl e0 (SFM.ext O0) (hb hby d54_3) (q := 6) rfl ?_
  intro T101 X101 e101
  refine Go.A X101 hx hZ hown (wd274 hw) (wd275 hw) (wd262 hw) (wd276 hw) (by decide) (cfti l Z a0 hw pa pb pd fm h0 O0 hfm hq0 hq1 hq2) e101 (by rw [hml]; rfl) (hb hby d54_6) (argsL := [(.int pa), (.int pb), (.int pd), fm]) (rest := []) (lenOf pd34 rfl) rfl rfl (W := 0) (Nat.le_refl _) (by decide) ?_
  intro v102 T102 L102 X102 hQ102
  obtain ⟨rfl, N102q, e102⟩ := hQ102
  have N102 := Fr.app N0 N102q
  refine Go.jo X102 hx (hb hby d54_9) rfl (q := 10) rfl ?_
  exact Go.jb X102 hx hret hlk (hb hby d54_10) e102 (by decide) (by decide) ⟨rfl, N102, rfl⟩
def Q_cstr (Z : State) (o v : Addr) (h0 : Heap) (vR : Option Value) (hR : Heap) (LR : List Loc) : Prop := vR = none ∧ Fr Z.heap.size LR ∧ Keep h0 hR [o] ∧ Fld Z hR o xS0 "value" "[B" (.ref v) ∧ Fld Z hR o xS0 "coder" "B" (.int 0)
theorem cstr (l : Launch) (Z : State) (a0 : Array Value) (hw : ∀ d ∈ tables_1, d.before a0 Z = true) (o v : Addr) (h0 : Heap) (O0 : Ext Z.heap h0) (E : Exa Z h0 o xS0) (F : Fld Z h0 o xS0 "value" "[B" .null) (G : Fld Z h0 o xS0 "coder" "B" (.int 0)) (g : Z.heap.size ≤ o) :
    Ctr l Z h0 (⟨xS0, "<init>", "([BB)V"⟩ : MethodName) k58 3 none [] ({ frames := 1, cells := 0, slots := 0, locals := 12 } : Room) #[(.ref o), (.ref v), (.int 0)] (Q_cstr Z o v h0) := by
  refine enter (plainFor_of_name pn1) ?_
  intro pp ee ss mm below meth cc s₁ hx hby hml hZ hown hnm hret hlk X0 e0 hs0
  replace hown : ss.vm.findClass xS0 = some mm.cls := hown
  refine Go.r (congrArg s₁.setTop (ef_cstr mm o v)) ?_
  have N0 := Fr.nil Z.heap.size
  have KP := Keep.refl h0 [o]
  show Go pp ee below _ (s₁.setTop (mkF mm 0 #[.val (.ref o), .val (.ref v), .val (.int 0)] []))
  refine Go.g X0 hx (hb hby d58_0) rfl rfl (q := 1) rfl ?_
  refine Go.jq X0 hx hZ hown (wd19 hw) (wd20 hw) (wd21 hw) e0 (by rw [hml]; rfl) (hb hby d58_1) (by decide) (W := 0) (by exact Nat.le_refl _) (by decide) (q := 4) rfl ?_
  intro T101 X101 e101
  refine Go.g X101 hx (hb hby d58_4) rfl rfl (q := 5) rfl ?_
  refine Go.g X101 hx (hb hby d58_5) rfl rfl (q := 6) rfl ?_
  refine Go.jc X101 hx hZ hown (host := "") (Or.inl (wd28 hw)) Via.refl e101 F E (Or.inr ⟨(wd24 hw), rfl, hnm⟩) (wd6 hw) (ty := (.array .byte)) (by decide) rfl rfl (hb hby d58_6) (q := 9) rfl ?_
  intro T102 h102 X102 e102 W102 F102
  have N102 := Fr.snoc X102 N0 g
  replace E := E.wr W102
  replace G := G.other W102 (Or.inr (slot_ne (Or.inr (wd25 hw)) (Or.inr (wd24 hw)) (by decide) (t := .byte) (t' := (.array .byte)) (by decide) (by decide)))
  have OW102 := ext_wr O0 W102 g
  replace KP := KP.wr W102 (Or.inl (List.mem_of_getElem? (i := 0) rfl))
  refine Go.g X102 hx (hb hby d58_9) rfl rfl (q := 10) rfl ?_
  refine Go.f X102 hx (hb hby d58_10) rfl (q := 11) rfl ?_
  refine Go.jc X102 hx hZ hown (host := "") (Or.inl (wd29 hw)) Via.refl e102 G E (Or.inr ⟨(wd25 hw), rfl, hnm⟩) (wd6 hw) (ty := .byte) (by decide) rfl rfl (hb hby d58_11) (q := 14) rfl ?_
  intro T103 h103 X103 e103 W103 F103
  have N103 := Fr.snoc X103 N102 g
  replace E := E.wr W103
  replace F102 := F102.other W103 (Or.inr (slot_ne (Or.inr (wd24 hw)) (Or.inr (wd25 hw)) (by decide) (t := (.array .byte)) (t' := .byte) (by decide) (by decide)))
  have OW103 := ext_wr OW102 W103 g
  replace KP := KP.wr W103 (Or.inl (List.mem_of_getElem? (i := 0) rfl))
  exact Go.jb X103 hx hret hlk (hb hby d58_14) e103 (by decide) (by decide) ⟨rfl, N103, KP, F102, F103⟩
def Q_cnew0 (Z : State) (v : Addr) (kv : ClassId) (h0 : Heap) (vR : Option Value) (hR : Heap) (LR : List Loc) : Prop := ∃ w : Addr, ∃ u : Addr, ∃ ku : ClassId, vR = some (.ref w) ∧ Fr Z.heap.size LR ∧ Keep h0 hR [] ∧ Exa Z hR w xS0 ∧ Fld Z hR w xS0 "coder" "B" (.int 0) ∧ Fld Z hR w xS0 "value" "[B" (.ref u) ∧ Arv Z hR u ku .byte (0 : Int32) [] (.int 0)
theorem cnew0 (l : Launch) (Z : State) (a0 : Array Value) (hw : ∀ d ∈ tables_1, d.before a0 Z = true) (v : Addr) (kv : ClassId) (h0 : Heap) (O0 : Ext Z.heap h0) (Vv : Arv Z h0 v kv .byte (2 : Int32) [(.int 34), (.int 34)] (.int 0)) :
    CtrH l Z consts_1 h0 (⟨xS7, "newString", "([BII)Ljava/lang/String;"⟩ : MethodName) k56 3 (some (.object xS0)) [] ({ frames := 0, cells := 2, slots := 4, locals := 0 } : Room) #[(.ref v), (.int 1), (.int 0)] (Q_cnew0 Z v kv h0) := by
  refine enterH (plainFor_of_name pn4) ?_
  intro pp ee ss mm below meth cc s₁ hx hby hml hZ hown hnm hret hlk X0 e0 hs0 hS hC
  replace hown : (ss.setVm ss.vm).vm.findClass xS7 = some mm.cls := hown
  have hKd := Nat.zero_le h0.size
  refine Go.r (congrArg s₁.setTop (ef_cnew0 mm v)) ?_
  have N0 := Fr.nil Z.heap.size
  have KP := Keep.refl h0 []
  show Go pp ee below _ (s₁.setTop (mkF mm 0 #[.val (.ref v), .val (.int 1), .val (.int 0)] []))
  refine Go.f X0 hx (hb hby d56_0) rfl (q := 1) rfl ?_
  refine Go.L X0 hx (hb hby d56_1) (by decide) (q := 4) rfl ?_
  refine Go.jv X0 hx hZ hown (wd280 hw) (own_wS hw) e0 hS hKd (own_EW hw) (List.mem_of_getElem? (i := 6) rfl) hC (vs := []) (z := (0 : Int32)) ⟨by decide, rfl⟩ (by decide) rfl (hb hby d56_4) (nn := 0) (by decide) (by decide) (by decide) (by decide) (q := 6) rfl ?_
  intro b101 u101 kc101 T101 h101 k101 X101 e101 E101 hS hKd hZ hown B101 C101 F101 V101 hR101
  replace hC := hC.trans hR101
  replace Vv := Vv.ext E101
  have OE101 := ext_trans O0 E101
  replace KP := KP.ext E101
  exact Go.jm X101 hx hS hKd hs0 hZ (own_EW hw) hC hret hlk rfl rfl (hb hby d56_6) e101 (by decide) (by decide) ⟨b101, u101, kc101, rfl, N0, KP, B101, C101, F101, V101⟩
def Q_csub0 (Z : State) (s : Addr) (cs : Int32) (fm : Value) (v : Addr) (kv : ClassId) (h0 : Heap) (vR : Option Value) (hR : Heap) (LR : List Loc) : Prop := ∃ w : Addr, ∃ u : Addr, ∃ ku : ClassId, vR = some (.ref w) ∧ Fr Z.heap.size LR ∧ Keep h0 hR [] ∧ Exa Z hR w xS0 ∧ Fld Z hR w xS0 "coder" "B" (.int 0) ∧ Fld Z hR w xS0 "value" "[B" (.ref u) ∧ Arv Z hR u ku .byte (0 : Int32) [] (.int 0)
theorem csub0 (l : Launch) (Z : State) (a0 : Array Value) (hw : ∀ d ∈ tables_1, d.before a0 Z = true) (s : Addr) (cs : Int32) (fm : Value) (v : Addr) (kv : ClassId) (h0 : Heap) (O0 : Ext Z.heap h0) (Es : Exa Z h0 s xS0) (Cs : Fld Z h0 s xS0 "coder" "B" (.int 0)) (Fs : Fld Z h0 s xS0 "value" "[B" (.ref v)) (Vv : Arv Z h0 v kv .byte (2 : Int32) [(.int 34), (.int 34)] (.int 0)) (SCS : Sta Z Z.heap xS0 xS3 "Z" (.int cs)) (SFM : Sta Z Z.heap xS6 "SIOOBE_FORMATTER" xS9 fm) (hcs : ¬ (cs = (0 : Int32))) (hfm : fm.isRef = true) :
    CtrH l Z consts_1 h0 (⟨xS0, "substring", "(II)Ljava/lang/String;"⟩ : MethodName) k53 5 (some (.object xS0)) [] ({ frames := 2, cells := 2, slots := 4, locals := 29 } : Room) #[(.ref s), (.int 1), (.int 1)] (Q_csub0 Z s cs fm v kv h0) := by
  refine enterH (plainFor_of_name pn1) ?_
  intro pp ee ss mm below meth cc s₁ hx hby hml hZ hown hnm hret hlk X0 e0 hs0 hS hC
  replace hown : (ss.setVm ss.vm).vm.findClass xS0 = some mm.cls := hown
  have hKd := Nat.zero_le h0.size
  refine Go.r (congrArg s₁.setTop (ef_csub0 mm s)) ?_
  have N0 := Fr.nil Z.heap.size
  have KP := Keep.refl h0 []
  show Go pp ee below _ (s₁.setTop (mkF mm 0 #[.val (.ref s), .val (.int 1), .val (.int 1), .unset, .unset] []))
  refine Go.g X0 hx (hb hby d53_0) rfl rfl (q := 1) rfl ?_
  refine Go.u X0 hx hZ hown (wd240 hw) (wd59 hw) (notFace_of_selects (args := #[]) (mvT hZ (wd61 hw))) (wd61 hw) (wd60 hw) (wd7 hw) (wd62 hw) (by decide) (clen l Z a0 hw s cs v (kv) ((2 : Int32)) ([(.int 34), (.int 34)]) h0 O0 Es Cs Fs Vv SCS hcs) e0 Es (by rw [hml]; rfl) (hb hby d53_1) (argsL := []) (rest := []) (lenOf pd10 rfl) rfl rfl (W := 0) (Nat.le_refl _) (by decide) ?_
  intro v101 T101 L101 X101 hQ101
  obtain ⟨rfl, N101q, e101⟩ := hQ101
  have N101 := Fr.app N0 N101q
  refine Go.P X101 hx (hb hby d53_4) (l' := #[.val (.ref s), .val (.int 1), .val (.int 1), .val (.int 2), .unset]) rfl (q := 5) rfl ?_
  refine Go.f X101 hx (hb hby d53_5) rfl (q := 6) rfl ?_
  refine Go.f X101 hx (hb hby d53_6) rfl (q := 7) rfl ?_
  refine Go.f X101 hx (hb hby d53_7) rfl (q := 8) rfl ?_
  refine Go.A X101 hx hZ hown (wd271 hw) (wd272 hw) (wd7 hw) (wd273 hw) (by decide) (cbbe l Z a0 hw ((1 : Int32)) ((1 : Int32)) ((2 : Int32)) fm h0 O0 SFM hfm (by decide) (by decide) (by decide)) e101 (by rw [hml]; rfl) (hb hby d53_8) (argsL := [(.int 1), (.int 1), (.int 2)]) (rest := []) (lenOf pd35 rfl) rfl rfl (W := 0) (Nat.le_refl _) (by decide) ?_
  intro v102 T102 L102 X102 hQ102
  obtain ⟨rfl, N102q, e102⟩ := hQ102
  have N102 := Fr.app N101 N102q
  refine Go.f X102 hx (hb hby d53_11) rfl (q := 12) rfl ?_
  refine Go.F X102 hx (hb hby d53_12) (by decide) (q := 22) (by decide) (by decide) ?_
  refine Go.f X102 hx (hb hby d53_22) rfl (q := 23) rfl ?_
  refine Go.f X102 hx (hb hby d53_23) rfl (q := 24) rfl ?_
  refine Go.ja X102 hx (hb hby d53_24) (r := (0 : Int32)) rfl (q := 25) rfl ?_
  refine Go.G X102 hx (hb hby d53_25) (l' := #[.val (.ref s), .val (.int 1), .val (.int 1), .val (.int 2), .val (.int 0)]) rfl (q := 27) rfl ?_
  refine Go.g X102 hx (hb hby d53_27) rfl rfl (q := 28) rfl ?_
  refine Go.u X102 hx hZ hown (wd250 hw) (wd251 hw) (notFace_of_selects (args := #[]) (mvT hZ (wd253 hw))) (wd253 hw) (wd252 hw) (wd7 hw) (wd254 hw) (by decide) (clat l Z a0 hw s cs h0 O0 Cs SCS hcs) e102 Es (by rw [hml]; rfl) (hb hby d53_28) (argsL := []) (rest := []) (lenOf pd7 rfl) rfl rfl (W := 0) (Nat.le_refl _) (by decide) ?_
  intro v103 T103 L103 X103 hQ103
  obtain ⟨rfl, N103q, e103⟩ := hQ103
  have N103 := Fr.app N102 N103q
  refine Go.L X103 hx (hb hby d53_31) (by decide) (q := 34) rfl ?_
  refine Go.g X103 hx (hb hby d53_34) rfl rfl (q := 35) rfl ?_
  refine Go.B X103 hx hZ hown (host := "") (Or.inl (wd28 hw)) Via.refl e103 Fs (hb hby d53_35) (q := 38) rfl ?_
  intro T104 X104 e104
  refine Go.f X104 hx (hb hby d53_38) rfl (q := 39) rfl ?_
  refine Go.o X104 hx (hb hby d53_39) rfl (q := 41) rfl ?_
  refine Go.jk X104 hx hZ hown hS hKd (own_EW hw) hC (wd277 hw) (wd278 hw) (wd171 hw) (wd279 hw) (by decide) (cnew0 l Z a0 hw v (kv) h0 O0 Vv) e104 (by rw [hml]; rfl) (hb hby d53_41) (argsL := [(.ref v), (.int 1), (.int 0)]) (rest := []) (lenOf pd36 rfl) rfl rfl (W := 0) (Nat.le_refl _) (by decide) ?_
  intro v105 T105 L105 k105 X105 hS hKd hZ hown hR105 hQ105
  obtain ⟨h105, e105⟩ : ∃ z, T105.heap = z := ⟨_, rfl⟩
  rw [e105] at hQ105 hKd hR105
  obtain ⟨w_105, u_105, ku_105, rfl, N105q, K105, P105_0, P105_1, P105_2, P105_3⟩ := hQ105
  have N105 := Fr.app N103 N105q
  replace hC := hC.trans hR105
  replace Es := Es.keep K105
  replace Cs := Cs.keep K105 nin0
  replace Fs := Fs.keep K105 nin0
  replace Vv := Vv.keep K105 nin0
  have OK105 := ext_keep O0 K105 all0
  replace KP := KP.trans K105 all0
  refine Go.D X105 hx (hb hby d53_44) (q := 57) (by decide) (by decide) ?_
  exact Go.jm X105 hx hS hKd hs0 hZ (own_EW hw) hC hret hlk rfl rfl (hb hby d53_57) e105 (by decide) (by decide) ⟨w_105, u_105, ku_105, rfl, N105, KP, P105_0, P105_1, P105_2, P105_3⟩
def Q_cprs0 (Z : State) (s v : Addr) (kv : ClassId) (cs : Int32) (fm : Value) (h0 : Heap) (vR : Option Value) (hR : Heap) (LR : List Loc) : Prop := ∃ t : Addr, ∃ w : Addr, ∃ u : Addr, ∃ ku : ClassId, vR = some (.ref t) ∧ Fr Z.heap.size LR ∧ Keep h0 hR [] ∧ h0.size ≤ t ∧ Exa Z hR t xS1 ∧ Fld Z hR t xS1 "weak" "Z" (.int 0) ∧ Fld Z hR t xS1 "value" xS4 (.ref w) ∧ Fld Z hR t xS1 "field" xS4 .null ∧ Exa Z hR w xS0 ∧ Fld Z hR w xS0 "coder" "B" (.int 0) ∧ Fld Z hR w xS0 "value" "[B" (.ref u) ∧ Arv Z hR u ku .byte (0 : Int32) [] (.int 0)
theorem cprs0 (l : Launch) (Z : State) (a0 : Array Value) (hw : ∀ d ∈ tables_1, d.before a0 Z = true) (s v : Addr) (kv : ClassId) (cs : Int32) (fm : Value) (h0 : Heap) (O0 : Ext Z.heap h0) (Es : Exa Z h0 s xS0) (Cs : Fld Z h0 s xS0 "coder" "B" (.int 0)) (Fs : Fld Z h0 s xS0 "value" "[B" (.ref v)) (Vs : Arv Z h0 v kv .byte (2 : Int32) [(.int 34), (.int 34)] (.int 0)) (SCS : Sta Z Z.heap xS0 xS3 "Z" (.int cs)) (SFM : Sta Z Z.heap xS6 "SIOOBE_FORMATTER" xS9 fm) (hcs : ¬ (cs = (0 : Int32))) (hfm : fm.isRef = true) :
    CtrH l Z consts_1 h0 (⟨xS1, "parse", xS11⟩ : MethodName) k44 5 (some (.object xS1)) [] ({ frames := 4, cells := 9, slots := 63, locals := 59 } : Room) #[(.ref s)] (Q_cprs0 Z s v kv cs fm h0) := by
  refine enterH (plainFor_of_name pn6) ?_
  intro pp ee ss mm below meth cc s₁ hx hby hml hZ hown hnm hret hlk X0 e0 hs0 hS hC
  replace hown : (ss.setVm ss.vm).vm.findClass xS1 = some mm.cls := hown
  have hKd := Nat.zero_le h0.size
  refine Go.r (congrArg s₁.setTop (ef_cprs0 mm s)) ?_
  have N0 := Fr.nil Z.heap.size
  have KP := Keep.refl h0 []
  show Go pp ee below _ (s₁.setTop (mkF mm 0 #[.val (.ref s), .unset, .unset, .unset, .unset] []))
  refine Go.g X0 hx (hb hby d44_0) rfl rfl (q := 1) rfl ?_
  refine Go.jt X0 hx hZ hown (wd228 hw) (own_wS hw) e0 hS hKd (own_EW hw) hC (hb hby d44_1) (nn := 16) (by decide) (by decide) (by decide) (by decide) (q := 3) rfl ?_
  intro b101 T101 h101 k101 X101 e101 E101 hS hKd hZ hown hR101
  replace hC := hC.trans hR101
  replace Es := Es.ext E101
  replace Cs := Cs.ext E101
  replace Fs := Fs.ext E101
  replace Vs := Vs.ext E101
  have OE101 := ext_trans O0 E101
  replace KP := KP.ext E101
  refine Go.A X101 hx hZ hown (wd54 hw) (wd55 hw) (wd56 hw) (wd57 hw) (by decide) (creq l Z a0 hw s b101 h101 OE101) e101 (by rw [hml]; rfl) (hb hby d44_3) (argsL := [(.ref s), (.ref b101)]) (rest := []) (lenOf pd9 rfl) rfl rfl (W := 0) (Nat.le_refl _) (by decide) ?_
  intro v102 T102 L102 X102 hQ102
  obtain ⟨rfl, N102q, e102⟩ := hQ102
  have N102 := Fr.app N0 N102q
  refine Go.jo X102 hx (hb hby d44_6) rfl (q := 7) rfl ?_
  refine Go.g X102 hx (hb hby d44_7) rfl rfl (q := 8) rfl ?_
  refine Go.jv X102 hx hZ hown (wd229 hw) (own_wS hw) e102 hS hKd (own_EW hw) (List.mem_of_getElem? (i := 1) rfl) hC (vs := [(.int 87), (.int 47)]) (z := (2 : Int32)) ⟨by decide, rfl⟩ (by decide) rfl (hb hby d44_8) (nn := 8) (by decide) (by decide) (by decide) (by decide) (q := 10) rfl ?_
  intro b103 u103 kc103 T103 h103 k103 X103 e103 E103 hS hKd hZ hown B103 C103 F103 V103 hR103
  replace hC := hC.trans hR103
  replace Es := Es.ext E103
  replace Cs := Cs.ext E103
  replace Fs := Fs.ext E103
  replace Vs := Vs.ext E103
  have OE103 := ext_trans OE101 E103
  replace KP := KP.ext E103
  have ne_s_u103 := Exa.neArv Es V103 (wd6 hw)
  refine Go.u X103 hx hZ hown (wd230 hw) (wd231 hw) (notFace_of_selects (args := #[]) (mvT hZ (wd233 hw))) (wd233 hw) (wd232 hw) (wd7 hw) (wd234 hw) (by decide) (csw1 l Z a0 hw s b103 cs v u103 (kv) (kc103) ((2 : Int32)) ([(.int 34), (.int 34)]) h103 OE103 Es B103 Cs C103 Fs F103 Vs V103 SCS hcs (by decide) rfl (by decide)) e103 Es (by rw [hml]; rfl) (hb hby d44_10) (argsL := [(.ref b103)]) (rest := []) (lenOf pd37 rfl) rfl rfl (W := 0) (Nat.le_refl _) (by decide) ?_
  intro v104 T104 L104 X104 hQ104
  obtain ⟨rfl, N104q, e104⟩ := hQ104
  have N104 := Fr.app N102 N104q
  refine Go.P X104 hx (hb hby d44_13) (l' := #[.val (.ref s), .val (.int 0), .unset, .unset, .unset]) rfl (q := 14) rfl ?_
  refine Go.f X104 hx (hb hby d44_14) rfl (q := 15) rfl ?_
  refine Go.F X104 hx (hb hby d44_15) (by decide) (q := 26) (by decide) (by decide) ?_
  refine Go.i X104 hx (hb hby d44_26) (r := (0 : Int32)) rfl (q := 27) rfl ?_
  refine Go.P X104 hx (hb hby d44_27) (l' := #[.val (.ref s), .val (.int 0), .val (.int 0), .unset, .unset]) rfl (q := 28) rfl ?_
  refine Go.g X104 hx (hb hby d44_28) rfl rfl (q := 29) rfl ?_
  refine Go.u X104 hx hZ hown (wd58 hw) (wd59 hw) (notFace_of_selects (args := #[]) (mvT hZ (wd61 hw))) (wd61 hw) (wd60 hw) (wd7 hw) (wd62 hw) (by decide) (clen l Z a0 hw s cs v (kv) ((2 : Int32)) ([(.int 34), (.int 34)]) h103 OE103 Es Cs Fs Vs SCS hcs) e104 Es (by rw [hml]; rfl) (hb hby d44_29) (argsL := []) (rest := []) (lenOf pd10 rfl) rfl rfl (W := 0) (Nat.le_refl _) (by decide) ?_
  intro v105 T105 L105 X105 hQ105
  obtain ⟨rfl, N105q, e105⟩ := hQ105
  have N105 := Fr.app N104 N105q
  refine Go.i X105 hx (hb hby d44_32) (r := (1 : Int32)) rfl (q := 33) rfl ?_
  refine Go.ja X105 hx (hb hby d44_33) (r := (1 : Int32)) rfl (q := 34) rfl ?_
  refine Go.P X105 hx (hb hby d44_34) (l' := #[.val (.ref s), .val (.int 0), .val (.int 0), .val (.int 1), .unset]) rfl (q := 35) rfl ?_
  refine Go.f X105 hx (hb hby d44_35) rfl (q := 36) rfl ?_
  refine Go.f X105 hx (hb hby d44_36) rfl (q := 37) rfl ?_
  refine Go.t X105 hx (hb hby d44_37) (by decide) (q := 40) rfl ?_
  refine Go.g X105 hx (hb hby d44_40) rfl rfl (q := 41) rfl ?_
  refine Go.f X105 hx (hb hby d44_41) rfl (q := 42) rfl ?_
  refine Go.u X105 hx hZ hown (wd245 hw) (wd246 hw) (notFace_of_selects (args := #[]) (mvT hZ (wd248 hw))) (wd248 hw) (wd247 hw) (wd7 hw) (wd249 hw) (by decide) (cchar l Z a0 hw s ((0 : Int32)) cs v (kv) ((2 : Int32)) ([(.int 34), (.int 34)]) ((34 : Int32)) fm h103 OE103 Es Cs Fs Vs SCS SFM hcs hfm (by decide) (by decide) rfl) e105 Es (by rw [hml]; rfl) (hb hby d44_42) (argsL := [(.int 0)]) (rest := []) (lenOf pd11 rfl) rfl rfl (W := 0) (Nat.le_refl _) (by decide) ?_
  intro v106 T106 L106 X106 hQ106
  obtain ⟨rfl, N106q, e106⟩ := hQ106
  have N106 := Fr.app N105 N106q
  refine Go.E X106 hx (hb hby d44_45) (r := (34 : Int32)) rfl (q := 47) rfl ?_
  refine Go.t X106 hx (hb hby d44_47) (by decide) (q := 50) rfl ?_
  refine Go.g X106 hx (hb hby d44_50) rfl rfl (q := 51) rfl ?_
  refine Go.f X106 hx (hb hby d44_51) rfl (q := 52) rfl ?_
  refine Go.u X106 hx hZ hown (wd245 hw) (wd246 hw) (notFace_of_selects (args := #[]) (mvT hZ (wd248 hw))) (wd248 hw) (wd247 hw) (wd7 hw) (wd249 hw) (by decide) (cchar l Z a0 hw s ((1 : Int32)) cs v (kv) ((2 : Int32)) ([(.int 34), (.int 34)]) ((34 : Int32)) fm h103 OE103 Es Cs Fs Vs SCS SFM hcs hfm (by decide) (by decide) rfl) e106 Es (by rw [hml]; rfl) (hb hby d44_52) (argsL := [(.int 1)]) (rest := []) (lenOf pd11 rfl) rfl rfl (W := 0) (Nat.le_refl _) (by decide) ?_
  intro v107 T107 L107 X107 hQ107
  obtain ⟨rfl, N107q, e107⟩ := hQ107
  have N107 := Fr.app N106 N107q
  refine Go.E X107 hx (hb hby d44_55) (r := (34 : Int32)) rfl (q := 57) rfl ?_
  refine Go.y X107 hx (hb hby d44_57) (by decide) (q := 70) (by decide) (by decide) ?_
  refine Go.g X107 hx (hb hby d44_70) rfl rfl (q := 71) rfl ?_
  refine Go.f X107 hx (hb hby d44_71) rfl (q := 72) rfl ?_
  refine Go.i X107 hx (hb hby d44_72) (r := (1 : Int32)) rfl (q := 73) rfl ?_
  refine Go.jh X107 hx (hb hby d44_73) (r := (1 : Int32)) rfl (q := 74) rfl ?_
  refine Go.f X107 hx (hb hby d44_74) rfl (q := 75) rfl ?_
  refine Go.ju X107 hx hZ hown hS hKd (own_EW hw) hC (wd266 hw) (wd267 hw) (notFace_of_selects (args := #[]) (mvT hZ (wd269 hw))) (wd269 hw) (wd268 hw) (wd7 hw) (wd270 hw) (by decide) (csub0 l Z a0 hw s cs fm v (kv) h103 OE103 Es Cs Fs Vs SCS SFM hcs hfm) e107 Es (by rw [hml]; rfl) (hb hby d44_75) (argsL := [(.int 1), (.int 1)]) (rest := []) (lenOf pd38 rfl) rfl rfl (W := 0) (Nat.le_refl _) (by decide) ?_
  intro v108 T108 L108 k108 X108 hS hKd hZ hown hR108 hQ108
  obtain ⟨h108, e108⟩ : ∃ z, T108.heap = z := ⟨_, rfl⟩
  rw [e108] at hQ108 hKd hR108
  obtain ⟨w_108, u_108, ku_108, rfl, N108q, K108, P108_0, P108_1, P108_2, P108_3⟩ := hQ108
  have N108 := Fr.app N107 N108q
  replace hC := hC.trans hR108
  replace Es := Es.keep K108
  replace Cs := Cs.keep K108 nin0
  replace Fs := Fs.keep K108 nin0
  replace Vs := Vs.keep K108 nin0
  replace B103 := B103.keep K108
  replace C103 := C103.keep K108 nin0
  replace F103 := F103.keep K108 nin0
  replace V103 := V103.keep K108 nin0
  have OK108 := ext_keep OE103 K108 all0
  replace KP := KP.trans K108 all0
  refine Go.f X108 hx (hb hby d44_78) rfl (q := 79) rfl ?_
  refine Go.i X108 hx (hb hby d44_79) (r := (1 : Int32)) rfl (q := 80) rfl ?_
  refine Go.jh X108 hx (hb hby d44_80) (r := (1 : Int32)) rfl (q := 81) rfl ?_
  refine Go.jk X108 hx hZ hown hS hKd (own_EW hw) hC (wd50 hw) (wd51 hw) (wd46 hw) (wd52 hw) (by decide) (cchk0 l Z a0 hw w_108 u_108 (ku_108) cs fm ((1 : Int32)) h108 OK108 P108_0 P108_1 P108_2 P108_3 SCS SFM hcs hfm) e108 (by rw [hml]; rfl) (hb hby d44_81) (argsL := [(.ref w_108), (.int 1)]) (rest := []) (lenOf pd12 rfl) rfl rfl (W := 0) (Nat.le_refl _) (by decide) ?_
  intro v109 T109 L109 k109 X109 hS hKd hZ hown hR109 hQ109
  obtain ⟨h109, e109⟩ : ∃ z, T109.heap = z := ⟨_, rfl⟩
  rw [e109] at hQ109 hKd hR109
  obtain ⟨rfl, N109q, K109⟩ := hQ109
  have N109 := Fr.app N108 N109q
  replace hC := hC.trans hR109
  replace Es := Es.keep K109
  replace Cs := Cs.keep K109 nin0
  replace Fs := Fs.keep K109 nin0
  replace Vs := Vs.keep K109 nin0
  replace B103 := B103.keep K109
  replace C103 := C103.keep K109 nin0
  replace F103 := F103.keep K109 nin0
  replace V103 := V103.keep K109 nin0
  replace P108_0 := P108_0.keep K109
  replace P108_1 := P108_1.keep K109 nin0
  replace P108_2 := P108_2.keep K109 nin0
  replace P108_3 := P108_3.keep K109 nin0
  have OK109 := ext_keep OK108 K109 all0
  replace KP := KP.trans K109 all0
  refine Go.V X109 hx (hb hby d44_84) rfl (l' := #[.val (.ref s), .val (.int 0), .val (.int 0), .val (.int 1), .val (.ref w_108)]) rfl (q := 86) rfl ?_
  refine Go.jd X109 hx hZ hown (wd48 hw) (wd49 hw) (wd46 hw) e109 (hb hby d44_86) (by decide) (by decide) (q := 89) rfl ?_
  intro b110 T110 h110 X110 e110 q110 E110 A110 D110 U110
  have ne_s_b110 : s ≠ b110 := ne_new Es.lt (Nat.le_of_eq q110)
  have ne_v_b110 : v ≠ b110 := ne_new Vs.lt (Nat.le_of_eq q110)
  have ne_b103_b110 : b103 ≠ b110 := ne_new B103.lt (Nat.le_of_eq q110)
  have ne_u103_b110 : u103 ≠ b110 := ne_new V103.lt (Nat.le_of_eq q110)
  have ne_w_108_b110 : w_108 ≠ b110 := ne_new P108_0.lt (Nat.le_of_eq q110)
  have ne_u_108_b110 : u_108 ≠ b110 := ne_new P108_3.lt (Nat.le_of_eq q110)
  have g_b110 : Z.heap.size ≤ b110 := Nat.le_trans OK109.1 (Nat.le_of_eq q110)
  have z_b110 : h0.size ≤ b110 := Nat.le_trans KP.1 (Nat.le_of_eq q110)
  replace hC := hC.trans (CHr.ext E110 hC.1)
  replace Es := Es.ext E110
  replace Cs := Cs.ext E110
  replace Fs := Fs.ext E110
  replace Vs := Vs.ext E110
  replace B103 := B103.ext E110
  replace C103 := C103.ext E110
  replace F103 := F103.ext E110
  replace V103 := V103.ext E110
  replace P108_0 := P108_0.ext E110
  replace P108_1 := P108_1.ext E110
  replace P108_2 := P108_2.ext E110
  replace P108_3 := P108_3.ext E110
  have OE110 := ext_trans OK109 E110
  replace hKd := Nat.le_trans hKd E110.1
  replace KP := KP.ext E110
  have F110_weak : Fld Z h110 b110 xS1 "weak" "Z" (.int 0) := D110 (Or.inr (wd73 hw)) (ty := .boolean) (by decide)
  have F110_value : Fld Z h110 b110 xS1 "value" xS4 .null := D110 (Or.inr (wd75 hw)) (ty := (.object xS0)) (by decide)
  have F110_field : Fld Z h110 b110 xS1 "field" xS4 .null := D110 (Or.inl (wd97 hw)) (ty := (.object xS0)) (by decide)
  clear D110
  refine Go.N X110 hx (hb hby d44_89) rfl (q := 90) rfl ?_
  refine Go.f X110 hx (hb hby d44_90) rfl (q := 91) rfl ?_
  refine Go.w X110 hx (hb hby d44_91) rfl rfl (q := 93) rfl ?_
  refine Go.Y X110 hx hZ hown rfl (wd68 hw) (wd69 hw) (wd46 hw) (wd70 hw) (by decide) (ceti l Z a0 hw b110 w_108 h110 OE110 A110 g_b110 F110_weak F110_value F110_field) e110 (by rw [hml]; rfl) (hb hby d44_93) (argsL := [(.int 0), (.ref w_108)]) (rest := [(.ref b110)]) (lenOf pd13 rfl) rfl rfl (W := 1) (Nat.le_refl _) (by decide) ?_
  intro v111 T111 L111 X111 hQ111
  obtain ⟨h111, e111⟩ : ∃ z, T111.heap = z := ⟨_, rfl⟩
  rw [e111] at hQ111
  obtain ⟨rfl, N111q, K111, P111_0, P111_1, P111_2⟩ := hQ111
  have N111 := Fr.app N109 N111q
  replace hKd := Nat.le_trans hKd K111.1
  have hSk : ∀ x ∈ [b110], Safe Z consts_1 T109.vm h110 x := (allS (Safe.exa hZ.alike A110 (by decide) (by decide)) all0)
  replace hC := hC.trans (CHr.keep K111 hSk hC.1)
  replace Es := Es.keep K111
  replace Cs := Cs.keep K111 (ninS ne_s_b110 nin0)
  replace Fs := Fs.keep K111 (ninS ne_s_b110 nin0)
  replace Vs := Vs.keep K111 (ninS ne_v_b110 nin0)
  replace B103 := B103.keep K111
  replace C103 := C103.keep K111 (ninS ne_b103_b110 nin0)
  replace F103 := F103.keep K111 (ninS ne_b103_b110 nin0)
  replace V103 := V103.keep K111 (ninS ne_u103_b110 nin0)
  replace P108_0 := P108_0.keep K111
  replace P108_1 := P108_1.keep K111 (ninS ne_w_108_b110 nin0)
  replace P108_2 := P108_2.keep K111 (ninS ne_w_108_b110 nin0)
  replace P108_3 := P108_3.keep K111 (ninS ne_u_108_b110 nin0)
  replace A110 := A110.keep K111
  have OK111 := ext_keep OE110 K111 (allS g_b110 all0)
  replace KP := KP.trans K111 (allS (Or.inr z_b110) all0)
  exact Go.jm X111 hx hS hKd hs0 hZ (own_EW hw) hC hret hlk rfl rfl (hb hby d44_96) e111 (by decide) (by decide) ⟨b110, w_108, u_108, ku_108, rfl, N111, KP, z_b110, A110, P111_0, P111_1, P111_2, P108_0, P108_1, P108_2, P108_3⟩
def Q_cete0 (Z : State) (o q t1 t2 v1 v2 : Addr) (k1 k2 : ClassId) (cs : Int32) (h0 : Heap) (vR : Option Value) (hR : Heap) (LR : List Loc) : Prop := vR = some (.int 1) ∧ Fr Z.heap.size LR ∧ hR = h0
theorem cete0 (l : Launch) (Z : State) (a0 : Array Value) (hw : ∀ d ∈ tables_1, d.before a0 Z = true) (o q t1 t2 v1 v2 : Addr) (k1 k2 : ClassId) (cs : Int32) (h0 : Heap) (O0 : Ext Z.heap h0) (Eq_ : Exa Z h0 q xS1) (noq : o ≠ q) (A0 : Fld Z h0 o xS1 "weak" "Z" (.int 0)) (A1 : Fld Z h0 q xS1 "weak" "Z" (.int 0)) (A2 : Fld Z h0 o xS1 "value" xS4 (.ref t1)) (A3 : Fld Z h0 q xS1 "value" xS4 (.ref t2)) (E1 : Exa Z h0 t1 xS0) (E2 : Exa Z h0 t2 xS0) (C1 : Fld Z h0 t1 xS0 "coder" "B" (.int 0)) (C2 : Fld Z h0 t2 xS0 "coder" "B" (.int 0)) (F1 : Fld Z h0 t1 xS0 "value" "[B" (.ref v1)) (F2 : Fld Z h0 t2 xS0 "value" "[B" (.ref v2)) (V1 : Arv Z h0 v1 k1 .byte (0 : Int32) [] (.int 0)) (V2 : Arv Z h0 v2 k2 .byte (0 : Int32) [] (.int 0)) (SCS : Sta Z Z.heap xS0 xS3 "Z" (.int cs)) (hcs : ¬ (cs = (0 : Int32))) :
    Ctr l Z h0 (⟨xS1, "equals", "(Ljava/lang/Object;)Z"⟩ : MethodName) k57 3 (some .boolean) [] ({ frames := 2, cells := 0, slots := 0, locals := 28 } : Room) #[(.ref o), (.ref q)] (Q_cete0 Z o q t1 t2 v1 v2 k1 k2 cs h0) := by
  refine enter (plainFor_of_name pn6) ?_
  intro pp ee ss mm below meth cc s₁ hx hby hml hZ hown hnm hret hlk X0 e0 hs0
  replace hown : ss.vm.findClass xS1 = some mm.cls := hown
  refine Go.r (congrArg s₁.setTop (ef_cete0 mm o q)) ?_
  have N0 := Fr.nil Z.heap.size
  show Go pp ee below _ (s₁.setTop (mkF mm 0 #[.val (.ref o), .val (.ref q), .unset] []))
  refine Go.g X0 hx (hb hby d57_0) rfl rfl (q := 1) rfl ?_
  refine Go.g X0 hx (hb hby d57_1) rfl rfl (q := 2) rfl ?_
  refine Go.jp X0 hx rfl rfl (hb hby d57_2) (same := false) (decide_eq_false fun q => noq (Value.ref.inj q)) (q := 7) (by decide) (by decide) ?_
  refine Go.g X0 hx (hb hby d57_7) rfl rfl (q := 8) rfl ?_
  refine Go.js X0 hx hZ hown (wd48 hw) e0 (Ins.self Eq_) (hb hby d57_8) (q := 11) rfl ?_
  intro T101 X101 e101
  refine Go.F X101 hx (hb hby d57_11) (by decide) (q := 16) (by decide) (by decide) ?_
  refine Go.g X101 hx (hb hby d57_16) rfl rfl (q := 17) rfl ?_
  refine Go.jr X101 hx hZ hown (wd48 hw) e101 (Ins.self Eq_) (hb hby d57_17) (q := 20) rfl ?_
  intro T102 X102 e102
  refine Go.jf X102 hx (hb hby d57_20) rfl (l' := #[.val (.ref o), .val (.ref q), .val (.ref q)]) rfl (q := 21) rfl ?_
  refine Go.g X102 hx (hb hby d57_21) rfl rfl (q := 22) rfl ?_
  refine Go.B X102 hx hZ hown (host := "") (Or.inl (wd72 hw)) Via.refl e102 A0 (hb hby d57_22) (q := 25) rfl ?_
  intro T103 X103 e103
  refine Go.g X103 hx (hb hby d57_25) rfl rfl (q := 26) rfl ?_
  refine Go.B X103 hx hZ hown (host := "") (Or.inl (wd72 hw)) Via.refl e103 A1 (hb hby d57_26) (q := 29) rfl ?_
  intro T104 X104 e104
  refine Go.t X104 hx (hb hby d57_29) (by decide) (q := 32) rfl ?_
  refine Go.g X104 hx (hb hby d57_32) rfl rfl (q := 33) rfl ?_
  refine Go.B X104 hx hZ hown (host := "") (Or.inl (wd74 hw)) Via.refl e104 A2 (hb hby d57_33) (q := 36) rfl ?_
  intro T105 X105 e105
  refine Go.g X105 hx (hb hby d57_36) rfl rfl (q := 37) rfl ?_
  refine Go.B X105 hx hZ hown (host := "") (Or.inl (wd74 hw)) Via.refl e105 A3 (hb hby d57_37) (q := 40) rfl ?_
  intro T106 X106 e106
  refine Go.u X106 hx hZ hown (wd224 hw) (wd87 hw) (notFace_of_selects (args := #[]) (mvT hZ (wd89 hw))) (wd89 hw) (wd88 hw) (wd7 hw) (wd90 hw) (by decide) (cse0x l Z a0 hw t1 t2 cs v1 v2 (k1) (k2) h0 O0 E1 E2 C1 C2 F1 F2 V1 V2 SCS hcs) e106 E1 (by rw [hml]; rfl) (hb hby d57_40) (argsL := [(.ref t2)]) (rest := []) (lenOf pd31 rfl) rfl rfl (W := 0) (Nat.le_refl _) (by decide) ?_
  intro v107 T107 L107 X107 hQ107
  obtain ⟨rfl, N107q, e107⟩ := hQ107
  have N107 := Fr.app N0 N107q
  refine Go.L X107 hx (hb hby d57_43) (by decide) (q := 46) rfl ?_
  refine Go.i X107 hx (hb hby d57_46) (r := (1 : Int32)) rfl (q := 47) rfl ?_
  refine Go.D X107 hx (hb hby d57_47) (q := 51) (by decide) (by decide) ?_
  exact Go.M X107 hx hret hlk (by simp) rfl (hb hby d57_51) e107 (by decide) (by decide) ⟨rfl, N107, rfl⟩
def Q_ccsb1 (Z : State) (v : Addr) (kv : ClassId) (c0 : Int32) (h0 : Heap) (vR : Option Value) (hR : Heap) (LR : List Loc) : Prop := ∃ u : Addr, ∃ ku : ClassId, vR = some (.ref u) ∧ Fr Z.heap.size LR ∧ Keep h0 hR [] ∧ h0.size ≤ u ∧ Arv Z hR u ku .byte (1 : Int32) [(.int (c0.toInt8.toInt32))] (.int 0)
theorem ccsb1 (l : Launch) (Z : State) (a0 : Array Value) (hw : ∀ d ∈ tables_1, d.before a0 Z = true) (v : Addr) (kv : ClassId) (c0 : Int32) (h0 : Heap) (O0 : Ext Z.heap h0) (Vv : Arv Z h0 v kv .byte (3 : Int32) [(.int 34), (.int (c0.toInt8.toInt32)), (.int 34)] (.int 0)) :
    Ctr l Z h0 (⟨"java/util/Arrays", "copyOfRangeByte", "([BII)[B"⟩ : MethodName) k39 5 (some (.array .byte)) [] ({ frames := 1, cells := 1, slots := 1, locals := 18 } : Room) #[(.ref v), (.int 1), (.int 2)] (Q_ccsb1 Z v kv c0 h0) := by
  refine enter (plainFor_of_name pn9) ?_
  intro pp ee ss mm below meth cc s₁ hx hby hml hZ hown hnm hret hlk X0 e0 hs0
  replace hown : ss.vm.findClass "java/util/Arrays" = some mm.cls := hown
  refine Go.r (congrArg s₁.setTop (ef_ccsb1 mm v)) ?_
  have N0 := Fr.nil Z.heap.size
  have KP := Keep.refl h0 []
  show Go pp ee below _ (s₁.setTop (mkF mm 0 #[.val (.ref v), .val (.int 1), .val (.int 2), .unset, .unset] []))
  refine Go.f X0 hx (hb hby d39_0) rfl (q := 1) rfl ?_
  refine Go.f X0 hx (hb hby d39_1) rfl (q := 2) rfl ?_
  refine Go.A X0 hx hZ hown (wd206 hw) (wd207 hw) (wd201 hw) (wd208 hw) (by decide) (cchl l Z a0 hw ((1 : Int32)) ((2 : Int32)) h0 O0 (by decide)) e0 (by rw [hml]; rfl) (hb hby d39_2) (argsL := [(.int 1), (.int 2)]) (rest := []) (lenOf pd6 rfl) rfl rfl (W := 0) (Nat.le_refl _) (by decide) ?_
  intro v101 T101 L101 X101 hQ101
  obtain ⟨rfl, N101q, e101⟩ := hQ101
  have N101 := Fr.app N0 N101q
  refine Go.f X101 hx (hb hby d39_5) rfl (q := 6) rfl ?_
  refine Go.f X101 hx (hb hby d39_6) rfl (q := 7) rfl ?_
  refine Go.ja X101 hx (hb hby d39_7) (r := (1 : Int32)) rfl (q := 8) rfl ?_
  refine Go.P X101 hx (hb hby d39_8) (l' := #[.val (.ref v), .val (.int 1), .val (.int 2), .val (.int 1), .unset]) rfl (q := 9) rfl ?_
  refine Go.f X101 hx (hb hby d39_9) rfl (q := 10) rfl ?_
  refine Go.ji X101 hx hZ (hb hby d39_10) (wd23 hw) e101 (by decide) (cap := 1) (by decide) (by decide) (by decide) (by decide) (ad := "[B") rfl (q := 12) rfl ?_
  intro b102 T102 h102 k102 X102 e102 q102 E102 V102 B102
  have ne_v_b102 : v ≠ b102 := ne_new Vv.lt (Nat.le_of_eq q102)
  have g_b102 : Z.heap.size ≤ b102 := Nat.le_trans O0.1 (Nat.le_of_eq q102)
  have z_b102 : h0.size ≤ b102 := Nat.le_trans KP.1 (Nat.le_of_eq q102)
  replace Vv := Vv.ext E102
  have OE102 := ext_trans O0 E102
  replace KP := KP.ext E102
  replace V102 : Arv Z h102 b102 k102 .byte (1 : Int32) [(.int 0)] (.int 0) := V102.pad (pad_rep [] (.int 0) 1)
  refine Go.V X102 hx (hb hby d39_12) rfl (l' := #[.val (.ref v), .val (.int 1), .val (.int 2), .val (.int 1), .val (.ref b102)]) rfl (q := 14) rfl ?_
  refine Go.g X102 hx (hb hby d39_14) rfl rfl (q := 15) rfl ?_
  refine Go.f X102 hx (hb hby d39_15) rfl (q := 16) rfl ?_
  refine Go.w X102 hx (hb hby d39_16) rfl rfl (q := 18) rfl ?_
  refine Go.i X102 hx (hb hby d39_18) (r := (0 : Int32)) rfl (q := 19) rfl ?_
  refine Go.g X102 hx (hb hby d39_19) rfl rfl (q := 20) rfl ?_
  refine Go.J X102 hx hZ e102 Vv (hb hby d39_20) ?_
  refine Go.f X102 hx (hb hby d39_21) rfl (q := 22) rfl ?_
  refine Go.ja X102 hx (hb hby d39_22) (r := (2 : Int32)) rfl (q := 23) rfl ?_
  refine Go.f X102 hx (hb hby d39_23) rfl (q := 24) rfl ?_
  refine Go.A X102 hx hZ hown (wd209 hw) (wd210 hw) (wd211 hw) (wd212 hw) (by decide) (cmin2 l Z a0 hw ((2 : Int32)) ((1 : Int32)) h102 OE102 (by decide)) e102 (by rw [hml]; rfl) (hb hby d39_24) (argsL := [(.int 2), (.int 1)]) (rest := [(.int 0), (.ref b102), (.int 1), (.ref v)]) (lenOf pd21 rfl) rfl rfl (W := 4) (Nat.le_refl _) (by decide) ?_
  intro v103 T103 L103 X103 hQ103
  obtain ⟨rfl, N103q, e103⟩ := hQ103
  have N103 := Fr.app N101 N103q
  obtain ⟨T104, h104, L104, X104, e104, N104, K104, V104, st104⟩ := cpA X103 hx hZ hown (wd213 hw) (wd154 hw) (wd152 hw) (wd153 hw) e103 Vv V102 (us := [(.int (c0.toInt8.toInt32))]) (sp := (1 : Int32)) (dp := (0 : Int32)) (nn := (1 : Int32)) (Or.inl ⟨rfl, rfl⟩) (by decide) (by decide) (by decide) (by decide) (by decide) rfl (Nat.le_of_ble_eq_true rfl) N103 g_b102 (g := (mkF mm 27 #[.val (.ref v), .val (.int 1), .val (.int 2), .val (.int 1), .val (.ref b102)] [(.int 1), (.int 0), (.ref b102), (.int 1), (.ref v)])) rfl (by rw [hml]; rfl) rfl (hb hby d39_27) (by decide) (W := 0) (by show 2 * 0 + _ ≤ _; exact Nat.le_of_eq rfl) (by decide)
  refine Go.I st104 ?_
  replace Vv := Vv.keep K104 (ninS ne_v_b102 nin0)
  replace B102 := B102.keep K104
  have OK104 := ext_keep OE102 K104 (allS g_b102 all0)
  replace KP := KP.trans K104 (allS (Or.inr z_b102) all0)
  replace V104 : Arv Z h104 b102 k102 .byte (1 : Int32) [(.int (c0.toInt8.toInt32))] (.int 0) := V104
  show Go pp ee below _ (T104.setTop (mkF mm 30 #[.val (.ref v), .val (.int 1), .val (.int 2), .val (.int 1), .val (.ref b102)] []))
  refine Go.w X104 hx (hb hby d39_30) rfl rfl (q := 32) rfl ?_
  exact Go.U X104 hx hret hlk rfl rfl (hb hby d39_32) e104 (by decide) (by decide) ⟨b102, k102, rfl, N104, KP, z_b102, V104⟩
def Q_ccs1 (Z : State) (v : Addr) (kv : ClassId) (c0 : Int32) (h0 : Heap) (vR : Option Value) (hR : Heap) (LR : List Loc) : Prop := ∃ u : Addr, ∃ ku : ClassId, vR = some (.ref u) ∧ Fr Z.heap.size LR ∧ Keep h0 hR [] ∧ h0.size ≤ u ∧ Arv Z hR u ku .byte (1 : Int32) [(.int (c0.toInt8.toInt32))] (.int 0)
theorem ccs1 (l : Launch) (Z : State) (a0 : Array Value) (hw : ∀ d ∈ tables_1, d.before a0 Z = true) (v : Addr) (kv : ClassId) (c0 : Int32) (h0 : Heap) (O0 : Ext Z.heap h0) (Vv : Arv Z h0 v kv .byte (3 : Int32) [(.int 34), (.int (c0.toInt8.toInt32)), (.int 34)] (.int 0)) :
    Ctr l Z h0 (⟨"java/util/Arrays", "copyOfRange", "([BII)[B"⟩ : MethodName) k38 3 (some (.array .byte)) [] ({ frames := 2, cells := 1, slots := 1, locals := 34 } : Room) #[(.ref v), (.int 1), (.int 2)] (Q_ccs1 Z v kv c0 h0) := by
  refine enter (plainFor_of_name pn9) ?_
  intro pp ee ss mm below meth cc s₁ hx hby hml hZ hown hnm hret hlk X0 e0 hs0
  replace hown : ss.vm.findClass "java/util/Arrays" = some mm.cls := hown
  refine Go.r (congrArg s₁.setTop (ef_ccs1 mm v)) ?_
  have N0 := Fr.nil Z.heap.size
  have KP := Keep.refl h0 []
  show Go pp ee below _ (s₁.setTop (mkF mm 0 #[.val (.ref v), .val (.int 1), .val (.int 2)] []))
  refine Go.f X0 hx (hb hby d38_0) rfl (q := 1) rfl ?_
  refine Go.F X0 hx (hb hby d38_1) (by decide) (q := 10) (by decide) (by decide) ?_
  refine Go.g X0 hx (hb hby d38_10) rfl rfl (q := 11) rfl ?_
  refine Go.f X0 hx (hb hby d38_11) rfl (q := 12) rfl ?_
  refine Go.f X0 hx (hb hby d38_12) rfl (q := 13) rfl ?_
  refine Go.A X0 hx hZ hown (wd203 hw) (wd204 hw) (wd201 hw) (wd205 hw) (by decide) (ccsb1 l Z a0 hw v (kv) c0 h0 O0 Vv) e0 (by rw [hml]; rfl) (hb hby d38_13) (argsL := [(.ref v), (.int 1), (.int 2)]) (rest := []) (lenOf pd22 rfl) rfl rfl (W := 0) (Nat.le_refl _) (by decide) ?_
  intro v101 T101 L101 X101 hQ101
  obtain ⟨h101, e101⟩ : ∃ z, T101.heap = z := ⟨_, rfl⟩
  rw [e101] at hQ101
  obtain ⟨u_101, ku_101, rfl, N101q, K101, fr101_u, P101_0⟩ := hQ101
  have N101 := Fr.app N0 N101q
  have ne_v_u_101 : v ≠ u_101 := ne_new Vv.lt fr101_u
  have g_u_101 : Z.heap.size ≤ u_101 := Nat.le_trans O0.1 fr101_u
  have z_u_101 : h0.size ≤ u_101 := Nat.le_trans KP.1 fr101_u
  replace Vv := Vv.keep K101 nin0
  have OK101 := ext_keep O0 K101 all0
  replace KP := KP.trans K101 all0
  exact Go.U X101 hx hret hlk rfl rfl (hb hby d38_16) e101 (by decide) (by decide) ⟨u_101, ku_101, rfl, N101, KP, z_u_101, P101_0⟩
def Q_cnew1 (Z : State) (v : Addr) (kv : ClassId) (c0 : Int32) (h0 : Heap) (vR : Option Value) (hR : Heap) (LR : List Loc) : Prop := ∃ w : Addr, ∃ u : Addr, ∃ ku : ClassId, vR = some (.ref w) ∧ Fr Z.heap.size LR ∧ Keep h0 hR [] ∧ h0.size ≤ w ∧ Exa Z hR w xS0 ∧ Fld Z hR w xS0 "coder" "B" (.int 0) ∧ Fld Z hR w xS0 "value" "[B" (.ref u) ∧ Arv Z hR u ku .byte (1 : Int32) [(.int (c0.toInt8.toInt32))] (.int 0)
theorem cnew1 (l : Launch) (Z : State) (a0 : Array Value) (hw : ∀ d ∈ tables_1, d.before a0 Z = true) (v : Addr) (kv : ClassId) (c0 : Int32) (h0 : Heap) (O0 : Ext Z.heap h0) (Vv : Arv Z h0 v kv .byte (3 : Int32) [(.int 34), (.int (c0.toInt8.toInt32)), (.int 34)] (.int 0)) :
    Ctr l Z h0 (⟨xS7, "newString", "([BII)Ljava/lang/String;"⟩ : MethodName) k56 3 (some (.object xS0)) [] ({ frames := 3, cells := 2, slots := 5, locals := 50 } : Room) #[(.ref v), (.int 1), (.int 1)] (Q_cnew1 Z v kv c0 h0) := by
  refine enter (plainFor_of_name pn4) ?_
  intro pp ee ss mm below meth cc s₁ hx hby hml hZ hown hnm hret hlk X0 e0 hs0
  replace hown : ss.vm.findClass xS7 = some mm.cls := hown
  refine Go.r (congrArg s₁.setTop (ef_cnew1 mm v)) ?_
  have N0 := Fr.nil Z.heap.size
  have KP := Keep.refl h0 []
  show Go pp ee below _ (s₁.setTop (mkF mm 0 #[.val (.ref v), .val (.int 1), .val (.int 1)] []))
  refine Go.f X0 hx (hb hby d56_0) rfl (q := 1) rfl ?_
  refine Go.F X0 hx (hb hby d56_1) (by decide) (q := 7) (by decide) (by decide) ?_
  refine Go.jd X0 hx hZ hown (wd287 hw) (wd6 hw) (wd7 hw) e0 (hb hby d56_7) (by decide) (by decide) (q := 10) rfl ?_
  intro b101 T101 h101 X101 e101 q101 E101 A101 D101 U101
  have ne_v_b101 : v ≠ b101 := ne_new Vv.lt (Nat.le_of_eq q101)
  have g_b101 : Z.heap.size ≤ b101 := Nat.le_trans O0.1 (Nat.le_of_eq q101)
  have z_b101 : h0.size ≤ b101 := Nat.le_trans KP.1 (Nat.le_of_eq q101)
  replace Vv := Vv.ext E101
  have OE101 := ext_trans O0 E101
  replace KP := KP.ext E101
  have F101_value : Fld Z h101 b101 xS0 "value" "[B" .null := D101 (Or.inr (wd24 hw)) (ty := (.array .byte)) (by decide)
  have F101_coder : Fld Z h101 b101 xS0 "coder" "B" (.int 0) := D101 (Or.inr (wd25 hw)) (ty := .byte) (by decide)
  clear D101
  refine Go.N X101 hx (hb hby d56_10) rfl (q := 11) rfl ?_
  refine Go.g X101 hx (hb hby d56_11) rfl rfl (q := 12) rfl ?_
  refine Go.f X101 hx (hb hby d56_12) rfl (q := 13) rfl ?_
  refine Go.f X101 hx (hb hby d56_13) rfl (q := 14) rfl ?_
  refine Go.f X101 hx (hb hby d56_14) rfl (q := 15) rfl ?_
  refine Go.jh X101 hx (hb hby d56_15) (r := (2 : Int32)) rfl (q := 16) rfl ?_
  refine Go.A X101 hx hZ hown (wd288 hw) (wd200 hw) (wd201 hw) (wd202 hw) (by decide) (ccs1 l Z a0 hw v (kv) c0 h101 OE101 Vv) e101 (by rw [hml]; rfl) (hb hby d56_16) (argsL := [(.ref v), (.int 1), (.int 2)]) (rest := [(.ref b101), (.ref b101)]) (lenOf pd22 rfl) rfl rfl (W := 2) (Nat.le_refl _) (by decide) ?_
  intro v102 T102 L102 X102 hQ102
  obtain ⟨h102, e102⟩ : ∃ z, T102.heap = z := ⟨_, rfl⟩
  rw [e102] at hQ102
  obtain ⟨u_102, ku_102, rfl, N102q, K102, fr102_u, P102_0⟩ := hQ102
  have N102 := Fr.app N0 N102q
  have ne_v_u_102 : v ≠ u_102 := ne_new Vv.lt fr102_u
  have ne_b101_u_102 : b101 ≠ u_102 := ne_new A101.lt fr102_u
  have g_u_102 : Z.heap.size ≤ u_102 := Nat.le_trans OE101.1 fr102_u
  have z_u_102 : h0.size ≤ u_102 := Nat.le_trans KP.1 fr102_u
  replace Vv := Vv.keep K102 nin0
  replace A101 := A101.keep K102
  replace F101_value := F101_value.keep K102 nin0
  replace F101_coder := F101_coder.keep K102 nin0
  have OK102 := ext_keep OE101 K102 all0
  replace KP := KP.trans K102 all0
  refine Go.i X102 hx (hb hby d56_19) (r := (0 : Int32)) rfl (q := 20) rfl ?_
  refine Go.Y X102 hx hZ hown rfl (wd289 hw) (wd290 hw) (wd7 hw) (wd291 hw) (by decide) (cstr l Z a0 hw b101 u_102 h102 OK102 A101 F101_value F101_coder g_b101) e102 (by rw [hml]; rfl) (hb hby d56_20) (argsL := [(.ref u_102), (.int 0)]) (rest := [(.ref b101)]) (lenOf pd39 rfl) rfl rfl (W := 1) (Nat.le_refl _) (by decide) ?_
  intro v103 T103 L103 X103 hQ103
  obtain ⟨h103, e103⟩ : ∃ z, T103.heap = z := ⟨_, rfl⟩
  rw [e103] at hQ103
  obtain ⟨rfl, N103q, K103, P103_0, P103_1⟩ := hQ103
  have N103 := Fr.app N102 N103q
  replace Vv := Vv.keep K103 (ninS ne_v_b101 nin0)
  replace A101 := A101.keep K103
  replace P102_0 := P102_0.keep K103 (ninS (Ne.symm ne_b101_u_102) nin0)
  have OK103 := ext_keep OK102 K103 (allS g_b101 all0)
  replace KP := KP.trans K103 (allS (Or.inr z_b101) all0)
  exact Go.U X103 hx hret hlk rfl rfl (hb hby d56_23) e103 (by decide) (by decide) ⟨b101, u_102, ku_102, rfl, N103, KP, z_b101, A101, P103_1, P103_0, P102_0⟩
def Q_csub1 (Z : State) (s : Addr) (cs : Int32) (fm : Value) (v : Addr) (kv : ClassId) (c0 : Int32) (h0 : Heap) (vR : Option Value) (hR : Heap) (LR : List Loc) : Prop := ∃ w : Addr, ∃ u : Addr, ∃ ku : ClassId, vR = some (.ref w) ∧ Fr Z.heap.size LR ∧ Keep h0 hR [] ∧ h0.size ≤ w ∧ Exa Z hR w xS0 ∧ Fld Z hR w xS0 "coder" "B" (.int 0) ∧ Fld Z hR w xS0 "value" "[B" (.ref u) ∧ Arv Z hR u ku .byte (1 : Int32) [(.int (c0.toInt8.toInt32))] (.int 0)
theorem csub1 (l : Launch) (Z : State) (a0 : Array Value) (hw : ∀ d ∈ tables_1, d.before a0 Z = true) (s : Addr) (cs : Int32) (fm : Value) (v : Addr) (kv : ClassId) (c0 : Int32) (h0 : Heap) (O0 : Ext Z.heap h0) (Es : Exa Z h0 s xS0) (Cs : Fld Z h0 s xS0 "coder" "B" (.int 0)) (Fs : Fld Z h0 s xS0 "value" "[B" (.ref v)) (Vv : Arv Z h0 v kv .byte (3 : Int32) [(.int 34), (.int (c0.toInt8.toInt32)), (.int 34)] (.int 0)) (SCS : Sta Z Z.heap xS0 xS3 "Z" (.int cs)) (SFM : Sta Z Z.heap xS6 "SIOOBE_FORMATTER" xS9 fm) (hcs : ¬ (cs = (0 : Int32))) (hfm : fm.isRef = true) :
    Ctr l Z h0 (⟨xS0, "substring", "(II)Ljava/lang/String;"⟩ : MethodName) k53 5 (some (.object xS0)) [] ({ frames := 4, cells := 2, slots := 5, locals := 64 } : Room) #[(.ref s), (.int 1), (.int 2)] (Q_csub1 Z s cs fm v kv c0 h0) := by
  refine enter (plainFor_of_name pn1) ?_
  intro pp ee ss mm below meth cc s₁ hx hby hml hZ hown hnm hret hlk X0 e0 hs0
  replace hown : ss.vm.findClass xS0 = some mm.cls := hown
  refine Go.r (congrArg s₁.setTop (ef_csub1 mm s)) ?_
  have N0 := Fr.nil Z.heap.size
  have KP := Keep.refl h0 []
  show Go pp ee below _ (s₁.setTop (mkF mm 0 #[.val (.ref s), .val (.int 1), .val (.int 2), .unset, .unset] []))
  refine Go.g X0 hx (hb hby d53_0) rfl rfl (q := 1) rfl ?_
  refine Go.u X0 hx hZ hown (wd240 hw) (wd59 hw) (notFace_of_selects (args := #[]) (mvT hZ (wd61 hw))) (wd61 hw) (wd60 hw) (wd7 hw) (wd62 hw) (by decide) (clen l Z a0 hw s cs v (kv) ((3 : Int32)) ([(.int 34), (.int (c0.toInt8.toInt32)), (.int 34)]) h0 O0 Es Cs Fs Vv SCS hcs) e0 Es (by rw [hml]; rfl) (hb hby d53_1) (argsL := []) (rest := []) (lenOf pd10 rfl) rfl rfl (W := 0) (Nat.le_refl _) (by decide) ?_
  intro v101 T101 L101 X101 hQ101
  obtain ⟨rfl, N101q, e101⟩ := hQ101
  have N101 := Fr.app N0 N101q
  refine Go.P X101 hx (hb hby d53_4) (l' := #[.val (.ref s), .val (.int 1), .val (.int 2), .val (.int 3), .unset]) rfl (q := 5) rfl ?_
  refine Go.f X101 hx (hb hby d53_5) rfl (q := 6) rfl ?_
  refine Go.f X101 hx (hb hby d53_6) rfl (q := 7) rfl ?_
  refine Go.f X101 hx (hb hby d53_7) rfl (q := 8) rfl ?_
  refine Go.A X101 hx hZ hown (wd271 hw) (wd272 hw) (wd7 hw) (wd273 hw) (by decide) (cbbe l Z a0 hw ((1 : Int32)) ((2 : Int32)) ((3 : Int32)) fm h0 O0 SFM hfm (by decide) (by decide) (by decide)) e101 (by rw [hml]; rfl) (hb hby d53_8) (argsL := [(.int 1), (.int 2), (.int 3)]) (rest := []) (lenOf pd35 rfl) rfl rfl (W := 0) (Nat.le_refl _) (by decide) ?_
  intro v102 T102 L102 X102 hQ102
  obtain ⟨rfl, N102q, e102⟩ := hQ102
  have N102 := Fr.app N101 N102q
  refine Go.f X102 hx (hb hby d53_11) rfl (q := 12) rfl ?_
  refine Go.F X102 hx (hb hby d53_12) (by decide) (q := 22) (by decide) (by decide) ?_
  refine Go.f X102 hx (hb hby d53_22) rfl (q := 23) rfl ?_
  refine Go.f X102 hx (hb hby d53_23) rfl (q := 24) rfl ?_
  refine Go.ja X102 hx (hb hby d53_24) (r := (1 : Int32)) rfl (q := 25) rfl ?_
  refine Go.G X102 hx (hb hby d53_25) (l' := #[.val (.ref s), .val (.int 1), .val (.int 2), .val (.int 3), .val (.int 1)]) rfl (q := 27) rfl ?_
  refine Go.g X102 hx (hb hby d53_27) rfl rfl (q := 28) rfl ?_
  refine Go.u X102 hx hZ hown (wd250 hw) (wd251 hw) (notFace_of_selects (args := #[]) (mvT hZ (wd253 hw))) (wd253 hw) (wd252 hw) (wd7 hw) (wd254 hw) (by decide) (clat l Z a0 hw s cs h0 O0 Cs SCS hcs) e102 Es (by rw [hml]; rfl) (hb hby d53_28) (argsL := []) (rest := []) (lenOf pd7 rfl) rfl rfl (W := 0) (Nat.le_refl _) (by decide) ?_
  intro v103 T103 L103 X103 hQ103
  obtain ⟨rfl, N103q, e103⟩ := hQ103
  have N103 := Fr.app N102 N103q
  refine Go.L X103 hx (hb hby d53_31) (by decide) (q := 34) rfl ?_
  refine Go.g X103 hx (hb hby d53_34) rfl rfl (q := 35) rfl ?_
  refine Go.B X103 hx hZ hown (host := "") (Or.inl (wd28 hw)) Via.refl e103 Fs (hb hby d53_35) (q := 38) rfl ?_
  intro T104 X104 e104
  refine Go.f X104 hx (hb hby d53_38) rfl (q := 39) rfl ?_
  refine Go.o X104 hx (hb hby d53_39) rfl (q := 41) rfl ?_
  refine Go.A X104 hx hZ hown (wd277 hw) (wd278 hw) (wd171 hw) (wd279 hw) (by decide) (cnew1 l Z a0 hw v (kv) c0 h0 O0 Vv) e104 (by rw [hml]; rfl) (hb hby d53_41) (argsL := [(.ref v), (.int 1), (.int 1)]) (rest := []) (lenOf pd36 rfl) rfl rfl (W := 0) (Nat.le_refl _) (by decide) ?_
  intro v105 T105 L105 X105 hQ105
  obtain ⟨h105, e105⟩ : ∃ z, T105.heap = z := ⟨_, rfl⟩
  rw [e105] at hQ105
  obtain ⟨w_105, u_105, ku_105, rfl, N105q, K105, fr105_w, P105_0, P105_1, P105_2, P105_3⟩ := hQ105
  have N105 := Fr.app N103 N105q
  have ne_s_w_105 : s ≠ w_105 := ne_new Es.lt fr105_w
  have ne_v_w_105 : v ≠ w_105 := ne_new Vv.lt fr105_w
  have g_w_105 : Z.heap.size ≤ w_105 := Nat.le_trans O0.1 fr105_w
  have z_w_105 : h0.size ≤ w_105 := Nat.le_trans KP.1 fr105_w
  replace Es := Es.keep K105
  replace Cs := Cs.keep K105 nin0
  replace Fs := Fs.keep K105 nin0
  replace Vv := Vv.keep K105 nin0
  have OK105 := ext_keep O0 K105 all0
  replace KP := KP.trans K105 all0
  refine Go.D X105 hx (hb hby d53_44) (q := 57) (by decide) (by decide) ?_
  exact Go.U X105 hx hret hlk rfl rfl (hb hby d53_57) e105 (by decide) (by decide) ⟨w_105, u_105, ku_105, rfl, N105, KP, z_w_105, P105_0, P105_1, P105_2, P105_3⟩
def Q_cprs1 (Z : State) (s v : Addr) (kv : ClassId) (cs : Int32) (fm : Value) (c0 : Int32) (h0 : Heap) (vR : Option Value) (hR : Heap) (LR : List Loc) : Prop := ∃ t : Addr, ∃ w : Addr, ∃ u : Addr, ∃ ku : ClassId, vR = some (.ref t) ∧ Fr Z.heap.size LR ∧ Keep h0 hR [] ∧ h0.size ≤ t ∧ h0.size ≤ w ∧ Exa Z hR t xS1 ∧ Fld Z hR t xS1 "weak" "Z" (.int 0) ∧ Fld Z hR t xS1 "value" xS4 (.ref w) ∧ Fld Z hR t xS1 "field" xS4 .null ∧ Exa Z hR w xS0 ∧ Fld Z hR w xS0 "coder" "B" (.int 0) ∧ Fld Z hR w xS0 "value" "[B" (.ref u) ∧ Arv Z hR u ku .byte (1 : Int32) [(.int (c0.toInt8.toInt32))] (.int 0)
theorem cprs1 (l : Launch) (Z : State) (a0 : Array Value) (hw : ∀ d ∈ tables_1, d.before a0 Z = true) (s v : Addr) (kv : ClassId) (cs : Int32) (fm : Value) (c0 : Int32) (h0 : Heap) (O0 : Ext Z.heap h0) (Es : Exa Z h0 s xS0) (Cs : Fld Z h0 s xS0 "coder" "B" (.int 0)) (Fs : Fld Z h0 s xS0 "value" "[B" (.ref v)) (Vs : Arv Z h0 v kv .byte (3 : Int32) [(.int 34), (.int (c0.toInt8.toInt32)), (.int 34)] (.int 0)) (SCS : Sta Z Z.heap xS0 xS3 "Z" (.int cs)) (SFM : Sta Z Z.heap xS6 "SIOOBE_FORMATTER" xS9 fm) (hcs : ¬ (cs = (0 : Int32))) (hfm : fm.isRef = true) (he0 : ETC c0) :
    CtrH l Z consts_1 h0 (⟨xS1, "parse", xS11⟩ : MethodName) k44 5 (some (.object xS1)) [] ({ frames := 5, cells := 9, slots := 64, locals := 80 } : Room) #[(.ref s)] (Q_cprs1 Z s v kv cs fm c0 h0) := by
  refine enterH (plainFor_of_name pn6) ?_
  intro pp ee ss mm below meth cc s₁ hx hby hml hZ hown hnm hret hlk X0 e0 hs0 hS hC
  replace hown : (ss.setVm ss.vm).vm.findClass xS1 = some mm.cls := hown
  have hKd := Nat.zero_le h0.size
  refine Go.r (congrArg s₁.setTop (ef_cprs1 mm s)) ?_
  have N0 := Fr.nil Z.heap.size
  have KP := Keep.refl h0 []
  show Go pp ee below _ (s₁.setTop (mkF mm 0 #[.val (.ref s), .unset, .unset, .unset, .unset] []))
  refine Go.g X0 hx (hb hby d44_0) rfl rfl (q := 1) rfl ?_
  refine Go.jt X0 hx hZ hown (wd228 hw) (own_wS hw) e0 hS hKd (own_EW hw) hC (hb hby d44_1) (nn := 16) (by decide) (by decide) (by decide) (by decide) (q := 3) rfl ?_
  intro b101 T101 h101 k101 X101 e101 E101 hS hKd hZ hown hR101
  replace hC := hC.trans hR101
  replace Es := Es.ext E101
  replace Cs := Cs.ext E101
  replace Fs := Fs.ext E101
  replace Vs := Vs.ext E101
  have OE101 := ext_trans O0 E101
  replace KP := KP.ext E101
  refine Go.A X101 hx hZ hown (wd54 hw) (wd55 hw) (wd56 hw) (wd57 hw) (by decide) (creq l Z a0 hw s b101 h101 OE101) e101 (by rw [hml]; rfl) (hb hby d44_3) (argsL := [(.ref s), (.ref b101)]) (rest := []) (lenOf pd9 rfl) rfl rfl (W := 0) (Nat.le_refl _) (by decide) ?_
  intro v102 T102 L102 X102 hQ102
  obtain ⟨rfl, N102q, e102⟩ := hQ102
  have N102 := Fr.app N0 N102q
  refine Go.jo X102 hx (hb hby d44_6) rfl (q := 7) rfl ?_
  refine Go.g X102 hx (hb hby d44_7) rfl rfl (q := 8) rfl ?_
  refine Go.jv X102 hx hZ hown (wd229 hw) (own_wS hw) e102 hS hKd (own_EW hw) (List.mem_of_getElem? (i := 1) rfl) hC (vs := [(.int 87), (.int 47)]) (z := (2 : Int32)) ⟨by decide, rfl⟩ (by decide) rfl (hb hby d44_8) (nn := 8) (by decide) (by decide) (by decide) (by decide) (q := 10) rfl ?_
  intro b103 u103 kc103 T103 h103 k103 X103 e103 E103 hS hKd hZ hown B103 C103 F103 V103 hR103
  replace hC := hC.trans hR103
  replace Es := Es.ext E103
  replace Cs := Cs.ext E103
  replace Fs := Fs.ext E103
  replace Vs := Vs.ext E103
  have OE103 := ext_trans OE101 E103
  replace KP := KP.ext E103
  have ne_s_u103 := Exa.neArv Es V103 (wd6 hw)
  refine Go.u X103 hx hZ hown (wd230 hw) (wd231 hw) (notFace_of_selects (args := #[]) (mvT hZ (wd233 hw))) (wd233 hw) (wd232 hw) (wd7 hw) (wd234 hw) (by decide) (csw1 l Z a0 hw s b103 cs v u103 (kv) (kc103) ((3 : Int32)) ([(.int 34), (.int (c0.toInt8.toInt32)), (.int 34)]) h103 OE103 Es B103 Cs C103 Fs F103 Vs V103 SCS hcs (by decide) rfl (by decide)) e103 Es (by rw [hml]; rfl) (hb hby d44_10) (argsL := [(.ref b103)]) (rest := []) (lenOf pd37 rfl) rfl rfl (W := 0) (Nat.le_refl _) (by decide) ?_
  intro v104 T104 L104 X104 hQ104
  obtain ⟨rfl, N104q, e104⟩ := hQ104
  have N104 := Fr.app N102 N104q
  refine Go.P X104 hx (hb hby d44_13) (l' := #[.val (.ref s), .val (.int 0), .unset, .unset, .unset]) rfl (q := 14) rfl ?_
  refine Go.f X104 hx (hb hby d44_14) rfl (q := 15) rfl ?_
  refine Go.F X104 hx (hb hby d44_15) (by decide) (q := 26) (by decide) (by decide) ?_
  refine Go.i X104 hx (hb hby d44_26) (r := (0 : Int32)) rfl (q := 27) rfl ?_
  refine Go.P X104 hx (hb hby d44_27) (l' := #[.val (.ref s), .val (.int 0), .val (.int 0), .unset, .unset]) rfl (q := 28) rfl ?_
  refine Go.g X104 hx (hb hby d44_28) rfl rfl (q := 29) rfl ?_
  refine Go.u X104 hx hZ hown (wd58 hw) (wd59 hw) (notFace_of_selects (args := #[]) (mvT hZ (wd61 hw))) (wd61 hw) (wd60 hw) (wd7 hw) (wd62 hw) (by decide) (clen l Z a0 hw s cs v (kv) ((3 : Int32)) ([(.int 34), (.int (c0.toInt8.toInt32)), (.int 34)]) h103 OE103 Es Cs Fs Vs SCS hcs) e104 Es (by rw [hml]; rfl) (hb hby d44_29) (argsL := []) (rest := []) (lenOf pd10 rfl) rfl rfl (W := 0) (Nat.le_refl _) (by decide) ?_
  intro v105 T105 L105 X105 hQ105
  obtain ⟨rfl, N105q, e105⟩ := hQ105
  have N105 := Fr.app N104 N105q
  refine Go.i X105 hx (hb hby d44_32) (r := (1 : Int32)) rfl (q := 33) rfl ?_
  refine Go.ja X105 hx (hb hby d44_33) (r := (2 : Int32)) rfl (q := 34) rfl ?_
  refine Go.P X105 hx (hb hby d44_34) (l' := #[.val (.ref s), .val (.int 0), .val (.int 0), .val (.int 2), .unset]) rfl (q := 35) rfl ?_
  refine Go.f X105 hx (hb hby d44_35) rfl (q := 36) rfl ?_
  refine Go.f X105 hx (hb hby d44_36) rfl (q := 37) rfl ?_
  refine Go.t X105 hx (hb hby d44_37) (by decide) (q := 40) rfl ?_
  refine Go.g X105 hx (hb hby d44_40) rfl rfl (q := 41) rfl ?_
  refine Go.f X105 hx (hb hby d44_41) rfl (q := 42) rfl ?_
  refine Go.u X105 hx hZ hown (wd245 hw) (wd246 hw) (notFace_of_selects (args := #[]) (mvT hZ (wd248 hw))) (wd248 hw) (wd247 hw) (wd7 hw) (wd249 hw) (by decide) (cchar l Z a0 hw s ((0 : Int32)) cs v (kv) ((3 : Int32)) ([(.int 34), (.int (c0.toInt8.toInt32)), (.int 34)]) ((34 : Int32)) fm h103 OE103 Es Cs Fs Vs SCS SFM hcs hfm (by decide) (by decide) rfl) e105 Es (by rw [hml]; rfl) (hb hby d44_42) (argsL := [(.int 0)]) (rest := []) (lenOf pd11 rfl) rfl rfl (W := 0) (Nat.le_refl _) (by decide) ?_
  intro v106 T106 L106 X106 hQ106
  obtain ⟨rfl, N106q, e106⟩ := hQ106
  have N106 := Fr.app N105 N106q
  refine Go.E X106 hx (hb hby d44_45) (r := (34 : Int32)) rfl (q := 47) rfl ?_
  refine Go.t X106 hx (hb hby d44_47) (by decide) (q := 50) rfl ?_
  refine Go.g X106 hx (hb hby d44_50) rfl rfl (q := 51) rfl ?_
  refine Go.f X106 hx (hb hby d44_51) rfl (q := 52) rfl ?_
  refine Go.u X106 hx hZ hown (wd245 hw) (wd246 hw) (notFace_of_selects (args := #[]) (mvT hZ (wd248 hw))) (wd248 hw) (wd247 hw) (wd7 hw) (wd249 hw) (by decide) (cchar l Z a0 hw s ((2 : Int32)) cs v (kv) ((3 : Int32)) ([(.int 34), (.int (c0.toInt8.toInt32)), (.int 34)]) ((34 : Int32)) fm h103 OE103 Es Cs Fs Vs SCS SFM hcs hfm (by decide) (by decide) rfl) e106 Es (by rw [hml]; rfl) (hb hby d44_52) (argsL := [(.int 2)]) (rest := []) (lenOf pd11 rfl) rfl rfl (W := 0) (Nat.le_refl _) (by decide) ?_
  intro v107 T107 L107 X107 hQ107
  obtain ⟨rfl, N107q, e107⟩ := hQ107
  have N107 := Fr.app N106 N107q
  refine Go.E X107 hx (hb hby d44_55) (r := (34 : Int32)) rfl (q := 57) rfl ?_
  refine Go.y X107 hx (hb hby d44_57) (by decide) (q := 70) (by decide) (by decide) ?_
  refine Go.g X107 hx (hb hby d44_70) rfl rfl (q := 71) rfl ?_
  refine Go.f X107 hx (hb hby d44_71) rfl (q := 72) rfl ?_
  refine Go.i X107 hx (hb hby d44_72) (r := (1 : Int32)) rfl (q := 73) rfl ?_
  refine Go.jh X107 hx (hb hby d44_73) (r := (1 : Int32)) rfl (q := 74) rfl ?_
  refine Go.f X107 hx (hb hby d44_74) rfl (q := 75) rfl ?_
  refine Go.u X107 hx hZ hown (wd266 hw) (wd267 hw) (notFace_of_selects (args := #[]) (mvT hZ (wd269 hw))) (wd269 hw) (wd268 hw) (wd7 hw) (wd270 hw) (by decide) (csub1 l Z a0 hw s cs fm v (kv) c0 h103 OE103 Es Cs Fs Vs SCS SFM hcs hfm) e107 Es (by rw [hml]; rfl) (hb hby d44_75) (argsL := [(.int 1), (.int 2)]) (rest := []) (lenOf pd38 rfl) rfl rfl (W := 0) (Nat.le_refl _) (by decide) ?_
  intro v108 T108 L108 X108 hQ108
  obtain ⟨h108, e108⟩ : ∃ z, T108.heap = z := ⟨_, rfl⟩
  rw [e108] at hQ108
  obtain ⟨w_108, u_108, ku_108, rfl, N108q, K108, fr108_w, P108_0, P108_1, P108_2, P108_3⟩ := hQ108
  have N108 := Fr.app N107 N108q
  have ne_s_w_108 : s ≠ w_108 := ne_new Es.lt fr108_w
  have ne_v_w_108 : v ≠ w_108 := ne_new Vs.lt fr108_w
  have ne_b103_w_108 : b103 ≠ w_108 := ne_new B103.lt fr108_w
  have ne_u103_w_108 : u103 ≠ w_108 := ne_new V103.lt fr108_w
  have g_w_108 : Z.heap.size ≤ w_108 := Nat.le_trans OE103.1 fr108_w
  have z_w_108 : h0.size ≤ w_108 := Nat.le_trans KP.1 fr108_w
  replace hKd := Nat.le_trans hKd K108.1
  have hSk : ∀ x ∈ ([] : List Addr), Safe Z consts_1 T103.vm h103 x := all0
  replace hC := hC.trans (CHr.keep K108 hSk hC.1)
  replace Es := Es.keep K108
  replace Cs := Cs.keep K108 nin0
  replace Fs := Fs.keep K108 nin0
  replace Vs := Vs.keep K108 nin0
  replace B103 := B103.keep K108
  replace C103 := C103.keep K108 nin0
  replace F103 := F103.keep K108 nin0
  replace V103 := V103.keep K108 nin0
  have OK108 := ext_keep OE103 K108 all0
  replace KP := KP.trans K108 all0
  refine Go.f X108 hx (hb hby d44_78) rfl (q := 79) rfl ?_
  refine Go.i X108 hx (hb hby d44_79) (r := (1 : Int32)) rfl (q := 80) rfl ?_
  refine Go.jh X108 hx (hb hby d44_80) (r := (1 : Int32)) rfl (q := 81) rfl ?_
  refine Go.jk X108 hx hZ hown hS hKd (own_EW hw) hC (wd50 hw) (wd51 hw) (wd46 hw) (wd52 hw) (by decide) (cchk1 l Z a0 hw w_108 u_108 (ku_108) cs fm c0 ((1 : Int32)) h108 OK108 P108_0 P108_1 P108_2 P108_3 SCS SFM hcs hfm he0) e108 (by rw [hml]; rfl) (hb hby d44_81) (argsL := [(.ref w_108), (.int 1)]) (rest := []) (lenOf pd12 rfl) rfl rfl (W := 0) (Nat.le_refl _) (by decide) ?_
  intro v109 T109 L109 k109 X109 hS hKd hZ hown hR109 hQ109
  obtain ⟨h109, e109⟩ : ∃ z, T109.heap = z := ⟨_, rfl⟩
  rw [e109] at hQ109 hKd hR109
  obtain ⟨rfl, N109q, K109⟩ := hQ109
  have N109 := Fr.app N108 N109q
  replace hC := hC.trans hR109
  replace Es := Es.keep K109
  replace Cs := Cs.keep K109 nin0
  replace Fs := Fs.keep K109 nin0
  replace Vs := Vs.keep K109 nin0
  replace B103 := B103.keep K109
  replace C103 := C103.keep K109 nin0
  replace F103 := F103.keep K109 nin0
  replace V103 := V103.keep K109 nin0
  replace P108_0 := P108_0.keep K109
  replace P108_1 := P108_1.keep K109 nin0
  replace P108_2 := P108_2.keep K109 nin0
  replace P108_3 := P108_3.keep K109 nin0
  have OK109 := ext_keep OK108 K109 all0
  replace KP := KP.trans K109 all0
  refine Go.V X109 hx (hb hby d44_84) rfl (l' := #[.val (.ref s), .val (.int 0), .val (.int 0), .val (.int 2), .val (.ref w_108)]) rfl (q := 86) rfl ?_
  refine Go.jd X109 hx hZ hown (wd48 hw) (wd49 hw) (wd46 hw) e109 (hb hby d44_86) (by decide) (by decide) (q := 89) rfl ?_
  intro b110 T110 h110 X110 e110 q110 E110 A110 D110 U110
  have ne_s_b110 : s ≠ b110 := ne_new Es.lt (Nat.le_of_eq q110)
  have ne_v_b110 : v ≠ b110 := ne_new Vs.lt (Nat.le_of_eq q110)
  have ne_b103_b110 : b103 ≠ b110 := ne_new B103.lt (Nat.le_of_eq q110)
  have ne_u103_b110 : u103 ≠ b110 := ne_new V103.lt (Nat.le_of_eq q110)
  have ne_w_108_b110 : w_108 ≠ b110 := ne_new P108_0.lt (Nat.le_of_eq q110)
  have ne_u_108_b110 : u_108 ≠ b110 := ne_new P108_3.lt (Nat.le_of_eq q110)
  have g_b110 : Z.heap.size ≤ b110 := Nat.le_trans OK109.1 (Nat.le_of_eq q110)
  have z_b110 : h0.size ≤ b110 := Nat.le_trans KP.1 (Nat.le_of_eq q110)
  replace hC := hC.trans (CHr.ext E110 hC.1)
  replace Es := Es.ext E110
  replace Cs := Cs.ext E110
  replace Fs := Fs.ext E110
  replace Vs := Vs.ext E110
  replace B103 := B103.ext E110
  replace C103 := C103.ext E110
  replace F103 := F103.ext E110
  replace V103 := V103.ext E110
  replace P108_0 := P108_0.ext E110
  replace P108_1 := P108_1.ext E110
  replace P108_2 := P108_2.ext E110
  replace P108_3 := P108_3.ext E110
  have OE110 := ext_trans OK109 E110
  replace hKd := Nat.le_trans hKd E110.1
  replace KP := KP.ext E110
  have F110_weak : Fld Z h110 b110 xS1 "weak" "Z" (.int 0) := D110 (Or.inr (wd73 hw)) (ty := .boolean) (by decide)
  have F110_value : Fld Z h110 b110 xS1 "value" xS4 .null := D110 (Or.inr (wd75 hw)) (ty := (.object xS0)) (by decide)
  have F110_field : Fld Z h110 b110 xS1 "field" xS4 .null := D110 (Or.inl (wd97 hw)) (ty := (.object xS0)) (by decide)
  clear D110
  refine Go.N X110 hx (hb hby d44_89) rfl (q := 90) rfl ?_
  refine Go.f X110 hx (hb hby d44_90) rfl (q := 91) rfl ?_
  refine Go.w X110 hx (hb hby d44_91) rfl rfl (q := 93) rfl ?_
  refine Go.Y X110 hx hZ hown rfl (wd68 hw) (wd69 hw) (wd46 hw) (wd70 hw) (by decide) (ceti l Z a0 hw b110 w_108 h110 OE110 A110 g_b110 F110_weak F110_value F110_field) e110 (by rw [hml]; rfl) (hb hby d44_93) (argsL := [(.int 0), (.ref w_108)]) (rest := [(.ref b110)]) (lenOf pd13 rfl) rfl rfl (W := 1) (Nat.le_refl _) (by decide) ?_
  intro v111 T111 L111 X111 hQ111
  obtain ⟨h111, e111⟩ : ∃ z, T111.heap = z := ⟨_, rfl⟩
  rw [e111] at hQ111
  obtain ⟨rfl, N111q, K111, P111_0, P111_1, P111_2⟩ := hQ111
  have N111 := Fr.app N109 N111q
  replace hKd := Nat.le_trans hKd K111.1
  have hSk : ∀ x ∈ [b110], Safe Z consts_1 T109.vm h110 x := (allS (Safe.exa hZ.alike A110 (by decide) (by decide)) all0)
  replace hC := hC.trans (CHr.keep K111 hSk hC.1)
  replace Es := Es.keep K111
  replace Cs := Cs.keep K111 (ninS ne_s_b110 nin0)
  replace Fs := Fs.keep K111 (ninS ne_s_b110 nin0)
  replace Vs := Vs.keep K111 (ninS ne_v_b110 nin0)
  replace B103 := B103.keep K111
  replace C103 := C103.keep K111 (ninS ne_b103_b110 nin0)
  replace F103 := F103.keep K111 (ninS ne_b103_b110 nin0)
  replace V103 := V103.keep K111 (ninS ne_u103_b110 nin0)
  replace P108_0 := P108_0.keep K111
  replace P108_1 := P108_1.keep K111 (ninS ne_w_108_b110 nin0)
  replace P108_2 := P108_2.keep K111 (ninS ne_w_108_b110 nin0)
  replace P108_3 := P108_3.keep K111 (ninS ne_u_108_b110 nin0)
  replace A110 := A110.keep K111
  have OK111 := ext_keep OE110 K111 (allS g_b110 all0)
  replace KP := KP.trans K111 (allS (Or.inr z_b110) all0)
  exact Go.jm X111 hx hS hKd hs0 hZ (own_EW hw) hC hret hlk rfl rfl (hb hby d44_96) e111 (by decide) (by decide) ⟨b110, w_108, u_108, ku_108, rfl, N111, KP, z_b110, z_w_108, A110, P111_0, P111_1, P111_2, P108_0, P108_1, P108_2, P108_3⟩
def Q_cete1 (Z : State) (o q t1 t2 v1 v2 : Addr) (k1 k2 : ClassId) (cs c0 : Int32) (h0 : Heap) (vR : Option Value) (hR : Heap) (LR : List Loc) : Prop := vR = some (.int 1) ∧ Fr Z.heap.size LR ∧ hR = h0
theorem cete1 (l : Launch) (Z : State) (a0 : Array Value) (hw : ∀ d ∈ tables_1, d.before a0 Z = true) (o q t1 t2 v1 v2 : Addr) (k1 k2 : ClassId) (cs c0 : Int32) (h0 : Heap) (O0 : Ext Z.heap h0) (Eq_ : Exa Z h0 q xS1) (noq : o ≠ q) (A0 : Fld Z h0 o xS1 "weak" "Z" (.int 0)) (A1 : Fld Z h0 q xS1 "weak" "Z" (.int 0)) (A2 : Fld Z h0 o xS1 "value" xS4 (.ref t1)) (A3 : Fld Z h0 q xS1 "value" xS4 (.ref t2)) (E1 : Exa Z h0 t1 xS0) (E2 : Exa Z h0 t2 xS0) (C1 : Fld Z h0 t1 xS0 "coder" "B" (.int 0)) (C2 : Fld Z h0 t2 xS0 "coder" "B" (.int 0)) (F1 : Fld Z h0 t1 xS0 "value" "[B" (.ref v1)) (F2 : Fld Z h0 t2 xS0 "value" "[B" (.ref v2)) (V1 : Arv Z h0 v1 k1 .byte (1 : Int32) [(.int (c0.toInt8.toInt32))] (.int 0)) (V2 : Arv Z h0 v2 k2 .byte (1 : Int32) [(.int (c0.toInt8.toInt32))] (.int 0)) (n12 : t1 ≠ t2) (SCS : Sta Z Z.heap xS0 xS3 "Z" (.int cs)) (hcs : ¬ (cs = (0 : Int32))) :
    Ctr l Z h0 (⟨xS1, "equals", "(Ljava/lang/Object;)Z"⟩ : MethodName) k57 3 (some .boolean) [] ({ frames := 2, cells := 0, slots := 0, locals := 28 } : Room) #[(.ref o), (.ref q)] (Q_cete1 Z o q t1 t2 v1 v2 k1 k2 cs c0 h0) := by
  refine enter (plainFor_of_name pn6) ?_
  intro pp ee ss mm below meth cc s₁ hx hby hml hZ hown hnm hret hlk X0 e0 hs0
  replace hown : ss.vm.findClass xS1 = some mm.cls := hown
  refine Go.r (congrArg s₁.setTop (ef_cete1 mm o q)) ?_
  have N0 := Fr.nil Z.heap.size
  show Go pp ee below _ (s₁.setTop (mkF mm 0 #[.val (.ref o), .val (.ref q), .unset] []))
  refine Go.g X0 hx (hb hby d57_0) rfl rfl (q := 1) rfl ?_
  refine Go.g X0 hx (hb hby d57_1) rfl rfl (q := 2) rfl ?_
  refine Go.jp X0 hx rfl rfl (hb hby d57_2) (same := false) (decide_eq_false fun q => noq (Value.ref.inj q)) (q := 7) (by decide) (by decide) ?_
  refine Go.g X0 hx (hb hby d57_7) rfl rfl (q := 8) rfl ?_
  refine Go.js X0 hx hZ hown (wd48 hw) e0 (Ins.self Eq_) (hb hby d57_8) (q := 11) rfl ?_
  intro T101 X101 e101
  refine Go.F X101 hx (hb hby d57_11) (by decide) (q := 16) (by decide) (by decide) ?_
  refine Go.g X101 hx (hb hby d57_16) rfl rfl (q := 17) rfl ?_
  refine Go.jr X101 hx hZ hown (wd48 hw) e101 (Ins.self Eq_) (hb hby d57_17) (q := 20) rfl ?_
  intro T102 X102 e102
  refine Go.jf X102 hx (hb hby d57_20) rfl (l' := #[.val (.ref o), .val (.ref q), .val (.ref q)]) rfl (q := 21) rfl ?_
  refine Go.g X102 hx (hb hby d57_21) rfl rfl (q := 22) rfl ?_
  refine Go.B X102 hx hZ hown (host := "") (Or.inl (wd72 hw)) Via.refl e102 A0 (hb hby d57_22) (q := 25) rfl ?_
  intro T103 X103 e103
  refine Go.g X103 hx (hb hby d57_25) rfl rfl (q := 26) rfl ?_
  refine Go.B X103 hx hZ hown (host := "") (Or.inl (wd72 hw)) Via.refl e103 A1 (hb hby d57_26) (q := 29) rfl ?_
  intro T104 X104 e104
  refine Go.t X104 hx (hb hby d57_29) (by decide) (q := 32) rfl ?_
  refine Go.g X104 hx (hb hby d57_32) rfl rfl (q := 33) rfl ?_
  refine Go.B X104 hx hZ hown (host := "") (Or.inl (wd74 hw)) Via.refl e104 A2 (hb hby d57_33) (q := 36) rfl ?_
  intro T105 X105 e105
  refine Go.g X105 hx (hb hby d57_36) rfl rfl (q := 37) rfl ?_
  refine Go.B X105 hx hZ hown (host := "") (Or.inl (wd74 hw)) Via.refl e105 A3 (hb hby d57_37) (q := 40) rfl ?_
  intro T106 X106 e106
  refine Go.u X106 hx hZ hown (wd224 hw) (wd87 hw) (notFace_of_selects (args := #[]) (mvT hZ (wd89 hw))) (wd89 hw) (wd88 hw) (wd7 hw) (wd90 hw) (by decide) (cse1 l Z a0 hw t1 t2 cs v1 v2 (k1) (k2) ((c0.toInt8.toInt32)) h0 O0 E1 E2 C1 C2 F1 F2 V1 V2 n12 SCS hcs) e106 E1 (by rw [hml]; rfl) (hb hby d57_40) (argsL := [(.ref t2)]) (rest := []) (lenOf pd31 rfl) rfl rfl (W := 0) (Nat.le_refl _) (by decide) ?_
  intro v107 T107 L107 X107 hQ107
  obtain ⟨rfl, N107q, e107⟩ := hQ107
  have N107 := Fr.app N0 N107q
  refine Go.L X107 hx (hb hby d57_43) (by decide) (q := 46) rfl ?_
  refine Go.i X107 hx (hb hby d57_46) (r := (1 : Int32)) rfl (q := 47) rfl ?_
  refine Go.D X107 hx (hb hby d57_47) (q := 51) (by decide) (by decide) ?_
  exact Go.M X107 hx hret hlk (by simp) rfl (hb hby d57_51) e107 (by decide) (by decide) ⟨rfl, N107, rfl⟩
def Q_ccsb2 (Z : State) (v : Addr) (kv : ClassId) (c0 c1 : Int32) (h0 : Heap) (vR : Option Value) (hR : Heap) (LR : List Loc) : Prop := ∃ u : Addr, ∃ ku : ClassId, vR = some (.ref u) ∧ Fr Z.heap.size LR ∧ Keep h0 hR [] ∧ h0.size ≤ u ∧ Arv Z hR u ku .byte (2 : Int32) [(.int (c0.toInt8.toInt32)), (.int (c1.toInt8.toInt32))] (.int 0)
theorem ccsb2 (l : Launch) (Z : State) (a0 : Array Value) (hw : ∀ d ∈ tables_1, d.before a0 Z = true) (v : Addr) (kv : ClassId) (c0 c1 : Int32) (h0 : Heap) (O0 : Ext Z.heap h0) (Vv : Arv Z h0 v kv .byte (4 : Int32) [(.int 34), (.int (c0.toInt8.toInt32)), (.int (c1.toInt8.toInt32)), (.int 34)] (.int 0)) :
    Ctr l Z h0 (⟨"java/util/Arrays", "copyOfRangeByte", "([BII)[B"⟩ : MethodName) k39 5 (some (.array .byte)) [] ({ frames := 1, cells := 1, slots := 2, locals := 18 } : Room) #[(.ref v), (.int 1), (.int 3)] (Q_ccsb2 Z v kv c0 c1 h0) := by
  refine enter (plainFor_of_name pn9) ?_
  intro pp ee ss mm below meth cc s₁ hx hby hml hZ hown hnm hret hlk X0 e0 hs0
  replace hown : ss.vm.findClass "java/util/Arrays" = some mm.cls := hown
  refine Go.r (congrArg s₁.setTop (ef_ccsb2 mm v)) ?_
  have N0 := Fr.nil Z.heap.size
  have KP := Keep.refl h0 []
  show Go pp ee below _ (s₁.setTop (mkF mm 0 #[.val (.ref v), .val (.int 1), .val (.int 3), .unset, .unset] []))
  refine Go.f X0 hx (hb hby d39_0) rfl (q := 1) rfl ?_
  refine Go.f X0 hx (hb hby d39_1) rfl (q := 2) rfl ?_
  refine Go.A X0 hx hZ hown (wd206 hw) (wd207 hw) (wd201 hw) (wd208 hw) (by decide) (cchl l Z a0 hw ((1 : Int32)) ((3 : Int32)) h0 O0 (by decide)) e0 (by rw [hml]; rfl) (hb hby d39_2) (argsL := [(.int 1), (.int 3)]) (rest := []) (lenOf pd6 rfl) rfl rfl (W := 0) (Nat.le_refl _) (by decide) ?_
  intro v101 T101 L101 X101 hQ101
  obtain ⟨rfl, N101q, e101⟩ := hQ101
  have N101 := Fr.app N0 N101q
  refine Go.f X101 hx (hb hby d39_5) rfl (q := 6) rfl ?_
  refine Go.f X101 hx (hb hby d39_6) rfl (q := 7) rfl ?_
  refine Go.ja X101 hx (hb hby d39_7) (r := (2 : Int32)) rfl (q := 8) rfl ?_
  refine Go.P X101 hx (hb hby d39_8) (l' := #[.val (.ref v), .val (.int 1), .val (.int 3), .val (.int 2), .unset]) rfl (q := 9) rfl ?_
  refine Go.f X101 hx (hb hby d39_9) rfl (q := 10) rfl ?_
  refine Go.ji X101 hx hZ (hb hby d39_10) (wd23 hw) e101 (by decide) (cap := 2) (by decide) (by decide) (by decide) (by decide) (ad := "[B") rfl (q := 12) rfl ?_
  intro b102 T102 h102 k102 X102 e102 q102 E102 V102 B102
  have ne_v_b102 : v ≠ b102 := ne_new Vv.lt (Nat.le_of_eq q102)
  have g_b102 : Z.heap.size ≤ b102 := Nat.le_trans O0.1 (Nat.le_of_eq q102)
  have z_b102 : h0.size ≤ b102 := Nat.le_trans KP.1 (Nat.le_of_eq q102)
  replace Vv := Vv.ext E102
  have OE102 := ext_trans O0 E102
  replace KP := KP.ext E102
  replace V102 : Arv Z h102 b102 k102 .byte (2 : Int32) [(.int 0), (.int 0)] (.int 0) := V102.pad (pad_rep [] (.int 0) 2)
  refine Go.V X102 hx (hb hby d39_12) rfl (l' := #[.val (.ref v), .val (.int 1), .val (.int 3), .val (.int 2), .val (.ref b102)]) rfl (q := 14) rfl ?_
  refine Go.g X102 hx (hb hby d39_14) rfl rfl (q := 15) rfl ?_
  refine Go.f X102 hx (hb hby d39_15) rfl (q := 16) rfl ?_
  refine Go.w X102 hx (hb hby d39_16) rfl rfl (q := 18) rfl ?_
  refine Go.i X102 hx (hb hby d39_18) (r := (0 : Int32)) rfl (q := 19) rfl ?_
  refine Go.g X102 hx (hb hby d39_19) rfl rfl (q := 20) rfl ?_
  refine Go.J X102 hx hZ e102 Vv (hb hby d39_20) ?_
  refine Go.f X102 hx (hb hby d39_21) rfl (q := 22) rfl ?_
  refine Go.ja X102 hx (hb hby d39_22) (r := (3 : Int32)) rfl (q := 23) rfl ?_
  refine Go.f X102 hx (hb hby d39_23) rfl (q := 24) rfl ?_
  refine Go.A X102 hx hZ hown (wd209 hw) (wd210 hw) (wd211 hw) (wd212 hw) (by decide) (cmin2 l Z a0 hw ((3 : Int32)) ((2 : Int32)) h102 OE102 (by decide)) e102 (by rw [hml]; rfl) (hb hby d39_24) (argsL := [(.int 3), (.int 2)]) (rest := [(.int 0), (.ref b102), (.int 1), (.ref v)]) (lenOf pd21 rfl) rfl rfl (W := 4) (Nat.le_refl _) (by decide) ?_
  intro v103 T103 L103 X103 hQ103
  obtain ⟨rfl, N103q, e103⟩ := hQ103
  have N103 := Fr.app N101 N103q
  obtain ⟨T104, h104, L104, X104, e104, N104, K104, V104, st104⟩ := cpA X103 hx hZ hown (wd213 hw) (wd154 hw) (wd152 hw) (wd153 hw) e103 Vv V102 (us := [(.int (c0.toInt8.toInt32)), (.int (c1.toInt8.toInt32))]) (sp := (1 : Int32)) (dp := (0 : Int32)) (nn := (2 : Int32)) (Or.inl ⟨rfl, rfl⟩) (by decide) (by decide) (by decide) (by decide) (by decide) rfl (Nat.le_of_ble_eq_true rfl) N103 g_b102 (g := (mkF mm 27 #[.val (.ref v), .val (.int 1), .val (.int 3), .val (.int 2), .val (.ref b102)] [(.int 2), (.int 0), (.ref b102), (.int 1), (.ref v)])) rfl (by rw [hml]; rfl) rfl (hb hby d39_27) (by decide) (W := 0) (by show 2 * 0 + _ ≤ _; exact Nat.le_of_eq rfl) (by decide)
  refine Go.I st104 ?_
  replace Vv := Vv.keep K104 (ninS ne_v_b102 nin0)
  replace B102 := B102.keep K104
  have OK104 := ext_keep OE102 K104 (allS g_b102 all0)
  replace KP := KP.trans K104 (allS (Or.inr z_b102) all0)
  replace V104 : Arv Z h104 b102 k102 .byte (2 : Int32) [(.int (c0.toInt8.toInt32)), (.int (c1.toInt8.toInt32))] (.int 0) := V104
  show Go pp ee below _ (T104.setTop (mkF mm 30 #[.val (.ref v), .val (.int 1), .val (.int 3), .val (.int 2), .val (.ref b102)] []))
  refine Go.w X104 hx (hb hby d39_30) rfl rfl (q := 32) rfl ?_
  exact Go.U X104 hx hret hlk rfl rfl (hb hby d39_32) e104 (by decide) (by decide) ⟨b102, k102, rfl, N104, KP, z_b102, V104⟩
def Q_ccs2 (Z : State) (v : Addr) (kv : ClassId) (c0 c1 : Int32) (h0 : Heap) (vR : Option Value) (hR : Heap) (LR : List Loc) : Prop := ∃ u : Addr, ∃ ku : ClassId, vR = some (.ref u) ∧ Fr Z.heap.size LR ∧ Keep h0 hR [] ∧ h0.size ≤ u ∧ Arv Z hR u ku .byte (2 : Int32) [(.int (c0.toInt8.toInt32)), (.int (c1.toInt8.toInt32))] (.int 0)
theorem ccs2 (l : Launch) (Z : State) (a0 : Array Value) (hw : ∀ d ∈ tables_1, d.before a0 Z = true) (v : Addr) (kv : ClassId) (c0 c1 : Int32) (h0 : Heap) (O0 : Ext Z.heap h0) (Vv : Arv Z h0 v kv .byte (4 : Int32) [(.int 34), (.int (c0.toInt8.toInt32)), (.int (c1.toInt8.toInt32)), (.int 34)] (.int 0)) :
    Ctr l Z h0 (⟨"java/util/Arrays", "copyOfRange", "([BII)[B"⟩ : MethodName) k38 3 (some (.array .byte)) [] ({ frames := 2, cells := 1, slots := 2, locals := 34 } : Room) #[(.ref v), (.int 1), (.int 3)] (Q_ccs2 Z v kv c0 c1 h0) := by
  refine enter (plainFor_of_name pn9) ?_
  intro pp ee ss mm below meth cc s₁ hx hby hml hZ hown hnm hret hlk X0 e0 hs0
  replace hown : ss.vm.findClass "java/util/Arrays" = some mm.cls := hown
  refine Go.r (congrArg s₁.setTop (ef_ccs2 mm v)) ?_
  have N0 := Fr.nil Z.heap.size
  have KP := Keep.refl h0 []
  show Go pp ee below _ (s₁.setTop (mkF mm 0 #[.val (.ref v), .val (.int 1), .val (.int 3)] []))
  refine Go.f X0 hx (hb hby d38_0) rfl (q := 1) rfl ?_
  refine Go.F X0 hx (hb hby d38_1) (by decide) (q := 10) (by decide) (by decide) ?_
  refine Go.g X0 hx (hb hby d38_10) rfl rfl (q := 11) rfl ?_
  refine Go.f X0 hx (hb hby d38_11) rfl (q := 12) rfl ?_
  refine Go.f X0 hx (hb hby d38_12) rfl (q := 13) rfl ?_
  refine Go.A X0 hx hZ hown (wd203 hw) (wd204 hw) (wd201 hw) (wd205 hw) (by decide) (ccsb2 l Z a0 hw v (kv) c0 c1 h0 O0 Vv) e0 (by rw [hml]; rfl) (hb hby d38_13) (argsL := [(.ref v), (.int 1), (.int 3)]) (rest := []) (lenOf pd22 rfl) rfl rfl (W := 0) (Nat.le_refl _) (by decide) ?_
  intro v101 T101 L101 X101 hQ101
  obtain ⟨h101, e101⟩ : ∃ z, T101.heap = z := ⟨_, rfl⟩
  rw [e101] at hQ101
  obtain ⟨u_101, ku_101, rfl, N101q, K101, fr101_u, P101_0⟩ := hQ101
  have N101 := Fr.app N0 N101q
  have ne_v_u_101 : v ≠ u_101 := ne_new Vv.lt fr101_u
  have g_u_101 : Z.heap.size ≤ u_101 := Nat.le_trans O0.1 fr101_u
  have z_u_101 : h0.size ≤ u_101 := Nat.le_trans KP.1 fr101_u
  replace Vv := Vv.keep K101 nin0
  have OK101 := ext_keep O0 K101 all0
  replace KP := KP.trans K101 all0
  exact Go.U X101 hx hret hlk rfl rfl (hb hby d38_16) e101 (by decide) (by decide) ⟨u_101, ku_101, rfl, N101, KP, z_u_101, P101_0⟩
def Q_cnew2 (Z : State) (v : Addr) (kv : ClassId) (c0 c1 : Int32) (h0 : Heap) (vR : Option Value) (hR : Heap) (LR : List Loc) : Prop := ∃ w : Addr, ∃ u : Addr, ∃ ku : ClassId, vR = some (.ref w) ∧ Fr Z.heap.size LR ∧ Keep h0 hR [] ∧ h0.size ≤ w ∧ Exa Z hR w xS0 ∧ Fld Z hR w xS0 "coder" "B" (.int 0) ∧ Fld Z hR w xS0 "value" "[B" (.ref u) ∧ Arv Z hR u ku .byte (2 : Int32) [(.int (c0.toInt8.toInt32)), (.int (c1.toInt8.toInt32))] (.int 0)
theorem cnew2 (l : Launch) (Z : State) (a0 : Array Value) (hw : ∀ d ∈ tables_1, d.before a0 Z = true) (v : Addr) (kv : ClassId) (c0 c1 : Int32) (h0 : Heap) (O0 : Ext Z.heap h0) (Vv : Arv Z h0 v kv .byte (4 : Int32) [(.int 34), (.int (c0.toInt8.toInt32)), (.int (c1.toInt8.toInt32)), (.int 34)] (.int 0)) :
    Ctr l Z h0 (⟨xS7, "newString", "([BII)Ljava/lang/String;"⟩ : MethodName) k56 3 (some (.object xS0)) [] ({ frames := 3, cells := 2, slots := 6, locals := 50 } : Room) #[(.ref v), (.int 1), (.int 2)] (Q_cnew2 Z v kv c0 c1 h0) := by
  refine enter (plainFor_of_name pn4) ?_
  intro pp ee ss mm below meth cc s₁ hx hby hml hZ hown hnm hret hlk X0 e0 hs0
  replace hown : ss.vm.findClass xS7 = some mm.cls := hown
  refine Go.r (congrArg s₁.setTop (ef_cnew2 mm v)) ?_
  have N0 := Fr.nil Z.heap.size
  have KP := Keep.refl h0 []
  show Go pp ee below _ (s₁.setTop (mkF mm 0 #[.val (.ref v), .val (.int 1), .val (.int 2)] []))
  refine Go.f X0 hx (hb hby d56_0) rfl (q := 1) rfl ?_
  refine Go.F X0 hx (hb hby d56_1) (by decide) (q := 7) (by decide) (by decide) ?_
  refine Go.jd X0 hx hZ hown (wd287 hw) (wd6 hw) (wd7 hw) e0 (hb hby d56_7) (by decide) (by decide) (q := 10) rfl ?_
  intro b101 T101 h101 X101 e101 q101 E101 A101 D101 U101
  have ne_v_b101 : v ≠ b101 := ne_new Vv.lt (Nat.le_of_eq q101)
  have g_b101 : Z.heap.size ≤ b101 := Nat.le_trans O0.1 (Nat.le_of_eq q101)
  have z_b101 : h0.size ≤ b101 := Nat.le_trans KP.1 (Nat.le_of_eq q101)
  replace Vv := Vv.ext E101
  have OE101 := ext_trans O0 E101
  replace KP := KP.ext E101
  have F101_value : Fld Z h101 b101 xS0 "value" "[B" .null := D101 (Or.inr (wd24 hw)) (ty := (.array .byte)) (by decide)
  have F101_coder : Fld Z h101 b101 xS0 "coder" "B" (.int 0) := D101 (Or.inr (wd25 hw)) (ty := .byte) (by decide)
  clear D101
  refine Go.N X101 hx (hb hby d56_10) rfl (q := 11) rfl ?_
  refine Go.g X101 hx (hb hby d56_11) rfl rfl (q := 12) rfl ?_
  refine Go.f X101 hx (hb hby d56_12) rfl (q := 13) rfl ?_
  refine Go.f X101 hx (hb hby d56_13) rfl (q := 14) rfl ?_
  refine Go.f X101 hx (hb hby d56_14) rfl (q := 15) rfl ?_
  refine Go.jh X101 hx (hb hby d56_15) (r := (3 : Int32)) rfl (q := 16) rfl ?_
  refine Go.A X101 hx hZ hown (wd288 hw) (wd200 hw) (wd201 hw) (wd202 hw) (by decide) (ccs2 l Z a0 hw v (kv) c0 c1 h101 OE101 Vv) e101 (by rw [hml]; rfl) (hb hby d56_16) (argsL := [(.ref v), (.int 1), (.int 3)]) (rest := [(.ref b101), (.ref b101)]) (lenOf pd22 rfl) rfl rfl (W := 2) (Nat.le_refl _) (by decide) ?_
  intro v102 T102 L102 X102 hQ102
  obtain ⟨h102, e102⟩ : ∃ z, T102.heap = z := ⟨_, rfl⟩
  rw [e102] at hQ102
  obtain ⟨u_102, ku_102, rfl, N102q, K102, fr102_u, P102_0⟩ := hQ102
  have N102 := Fr.app N0 N102q
  have ne_v_u_102 : v ≠ u_102 := ne_new Vv.lt fr102_u
  have ne_b101_u_102 : b101 ≠ u_102 := ne_new A101.lt fr102_u
  have g_u_102 : Z.heap.size ≤ u_102 := Nat.le_trans OE101.1 fr102_u
  have z_u_102 : h0.size ≤ u_102 := Nat.le_trans KP.1 fr102_u
  replace Vv := Vv.keep K102 nin0
  replace A101 := A101.keep K102
  replace F101_value := F101_value.keep K102 nin0
  replace F101_coder := F101_coder.keep K102 nin0
  have OK102 := ext_keep OE101 K102 all0
  replace KP := KP.trans K102 all0
  refine Go.i X102 hx (hb hby d56_19) (r := (0 : Int32)) rfl (q := 20) rfl ?_
  refine Go.Y X102 hx hZ hown rfl (wd289 hw) (wd290 hw) (wd7 hw) (wd291 hw) (by decide) (cstr l Z a0 hw b101 u_102 h102 OK102 A101 F101_value F101_coder g_b101) e102 (by rw [hml]; rfl) (hb hby d56_20) (argsL := [(.ref u_102), (.int 0)]) (rest := [(.ref b101)]) (lenOf pd39 rfl) rfl rfl (W := 1) (Nat.le_refl _) (by decide) ?_
  intro v103 T103 L103 X103 hQ103
  obtain ⟨h103, e103⟩ : ∃ z, T103.heap = z := ⟨_, rfl⟩
  rw [e103] at hQ103
  obtain ⟨rfl, N103q, K103, P103_0, P103_1⟩ := hQ103
  have N103 := Fr.app N102 N103q
  replace Vv := Vv.keep K103 (ninS ne_v_b101 nin0)
  replace A101 := A101.keep K103
  replace P102_0 := P102_0.keep K103 (ninS (Ne.symm ne_b101_u_102) nin0)
  have OK103 := ext_keep OK102 K103 (allS g_b101 all0)
  replace KP := KP.trans K103 (allS (Or.inr z_b101) all0)
  exact Go.U X103 hx hret hlk rfl rfl (hb hby d56_23) e103 (by decide) (by decide) ⟨b101, u_102, ku_102, rfl, N103, KP, z_b101, A101, P103_1, P103_0, P102_0⟩
def Q_csub2 (Z : State) (s : Addr) (cs : Int32) (fm : Value) (v : Addr) (kv : ClassId) (c0 c1 : Int32) (h0 : Heap) (vR : Option Value) (hR : Heap) (LR : List Loc) : Prop := ∃ w : Addr, ∃ u : Addr, ∃ ku : ClassId, vR = some (.ref w) ∧ Fr Z.heap.size LR ∧ Keep h0 hR [] ∧ h0.size ≤ w ∧ Exa Z hR w xS0 ∧ Fld Z hR w xS0 "coder" "B" (.int 0) ∧ Fld Z hR w xS0 "value" "[B" (.ref u) ∧ Arv Z hR u ku .byte (2 : Int32) [(.int (c0.toInt8.toInt32)), (.int (c1.toInt8.toInt32))] (.int 0)
theorem csub2 (l : Launch) (Z : State) (a0 : Array Value) (hw : ∀ d ∈ tables_1, d.before a0 Z = true) (s : Addr) (cs : Int32) (fm : Value) (v : Addr) (kv : ClassId) (c0 c1 : Int32) (h0 : Heap) (O0 : Ext Z.heap h0) (Es : Exa Z h0 s xS0) (Cs : Fld Z h0 s xS0 "coder" "B" (.int 0)) (Fs : Fld Z h0 s xS0 "value" "[B" (.ref v)) (Vv : Arv Z h0 v kv .byte (4 : Int32) [(.int 34), (.int (c0.toInt8.toInt32)), (.int (c1.toInt8.toInt32)), (.int 34)] (.int 0)) (SCS : Sta Z Z.heap xS0 xS3 "Z" (.int cs)) (SFM : Sta Z Z.heap xS6 "SIOOBE_FORMATTER" xS9 fm) (hcs : ¬ (cs = (0 : Int32))) (hfm : fm.isRef = true) :
    Ctr l Z h0 (⟨xS0, "substring", "(II)Ljava/lang/String;"⟩ : MethodName) k53 5 (some (.object xS0)) [] ({ frames := 4, cells := 2, slots := 6, locals := 64 } : Room) #[(.ref s), (.int 1), (.int 3)] (Q_csub2 Z s cs fm v kv c0 c1 h0) := by
  refine enter (plainFor_of_name pn1) ?_
  intro pp ee ss mm below meth cc s₁ hx hby hml hZ hown hnm hret hlk X0 e0 hs0
  replace hown : ss.vm.findClass xS0 = some mm.cls := hown
  refine Go.r (congrArg s₁.setTop (ef_csub2 mm s)) ?_
  have N0 := Fr.nil Z.heap.size
  have KP := Keep.refl h0 []
  show Go pp ee below _ (s₁.setTop (mkF mm 0 #[.val (.ref s), .val (.int 1), .val (.int 3), .unset, .unset] []))
  refine Go.g X0 hx (hb hby d53_0) rfl rfl (q := 1) rfl ?_
  refine Go.u X0 hx hZ hown (wd240 hw) (wd59 hw) (notFace_of_selects (args := #[]) (mvT hZ (wd61 hw))) (wd61 hw) (wd60 hw) (wd7 hw) (wd62 hw) (by decide) (clen l Z a0 hw s cs v (kv) ((4 : Int32)) ([(.int 34), (.int (c0.toInt8.toInt32)), (.int (c1.toInt8.toInt32)), (.int 34)]) h0 O0 Es Cs Fs Vv SCS hcs) e0 Es (by rw [hml]; rfl) (hb hby d53_1) (argsL := []) (rest := []) (lenOf pd10 rfl) rfl rfl (W := 0) (Nat.le_refl _) (by decide) ?_
  intro v101 T101 L101 X101 hQ101
  obtain ⟨rfl, N101q, e101⟩ := hQ101
  have N101 := Fr.app N0 N101q
  refine Go.P X101 hx (hb hby d53_4) (l' := #[.val (.ref s), .val (.int 1), .val (.int 3), .val (.int 4), .unset]) rfl (q := 5) rfl ?_
  refine Go.f X101 hx (hb hby d53_5) rfl (q := 6) rfl ?_
  refine Go.f X101 hx (hb hby d53_6) rfl (q := 7) rfl ?_
  refine Go.f X101 hx (hb hby d53_7) rfl (q := 8) rfl ?_
  refine Go.A X101 hx hZ hown (wd271 hw) (wd272 hw) (wd7 hw) (wd273 hw) (by decide) (cbbe l Z a0 hw ((1 : Int32)) ((3 : Int32)) ((4 : Int32)) fm h0 O0 SFM hfm (by decide) (by decide) (by decide)) e101 (by rw [hml]; rfl) (hb hby d53_8) (argsL := [(.int 1), (.int 3), (.int 4)]) (rest := []) (lenOf pd35 rfl) rfl rfl (W := 0) (Nat.le_refl _) (by decide) ?_
  intro v102 T102 L102 X102 hQ102
  obtain ⟨rfl, N102q, e102⟩ := hQ102
  have N102 := Fr.app N101 N102q
  refine Go.f X102 hx (hb hby d53_11) rfl (q := 12) rfl ?_
  refine Go.F X102 hx (hb hby d53_12) (by decide) (q := 22) (by decide) (by decide) ?_
  refine Go.f X102 hx (hb hby d53_22) rfl (q := 23) rfl ?_
  refine Go.f X102 hx (hb hby d53_23) rfl (q := 24) rfl ?_
  refine Go.ja X102 hx (hb hby d53_24) (r := (2 : Int32)) rfl (q := 25) rfl ?_
  refine Go.G X102 hx (hb hby d53_25) (l' := #[.val (.ref s), .val (.int 1), .val (.int 3), .val (.int 4), .val (.int 2)]) rfl (q := 27) rfl ?_
  refine Go.g X102 hx (hb hby d53_27) rfl rfl (q := 28) rfl ?_
  refine Go.u X102 hx hZ hown (wd250 hw) (wd251 hw) (notFace_of_selects (args := #[]) (mvT hZ (wd253 hw))) (wd253 hw) (wd252 hw) (wd7 hw) (wd254 hw) (by decide) (clat l Z a0 hw s cs h0 O0 Cs SCS hcs) e102 Es (by rw [hml]; rfl) (hb hby d53_28) (argsL := []) (rest := []) (lenOf pd7 rfl) rfl rfl (W := 0) (Nat.le_refl _) (by decide) ?_
  intro v103 T103 L103 X103 hQ103
  obtain ⟨rfl, N103q, e103⟩ := hQ103
  have N103 := Fr.app N102 N103q
  refine Go.L X103 hx (hb hby d53_31) (by decide) (q := 34) rfl ?_
  refine Go.g X103 hx (hb hby d53_34) rfl rfl (q := 35) rfl ?_
  refine Go.B X103 hx hZ hown (host := "") (Or.inl (wd28 hw)) Via.refl e103 Fs (hb hby d53_35) (q := 38) rfl ?_
  intro T104 X104 e104
  refine Go.f X104 hx (hb hby d53_38) rfl (q := 39) rfl ?_
  refine Go.o X104 hx (hb hby d53_39) rfl (q := 41) rfl ?_
  refine Go.A X104 hx hZ hown (wd277 hw) (wd278 hw) (wd171 hw) (wd279 hw) (by decide) (cnew2 l Z a0 hw v (kv) c0 c1 h0 O0 Vv) e104 (by rw [hml]; rfl) (hb hby d53_41) (argsL := [(.ref v), (.int 1), (.int 2)]) (rest := []) (lenOf pd36 rfl) rfl rfl (W := 0) (Nat.le_refl _) (by decide) ?_
  intro v105 T105 L105 X105 hQ105
  obtain ⟨h105, e105⟩ : ∃ z, T105.heap = z := ⟨_, rfl⟩
  rw [e105] at hQ105
  obtain ⟨w_105, u_105, ku_105, rfl, N105q, K105, fr105_w, P105_0, P105_1, P105_2, P105_3⟩ := hQ105
  have N105 := Fr.app N103 N105q
  have ne_s_w_105 : s ≠ w_105 := ne_new Es.lt fr105_w
  have ne_v_w_105 : v ≠ w_105 := ne_new Vv.lt fr105_w
  have g_w_105 : Z.heap.size ≤ w_105 := Nat.le_trans O0.1 fr105_w
  have z_w_105 : h0.size ≤ w_105 := Nat.le_trans KP.1 fr105_w
  replace Es := Es.keep K105
  replace Cs := Cs.keep K105 nin0
  replace Fs := Fs.keep K105 nin0
  replace Vv := Vv.keep K105 nin0
  have OK105 := ext_keep O0 K105 all0
  replace KP := KP.trans K105 all0
  refine Go.D X105 hx (hb hby d53_44) (q := 57) (by decide) (by decide) ?_
  exact Go.U X105 hx hret hlk rfl rfl (hb hby d53_57) e105 (by decide) (by decide) ⟨w_105, u_105, ku_105, rfl, N105, KP, z_w_105, P105_0, P105_1, P105_2, P105_3⟩
def Q_cprs2 (Z : State) (s v : Addr) (kv : ClassId) (cs : Int32) (fm : Value) (c0 c1 : Int32) (h0 : Heap) (vR : Option Value) (hR : Heap) (LR : List Loc) : Prop := ∃ t : Addr, ∃ w : Addr, ∃ u : Addr, ∃ ku : ClassId, vR = some (.ref t) ∧ Fr Z.heap.size LR ∧ Keep h0 hR [] ∧ h0.size ≤ t ∧ h0.size ≤ w ∧ Exa Z hR t xS1 ∧ Fld Z hR t xS1 "weak" "Z" (.int 0) ∧ Fld Z hR t xS1 "value" xS4 (.ref w) ∧ Fld Z hR t xS1 "field" xS4 .null ∧ Exa Z hR w xS0 ∧ Fld Z hR w xS0 "coder" "B" (.int 0) ∧ Fld Z hR w xS0 "value" "[B" (.ref u) ∧ Arv Z hR u ku .byte (2 : Int32) [(.int (c0.toInt8.toInt32)), (.int (c1.toInt8.toInt32))] (.int 0)
theorem cprs2 (l : Launch) (Z : State) (a0 : Array Value) (hw : ∀ d ∈ tables_1, d.before a0 Z = true) (s v : Addr) (kv : ClassId) (cs : Int32) (fm : Value) (c0 c1 : Int32) (h0 : Heap) (O0 : Ext Z.heap h0) (Es : Exa Z h0 s xS0) (Cs : Fld Z h0 s xS0 "coder" "B" (.int 0)) (Fs : Fld Z h0 s xS0 "value" "[B" (.ref v)) (Vs : Arv Z h0 v kv .byte (4 : Int32) [(.int 34), (.int (c0.toInt8.toInt32)), (.int (c1.toInt8.toInt32)), (.int 34)] (.int 0)) (SCS : Sta Z Z.heap xS0 xS3 "Z" (.int cs)) (SFM : Sta Z Z.heap xS6 "SIOOBE_FORMATTER" xS9 fm) (hcs : ¬ (cs = (0 : Int32))) (hfm : fm.isRef = true) (he0 : ETC c0) (he1 : ETC c1) :
    CtrH l Z consts_1 h0 (⟨xS1, "parse", xS11⟩ : MethodName) k44 5 (some (.object xS1)) [] ({ frames := 5, cells := 9, slots := 65, locals := 80 } : Room) #[(.ref s)] (Q_cprs2 Z s v kv cs fm c0 c1 h0) := by
  refine enterH (plainFor_of_name pn6) ?_
  intro pp ee ss mm below meth cc s₁ hx hby hml hZ hown hnm hret hlk X0 e0 hs0 hS hC
  replace hown : (ss.setVm ss.vm).vm.findClass xS1 = some mm.cls := hown
  have hKd := Nat.zero_le h0.size
  refine Go.r (congrArg s₁.setTop (ef_cprs2 mm s)) ?_
  have N0 := Fr.nil Z.heap.size
  have KP := Keep.refl h0 []
  show Go pp ee below _ (s₁.setTop (mkF mm 0 #[.val (.ref s), .unset, .unset, .unset, .unset] []))
  refine Go.g X0 hx (hb hby d44_0) rfl rfl (q := 1) rfl ?_
  refine Go.jt X0 hx hZ hown (wd228 hw) (own_wS hw) e0 hS hKd (own_EW hw) hC (hb hby d44_1) (nn := 16) (by decide) (by decide) (by decide) (by decide) (q := 3) rfl ?_
  intro b101 T101 h101 k101 X101 e101 E101 hS hKd hZ hown hR101
  replace hC := hC.trans hR101
  replace Es := Es.ext E101
  replace Cs := Cs.ext E101
  replace Fs := Fs.ext E101
  replace Vs := Vs.ext E101
  have OE101 := ext_trans O0 E101
  replace KP := KP.ext E101
  refine Go.A X101 hx hZ hown (wd54 hw) (wd55 hw) (wd56 hw) (wd57 hw) (by decide) (creq l Z a0 hw s b101 h101 OE101) e101 (by rw [hml]; rfl) (hb hby d44_3) (argsL := [(.ref s), (.ref b101)]) (rest := []) (lenOf pd9 rfl) rfl rfl (W := 0) (Nat.le_refl _) (by decide) ?_
  intro v102 T102 L102 X102 hQ102
  obtain ⟨rfl, N102q, e102⟩ := hQ102
  have N102 := Fr.app N0 N102q
  refine Go.jo X102 hx (hb hby d44_6) rfl (q := 7) rfl ?_
  refine Go.g X102 hx (hb hby d44_7) rfl rfl (q := 8) rfl ?_
  refine Go.jv X102 hx hZ hown (wd229 hw) (own_wS hw) e102 hS hKd (own_EW hw) (List.mem_of_getElem? (i := 1) rfl) hC (vs := [(.int 87), (.int 47)]) (z := (2 : Int32)) ⟨by decide, rfl⟩ (by decide) rfl (hb hby d44_8) (nn := 8) (by decide) (by decide) (by decide) (by decide) (q := 10) rfl ?_
  intro b103 u103 kc103 T103 h103 k103 X103 e103 E103 hS hKd hZ hown B103 C103 F103 V103 hR103
  replace hC := hC.trans hR103
  replace Es := Es.ext E103
  replace Cs := Cs.ext E103
  replace Fs := Fs.ext E103
  replace Vs := Vs.ext E103
  have OE103 := ext_trans OE101 E103
  replace KP := KP.ext E103
  have ne_s_u103 := Exa.neArv Es V103 (wd6 hw)
  refine Go.u X103 hx hZ hown (wd230 hw) (wd231 hw) (notFace_of_selects (args := #[]) (mvT hZ (wd233 hw))) (wd233 hw) (wd232 hw) (wd7 hw) (wd234 hw) (by decide) (csw1 l Z a0 hw s b103 cs v u103 (kv) (kc103) ((4 : Int32)) ([(.int 34), (.int (c0.toInt8.toInt32)), (.int (c1.toInt8.toInt32)), (.int 34)]) h103 OE103 Es B103 Cs C103 Fs F103 Vs V103 SCS hcs (by decide) rfl (by decide)) e103 Es (by rw [hml]; rfl) (hb hby d44_10) (argsL := [(.ref b103)]) (rest := []) (lenOf pd37 rfl) rfl rfl (W := 0) (Nat.le_refl _) (by decide) ?_
  intro v104 T104 L104 X104 hQ104
  obtain ⟨rfl, N104q, e104⟩ := hQ104
  have N104 := Fr.app N102 N104q
  refine Go.P X104 hx (hb hby d44_13) (l' := #[.val (.ref s), .val (.int 0), .unset, .unset, .unset]) rfl (q := 14) rfl ?_
  refine Go.f X104 hx (hb hby d44_14) rfl (q := 15) rfl ?_
  refine Go.F X104 hx (hb hby d44_15) (by decide) (q := 26) (by decide) (by decide) ?_
  refine Go.i X104 hx (hb hby d44_26) (r := (0 : Int32)) rfl (q := 27) rfl ?_
  refine Go.P X104 hx (hb hby d44_27) (l' := #[.val (.ref s), .val (.int 0), .val (.int 0), .unset, .unset]) rfl (q := 28) rfl ?_
  refine Go.g X104 hx (hb hby d44_28) rfl rfl (q := 29) rfl ?_
  refine Go.u X104 hx hZ hown (wd58 hw) (wd59 hw) (notFace_of_selects (args := #[]) (mvT hZ (wd61 hw))) (wd61 hw) (wd60 hw) (wd7 hw) (wd62 hw) (by decide) (clen l Z a0 hw s cs v (kv) ((4 : Int32)) ([(.int 34), (.int (c0.toInt8.toInt32)), (.int (c1.toInt8.toInt32)), (.int 34)]) h103 OE103 Es Cs Fs Vs SCS hcs) e104 Es (by rw [hml]; rfl) (hb hby d44_29) (argsL := []) (rest := []) (lenOf pd10 rfl) rfl rfl (W := 0) (Nat.le_refl _) (by decide) ?_
  intro v105 T105 L105 X105 hQ105
  obtain ⟨rfl, N105q, e105⟩ := hQ105
  have N105 := Fr.app N104 N105q
  refine Go.i X105 hx (hb hby d44_32) (r := (1 : Int32)) rfl (q := 33) rfl ?_
  refine Go.ja X105 hx (hb hby d44_33) (r := (3 : Int32)) rfl (q := 34) rfl ?_
  refine Go.P X105 hx (hb hby d44_34) (l' := #[.val (.ref s), .val (.int 0), .val (.int 0), .val (.int 3), .unset]) rfl (q := 35) rfl ?_
  refine Go.f X105 hx (hb hby d44_35) rfl (q := 36) rfl ?_
  refine Go.f X105 hx (hb hby d44_36) rfl (q := 37) rfl ?_
  refine Go.t X105 hx (hb hby d44_37) (by decide) (q := 40) rfl ?_
  refine Go.g X105 hx (hb hby d44_40) rfl rfl (q := 41) rfl ?_
  refine Go.f X105 hx (hb hby d44_41) rfl (q := 42) rfl ?_
  refine Go.u X105 hx hZ hown (wd245 hw) (wd246 hw) (notFace_of_selects (args := #[]) (mvT hZ (wd248 hw))) (wd248 hw) (wd247 hw) (wd7 hw) (wd249 hw) (by decide) (cchar l Z a0 hw s ((0 : Int32)) cs v (kv) ((4 : Int32)) ([(.int 34), (.int (c0.toInt8.toInt32)), (.int (c1.toInt8.toInt32)), (.int 34)]) ((34 : Int32)) fm h103 OE103 Es Cs Fs Vs SCS SFM hcs hfm (by decide) (by decide) rfl) e105 Es (by rw [hml]; rfl) (hb hby d44_42) (argsL := [(.int 0)]) (rest := []) (lenOf pd11 rfl) rfl rfl (W := 0) (Nat.le_refl _) (by decide) ?_
  intro v106 T106 L106 X106 hQ106
  obtain ⟨rfl, N106q, e106⟩ := hQ106
  have N106 := Fr.app N105 N106q
  refine Go.E X106 hx (hb hby d44_45) (r := (34 : Int32)) rfl (q := 47) rfl ?_
  refine Go.t X106 hx (hb hby d44_47) (by decide) (q := 50) rfl ?_
  refine Go.g X106 hx (hb hby d44_50) rfl rfl (q := 51) rfl ?_
  refine Go.f X106 hx (hb hby d44_51) rfl (q := 52) rfl ?_
  refine Go.u X106 hx hZ hown (wd245 hw) (wd246 hw) (notFace_of_selects (args := #[]) (mvT hZ (wd248 hw))) (wd248 hw) (wd247 hw) (wd7 hw) (wd249 hw) (by decide) (cchar l Z a0 hw s ((3 : Int32)) cs v (kv) ((4 : Int32)) ([(.int 34), (.int (c0.toInt8.toInt32)), (.int (c1.toInt8.toInt32)), (.int 34)]) ((34 : Int32)) fm h103 OE103 Es Cs Fs Vs SCS SFM hcs hfm (by decide) (by decide) rfl) e106 Es (by rw [hml]; rfl) (hb hby d44_52) (argsL := [(.int 3)]) (rest := []) (lenOf pd11 rfl) rfl rfl (W := 0) (Nat.le_refl _) (by decide) ?_
  intro v107 T107 L107 X107 hQ107
  obtain ⟨rfl, N107q, e107⟩ := hQ107
  have N107 := Fr.app N106 N107q
  refine Go.E X107 hx (hb hby d44_55) (r := (34 : Int32)) rfl (q := 57) rfl ?_
  refine Go.y X107 hx (hb hby d44_57) (by decide) (q := 70) (by decide) (by decide) ?_
  refine Go.g X107 hx (hb hby d44_70) rfl rfl (q := 71) rfl ?_
  refine Go.f X107 hx (hb hby d44_71) rfl (q := 72) rfl ?_
  refine Go.i X107 hx (hb hby d44_72) (r := (1 : Int32)) rfl (q := 73) rfl ?_
  refine Go.jh X107 hx (hb hby d44_73) (r := (1 : Int32)) rfl (q := 74) rfl ?_
  refine Go.f X107 hx (hb hby d44_74) rfl (q := 75) rfl ?_
  refine Go.u X107 hx hZ hown (wd266 hw) (wd267 hw) (notFace_of_selects (args := #[]) (mvT hZ (wd269 hw))) (wd269 hw) (wd268 hw) (wd7 hw) (wd270 hw) (by decide) (csub2 l Z a0 hw s cs fm v (kv) c0 c1 h103 OE103 Es Cs Fs Vs SCS SFM hcs hfm) e107 Es (by rw [hml]; rfl) (hb hby d44_75) (argsL := [(.int 1), (.int 3)]) (rest := []) (lenOf pd38 rfl) rfl rfl (W := 0) (Nat.le_refl _) (by decide) ?_
  intro v108 T108 L108 X108 hQ108
  obtain ⟨h108, e108⟩ : ∃ z, T108.heap = z := ⟨_, rfl⟩
  rw [e108] at hQ108
  obtain ⟨w_108, u_108, ku_108, rfl, N108q, K108, fr108_w, P108_0, P108_1, P108_2, P108_3⟩ := hQ108
  have N108 := Fr.app N107 N108q
  have ne_s_w_108 : s ≠ w_108 := ne_new Es.lt fr108_w
  have ne_v_w_108 : v ≠ w_108 := ne_new Vs.lt fr108_w
  have ne_b103_w_108 : b103 ≠ w_108 := ne_new B103.lt fr108_w
  have ne_u103_w_108 : u103 ≠ w_108 := ne_new V103.lt fr108_w
  have g_w_108 : Z.heap.size ≤ w_108 := Nat.le_trans OE103.1 fr108_w
  have z_w_108 : h0.size ≤ w_108 := Nat.le_trans KP.1 fr108_w
  replace hKd := Nat.le_trans hKd K108.1
  have hSk : ∀ x ∈ ([] : List Addr), Safe Z consts_1 T103.vm h103 x := all0
  replace hC := hC.trans (CHr.keep K108 hSk hC.1)
  replace Es := Es.keep K108
  replace Cs := Cs.keep K108 nin0
  replace Fs := Fs.keep K108 nin0
  replace Vs := Vs.keep K108 nin0
  replace B103 := B103.keep K108
  replace C103 := C103.keep K108 nin0
  replace F103 := F103.keep K108 nin0
  replace V103 := V103.keep K108 nin0
  have OK108 := ext_keep OE103 K108 all0
  replace KP := KP.trans K108 all0
  refine Go.f X108 hx (hb hby d44_78) rfl (q := 79) rfl ?_
  refine Go.i X108 hx (hb hby d44_79) (r := (1 : Int32)) rfl (q := 80) rfl ?_
  refine Go.jh X108 hx (hb hby d44_80) (r := (1 : Int32)) rfl (q := 81) rfl ?_
  refine Go.jk X108 hx hZ hown hS hKd (own_EW hw) hC (wd50 hw) (wd51 hw) (wd46 hw) (wd52 hw) (by decide) (cchk2 l Z a0 hw w_108 u_108 (ku_108) cs fm c0 c1 ((1 : Int32)) h108 OK108 P108_0 P108_1 P108_2 P108_3 SCS SFM hcs hfm he0 he1) e108 (by rw [hml]; rfl) (hb hby d44_81) (argsL := [(.ref w_108), (.int 1)]) (rest := []) (lenOf pd12 rfl) rfl rfl (W := 0) (Nat.le_refl _) (by decide) ?_
  intro v109 T109 L109 k109 X109 hS hKd hZ hown hR109 hQ109
  obtain ⟨h109, e109⟩ : ∃ z, T109.heap = z := ⟨_, rfl⟩
  rw [e109] at hQ109 hKd hR109
  obtain ⟨rfl, N109q, K109⟩ := hQ109
  have N109 := Fr.app N108 N109q
  replace hC := hC.trans hR109
  replace Es := Es.keep K109
  replace Cs := Cs.keep K109 nin0
  replace Fs := Fs.keep K109 nin0
  replace Vs := Vs.keep K109 nin0
  replace B103 := B103.keep K109
  replace C103 := C103.keep K109 nin0
  replace F103 := F103.keep K109 nin0
  replace V103 := V103.keep K109 nin0
  replace P108_0 := P108_0.keep K109
  replace P108_1 := P108_1.keep K109 nin0
  replace P108_2 := P108_2.keep K109 nin0
  replace P108_3 := P108_3.keep K109 nin0
  have OK109 := ext_keep OK108 K109 all0
  replace KP := KP.trans K109 all0
  refine Go.V X109 hx (hb hby d44_84) rfl (l' := #[.val (.ref s), .val (.int 0), .val (.int 0), .val (.int 3), .val (.ref w_108)]) rfl (q := 86) rfl ?_
  refine Go.jd X109 hx hZ hown (wd48 hw) (wd49 hw) (wd46 hw) e109 (hb hby d44_86) (by decide) (by decide) (q := 89) rfl ?_
  intro b110 T110 h110 X110 e110 q110 E110 A110 D110 U110
  have ne_s_b110 : s ≠ b110 := ne_new Es.lt (Nat.le_of_eq q110)
  have ne_v_b110 : v ≠ b110 := ne_new Vs.lt (Nat.le_of_eq q110)
  have ne_b103_b110 : b103 ≠ b110 := ne_new B103.lt (Nat.le_of_eq q110)
  have ne_u103_b110 : u103 ≠ b110 := ne_new V103.lt (Nat.le_of_eq q110)
  have ne_w_108_b110 : w_108 ≠ b110 := ne_new P108_0.lt (Nat.le_of_eq q110)
  have ne_u_108_b110 : u_108 ≠ b110 := ne_new P108_3.lt (Nat.le_of_eq q110)
  have g_b110 : Z.heap.size ≤ b110 := Nat.le_trans OK109.1 (Nat.le_of_eq q110)
  have z_b110 : h0.size ≤ b110 := Nat.le_trans KP.1 (Nat.le_of_eq q110)
  replace hC := hC.trans (CHr.ext E110 hC.1)
  replace Es := Es.ext E110
  replace Cs := Cs.ext E110
  replace Fs := Fs.ext E110
  replace Vs := Vs.ext E110
  replace B103 := B103.ext E110
  replace C103 := C103.ext E110
  replace F103 := F103.ext E110
  replace V103 := V103.ext E110
  replace P108_0 := P108_0.ext E110
  replace P108_1 := P108_1.ext E110
  replace P108_2 := P108_2.ext E110
  replace P108_3 := P108_3.ext E110
  have OE110 := ext_trans OK109 E110
  replace hKd := Nat.le_trans hKd E110.1
  replace KP := KP.ext E110
  have F110_weak : Fld Z h110 b110 xS1 "weak" "Z" (.int 0) := D110 (Or.inr (wd73 hw)) (ty := .boolean) (by decide)
  have F110_value : Fld Z h110 b110 xS1 "value" xS4 .null := D110 (Or.inr (wd75 hw)) (ty := (.object xS0)) (by decide)
  have F110_field : Fld Z h110 b110 xS1 "field" xS4 .null := D110 (Or.inl (wd97 hw)) (ty := (.object xS0)) (by decide)
  clear D110
  refine Go.N X110 hx (hb hby d44_89) rfl (q := 90) rfl ?_
  refine Go.f X110 hx (hb hby d44_90) rfl (q := 91) rfl ?_
  refine Go.w X110 hx (hb hby d44_91) rfl rfl (q := 93) rfl ?_
  refine Go.Y X110 hx hZ hown rfl (wd68 hw) (wd69 hw) (wd46 hw) (wd70 hw) (by decide) (ceti l Z a0 hw b110 w_108 h110 OE110 A110 g_b110 F110_weak F110_value F110_field) e110 (by rw [hml]; rfl) (hb hby d44_93) (argsL := [(.int 0), (.ref w_108)]) (rest := [(.ref b110)]) (lenOf pd13 rfl) rfl rfl (W := 1) (Nat.le_refl _) (by decide) ?_
  intro v111 T111 L111 X111 hQ111
  obtain ⟨h111, e111⟩ : ∃ z, T111.heap = z := ⟨_, rfl⟩
  rw [e111] at hQ111
  obtain ⟨rfl, N111q, K111, P111_0, P111_1, P111_2⟩ := hQ111
  have N111 := Fr.app N109 N111q
  replace hKd := Nat.le_trans hKd K111.1
  have hSk : ∀ x ∈ [b110], Safe Z consts_1 T109.vm h110 x := (allS (Safe.exa hZ.alike A110 (by decide) (by decide)) all0)
  replace hC := hC.trans (CHr.keep K111 hSk hC.1)
  replace Es := Es.keep K111
  replace Cs := Cs.keep K111 (ninS ne_s_b110 nin0)
  replace Fs := Fs.keep K111 (ninS ne_s_b110 nin0)
  replace Vs := Vs.keep K111 (ninS ne_v_b110 nin0)
  replace B103 := B103.keep K111
  replace C103 := C103.keep K111 (ninS ne_b103_b110 nin0)
  replace F103 := F103.keep K111 (ninS ne_b103_b110 nin0)
  replace V103 := V103.keep K111 (ninS ne_u103_b110 nin0)
  replace P108_0 := P108_0.keep K111
  replace P108_1 := P108_1.keep K111 (ninS ne_w_108_b110 nin0)
  replace P108_2 := P108_2.keep K111 (ninS ne_w_108_b110 nin0)
  replace P108_3 := P108_3.keep K111 (ninS ne_u_108_b110 nin0)
  replace A110 := A110.keep K111
  have OK111 := ext_keep OE110 K111 (allS g_b110 all0)
  replace KP := KP.trans K111 (allS (Or.inr z_b110) all0)
  exact Go.jm X111 hx hS hKd hs0 hZ (own_EW hw) hC hret hlk rfl rfl (hb hby d44_96) e111 (by decide) (by decide) ⟨b110, w_108, u_108, ku_108, rfl, N111, KP, z_b110, z_w_108, A110, P111_0, P111_1, P111_2, P108_0, P108_1, P108_2, P108_3⟩
def Q_cete2 (Z : State) (o q t1 t2 v1 v2 : Addr) (k1 k2 : ClassId) (cs c0 c1 : Int32) (h0 : Heap) (vR : Option Value) (hR : Heap) (LR : List Loc) : Prop := vR = some (.int 1) ∧ Fr Z.heap.size LR ∧ hR = h0
theorem cete2 (l : Launch) (Z : State) (a0 : Array Value) (hw : ∀ d ∈ tables_1, d.before a0 Z = true) (o q t1 t2 v1 v2 : Addr) (k1 k2 : ClassId) (cs c0 c1 : Int32) (h0 : Heap) (O0 : Ext Z.heap h0) (Eq_ : Exa Z h0 q xS1) (noq : o ≠ q) (A0 : Fld Z h0 o xS1 "weak" "Z" (.int 0)) (A1 : Fld Z h0 q xS1 "weak" "Z" (.int 0)) (A2 : Fld Z h0 o xS1 "value" xS4 (.ref t1)) (A3 : Fld Z h0 q xS1 "value" xS4 (.ref t2)) (E1 : Exa Z h0 t1 xS0) (E2 : Exa Z h0 t2 xS0) (C1 : Fld Z h0 t1 xS0 "coder" "B" (.int 0)) (C2 : Fld Z h0 t2 xS0 "coder" "B" (.int 0)) (F1 : Fld Z h0 t1 xS0 "value" "[B" (.ref v1)) (F2 : Fld Z h0 t2 xS0 "value" "[B" (.ref v2)) (V1 : Arv Z h0 v1 k1 .byte (2 : Int32) [(.int (c0.toInt8.toInt32)), (.int (c1.toInt8.toInt32))] (.int 0)) (V2 : Arv Z h0 v2 k2 .byte (2 : Int32) [(.int (c0.toInt8.toInt32)), (.int (c1.toInt8.toInt32))] (.int 0)) (n12 : t1 ≠ t2) (SCS : Sta Z Z.heap xS0 xS3 "Z" (.int cs)) (hcs : ¬ (cs = (0 : Int32))) :
    Ctr l Z h0 (⟨xS1, "equals", "(Ljava/lang/Object;)Z"⟩ : MethodName) k57 3 (some .boolean) [] ({ frames := 2, cells := 0, slots := 0, locals := 28 } : Room) #[(.ref o), (.ref q)] (Q_cete2 Z o q t1 t2 v1 v2 k1 k2 cs c0 c1 h0) := by
  refine enter (plainFor_of_name pn6) ?_
  intro pp ee ss mm below meth cc s₁ hx hby hml hZ hown hnm hret hlk X0 e0 hs0
  replace hown : ss.vm.findClass xS1 = some mm.cls := hown
  refine Go.r (congrArg s₁.setTop (ef_cete2 mm o q)) ?_
  have N0 := Fr.nil Z.heap.size
  show Go pp ee below _ (s₁.setTop (mkF mm 0 #[.val (.ref o), .val (.ref q), .unset] []))
  refine Go.g X0 hx (hb hby d57_0) rfl rfl (q := 1) rfl ?_
  refine Go.g X0 hx (hb hby d57_1) rfl rfl (q := 2) rfl ?_
  refine Go.jp X0 hx rfl rfl (hb hby d57_2) (same := false) (decide_eq_false fun q => noq (Value.ref.inj q)) (q := 7) (by decide) (by decide) ?_
  refine Go.g X0 hx (hb hby d57_7) rfl rfl (q := 8) rfl ?_
  refine Go.js X0 hx hZ hown (wd48 hw) e0 (Ins.self Eq_) (hb hby d57_8) (q := 11) rfl ?_
  intro T101 X101 e101
  refine Go.F X101 hx (hb hby d57_11) (by decide) (q := 16) (by decide) (by decide) ?_
  refine Go.g X101 hx (hb hby d57_16) rfl rfl (q := 17) rfl ?_
  refine Go.jr X101 hx hZ hown (wd48 hw) e101 (Ins.self Eq_) (hb hby d57_17) (q := 20) rfl ?_
  intro T102 X102 e102
  refine Go.jf X102 hx (hb hby d57_20) rfl (l' := #[.val (.ref o), .val (.ref q), .val (.ref q)]) rfl (q := 21) rfl ?_
  refine Go.g X102 hx (hb hby d57_21) rfl rfl (q := 22) rfl ?_
  refine Go.B X102 hx hZ hown (host := "") (Or.inl (wd72 hw)) Via.refl e102 A0 (hb hby d57_22) (q := 25) rfl ?_
  intro T103 X103 e103
  refine Go.g X103 hx (hb hby d57_25) rfl rfl (q := 26) rfl ?_
  refine Go.B X103 hx hZ hown (host := "") (Or.inl (wd72 hw)) Via.refl e103 A1 (hb hby d57_26) (q := 29) rfl ?_
  intro T104 X104 e104
  refine Go.t X104 hx (hb hby d57_29) (by decide) (q := 32) rfl ?_
  refine Go.g X104 hx (hb hby d57_32) rfl rfl (q := 33) rfl ?_
  refine Go.B X104 hx hZ hown (host := "") (Or.inl (wd74 hw)) Via.refl e104 A2 (hb hby d57_33) (q := 36) rfl ?_
  intro T105 X105 e105
  refine Go.g X105 hx (hb hby d57_36) rfl rfl (q := 37) rfl ?_
  refine Go.B X105 hx hZ hown (host := "") (Or.inl (wd74 hw)) Via.refl e105 A3 (hb hby d57_37) (q := 40) rfl ?_
  intro T106 X106 e106
  refine Go.u X106 hx hZ hown (wd224 hw) (wd87 hw) (notFace_of_selects (args := #[]) (mvT hZ (wd89 hw))) (wd89 hw) (wd88 hw) (wd7 hw) (wd90 hw) (by decide) (cse2 l Z a0 hw t1 t2 cs v1 v2 (k1) (k2) ((c0.toInt8.toInt32)) ((c1.toInt8.toInt32)) h0 O0 E1 E2 C1 C2 F1 F2 V1 V2 n12 SCS hcs) e106 E1 (by rw [hml]; rfl) (hb hby d57_40) (argsL := [(.ref t2)]) (rest := []) (lenOf pd31 rfl) rfl rfl (W := 0) (Nat.le_refl _) (by decide) ?_
  intro v107 T107 L107 X107 hQ107
  obtain ⟨rfl, N107q, e107⟩ := hQ107
  have N107 := Fr.app N0 N107q
  refine Go.L X107 hx (hb hby d57_43) (by decide) (q := 46) rfl ?_
  refine Go.i X107 hx (hb hby d57_46) (r := (1 : Int32)) rfl (q := 47) rfl ?_
  refine Go.D X107 hx (hb hby d57_47) (q := 51) (by decide) (by decide) ?_
  exact Go.M X107 hx hret hlk (by simp) rfl (hb hby d57_51) e107 (by decide) (by decide) ⟨rfl, N107, rfl⟩
def Q_ccsb3 (Z : State) (v : Addr) (kv : ClassId) (c0 c1 c2 : Int32) (h0 : Heap) (vR : Option Value) (hR : Heap) (LR : List Loc) : Prop := ∃ u : Addr, ∃ ku : ClassId, vR = some (.ref u) ∧ Fr Z.heap.size LR ∧ Keep h0 hR [] ∧ h0.size ≤ u ∧ Arv Z hR u ku .byte (3 : Int32) [(.int (c0.toInt8.toInt32)), (.int (c1.toInt8.toInt32)), (.int (c2.toInt8.toInt32))] (.int 0)
theorem ccsb3 (l : Launch) (Z : State) (a0 : Array Value) (hw : ∀ d ∈ tables_1, d.before a0 Z = true) (v : Addr) (kv : ClassId) (c0 c1 c2 : Int32) (h0 : Heap) (O0 : Ext Z.heap h0) (Vv : Arv Z h0 v kv .byte (5 : Int32) [(.int 34), (.int (c0.toInt8.toInt32)), (.int (c1.toInt8.toInt32)), (.int (c2.toInt8.toInt32)), (.int 34)] (.int 0)) :
    Ctr l Z h0 (⟨"java/util/Arrays", "copyOfRangeByte", "([BII)[B"⟩ : MethodName) k39 5 (some (.array .byte)) [] ({ frames := 1, cells := 1, slots := 3, locals := 18 } : Room) #[(.ref v), (.int 1), (.int 4)] (Q_ccsb3 Z v kv c0 c1 c2 h0) := by
  refine enter (plainFor_of_name pn9) ?_
  intro pp ee ss mm below meth cc s₁ hx hby hml hZ hown hnm hret hlk X0 e0 hs0
  replace hown : ss.vm.findClass "java/util/Arrays" = some mm.cls := hown
  refine Go.r (congrArg s₁.setTop (ef_ccsb3 mm v)) ?_
  have N0 := Fr.nil Z.heap.size
  have KP := Keep.refl h0 []
  show Go pp ee below _ (s₁.setTop (mkF mm 0 #[.val (.ref v), .val (.int 1), .val (.int 4), .unset, .unset] []))
  refine Go.f X0 hx (hb hby d39_0) rfl (q := 1) rfl ?_
  refine Go.f X0 hx (hb hby d39_1) rfl (q := 2) rfl ?_
  refine Go.A X0 hx hZ hown (wd206 hw) (wd207 hw) (wd201 hw) (wd208 hw) (by decide) (cchl l Z a0 hw ((1 : Int32)) ((4 : Int32)) h0 O0 (by decide)) e0 (by rw [hml]; rfl) (hb hby d39_2) (argsL := [(.int 1), (.int 4)]) (rest := []) (lenOf pd6 rfl) rfl rfl (W := 0) (Nat.le_refl _) (by decide) ?_
  intro v101 T101 L101 X101 hQ101
  obtain ⟨rfl, N101q, e101⟩ := hQ101
  have N101 := Fr.app N0 N101q
  refine Go.f X101 hx (hb hby d39_5) rfl (q := 6) rfl ?_
  refine Go.f X101 hx (hb hby d39_6) rfl (q := 7) rfl ?_
  refine Go.ja X101 hx (hb hby d39_7) (r := (3 : Int32)) rfl (q := 8) rfl ?_
  refine Go.P X101 hx (hb hby d39_8) (l' := #[.val (.ref v), .val (.int 1), .val (.int 4), .val (.int 3), .unset]) rfl (q := 9) rfl ?_
  refine Go.f X101 hx (hb hby d39_9) rfl (q := 10) rfl ?_
  refine Go.ji X101 hx hZ (hb hby d39_10) (wd23 hw) e101 (by decide) (cap := 3) (by decide) (by decide) (by decide) (by decide) (ad := "[B") rfl (q := 12) rfl ?_
  intro b102 T102 h102 k102 X102 e102 q102 E102 V102 B102
  have ne_v_b102 : v ≠ b102 := ne_new Vv.lt (Nat.le_of_eq q102)
  have g_b102 : Z.heap.size ≤ b102 := Nat.le_trans O0.1 (Nat.le_of_eq q102)
  have z_b102 : h0.size ≤ b102 := Nat.le_trans KP.1 (Nat.le_of_eq q102)
  replace Vv := Vv.ext E102
  have OE102 := ext_trans O0 E102
  replace KP := KP.ext E102
  replace V102 : Arv Z h102 b102 k102 .byte (3 : Int32) [(.int 0), (.int 0), (.int 0)] (.int 0) := V102.pad (pad_rep [] (.int 0) 3)
  refine Go.V X102 hx (hb hby d39_12) rfl (l' := #[.val (.ref v), .val (.int 1), .val (.int 4), .val (.int 3), .val (.ref b102)]) rfl (q := 14) rfl ?_
  refine Go.g X102 hx (hb hby d39_14) rfl rfl (q := 15) rfl ?_
  refine Go.f X102 hx (hb hby d39_15) rfl (q := 16) rfl ?_
  refine Go.w X102 hx (hb hby d39_16) rfl rfl (q := 18) rfl ?_
  refine Go.i X102 hx (hb hby d39_18) (r := (0 : Int32)) rfl (q := 19) rfl ?_
  refine Go.g X102 hx (hb hby d39_19) rfl rfl (q := 20) rfl ?_
  refine Go.J X102 hx hZ e102 Vv (hb hby d39_20) ?_
  refine Go.f X102 hx (hb hby d39_21) rfl (q := 22) rfl ?_
  refine Go.ja X102 hx (hb hby d39_22) (r := (4 : Int32)) rfl (q := 23) rfl ?_
  refine Go.f X102 hx (hb hby d39_23) rfl (q := 24) rfl ?_
  refine Go.A X102 hx hZ hown (wd209 hw) (wd210 hw) (wd211 hw) (wd212 hw) (by decide) (cmin2 l Z a0 hw ((4 : Int32)) ((3 : Int32)) h102 OE102 (by decide)) e102 (by rw [hml]; rfl) (hb hby d39_24) (argsL := [(.int 4), (.int 3)]) (rest := [(.int 0), (.ref b102), (.int 1), (.ref v)]) (lenOf pd21 rfl) rfl rfl (W := 4) (Nat.le_refl _) (by decide) ?_
  intro v103 T103 L103 X103 hQ103
  obtain ⟨rfl, N103q, e103⟩ := hQ103
  have N103 := Fr.app N101 N103q
  obtain ⟨T104, h104, L104, X104, e104, N104, K104, V104, st104⟩ := cpA X103 hx hZ hown (wd213 hw) (wd154 hw) (wd152 hw) (wd153 hw) e103 Vv V102 (us := [(.int (c0.toInt8.toInt32)), (.int (c1.toInt8.toInt32)), (.int (c2.toInt8.toInt32))]) (sp := (1 : Int32)) (dp := (0 : Int32)) (nn := (3 : Int32)) (Or.inl ⟨rfl, rfl⟩) (by decide) (by decide) (by decide) (by decide) (by decide) rfl (Nat.le_of_ble_eq_true rfl) N103 g_b102 (g := (mkF mm 27 #[.val (.ref v), .val (.int 1), .val (.int 4), .val (.int 3), .val (.ref b102)] [(.int 3), (.int 0), (.ref b102), (.int 1), (.ref v)])) rfl (by rw [hml]; rfl) rfl (hb hby d39_27) (by decide) (W := 0) (by show 2 * 0 + _ ≤ _; exact Nat.le_of_eq rfl) (by decide)
  refine Go.I st104 ?_
  replace Vv := Vv.keep K104 (ninS ne_v_b102 nin0)
  replace B102 := B102.keep K104
  have OK104 := ext_keep OE102 K104 (allS g_b102 all0)
  replace KP := KP.trans K104 (allS (Or.inr z_b102) all0)
  replace V104 : Arv Z h104 b102 k102 .byte (3 : Int32) [(.int (c0.toInt8.toInt32)), (.int (c1.toInt8.toInt32)), (.int (c2.toInt8.toInt32))] (.int 0) := V104
  show Go pp ee below _ (T104.setTop (mkF mm 30 #[.val (.ref v), .val (.int 1), .val (.int 4), .val (.int 3), .val (.ref b102)] []))
  refine Go.w X104 hx (hb hby d39_30) rfl rfl (q := 32) rfl ?_
  exact Go.U X104 hx hret hlk rfl rfl (hb hby d39_32) e104 (by decide) (by decide) ⟨b102, k102, rfl, N104, KP, z_b102, V104⟩
def Q_ccs3 (Z : State) (v : Addr) (kv : ClassId) (c0 c1 c2 : Int32) (h0 : Heap) (vR : Option Value) (hR : Heap) (LR : List Loc) : Prop := ∃ u : Addr, ∃ ku : ClassId, vR = some (.ref u) ∧ Fr Z.heap.size LR ∧ Keep h0 hR [] ∧ h0.size ≤ u ∧ Arv Z hR u ku .byte (3 : Int32) [(.int (c0.toInt8.toInt32)), (.int (c1.toInt8.toInt32)), (.int (c2.toInt8.toInt32))] (.int 0)
theorem ccs3 (l : Launch) (Z : State) (a0 : Array Value) (hw : ∀ d ∈ tables_1, d.before a0 Z = true) (v : Addr) (kv : ClassId) (c0 c1 c2 : Int32) (h0 : Heap) (O0 : Ext Z.heap h0) (Vv : Arv Z h0 v kv .byte (5 : Int32) [(.int 34), (.int (c0.toInt8.toInt32)), (.int (c1.toInt8.toInt32)), (.int (c2.toInt8.toInt32)), (.int 34)] (.int 0)) :
    Ctr l Z h0 (⟨"java/util/Arrays", "copyOfRange", "([BII)[B"⟩ : MethodName) k38 3 (some (.array .byte)) [] ({ frames := 2, cells := 1, slots := 3, locals := 34 } : Room) #[(.ref v), (.int 1), (.int 4)] (Q_ccs3 Z v kv c0 c1 c2 h0) := by
  refine enter (plainFor_of_name pn9) ?_
  intro pp ee ss mm below meth cc s₁ hx hby hml hZ hown hnm hret hlk X0 e0 hs0
  replace hown : ss.vm.findClass "java/util/Arrays" = some mm.cls := hown
  refine Go.r (congrArg s₁.setTop (ef_ccs3 mm v)) ?_
  have N0 := Fr.nil Z.heap.size
  have KP := Keep.refl h0 []
  show Go pp ee below _ (s₁.setTop (mkF mm 0 #[.val (.ref v), .val (.int 1), .val (.int 4)] []))
  refine Go.f X0 hx (hb hby d38_0) rfl (q := 1) rfl ?_
  refine Go.F X0 hx (hb hby d38_1) (by decide) (q := 10) (by decide) (by decide) ?_
  refine Go.g X0 hx (hb hby d38_10) rfl rfl (q := 11) rfl ?_
  refine Go.f X0 hx (hb hby d38_11) rfl (q := 12) rfl ?_
  refine Go.f X0 hx (hb hby d38_12) rfl (q := 13) rfl ?_
  refine Go.A X0 hx hZ hown (wd203 hw) (wd204 hw) (wd201 hw) (wd205 hw) (by decide) (ccsb3 l Z a0 hw v (kv) c0 c1 c2 h0 O0 Vv) e0 (by rw [hml]; rfl) (hb hby d38_13) (argsL := [(.ref v), (.int 1), (.int 4)]) (rest := []) (lenOf pd22 rfl) rfl rfl (W := 0) (Nat.le_refl _) (by decide) ?_
  intro v101 T101 L101 X101 hQ101
  obtain ⟨h101, e101⟩ : ∃ z, T101.heap = z := ⟨_, rfl⟩
  rw [e101] at hQ101
  obtain ⟨u_101, ku_101, rfl, N101q, K101, fr101_u, P101_0⟩ := hQ101
  have N101 := Fr.app N0 N101q
  have ne_v_u_101 : v ≠ u_101 := ne_new Vv.lt fr101_u
  have g_u_101 : Z.heap.size ≤ u_101 := Nat.le_trans O0.1 fr101_u
  have z_u_101 : h0.size ≤ u_101 := Nat.le_trans KP.1 fr101_u
  replace Vv := Vv.keep K101 nin0
  have OK101 := ext_keep O0 K101 all0
  replace KP := KP.trans K101 all0
  exact Go.U X101 hx hret hlk rfl rfl (hb hby d38_16) e101 (by decide) (by decide) ⟨u_101, ku_101, rfl, N101, KP, z_u_101, P101_0⟩
def Q_cnew3 (Z : State) (v : Addr) (kv : ClassId) (c0 c1 c2 : Int32) (h0 : Heap) (vR : Option Value) (hR : Heap) (LR : List Loc) : Prop := ∃ w : Addr, ∃ u : Addr, ∃ ku : ClassId, vR = some (.ref w) ∧ Fr Z.heap.size LR ∧ Keep h0 hR [] ∧ h0.size ≤ w ∧ Exa Z hR w xS0 ∧ Fld Z hR w xS0 "coder" "B" (.int 0) ∧ Fld Z hR w xS0 "value" "[B" (.ref u) ∧ Arv Z hR u ku .byte (3 : Int32) [(.int (c0.toInt8.toInt32)), (.int (c1.toInt8.toInt32)), (.int (c2.toInt8.toInt32))] (.int 0)
theorem cnew3 (l : Launch) (Z : State) (a0 : Array Value) (hw : ∀ d ∈ tables_1, d.before a0 Z = true) (v : Addr) (kv : ClassId) (c0 c1 c2 : Int32) (h0 : Heap) (O0 : Ext Z.heap h0) (Vv : Arv Z h0 v kv .byte (5 : Int32) [(.int 34), (.int (c0.toInt8.toInt32)), (.int (c1.toInt8.toInt32)), (.int (c2.toInt8.toInt32)), (.int 34)] (.int 0)) :
    Ctr l Z h0 (⟨xS7, "newString", "([BII)Ljava/lang/String;"⟩ : MethodName) k56 3 (some (.object xS0)) [] ({ frames := 3, cells := 2, slots := 7, locals := 50 } : Room) #[(.ref v), (.int 1), (.int 3)] (Q_cnew3 Z v kv c0 c1 c2 h0) := by
  refine enter (plainFor_of_name pn4) ?_
  intro pp ee ss mm below meth cc s₁ hx hby hml hZ hown hnm hret hlk X0 e0 hs0
  replace hown : ss.vm.findClass xS7 = some mm.cls := hown
  refine Go.r (congrArg s₁.setTop (ef_cnew3 mm v)) ?_
  have N0 := Fr.nil Z.heap.size
  have KP := Keep.refl h0 []
  show Go pp ee below _ (s₁.setTop (mkF mm 0 #[.val (.ref v), .val (.int 1), .val (.int 3)] []))
  refine Go.f X0 hx (hb hby d56_0) rfl (q := 1) rfl ?_
  refine Go.F X0 hx (hb hby d56_1) (by decide) (q := 7) (by decide) (by decide) ?_
  refine Go.jd X0 hx hZ hown (wd287 hw) (wd6 hw) (wd7 hw) e0 (hb hby d56_7) (by decide) (by decide) (q := 10) rfl ?_
  intro b101 T101 h101 X101 e101 q101 E101 A101 D101 U101
  have ne_v_b101 : v ≠ b101 := ne_new Vv.lt (Nat.le_of_eq q101)
  have g_b101 : Z.heap.size ≤ b101 := Nat.le_trans O0.1 (Nat.le_of_eq q101)
  have z_b101 : h0.size ≤ b101 := Nat.le_trans KP.1 (Nat.le_of_eq q101)
  replace Vv := Vv.ext E101
  have OE101 := ext_trans O0 E101
  replace KP := KP.ext E101
  have F101_value : Fld Z h101 b101 xS0 "value" "[B" .null := D101 (Or.inr (wd24 hw)) (ty := (.array .byte)) (by decide)
  have F101_coder : Fld Z h101 b101 xS0 "coder" "B" (.int 0) := D101 (Or.inr (wd25 hw)) (ty := .byte) (by decide)
  clear D101
  refine Go.N X101 hx (hb hby d56_10) rfl (q := 11) rfl ?_
  refine Go.g X101 hx (hb hby d56_11) rfl rfl (q := 12) rfl ?_
  refine Go.f X101 hx (hb hby d56_12) rfl (q := 13) rfl ?_
  refine Go.f X101 hx (hb hby d56_13) rfl (q := 14) rfl ?_
  refine Go.f X101 hx (hb hby d56_14) rfl (q := 15) rfl ?_
  refine Go.jh X101 hx (hb hby d56_15) (r := (4 : Int32)) rfl (q := 16) rfl ?_
  refine Go.A X101 hx hZ hown (wd288 hw) (wd200 hw) (wd201 hw) (wd202 hw) (by decide) (ccs3 l Z a0 hw v (kv) c0 c1 c2 h101 OE101 Vv) e101 (by rw [hml]; rfl) (hb hby d56_16) (argsL := [(.ref v), (.int 1), (.int 4)]) (rest := [(.ref b101), (.ref b101)]) (lenOf pd22 rfl) rfl rfl (W := 2) (Nat.le_refl _) (by decide) ?_
  intro v102 T102 L102 X102 hQ102
  obtain ⟨h102, e102⟩ : ∃ z, T102.heap = z := ⟨_, rfl⟩
  rw [e102] at hQ102
  obtain ⟨u_102, ku_102, rfl, N102q, K102, fr102_u, P102_0⟩ := hQ102
  have N102 := Fr.app N0 N102q
  have ne_v_u_102 : v ≠ u_102 := ne_new Vv.lt fr102_u
  have ne_b101_u_102 : b101 ≠ u_102 := ne_new A101.lt fr102_u
  have g_u_102 : Z.heap.size ≤ u_102 := Nat.le_trans OE101.1 fr102_u
  have z_u_102 : h0.size ≤ u_102 := Nat.le_trans KP.1 fr102_u
  replace Vv := Vv.keep K102 nin0
  replace A101 := A101.keep K102
  replace F101_value := F101_value.keep K102 nin0
  replace F101_coder := F101_coder.keep K102 nin0
  have OK102 := ext_keep OE101 K102 all0
  replace KP := KP.trans K102 all0
  refine Go.i X102 hx (hb hby d56_19) (r := (0 : Int32)) rfl (q := 20) rfl ?_
  refine Go.Y X102 hx hZ hown rfl (wd289 hw) (wd290 hw) (wd7 hw) (wd291 hw) (by decide) (cstr l Z a0 hw b101 u_102 h102 OK102 A101 F101_value F101_coder g_b101) e102 (by rw [hml]; rfl) (hb hby d56_20) (argsL := [(.ref u_102), (.int 0)]) (rest := [(.ref b101)]) (lenOf pd39 rfl) rfl rfl (W := 1) (Nat.le_refl _) (by decide) ?_
  intro v103 T103 L103 X103 hQ103
  obtain ⟨h103, e103⟩ : ∃ z, T103.heap = z := ⟨_, rfl⟩
  rw [e103] at hQ103
  obtain ⟨rfl, N103q, K103, P103_0, P103_1⟩ := hQ103
  have N103 := Fr.app N102 N103q
  replace Vv := Vv.keep K103 (ninS ne_v_b101 nin0)
  replace A101 := A101.keep K103
  replace P102_0 := P102_0.keep K103 (ninS (Ne.symm ne_b101_u_102) nin0)
  have OK103 := ext_keep OK102 K103 (allS g_b101 all0)
  replace KP := KP.trans K103 (allS (Or.inr z_b101) all0)
  exact Go.U X103 hx hret hlk rfl rfl (hb hby d56_23) e103 (by decide) (by decide) ⟨b101, u_102, ku_102, rfl, N103, KP, z_b101, A101, P103_1, P103_0, P102_0⟩
def Q_csub3 (Z : State) (s : Addr) (cs : Int32) (fm : Value) (v : Addr) (kv : ClassId) (c0 c1 c2 : Int32) (h0 : Heap) (vR : Option Value) (hR : Heap) (LR : List Loc) : Prop := ∃ w : Addr, ∃ u : Addr, ∃ ku : ClassId, vR = some (.ref w) ∧ Fr Z.heap.size LR ∧ Keep h0 hR [] ∧ h0.size ≤ w ∧ Exa Z hR w xS0 ∧ Fld Z hR w xS0 "coder" "B" (.int 0) ∧ Fld Z hR w xS0 "value" "[B" (.ref u) ∧ Arv Z hR u ku .byte (3 : Int32) [(.int (c0.toInt8.toInt32)), (.int (c1.toInt8.toInt32)), (.int (c2.toInt8.toInt32))] (.int 0)
theorem csub3 (l : Launch) (Z : State) (a0 : Array Value) (hw : ∀ d ∈ tables_1, d.before a0 Z = true) (s : Addr) (cs : Int32) (fm : Value) (v : Addr) (kv : ClassId) (c0 c1 c2 : Int32) (h0 : Heap) (O0 : Ext Z.heap h0) (Es : Exa Z h0 s xS0) (Cs : Fld Z h0 s xS0 "coder" "B" (.int 0)) (Fs : Fld Z h0 s xS0 "value" "[B" (.ref v)) (Vv : Arv Z h0 v kv .byte (5 : Int32) [(.int 34), (.int (c0.toInt8.toInt32)), (.int (c1.toInt8.toInt32)), (.int (c2.toInt8.toInt32)), (.int 34)] (.int 0)) (SCS : Sta Z Z.heap xS0 xS3 "Z" (.int cs)) (SFM : Sta Z Z.heap xS6 "SIOOBE_FORMATTER" xS9 fm) (hcs : ¬ (cs = (0 : Int32))) (hfm : fm.isRef = true) :
    Ctr l Z h0 (⟨xS0, "substring", "(II)Ljava/lang/String;"⟩ : MethodName) k53 5 (some (.object xS0)) [] ({ frames := 4, cells := 2, slots := 7, locals := 64 } : Room) #[(.ref s), (.int 1), (.int 4)] (Q_csub3 Z s cs fm v kv c0 c1 c2 h0) := by
  refine enter (plainFor_of_name pn1) ?_
  intro pp ee ss mm below meth cc s₁ hx hby hml hZ hown hnm hret hlk X0 e0 hs0
  replace hown : ss.vm.findClass xS0 = some mm.cls := hown
  refine Go.r (congrArg s₁.setTop (ef_csub3 mm s)) ?_
  have N0 := Fr.nil Z.heap.size
  have KP := Keep.refl h0 []
  show Go pp ee below _ (s₁.setTop (mkF mm 0 #[.val (.ref s), .val (.int 1), .val (.int 4), .unset, .unset] []))
  refine Go.g X0 hx (hb hby d53_0) rfl rfl (q := 1) rfl ?_
  refine Go.u X0 hx hZ hown (wd240 hw) (wd59 hw) (notFace_of_selects (args := #[]) (mvT hZ (wd61 hw))) (wd61 hw) (wd60 hw) (wd7 hw) (wd62 hw) (by decide) (clen l Z a0 hw s cs v (kv) ((5 : Int32)) ([(.int 34), (.int (c0.toInt8.toInt32)), (.int (c1.toInt8.toInt32)), (.int (c2.toInt8.toInt32)), (.int 34)]) h0 O0 Es Cs Fs Vv SCS hcs) e0 Es (by rw [hml]; rfl) (hb hby d53_1) (argsL := []) (rest := []) (lenOf pd10 rfl) rfl rfl (W := 0) (Nat.le_refl _) (by decide) ?_
  intro v101 T101 L101 X101 hQ101
  obtain ⟨rfl, N101q, e101⟩ := hQ101
  have N101 := Fr.app N0 N101q
  refine Go.P X101 hx (hb hby d53_4) (l' := #[.val (.ref s), .val (.int 1), .val (.int 4), .val (.int 5), .unset]) rfl (q := 5) rfl ?_
  refine Go.f X101 hx (hb hby d53_5) rfl (q := 6) rfl ?_
  refine Go.f X101 hx (hb hby d53_6) rfl (q := 7) rfl ?_
  refine Go.f X101 hx (hb hby d53_7) rfl (q := 8) rfl ?_
  refine Go.A X101 hx hZ hown (wd271 hw) (wd272 hw) (wd7 hw) (wd273 hw) (by decide) (cbbe l Z a0 hw ((1 : Int32)) ((4 : Int32)) ((5 : Int32)) fm h0 O0 SFM hfm (by decide) (by decide) (by decide)) e101 (by rw [hml]; rfl) (hb hby d53_8) (argsL := [(.int 1), (.int 4), (.int 5)]) (rest := []) (lenOf pd35 rfl) rfl rfl (W := 0) (Nat.le_refl _) (by decide) ?_
  intro v102 T102 L102 X102 hQ102
  obtain ⟨rfl, N102q, e102⟩ := hQ102
  have N102 := Fr.app N101 N102q
  refine Go.f X102 hx (hb hby d53_11) rfl (q := 12) rfl ?_
  refine Go.F X102 hx (hb hby d53_12) (by decide) (q := 22) (by decide) (by decide) ?_
  refine Go.f X102 hx (hb hby d53_22) rfl (q := 23) rfl ?_
  refine Go.f X102 hx (hb hby d53_23) rfl (q := 24) rfl ?_
  refine Go.ja X102 hx (hb hby d53_24) (r := (3 : Int32)) rfl (q := 25) rfl ?_
  refine Go.G X102 hx (hb hby d53_25) (l' := #[.val (.ref s), .val (.int 1), .val (.int 4), .val (.int 5), .val (.int 3)]) rfl (q := 27) rfl ?_
  refine Go.g X102 hx (hb hby d53_27) rfl rfl (q := 28) rfl ?_
  refine Go.u X102 hx hZ hown (wd250 hw) (wd251 hw) (notFace_of_selects (args := #[]) (mvT hZ (wd253 hw))) (wd253 hw) (wd252 hw) (wd7 hw) (wd254 hw) (by decide) (clat l Z a0 hw s cs h0 O0 Cs SCS hcs) e102 Es (by rw [hml]; rfl) (hb hby d53_28) (argsL := []) (rest := []) (lenOf pd7 rfl) rfl rfl (W := 0) (Nat.le_refl _) (by decide) ?_
  intro v103 T103 L103 X103 hQ103
  obtain ⟨rfl, N103q, e103⟩ := hQ103
  have N103 := Fr.app N102 N103q
  refine Go.L X103 hx (hb hby d53_31) (by decide) (q := 34) rfl ?_
  refine Go.g X103 hx (hb hby d53_34) rfl rfl (q := 35) rfl ?_
  refine Go.B X103 hx hZ hown (host := "") (Or.inl (wd28 hw)) Via.refl e103 Fs (hb hby d53_35) (q := 38) rfl ?_
  intro T104 X104 e104
  refine Go.f X104 hx (hb hby d53_38) rfl (q := 39) rfl ?_
  refine Go.o X104 hx (hb hby d53_39) rfl (q := 41) rfl ?_
  refine Go.A X104 hx hZ hown (wd277 hw) (wd278 hw) (wd171 hw) (wd279 hw) (by decide) (cnew3 l Z a0 hw v (kv) c0 c1 c2 h0 O0 Vv) e104 (by rw [hml]; rfl) (hb hby d53_41) (argsL := [(.ref v), (.int 1), (.int 3)]) (rest := []) (lenOf pd36 rfl) rfl rfl (W := 0) (Nat.le_refl _) (by decide) ?_
  intro v105 T105 L105 X105 hQ105
  obtain ⟨h105, e105⟩ : ∃ z, T105.heap = z := ⟨_, rfl⟩
  rw [e105] at hQ105
  obtain ⟨w_105, u_105, ku_105, rfl, N105q, K105, fr105_w, P105_0, P105_1, P105_2, P105_3⟩ := hQ105
  have N105 := Fr.app N103 N105q
  have ne_s_w_105 : s ≠ w_105 := ne_new Es.lt fr105_w
  have ne_v_w_105 : v ≠ w_105 := ne_new Vv.lt fr105_w
  have g_w_105 : Z.heap.size ≤ w_105 := Nat.le_trans O0.1 fr105_w
  have z_w_105 : h0.size ≤ w_105 := Nat.le_trans KP.1 fr105_w
  replace Es := Es.keep K105
  replace Cs := Cs.keep K105 nin0
  replace Fs := Fs.keep K105 nin0
  replace Vv := Vv.keep K105 nin0
  have OK105 := ext_keep O0 K105 all0
  replace KP := KP.trans K105 all0
  refine Go.D X105 hx (hb hby d53_44) (q := 57) (by decide) (by decide) ?_
  exact Go.U X105 hx hret hlk rfl rfl (hb hby d53_57) e105 (by decide) (by decide) ⟨w_105, u_105, ku_105, rfl, N105, KP, z_w_105, P105_0, P105_1, P105_2, P105_3⟩
def Q_cprs3 (Z : State) (s v : Addr) (kv : ClassId) (cs : Int32) (fm : Value) (c0 c1 c2 : Int32) (h0 : Heap) (vR : Option Value) (hR : Heap) (LR : List Loc) : Prop := ∃ t : Addr, ∃ w : Addr, ∃ u : Addr, ∃ ku : ClassId, vR = some (.ref t) ∧ Fr Z.heap.size LR ∧ Keep h0 hR [] ∧ h0.size ≤ t ∧ h0.size ≤ w ∧ Exa Z hR t xS1 ∧ Fld Z hR t xS1 "weak" "Z" (.int 0) ∧ Fld Z hR t xS1 "value" xS4 (.ref w) ∧ Fld Z hR t xS1 "field" xS4 .null ∧ Exa Z hR w xS0 ∧ Fld Z hR w xS0 "coder" "B" (.int 0) ∧ Fld Z hR w xS0 "value" "[B" (.ref u) ∧ Arv Z hR u ku .byte (3 : Int32) [(.int (c0.toInt8.toInt32)), (.int (c1.toInt8.toInt32)), (.int (c2.toInt8.toInt32))] (.int 0)
theorem cprs3 (l : Launch) (Z : State) (a0 : Array Value) (hw : ∀ d ∈ tables_1, d.before a0 Z = true) (s v : Addr) (kv : ClassId) (cs : Int32) (fm : Value) (c0 c1 c2 : Int32) (h0 : Heap) (O0 : Ext Z.heap h0) (Es : Exa Z h0 s xS0) (Cs : Fld Z h0 s xS0 "coder" "B" (.int 0)) (Fs : Fld Z h0 s xS0 "value" "[B" (.ref v)) (Vs : Arv Z h0 v kv .byte (5 : Int32) [(.int 34), (.int (c0.toInt8.toInt32)), (.int (c1.toInt8.toInt32)), (.int (c2.toInt8.toInt32)), (.int 34)] (.int 0)) (SCS : Sta Z Z.heap xS0 xS3 "Z" (.int cs)) (SFM : Sta Z Z.heap xS6 "SIOOBE_FORMATTER" xS9 fm) (hcs : ¬ (cs = (0 : Int32))) (hfm : fm.isRef = true) (he0 : ETC c0) (he1 : ETC c1) (he2 : ETC c2) :
    CtrH l Z consts_1 h0 (⟨xS1, "parse", xS11⟩ : MethodName) k44 5 (some (.object xS1)) [] ({ frames := 5, cells := 9, slots := 66, locals := 80 } : Room) #[(.ref s)] (Q_cprs3 Z s v kv cs fm c0 c1 c2 h0) := by
  refine enterH (plainFor_of_name pn6) ?_
  intro pp ee ss mm below meth cc s₁ hx hby hml hZ hown hnm hret hlk X0 e0 hs0 hS hC
  replace hown : (ss.setVm ss.vm).vm.findClass xS1 = some mm.cls := hown
  have hKd := Nat.zero_le h0.size
  refine Go.r (congrArg s₁.setTop (ef_cprs3 mm s)) ?_
  have N0 := Fr.nil Z.heap.size
  have KP := Keep.refl h0 []
  show Go pp ee below _ (s₁.setTop (mkF mm 0 #[.val (.ref s), .unset, .unset, .unset, .unset] []))
  refine Go.g X0 hx (hb hby d44_0) rfl rfl (q := 1) rfl ?_
  refine Go.jt X0 hx hZ hown (wd228 hw) (own_wS hw) e0 hS hKd (own_EW hw) hC (hb hby d44_1) (nn := 16) (by decide) (by decide) (by decide) (by decide) (q := 3) rfl ?_
  intro b101 T101 h101 k101 X101 e101 E101 hS hKd hZ hown hR101
  replace hC := hC.trans hR101
  replace Es := Es.ext E101
  replace Cs := Cs.ext E101
  replace Fs := Fs.ext E101
  replace Vs := Vs.ext E101
  have OE101 := ext_trans O0 E101
  replace KP := KP.ext E101
  refine Go.A X101 hx hZ hown (wd54 hw) (wd55 hw) (wd56 hw) (wd57 hw) (by decide) (creq l Z a0 hw s b101 h101 OE101) e101 (by rw [hml]; rfl) (hb hby d44_3) (argsL := [(.ref s), (.ref b101)]) (rest := []) (lenOf pd9 rfl) rfl rfl (W := 0) (Nat.le_refl _) (by decide) ?_
  intro v102 T102 L102 X102 hQ102
  obtain ⟨rfl, N102q, e102⟩ := hQ102
  have N102 := Fr.app N0 N102q
  refine Go.jo X102 hx (hb hby d44_6) rfl (q := 7) rfl ?_
  refine Go.g X102 hx (hb hby d44_7) rfl rfl (q := 8) rfl ?_
  refine Go.jv X102 hx hZ hown (wd229 hw) (own_wS hw) e102 hS hKd (own_EW hw) (List.mem_of_getElem? (i := 1) rfl) hC (vs := [(.int 87), (.int 47)]) (z := (2 : Int32)) ⟨by decide, rfl⟩ (by decide) rfl (hb hby d44_8) (nn := 8) (by decide) (by decide) (by decide) (by decide) (q := 10) rfl ?_
  intro b103 u103 kc103 T103 h103 k103 X103 e103 E103 hS hKd hZ hown B103 C103 F103 V103 hR103
  replace hC := hC.trans hR103
  replace Es := Es.ext E103
  replace Cs := Cs.ext E103
  replace Fs := Fs.ext E103
  replace Vs := Vs.ext E103
  have OE103 := ext_trans OE101 E103
  replace KP := KP.ext E103
  have ne_s_u103 := Exa.neArv Es V103 (wd6 hw)
  refine Go.u X103 hx hZ hown (wd230 hw) (wd231 hw) (notFace_of_selects (args := #[]) (mvT hZ (wd233 hw))) (wd233 hw) (wd232 hw) (wd7 hw) (wd234 hw) (by decide) (csw1 l Z a0 hw s b103 cs v u103 (kv) (kc103) ((5 : Int32)) ([(.int 34), (.int (c0.toInt8.toInt32)), (.int (c1.toInt8.toInt32)), (.int (c2.toInt8.toInt32)), (.int 34)]) h103 OE103 Es B103 Cs C103 Fs F103 Vs V103 SCS hcs (by decide) rfl (by decide)) e103 Es (by rw [hml]; rfl) (hb hby d44_10) (argsL := [(.ref b103)]) (rest := []) (lenOf pd37 rfl) rfl rfl (W := 0) (Nat.le_refl _) (by decide) ?_
  intro v104 T104 L104 X104 hQ104
  obtain ⟨rfl, N104q, e104⟩ := hQ104
  have N104 := Fr.app N102 N104q
  refine Go.P X104 hx (hb hby d44_13) (l' := #[.val (.ref s), .val (.int 0), .unset, .unset, .unset]) rfl (q := 14) rfl ?_
  refine Go.f X104 hx (hb hby d44_14) rfl (q := 15) rfl ?_
  refine Go.F X104 hx (hb hby d44_15) (by decide) (q := 26) (by decide) (by decide) ?_
  refine Go.i X104 hx (hb hby d44_26) (r := (0 : Int32)) rfl (q := 27) rfl ?_
  refine Go.P X104 hx (hb hby d44_27) (l' := #[.val (.ref s), .val (.int 0), .val (.int 0), .unset, .unset]) rfl (q := 28) rfl ?_
  refine Go.g X104 hx (hb hby d44_28) rfl rfl (q := 29) rfl ?_
  refine Go.u X104 hx hZ hown (wd58 hw) (wd59 hw) (notFace_of_selects (args := #[]) (mvT hZ (wd61 hw))) (wd61 hw) (wd60 hw) (wd7 hw) (wd62 hw) (by decide) (clen l Z a0 hw s cs v (kv) ((5 : Int32)) ([(.int 34), (.int (c0.toInt8.toInt32)), (.int (c1.toInt8.toInt32)), (.int (c2.toInt8.toInt32)), (.int 34)]) h103 OE103 Es Cs Fs Vs SCS hcs) e104 Es (by rw [hml]; rfl) (hb hby d44_29) (argsL := []) (rest := []) (lenOf pd10 rfl) rfl rfl (W := 0) (Nat.le_refl _) (by decide) ?_
  intro v105 T105 L105 X105 hQ105
  obtain ⟨rfl, N105q, e105⟩ := hQ105
  have N105 := Fr.app N104 N105q
  refine Go.i X105 hx (hb hby d44_32) (r := (1 : Int32)) rfl (q := 33) rfl ?_
  refine Go.ja X105 hx (hb hby d44_33) (r := (4 : Int32)) rfl (q := 34) rfl ?_
  refine Go.P X105 hx (hb hby d44_34) (l' := #[.val (.ref s), .val (.int 0), .val (.int 0), .val (.int 4), .unset]) rfl (q := 35) rfl ?_
  refine Go.f X105 hx (hb hby d44_35) rfl (q := 36) rfl ?_
  refine Go.f X105 hx (hb hby d44_36) rfl (q := 37) rfl ?_
  refine Go.t X105 hx (hb hby d44_37) (by decide) (q := 40) rfl ?_
  refine Go.g X105 hx (hb hby d44_40) rfl rfl (q := 41) rfl ?_
  refine Go.f X105 hx (hb hby d44_41) rfl (q := 42) rfl ?_
  refine Go.u X105 hx hZ hown (wd245 hw) (wd246 hw) (notFace_of_selects (args := #[]) (mvT hZ (wd248 hw))) (wd248 hw) (wd247 hw) (wd7 hw) (wd249 hw) (by decide) (cchar l Z a0 hw s ((0 : Int32)) cs v (kv) ((5 : Int32)) ([(.int 34), (.int (c0.toInt8.toInt32)), (.int (c1.toInt8.toInt32)), (.int (c2.toInt8.toInt32)), (.int 34)]) ((34 : Int32)) fm h103 OE103 Es Cs Fs Vs SCS SFM hcs hfm (by decide) (by decide) rfl) e105 Es (by rw [hml]; rfl) (hb hby d44_42) (argsL := [(.int 0)]) (rest := []) (lenOf pd11 rfl) rfl rfl (W := 0) (Nat.le_refl _) (by decide) ?_
  intro v106 T106 L106 X106 hQ106
  obtain ⟨rfl, N106q, e106⟩ := hQ106
  have N106 := Fr.app N105 N106q
  refine Go.E X106 hx (hb hby d44_45) (r := (34 : Int32)) rfl (q := 47) rfl ?_
  refine Go.t X106 hx (hb hby d44_47) (by decide) (q := 50) rfl ?_
  refine Go.g X106 hx (hb hby d44_50) rfl rfl (q := 51) rfl ?_
  refine Go.f X106 hx (hb hby d44_51) rfl (q := 52) rfl ?_
  refine Go.u X106 hx hZ hown (wd245 hw) (wd246 hw) (notFace_of_selects (args := #[]) (mvT hZ (wd248 hw))) (wd248 hw) (wd247 hw) (wd7 hw) (wd249 hw) (by decide) (cchar l Z a0 hw s ((4 : Int32)) cs v (kv) ((5 : Int32)) ([(.int 34), (.int (c0.toInt8.toInt32)), (.int (c1.toInt8.toInt32)), (.int (c2.toInt8.toInt32)), (.int 34)]) ((34 : Int32)) fm h103 OE103 Es Cs Fs Vs SCS SFM hcs hfm (by decide) (by decide) rfl) e106 Es (by rw [hml]; rfl) (hb hby d44_52) (argsL := [(.int 4)]) (rest := []) (lenOf pd11 rfl) rfl rfl (W := 0) (Nat.le_refl _) (by decide) ?_
  intro v107 T107 L107 X107 hQ107
  obtain ⟨rfl, N107q, e107⟩ := hQ107
  have N107 := Fr.app N106 N107q
  refine Go.E X107 hx (hb hby d44_55) (r := (34 : Int32)) rfl (q := 57) rfl ?_
  refine Go.y X107 hx (hb hby d44_57) (by decide) (q := 70) (by decide) (by decide) ?_
  refine Go.g X107 hx (hb hby d44_70) rfl rfl (q := 71) rfl ?_
  refine Go.f X107 hx (hb hby d44_71) rfl (q := 72) rfl ?_
  refine Go.i X107 hx (hb hby d44_72) (r := (1 : Int32)) rfl (q := 73) rfl ?_
  refine Go.jh X107 hx (hb hby d44_73) (r := (1 : Int32)) rfl (q := 74) rfl ?_
  refine Go.f X107 hx (hb hby d44_74) rfl (q := 75) rfl ?_
  refine Go.u X107 hx hZ hown (wd266 hw) (wd267 hw) (notFace_of_selects (args := #[]) (mvT hZ (wd269 hw))) (wd269 hw) (wd268 hw) (wd7 hw) (wd270 hw) (by decide) (csub3 l Z a0 hw s cs fm v (kv) c0 c1 c2 h103 OE103 Es Cs Fs Vs SCS SFM hcs hfm) e107 Es (by rw [hml]; rfl) (hb hby d44_75) (argsL := [(.int 1), (.int 4)]) (rest := []) (lenOf pd38 rfl) rfl rfl (W := 0) (Nat.le_refl _) (by decide) ?_
  intro v108 T108 L108 X108 hQ108
  obtain ⟨h108, e108⟩ : ∃ z, T108.heap = z := ⟨_, rfl⟩
  rw [e108] at hQ108
  obtain ⟨w_108, u_108, ku_108, rfl, N108q, K108, fr108_w, P108_0, P108_1, P108_2, P108_3⟩ := hQ108
  have N108 := Fr.app N107 N108q
  have ne_s_w_108 : s ≠ w_108 := ne_new Es.lt fr108_w
  have ne_v_w_108 : v ≠ w_108 := ne_new Vs.lt fr108_w
  have ne_b103_w_108 : b103 ≠ w_108 := ne_new B103.lt fr108_w
  have ne_u103_w_108 : u103 ≠ w_108 := ne_new V103.lt fr108_w
  have g_w_108 : Z.heap.size ≤ w_108 := Nat.le_trans OE103.1 fr108_w
  have z_w_108 : h0.size ≤ w_108 := Nat.le_trans KP.1 fr108_w
  replace hKd := Nat.le_trans hKd K108.1
  have hSk : ∀ x ∈ ([] : List Addr), Safe Z consts_1 T103.vm h103 x := all0
  replace hC := hC.trans (CHr.keep K108 hSk hC.1)
  replace Es := Es.keep K108
  replace Cs := Cs.keep K108 nin0
  replace Fs := Fs.keep K108 nin0
  replace Vs := Vs.keep K108 nin0
  replace B103 := B103.keep K108
  replace C103 := C103.keep K108 nin0
  replace F103 := F103.keep K108 nin0
  replace V103 := V103.keep K108 nin0
  have OK108 := ext_keep OE103 K108 all0
  replace KP := KP.trans K108 all0
  refine Go.f X108 hx (hb hby d44_78) rfl (q := 79) rfl ?_
  refine Go.i X108 hx (hb hby d44_79) (r := (1 : Int32)) rfl (q := 80) rfl ?_
  refine Go.jh X108 hx (hb hby d44_80) (r := (1 : Int32)) rfl (q := 81) rfl ?_
  refine Go.jk X108 hx hZ hown hS hKd (own_EW hw) hC (wd50 hw) (wd51 hw) (wd46 hw) (wd52 hw) (by decide) (cchk3 l Z a0 hw w_108 u_108 (ku_108) cs fm c0 c1 c2 ((1 : Int32)) h108 OK108 P108_0 P108_1 P108_2 P108_3 SCS SFM hcs hfm he0 he1 he2) e108 (by rw [hml]; rfl) (hb hby d44_81) (argsL := [(.ref w_108), (.int 1)]) (rest := []) (lenOf pd12 rfl) rfl rfl (W := 0) (Nat.le_refl _) (by decide) ?_
  intro v109 T109 L109 k109 X109 hS hKd hZ hown hR109 hQ109
  obtain ⟨h109, e109⟩ : ∃ z, T109.heap = z := ⟨_, rfl⟩
  rw [e109] at hQ109 hKd hR109
  obtain ⟨rfl, N109q, K109⟩ := hQ109
  have N109 := Fr.app N108 N109q
  replace hC := hC.trans hR109
  replace Es := Es.keep K109
  replace Cs := Cs.keep K109 nin0
  replace Fs := Fs.keep K109 nin0
  replace Vs := Vs.keep K109 nin0
  replace B103 := B103.keep K109
  replace C103 := C103.keep K109 nin0
  replace F103 := F103.keep K109 nin0
  replace V103 := V103.keep K109 nin0
  replace P108_0 := P108_0.keep K109
  replace P108_1 := P108_1.keep K109 nin0
  replace P108_2 := P108_2.keep K109 nin0
  replace P108_3 := P108_3.keep K109 nin0
  have OK109 := ext_keep OK108 K109 all0
  replace KP := KP.trans K109 all0
  refine Go.V X109 hx (hb hby d44_84) rfl (l' := #[.val (.ref s), .val (.int 0), .val (.int 0), .val (.int 4), .val (.ref w_108)]) rfl (q := 86) rfl ?_
  refine Go.jd X109 hx hZ hown (wd48 hw) (wd49 hw) (wd46 hw) e109 (hb hby d44_86) (by decide) (by decide) (q := 89) rfl ?_
  intro b110 T110 h110 X110 e110 q110 E110 A110 D110 U110
  have ne_s_b110 : s ≠ b110 := ne_new Es.lt (Nat.le_of_eq q110)
  have ne_v_b110 : v ≠ b110 := ne_new Vs.lt (Nat.le_of_eq q110)
  have ne_b103_b110 : b103 ≠ b110 := ne_new B103.lt (Nat.le_of_eq q110)
  have ne_u103_b110 : u103 ≠ b110 := ne_new V103.lt (Nat.le_of_eq q110)
  have ne_w_108_b110 : w_108 ≠ b110 := ne_new P108_0.lt (Nat.le_of_eq q110)
  have ne_u_108_b110 : u_108 ≠ b110 := ne_new P108_3.lt (Nat.le_of_eq q110)
  have g_b110 : Z.heap.size ≤ b110 := Nat.le_trans OK109.1 (Nat.le_of_eq q110)
  have z_b110 : h0.size ≤ b110 := Nat.le_trans KP.1 (Nat.le_of_eq q110)
  replace hC := hC.trans (CHr.ext E110 hC.1)
  replace Es := Es.ext E110
  replace Cs := Cs.ext E110
  replace Fs := Fs.ext E110
  replace Vs := Vs.ext E110
  replace B103 := B103.ext E110
  replace C103 := C103.ext E110
  replace F103 := F103.ext E110
  replace V103 := V103.ext E110
  replace P108_0 := P108_0.ext E110
  replace P108_1 := P108_1.ext E110
  replace P108_2 := P108_2.ext E110
  replace P108_3 := P108_3.ext E110
  have OE110 := ext_trans OK109 E110
  replace hKd := Nat.le_trans hKd E110.1
  replace KP := KP.ext E110
  have F110_weak : Fld Z h110 b110 xS1 "weak" "Z" (.int 0) := D110 (Or.inr (wd73 hw)) (ty := .boolean) (by decide)
  have F110_value : Fld Z h110 b110 xS1 "value" xS4 .null := D110 (Or.inr (wd75 hw)) (ty := (.object xS0)) (by decide)
  have F110_field : Fld Z h110 b110 xS1 "field" xS4 .null := D110 (Or.inl (wd97 hw)) (ty := (.object xS0)) (by decide)
  clear D110
  refine Go.N X110 hx (hb hby d44_89) rfl (q := 90) rfl ?_
  refine Go.f X110 hx (hb hby d44_90) rfl (q := 91) rfl ?_
  refine Go.w X110 hx (hb hby d44_91) rfl rfl (q := 93) rfl ?_
  refine Go.Y X110 hx hZ hown rfl (wd68 hw) (wd69 hw) (wd46 hw) (wd70 hw) (by decide) (ceti l Z a0 hw b110 w_108 h110 OE110 A110 g_b110 F110_weak F110_value F110_field) e110 (by rw [hml]; rfl) (hb hby d44_93) (argsL := [(.int 0), (.ref w_108)]) (rest := [(.ref b110)]) (lenOf pd13 rfl) rfl rfl (W := 1) (Nat.le_refl _) (by decide) ?_
  intro v111 T111 L111 X111 hQ111
  obtain ⟨h111, e111⟩ : ∃ z, T111.heap = z := ⟨_, rfl⟩
  rw [e111] at hQ111
  obtain ⟨rfl, N111q, K111, P111_0, P111_1, P111_2⟩ := hQ111
  have N111 := Fr.app N109 N111q
  replace hKd := Nat.le_trans hKd K111.1
  have hSk : ∀ x ∈ [b110], Safe Z consts_1 T109.vm h110 x := (allS (Safe.exa hZ.alike A110 (by decide) (by decide)) all0)
  replace hC := hC.trans (CHr.keep K111 hSk hC.1)
  replace Es := Es.keep K111
  replace Cs := Cs.keep K111 (ninS ne_s_b110 nin0)
  replace Fs := Fs.keep K111 (ninS ne_s_b110 nin0)
  replace Vs := Vs.keep K111 (ninS ne_v_b110 nin0)
  replace B103 := B103.keep K111
  replace C103 := C103.keep K111 (ninS ne_b103_b110 nin0)
  replace F103 := F103.keep K111 (ninS ne_b103_b110 nin0)
  replace V103 := V103.keep K111 (ninS ne_u103_b110 nin0)
  replace P108_0 := P108_0.keep K111
  replace P108_1 := P108_1.keep K111 (ninS ne_w_108_b110 nin0)
  replace P108_2 := P108_2.keep K111 (ninS ne_w_108_b110 nin0)
  replace P108_3 := P108_3.keep K111 (ninS ne_u_108_b110 nin0)
  replace A110 := A110.keep K111
  have OK111 := ext_keep OE110 K111 (allS g_b110 all0)
  replace KP := KP.trans K111 (allS (Or.inr z_b110) all0)
  exact Go.jm X111 hx hS hKd hs0 hZ (own_EW hw) hC hret hlk rfl rfl (hb hby d44_96) e111 (by decide) (by decide) ⟨b110, w_108, u_108, ku_108, rfl, N111, KP, z_b110, z_w_108, A110, P111_0, P111_1, P111_2, P108_0, P108_1, P108_2, P108_3⟩
def Q_cete3 (Z : State) (o q t1 t2 v1 v2 : Addr) (k1 k2 : ClassId) (cs c0 c1 c2 : Int32) (h0 : Heap) (vR : Option Value) (hR : Heap) (LR : List Loc) : Prop := vR = some (.int 1) ∧ Fr Z.heap.size LR ∧ hR = h0
theorem cete3 (l : Launch) (Z : State) (a0 : Array Value) (hw : ∀ d ∈ tables_1, d.before a0 Z = true) (o q t1 t2 v1 v2 : Addr) (k1 k2 : ClassId) (cs c0 c1 c2 : Int32) (h0 : Heap) (O0 : Ext Z.heap h0) (Eq_ : Exa Z h0 q xS1) (noq : o ≠ q) (A0 : Fld Z h0 o xS1 "weak" "Z" (.int 0)) (A1 : Fld Z h0 q xS1 "weak" "Z" (.int 0)) (A2 : Fld Z h0 o xS1 "value" xS4 (.ref t1)) (A3 : Fld Z h0 q xS1 "value" xS4 (.ref t2)) (E1 : Exa Z h0 t1 xS0) (E2 : Exa Z h0 t2 xS0) (C1 : Fld Z h0 t1 xS0 "coder" "B" (.int 0)) (C2 : Fld Z h0 t2 xS0 "coder" "B" (.int 0)) (F1 : Fld Z h0 t1 xS0 "value" "[B" (.ref v1)) (F2 : Fld Z h0 t2 xS0 "value" "[B" (.ref v2)) (V1 : Arv Z h0 v1 k1 .byte (3 : Int32) [(.int (c0.toInt8.toInt32)), (.int (c1.toInt8.toInt32)), (.int (c2.toInt8.toInt32))] (.int 0)) (V2 : Arv Z h0 v2 k2 .byte (3 : Int32) [(.int (c0.toInt8.toInt32)), (.int (c1.toInt8.toInt32)), (.int (c2.toInt8.toInt32))] (.int 0)) (n12 : t1 ≠ t2) (SCS : Sta Z Z.heap xS0 xS3 "Z" (.int cs)) (hcs : ¬ (cs = (0 : Int32))) :
    Ctr l Z h0 (⟨xS1, "equals", "(Ljava/lang/Object;)Z"⟩ : MethodName) k57 3 (some .boolean) [] ({ frames := 2, cells := 0, slots := 0, locals := 28 } : Room) #[(.ref o), (.ref q)] (Q_cete3 Z o q t1 t2 v1 v2 k1 k2 cs c0 c1 c2 h0) := by
  refine enter (plainFor_of_name pn6) ?_
  intro pp ee ss mm below meth cc s₁ hx hby hml hZ hown hnm hret hlk X0 e0 hs0
  replace hown : ss.vm.findClass xS1 = some mm.cls := hown
  refine Go.r (congrArg s₁.setTop (ef_cete3 mm o q)) ?_
  have N0 := Fr.nil Z.heap.size
  show Go pp ee below _ (s₁.setTop (mkF mm 0 #[.val (.ref o), .val (.ref q), .unset] []))
  refine Go.g X0 hx (hb hby d57_0) rfl rfl (q := 1) rfl ?_
  refine Go.g X0 hx (hb hby d57_1) rfl rfl (q := 2) rfl ?_
  refine Go.jp X0 hx rfl rfl (hb hby d57_2) (same := false) (decide_eq_false fun q => noq (Value.ref.inj q)) (q := 7) (by decide) (by decide) ?_
  refine Go.g X0 hx (hb hby d57_7) rfl rfl (q := 8) rfl ?_
  refine Go.js X0 hx hZ hown (wd48 hw) e0 (Ins.self Eq_) (hb hby d57_8) (q := 11) rfl ?_
  intro T101 X101 e101
  refine Go.F X101 hx (hb hby d57_11) (by decide) (q := 16) (by decide) (by decide) ?_
  refine Go.g X101 hx (hb hby d57_16) rfl rfl (q := 17) rfl ?_
  refine Go.jr X101 hx hZ hown (wd48 hw) e101 (Ins.self Eq_) (hb hby d57_17) (q := 20) rfl ?_
  intro T102 X102 e102
  refine Go.jf X102 hx (hb hby d57_20) rfl (l' := #[.val (.ref o), .val (.ref q), .val (.ref q)]) rfl (q := 21) rfl ?_
  refine Go.g X102 hx (hb hby d57_21) rfl rfl (q := 22) rfl ?_
  refine Go.B X102 hx hZ hown (host := "") (Or.inl (wd72 hw)) Via.refl e102 A0 (hb hby d57_22) (q := 25) rfl ?_
  intro T103 X103 e103
  refine Go.g X103 hx (hb hby d57_25) rfl rfl (q := 26) rfl ?_
  refine Go.B X103 hx hZ hown (host := "") (Or.inl (wd72 hw)) Via.refl e103 A1 (hb hby d57_26) (q := 29) rfl ?_
  intro T104 X104 e104
  refine Go.t X104 hx (hb hby d57_29) (by decide) (q := 32) rfl ?_
  refine Go.g X104 hx (hb hby d57_32) rfl rfl (q := 33) rfl ?_
  refine Go.B X104 hx hZ hown (host := "") (Or.inl (wd74 hw)) Via.refl e104 A2 (hb hby d57_33) (q := 36) rfl ?_
  intro T105 X105 e105
  refine Go.g X105 hx (hb hby d57_36) rfl rfl (q := 37) rfl ?_
  refine Go.B X105 hx hZ hown (host := "") (Or.inl (wd74 hw)) Via.refl e105 A3 (hb hby d57_37) (q := 40) rfl ?_
  intro T106 X106 e106
  refine Go.u X106 hx hZ hown (wd224 hw) (wd87 hw) (notFace_of_selects (args := #[]) (mvT hZ (wd89 hw))) (wd89 hw) (wd88 hw) (wd7 hw) (wd90 hw) (by decide) (cse3 l Z a0 hw t1 t2 cs v1 v2 (k1) (k2) ((c0.toInt8.toInt32)) ((c1.toInt8.toInt32)) ((c2.toInt8.toInt32)) h0 O0 E1 E2 C1 C2 F1 F2 V1 V2 n12 SCS hcs) e106 E1 (by rw [hml]; rfl) (hb hby d57_40) (argsL := [(.ref t2)]) (rest := []) (lenOf pd31 rfl) rfl rfl (W := 0) (Nat.le_refl _) (by decide) ?_
  intro v107 T107 L107 X107 hQ107
  obtain ⟨rfl, N107q, e107⟩ := hQ107
  have N107 := Fr.app N0 N107q
  refine Go.L X107 hx (hb hby d57_43) (by decide) (q := 46) rfl ?_
  refine Go.i X107 hx (hb hby d57_46) (r := (1 : Int32)) rfl (q := 47) rfl ?_
  refine Go.D X107 hx (hb hby d57_47) (q := 51) (by decide) (by decide) ?_
  exact Go.M X107 hx hret hlk (by simp) rfl (hb hby d57_51) e107 (by decide) (by decide) ⟨rfl, N107, rfl⟩
def Q_law0 (Z : State) (pn pa pb pd cs : Int32) (fm : Value) (h0 : Heap) (vR : Option Value) (hR : Heap) (LR : List Loc) : Prop := vR = some (.int 1) ∧ Fr Z.heap.size LR
theorem law0 (l : Launch) (Z : State) (a0 : Array Value) (hw : ∀ d ∈ tables_1, d.before a0 Z = true) (pn pa pb pd cs : Int32) (fm : Value) (h0 : Heap) (O0 : Ext Z.heap h0) (SCS : Sta Z Z.heap xS0 xS3 "Z" (.int cs)) (SFM : Sta Z Z.heap xS6 "SIOOBE_FORMATTER" xS9 fm) (hcs : ¬ (cs = (0 : Int32))) (hfm : fm.isRef = true) :
    CtrH l Z consts_1 h0 x code maxLocals ret tables_1 room_1 #[(.int pn), (.int pa), (.int pb), (.int pd)] (Q_law0 Z pn pa pb pd cs fm h0) := by
  refine enterH (plainFor_of_name pn0) ?_
  intro pp ee ss mm below meth cc s₁ hx hby hml hZ hown hnm hret hlk X0 e0 hs0 hS hC
  replace hown : (ss.setVm ss.vm).vm.findClass xS10 = some mm.cls := hown
  have hKd := Nat.zero_le h0.size
  refine Go.r (congrArg s₁.setTop (ef_law0 mm pn pa pb pd)) ?_
  have N0 := Fr.nil Z.heap.size
  show Go pp ee below _ (s₁.setTop (mkF mm 0 #[.val (.int pn), .val (.int pa), .val (.int pb), .val (.int pd), .unset, .unset, .unset, .unset, .unset, .unset, .unset, .unset, .unset] []))
  refine Go.f X0 hx (hb hby at_0) rfl (q := 1) rfl ?_
  refine Go.i X0 hx (hb hby at_1) (r := (3 : Int32)) rfl (q := 2) rfl ?_
  refine Go.jD X0 hx (hb hby at_2) rfl (q := 3) rfl ?_
  have hk := own_and3 pn
  generalize (pn &&& (3 : Int32)) = k at hk ⊢
  rcases hk with rfl | rfl | rfl | rfl
  · show Go pp ee below _ (s₁.setTop (mkF mm 3 #[.val (.int pn), .val (.int pa), .val (.int pb), .val (.int pd), .unset, .unset, .unset, .unset, .unset, .unset, .unset, .unset, .unset] [(.int 0)]))
    refine Go.G X0 hx (hb hby at_3) (l' := #[.val (.int pn), .val (.int pa), .val (.int pb), .val (.int pd), .val (.int 0), .unset, .unset, .unset, .unset, .unset, .unset, .unset, .unset]) rfl (q := 5) rfl ?_
    refine Go.f X0 hx (hb hby at_5) rfl (q := 6) rfl ?_
    refine Go.A X0 hx hZ hown (wd0 hw) (wd1 hw) (wd2 hw) (wd3 hw) (by decide) (cetg l Z a0 hw pa h0 O0) e0 (by rw [hml]; rfl) (hb hby at_6) (argsL := [(.int pa)]) (rest := []) (lenOf pd11 rfl) rfl rfl (W := 0) (Nat.le_refl _) (by decide) ?_
    intro v101 T101 L101 X101 hQ101
    obtain ⟨y_101, rfl, N101q, e101, P101_0⟩ := hQ101
    have N101 := Fr.app N0 N101q
    have hk102 : nar .char y_101 = y_101 := own_ecn P101_0
    have hk103 : ¬ ((255 : Int32) < y_101) := own_ec255 P101_0
    refine Go.G X101 hx (hb hby at_9) (l' := #[.val (.int pn), .val (.int pa), .val (.int pb), .val (.int pd), .val (.int 0), .val (.int y_101), .unset, .unset, .unset, .unset, .unset, .unset, .unset]) rfl (q := 11) rfl ?_
    refine Go.f X101 hx (hb hby at_11) rfl (q := 12) rfl ?_
    refine Go.A X101 hx hZ hown (wd0 hw) (wd1 hw) (wd2 hw) (wd3 hw) (by decide) (cetg l Z a0 hw pb h0 O0) e101 (by rw [hml]; rfl) (hb hby at_12) (argsL := [(.int pb)]) (rest := []) (lenOf pd11 rfl) rfl rfl (W := 0) (Nat.le_refl _) (by decide) ?_
    intro v104 T104 L104 X104 hQ104
    obtain ⟨y_104, rfl, N104q, e104, P104_0⟩ := hQ104
    have N104 := Fr.app N101 N104q
    have hk105 : nar .char y_104 = y_104 := own_ecn P104_0
    have hk106 : ¬ ((255 : Int32) < y_104) := own_ec255 P104_0
    refine Go.G X104 hx (hb hby at_15) (l' := #[.val (.int pn), .val (.int pa), .val (.int pb), .val (.int pd), .val (.int 0), .val (.int y_101), .val (.int y_104), .unset, .unset, .unset, .unset, .unset, .unset]) rfl (q := 17) rfl ?_
    refine Go.f X104 hx (hb hby at_17) rfl (q := 18) rfl ?_
    refine Go.A X104 hx hZ hown (wd0 hw) (wd1 hw) (wd2 hw) (wd3 hw) (by decide) (cetg l Z a0 hw pd h0 O0) e104 (by rw [hml]; rfl) (hb hby at_18) (argsL := [(.int pd)]) (rest := []) (lenOf pd11 rfl) rfl rfl (W := 0) (Nat.le_refl _) (by decide) ?_
    intro v107 T107 L107 X107 hQ107
    obtain ⟨y_107, rfl, N107q, e107, P107_0⟩ := hQ107
    have N107 := Fr.app N104 N107q
    have hk108 : nar .char y_107 = y_107 := own_ecn P107_0
    have hk109 : ¬ ((255 : Int32) < y_107) := own_ec255 P107_0
    refine Go.G X107 hx (hb hby at_21) (l' := #[.val (.int pn), .val (.int pa), .val (.int pb), .val (.int pd), .val (.int 0), .val (.int y_101), .val (.int y_104), .val (.int y_107), .unset, .unset, .unset, .unset, .unset]) rfl (q := 23) rfl ?_
    refine Go.jd X107 hx hZ hown (wd5 hw) (wd6 hw) (wd7 hw) e107 (hb hby at_23) (by decide) (by decide) (q := 26) rfl ?_
    intro b110 T110 h110 X110 e110 q110 E110 A110 D110 U110
    have g_b110 : Z.heap.size ≤ b110 := Nat.le_trans O0.1 (Nat.le_of_eq q110)
    replace hC := hC.trans (CHr.ext E110 hC.1)
    have OE110 := ext_trans O0 E110
    replace hKd := Nat.le_trans hKd E110.1
    have F110_value : Fld Z h110 b110 xS0 "value" "[B" .null := D110 (Or.inr (wd24 hw)) (ty := (.array .byte)) (by decide)
    have F110_coder : Fld Z h110 b110 xS0 "coder" "B" (.int 0) := D110 (Or.inr (wd25 hw)) (ty := .byte) (by decide)
    clear D110
    refine Go.N X110 hx (hb hby at_26) rfl (q := 27) rfl ?_
    refine Go.o X110 hx (hb hby at_27) rfl (q := 29) rfl ?_
    refine Go.o X110 hx (hb hby at_29) rfl (q := 31) rfl ?_
    refine Go.o X110 hx (hb hby at_31) rfl (q := 33) rfl ?_
    refine Go.o X110 hx (hb hby at_33) rfl (q := 35) rfl ?_
    refine Go.A X110 hx hZ hown (wd8 hw) (wd9 hw) (wd2 hw) (wd10 hw) (by decide) (cch0 l Z a0 hw y_101 y_104 y_107 h110 OE110) e110 (by rw [hml]; rfl) (hb hby at_35) (argsL := [(.int 0), (.int y_101), (.int y_104), (.int y_107)]) (rest := [(.ref b110), (.ref b110)]) (lenOf pd40 rfl) rfl rfl (W := 2) (Nat.le_refl _) (by decide) ?_
    intro v111 T111 L111 X111 hQ111
    obtain ⟨h111, e111⟩ : ∃ z, T111.heap = z := ⟨_, rfl⟩
    rw [e111] at hQ111
    obtain ⟨ar_111, ka_111, rfl, N111q, K111, fr111_ar, P111_0, P111_1⟩ := hQ111
    have N111 := Fr.app N107 N111q
    have ne_b110_ar_111 : b110 ≠ ar_111 := ne_new A110.lt fr111_ar
    have g_ar_111 : Z.heap.size ≤ ar_111 := Nat.le_trans OE110.1 fr111_ar
    replace hKd := Nat.le_trans hKd K111.1
    have hSk : ∀ x ∈ ([] : List Addr), Safe Z consts_1 ss.vm h110 x := all0
    replace hC := hC.trans (CHr.keep K111 hSk hC.1)
    replace A110 := A110.keep K111
    replace F110_value := F110_value.keep K111 nin0
    replace F110_coder := F110_coder.keep K111 nin0
    have OK111 := ext_keep OE110 K111 all0
    refine Go.jJ X111 hx hZ hown hS hKd (own_EW hw) hC rfl (wd12 hw) (wd13 hw) (wd7 hw) (wd14 hw) (by decide) (csj0 l Z a0 hw b110 ar_111 (ka_111) h111 OK111 A110 F110_value F110_coder g_b110 P111_1) e111 (by rw [hml]; rfl) (hb hby at_38) (argsL := [(.ref ar_111)]) (rest := [(.ref b110)]) (lenOf pd41 rfl) rfl rfl (W := 1) (Nat.le_refl _) (by decide) ?_
    intro v112 T112 L112 k112 X112 hS hKd hZ hown hR112 hQ112
    obtain ⟨h112, e112⟩ : ∃ z, T112.heap = z := ⟨_, rfl⟩
    rw [e112] at hQ112 hKd hR112
    obtain ⟨b_112, kb_112, rfl, N112q, K112, P112_0, P112_1, P112_2⟩ := hQ112
    have N112 := Fr.app N111 N112q
    replace hC := hC.trans hR112
    replace A110 := A110.keep K112
    replace P111_0 := P111_0.keep K112
    replace P111_1 := P111_1.keep K112 (ninS (Ne.symm ne_b110_ar_111) nin0)
    have OK112 := ext_keep OK111 K112 (allS g_b110 all0)
    refine Go.V X112 hx (hb hby at_41) rfl (l' := #[.val (.int pn), .val (.int pa), .val (.int pb), .val (.int pd), .val (.int 0), .val (.int y_101), .val (.int y_104), .val (.int y_107), .val (.ref b110), .unset, .unset, .unset, .unset]) rfl (q := 43) rfl ?_
    refine Go.jd X112 hx hZ hown (wd5 hw) (wd6 hw) (wd7 hw) e112 (hb hby at_43) (by decide) (by decide) (q := 46) rfl ?_
    intro b113 T113 h113 X113 e113 q113 E113 A113 D113 U113
    have ne_b110_b113 : b110 ≠ b113 := ne_new A110.lt (Nat.le_of_eq q113)
    have ne_ar_111_b113 : ar_111 ≠ b113 := ne_new P111_0.lt (Nat.le_of_eq q113)
    have ne_b_112_b113 : b_112 ≠ b113 := ne_new P112_2.lt (Nat.le_of_eq q113)
    have g_b113 : Z.heap.size ≤ b113 := Nat.le_trans OK112.1 (Nat.le_of_eq q113)
    replace hC := hC.trans (CHr.ext E113 hC.1)
    replace A110 := A110.ext E113
    replace P111_0 := P111_0.ext E113
    replace P111_1 := P111_1.ext E113
    replace P112_0 := P112_0.ext E113
    replace P112_1 := P112_1.ext E113
    replace P112_2 := P112_2.ext E113
    have OE113 := ext_trans OK112 E113
    replace hKd := Nat.le_trans hKd E113.1
    have F113_value : Fld Z h113 b113 xS0 "value" "[B" .null := D113 (Or.inr (wd24 hw)) (ty := (.array .byte)) (by decide)
    have F113_coder : Fld Z h113 b113 xS0 "coder" "B" (.int 0) := D113 (Or.inr (wd25 hw)) (ty := .byte) (by decide)
    clear D113
    refine Go.N X113 hx (hb hby at_46) rfl (q := 47) rfl ?_
    refine Go.o X113 hx (hb hby at_47) rfl (q := 49) rfl ?_
    refine Go.o X113 hx (hb hby at_49) rfl (q := 51) rfl ?_
    refine Go.o X113 hx (hb hby at_51) rfl (q := 53) rfl ?_
    refine Go.o X113 hx (hb hby at_53) rfl (q := 55) rfl ?_
    refine Go.A X113 hx hZ hown (wd30 hw) (wd31 hw) (wd2 hw) (wd32 hw) (by decide) (cqu0 l Z a0 hw y_101 y_104 y_107 h113 OE113) e113 (by rw [hml]; rfl) (hb hby at_55) (argsL := [(.int 0), (.int y_101), (.int y_104), (.int y_107)]) (rest := [(.ref b113), (.ref b113)]) (lenOf pd40 rfl) rfl rfl (W := 2) (Nat.le_refl _) (by decide) ?_
    intro v114 T114 L114 X114 hQ114
    obtain ⟨h114, e114⟩ : ∃ z, T114.heap = z := ⟨_, rfl⟩
    rw [e114] at hQ114
    obtain ⟨ar_114, ka_114, rfl, N114q, K114, fr114_ar, P114_0, P114_1⟩ := hQ114
    have N114 := Fr.app N112 N114q
    have ne_b110_ar_114 : b110 ≠ ar_114 := ne_new A110.lt fr114_ar
    have ne_ar_111_ar_114 : ar_111 ≠ ar_114 := ne_new P111_0.lt fr114_ar
    have ne_b_112_ar_114 : b_112 ≠ ar_114 := ne_new P112_2.lt fr114_ar
    have ne_b113_ar_114 : b113 ≠ ar_114 := ne_new A113.lt fr114_ar
    have g_ar_114 : Z.heap.size ≤ ar_114 := Nat.le_trans OE113.1 fr114_ar
    replace hKd := Nat.le_trans hKd K114.1
    have hSk : ∀ x ∈ ([] : List Addr), Safe Z consts_1 T112.vm h113 x := all0
    replace hC := hC.trans (CHr.keep K114 hSk hC.1)
    replace A110 := A110.keep K114
    replace P111_0 := P111_0.keep K114
    replace P111_1 := P111_1.keep K114 nin0
    replace P112_0 := P112_0.keep K114 nin0
    replace P112_1 := P112_1.keep K114 nin0
    replace P112_2 := P112_2.keep K114 nin0
    replace A113 := A113.keep K114
    replace F113_value := F113_value.keep K114 nin0
    replace F113_coder := F113_coder.keep K114 nin0
    have OK114 := ext_keep OE113 K114 all0
    refine Go.Y X114 hx hZ hown rfl (wd12 hw) (wd13 hw) (wd7 hw) (wd14 hw) (by decide) (csj2 l Z a0 hw b113 ar_114 (ka_114) ((34 : Int32)) ((34 : Int32)) cs h114 OK114 A113 F113_value F113_coder g_b113 P114_1 SCS hcs (by decide) (by decide)) e114 (by rw [hml]; rfl) (hb hby at_58) (argsL := [(.ref ar_114)]) (rest := [(.ref b113)]) (lenOf pd41 rfl) rfl rfl (W := 1) (Nat.le_refl _) (by decide) ?_
    intro v115 T115 L115 X115 hQ115
    obtain ⟨h115, e115⟩ : ∃ z, T115.heap = z := ⟨_, rfl⟩
    rw [e115] at hQ115
    obtain ⟨b_115, kb_115, rfl, N115q, K115, fr115_b, P115_0, P115_1, P115_2⟩ := hQ115
    have N115 := Fr.app N114 N115q
    have ne_b110_b_115 : b110 ≠ b_115 := ne_new A110.lt fr115_b
    have ne_ar_111_b_115 : ar_111 ≠ b_115 := ne_new P111_0.lt fr115_b
    have ne_b_112_b_115 : b_112 ≠ b_115 := ne_new P112_2.lt fr115_b
    have ne_b113_b_115 : b113 ≠ b_115 := ne_new A113.lt fr115_b
    have ne_ar_114_b_115 : ar_114 ≠ b_115 := ne_new P114_0.lt fr115_b
    have g_b_115 : Z.heap.size ≤ b_115 := Nat.le_trans OK114.1 fr115_b
    replace hKd := Nat.le_trans hKd K115.1
    have hSk : ∀ x ∈ [b113], Safe Z consts_1 T112.vm h114 x := (allS (own_safeNull hZ.alike A113 F113_value) all0)
    replace hC := hC.trans (CHr.keep K115 hSk hC.1)
    replace A110 := A110.keep K115
    replace P111_0 := P111_0.keep K115
    replace P111_1 := P111_1.keep K115 (ninS ne_ar_111_b113 nin0)
    replace P112_0 := P112_0.keep K115 (ninS ne_b110_b113 nin0)
    replace P112_1 := P112_1.keep K115 (ninS ne_b110_b113 nin0)
    replace P112_2 := P112_2.keep K115 (ninS ne_b_112_b113 nin0)
    replace A113 := A113.keep K115
    replace P114_0 := P114_0.keep K115
    replace P114_1 := P114_1.keep K115 (ninS (Ne.symm ne_b113_ar_114) nin0)
    have OK115 := ext_keep OK114 K115 (allS g_b113 all0)
    refine Go.V X115 hx (hb hby at_61) rfl (l' := #[.val (.int pn), .val (.int pa), .val (.int pb), .val (.int pd), .val (.int 0), .val (.int y_101), .val (.int y_104), .val (.int y_107), .val (.ref b110), .val (.ref b113), .unset, .unset, .unset]) rfl (q := 63) rfl ?_
    refine Go.w X115 hx (hb hby at_63) rfl rfl (q := 65) rfl ?_
    refine Go.jk X115 hx hZ hown hS hKd (own_EW hw) hC (wd44 hw) (wd45 hw) (wd46 hw) (wd47 hw) (by decide) (cwk0 l Z a0 hw b110 b_112 (kb_112) cs fm h115 OK115 A110 P112_1 P112_0 P112_2 SCS SFM hcs hfm) e115 (by rw [hml]; rfl) (hb hby at_65) (argsL := [(.ref b110)]) (rest := []) (lenOf pd42 rfl) rfl rfl (W := 0) (Nat.le_refl _) (by decide) ?_
    intro v116 T116 L116 k116 X116 hS hKd hZ hown hR116 hQ116
    obtain ⟨h116, e116⟩ : ∃ z, T116.heap = z := ⟨_, rfl⟩
    rw [e116] at hQ116 hKd hR116
    obtain ⟨t_116, rfl, N116q, K116, fr116_t, P116_0, P116_1, P116_2, P116_3⟩ := hQ116
    have N116 := Fr.app N115 N116q
    replace hC := hC.trans hR116
    have ne_b110_t_116 : b110 ≠ t_116 := ne_new A110.lt fr116_t
    have ne_ar_111_t_116 : ar_111 ≠ t_116 := ne_new P111_0.lt fr116_t
    have ne_b_112_t_116 : b_112 ≠ t_116 := ne_new P112_2.lt fr116_t
    have ne_b113_t_116 : b113 ≠ t_116 := ne_new A113.lt fr116_t
    have ne_ar_114_t_116 : ar_114 ≠ t_116 := ne_new P114_0.lt fr116_t
    have ne_b_115_t_116 : b_115 ≠ t_116 := ne_new P115_2.lt fr116_t
    have g_t_116 : Z.heap.size ≤ t_116 := Nat.le_trans OK115.1 fr116_t
    replace A110 := A110.keep K116
    replace P111_0 := P111_0.keep K116
    replace P111_1 := P111_1.keep K116 nin0
    replace P112_0 := P112_0.keep K116 nin0
    replace P112_1 := P112_1.keep K116 nin0
    replace P112_2 := P112_2.keep K116 nin0
    replace A113 := A113.keep K116
    replace P114_0 := P114_0.keep K116
    replace P114_1 := P114_1.keep K116 nin0
    replace P115_0 := P115_0.keep K116 nin0
    replace P115_1 := P115_1.keep K116 nin0
    replace P115_2 := P115_2.keep K116 nin0
    have OK116 := ext_keep OK115 K116 all0
    refine Go.V X116 hx (hb hby at_68) rfl (l' := #[.val (.int pn), .val (.int pa), .val (.int pb), .val (.int pd), .val (.int 0), .val (.int y_101), .val (.int y_104), .val (.int y_107), .val (.ref b110), .val (.ref b113), .val (.ref t_116), .unset, .unset]) rfl (q := 70) rfl ?_
    refine Go.w X116 hx (hb hby at_70) rfl rfl (q := 72) rfl ?_
    refine Go.jx X116 hx (hb hby at_72) (q := 77) (by decide) (by decide) ?_
    refine Go.w X116 hx (hb hby at_77) rfl rfl (q := 79) rfl ?_
    refine Go.u X116 hx hZ hown (wd76 hw) (wd77 hw) (notFace_of_selects (args := #[]) (mvT hZ (wd79 hw))) (wd79 hw) (wd78 hw) (wd46 hw) (wd80 hw) (by decide) (cisw l Z a0 hw t_116 h116 OK116 P116_1) e116 P116_0 (by rw [hml]; rfl) (hb hby at_79) (argsL := []) (rest := []) (lenOf pd7 rfl) rfl rfl (W := 0) (Nat.le_refl _) (by decide) ?_
    intro v117 T117 L117 X117 hQ117
    obtain ⟨rfl, N117q, e117⟩ := hQ117
    have N117 := Fr.app N116 N117q
    refine Go.F X117 hx (hb hby at_82) (by decide) (q := 87) (by decide) (by decide) ?_
    refine Go.w X117 hx (hb hby at_87) rfl rfl (q := 89) rfl ?_
    refine Go.u X117 hx hZ hown (wd81 hw) (wd82 hw) (notFace_of_selects (args := #[]) (mvT hZ (wd84 hw))) (wd84 hw) (wd83 hw) (wd46 hw) (wd85 hw) (by decide) (cval l Z a0 hw t_116 b110 h116 OK116 P116_2) e117 P116_0 (by rw [hml]; rfl) (hb hby at_89) (argsL := []) (rest := []) (lenOf pd29 rfl) rfl rfl (W := 0) (Nat.le_refl _) (by decide) ?_
    intro v118 T118 L118 X118 hQ118
    obtain ⟨rfl, N118q, e118⟩ := hQ118
    have N118 := Fr.app N117 N118q
    refine Go.w X118 hx (hb hby at_92) rfl rfl (q := 94) rfl ?_
    refine Go.u X118 hx hZ hown (wd86 hw) (wd87 hw) (notFace_of_selects (args := #[]) (mvT hZ (wd89 hw))) (wd89 hw) (wd88 hw) (wd7 hw) (wd90 hw) (by decide) (ceqs l Z a0 hw b110 h116 OK116) e118 A110 (by rw [hml]; rfl) (hb hby at_94) (argsL := [(.ref b110)]) (rest := []) (lenOf pd31 rfl) rfl rfl (W := 0) (Nat.le_refl _) (by decide) ?_
    intro v119 T119 L119 X119 hQ119
    obtain ⟨rfl, N119q, e119⟩ := hQ119
    have N119 := Fr.app N118 N119q
    refine Go.F X119 hx (hb hby at_97) (by decide) (q := 102) (by decide) (by decide) ?_
    refine Go.w X119 hx (hb hby at_102) rfl rfl (q := 104) rfl ?_
    refine Go.ju X119 hx hZ hown hS hKd (own_EW hw) hC (wd91 hw) (wd92 hw) (notFace_of_selects (args := #[]) (mvT hZ (wd94 hw))) (wd94 hw) (wd93 hw) (wd46 hw) (wd95 hw) (by decide) (ctos l Z a0 hw t_116 b110 b_112 (kb_112) cs ((0 : Int32)) ([]) ([(.int 34), (.int 0), (.int 0), (.int 0), (.int 0)]) ([(.int 34), (.int 34), (.int 0), (.int 0), (.int 0)]) ([(.int 34), (.int 34)]) h116 OK116 P116_0 g_t_116 P116_1 P116_2 P116_3 A110 P112_1 P112_0 P112_2 SCS hcs ⟨⟨by decide, by decide, by decide⟩, by decide, by decide, rfl, Nat.le_of_ble_eq_true rfl, rfl⟩ (by decide) ⟨⟨by decide, by decide⟩, Nat.le_of_ble_eq_true rfl, rfl⟩ (by decide) ⟨⟨by decide, by decide⟩, by decide, rfl⟩) e119 P116_0 (by rw [hml]; rfl) (hb hby at_104) (argsL := []) (rest := []) (lenOf pd29 rfl) rfl rfl (W := 0) (Nat.le_refl _) (by decide) ?_
    intro v120 T120 L120 k120 X120 hS hKd hZ hown hR120 hQ120
    obtain ⟨h120, e120⟩ : ∃ z, T120.heap = z := ⟨_, rfl⟩
    rw [e120] at hQ120 hKd hR120
    obtain ⟨w_120, u_120, ku_120, rfl, N120q, K120, fr120_w, fr120_u, P120_0, P120_1, P120_2, P120_3, P120_4, P120_5, P120_6⟩ := hQ120
    have N120 := Fr.app N119 N120q
    replace hC := hC.trans hR120
    have ne_b110_w_120 : b110 ≠ w_120 := ne_new A110.lt fr120_w
    have ne_ar_111_w_120 : ar_111 ≠ w_120 := ne_new P111_0.lt fr120_w
    have ne_b_112_w_120 : b_112 ≠ w_120 := ne_new P112_2.lt fr120_w
    have ne_b113_w_120 : b113 ≠ w_120 := ne_new A113.lt fr120_w
    have ne_ar_114_w_120 : ar_114 ≠ w_120 := ne_new P114_0.lt fr120_w
    have ne_b_115_w_120 : b_115 ≠ w_120 := ne_new P115_2.lt fr120_w
    have ne_t_116_w_120 : t_116 ≠ w_120 := ne_new P116_0.lt fr120_w
    have g_w_120 : Z.heap.size ≤ w_120 := Nat.le_trans OK116.1 fr120_w
    have ne_b110_u_120 : b110 ≠ u_120 := ne_new A110.lt fr120_u
    have ne_ar_111_u_120 : ar_111 ≠ u_120 := ne_new P111_0.lt fr120_u
    have ne_b_112_u_120 : b_112 ≠ u_120 := ne_new P112_2.lt fr120_u
    have ne_b113_u_120 : b113 ≠ u_120 := ne_new A113.lt fr120_u
    have ne_ar_114_u_120 : ar_114 ≠ u_120 := ne_new P114_0.lt fr120_u
    have ne_b_115_u_120 : b_115 ≠ u_120 := ne_new P115_2.lt fr120_u
    have ne_t_116_u_120 : t_116 ≠ u_120 := ne_new P116_0.lt fr120_u
    have g_u_120 : Z.heap.size ≤ u_120 := Nat.le_trans OK116.1 fr120_u
    replace A110 := A110.keep K120
    replace P111_0 := P111_0.keep K120
    replace P111_1 := P111_1.keep K120 (ninS ne_ar_111_t_116 nin0)
    replace P112_0 := P112_0.keep K120 (ninS ne_b110_t_116 nin0)
    replace P112_1 := P112_1.keep K120 (ninS ne_b110_t_116 nin0)
    replace P112_2 := P112_2.keep K120 (ninS ne_b_112_t_116 nin0)
    replace A113 := A113.keep K120
    replace P114_0 := P114_0.keep K120
    replace P114_1 := P114_1.keep K120 (ninS ne_ar_114_t_116 nin0)
    replace P115_0 := P115_0.keep K120 (ninS ne_b113_t_116 nin0)
    replace P115_1 := P115_1.keep K120 (ninS ne_b113_t_116 nin0)
    replace P115_2 := P115_2.keep K120 (ninS ne_b_115_t_116 nin0)
    replace P116_0 := P116_0.keep K120
    have OK120 := ext_keep OK116 K120 (allS g_t_116 all0)
    refine Go.V X120 hx (hb hby at_107) rfl (l' := #[.val (.int pn), .val (.int pa), .val (.int pb), .val (.int pd), .val (.int 0), .val (.int y_101), .val (.int y_104), .val (.int y_107), .val (.ref b110), .val (.ref b113), .val (.ref t_116), .val (.ref w_120), .unset]) rfl (q := 109) rfl ?_
    refine Go.w X120 hx (hb hby at_109) rfl rfl (q := 111) rfl ?_
    refine Go.w X120 hx (hb hby at_111) rfl rfl (q := 113) rfl ?_
    refine Go.u X120 hx hZ hown (wd86 hw) (wd87 hw) (notFace_of_selects (args := #[]) (mvT hZ (wd89 hw))) (wd89 hw) (wd88 hw) (wd7 hw) (wd90 hw) (by decide) (cse2 l Z a0 hw w_120 b113 cs u_120 b_115 (ku_120) (kb_115) ((34 : Int32)) ((34 : Int32)) h120 OK120 P120_3 A113 P120_4 P115_1 P120_5 P115_0 P120_6 P115_2 (Ne.symm ne_b113_w_120) SCS hcs) e120 P120_3 (by rw [hml]; rfl) (hb hby at_113) (argsL := [(.ref b113)]) (rest := []) (lenOf pd31 rfl) rfl rfl (W := 0) (Nat.le_refl _) (by decide) ?_
    intro v121 T121 L121 X121 hQ121
    obtain ⟨rfl, N121q, e121⟩ := hQ121
    have N121 := Fr.app N120 N121q
    refine Go.F X121 hx (hb hby at_116) (by decide) (q := 121) (by decide) (by decide) ?_
    refine Go.w X121 hx (hb hby at_121) rfl rfl (q := 123) rfl ?_
    refine Go.u X121 hx hZ hown (wd91 hw) (wd92 hw) (notFace_of_selects (args := #[]) (mvT hZ (wd94 hw))) (wd94 hw) (wd93 hw) (wd46 hw) (wd95 hw) (by decide) (ctox l Z a0 hw t_116 w_120 h120 OK120 P120_2) e121 P116_0 (by rw [hml]; rfl) (hb hby at_123) (argsL := []) (rest := []) (lenOf pd29 rfl) rfl rfl (W := 0) (Nat.le_refl _) (by decide) ?_
    intro v122 T122 L122 X122 hQ122
    obtain ⟨rfl, N122q, e122⟩ := hQ122
    have N122 := Fr.app N121 N122q
    refine Go.w X122 hx (hb hby at_126) rfl rfl (q := 128) rfl ?_
    refine Go.u X122 hx hZ hown (wd86 hw) (wd87 hw) (notFace_of_selects (args := #[]) (mvT hZ (wd89 hw))) (wd89 hw) (wd88 hw) (wd7 hw) (wd90 hw) (by decide) (cse2 l Z a0 hw w_120 b113 cs u_120 b_115 (ku_120) (kb_115) ((34 : Int32)) ((34 : Int32)) h120 OK120 P120_3 A113 P120_4 P115_1 P120_5 P115_0 P120_6 P115_2 (Ne.symm ne_b113_w_120) SCS hcs) e122 P120_3 (by rw [hml]; rfl) (hb hby at_128) (argsL := [(.ref b113)]) (rest := []) (lenOf pd31 rfl) rfl rfl (W := 0) (Nat.le_refl _) (by decide) ?_
    intro v123 T123 L123 X123 hQ123
    obtain ⟨rfl, N123q, e123⟩ := hQ123
    have N123 := Fr.app N122 N123q
    refine Go.F X123 hx (hb hby at_131) (by decide) (q := 136) (by decide) (by decide) ?_
    refine Go.w X123 hx (hb hby at_136) rfl rfl (q := 138) rfl ?_
    refine Go.w X123 hx (hb hby at_138) rfl rfl (q := 140) rfl ?_
    refine Go.ju X123 hx hZ hown hS hKd (own_EW hw) hC (wd218 hw) (wd219 hw) (notFace_of_selects (args := #[]) (mvT hZ (wd221 hw))) (wd221 hw) (wd220 hw) (wd46 hw) (wd222 hw) (by decide) (csm l Z a0 hw t_116 b110 h120 OK120 P116_0 P120_0 P120_1 A110) e123 P116_0 (by rw [hml]; rfl) (hb hby at_140) (argsL := [(.ref t_116)]) (rest := []) (lenOf pd43 rfl) rfl rfl (W := 0) (Nat.le_refl _) (by decide) ?_
    intro v124 T124 L124 k124 X124 hS hKd hZ hown hR124 hQ124
    obtain ⟨h124, e124⟩ : ∃ z, T124.heap = z := ⟨_, rfl⟩
    rw [e124] at hQ124 hKd hR124
    obtain ⟨rfl, N124q, K124⟩ := hQ124
    have N124 := Fr.app N123 N124q
    replace hC := hC.trans hR124
    replace A110 := A110.keep K124
    replace P111_0 := P111_0.keep K124
    replace P111_1 := P111_1.keep K124 nin0
    replace P112_0 := P112_0.keep K124 nin0
    replace P112_1 := P112_1.keep K124 nin0
    replace P112_2 := P112_2.keep K124 nin0
    replace A113 := A113.keep K124
    replace P114_0 := P114_0.keep K124
    replace P114_1 := P114_1.keep K124 nin0
    replace P115_0 := P115_0.keep K124 nin0
    replace P115_1 := P115_1.keep K124 nin0
    replace P115_2 := P115_2.keep K124 nin0
    replace P116_0 := P116_0.keep K124
    replace P120_0 := P120_0.keep K124 nin0
    replace P120_1 := P120_1.keep K124 nin0
    replace P120_2 := P120_2.keep K124 nin0
    replace P120_3 := P120_3.keep K124
    replace P120_4 := P120_4.keep K124 nin0
    replace P120_5 := P120_5.keep K124 nin0
    replace P120_6 := P120_6.keep K124 nin0
    have OK124 := ext_keep OK120 K124 all0
    refine Go.F X124 hx (hb hby at_143) (by decide) (q := 148) (by decide) (by decide) ?_
    refine Go.w X124 hx (hb hby at_148) rfl rfl (q := 150) rfl ?_
    refine Go.jk X124 hx hZ hown hS hKd (own_EW hw) hC (wd225 hw) (wd226 hw) (wd46 hw) (wd227 hw) (by decide) (cprs0 l Z a0 hw b113 b_115 (kb_115) cs fm h124 OK124 A113 P115_1 P115_0 P115_2 SCS SFM hcs hfm) e124 (by rw [hml]; rfl) (hb hby at_150) (argsL := [(.ref b113)]) (rest := []) (lenOf pd42 rfl) rfl rfl (W := 0) (Nat.le_refl _) (by decide) ?_
    intro v125 T125 L125 k125 X125 hS hKd hZ hown hR125 hQ125
    obtain ⟨h125, e125⟩ : ∃ z, T125.heap = z := ⟨_, rfl⟩
    rw [e125] at hQ125 hKd hR125
    obtain ⟨t_125, w_125, u_125, ku_125, rfl, N125q, K125, fr125_t, P125_0, P125_1, P125_2, P125_3, P125_4, P125_5, P125_6, P125_7⟩ := hQ125
    have N125 := Fr.app N124 N125q
    replace hC := hC.trans hR125
    have ne_b110_t_125 : b110 ≠ t_125 := ne_new A110.lt fr125_t
    have ne_ar_111_t_125 : ar_111 ≠ t_125 := ne_new P111_0.lt fr125_t
    have ne_b_112_t_125 : b_112 ≠ t_125 := ne_new P112_2.lt fr125_t
    have ne_b113_t_125 : b113 ≠ t_125 := ne_new A113.lt fr125_t
    have ne_ar_114_t_125 : ar_114 ≠ t_125 := ne_new P114_0.lt fr125_t
    have ne_b_115_t_125 : b_115 ≠ t_125 := ne_new P115_2.lt fr125_t
    have ne_t_116_t_125 : t_116 ≠ t_125 := ne_new P116_0.lt fr125_t
    have ne_w_120_t_125 : w_120 ≠ t_125 := ne_new P120_3.lt fr125_t
    have ne_u_120_t_125 : u_120 ≠ t_125 := ne_new P120_6.lt fr125_t
    have g_t_125 : Z.heap.size ≤ t_125 := Nat.le_trans OK124.1 fr125_t
    replace A110 := A110.keep K125
    replace P111_0 := P111_0.keep K125
    replace P111_1 := P111_1.keep K125 nin0
    replace P112_0 := P112_0.keep K125 nin0
    replace P112_1 := P112_1.keep K125 nin0
    replace P112_2 := P112_2.keep K125 nin0
    replace A113 := A113.keep K125
    replace P114_0 := P114_0.keep K125
    replace P114_1 := P114_1.keep K125 nin0
    replace P115_0 := P115_0.keep K125 nin0
    replace P115_1 := P115_1.keep K125 nin0
    replace P115_2 := P115_2.keep K125 nin0
    replace P116_0 := P116_0.keep K125
    replace P120_0 := P120_0.keep K125 nin0
    replace P120_1 := P120_1.keep K125 nin0
    replace P120_2 := P120_2.keep K125 nin0
    replace P120_3 := P120_3.keep K125
    replace P120_4 := P120_4.keep K125 nin0
    replace P120_5 := P120_5.keep K125 nin0
    replace P120_6 := P120_6.keep K125 nin0
    have OK125 := ext_keep OK124 K125 all0
    refine Go.V X125 hx (hb hby at_153) rfl (l' := #[.val (.int pn), .val (.int pa), .val (.int pb), .val (.int pd), .val (.int 0), .val (.int y_101), .val (.int y_104), .val (.int y_107), .val (.ref b110), .val (.ref b113), .val (.ref t_116), .val (.ref w_120), .val (.ref t_125)]) rfl (q := 155) rfl ?_
    refine Go.w X125 hx (hb hby at_155) rfl rfl (q := 157) rfl ?_
    refine Go.w X125 hx (hb hby at_157) rfl rfl (q := 159) rfl ?_
    refine Go.u X125 hx hZ hown (wd281 hw) (wd282 hw) (notFace_of_selects (args := #[]) (mvT hZ (wd284 hw))) (wd284 hw) (wd283 hw) (wd46 hw) (wd285 hw) (by decide) (cete0 l Z a0 hw t_116 t_125 b110 w_125 b_112 u_125 (kb_112) (ku_125) cs h125 OK125 P125_0 ne_t_116_t_125 P120_0 P125_1 P120_1 P125_2 A110 P125_4 P112_1 P125_5 P112_0 P125_6 P112_2 P125_7 SCS hcs) e125 P116_0 (by rw [hml]; rfl) (hb hby at_159) (argsL := [(.ref t_125)]) (rest := []) (lenOf pd31 rfl) rfl rfl (W := 0) (Nat.le_refl _) (by decide) ?_
    intro v126 T126 L126 X126 hQ126
    obtain ⟨rfl, N126q, e126⟩ := hQ126
    have N126 := Fr.app N125 N126q
    exact Go.jz X126 hx hS hKd hs0 hZ (own_EW hw) hC hret hlk (by simp) rfl (hb hby at_162) e126 (by decide) (by decide) ⟨rfl, N126⟩
  · show Go pp ee below _ (s₁.setTop (mkF mm 3 #[.val (.int pn), .val (.int pa), .val (.int pb), .val (.int pd), .unset, .unset, .unset, .unset, .unset, .unset, .unset, .unset, .unset] [(.int 1)]))
    refine Go.G X0 hx (hb hby at_3) (l' := #[.val (.int pn), .val (.int pa), .val (.int pb), .val (.int pd), .val (.int 1), .unset, .unset, .unset, .unset, .unset, .unset, .unset, .unset]) rfl (q := 5) rfl ?_
    refine Go.f X0 hx (hb hby at_5) rfl (q := 6) rfl ?_
    refine Go.A X0 hx hZ hown (wd0 hw) (wd1 hw) (wd2 hw) (wd3 hw) (by decide) (cetg l Z a0 hw pa h0 O0) e0 (by rw [hml]; rfl) (hb hby at_6) (argsL := [(.int pa)]) (rest := []) (lenOf pd11 rfl) rfl rfl (W := 0) (Nat.le_refl _) (by decide) ?_
    intro v127 T127 L127 X127 hQ127
    obtain ⟨y_127, rfl, N127q, e127, P127_0⟩ := hQ127
    have N127 := Fr.app N0 N127q
    have hk128 : nar .char y_127 = y_127 := own_ecn P127_0
    have hk129 : ¬ ((255 : Int32) < y_127) := own_ec255 P127_0
    refine Go.G X127 hx (hb hby at_9) (l' := #[.val (.int pn), .val (.int pa), .val (.int pb), .val (.int pd), .val (.int 1), .val (.int y_127), .unset, .unset, .unset, .unset, .unset, .unset, .unset]) rfl (q := 11) rfl ?_
    refine Go.f X127 hx (hb hby at_11) rfl (q := 12) rfl ?_
    refine Go.A X127 hx hZ hown (wd0 hw) (wd1 hw) (wd2 hw) (wd3 hw) (by decide) (cetg l Z a0 hw pb h0 O0) e127 (by rw [hml]; rfl) (hb hby at_12) (argsL := [(.int pb)]) (rest := []) (lenOf pd11 rfl) rfl rfl (W := 0) (Nat.le_refl _) (by decide) ?_
    intro v130 T130 L130 X130 hQ130
    obtain ⟨y_130, rfl, N130q, e130, P130_0⟩ := hQ130
    have N130 := Fr.app N127 N130q
    have hk131 : nar .char y_130 = y_130 := own_ecn P130_0
    have hk132 : ¬ ((255 : Int32) < y_130) := own_ec255 P130_0
    refine Go.G X130 hx (hb hby at_15) (l' := #[.val (.int pn), .val (.int pa), .val (.int pb), .val (.int pd), .val (.int 1), .val (.int y_127), .val (.int y_130), .unset, .unset, .unset, .unset, .unset, .unset]) rfl (q := 17) rfl ?_
    refine Go.f X130 hx (hb hby at_17) rfl (q := 18) rfl ?_
    refine Go.A X130 hx hZ hown (wd0 hw) (wd1 hw) (wd2 hw) (wd3 hw) (by decide) (cetg l Z a0 hw pd h0 O0) e130 (by rw [hml]; rfl) (hb hby at_18) (argsL := [(.int pd)]) (rest := []) (lenOf pd11 rfl) rfl rfl (W := 0) (Nat.le_refl _) (by decide) ?_
    intro v133 T133 L133 X133 hQ133
    obtain ⟨y_133, rfl, N133q, e133, P133_0⟩ := hQ133
    have N133 := Fr.app N130 N133q
    have hk134 : nar .char y_133 = y_133 := own_ecn P133_0
    have hk135 : ¬ ((255 : Int32) < y_133) := own_ec255 P133_0
    refine Go.G X133 hx (hb hby at_21) (l' := #[.val (.int pn), .val (.int pa), .val (.int pb), .val (.int pd), .val (.int 1), .val (.int y_127), .val (.int y_130), .val (.int y_133), .unset, .unset, .unset, .unset, .unset]) rfl (q := 23) rfl ?_
    refine Go.jd X133 hx hZ hown (wd5 hw) (wd6 hw) (wd7 hw) e133 (hb hby at_23) (by decide) (by decide) (q := 26) rfl ?_
    intro b136 T136 h136 X136 e136 q136 E136 A136 D136 U136
    have g_b136 : Z.heap.size ≤ b136 := Nat.le_trans O0.1 (Nat.le_of_eq q136)
    replace hC := hC.trans (CHr.ext E136 hC.1)
    have OE136 := ext_trans O0 E136
    replace hKd := Nat.le_trans hKd E136.1
    have F136_value : Fld Z h136 b136 xS0 "value" "[B" .null := D136 (Or.inr (wd24 hw)) (ty := (.array .byte)) (by decide)
    have F136_coder : Fld Z h136 b136 xS0 "coder" "B" (.int 0) := D136 (Or.inr (wd25 hw)) (ty := .byte) (by decide)
    clear D136
    refine Go.N X136 hx (hb hby at_26) rfl (q := 27) rfl ?_
    refine Go.o X136 hx (hb hby at_27) rfl (q := 29) rfl ?_
    refine Go.o X136 hx (hb hby at_29) rfl (q := 31) rfl ?_
    refine Go.o X136 hx (hb hby at_31) rfl (q := 33) rfl ?_
    refine Go.o X136 hx (hb hby at_33) rfl (q := 35) rfl ?_
    refine Go.A X136 hx hZ hown (wd8 hw) (wd9 hw) (wd2 hw) (wd10 hw) (by decide) (cch1 l Z a0 hw y_127 y_130 y_133 h136 OE136 hk128) e136 (by rw [hml]; rfl) (hb hby at_35) (argsL := [(.int 1), (.int y_127), (.int y_130), (.int y_133)]) (rest := [(.ref b136), (.ref b136)]) (lenOf pd40 rfl) rfl rfl (W := 2) (Nat.le_refl _) (by decide) ?_
    intro v137 T137 L137 X137 hQ137
    obtain ⟨h137, e137⟩ : ∃ z, T137.heap = z := ⟨_, rfl⟩
    rw [e137] at hQ137
    obtain ⟨ar_137, ka_137, rfl, N137q, K137, fr137_ar, P137_0, P137_1⟩ := hQ137
    have N137 := Fr.app N133 N137q
    have ne_b136_ar_137 : b136 ≠ ar_137 := ne_new A136.lt fr137_ar
    have g_ar_137 : Z.heap.size ≤ ar_137 := Nat.le_trans OE136.1 fr137_ar
    replace hKd := Nat.le_trans hKd K137.1
    have hSk : ∀ x ∈ ([] : List Addr), Safe Z consts_1 ss.vm h136 x := all0
    replace hC := hC.trans (CHr.keep K137 hSk hC.1)
    replace A136 := A136.keep K137
    replace F136_value := F136_value.keep K137 nin0
    replace F136_coder := F136_coder.keep K137 nin0
    have OK137 := ext_keep OE136 K137 all0
    refine Go.Y X137 hx hZ hown rfl (wd12 hw) (wd13 hw) (wd7 hw) (wd14 hw) (by decide) (csj1 l Z a0 hw b136 ar_137 (ka_137) y_127 cs h137 OK137 A136 F136_value F136_coder g_b136 P137_1 SCS hcs hk129) e137 (by rw [hml]; rfl) (hb hby at_38) (argsL := [(.ref ar_137)]) (rest := [(.ref b136)]) (lenOf pd41 rfl) rfl rfl (W := 1) (Nat.le_refl _) (by decide) ?_
    intro v138 T138 L138 X138 hQ138
    obtain ⟨h138, e138⟩ : ∃ z, T138.heap = z := ⟨_, rfl⟩
    rw [e138] at hQ138
    obtain ⟨b_138, kb_138, rfl, N138q, K138, fr138_b, P138_0, P138_1, P138_2⟩ := hQ138
    have N138 := Fr.app N137 N138q
    have ne_b136_b_138 : b136 ≠ b_138 := ne_new A136.lt fr138_b
    have ne_ar_137_b_138 : ar_137 ≠ b_138 := ne_new P137_0.lt fr138_b
    have g_b_138 : Z.heap.size ≤ b_138 := Nat.le_trans OK137.1 fr138_b
    replace hKd := Nat.le_trans hKd K138.1
    have hSk : ∀ x ∈ [b136], Safe Z consts_1 ss.vm h137 x := (allS (own_safeNull hZ.alike A136 F136_value) all0)
    replace hC := hC.trans (CHr.keep K138 hSk hC.1)
    replace A136 := A136.keep K138
    replace P137_0 := P137_0.keep K138
    replace P137_1 := P137_1.keep K138 (ninS (Ne.symm ne_b136_ar_137) nin0)
    have OK138 := ext_keep OK137 K138 (allS g_b136 all0)
    refine Go.V X138 hx (hb hby at_41) rfl (l' := #[.val (.int pn), .val (.int pa), .val (.int pb), .val (.int pd), .val (.int 1), .val (.int y_127), .val (.int y_130), .val (.int y_133), .val (.ref b136), .unset, .unset, .unset, .unset]) rfl (q := 43) rfl ?_
    refine Go.jd X138 hx hZ hown (wd5 hw) (wd6 hw) (wd7 hw) e138 (hb hby at_43) (by decide) (by decide) (q := 46) rfl ?_
    intro b139 T139 h139 X139 e139 q139 E139 A139 D139 U139
    have ne_b136_b139 : b136 ≠ b139 := ne_new A136.lt (Nat.le_of_eq q139)
    have ne_ar_137_b139 : ar_137 ≠ b139 := ne_new P137_0.lt (Nat.le_of_eq q139)
    have ne_b_138_b139 : b_138 ≠ b139 := ne_new P138_2.lt (Nat.le_of_eq q139)
    have g_b139 : Z.heap.size ≤ b139 := Nat.le_trans OK138.1 (Nat.le_of_eq q139)
    replace hC := hC.trans (CHr.ext E139 hC.1)
    replace A136 := A136.ext E139
    replace P137_0 := P137_0.ext E139
    replace P137_1 := P137_1.ext E139
    replace P138_0 := P138_0.ext E139
    replace P138_1 := P138_1.ext E139
    replace P138_2 := P138_2.ext E139
    have OE139 := ext_trans OK138 E139
    replace hKd := Nat.le_trans hKd E139.1
    have F139_value : Fld Z h139 b139 xS0 "value" "[B" .null := D139 (Or.inr (wd24 hw)) (ty := (.array .byte)) (by decide)
    have F139_coder : Fld Z h139 b139 xS0 "coder" "B" (.int 0) := D139 (Or.inr (wd25 hw)) (ty := .byte) (by decide)
    clear D139
    refine Go.N X139 hx (hb hby at_46) rfl (q := 47) rfl ?_
    refine Go.o X139 hx (hb hby at_47) rfl (q := 49) rfl ?_
    refine Go.o X139 hx (hb hby at_49) rfl (q := 51) rfl ?_
    refine Go.o X139 hx (hb hby at_51) rfl (q := 53) rfl ?_
    refine Go.o X139 hx (hb hby at_53) rfl (q := 55) rfl ?_
    refine Go.A X139 hx hZ hown (wd30 hw) (wd31 hw) (wd2 hw) (wd32 hw) (by decide) (cqu1 l Z a0 hw y_127 y_130 y_133 h139 OE139 hk128) e139 (by rw [hml]; rfl) (hb hby at_55) (argsL := [(.int 1), (.int y_127), (.int y_130), (.int y_133)]) (rest := [(.ref b139), (.ref b139)]) (lenOf pd40 rfl) rfl rfl (W := 2) (Nat.le_refl _) (by decide) ?_
    intro v140 T140 L140 X140 hQ140
    obtain ⟨h140, e140⟩ : ∃ z, T140.heap = z := ⟨_, rfl⟩
    rw [e140] at hQ140
    obtain ⟨ar_140, ka_140, rfl, N140q, K140, fr140_ar, P140_0, P140_1⟩ := hQ140
    have N140 := Fr.app N138 N140q
    have ne_b136_ar_140 : b136 ≠ ar_140 := ne_new A136.lt fr140_ar
    have ne_ar_137_ar_140 : ar_137 ≠ ar_140 := ne_new P137_0.lt fr140_ar
    have ne_b_138_ar_140 : b_138 ≠ ar_140 := ne_new P138_2.lt fr140_ar
    have ne_b139_ar_140 : b139 ≠ ar_140 := ne_new A139.lt fr140_ar
    have g_ar_140 : Z.heap.size ≤ ar_140 := Nat.le_trans OE139.1 fr140_ar
    replace hKd := Nat.le_trans hKd K140.1
    have hSk : ∀ x ∈ ([] : List Addr), Safe Z consts_1 ss.vm h139 x := all0
    replace hC := hC.trans (CHr.keep K140 hSk hC.1)
    replace A136 := A136.keep K140
    replace P137_0 := P137_0.keep K140
    replace P137_1 := P137_1.keep K140 nin0
    replace P138_0 := P138_0.keep K140 nin0
    replace P138_1 := P138_1.keep K140 nin0
    replace P138_2 := P138_2.keep K140 nin0
    replace A139 := A139.keep K140
    replace F139_value := F139_value.keep K140 nin0
    replace F139_coder := F139_coder.keep K140 nin0
    have OK140 := ext_keep OE139 K140 all0
    refine Go.Y X140 hx hZ hown rfl (wd12 hw) (wd13 hw) (wd7 hw) (wd14 hw) (by decide) (csj3 l Z a0 hw b139 ar_140 (ka_140) ((34 : Int32)) y_127 ((34 : Int32)) cs h140 OK140 A139 F139_value F139_coder g_b139 P140_1 SCS hcs (by decide) hk129 (by decide)) e140 (by rw [hml]; rfl) (hb hby at_58) (argsL := [(.ref ar_140)]) (rest := [(.ref b139)]) (lenOf pd41 rfl) rfl rfl (W := 1) (Nat.le_refl _) (by decide) ?_
    intro v141 T141 L141 X141 hQ141
    obtain ⟨h141, e141⟩ : ∃ z, T141.heap = z := ⟨_, rfl⟩
    rw [e141] at hQ141
    obtain ⟨b_141, kb_141, rfl, N141q, K141, fr141_b, P141_0, P141_1, P141_2⟩ := hQ141
    have N141 := Fr.app N140 N141q
    have ne_b136_b_141 : b136 ≠ b_141 := ne_new A136.lt fr141_b
    have ne_ar_137_b_141 : ar_137 ≠ b_141 := ne_new P137_0.lt fr141_b
    have ne_b_138_b_141 : b_138 ≠ b_141 := ne_new P138_2.lt fr141_b
    have ne_b139_b_141 : b139 ≠ b_141 := ne_new A139.lt fr141_b
    have ne_ar_140_b_141 : ar_140 ≠ b_141 := ne_new P140_0.lt fr141_b
    have g_b_141 : Z.heap.size ≤ b_141 := Nat.le_trans OK140.1 fr141_b
    replace hKd := Nat.le_trans hKd K141.1
    have hSk : ∀ x ∈ [b139], Safe Z consts_1 ss.vm h140 x := (allS (own_safeNull hZ.alike A139 F139_value) all0)
    replace hC := hC.trans (CHr.keep K141 hSk hC.1)
    replace A136 := A136.keep K141
    replace P137_0 := P137_0.keep K141
    replace P137_1 := P137_1.keep K141 (ninS ne_ar_137_b139 nin0)
    replace P138_0 := P138_0.keep K141 (ninS ne_b136_b139 nin0)
    replace P138_1 := P138_1.keep K141 (ninS ne_b136_b139 nin0)
    replace P138_2 := P138_2.keep K141 (ninS ne_b_138_b139 nin0)
    replace A139 := A139.keep K141
    replace P140_0 := P140_0.keep K141
    replace P140_1 := P140_1.keep K141 (ninS (Ne.symm ne_b139_ar_140) nin0)
    have OK141 := ext_keep OK140 K141 (allS g_b139 all0)
    refine Go.V X141 hx (hb hby at_61) rfl (l' := #[.val (.int pn), .val (.int pa), .val (.int pb), .val (.int pd), .val (.int 1), .val (.int y_127), .val (.int y_130), .val (.int y_133), .val (.ref b136), .val (.ref b139), .unset, .unset, .unset]) rfl (q := 63) rfl ?_
    refine Go.w X141 hx (hb hby at_63) rfl rfl (q := 65) rfl ?_
    refine Go.jk X141 hx hZ hown hS hKd (own_EW hw) hC (wd44 hw) (wd45 hw) (wd46 hw) (wd47 hw) (by decide) (cwk1 l Z a0 hw b136 b_138 (kb_138) cs fm y_127 h141 OK141 A136 P138_1 P138_0 P138_2 SCS SFM hcs hfm P127_0) e141 (by rw [hml]; rfl) (hb hby at_65) (argsL := [(.ref b136)]) (rest := []) (lenOf pd42 rfl) rfl rfl (W := 0) (Nat.le_refl _) (by decide) ?_
    intro v142 T142 L142 k142 X142 hS hKd hZ hown hR142 hQ142
    obtain ⟨h142, e142⟩ : ∃ z, T142.heap = z := ⟨_, rfl⟩
    rw [e142] at hQ142 hKd hR142
    obtain ⟨t_142, rfl, N142q, K142, fr142_t, P142_0, P142_1, P142_2, P142_3⟩ := hQ142
    have N142 := Fr.app N141 N142q
    replace hC := hC.trans hR142
    have ne_b136_t_142 : b136 ≠ t_142 := ne_new A136.lt fr142_t
    have ne_ar_137_t_142 : ar_137 ≠ t_142 := ne_new P137_0.lt fr142_t
    have ne_b_138_t_142 : b_138 ≠ t_142 := ne_new P138_2.lt fr142_t
    have ne_b139_t_142 : b139 ≠ t_142 := ne_new A139.lt fr142_t
    have ne_ar_140_t_142 : ar_140 ≠ t_142 := ne_new P140_0.lt fr142_t
    have ne_b_141_t_142 : b_141 ≠ t_142 := ne_new P141_2.lt fr142_t
    have g_t_142 : Z.heap.size ≤ t_142 := Nat.le_trans OK141.1 fr142_t
    replace A136 := A136.keep K142
    replace P137_0 := P137_0.keep K142
    replace P137_1 := P137_1.keep K142 nin0
    replace P138_0 := P138_0.keep K142 nin0
    replace P138_1 := P138_1.keep K142 nin0
    replace P138_2 := P138_2.keep K142 nin0
    replace A139 := A139.keep K142
    replace P140_0 := P140_0.keep K142
    replace P140_1 := P140_1.keep K142 nin0
    replace P141_0 := P141_0.keep K142 nin0
    replace P141_1 := P141_1.keep K142 nin0
    replace P141_2 := P141_2.keep K142 nin0
    have OK142 := ext_keep OK141 K142 all0
    refine Go.V X142 hx (hb hby at_68) rfl (l' := #[.val (.int pn), .val (.int pa), .val (.int pb), .val (.int pd), .val (.int 1), .val (.int y_127), .val (.int y_130), .val (.int y_133), .val (.ref b136), .val (.ref b139), .val (.ref t_142), .unset, .unset]) rfl (q := 70) rfl ?_
    refine Go.w X142 hx (hb hby at_70) rfl rfl (q := 72) rfl ?_
    refine Go.jx X142 hx (hb hby at_72) (q := 77) (by decide) (by decide) ?_
    refine Go.w X142 hx (hb hby at_77) rfl rfl (q := 79) rfl ?_
    refine Go.u X142 hx hZ hown (wd76 hw) (wd77 hw) (notFace_of_selects (args := #[]) (mvT hZ (wd79 hw))) (wd79 hw) (wd78 hw) (wd46 hw) (wd80 hw) (by decide) (cisw l Z a0 hw t_142 h142 OK142 P142_1) e142 P142_0 (by rw [hml]; rfl) (hb hby at_79) (argsL := []) (rest := []) (lenOf pd7 rfl) rfl rfl (W := 0) (Nat.le_refl _) (by decide) ?_
    intro v143 T143 L143 X143 hQ143
    obtain ⟨rfl, N143q, e143⟩ := hQ143
    have N143 := Fr.app N142 N143q
    refine Go.F X143 hx (hb hby at_82) (by decide) (q := 87) (by decide) (by decide) ?_
    refine Go.w X143 hx (hb hby at_87) rfl rfl (q := 89) rfl ?_
    refine Go.u X143 hx hZ hown (wd81 hw) (wd82 hw) (notFace_of_selects (args := #[]) (mvT hZ (wd84 hw))) (wd84 hw) (wd83 hw) (wd46 hw) (wd85 hw) (by decide) (cval l Z a0 hw t_142 b136 h142 OK142 P142_2) e143 P142_0 (by rw [hml]; rfl) (hb hby at_89) (argsL := []) (rest := []) (lenOf pd29 rfl) rfl rfl (W := 0) (Nat.le_refl _) (by decide) ?_
    intro v144 T144 L144 X144 hQ144
    obtain ⟨rfl, N144q, e144⟩ := hQ144
    have N144 := Fr.app N143 N144q
    refine Go.w X144 hx (hb hby at_92) rfl rfl (q := 94) rfl ?_
    refine Go.u X144 hx hZ hown (wd86 hw) (wd87 hw) (notFace_of_selects (args := #[]) (mvT hZ (wd89 hw))) (wd89 hw) (wd88 hw) (wd7 hw) (wd90 hw) (by decide) (ceqs l Z a0 hw b136 h142 OK142) e144 A136 (by rw [hml]; rfl) (hb hby at_94) (argsL := [(.ref b136)]) (rest := []) (lenOf pd31 rfl) rfl rfl (W := 0) (Nat.le_refl _) (by decide) ?_
    intro v145 T145 L145 X145 hQ145
    obtain ⟨rfl, N145q, e145⟩ := hQ145
    have N145 := Fr.app N144 N145q
    refine Go.F X145 hx (hb hby at_97) (by decide) (q := 102) (by decide) (by decide) ?_
    refine Go.w X145 hx (hb hby at_102) rfl rfl (q := 104) rfl ?_
    refine Go.ju X145 hx hZ hown hS hKd (own_EW hw) hC (wd91 hw) (wd92 hw) (notFace_of_selects (args := #[]) (mvT hZ (wd94 hw))) (wd94 hw) (wd93 hw) (wd46 hw) (wd95 hw) (by decide) (ctos l Z a0 hw t_142 b136 b_138 (kb_138) cs ((1 : Int32)) ([(.int (y_127.toInt8.toInt32))]) ([(.int 34), (.int (y_127.toInt8.toInt32)), (.int 0), (.int 0), (.int 0)]) ([(.int 34), (.int (y_127.toInt8.toInt32)), (.int 34), (.int 0), (.int 0)]) ([(.int 34), (.int (y_127.toInt8.toInt32)), (.int 34)]) h142 OK142 P142_0 g_t_142 P142_1 P142_2 P142_3 A136 P138_1 P138_0 P138_2 SCS hcs ⟨⟨by decide, by decide, by decide⟩, by decide, by decide, rfl, Nat.le_of_ble_eq_true rfl, rfl⟩ (by decide) ⟨⟨by decide, by decide⟩, Nat.le_of_ble_eq_true rfl, rfl⟩ (by decide) ⟨⟨by decide, by decide⟩, by decide, rfl⟩) e145 P142_0 (by rw [hml]; rfl) (hb hby at_104) (argsL := []) (rest := []) (lenOf pd29 rfl) rfl rfl (W := 0) (Nat.le_refl _) (by decide) ?_
    intro v146 T146 L146 k146 X146 hS hKd hZ hown hR146 hQ146
    obtain ⟨h146, e146⟩ : ∃ z, T146.heap = z := ⟨_, rfl⟩
    rw [e146] at hQ146 hKd hR146
    obtain ⟨w_146, u_146, ku_146, rfl, N146q, K146, fr146_w, fr146_u, P146_0, P146_1, P146_2, P146_3, P146_4, P146_5, P146_6⟩ := hQ146
    have N146 := Fr.app N145 N146q
    replace hC := hC.trans hR146
    have ne_b136_w_146 : b136 ≠ w_146 := ne_new A136.lt fr146_w
    have ne_ar_137_w_146 : ar_137 ≠ w_146 := ne_new P137_0.lt fr146_w
    have ne_b_138_w_146 : b_138 ≠ w_146 := ne_new P138_2.lt fr146_w
    have ne_b139_w_146 : b139 ≠ w_146 := ne_new A139.lt fr146_w
    have ne_ar_140_w_146 : ar_140 ≠ w_146 := ne_new P140_0.lt fr146_w
    have ne_b_141_w_146 : b_141 ≠ w_146 := ne_new P141_2.lt fr146_w
    have ne_t_142_w_146 : t_142 ≠ w_146 := ne_new P142_0.lt fr146_w
    have g_w_146 : Z.heap.size ≤ w_146 := Nat.le_trans OK142.1 fr146_w
    have ne_b136_u_146 : b136 ≠ u_146 := ne_new A136.lt fr146_u
    have ne_ar_137_u_146 : ar_137 ≠ u_146 := ne_new P137_0.lt fr146_u
    have ne_b_138_u_146 : b_138 ≠ u_146 := ne_new P138_2.lt fr146_u
    have ne_b139_u_146 : b139 ≠ u_146 := ne_new A139.lt fr146_u
    have ne_ar_140_u_146 : ar_140 ≠ u_146 := ne_new P140_0.lt fr146_u
    have ne_b_141_u_146 : b_141 ≠ u_146 := ne_new P141_2.lt fr146_u
    have ne_t_142_u_146 : t_142 ≠ u_146 := ne_new P142_0.lt fr146_u
    have g_u_146 : Z.heap.size ≤ u_146 := Nat.le_trans OK142.1 fr146_u
    replace A136 := A136.keep K146
    replace P137_0 := P137_0.keep K146
    replace P137_1 := P137_1.keep K146 (ninS ne_ar_137_t_142 nin0)
    replace P138_0 := P138_0.keep K146 (ninS ne_b136_t_142 nin0)
    replace P138_1 := P138_1.keep K146 (ninS ne_b136_t_142 nin0)
    replace P138_2 := P138_2.keep K146 (ninS ne_b_138_t_142 nin0)
    replace A139 := A139.keep K146
    replace P140_0 := P140_0.keep K146
    replace P140_1 := P140_1.keep K146 (ninS ne_ar_140_t_142 nin0)
    replace P141_0 := P141_0.keep K146 (ninS ne_b139_t_142 nin0)
    replace P141_1 := P141_1.keep K146 (ninS ne_b139_t_142 nin0)
    replace P141_2 := P141_2.keep K146 (ninS ne_b_141_t_142 nin0)
    replace P142_0 := P142_0.keep K146
    have OK146 := ext_keep OK142 K146 (allS g_t_142 all0)
    refine Go.V X146 hx (hb hby at_107) rfl (l' := #[.val (.int pn), .val (.int pa), .val (.int pb), .val (.int pd), .val (.int 1), .val (.int y_127), .val (.int y_130), .val (.int y_133), .val (.ref b136), .val (.ref b139), .val (.ref t_142), .val (.ref w_146), .unset]) rfl (q := 109) rfl ?_
    refine Go.w X146 hx (hb hby at_109) rfl rfl (q := 111) rfl ?_
    refine Go.w X146 hx (hb hby at_111) rfl rfl (q := 113) rfl ?_
    refine Go.u X146 hx hZ hown (wd86 hw) (wd87 hw) (notFace_of_selects (args := #[]) (mvT hZ (wd89 hw))) (wd89 hw) (wd88 hw) (wd7 hw) (wd90 hw) (by decide) (cse3 l Z a0 hw w_146 b139 cs u_146 b_141 (ku_146) (kb_141) ((34 : Int32)) ((y_127.toInt8.toInt32)) ((34 : Int32)) h146 OK146 P146_3 A139 P146_4 P141_1 P146_5 P141_0 P146_6 P141_2 (Ne.symm ne_b139_w_146) SCS hcs) e146 P146_3 (by rw [hml]; rfl) (hb hby at_113) (argsL := [(.ref b139)]) (rest := []) (lenOf pd31 rfl) rfl rfl (W := 0) (Nat.le_refl _) (by decide) ?_
    intro v147 T147 L147 X147 hQ147
    obtain ⟨rfl, N147q, e147⟩ := hQ147
    have N147 := Fr.app N146 N147q
    refine Go.F X147 hx (hb hby at_116) (by decide) (q := 121) (by decide) (by decide) ?_
    refine Go.w X147 hx (hb hby at_121) rfl rfl (q := 123) rfl ?_
    refine Go.u X147 hx hZ hown (wd91 hw) (wd92 hw) (notFace_of_selects (args := #[]) (mvT hZ (wd94 hw))) (wd94 hw) (wd93 hw) (wd46 hw) (wd95 hw) (by decide) (ctox l Z a0 hw t_142 w_146 h146 OK146 P146_2) e147 P142_0 (by rw [hml]; rfl) (hb hby at_123) (argsL := []) (rest := []) (lenOf pd29 rfl) rfl rfl (W := 0) (Nat.le_refl _) (by decide) ?_
    intro v148 T148 L148 X148 hQ148
    obtain ⟨rfl, N148q, e148⟩ := hQ148
    have N148 := Fr.app N147 N148q
    refine Go.w X148 hx (hb hby at_126) rfl rfl (q := 128) rfl ?_
    refine Go.u X148 hx hZ hown (wd86 hw) (wd87 hw) (notFace_of_selects (args := #[]) (mvT hZ (wd89 hw))) (wd89 hw) (wd88 hw) (wd7 hw) (wd90 hw) (by decide) (cse3 l Z a0 hw w_146 b139 cs u_146 b_141 (ku_146) (kb_141) ((34 : Int32)) ((y_127.toInt8.toInt32)) ((34 : Int32)) h146 OK146 P146_3 A139 P146_4 P141_1 P146_5 P141_0 P146_6 P141_2 (Ne.symm ne_b139_w_146) SCS hcs) e148 P146_3 (by rw [hml]; rfl) (hb hby at_128) (argsL := [(.ref b139)]) (rest := []) (lenOf pd31 rfl) rfl rfl (W := 0) (Nat.le_refl _) (by decide) ?_
    intro v149 T149 L149 X149 hQ149
    obtain ⟨rfl, N149q, e149⟩ := hQ149
    have N149 := Fr.app N148 N149q
    refine Go.F X149 hx (hb hby at_131) (by decide) (q := 136) (by decide) (by decide) ?_
    refine Go.w X149 hx (hb hby at_136) rfl rfl (q := 138) rfl ?_
    refine Go.w X149 hx (hb hby at_138) rfl rfl (q := 140) rfl ?_
    refine Go.ju X149 hx hZ hown hS hKd (own_EW hw) hC (wd218 hw) (wd219 hw) (notFace_of_selects (args := #[]) (mvT hZ (wd221 hw))) (wd221 hw) (wd220 hw) (wd46 hw) (wd222 hw) (by decide) (csm l Z a0 hw t_142 b136 h146 OK146 P142_0 P146_0 P146_1 A136) e149 P142_0 (by rw [hml]; rfl) (hb hby at_140) (argsL := [(.ref t_142)]) (rest := []) (lenOf pd43 rfl) rfl rfl (W := 0) (Nat.le_refl _) (by decide) ?_
    intro v150 T150 L150 k150 X150 hS hKd hZ hown hR150 hQ150
    obtain ⟨h150, e150⟩ : ∃ z, T150.heap = z := ⟨_, rfl⟩
    rw [e150] at hQ150 hKd hR150
    obtain ⟨rfl, N150q, K150⟩ := hQ150
    have N150 := Fr.app N149 N150q
    replace hC := hC.trans hR150
    replace A136 := A136.keep K150
    replace P137_0 := P137_0.keep K150
    replace P137_1 := P137_1.keep K150 nin0
    replace P138_0 := P138_0.keep K150 nin0
    replace P138_1 := P138_1.keep K150 nin0
    replace P138_2 := P138_2.keep K150 nin0
    replace A139 := A139.keep K150
    replace P140_0 := P140_0.keep K150
    replace P140_1 := P140_1.keep K150 nin0
    replace P141_0 := P141_0.keep K150 nin0
    replace P141_1 := P141_1.keep K150 nin0
    replace P141_2 := P141_2.keep K150 nin0
    replace P142_0 := P142_0.keep K150
    replace P146_0 := P146_0.keep K150 nin0
    replace P146_1 := P146_1.keep K150 nin0
    replace P146_2 := P146_2.keep K150 nin0
    replace P146_3 := P146_3.keep K150
    replace P146_4 := P146_4.keep K150 nin0
    replace P146_5 := P146_5.keep K150 nin0
    replace P146_6 := P146_6.keep K150 nin0
    have OK150 := ext_keep OK146 K150 all0
    refine Go.F X150 hx (hb hby at_143) (by decide) (q := 148) (by decide) (by decide) ?_
    refine Go.w X150 hx (hb hby at_148) rfl rfl (q := 150) rfl ?_
    refine Go.jk X150 hx hZ hown hS hKd (own_EW hw) hC (wd225 hw) (wd226 hw) (wd46 hw) (wd227 hw) (by decide) (cprs1 l Z a0 hw b139 b_141 (kb_141) cs fm y_127 h150 OK150 A139 P141_1 P141_0 P141_2 SCS SFM hcs hfm P127_0) e150 (by rw [hml]; rfl) (hb hby at_150) (argsL := [(.ref b139)]) (rest := []) (lenOf pd42 rfl) rfl rfl (W := 0) (Nat.le_refl _) (by decide) ?_
    intro v151 T151 L151 k151 X151 hS hKd hZ hown hR151 hQ151
    obtain ⟨h151, e151⟩ : ∃ z, T151.heap = z := ⟨_, rfl⟩
    rw [e151] at hQ151 hKd hR151
    obtain ⟨t_151, w_151, u_151, ku_151, rfl, N151q, K151, fr151_t, fr151_w, P151_0, P151_1, P151_2, P151_3, P151_4, P151_5, P151_6, P151_7⟩ := hQ151
    have N151 := Fr.app N150 N151q
    replace hC := hC.trans hR151
    have ne_b136_t_151 : b136 ≠ t_151 := ne_new A136.lt fr151_t
    have ne_ar_137_t_151 : ar_137 ≠ t_151 := ne_new P137_0.lt fr151_t
    have ne_b_138_t_151 : b_138 ≠ t_151 := ne_new P138_2.lt fr151_t
    have ne_b139_t_151 : b139 ≠ t_151 := ne_new A139.lt fr151_t
    have ne_ar_140_t_151 : ar_140 ≠ t_151 := ne_new P140_0.lt fr151_t
    have ne_b_141_t_151 : b_141 ≠ t_151 := ne_new P141_2.lt fr151_t
    have ne_t_142_t_151 : t_142 ≠ t_151 := ne_new P142_0.lt fr151_t
    have ne_w_146_t_151 : w_146 ≠ t_151 := ne_new P146_3.lt fr151_t
    have ne_u_146_t_151 : u_146 ≠ t_151 := ne_new P146_6.lt fr151_t
    have g_t_151 : Z.heap.size ≤ t_151 := Nat.le_trans OK150.1 fr151_t
    have ne_b136_w_151 : b136 ≠ w_151 := ne_new A136.lt fr151_w
    have ne_ar_137_w_151 : ar_137 ≠ w_151 := ne_new P137_0.lt fr151_w
    have ne_b_138_w_151 : b_138 ≠ w_151 := ne_new P138_2.lt fr151_w
    have ne_b139_w_151 : b139 ≠ w_151 := ne_new A139.lt fr151_w
    have ne_ar_140_w_151 : ar_140 ≠ w_151 := ne_new P140_0.lt fr151_w
    have ne_b_141_w_151 : b_141 ≠ w_151 := ne_new P141_2.lt fr151_w
    have ne_t_142_w_151 : t_142 ≠ w_151 := ne_new P142_0.lt fr151_w
    have ne_w_146_w_151 : w_146 ≠ w_151 := ne_new P146_3.lt fr151_w
    have ne_u_146_w_151 : u_146 ≠ w_151 := ne_new P146_6.lt fr151_w
    have g_w_151 : Z.heap.size ≤ w_151 := Nat.le_trans OK150.1 fr151_w
    replace A136 := A136.keep K151
    replace P137_0 := P137_0.keep K151
    replace P137_1 := P137_1.keep K151 nin0
    replace P138_0 := P138_0.keep K151 nin0
    replace P138_1 := P138_1.keep K151 nin0
    replace P138_2 := P138_2.keep K151 nin0
    replace A139 := A139.keep K151
    replace P140_0 := P140_0.keep K151
    replace P140_1 := P140_1.keep K151 nin0
    replace P141_0 := P141_0.keep K151 nin0
    replace P141_1 := P141_1.keep K151 nin0
    replace P141_2 := P141_2.keep K151 nin0
    replace P142_0 := P142_0.keep K151
    replace P146_0 := P146_0.keep K151 nin0
    replace P146_1 := P146_1.keep K151 nin0
    replace P146_2 := P146_2.keep K151 nin0
    replace P146_3 := P146_3.keep K151
    replace P146_4 := P146_4.keep K151 nin0
    replace P146_5 := P146_5.keep K151 nin0
    replace P146_6 := P146_6.keep K151 nin0
    have OK151 := ext_keep OK150 K151 all0
    refine Go.V X151 hx (hb hby at_153) rfl (l' := #[.val (.int pn), .val (.int pa), .val (.int pb), .val (.int pd), .val (.int 1), .val (.int y_127), .val (.int y_130), .val (.int y_133), .val (.ref b136), .val (.ref b139), .val (.ref t_142), .val (.ref w_146), .val (.ref t_151)]) rfl (q := 155) rfl ?_
    refine Go.w X151 hx (hb hby at_155) rfl rfl (q := 157) rfl ?_
    refine Go.w X151 hx (hb hby at_157) rfl rfl (q := 159) rfl ?_
    refine Go.u X151 hx hZ hown (wd281 hw) (wd282 hw) (notFace_of_selects (args := #[]) (mvT hZ (wd284 hw))) (wd284 hw) (wd283 hw) (wd46 hw) (wd285 hw) (by decide) (cete1 l Z a0 hw t_142 t_151 b136 w_151 b_138 u_151 (kb_138) (ku_151) cs y_127 h151 OK151 P151_0 ne_t_142_t_151 P146_0 P151_1 P146_1 P151_2 A136 P151_4 P138_1 P151_5 P138_0 P151_6 P138_2 P151_7 ne_b136_w_151 SCS hcs) e151 P142_0 (by rw [hml]; rfl) (hb hby at_159) (argsL := [(.ref t_151)]) (rest := []) (lenOf pd31 rfl) rfl rfl (W := 0) (Nat.le_refl _) (by decide) ?_
    intro v152 T152 L152 X152 hQ152
    obtain ⟨rfl, N152q, e152⟩ := hQ152
    have N152 := Fr.app N151 N152q
    exact Go.jz X152 hx hS hKd hs0 hZ (own_EW hw) hC hret hlk (by simp) rfl (hb hby at_162) e152 (by decide) (by decide) ⟨rfl, N152⟩
  · show Go pp ee below _ (s₁.setTop (mkF mm 3 #[.val (.int pn), .val (.int pa), .val (.int pb), .val (.int pd), .unset, .unset, .unset, .unset, .unset, .unset, .unset, .unset, .unset] [(.int 2)]))
    refine Go.G X0 hx (hb hby at_3) (l' := #[.val (.int pn), .val (.int pa), .val (.int pb), .val (.int pd), .val (.int 2), .unset, .unset, .unset, .unset, .unset, .unset, .unset, .unset]) rfl (q := 5) rfl ?_
    refine Go.f X0 hx (hb hby at_5) rfl (q := 6) rfl ?_
    refine Go.A X0 hx hZ hown (wd0 hw) (wd1 hw) (wd2 hw) (wd3 hw) (by decide) (cetg l Z a0 hw pa h0 O0) e0 (by rw [hml]; rfl) (hb hby at_6) (argsL := [(.int pa)]) (rest := []) (lenOf pd11 rfl) rfl rfl (W := 0) (Nat.le_refl _) (by decide) ?_
    intro v153 T153 L153 X153 hQ153
    obtain ⟨y_153, rfl, N153q, e153, P153_0⟩ := hQ153
    have N153 := Fr.app N0 N153q
    have hk154 : nar .char y_153 = y_153 := own_ecn P153_0
    have hk155 : ¬ ((255 : Int32) < y_153) := own_ec255 P153_0
    refine Go.G X153 hx (hb hby at_9) (l' := #[.val (.int pn), .val (.int pa), .val (.int pb), .val (.int pd), .val (.int 2), .val (.int y_153), .unset, .unset, .unset, .unset, .unset, .unset, .unset]) rfl (q := 11) rfl ?_
    refine Go.f X153 hx (hb hby at_11) rfl (q := 12) rfl ?_
    refine Go.A X153 hx hZ hown (wd0 hw) (wd1 hw) (wd2 hw) (wd3 hw) (by decide) (cetg l Z a0 hw pb h0 O0) e153 (by rw [hml]; rfl) (hb hby at_12) (argsL := [(.int pb)]) (rest := []) (lenOf pd11 rfl) rfl rfl (W := 0) (Nat.le_refl _) (by decide) ?_
    intro v156 T156 L156 X156 hQ156
    obtain ⟨y_156, rfl, N156q, e156, P156_0⟩ := hQ156
    have N156 := Fr.app N153 N156q
    have hk157 : nar .char y_156 = y_156 := own_ecn P156_0
    have hk158 : ¬ ((255 : Int32) < y_156) := own_ec255 P156_0
    refine Go.G X156 hx (hb hby at_15) (l' := #[.val (.int pn), .val (.int pa), .val (.int pb), .val (.int pd), .val (.int 2), .val (.int y_153), .val (.int y_156), .unset, .unset, .unset, .unset, .unset, .unset]) rfl (q := 17) rfl ?_
    refine Go.f X156 hx (hb hby at_17) rfl (q := 18) rfl ?_
    refine Go.A X156 hx hZ hown (wd0 hw) (wd1 hw) (wd2 hw) (wd3 hw) (by decide) (cetg l Z a0 hw pd h0 O0) e156 (by rw [hml]; rfl) (hb hby at_18) (argsL := [(.int pd)]) (rest := []) (lenOf pd11 rfl) rfl rfl (W := 0) (Nat.le_refl _) (by decide) ?_
    intro v159 T159 L159 X159 hQ159
    obtain ⟨y_159, rfl, N159q, e159, P159_0⟩ := hQ159
    have N159 := Fr.app N156 N159q
    have hk160 : nar .char y_159 = y_159 := own_ecn P159_0
    have hk161 : ¬ ((255 : Int32) < y_159) := own_ec255 P159_0
    refine Go.G X159 hx (hb hby at_21) (l' := #[.val (.int pn), .val (.int pa), .val (.int pb), .val (.int pd), .val (.int 2), .val (.int y_153), .val (.int y_156), .val (.int y_159), .unset, .unset, .unset, .unset, .unset]) rfl (q := 23) rfl ?_
    refine Go.jd X159 hx hZ hown (wd5 hw) (wd6 hw) (wd7 hw) e159 (hb hby at_23) (by decide) (by decide) (q := 26) rfl ?_
    intro b162 T162 h162 X162 e162 q162 E162 A162 D162 U162
    have g_b162 : Z.heap.size ≤ b162 := Nat.le_trans O0.1 (Nat.le_of_eq q162)
    replace hC := hC.trans (CHr.ext E162 hC.1)
    have OE162 := ext_trans O0 E162
    replace hKd := Nat.le_trans hKd E162.1
    have F162_value : Fld Z h162 b162 xS0 "value" "[B" .null := D162 (Or.inr (wd24 hw)) (ty := (.array .byte)) (by decide)
    have F162_coder : Fld Z h162 b162 xS0 "coder" "B" (.int 0) := D162 (Or.inr (wd25 hw)) (ty := .byte) (by decide)
    clear D162
    refine Go.N X162 hx (hb hby at_26) rfl (q := 27) rfl ?_
    refine Go.o X162 hx (hb hby at_27) rfl (q := 29) rfl ?_
    refine Go.o X162 hx (hb hby at_29) rfl (q := 31) rfl ?_
    refine Go.o X162 hx (hb hby at_31) rfl (q := 33) rfl ?_
    refine Go.o X162 hx (hb hby at_33) rfl (q := 35) rfl ?_
    refine Go.A X162 hx hZ hown (wd8 hw) (wd9 hw) (wd2 hw) (wd10 hw) (by decide) (cch2 l Z a0 hw y_153 y_156 y_159 h162 OE162 hk154 hk157) e162 (by rw [hml]; rfl) (hb hby at_35) (argsL := [(.int 2), (.int y_153), (.int y_156), (.int y_159)]) (rest := [(.ref b162), (.ref b162)]) (lenOf pd40 rfl) rfl rfl (W := 2) (Nat.le_refl _) (by decide) ?_
    intro v163 T163 L163 X163 hQ163
    obtain ⟨h163, e163⟩ : ∃ z, T163.heap = z := ⟨_, rfl⟩
    rw [e163] at hQ163
    obtain ⟨ar_163, ka_163, rfl, N163q, K163, fr163_ar, P163_0, P163_1⟩ := hQ163
    have N163 := Fr.app N159 N163q
    have ne_b162_ar_163 : b162 ≠ ar_163 := ne_new A162.lt fr163_ar
    have g_ar_163 : Z.heap.size ≤ ar_163 := Nat.le_trans OE162.1 fr163_ar
    replace hKd := Nat.le_trans hKd K163.1
    have hSk : ∀ x ∈ ([] : List Addr), Safe Z consts_1 ss.vm h162 x := all0
    replace hC := hC.trans (CHr.keep K163 hSk hC.1)
    replace A162 := A162.keep K163
    replace F162_value := F162_value.keep K163 nin0
    replace F162_coder := F162_coder.keep K163 nin0
    have OK163 := ext_keep OE162 K163 all0
    refine Go.Y X163 hx hZ hown rfl (wd12 hw) (wd13 hw) (wd7 hw) (wd14 hw) (by decide) (csj2 l Z a0 hw b162 ar_163 (ka_163) y_153 y_156 cs h163 OK163 A162 F162_value F162_coder g_b162 P163_1 SCS hcs hk155 hk158) e163 (by rw [hml]; rfl) (hb hby at_38) (argsL := [(.ref ar_163)]) (rest := [(.ref b162)]) (lenOf pd41 rfl) rfl rfl (W := 1) (Nat.le_refl _) (by decide) ?_
    intro v164 T164 L164 X164 hQ164
    obtain ⟨h164, e164⟩ : ∃ z, T164.heap = z := ⟨_, rfl⟩
    rw [e164] at hQ164
    obtain ⟨b_164, kb_164, rfl, N164q, K164, fr164_b, P164_0, P164_1, P164_2⟩ := hQ164
    have N164 := Fr.app N163 N164q
    have ne_b162_b_164 : b162 ≠ b_164 := ne_new A162.lt fr164_b
    have ne_ar_163_b_164 : ar_163 ≠ b_164 := ne_new P163_0.lt fr164_b
    have g_b_164 : Z.heap.size ≤ b_164 := Nat.le_trans OK163.1 fr164_b
    replace hKd := Nat.le_trans hKd K164.1
    have hSk : ∀ x ∈ [b162], Safe Z consts_1 ss.vm h163 x := (allS (own_safeNull hZ.alike A162 F162_value) all0)
    replace hC := hC.trans (CHr.keep K164 hSk hC.1)
    replace A162 := A162.keep K164
    replace P163_0 := P163_0.keep K164
    replace P163_1 := P163_1.keep K164 (ninS (Ne.symm ne_b162_ar_163) nin0)
    have OK164 := ext_keep OK163 K164 (allS g_b162 all0)
    refine Go.V X164 hx (hb hby at_41) rfl (l' := #[.val (.int pn), .val (.int pa), .val (.int pb), .val (.int pd), .val (.int 2), .val (.int y_153), .val (.int y_156), .val (.int y_159), .val (.ref b162), .unset, .unset, .unset, .unset]) rfl (q := 43) rfl ?_
    refine Go.jd X164 hx hZ hown (wd5 hw) (wd6 hw) (wd7 hw) e164 (hb hby at_43) (by decide) (by decide) (q := 46) rfl ?_
    intro b165 T165 h165 X165 e165 q165 E165 A165 D165 U165
    have ne_b162_b165 : b162 ≠ b165 := ne_new A162.lt (Nat.le_of_eq q165)
    have ne_ar_163_b165 : ar_163 ≠ b165 := ne_new P163_0.lt (Nat.le_of_eq q165)
    have ne_b_164_b165 : b_164 ≠ b165 := ne_new P164_2.lt (Nat.le_of_eq q165)
    have g_b165 : Z.heap.size ≤ b165 := Nat.le_trans OK164.1 (Nat.le_of_eq q165)
    replace hC := hC.trans (CHr.ext E165 hC.1)
    replace A162 := A162.ext E165
    replace P163_0 := P163_0.ext E165
    replace P163_1 := P163_1.ext E165
    replace P164_0 := P164_0.ext E165
    replace P164_1 := P164_1.ext E165
    replace P164_2 := P164_2.ext E165
    have OE165 := ext_trans OK164 E165
    replace hKd := Nat.le_trans hKd E165.1
    have F165_value : Fld Z h165 b165 xS0 "value" "[B" .null := D165 (Or.inr (wd24 hw)) (ty := (.array .byte)) (by decide)
    have F165_coder : Fld Z h165 b165 xS0 "coder" "B" (.int 0) := D165 (Or.inr (wd25 hw)) (ty := .byte) (by decide)
    clear D165
    refine Go.N X165 hx (hb hby at_46) rfl (q := 47) rfl ?_
    refine Go.o X165 hx (hb hby at_47) rfl (q := 49) rfl ?_
    refine Go.o X165 hx (hb hby at_49) rfl (q := 51) rfl ?_
    refine Go.o X165 hx (hb hby at_51) rfl (q := 53) rfl ?_
    refine Go.o X165 hx (hb hby at_53) rfl (q := 55) rfl ?_
    refine Go.A X165 hx hZ hown (wd30 hw) (wd31 hw) (wd2 hw) (wd32 hw) (by decide) (cqu2 l Z a0 hw y_153 y_156 y_159 h165 OE165 hk154 hk157) e165 (by rw [hml]; rfl) (hb hby at_55) (argsL := [(.int 2), (.int y_153), (.int y_156), (.int y_159)]) (rest := [(.ref b165), (.ref b165)]) (lenOf pd40 rfl) rfl rfl (W := 2) (Nat.le_refl _) (by decide) ?_
    intro v166 T166 L166 X166 hQ166
    obtain ⟨h166, e166⟩ : ∃ z, T166.heap = z := ⟨_, rfl⟩
    rw [e166] at hQ166
    obtain ⟨ar_166, ka_166, rfl, N166q, K166, fr166_ar, P166_0, P166_1⟩ := hQ166
    have N166 := Fr.app N164 N166q
    have ne_b162_ar_166 : b162 ≠ ar_166 := ne_new A162.lt fr166_ar
    have ne_ar_163_ar_166 : ar_163 ≠ ar_166 := ne_new P163_0.lt fr166_ar
    have ne_b_164_ar_166 : b_164 ≠ ar_166 := ne_new P164_2.lt fr166_ar
    have ne_b165_ar_166 : b165 ≠ ar_166 := ne_new A165.lt fr166_ar
    have g_ar_166 : Z.heap.size ≤ ar_166 := Nat.le_trans OE165.1 fr166_ar
    replace hKd := Nat.le_trans hKd K166.1
    have hSk : ∀ x ∈ ([] : List Addr), Safe Z consts_1 ss.vm h165 x := all0
    replace hC := hC.trans (CHr.keep K166 hSk hC.1)
    replace A162 := A162.keep K166
    replace P163_0 := P163_0.keep K166
    replace P163_1 := P163_1.keep K166 nin0
    replace P164_0 := P164_0.keep K166 nin0
    replace P164_1 := P164_1.keep K166 nin0
    replace P164_2 := P164_2.keep K166 nin0
    replace A165 := A165.keep K166
    replace F165_value := F165_value.keep K166 nin0
    replace F165_coder := F165_coder.keep K166 nin0
    have OK166 := ext_keep OE165 K166 all0
    refine Go.Y X166 hx hZ hown rfl (wd12 hw) (wd13 hw) (wd7 hw) (wd14 hw) (by decide) (csj4 l Z a0 hw b165 ar_166 (ka_166) ((34 : Int32)) y_153 y_156 ((34 : Int32)) cs h166 OK166 A165 F165_value F165_coder g_b165 P166_1 SCS hcs (by decide) hk155 hk158 (by decide)) e166 (by rw [hml]; rfl) (hb hby at_58) (argsL := [(.ref ar_166)]) (rest := [(.ref b165)]) (lenOf pd41 rfl) rfl rfl (W := 1) (Nat.le_refl _) (by decide) ?_
    intro v167 T167 L167 X167 hQ167
    obtain ⟨h167, e167⟩ : ∃ z, T167.heap = z := ⟨_, rfl⟩
    rw [e167] at hQ167
    obtain ⟨b_167, kb_167, rfl, N167q, K167, fr167_b, P167_0, P167_1, P167_2⟩ := hQ167
    have N167 := Fr.app N166 N167q
    have ne_b162_b_167 : b162 ≠ b_167 := ne_new A162.lt fr167_b
    have ne_ar_163_b_167 : ar_163 ≠ b_167 := ne_new P163_0.lt fr167_b
    have ne_b_164_b_167 : b_164 ≠ b_167 := ne_new P164_2.lt fr167_b
    have ne_b165_b_167 : b165 ≠ b_167 := ne_new A165.lt fr167_b
    have ne_ar_166_b_167 : ar_166 ≠ b_167 := ne_new P166_0.lt fr167_b
    have g_b_167 : Z.heap.size ≤ b_167 := Nat.le_trans OK166.1 fr167_b
    replace hKd := Nat.le_trans hKd K167.1
    have hSk : ∀ x ∈ [b165], Safe Z consts_1 ss.vm h166 x := (allS (own_safeNull hZ.alike A165 F165_value) all0)
    replace hC := hC.trans (CHr.keep K167 hSk hC.1)
    replace A162 := A162.keep K167
    replace P163_0 := P163_0.keep K167
    replace P163_1 := P163_1.keep K167 (ninS ne_ar_163_b165 nin0)
    replace P164_0 := P164_0.keep K167 (ninS ne_b162_b165 nin0)
    replace P164_1 := P164_1.keep K167 (ninS ne_b162_b165 nin0)
    replace P164_2 := P164_2.keep K167 (ninS ne_b_164_b165 nin0)
    replace A165 := A165.keep K167
    replace P166_0 := P166_0.keep K167
    replace P166_1 := P166_1.keep K167 (ninS (Ne.symm ne_b165_ar_166) nin0)
    have OK167 := ext_keep OK166 K167 (allS g_b165 all0)
    refine Go.V X167 hx (hb hby at_61) rfl (l' := #[.val (.int pn), .val (.int pa), .val (.int pb), .val (.int pd), .val (.int 2), .val (.int y_153), .val (.int y_156), .val (.int y_159), .val (.ref b162), .val (.ref b165), .unset, .unset, .unset]) rfl (q := 63) rfl ?_
    refine Go.w X167 hx (hb hby at_63) rfl rfl (q := 65) rfl ?_
    refine Go.jk X167 hx hZ hown hS hKd (own_EW hw) hC (wd44 hw) (wd45 hw) (wd46 hw) (wd47 hw) (by decide) (cwk2 l Z a0 hw b162 b_164 (kb_164) cs fm y_153 y_156 h167 OK167 A162 P164_1 P164_0 P164_2 SCS SFM hcs hfm P153_0 P156_0) e167 (by rw [hml]; rfl) (hb hby at_65) (argsL := [(.ref b162)]) (rest := []) (lenOf pd42 rfl) rfl rfl (W := 0) (Nat.le_refl _) (by decide) ?_
    intro v168 T168 L168 k168 X168 hS hKd hZ hown hR168 hQ168
    obtain ⟨h168, e168⟩ : ∃ z, T168.heap = z := ⟨_, rfl⟩
    rw [e168] at hQ168 hKd hR168
    obtain ⟨t_168, rfl, N168q, K168, fr168_t, P168_0, P168_1, P168_2, P168_3⟩ := hQ168
    have N168 := Fr.app N167 N168q
    replace hC := hC.trans hR168
    have ne_b162_t_168 : b162 ≠ t_168 := ne_new A162.lt fr168_t
    have ne_ar_163_t_168 : ar_163 ≠ t_168 := ne_new P163_0.lt fr168_t
    have ne_b_164_t_168 : b_164 ≠ t_168 := ne_new P164_2.lt fr168_t
    have ne_b165_t_168 : b165 ≠ t_168 := ne_new A165.lt fr168_t
    have ne_ar_166_t_168 : ar_166 ≠ t_168 := ne_new P166_0.lt fr168_t
    have ne_b_167_t_168 : b_167 ≠ t_168 := ne_new P167_2.lt fr168_t
    have g_t_168 : Z.heap.size ≤ t_168 := Nat.le_trans OK167.1 fr168_t
    replace A162 := A162.keep K168
    replace P163_0 := P163_0.keep K168
    replace P163_1 := P163_1.keep K168 nin0
    replace P164_0 := P164_0.keep K168 nin0
    replace P164_1 := P164_1.keep K168 nin0
    replace P164_2 := P164_2.keep K168 nin0
    replace A165 := A165.keep K168
    replace P166_0 := P166_0.keep K168
    replace P166_1 := P166_1.keep K168 nin0
    replace P167_0 := P167_0.keep K168 nin0
    replace P167_1 := P167_1.keep K168 nin0
    replace P167_2 := P167_2.keep K168 nin0
    have OK168 := ext_keep OK167 K168 all0
    refine Go.V X168 hx (hb hby at_68) rfl (l' := #[.val (.int pn), .val (.int pa), .val (.int pb), .val (.int pd), .val (.int 2), .val (.int y_153), .val (.int y_156), .val (.int y_159), .val (.ref b162), .val (.ref b165), .val (.ref t_168), .unset, .unset]) rfl (q := 70) rfl ?_
    refine Go.w X168 hx (hb hby at_70) rfl rfl (q := 72) rfl ?_
    refine Go.jx X168 hx (hb hby at_72) (q := 77) (by decide) (by decide) ?_
    refine Go.w X168 hx (hb hby at_77) rfl rfl (q := 79) rfl ?_
    refine Go.u X168 hx hZ hown (wd76 hw) (wd77 hw) (notFace_of_selects (args := #[]) (mvT hZ (wd79 hw))) (wd79 hw) (wd78 hw) (wd46 hw) (wd80 hw) (by decide) (cisw l Z a0 hw t_168 h168 OK168 P168_1) e168 P168_0 (by rw [hml]; rfl) (hb hby at_79) (argsL := []) (rest := []) (lenOf pd7 rfl) rfl rfl (W := 0) (Nat.le_refl _) (by decide) ?_
    intro v169 T169 L169 X169 hQ169
    obtain ⟨rfl, N169q, e169⟩ := hQ169
    have N169 := Fr.app N168 N169q
    refine Go.F X169 hx (hb hby at_82) (by decide) (q := 87) (by decide) (by decide) ?_
    refine Go.w X169 hx (hb hby at_87) rfl rfl (q := 89) rfl ?_
    refine Go.u X169 hx hZ hown (wd81 hw) (wd82 hw) (notFace_of_selects (args := #[]) (mvT hZ (wd84 hw))) (wd84 hw) (wd83 hw) (wd46 hw) (wd85 hw) (by decide) (cval l Z a0 hw t_168 b162 h168 OK168 P168_2) e169 P168_0 (by rw [hml]; rfl) (hb hby at_89) (argsL := []) (rest := []) (lenOf pd29 rfl) rfl rfl (W := 0) (Nat.le_refl _) (by decide) ?_
    intro v170 T170 L170 X170 hQ170
    obtain ⟨rfl, N170q, e170⟩ := hQ170
    have N170 := Fr.app N169 N170q
    refine Go.w X170 hx (hb hby at_92) rfl rfl (q := 94) rfl ?_
    refine Go.u X170 hx hZ hown (wd86 hw) (wd87 hw) (notFace_of_selects (args := #[]) (mvT hZ (wd89 hw))) (wd89 hw) (wd88 hw) (wd7 hw) (wd90 hw) (by decide) (ceqs l Z a0 hw b162 h168 OK168) e170 A162 (by rw [hml]; rfl) (hb hby at_94) (argsL := [(.ref b162)]) (rest := []) (lenOf pd31 rfl) rfl rfl (W := 0) (Nat.le_refl _) (by decide) ?_
    intro v171 T171 L171 X171 hQ171
    obtain ⟨rfl, N171q, e171⟩ := hQ171
    have N171 := Fr.app N170 N171q
    refine Go.F X171 hx (hb hby at_97) (by decide) (q := 102) (by decide) (by decide) ?_
    refine Go.w X171 hx (hb hby at_102) rfl rfl (q := 104) rfl ?_
    refine Go.ju X171 hx hZ hown hS hKd (own_EW hw) hC (wd91 hw) (wd92 hw) (notFace_of_selects (args := #[]) (mvT hZ (wd94 hw))) (wd94 hw) (wd93 hw) (wd46 hw) (wd95 hw) (by decide) (ctos l Z a0 hw t_168 b162 b_164 (kb_164) cs ((2 : Int32)) ([(.int (y_153.toInt8.toInt32)), (.int (y_156.toInt8.toInt32))]) ([(.int 34), (.int (y_153.toInt8.toInt32)), (.int (y_156.toInt8.toInt32)), (.int 0), (.int 0)]) ([(.int 34), (.int (y_153.toInt8.toInt32)), (.int (y_156.toInt8.toInt32)), (.int 34), (.int 0)]) ([(.int 34), (.int (y_153.toInt8.toInt32)), (.int (y_156.toInt8.toInt32)), (.int 34)]) h168 OK168 P168_0 g_t_168 P168_1 P168_2 P168_3 A162 P164_1 P164_0 P164_2 SCS hcs ⟨⟨by decide, by decide, by decide⟩, by decide, by decide, rfl, Nat.le_of_ble_eq_true rfl, rfl⟩ (by decide) ⟨⟨by decide, by decide⟩, Nat.le_of_ble_eq_true rfl, rfl⟩ (by decide) ⟨⟨by decide, by decide⟩, by decide, rfl⟩) e171 P168_0 (by rw [hml]; rfl) (hb hby at_104) (argsL := []) (rest := []) (lenOf pd29 rfl) rfl rfl (W := 0) (Nat.le_refl _) (by decide) ?_
    intro v172 T172 L172 k172 X172 hS hKd hZ hown hR172 hQ172
    obtain ⟨h172, e172⟩ : ∃ z, T172.heap = z := ⟨_, rfl⟩
    rw [e172] at hQ172 hKd hR172
    obtain ⟨w_172, u_172, ku_172, rfl, N172q, K172, fr172_w, fr172_u, P172_0, P172_1, P172_2, P172_3, P172_4, P172_5, P172_6⟩ := hQ172
    have N172 := Fr.app N171 N172q
    replace hC := hC.trans hR172
    have ne_b162_w_172 : b162 ≠ w_172 := ne_new A162.lt fr172_w
    have ne_ar_163_w_172 : ar_163 ≠ w_172 := ne_new P163_0.lt fr172_w
    have ne_b_164_w_172 : b_164 ≠ w_172 := ne_new P164_2.lt fr172_w
    have ne_b165_w_172 : b165 ≠ w_172 := ne_new A165.lt fr172_w
    have ne_ar_166_w_172 : ar_166 ≠ w_172 := ne_new P166_0.lt fr172_w
    have ne_b_167_w_172 : b_167 ≠ w_172 := ne_new P167_2.lt fr172_w
    have ne_t_168_w_172 : t_168 ≠ w_172 := ne_new P168_0.lt fr172_w
    have g_w_172 : Z.heap.size ≤ w_172 := Nat.le_trans OK168.1 fr172_w
    have ne_b162_u_172 : b162 ≠ u_172 := ne_new A162.lt fr172_u
    have ne_ar_163_u_172 : ar_163 ≠ u_172 := ne_new P163_0.lt fr172_u
    have ne_b_164_u_172 : b_164 ≠ u_172 := ne_new P164_2.lt fr172_u
    have ne_b165_u_172 : b165 ≠ u_172 := ne_new A165.lt fr172_u
    have ne_ar_166_u_172 : ar_166 ≠ u_172 := ne_new P166_0.lt fr172_u
    have ne_b_167_u_172 : b_167 ≠ u_172 := ne_new P167_2.lt fr172_u
    have ne_t_168_u_172 : t_168 ≠ u_172 := ne_new P168_0.lt fr172_u
    have g_u_172 : Z.heap.size ≤ u_172 := Nat.le_trans OK168.1 fr172_u
    replace A162 := A162.keep K172
    replace P163_0 := P163_0.keep K172
    replace P163_1 := P163_1.keep K172 (ninS ne_ar_163_t_168 nin0)
    replace P164_0 := P164_0.keep K172 (ninS ne_b162_t_168 nin0)
    replace P164_1 := P164_1.keep K172 (ninS ne_b162_t_168 nin0)
    replace P164_2 := P164_2.keep K172 (ninS ne_b_164_t_168 nin0)
    replace A165 := A165.keep K172
    replace P166_0 := P166_0.keep K172
    replace P166_1 := P166_1.keep K172 (ninS ne_ar_166_t_168 nin0)
    replace P167_0 := P167_0.keep K172 (ninS ne_b165_t_168 nin0)
    replace P167_1 := P167_1.keep K172 (ninS ne_b165_t_168 nin0)
    replace P167_2 := P167_2.keep K172 (ninS ne_b_167_t_168 nin0)
    replace P168_0 := P168_0.keep K172
    have OK172 := ext_keep OK168 K172 (allS g_t_168 all0)
    refine Go.V X172 hx (hb hby at_107) rfl (l' := #[.val (.int pn), .val (.int pa), .val (.int pb), .val (.int pd), .val (.int 2), .val (.int y_153), .val (.int y_156), .val (.int y_159), .val (.ref b162), .val (.ref b165), .val (.ref t_168), .val (.ref w_172), .unset]) rfl (q := 109) rfl ?_
    refine Go.w X172 hx (hb hby at_109) rfl rfl (q := 111) rfl ?_
    refine Go.w X172 hx (hb hby at_111) rfl rfl (q := 113) rfl ?_
    refine Go.u X172 hx hZ hown (wd86 hw) (wd87 hw) (notFace_of_selects (args := #[]) (mvT hZ (wd89 hw))) (wd89 hw) (wd88 hw) (wd7 hw) (wd90 hw) (by decide) (cse4 l Z a0 hw w_172 b165 cs u_172 b_167 (ku_172) (kb_167) ((34 : Int32)) ((y_153.toInt8.toInt32)) ((y_156.toInt8.toInt32)) ((34 : Int32)) h172 OK172 P172_3 A165 P172_4 P167_1 P172_5 P167_0 P172_6 P167_2 (Ne.symm ne_b165_w_172) SCS hcs) e172 P172_3 (by rw [hml]; rfl) (hb hby at_113) (argsL := [(.ref b165)]) (rest := []) (lenOf pd31 rfl) rfl rfl (W := 0) (Nat.le_refl _) (by decide) ?_
    intro v173 T173 L173 X173 hQ173
    obtain ⟨rfl, N173q, e173⟩ := hQ173
    have N173 := Fr.app N172 N173q
    refine Go.F X173 hx (hb hby at_116) (by decide) (q := 121) (by decide) (by decide) ?_
    refine Go.w X173 hx (hb hby at_121) rfl rfl (q := 123) rfl ?_
    refine Go.u X173 hx hZ hown (wd91 hw) (wd92 hw) (notFace_of_selects (args := #[]) (mvT hZ (wd94 hw))) (wd94 hw) (wd93 hw) (wd46 hw) (wd95 hw) (by decide) (ctox l Z a0 hw t_168 w_172 h172 OK172 P172_2) e173 P168_0 (by rw [hml]; rfl) (hb hby at_123) (argsL := []) (rest := []) (lenOf pd29 rfl) rfl rfl (W := 0) (Nat.le_refl _) (by decide) ?_
    intro v174 T174 L174 X174 hQ174
    obtain ⟨rfl, N174q, e174⟩ := hQ174
    have N174 := Fr.app N173 N174q
    refine Go.w X174 hx (hb hby at_126) rfl rfl (q := 128) rfl ?_
    refine Go.u X174 hx hZ hown (wd86 hw) (wd87 hw) (notFace_of_selects (args := #[]) (mvT hZ (wd89 hw))) (wd89 hw) (wd88 hw) (wd7 hw) (wd90 hw) (by decide) (cse4 l Z a0 hw w_172 b165 cs u_172 b_167 (ku_172) (kb_167) ((34 : Int32)) ((y_153.toInt8.toInt32)) ((y_156.toInt8.toInt32)) ((34 : Int32)) h172 OK172 P172_3 A165 P172_4 P167_1 P172_5 P167_0 P172_6 P167_2 (Ne.symm ne_b165_w_172) SCS hcs) e174 P172_3 (by rw [hml]; rfl) (hb hby at_128) (argsL := [(.ref b165)]) (rest := []) (lenOf pd31 rfl) rfl rfl (W := 0) (Nat.le_refl _) (by decide) ?_
    intro v175 T175 L175 X175 hQ175
    obtain ⟨rfl, N175q, e175⟩ := hQ175
    have N175 := Fr.app N174 N175q
    refine Go.F X175 hx (hb hby at_131) (by decide) (q := 136) (by decide) (by decide) ?_
    refine Go.w X175 hx (hb hby at_136) rfl rfl (q := 138) rfl ?_
    refine Go.w X175 hx (hb hby at_138) rfl rfl (q := 140) rfl ?_
    refine Go.ju X175 hx hZ hown hS hKd (own_EW hw) hC (wd218 hw) (wd219 hw) (notFace_of_selects (args := #[]) (mvT hZ (wd221 hw))) (wd221 hw) (wd220 hw) (wd46 hw) (wd222 hw) (by decide) (csm l Z a0 hw t_168 b162 h172 OK172 P168_0 P172_0 P172_1 A162) e175 P168_0 (by rw [hml]; rfl) (hb hby at_140) (argsL := [(.ref t_168)]) (rest := []) (lenOf pd43 rfl) rfl rfl (W := 0) (Nat.le_refl _) (by decide) ?_
    intro v176 T176 L176 k176 X176 hS hKd hZ hown hR176 hQ176
    obtain ⟨h176, e176⟩ : ∃ z, T176.heap = z := ⟨_, rfl⟩
    rw [e176] at hQ176 hKd hR176
    obtain ⟨rfl, N176q, K176⟩ := hQ176
    have N176 := Fr.app N175 N176q
    replace hC := hC.trans hR176
    replace A162 := A162.keep K176
    replace P163_0 := P163_0.keep K176
    replace P163_1 := P163_1.keep K176 nin0
    replace P164_0 := P164_0.keep K176 nin0
    replace P164_1 := P164_1.keep K176 nin0
    replace P164_2 := P164_2.keep K176 nin0
    replace A165 := A165.keep K176
    replace P166_0 := P166_0.keep K176
    replace P166_1 := P166_1.keep K176 nin0
    replace P167_0 := P167_0.keep K176 nin0
    replace P167_1 := P167_1.keep K176 nin0
    replace P167_2 := P167_2.keep K176 nin0
    replace P168_0 := P168_0.keep K176
    replace P172_0 := P172_0.keep K176 nin0
    replace P172_1 := P172_1.keep K176 nin0
    replace P172_2 := P172_2.keep K176 nin0
    replace P172_3 := P172_3.keep K176
    replace P172_4 := P172_4.keep K176 nin0
    replace P172_5 := P172_5.keep K176 nin0
    replace P172_6 := P172_6.keep K176 nin0
    have OK176 := ext_keep OK172 K176 all0
    refine Go.F X176 hx (hb hby at_143) (by decide) (q := 148) (by decide) (by decide) ?_
    refine Go.w X176 hx (hb hby at_148) rfl rfl (q := 150) rfl ?_
    refine Go.jk X176 hx hZ hown hS hKd (own_EW hw) hC (wd225 hw) (wd226 hw) (wd46 hw) (wd227 hw) (by decide) (cprs2 l Z a0 hw b165 b_167 (kb_167) cs fm y_153 y_156 h176 OK176 A165 P167_1 P167_0 P167_2 SCS SFM hcs hfm P153_0 P156_0) e176 (by rw [hml]; rfl) (hb hby at_150) (argsL := [(.ref b165)]) (rest := []) (lenOf pd42 rfl) rfl rfl (W := 0) (Nat.le_refl _) (by decide) ?_
    intro v177 T177 L177 k177 X177 hS hKd hZ hown hR177 hQ177
    obtain ⟨h177, e177⟩ : ∃ z, T177.heap = z := ⟨_, rfl⟩
    rw [e177] at hQ177 hKd hR177
    obtain ⟨t_177, w_177, u_177, ku_177, rfl, N177q, K177, fr177_t, fr177_w, P177_0, P177_1, P177_2, P177_3, P177_4, P177_5, P177_6, P177_7⟩ := hQ177
    have N177 := Fr.app N176 N177q
    replace hC := hC.trans hR177
    have ne_b162_t_177 : b162 ≠ t_177 := ne_new A162.lt fr177_t
    have ne_ar_163_t_177 : ar_163 ≠ t_177 := ne_new P163_0.lt fr177_t
    have ne_b_164_t_177 : b_164 ≠ t_177 := ne_new P164_2.lt fr177_t
    have ne_b165_t_177 : b165 ≠ t_177 := ne_new A165.lt fr177_t
    have ne_ar_166_t_177 : ar_166 ≠ t_177 := ne_new P166_0.lt fr177_t
    have ne_b_167_t_177 : b_167 ≠ t_177 := ne_new P167_2.lt fr177_t
    have ne_t_168_t_177 : t_168 ≠ t_177 := ne_new P168_0.lt fr177_t
    have ne_w_172_t_177 : w_172 ≠ t_177 := ne_new P172_3.lt fr177_t
    have ne_u_172_t_177 : u_172 ≠ t_177 := ne_new P172_6.lt fr177_t
    have g_t_177 : Z.heap.size ≤ t_177 := Nat.le_trans OK176.1 fr177_t
    have ne_b162_w_177 : b162 ≠ w_177 := ne_new A162.lt fr177_w
    have ne_ar_163_w_177 : ar_163 ≠ w_177 := ne_new P163_0.lt fr177_w
    have ne_b_164_w_177 : b_164 ≠ w_177 := ne_new P164_2.lt fr177_w
    have ne_b165_w_177 : b165 ≠ w_177 := ne_new A165.lt fr177_w
    have ne_ar_166_w_177 : ar_166 ≠ w_177 := ne_new P166_0.lt fr177_w
    have ne_b_167_w_177 : b_167 ≠ w_177 := ne_new P167_2.lt fr177_w
    have ne_t_168_w_177 : t_168 ≠ w_177 := ne_new P168_0.lt fr177_w
    have ne_w_172_w_177 : w_172 ≠ w_177 := ne_new P172_3.lt fr177_w
    have ne_u_172_w_177 : u_172 ≠ w_177 := ne_new P172_6.lt fr177_w
    have g_w_177 : Z.heap.size ≤ w_177 := Nat.le_trans OK176.1 fr177_w
    replace A162 := A162.keep K177
    replace P163_0 := P163_0.keep K177
    replace P163_1 := P163_1.keep K177 nin0
    replace P164_0 := P164_0.keep K177 nin0
    replace P164_1 := P164_1.keep K177 nin0
    replace P164_2 := P164_2.keep K177 nin0
    replace A165 := A165.keep K177
    replace P166_0 := P166_0.keep K177
    replace P166_1 := P166_1.keep K177 nin0
    replace P167_0 := P167_0.keep K177 nin0
    replace P167_1 := P167_1.keep K177 nin0
    replace P167_2 := P167_2.keep K177 nin0
    replace P168_0 := P168_0.keep K177
    replace P172_0 := P172_0.keep K177 nin0
    replace P172_1 := P172_1.keep K177 nin0
    replace P172_2 := P172_2.keep K177 nin0
    replace P172_3 := P172_3.keep K177
    replace P172_4 := P172_4.keep K177 nin0
    replace P172_5 := P172_5.keep K177 nin0
    replace P172_6 := P172_6.keep K177 nin0
    have OK177 := ext_keep OK176 K177 all0
    refine Go.V X177 hx (hb hby at_153) rfl (l' := #[.val (.int pn), .val (.int pa), .val (.int pb), .val (.int pd), .val (.int 2), .val (.int y_153), .val (.int y_156), .val (.int y_159), .val (.ref b162), .val (.ref b165), .val (.ref t_168), .val (.ref w_172), .val (.ref t_177)]) rfl (q := 155) rfl ?_
    refine Go.w X177 hx (hb hby at_155) rfl rfl (q := 157) rfl ?_
    refine Go.w X177 hx (hb hby at_157) rfl rfl (q := 159) rfl ?_
    refine Go.u X177 hx hZ hown (wd281 hw) (wd282 hw) (notFace_of_selects (args := #[]) (mvT hZ (wd284 hw))) (wd284 hw) (wd283 hw) (wd46 hw) (wd285 hw) (by decide) (cete2 l Z a0 hw t_168 t_177 b162 w_177 b_164 u_177 (kb_164) (ku_177) cs y_153 y_156 h177 OK177 P177_0 ne_t_168_t_177 P172_0 P177_1 P172_1 P177_2 A162 P177_4 P164_1 P177_5 P164_0 P177_6 P164_2 P177_7 ne_b162_w_177 SCS hcs) e177 P168_0 (by rw [hml]; rfl) (hb hby at_159) (argsL := [(.ref t_177)]) (rest := []) (lenOf pd31 rfl) rfl rfl (W := 0) (Nat.le_refl _) (by decide) ?_
    intro v178 T178 L178 X178 hQ178
    obtain ⟨rfl, N178q, e178⟩ := hQ178
    have N178 := Fr.app N177 N178q
    exact Go.jz X178 hx hS hKd hs0 hZ (own_EW hw) hC hret hlk (by simp) rfl (hb hby at_162) e178 (by decide) (by decide) ⟨rfl, N178⟩
  · show Go pp ee below _ (s₁.setTop (mkF mm 3 #[.val (.int pn), .val (.int pa), .val (.int pb), .val (.int pd), .unset, .unset, .unset, .unset, .unset, .unset, .unset, .unset, .unset] [(.int 3)]))
    refine Go.G X0 hx (hb hby at_3) (l' := #[.val (.int pn), .val (.int pa), .val (.int pb), .val (.int pd), .val (.int 3), .unset, .unset, .unset, .unset, .unset, .unset, .unset, .unset]) rfl (q := 5) rfl ?_
    refine Go.f X0 hx (hb hby at_5) rfl (q := 6) rfl ?_
    refine Go.A X0 hx hZ hown (wd0 hw) (wd1 hw) (wd2 hw) (wd3 hw) (by decide) (cetg l Z a0 hw pa h0 O0) e0 (by rw [hml]; rfl) (hb hby at_6) (argsL := [(.int pa)]) (rest := []) (lenOf pd11 rfl) rfl rfl (W := 0) (Nat.le_refl _) (by decide) ?_
    intro v179 T179 L179 X179 hQ179
    obtain ⟨y_179, rfl, N179q, e179, P179_0⟩ := hQ179
    have N179 := Fr.app N0 N179q
    have hk180 : nar .char y_179 = y_179 := own_ecn P179_0
    have hk181 : ¬ ((255 : Int32) < y_179) := own_ec255 P179_0
    refine Go.G X179 hx (hb hby at_9) (l' := #[.val (.int pn), .val (.int pa), .val (.int pb), .val (.int pd), .val (.int 3), .val (.int y_179), .unset, .unset, .unset, .unset, .unset, .unset, .unset]) rfl (q := 11) rfl ?_
    refine Go.f X179 hx (hb hby at_11) rfl (q := 12) rfl ?_
    refine Go.A X179 hx hZ hown (wd0 hw) (wd1 hw) (wd2 hw) (wd3 hw) (by decide) (cetg l Z a0 hw pb h0 O0) e179 (by rw [hml]; rfl) (hb hby at_12) (argsL := [(.int pb)]) (rest := []) (lenOf pd11 rfl) rfl rfl (W := 0) (Nat.le_refl _) (by decide) ?_
    intro v182 T182 L182 X182 hQ182
    obtain ⟨y_182, rfl, N182q, e182, P182_0⟩ := hQ182
    have N182 := Fr.app N179 N182q
    have hk183 : nar .char y_182 = y_182 := own_ecn P182_0
    have hk184 : ¬ ((255 : Int32) < y_182) := own_ec255 P182_0
    refine Go.G X182 hx (hb hby at_15) (l' := #[.val (.int pn), .val (.int pa), .val (.int pb), .val (.int pd), .val (.int 3), .val (.int y_179), .val (.int y_182), .unset, .unset, .unset, .unset, .unset, .unset]) rfl (q := 17) rfl ?_
    refine Go.f X182 hx (hb hby at_17) rfl (q := 18) rfl ?_
    refine Go.A X182 hx hZ hown (wd0 hw) (wd1 hw) (wd2 hw) (wd3 hw) (by decide) (cetg l Z a0 hw pd h0 O0) e182 (by rw [hml]; rfl) (hb hby at_18) (argsL := [(.int pd)]) (rest := []) (lenOf pd11 rfl) rfl rfl (W := 0) (Nat.le_refl _) (by decide) ?_
    intro v185 T185 L185 X185 hQ185
    obtain ⟨y_185, rfl, N185q, e185, P185_0⟩ := hQ185
    have N185 := Fr.app N182 N185q
    have hk186 : nar .char y_185 = y_185 := own_ecn P185_0
    have hk187 : ¬ ((255 : Int32) < y_185) := own_ec255 P185_0
    refine Go.G X185 hx (hb hby at_21) (l' := #[.val (.int pn), .val (.int pa), .val (.int pb), .val (.int pd), .val (.int 3), .val (.int y_179), .val (.int y_182), .val (.int y_185), .unset, .unset, .unset, .unset, .unset]) rfl (q := 23) rfl ?_
    refine Go.jd X185 hx hZ hown (wd5 hw) (wd6 hw) (wd7 hw) e185 (hb hby at_23) (by decide) (by decide) (q := 26) rfl ?_
    intro b188 T188 h188 X188 e188 q188 E188 A188 D188 U188
    have g_b188 : Z.heap.size ≤ b188 := Nat.le_trans O0.1 (Nat.le_of_eq q188)
    replace hC := hC.trans (CHr.ext E188 hC.1)
    have OE188 := ext_trans O0 E188
    replace hKd := Nat.le_trans hKd E188.1
    have F188_value : Fld Z h188 b188 xS0 "value" "[B" .null := D188 (Or.inr (wd24 hw)) (ty := (.array .byte)) (by decide)
    have F188_coder : Fld Z h188 b188 xS0 "coder" "B" (.int 0) := D188 (Or.inr (wd25 hw)) (ty := .byte) (by decide)
    clear D188
    refine Go.N X188 hx (hb hby at_26) rfl (q := 27) rfl ?_
    refine Go.o X188 hx (hb hby at_27) rfl (q := 29) rfl ?_
    refine Go.o X188 hx (hb hby at_29) rfl (q := 31) rfl ?_
    refine Go.o X188 hx (hb hby at_31) rfl (q := 33) rfl ?_
    refine Go.o X188 hx (hb hby at_33) rfl (q := 35) rfl ?_
    refine Go.A X188 hx hZ hown (wd8 hw) (wd9 hw) (wd2 hw) (wd10 hw) (by decide) (cch3 l Z a0 hw y_179 y_182 y_185 h188 OE188 hk180 hk183 hk186) e188 (by rw [hml]; rfl) (hb hby at_35) (argsL := [(.int 3), (.int y_179), (.int y_182), (.int y_185)]) (rest := [(.ref b188), (.ref b188)]) (lenOf pd40 rfl) rfl rfl (W := 2) (Nat.le_refl _) (by decide) ?_
    intro v189 T189 L189 X189 hQ189
    obtain ⟨h189, e189⟩ : ∃ z, T189.heap = z := ⟨_, rfl⟩
    rw [e189] at hQ189
    obtain ⟨ar_189, ka_189, rfl, N189q, K189, fr189_ar, P189_0, P189_1⟩ := hQ189
    have N189 := Fr.app N185 N189q
    have ne_b188_ar_189 : b188 ≠ ar_189 := ne_new A188.lt fr189_ar
    have g_ar_189 : Z.heap.size ≤ ar_189 := Nat.le_trans OE188.1 fr189_ar
    replace hKd := Nat.le_trans hKd K189.1
    have hSk : ∀ x ∈ ([] : List Addr), Safe Z consts_1 ss.vm h188 x := all0
    replace hC := hC.trans (CHr.keep K189 hSk hC.1)
    replace A188 := A188.keep K189
    replace F188_value := F188_value.keep K189 nin0
    replace F188_coder := F188_coder.keep K189 nin0
    have OK189 := ext_keep OE188 K189 all0
    refine Go.Y X189 hx hZ hown rfl (wd12 hw) (wd13 hw) (wd7 hw) (wd14 hw) (by decide) (csj3 l Z a0 hw b188 ar_189 (ka_189) y_179 y_182 y_185 cs h189 OK189 A188 F188_value F188_coder g_b188 P189_1 SCS hcs hk181 hk184 hk187) e189 (by rw [hml]; rfl) (hb hby at_38) (argsL := [(.ref ar_189)]) (rest := [(.ref b188)]) (lenOf pd41 rfl) rfl rfl (W := 1) (Nat.le_refl _) (by decide) ?_
    intro v190 T190 L190 X190 hQ190
    obtain ⟨h190, e190⟩ : ∃ z, T190.heap = z := ⟨_, rfl⟩
    rw [e190] at hQ190
    obtain ⟨b_190, kb_190, rfl, N190q, K190, fr190_b, P190_0, P190_1, P190_2⟩ := hQ190
    have N190 := Fr.app N189 N190q
    have ne_b188_b_190 : b188 ≠ b_190 := ne_new A188.lt fr190_b
    have ne_ar_189_b_190 : ar_189 ≠ b_190 := ne_new P189_0.lt fr190_b
    have g_b_190 : Z.heap.size ≤ b_190 := Nat.le_trans OK189.1 fr190_b
    replace hKd := Nat.le_trans hKd K190.1
    have hSk : ∀ x ∈ [b188], Safe Z consts_1 ss.vm h189 x := (allS (own_safeNull hZ.alike A188 F188_value) all0)
    replace hC := hC.trans (CHr.keep K190 hSk hC.1)
    replace A188 := A188.keep K190
    replace P189_0 := P189_0.keep K190
    replace P189_1 := P189_1.keep K190 (ninS (Ne.symm ne_b188_ar_189) nin0)
    have OK190 := ext_keep OK189 K190 (allS g_b188 all0)
    refine Go.V X190 hx (hb hby at_41) rfl (l' := #[.val (.int pn), .val (.int pa), .val (.int pb), .val (.int pd), .val (.int 3), .val (.int y_179), .val (.int y_182), .val (.int y_185), .val (.ref b188), .unset, .unset, .unset, .unset]) rfl (q := 43) rfl ?_
    refine Go.jd X190 hx hZ hown (wd5 hw) (wd6 hw) (wd7 hw) e190 (hb hby at_43) (by decide) (by decide) (q := 46) rfl ?_
    intro b191 T191 h191 X191 e191 q191 E191 A191 D191 U191
    have ne_b188_b191 : b188 ≠ b191 := ne_new A188.lt (Nat.le_of_eq q191)
    have ne_ar_189_b191 : ar_189 ≠ b191 := ne_new P189_0.lt (Nat.le_of_eq q191)
    have ne_b_190_b191 : b_190 ≠ b191 := ne_new P190_2.lt (Nat.le_of_eq q191)
    have g_b191 : Z.heap.size ≤ b191 := Nat.le_trans OK190.1 (Nat.le_of_eq q191)
    replace hC := hC.trans (CHr.ext E191 hC.1)
    replace A188 := A188.ext E191
    replace P189_0 := P189_0.ext E191
    replace P189_1 := P189_1.ext E191
    replace P190_0 := P190_0.ext E191
    replace P190_1 := P190_1.ext E191
    replace P190_2 := P190_2.ext E191
    have OE191 := ext_trans OK190 E191
    replace hKd := Nat.le_trans hKd E191.1
    have F191_value : Fld Z h191 b191 xS0 "value" "[B" .null := D191 (Or.inr (wd24 hw)) (ty := (.array .byte)) (by decide)
    have F191_coder : Fld Z h191 b191 xS0 "coder" "B" (.int 0) := D191 (Or.inr (wd25 hw)) (ty := .byte) (by decide)
    clear D191
    refine Go.N X191 hx (hb hby at_46) rfl (q := 47) rfl ?_
    refine Go.o X191 hx (hb hby at_47) rfl (q := 49) rfl ?_
    refine Go.o X191 hx (hb hby at_49) rfl (q := 51) rfl ?_
    refine Go.o X191 hx (hb hby at_51) rfl (q := 53) rfl ?_
    refine Go.o X191 hx (hb hby at_53) rfl (q := 55) rfl ?_
    refine Go.A X191 hx hZ hown (wd30 hw) (wd31 hw) (wd2 hw) (wd32 hw) (by decide) (cqu3 l Z a0 hw y_179 y_182 y_185 h191 OE191 hk180 hk183 hk186) e191 (by rw [hml]; rfl) (hb hby at_55) (argsL := [(.int 3), (.int y_179), (.int y_182), (.int y_185)]) (rest := [(.ref b191), (.ref b191)]) (lenOf pd40 rfl) rfl rfl (W := 2) (Nat.le_refl _) (by decide) ?_
    intro v192 T192 L192 X192 hQ192
    obtain ⟨h192, e192⟩ : ∃ z, T192.heap = z := ⟨_, rfl⟩
    rw [e192] at hQ192
    obtain ⟨ar_192, ka_192, rfl, N192q, K192, fr192_ar, P192_0, P192_1⟩ := hQ192
    have N192 := Fr.app N190 N192q
    have ne_b188_ar_192 : b188 ≠ ar_192 := ne_new A188.lt fr192_ar
    have ne_ar_189_ar_192 : ar_189 ≠ ar_192 := ne_new P189_0.lt fr192_ar
    have ne_b_190_ar_192 : b_190 ≠ ar_192 := ne_new P190_2.lt fr192_ar
    have ne_b191_ar_192 : b191 ≠ ar_192 := ne_new A191.lt fr192_ar
    have g_ar_192 : Z.heap.size ≤ ar_192 := Nat.le_trans OE191.1 fr192_ar
    replace hKd := Nat.le_trans hKd K192.1
    have hSk : ∀ x ∈ ([] : List Addr), Safe Z consts_1 ss.vm h191 x := all0
    replace hC := hC.trans (CHr.keep K192 hSk hC.1)
    replace A188 := A188.keep K192
    replace P189_0 := P189_0.keep K192
    replace P189_1 := P189_1.keep K192 nin0
    replace P190_0 := P190_0.keep K192 nin0
    replace P190_1 := P190_1.keep K192 nin0
    replace P190_2 := P190_2.keep K192 nin0
    replace A191 := A191.keep K192
    replace F191_value := F191_value.keep K192 nin0
    replace F191_coder := F191_coder.keep K192 nin0
    have OK192 := ext_keep OE191 K192 all0
    refine Go.Y X192 hx hZ hown rfl (wd12 hw) (wd13 hw) (wd7 hw) (wd14 hw) (by decide) (csj5 l Z a0 hw b191 ar_192 (ka_192) ((34 : Int32)) y_179 y_182 y_185 ((34 : Int32)) cs h192 OK192 A191 F191_value F191_coder g_b191 P192_1 SCS hcs (by decide) hk181 hk184 hk187 (by decide)) e192 (by rw [hml]; rfl) (hb hby at_58) (argsL := [(.ref ar_192)]) (rest := [(.ref b191)]) (lenOf pd41 rfl) rfl rfl (W := 1) (Nat.le_refl _) (by decide) ?_
    intro v193 T193 L193 X193 hQ193
    obtain ⟨h193, e193⟩ : ∃ z, T193.heap = z := ⟨_, rfl⟩
    rw [e193] at hQ193
    obtain ⟨b_193, kb_193, rfl, N193q, K193, fr193_b, P193_0, P193_1, P193_2⟩ := hQ193
    have N193 := Fr.app N192 N193q
    have ne_b188_b_193 : b188 ≠ b_193 := ne_new A188.lt fr193_b
    have ne_ar_189_b_193 : ar_189 ≠ b_193 := ne_new P189_0.lt fr193_b
    have ne_b_190_b_193 : b_190 ≠ b_193 := ne_new P190_2.lt fr193_b
    have ne_b191_b_193 : b191 ≠ b_193 := ne_new A191.lt fr193_b
    have ne_ar_192_b_193 : ar_192 ≠ b_193 := ne_new P192_0.lt fr193_b
    have g_b_193 : Z.heap.size ≤ b_193 := Nat.le_trans OK192.1 fr193_b
    replace hKd := Nat.le_trans hKd K193.1
    have hSk : ∀ x ∈ [b191], Safe Z consts_1 ss.vm h192 x := (allS (own_safeNull hZ.alike A191 F191_value) all0)
    replace hC := hC.trans (CHr.keep K193 hSk hC.1)
    replace A188 := A188.keep K193
    replace P189_0 := P189_0.keep K193
    replace P189_1 := P189_1.keep K193 (ninS ne_ar_189_b191 nin0)
    replace P190_0 := P190_0.keep K193 (ninS ne_b188_b191 nin0)
    replace P190_1 := P190_1.keep K193 (ninS ne_b188_b191 nin0)
    replace P190_2 := P190_2.keep K193 (ninS ne_b_190_b191 nin0)
    replace A191 := A191.keep K193
    replace P192_0 := P192_0.keep K193
    replace P192_1 := P192_1.keep K193 (ninS (Ne.symm ne_b191_ar_192) nin0)
    have OK193 := ext_keep OK192 K193 (allS g_b191 all0)
    refine Go.V X193 hx (hb hby at_61) rfl (l' := #[.val (.int pn), .val (.int pa), .val (.int pb), .val (.int pd), .val (.int 3), .val (.int y_179), .val (.int y_182), .val (.int y_185), .val (.ref b188), .val (.ref b191), .unset, .unset, .unset]) rfl (q := 63) rfl ?_
    refine Go.w X193 hx (hb hby at_63) rfl rfl (q := 65) rfl ?_
    refine Go.jk X193 hx hZ hown hS hKd (own_EW hw) hC (wd44 hw) (wd45 hw) (wd46 hw) (wd47 hw) (by decide) (cwk3 l Z a0 hw b188 b_190 (kb_190) cs fm y_179 y_182 y_185 h193 OK193 A188 P190_1 P190_0 P190_2 SCS SFM hcs hfm P179_0 P182_0 P185_0) e193 (by rw [hml]; rfl) (hb hby at_65) (argsL := [(.ref b188)]) (rest := []) (lenOf pd42 rfl) rfl rfl (W := 0) (Nat.le_refl _) (by decide) ?_
    intro v194 T194 L194 k194 X194 hS hKd hZ hown hR194 hQ194
    obtain ⟨h194, e194⟩ : ∃ z, T194.heap = z := ⟨_, rfl⟩
    rw [e194] at hQ194 hKd hR194
    obtain ⟨t_194, rfl, N194q, K194, fr194_t, P194_0, P194_1, P194_2, P194_3⟩ := hQ194
    have N194 := Fr.app N193 N194q
    replace hC := hC.trans hR194
    have ne_b188_t_194 : b188 ≠ t_194 := ne_new A188.lt fr194_t
    have ne_ar_189_t_194 : ar_189 ≠ t_194 := ne_new P189_0.lt fr194_t
    have ne_b_190_t_194 : b_190 ≠ t_194 := ne_new P190_2.lt fr194_t
    have ne_b191_t_194 : b191 ≠ t_194 := ne_new A191.lt fr194_t
    have ne_ar_192_t_194 : ar_192 ≠ t_194 := ne_new P192_0.lt fr194_t
    have ne_b_193_t_194 : b_193 ≠ t_194 := ne_new P193_2.lt fr194_t
    have g_t_194 : Z.heap.size ≤ t_194 := Nat.le_trans OK193.1 fr194_t
    replace A188 := A188.keep K194
    replace P189_0 := P189_0.keep K194
    replace P189_1 := P189_1.keep K194 nin0
    replace P190_0 := P190_0.keep K194 nin0
    replace P190_1 := P190_1.keep K194 nin0
    replace P190_2 := P190_2.keep K194 nin0
    replace A191 := A191.keep K194
    replace P192_0 := P192_0.keep K194
    replace P192_1 := P192_1.keep K194 nin0
    replace P193_0 := P193_0.keep K194 nin0
    replace P193_1 := P193_1.keep K194 nin0
    replace P193_2 := P193_2.keep K194 nin0
    have OK194 := ext_keep OK193 K194 all0
    refine Go.V X194 hx (hb hby at_68) rfl (l' := #[.val (.int pn), .val (.int pa), .val (.int pb), .val (.int pd), .val (.int 3), .val (.int y_179), .val (.int y_182), .val (.int y_185), .val (.ref b188), .val (.ref b191), .val (.ref t_194), .unset, .unset]) rfl (q := 70) rfl ?_
    refine Go.w X194 hx (hb hby at_70) rfl rfl (q := 72) rfl ?_
    refine Go.jx X194 hx (hb hby at_72) (q := 77) (by decide) (by decide) ?_
    refine Go.w X194 hx (hb hby at_77) rfl rfl (q := 79) rfl ?_
    refine Go.u X194 hx hZ hown (wd76 hw) (wd77 hw) (notFace_of_selects (args := #[]) (mvT hZ (wd79 hw))) (wd79 hw) (wd78 hw) (wd46 hw) (wd80 hw) (by decide) (cisw l Z a0 hw t_194 h194 OK194 P194_1) e194 P194_0 (by rw [hml]; rfl) (hb hby at_79) (argsL := []) (rest := []) (lenOf pd7 rfl) rfl rfl (W := 0) (Nat.le_refl _) (by decide) ?_
    intro v195 T195 L195 X195 hQ195
    obtain ⟨rfl, N195q, e195⟩ := hQ195
    have N195 := Fr.app N194 N195q
    refine Go.F X195 hx (hb hby at_82) (by decide) (q := 87) (by decide) (by decide) ?_
    refine Go.w X195 hx (hb hby at_87) rfl rfl (q := 89) rfl ?_
    refine Go.u X195 hx hZ hown (wd81 hw) (wd82 hw) (notFace_of_selects (args := #[]) (mvT hZ (wd84 hw))) (wd84 hw) (wd83 hw) (wd46 hw) (wd85 hw) (by decide) (cval l Z a0 hw t_194 b188 h194 OK194 P194_2) e195 P194_0 (by rw [hml]; rfl) (hb hby at_89) (argsL := []) (rest := []) (lenOf pd29 rfl) rfl rfl (W := 0) (Nat.le_refl _) (by decide) ?_
    intro v196 T196 L196 X196 hQ196
    obtain ⟨rfl, N196q, e196⟩ := hQ196
    have N196 := Fr.app N195 N196q
    refine Go.w X196 hx (hb hby at_92) rfl rfl (q := 94) rfl ?_
    refine Go.u X196 hx hZ hown (wd86 hw) (wd87 hw) (notFace_of_selects (args := #[]) (mvT hZ (wd89 hw))) (wd89 hw) (wd88 hw) (wd7 hw) (wd90 hw) (by decide) (ceqs l Z a0 hw b188 h194 OK194) e196 A188 (by rw [hml]; rfl) (hb hby at_94) (argsL := [(.ref b188)]) (rest := []) (lenOf pd31 rfl) rfl rfl (W := 0) (Nat.le_refl _) (by decide) ?_
    intro v197 T197 L197 X197 hQ197
    obtain ⟨rfl, N197q, e197⟩ := hQ197
    have N197 := Fr.app N196 N197q
    refine Go.F X197 hx (hb hby at_97) (by decide) (q := 102) (by decide) (by decide) ?_
    refine Go.w X197 hx (hb hby at_102) rfl rfl (q := 104) rfl ?_
    refine Go.ju X197 hx hZ hown hS hKd (own_EW hw) hC (wd91 hw) (wd92 hw) (notFace_of_selects (args := #[]) (mvT hZ (wd94 hw))) (wd94 hw) (wd93 hw) (wd46 hw) (wd95 hw) (by decide) (ctos l Z a0 hw t_194 b188 b_190 (kb_190) cs ((3 : Int32)) ([(.int (y_179.toInt8.toInt32)), (.int (y_182.toInt8.toInt32)), (.int (y_185.toInt8.toInt32))]) ([(.int 34), (.int (y_179.toInt8.toInt32)), (.int (y_182.toInt8.toInt32)), (.int (y_185.toInt8.toInt32)), (.int 0)]) ([(.int 34), (.int (y_179.toInt8.toInt32)), (.int (y_182.toInt8.toInt32)), (.int (y_185.toInt8.toInt32)), (.int 34)]) ([(.int 34), (.int (y_179.toInt8.toInt32)), (.int (y_182.toInt8.toInt32)), (.int (y_185.toInt8.toInt32)), (.int 34)]) h194 OK194 P194_0 g_t_194 P194_1 P194_2 P194_3 A188 P190_1 P190_0 P190_2 SCS hcs ⟨⟨by decide, by decide, by decide⟩, by decide, by decide, rfl, Nat.le_of_ble_eq_true rfl, rfl⟩ (by decide) ⟨⟨by decide, by decide⟩, Nat.le_of_ble_eq_true rfl, rfl⟩ (by decide) ⟨⟨by decide, by decide⟩, by decide, rfl⟩) e197 P194_0 (by rw [hml]; rfl) (hb hby at_104) (argsL := []) (rest := []) (lenOf pd29 rfl) rfl rfl (W := 0) (Nat.le_refl _) (by decide) ?_
    intro v198 T198 L198 k198 X198 hS hKd hZ hown hR198 hQ198
    obtain ⟨h198, e198⟩ : ∃ z, T198.heap = z := ⟨_, rfl⟩
    rw [e198] at hQ198 hKd hR198
    obtain ⟨w_198, u_198, ku_198, rfl, N198q, K198, fr198_w, fr198_u, P198_0, P198_1, P198_2, P198_3, P198_4, P198_5, P198_6⟩ := hQ198
    have N198 := Fr.app N197 N198q
    replace hC := hC.trans hR198
    have ne_b188_w_198 : b188 ≠ w_198 := ne_new A188.lt fr198_w
    have ne_ar_189_w_198 : ar_189 ≠ w_198 := ne_new P189_0.lt fr198_w
    have ne_b_190_w_198 : b_190 ≠ w_198 := ne_new P190_2.lt fr198_w
    have ne_b191_w_198 : b191 ≠ w_198 := ne_new A191.lt fr198_w
    have ne_ar_192_w_198 : ar_192 ≠ w_198 := ne_new P192_0.lt fr198_w
    have ne_b_193_w_198 : b_193 ≠ w_198 := ne_new P193_2.lt fr198_w
    have ne_t_194_w_198 : t_194 ≠ w_198 := ne_new P194_0.lt fr198_w
    have g_w_198 : Z.heap.size ≤ w_198 := Nat.le_trans OK194.1 fr198_w
    have ne_b188_u_198 : b188 ≠ u_198 := ne_new A188.lt fr198_u
    have ne_ar_189_u_198 : ar_189 ≠ u_198 := ne_new P189_0.lt fr198_u
    have ne_b_190_u_198 : b_190 ≠ u_198 := ne_new P190_2.lt fr198_u
    have ne_b191_u_198 : b191 ≠ u_198 := ne_new A191.lt fr198_u
    have ne_ar_192_u_198 : ar_192 ≠ u_198 := ne_new P192_0.lt fr198_u
    have ne_b_193_u_198 : b_193 ≠ u_198 := ne_new P193_2.lt fr198_u
    have ne_t_194_u_198 : t_194 ≠ u_198 := ne_new P194_0.lt fr198_u
    have g_u_198 : Z.heap.size ≤ u_198 := Nat.le_trans OK194.1 fr198_u
    replace A188 := A188.keep K198
    replace P189_0 := P189_0.keep K198
    replace P189_1 := P189_1.keep K198 (ninS ne_ar_189_t_194 nin0)
    replace P190_0 := P190_0.keep K198 (ninS ne_b188_t_194 nin0)
    replace P190_1 := P190_1.keep K198 (ninS ne_b188_t_194 nin0)
    replace P190_2 := P190_2.keep K198 (ninS ne_b_190_t_194 nin0)
    replace A191 := A191.keep K198
    replace P192_0 := P192_0.keep K198
    replace P192_1 := P192_1.keep K198 (ninS ne_ar_192_t_194 nin0)
    replace P193_0 := P193_0.keep K198 (ninS ne_b191_t_194 nin0)
    replace P193_1 := P193_1.keep K198 (ninS ne_b191_t_194 nin0)
    replace P193_2 := P193_2.keep K198 (ninS ne_b_193_t_194 nin0)
    replace P194_0 := P194_0.keep K198
    have OK198 := ext_keep OK194 K198 (allS g_t_194 all0)
    refine Go.V X198 hx (hb hby at_107) rfl (l' := #[.val (.int pn), .val (.int pa), .val (.int pb), .val (.int pd), .val (.int 3), .val (.int y_179), .val (.int y_182), .val (.int y_185), .val (.ref b188), .val (.ref b191), .val (.ref t_194), .val (.ref w_198), .unset]) rfl (q := 109) rfl ?_
    refine Go.w X198 hx (hb hby at_109) rfl rfl (q := 111) rfl ?_
    refine Go.w X198 hx (hb hby at_111) rfl rfl (q := 113) rfl ?_
    refine Go.u X198 hx hZ hown (wd86 hw) (wd87 hw) (notFace_of_selects (args := #[]) (mvT hZ (wd89 hw))) (wd89 hw) (wd88 hw) (wd7 hw) (wd90 hw) (by decide) (cse5 l Z a0 hw w_198 b191 cs u_198 b_193 (ku_198) (kb_193) ((34 : Int32)) ((y_179.toInt8.toInt32)) ((y_182.toInt8.toInt32)) ((y_185.toInt8.toInt32)) ((34 : Int32)) h198 OK198 P198_3 A191 P198_4 P193_1 P198_5 P193_0 P198_6 P193_2 (Ne.symm ne_b191_w_198) SCS hcs) e198 P198_3 (by rw [hml]; rfl) (hb hby at_113) (argsL := [(.ref b191)]) (rest := []) (lenOf pd31 rfl) rfl rfl (W := 0) (Nat.le_refl _) (by decide) ?_
    intro v199 T199 L199 X199 hQ199
    obtain ⟨rfl, N199q, e199⟩ := hQ199
    have N199 := Fr.app N198 N199q
    refine Go.F X199 hx (hb hby at_116) (by decide) (q := 121) (by decide) (by decide) ?_
    refine Go.w X199 hx (hb hby at_121) rfl rfl (q := 123) rfl ?_
    refine Go.u X199 hx hZ hown (wd91 hw) (wd92 hw) (notFace_of_selects (args := #[]) (mvT hZ (wd94 hw))) (wd94 hw) (wd93 hw) (wd46 hw) (wd95 hw) (by decide) (ctox l Z a0 hw t_194 w_198 h198 OK198 P198_2) e199 P194_0 (by rw [hml]; rfl) (hb hby at_123) (argsL := []) (rest := []) (lenOf pd29 rfl) rfl rfl (W := 0) (Nat.le_refl _) (by decide) ?_
    intro v200 T200 L200 X200 hQ200
    obtain ⟨rfl, N200q, e200⟩ := hQ200
    have N200 := Fr.app N199 N200q
    refine Go.w X200 hx (hb hby at_126) rfl rfl (q := 128) rfl ?_
    refine Go.u X200 hx hZ hown (wd86 hw) (wd87 hw) (notFace_of_selects (args := #[]) (mvT hZ (wd89 hw))) (wd89 hw) (wd88 hw) (wd7 hw) (wd90 hw) (by decide) (cse5 l Z a0 hw w_198 b191 cs u_198 b_193 (ku_198) (kb_193) ((34 : Int32)) ((y_179.toInt8.toInt32)) ((y_182.toInt8.toInt32)) ((y_185.toInt8.toInt32)) ((34 : Int32)) h198 OK198 P198_3 A191 P198_4 P193_1 P198_5 P193_0 P198_6 P193_2 (Ne.symm ne_b191_w_198) SCS hcs) e200 P198_3 (by rw [hml]; rfl) (hb hby at_128) (argsL := [(.ref b191)]) (rest := []) (lenOf pd31 rfl) rfl rfl (W := 0) (Nat.le_refl _) (by decide) ?_
    intro v201 T201 L201 X201 hQ201
    obtain ⟨rfl, N201q, e201⟩ := hQ201
    have N201 := Fr.app N200 N201q
    refine Go.F X201 hx (hb hby at_131) (by decide) (q := 136) (by decide) (by decide) ?_
    refine Go.w X201 hx (hb hby at_136) rfl rfl (q := 138) rfl ?_
    refine Go.w X201 hx (hb hby at_138) rfl rfl (q := 140) rfl ?_
    refine Go.ju X201 hx hZ hown hS hKd (own_EW hw) hC (wd218 hw) (wd219 hw) (notFace_of_selects (args := #[]) (mvT hZ (wd221 hw))) (wd221 hw) (wd220 hw) (wd46 hw) (wd222 hw) (by decide) (csm l Z a0 hw t_194 b188 h198 OK198 P194_0 P198_0 P198_1 A188) e201 P194_0 (by rw [hml]; rfl) (hb hby at_140) (argsL := [(.ref t_194)]) (rest := []) (lenOf pd43 rfl) rfl rfl (W := 0) (Nat.le_refl _) (by decide) ?_
    intro v202 T202 L202 k202 X202 hS hKd hZ hown hR202 hQ202
    obtain ⟨h202, e202⟩ : ∃ z, T202.heap = z := ⟨_, rfl⟩
    rw [e202] at hQ202 hKd hR202
    obtain ⟨rfl, N202q, K202⟩ := hQ202
    have N202 := Fr.app N201 N202q
    replace hC := hC.trans hR202
    replace A188 := A188.keep K202
    replace P189_0 := P189_0.keep K202
    replace P189_1 := P189_1.keep K202 nin0
    replace P190_0 := P190_0.keep K202 nin0
    replace P190_1 := P190_1.keep K202 nin0
    replace P190_2 := P190_2.keep K202 nin0
    replace A191 := A191.keep K202
    replace P192_0 := P192_0.keep K202
    replace P192_1 := P192_1.keep K202 nin0
    replace P193_0 := P193_0.keep K202 nin0
    replace P193_1 := P193_1.keep K202 nin0
    replace P193_2 := P193_2.keep K202 nin0
    replace P194_0 := P194_0.keep K202
    replace P198_0 := P198_0.keep K202 nin0
    replace P198_1 := P198_1.keep K202 nin0
    replace P198_2 := P198_2.keep K202 nin0
    replace P198_3 := P198_3.keep K202
    replace P198_4 := P198_4.keep K202 nin0
    replace P198_5 := P198_5.keep K202 nin0
    replace P198_6 := P198_6.keep K202 nin0
    have OK202 := ext_keep OK198 K202 all0
    refine Go.F X202 hx (hb hby at_143) (by decide) (q := 148) (by decide) (by decide) ?_
    refine Go.w X202 hx (hb hby at_148) rfl rfl (q := 150) rfl ?_
    refine Go.jk X202 hx hZ hown hS hKd (own_EW hw) hC (wd225 hw) (wd226 hw) (wd46 hw) (wd227 hw) (by decide) (cprs3 l Z a0 hw b191 b_193 (kb_193) cs fm y_179 y_182 y_185 h202 OK202 A191 P193_1 P193_0 P193_2 SCS SFM hcs hfm P179_0 P182_0 P185_0) e202 (by rw [hml]; rfl) (hb hby at_150) (argsL := [(.ref b191)]) (rest := []) (lenOf pd42 rfl) rfl rfl (W := 0) (Nat.le_refl _) (by decide) ?_
    intro v203 T203 L203 k203 X203 hS hKd hZ hown hR203 hQ203
    obtain ⟨h203, e203⟩ : ∃ z, T203.heap = z := ⟨_, rfl⟩
    rw [e203] at hQ203 hKd hR203
    obtain ⟨t_203, w_203, u_203, ku_203, rfl, N203q, K203, fr203_t, fr203_w, P203_0, P203_1, P203_2, P203_3, P203_4, P203_5, P203_6, P203_7⟩ := hQ203
    have N203 := Fr.app N202 N203q
    replace hC := hC.trans hR203
    have ne_b188_t_203 : b188 ≠ t_203 := ne_new A188.lt fr203_t
    have ne_ar_189_t_203 : ar_189 ≠ t_203 := ne_new P189_0.lt fr203_t
    have ne_b_190_t_203 : b_190 ≠ t_203 := ne_new P190_2.lt fr203_t
    have ne_b191_t_203 : b191 ≠ t_203 := ne_new A191.lt fr203_t
    have ne_ar_192_t_203 : ar_192 ≠ t_203 := ne_new P192_0.lt fr203_t
    have ne_b_193_t_203 : b_193 ≠ t_203 := ne_new P193_2.lt fr203_t
    have ne_t_194_t_203 : t_194 ≠ t_203 := ne_new P194_0.lt fr203_t
    have ne_w_198_t_203 : w_198 ≠ t_203 := ne_new P198_3.lt fr203_t
    have ne_u_198_t_203 : u_198 ≠ t_203 := ne_new P198_6.lt fr203_t
    have g_t_203 : Z.heap.size ≤ t_203 := Nat.le_trans OK202.1 fr203_t
    have ne_b188_w_203 : b188 ≠ w_203 := ne_new A188.lt fr203_w
    have ne_ar_189_w_203 : ar_189 ≠ w_203 := ne_new P189_0.lt fr203_w
    have ne_b_190_w_203 : b_190 ≠ w_203 := ne_new P190_2.lt fr203_w
    have ne_b191_w_203 : b191 ≠ w_203 := ne_new A191.lt fr203_w
    have ne_ar_192_w_203 : ar_192 ≠ w_203 := ne_new P192_0.lt fr203_w
    have ne_b_193_w_203 : b_193 ≠ w_203 := ne_new P193_2.lt fr203_w
    have ne_t_194_w_203 : t_194 ≠ w_203 := ne_new P194_0.lt fr203_w
    have ne_w_198_w_203 : w_198 ≠ w_203 := ne_new P198_3.lt fr203_w
    have ne_u_198_w_203 : u_198 ≠ w_203 := ne_new P198_6.lt fr203_w
    have g_w_203 : Z.heap.size ≤ w_203 := Nat.le_trans OK202.1 fr203_w
    replace A188 := A188.keep K203
    replace P189_0 := P189_0.keep K203
    replace P189_1 := P189_1.keep K203 nin0
    replace P190_0 := P190_0.keep K203 nin0
    replace P190_1 := P190_1.keep K203 nin0
    replace P190_2 := P190_2.keep K203 nin0
    replace A191 := A191.keep K203
    replace P192_0 := P192_0.keep K203
    replace P192_1 := P192_1.keep K203 nin0
    replace P193_0 := P193_0.keep K203 nin0
    replace P193_1 := P193_1.keep K203 nin0
    replace P193_2 := P193_2.keep K203 nin0
    replace P194_0 := P194_0.keep K203
    replace P198_0 := P198_0.keep K203 nin0
    replace P198_1 := P198_1.keep K203 nin0
    replace P198_2 := P198_2.keep K203 nin0
    replace P198_3 := P198_3.keep K203
    replace P198_4 := P198_4.keep K203 nin0
    replace P198_5 := P198_5.keep K203 nin0
    replace P198_6 := P198_6.keep K203 nin0
    have OK203 := ext_keep OK202 K203 all0
    refine Go.V X203 hx (hb hby at_153) rfl (l' := #[.val (.int pn), .val (.int pa), .val (.int pb), .val (.int pd), .val (.int 3), .val (.int y_179), .val (.int y_182), .val (.int y_185), .val (.ref b188), .val (.ref b191), .val (.ref t_194), .val (.ref w_198), .val (.ref t_203)]) rfl (q := 155) rfl ?_
    refine Go.w X203 hx (hb hby at_155) rfl rfl (q := 157) rfl ?_
    refine Go.w X203 hx (hb hby at_157) rfl rfl (q := 159) rfl ?_
    refine Go.u X203 hx hZ hown (wd281 hw) (wd282 hw) (notFace_of_selects (args := #[]) (mvT hZ (wd284 hw))) (wd284 hw) (wd283 hw) (wd46 hw) (wd285 hw) (by decide) (cete3 l Z a0 hw t_194 t_203 b188 w_203 b_190 u_203 (kb_190) (ku_203) cs y_179 y_182 y_185 h203 OK203 P203_0 ne_t_194_t_203 P198_0 P203_1 P198_1 P203_2 A188 P203_4 P190_1 P203_5 P190_0 P203_6 P190_2 P203_7 ne_b188_w_203 SCS hcs) e203 P194_0 (by rw [hml]; rfl) (hb hby at_159) (argsL := [(.ref t_203)]) (rest := []) (lenOf pd31 rfl) rfl rfl (W := 0) (Nat.le_refl _) (by decide) ?_
    intro v204 T204 L204 X204 hQ204
    obtain ⟨rfl, N204q, e204⟩ := hQ204
    have N204 := Fr.app N203 N204q
    exact Go.jz X204 hx hS hKd hs0 hZ (own_EW hw) hC hret hlk (by simp) rfl (hb hby at_162) e204 (by decide) (by decide) ⟨rfl, N204⟩
theorem comes_1 {Post : Tables → Env → Array Value → State → Outcome → State → Prop} (hpost : ∀ tb e args s v u, (limb_1_1.after args s (.returned v) u = true ∧ limb_1_2.after args s (.returned v) u = true ∧ True) → ReturnedEndW s (.returned v) u (Jvm.fieldLocs frame_1_writes args s ++ Jvm.arrayLocs frame_1_arrays args s ++ Jvm.staticLocs frame_1_statics s) 56 7424 → Post tb e args s (.returned v) u) :
    ArmFor flags0 classFile x code maxLocals ret World_1 tables_1 room_1 Calls_1 rest_1 Pre_1 Post := by
  intro l hfl _ _ p e ha hc hk s m args below hf hA hF happ hP
  obtain ⟨hcalls, hrest, hpre⟩ := hP
  obtain ⟨-, -, -, hnamed, -, -, -, hat⟩ := (Spec.applies_iff hf).mp happ
  obtain ⟨hg, hn⟩ := and_e (Cond.before_iff.mp (show (Jvm.Cond.and given_1 narrow_1).before args s = true from hpre))
  obtain ⟨ga1, gb1⟩ := and_e hg
  obtain ⟨ga2, gb2⟩ := and_e gb1
  obtain ⟨ga3, gb3⟩ := and_e gb2
  obtain ⟨ga4, gb4⟩ := and_e gb3
  obtain ⟨w0, w1, w2, w3, rfl⟩ : ∃ w0 w1 w2 w3 : Value, args = #[w0, w1, w2, w3] := by
    have hs : args.size = 4 := by simpa [Cond.value, given_1] using ga1
    obtain ⟨L⟩ := args
    match L, hs with
    | [w0, w1, w2, w3], _ => exact ⟨w0, w1, w2, w3, rfl⟩
  have hw := fun d (hd : d ∈ tables_1) => atoms_spec (ws := Jvm.Cond.code x code maxLocals ret :: tables_1) hat d (List.mem_cons_of_mem _ hd)
  have hfit : Fit s := fun {y c} hc i hi => by
    obtain ⟨ha, rfl⟩ := Array.getElem?_eq_some_iff.mp hc
    have q := List.all_eq_true.mp ((Array.all_eq_true_iff_forall_mem.mp hF) _ (Array.getElem_mem ha)) i (List.mem_range.mpr hi)
    simpa [Array.getElem?_eq_getElem hi] using q
  obtain ⟨hsets, hown0⟩ := atoms_of _ (rest_1_c_eq ▸ (show rest_1_c.before _ s = true from hrest))
  have hr0 := Cond.before_iff.mp hown0
  obtain ⟨i0, ei0⟩ := is_v ga2
  obtain rfl : w0 = (.int i0) := Option.some.inj ei0
  obtain ⟨i1, ei1⟩ := is_v ga3
  obtain rfl : w1 = (.int i1) := Option.some.inj ei1
  obtain ⟨i2, ei2⟩ := is_v ga4
  obtain rfl : w2 = (.int i2) := Option.some.inj ei2
  obtain ⟨i3, ei3⟩ := is_v gb4
  obtain rfl : w3 = (.int i3) := Option.some.inj ei3
  obtain ⟨cs, ecs, SCS⟩ := sta_int (hsets _ (List.mem_of_getElem? (i := 0) rfl)) (hsets _ (List.mem_of_getElem? (i := 1) rfl))
  have hcs := ne_int ecs (hsets _ (List.mem_of_getElem? (i := 2) rfl))
  obtain ⟨fm, efm, hfm, SFM⟩ := sta_ref (hsets _ (List.mem_of_getElem? (i := 7) rfl)) (hsets _ (List.mem_of_getElem? (i := 8) rfl))
  have hcw : Jvm.Lit.compactW.before #[.int i0, .int i1, .int i2, .int i3] s = true := (hsets _ (List.mem_of_getElem? (i := 2) rfl))
  have hCH := CHv.start (own_EW hw) (show ∀ p ∈ consts_1, Jvm.Lit.constHeld s p.1 p.2 from hcalls.1) hcw (wd23 hw) (wd6 hw)
  obtain ⟨n, o, h1, h2, h3, _, L, rfl, ⟨rfl, N⟩, -, hq⟩ := law0 l s _ hw i0 i1 i2 i3 cs fm s.heap ⟨Nat.le_refl _, fun _ _ q => q⟩ SCS SFM hcs hfm p e ha hc hk s m _ below hf ((Spec.applies_iff_loose hf).mp happ).1 ⟨rfl, State.Warmed39.refl s, rfl, hCH⟩ trivial
  refine ⟨n, _, h1, h2, h3, hpost _ _ _ _ _ _ ⟨Cond.after_iff.mpr rfl, Cond.after_iff.mpr (eq_i res_at (Term.int_eval (1)) rfl), trivial⟩ ⟨hq.1, hq.2.1, hq.2.2.1, (hq.2.2.2.sift fun y hy => Or.inr (N y hy)).mono (by decide) (by decide)⟩⟩
theorem main_1_1 : Claimed_1_1 := comes_1 fun _ _ _ _ _ _ h hF => ⟨h.1, hF⟩
theorem main_1_2 : Claimed_1_2 := comes_1 fun _ _ _ _ _ _ h hF => ⟨h.2.1, hF⟩
end Jvm.Pilot.@@N@@
namespace Jvm.Pilot.@@N@@
open Jvm Jvm.ClassFile Sem Op Lib Jvm.Free Jvm.Stand Jvm.Pilot.@@N@@.Jvm.D
/-! MADE BY PROGRAM (witnessworld.py) out of the Statement's table words and the real class files: 27 classes; the members and pool entries that the words name. The judged class is class 1, her method 4. -/
namespace start1
open Jvm.ClassFile
def u (s : String) : CpInfo := .utf8 (stringToUtf16 s)
/-- a pool by its gaps: so many unusable entries, then the entry; so many at the end -/
def gap : Nat → List CpInfo → List CpInfo
  | 0, r => r
  | n + 1, r => .unusable :: gap n r
def poolList (es : List (Nat × CpInfo)) (last : Nat) : List CpInfo := es.foldr (fun e r => gap e.1 (e.2 :: r)) (gap last [])
def pool (es : List (Nat × CpInfo)) (last : Nat) : Array CpInfo := ⟨poolList es last⟩
def fileOf (pool : Array CpInfo) (this : Nat) (attrs : Array Attribute := #[]) (ms : Array MethodInfo := #[]) (fl : Nat := 33) (sup : Nat := 0) (ifs : Array Nat := #[]) (fds : Array FieldInfo := #[]) : ClassFile where
  minorVersion := 0
  majorVersion := 65
  constantPool := pool
  accessFlags := fl
  thisClass := this
  superClass := sup
  interfaces := ifs
  fields := fds
  methods := ms
  attributes := attrs
def plain (name : String) (sup : Option ClassId) : Class where
  name := name
  kind := .ordinary
  loader := none
  accessFlags := 33
  super := sup
  interfaces := #[]
  cf := none
  fields := #[]
  methods := #[]
  instanceTypes := #[]
  staticTypes := #[]
  resolved := #[]
  callSites := []
  init := .initialized
  statics := none
  mirror := none

def pool0 : Array CpInfo := pool [(5, u "<init>"), (0, u "()V"), (1, .class_ 10), (1, u "java/lang/Object")] 113

def k0c0 : Code := { maxStack := 0, maxLocals := 1, code := object_method_1_code, exceptionTable := #[], attributes := #[] }
def k0m0 : Method := { name := "<init>", desc := "()V", sig := { parameters := [], returnType := none }, accessFlags := 1, code := some k0c0 }
/-- java/lang/Object -/
def k0 : Class := { plain "java/lang/Object" none with
  accessFlags := 33
  interfaces := #[]
  cf := some (fileOf pool0 8 #[] #[{ accessFlags := 1, nameIndex := 5, descriptorIndex := 6, attributes := #[] }] 33 0 #[] #[])
  fields := #[]
  methods := #[k0m0]
  instanceTypes := #[]
  staticTypes := #[]
  resolved := Array.replicate 124 none
  statics := none }

def pool1 : Array CpInfo := pool [(2, .class_ 4), (1, u "java/lang/Object"), (0, u "<init>"), (0, u "()V"), (0, .integer 2147483647), (0, .methodref 9 10), (0, .class_ 11), (0, .nameAndType 12 13), (0, u "com/example/match_before_write/matchbeforewrite/EntityTagStrongPinLaw"), (0, u "etagc"), (0, u "(I)C"), (0, .class_ 15), (0, u "java/lang/String"), (0, .methodref 9 17), (0, .nameAndType 18 19), (0, u "chars"), (0, u "(ICCC)[C"), (0, .methodref 14 21), (0, .nameAndType 5 22), (0, u "([C)V"), (0, .methodref 9 24), (0, .nameAndType 25 19), (0, u "quoted"), (0, .methodref 27 28), (0, .class_ 29), (0, .nameAndType 30 31), (0, u "com/example/match_before_write/matchbeforewrite/EntityTag"), (0, u "strong"), (0, u "(Ljava/lang/String;)Lcom/example/match_before_write/matchbeforewrite/EntityTag;"), (0, .methodref 27 33), (0, .nameAndType 34 35), (0, u "isWeak"), (0, u "()Z"), (0, .methodref 27 37), (0, .nameAndType 38 39), (0, u "value"), (0, u "()Ljava/lang/String;"), (0, .methodref 14 41), (0, .nameAndType 42 43), (0, u "equals"), (0, u "(Ljava/lang/Object;)Z"), (0, .methodref 27 45), (0, .nameAndType 46 39), (0, u "toString"), (0, .methodref 27 48), (0, .nameAndType 49 50), (0, u "strongMatch"), (0, u "(Lcom/example/match_before_write/matchbeforewrite/EntityTag;)Z"), (0, .methodref 27 52), (0, .nameAndType 53 31), (0, u "parse"), (0, .methodref 27 41), (3, u "law"), (0, u "(IIII)Z")] 2

def k1m0 : Method := { name := "<init>", desc := "()V", sig := { parameters := [], returnType := none }, accessFlags := 1, code := none }
def k1c1 : Code := { maxStack := 3, maxLocals := 2, code := method_2_code, exceptionTable := #[], attributes := #[] }
def k1m1 : Method := { name := "etagc", desc := "(I)C", sig := { parameters := [.int], returnType := some .char }, accessFlags := 10, code := some k1c1 }
def k1c2 : Code := { maxStack := 4, maxLocals := 4, code := method_3_code, exceptionTable := #[], attributes := #[] }
def k1m2 : Method := { name := "chars", desc := "(ICCC)[C", sig := { parameters := [.int, .char, .char, .char], returnType := some (.array .char) }, accessFlags := 10, code := some k1c2 }
def k1c3 : Code := { maxStack := 4, maxLocals := 4, code := method_4_code, exceptionTable := #[], attributes := #[] }
def k1m3 : Method := { name := "quoted", desc := "(ICCC)[C", sig := { parameters := [.int, .char, .char, .char], returnType := some (.array .char) }, accessFlags := 10, code := some k1c3 }
def k1c4 : Code := { maxStack := 6, maxLocals := 13, code := code, exceptionTable := #[], attributes := #[] }
def k1m4 : Method := { name := "law", desc := "(IIII)Z", sig := { parameters := [.int, .int, .int, .int], returnType := some .boolean }, accessFlags := 9, code := some k1c4 }
/-- com/example/match_before_write/matchbeforewrite/EntityTagStrongPinLaw -/
def k1 : Class := { plain "com/example/match_before_write/matchbeforewrite/EntityTagStrongPinLaw" (some 0) with
  accessFlags := 49
  interfaces := #[]
  cf := some (fileOf pool1 9 #[] #[{ accessFlags := 1, nameIndex := 5, descriptorIndex := 6, attributes := #[] }, { accessFlags := 10, nameIndex := 12, descriptorIndex := 13, attributes := #[] }, { accessFlags := 10, nameIndex := 18, descriptorIndex := 19, attributes := #[] }, { accessFlags := 10, nameIndex := 25, descriptorIndex := 19, attributes := #[] }, { accessFlags := 9, nameIndex := 58, descriptorIndex := 59, attributes := #[] }] 49 2 #[] #[])
  fields := #[]
  methods := #[k1m0, k1m1, k1m2, k1m3, k1m4]
  instanceTypes := #[]
  staticTypes := #[]
  resolved := Array.replicate 62 none
  statics := none }

def pool2 : Array CpInfo := pool [(1, .class_ 2), (0, u "java/io/Serializable"), (0, .class_ 4), (0, u "java/lang/Object")] 2

/-- java/io/Serializable -/
def k2 : Class := { plain "java/io/Serializable" (some 0) with
  accessFlags := 1537
  interfaces := #[]
  cf := some (fileOf pool2 1 #[] #[] 1537 3 #[] #[])
  fields := #[]
  methods := #[]
  instanceTypes := #[]
  staticTypes := #[]
  resolved := Array.replicate 7 none
  statics := none }

def pool3 : Array CpInfo := pool [(1, .class_ 2), (0, u "java/lang/Comparable"), (0, .class_ 4), (0, u "java/lang/Object")] 7

/-- java/lang/Comparable -/
def k3 : Class := { plain "java/lang/Comparable" (some 0) with
  accessFlags := 1537
  interfaces := #[]
  cf := some (fileOf pool3 1 #[] #[] 1537 3 #[] #[])
  fields := #[]
  methods := #[]
  instanceTypes := #[]
  staticTypes := #[]
  resolved := Array.replicate 12 none
  statics := none }

def pool4 : Array CpInfo := pool [(2, .class_ 4), (1, u "java/lang/CharSequence"), (42, .class_ 48), (0, u "java/lang/CharSequence$1CodePointIterator"), (10, .class_ 60), (0, u "java/lang/CharSequence$1CharIterator"), (5, .class_ 67), (0, u "java/lang/Object")] 63

/-- java/lang/CharSequence -/
def k4 : Class := { plain "java/lang/CharSequence" (some 0) with
  accessFlags := 1537
  interfaces := #[]
  cf := some (fileOf pool4 2 #[.nestMembers #[47, 59]] #[] 1537 66 #[] #[])
  fields := #[]
  methods := #[]
  instanceTypes := #[]
  staticTypes := #[]
  resolved := Array.replicate 131 none
  statics := none }

def pool5 : Array CpInfo := pool [(1, .class_ 2), (0, u "java/lang/constant/Constable"), (0, .class_ 4), (0, u "java/lang/Object")] 6

/-- java/lang/constant/Constable -/
def k5 : Class := { plain "java/lang/constant/Constable" (some 0) with
  accessFlags := 1537
  interfaces := #[]
  cf := some (fileOf pool5 1 #[] #[] 1537 3 #[] #[])
  fields := #[]
  methods := #[]
  instanceTypes := #[]
  staticTypes := #[]
  resolved := Array.replicate 11 none
  statics := none }

def pool6 : Array CpInfo := pool [(1, .class_ 2), (0, u "java/lang/constant/ConstantDesc"), (0, .class_ 4), (0, u "java/lang/Object")] 32

/-- java/lang/constant/ConstantDesc -/
def k6 : Class := { plain "java/lang/constant/ConstantDesc" (some 0) with
  accessFlags := 1537
  interfaces := #[]
  cf := some (fileOf pool6 1 #[] #[] 1537 3 #[] #[])
  fields := #[]
  methods := #[]
  instanceTypes := #[]
  staticTypes := #[]
  resolved := Array.replicate 37 none
  statics := none }

def pool7 : Array CpInfo := pool [(1, .methodref 2 3), (0, .class_ 4), (0, .nameAndType 5 6), (0, u "java/lang/Object"), (0, u "<init>"), (0, u "()V"), (0, .string 8), (0, u ""), (0, .fieldref 10 11), (0, .class_ 12), (0, .nameAndType 13 14), (0, u "java/lang/String"), (0, u "value"), (0, u "[B"), (0, .fieldref 10 16), (0, .nameAndType 17 18), (0, u "coder"), (0, u "B"), (2, u "hash"), (0, u "I"), (2, u "hashIsZero"), (0, u "Z"), (0, .methodref 10 28), (0, .nameAndType 5 29), (0, u "([CIILjava/lang/Void;)V"), (8, .fieldref 10 39), (0, .nameAndType 40 26), (0, u "COMPACT_STRINGS"), (1, .class_ 44), (1, u "java/lang/StringUTF16"), (0, u "compress"), (1, .methodref 42 48), (0, .nameAndType 49 50), (0, u "coderFromArrayLen"), (0, u "([BI)B"), (3, .methodref 55 56), (0, .class_ 57), (0, .nameAndType 58 59), (0, u "java/util/Arrays"), (0, u "copyOfRange"), (0, u "([BII)[B"), (47, .class_ 109), (1, u "java/lang/StringLatin1"), (32, u "()Z"), (34, .methodref 42 178), (0, .nameAndType 45 179), (0, u "([CII)[B"), (13, .class_ 195), (1, u "java/lang/System"), (15, u "([BB)V"), (0, .methodref 193 213), (0, .nameAndType 214 215), (0, u "arraycopy"), (0, u "(Ljava/lang/Object;ILjava/lang/Object;II)V"), (118, u "()I"), (0, .methodref 10 336), (0, .nameAndType 17 337), (0, u "()B"), (2, u "()[B"), (22, u "([BI)C"), (12, u "([BI[BII)I"), (14, u "(II)V"), (35, u "(I)C"), (61, .methodref 10 490), (0, .nameAndType 5 491), (0, u "(Ljava/lang/AbstractStringBuilder;Ljava/lang/Void;)V"), (0, .methodref 10 493), (0, .nameAndType 494 142), (0, u "isLatin1"), (0, .methodref 107 496), (0, .nameAndType 497 363), (0, u "charAt"), (3, u "checkIndex"), (3, .methodref 10 506), (0, .nameAndType 507 334), (0, u "length"), (5, u "checkFromToIndex"), (7, .methodref 10 522), (0, .nameAndType 523 524), (0, u "checkBoundsBeginEnd"), (0, u "(III)V"), (7, u "getBytes"), (8, .methodref 107 542), (0, .nameAndType 543 544), (0, u "equals"), (0, u "([B[B)Z"), (4, .methodref 550 506), (0, .class_ 551), (0, u "java/lang/AbstractStringBuilder"), (0, .methodref 550 553), (0, .nameAndType 554 340), (0, u "getValue"), (4, .class_ 561), (1, u "jdk/internal/util/ArraysSupport"), (0, u "mismatch"), (10, u "(Ljava/lang/Object;)Z"), (1, .class_ 576), (0, u "java/lang/CharSequence"), (22, u "CASE_INSENSITIVE_ORDER"), (0, u "Ljava/util/Comparator;"), (6, .methodref 559 608), (0, .nameAndType 562 376), (15, .methodref 10 625), (0, .nameAndType 626 627), (0, u "startsWith"), (0, u "(Ljava/lang/String;I)Z"), (55, u "substring"), (0, u "(II)Ljava/lang/String;"), (0, .methodref 107 686), (0, .nameAndType 687 688), (0, u "newString"), (0, u "([BII)Ljava/lang/String;"), (132, u "([BIB)V"), (188, u "([C)V"), (36, .methodref 550 493), (5, .fieldref 1054 1055), (0, .class_ 1056), (0, .nameAndType 1057 1058), (0, u "jdk/internal/util/Preconditions"), (0, u "SIOOBE_FORMATTER"), (0, u "Ljava/util/function/BiFunction;"), (0, .methodref 1054 1060), (0, .nameAndType 501 1061), (0, u "(IILjava/util/function/BiFunction;)I"), (0, .methodref 1054 1063), (0, .nameAndType 513 1064), (0, u "(IIILjava/util/function/BiFunction;)I"), (36, u "serialPersistentFields"), (0, u "[Ljava/io/ObjectStreamField;"), (0, .class_ 1104), (0, u "java/lang/String$CaseInsensitiveComparator"), (1, .class_ 1107), (0, u "java/io/Serializable"), (0, .class_ 1109), (0, u "java/lang/Comparable"), (0, .class_ 1111), (0, u "java/lang/constant/Constable"), (0, .class_ 1113), (0, u "java/lang/constant/ConstantDesc"), (2, u "serialVersionUID"), (0, u "J"), (3, u "REPL"), (0, u "C"), (2, u "LATIN1"), (1, u "UTF16"), (105, u "(Ljava/lang/StringBuilder;)V"), (23, u "(Ljava/lang/String;)Z")] 193

def k7m0 : Method := { name := "<init>", desc := "()V", sig := { parameters := [], returnType := none }, accessFlags := 1, code := none }
def k7c1 : Code := { maxStack := 5, maxLocals := 2, code := jdk_42_method_3_code, exceptionTable := #[], attributes := #[] }
def k7m1 : Method := { name := "<init>", desc := "([C)V", sig := { parameters := [(.array .char)], returnType := none }, accessFlags := 1, code := some k7c1 }
def k7c2 : Code := { maxStack := 3, maxLocals := 2, code := jdk_42_method_53_code, exceptionTable := #[], attributes := #[] }
def k7m2 : Method := { name := "<init>", desc := "(Ljava/lang/StringBuilder;)V", sig := { parameters := [(.object "java/lang/StringBuilder")], returnType := none }, accessFlags := 1, code := some k7c2 }
def k7c3 : Code := { maxStack := 2, maxLocals := 1, code := jdk_42_method_54_code, exceptionTable := #[], attributes := #[] }
def k7m3 : Method := { name := "length", desc := "()I", sig := { parameters := [], returnType := some .int }, accessFlags := 1, code := some k7c3 }
def k7c4 : Code := { maxStack := 2, maxLocals := 2, code := jdk_42_method_56_code, exceptionTable := #[], attributes := #[] }
def k7m4 : Method := { name := "charAt", desc := "(I)C", sig := { parameters := [.int], returnType := some .char }, accessFlags := 1, code := some k7c4 }
def k7c5 : Code := { maxStack := 2, maxLocals := 3, code := jdk_42_method_66_code, exceptionTable := #[], attributes := #[] }
def k7m5 : Method := { name := "equals", desc := "(Ljava/lang/Object;)Z", sig := { parameters := [(.object "java/lang/Object")], returnType := some .boolean }, accessFlags := 1, code := some k7c5 }
def k7c6 : Code := { maxStack := 5, maxLocals := 8, code := jdk_42_method_75_code, exceptionTable := #[], attributes := #[] }
def k7m6 : Method := { name := "startsWith", desc := "(Ljava/lang/String;I)Z", sig := { parameters := [(.object "java/lang/String"), .int], returnType := some .boolean }, accessFlags := 1, code := some k7c6 }
def k7c7 : Code := { maxStack := 3, maxLocals := 2, code := jdk_42_method_76_code, exceptionTable := #[], attributes := #[] }
def k7m7 : Method := { name := "startsWith", desc := "(Ljava/lang/String;)Z", sig := { parameters := [(.object "java/lang/String")], returnType := some .boolean }, accessFlags := 1, code := some k7c7 }
def k7c8 : Code := { maxStack := 3, maxLocals := 5, code := jdk_42_method_92_code, exceptionTable := #[], attributes := #[] }
def k7m8 : Method := { name := "substring", desc := "(II)Ljava/lang/String;", sig := { parameters := [.int, .int], returnType := some (.object "java/lang/String") }, accessFlags := 1, code := some k7c8 }
def k7c9 : Code := { maxStack := 5, maxLocals := 4, code := jdk_42_method_147_code, exceptionTable := #[], attributes := #[] }
def k7m9 : Method := { name := "getBytes", desc := "([BIB)V", sig := { parameters := [(.array .byte), .int, .byte], returnType := none }, accessFlags := 0, code := some k7c9 }
def k7c10 : Code := { maxStack := 4, maxLocals := 6, code := jdk_42_method_149_code, exceptionTable := #[], attributes := #[] }
def k7m10 : Method := { name := "<init>", desc := "([CIILjava/lang/Void;)V", sig := { parameters := [(.array .char), .int, .int, (.object "java/lang/Void")], returnType := none }, accessFlags := 2, code := some k7c10 }
def k7c11 : Code := { maxStack := 5, maxLocals := 5, code := jdk_42_method_150_code, exceptionTable := #[], attributes := #[] }
def k7m11 : Method := { name := "<init>", desc := "(Ljava/lang/AbstractStringBuilder;Ljava/lang/Void;)V", sig := { parameters := [(.object "java/lang/AbstractStringBuilder"), (.object "java/lang/Void")], returnType := none }, accessFlags := 0, code := some k7c11 }
def k7c12 : Code := { maxStack := 2, maxLocals := 3, code := jdk_42_method_151_code, exceptionTable := #[], attributes := #[] }
def k7m12 : Method := { name := "<init>", desc := "([BB)V", sig := { parameters := [(.array .byte), .byte], returnType := none }, accessFlags := 0, code := some k7c12 }
def k7c13 : Code := { maxStack := 1, maxLocals := 1, code := jdk_42_method_152_code, exceptionTable := #[], attributes := #[] }
def k7m13 : Method := { name := "coder", desc := "()B", sig := { parameters := [], returnType := some .byte }, accessFlags := 0, code := some k7c13 }
def k7c14 : Code := { maxStack := 1, maxLocals := 1, code := jdk_42_method_154_code, exceptionTable := #[], attributes := #[] }
def k7m14 : Method := { name := "isLatin1", desc := "()Z", sig := { parameters := [], returnType := some .boolean }, accessFlags := 0, code := some k7c14 }
def k7c15 : Code := { maxStack := 3, maxLocals := 2, code := jdk_42_method_155_code, exceptionTable := #[], attributes := #[] }
def k7m15 : Method := { name := "checkIndex", desc := "(II)V", sig := { parameters := [.int, .int], returnType := none }, accessFlags := 8, code := some k7c15 }
def k7c16 : Code := { maxStack := 4, maxLocals := 3, code := jdk_42_method_158_code, exceptionTable := #[], attributes := #[] }
def k7m16 : Method := { name := "checkBoundsBeginEnd", desc := "(III)V", sig := { parameters := [.int, .int, .int], returnType := none }, accessFlags := 8, code := some k7c16 }
/-- java/lang/String -/
def k7 : Class := { plain "java/lang/String" (some 0) with
  accessFlags := 49
  interfaces := #[2, 3, 4, 5, 6]
  cf := some (fileOf pool7 10 #[.nestMembers #[1103]] #[{ accessFlags := 1, nameIndex := 5, descriptorIndex := 6, attributes := #[] }, { accessFlags := 1, nameIndex := 5, descriptorIndex := 1010, attributes := #[] }, { accessFlags := 1, nameIndex := 5, descriptorIndex := 1233, attributes := #[] }, { accessFlags := 1, nameIndex := 507, descriptorIndex := 334, attributes := #[] }, { accessFlags := 1, nameIndex := 497, descriptorIndex := 427, attributes := #[] }, { accessFlags := 1, nameIndex := 543, descriptorIndex := 573, attributes := #[] }, { accessFlags := 1, nameIndex := 626, descriptorIndex := 627, attributes := #[] }, { accessFlags := 1, nameIndex := 626, descriptorIndex := 1257, attributes := #[] }, { accessFlags := 1, nameIndex := 683, descriptorIndex := 684, attributes := #[] }, { accessFlags := 0, nameIndex := 532, descriptorIndex := 821, attributes := #[] }, { accessFlags := 2, nameIndex := 5, descriptorIndex := 29, attributes := #[] }, { accessFlags := 0, nameIndex := 5, descriptorIndex := 491, attributes := #[] }, { accessFlags := 0, nameIndex := 5, descriptorIndex := 211, attributes := #[] }, { accessFlags := 0, nameIndex := 17, descriptorIndex := 337, attributes := #[] }, { accessFlags := 0, nameIndex := 494, descriptorIndex := 142, attributes := #[] }, { accessFlags := 8, nameIndex := 501, descriptorIndex := 391, attributes := #[] }, { accessFlags := 8, nameIndex := 523, descriptorIndex := 524, attributes := #[] }] 49 2 #[1106, 1108, 575, 1110, 1112] #[{ accessFlags := 18, nameIndex := 13, descriptorIndex := 14, attributes := #[] }, { accessFlags := 18, nameIndex := 17, descriptorIndex := 18, attributes := #[] }, { accessFlags := 2, nameIndex := 21, descriptorIndex := 22, attributes := #[] }, { accessFlags := 2, nameIndex := 25, descriptorIndex := 26, attributes := #[] }, { accessFlags := 26, nameIndex := 1116, descriptorIndex := 1117, attributes := #[] }, { accessFlags := 24, nameIndex := 40, descriptorIndex := 26, attributes := #[] }, { accessFlags := 26, nameIndex := 1101, descriptorIndex := 1102, attributes := #[] }, { accessFlags := 26, nameIndex := 1121, descriptorIndex := 1122, attributes := #[] }, { accessFlags := 25, nameIndex := 599, descriptorIndex := 600, attributes := #[] }, { accessFlags := 24, nameIndex := 1125, descriptorIndex := 18, attributes := #[] }, { accessFlags := 24, nameIndex := 1127, descriptorIndex := 18, attributes := #[] }])
  fields := #[{ name := "value", type := (.array .byte), accessFlags := 18, slot := 0, constantValue := 0 }, { name := "coder", type := .byte, accessFlags := 18, slot := 1, constantValue := 0 }, { name := "hash", type := .int, accessFlags := 2, slot := 2, constantValue := 0 }, { name := "hashIsZero", type := .boolean, accessFlags := 2, slot := 3, constantValue := 0 }, { name := "serialVersionUID", type := .long, accessFlags := 26, slot := 0, constantValue := 0 }, { name := "COMPACT_STRINGS", type := .boolean, accessFlags := 24, slot := 1, constantValue := 0 }, { name := "serialPersistentFields", type := (.array (.object "java/io/ObjectStreamField")), accessFlags := 26, slot := 2, constantValue := 0 }, { name := "REPL", type := .char, accessFlags := 26, slot := 3, constantValue := 0 }, { name := "CASE_INSENSITIVE_ORDER", type := (.object "java/util/Comparator"), accessFlags := 25, slot := 4, constantValue := 0 }, { name := "LATIN1", type := .byte, accessFlags := 24, slot := 5, constantValue := 0 }, { name := "UTF16", type := .byte, accessFlags := 24, slot := 6, constantValue := 0 }]
  methods := #[k7m0, k7m1, k7m2, k7m3, k7m4, k7m5, k7m6, k7m7, k7m8, k7m9, k7m10, k7m11, k7m12, k7m13, k7m14, k7m15, k7m16]
  instanceTypes := #[(.array .byte), .byte, .int, .boolean]
  staticTypes := #[.long, .boolean, (.array (.object "java/io/ObjectStreamField")), .char, (.object "java/util/Comparator"), .byte, .byte]
  resolved := Array.replicate 1451 none
  statics := some 0 }

def pool8 : Array CpInfo := pool [(6, .class_ 8), (1, u "java/lang/Object"), (0, u "<init>"), (0, u "()V"), (1, .class_ 14), (1, u "java/lang/StringUTF16"), (31, u "$assertionsDisabled"), (0, u "Z"), (13, u "HI_BYTE_SHIFT"), (0, u "I"), (2, u "LO_BYTE_SHIFT"), (49, .methodref 12 116), (0, .nameAndType 117 118), (0, u "compress"), (0, u "([CI[BII)I"), (3, u "([CII)[B"), (138, u "coderFromArrayLen"), (0, u "([BI)B"), (106, .class_ 371), (1, u "java/lang/StringUTF16$LinesSpliterator"), (58, u "MAX_LENGTH"), (196, .class_ 628), (0, u "java/lang/StringUTF16$CodePointsSpliterator"), (0, .class_ 630), (0, u "java/lang/StringUTF16$CharsSpliterator")] 4

def k8m0 : Method := { name := "<init>", desc := "()V", sig := { parameters := [], returnType := none }, accessFlags := 0, code := none }
def k8c1 : Code := { maxStack := 2, maxLocals := 2, code := jdk_52_method_15_code, exceptionTable := #[], attributes := #[] }
def k8m1 : Method := { name := "coderFromArrayLen", desc := "([BI)B", sig := { parameters := [(.array .byte), .int], returnType := some .byte }, accessFlags := 8, code := some k8c1 }
def k8c2 : Code := { maxStack := 5, maxLocals := 6, code := jdk_52_method_16_code, exceptionTable := #[], attributes := #[] }
def k8m2 : Method := { name := "compress", desc := "([CII)[B", sig := { parameters := [(.array .char), .int, .int], returnType := some (.array .byte) }, accessFlags := 9, code := some k8c2 }
def k8c3 : Code := { maxStack := 3, maxLocals := 7, code := jdk_52_method_21_code, exceptionTable := #[], attributes := #[] }
def k8m3 : Method := { name := "compress", desc := "([CI[BII)I", sig := { parameters := [(.array .char), .int, (.array .byte), .int, .int], returnType := some .int }, accessFlags := 9, code := some k8c3 }
/-- java/lang/StringUTF16 -/
def k8 : Class := { plain "java/lang/StringUTF16" (some 0) with
  accessFlags := 48
  interfaces := #[]
  cf := some (fileOf pool8 12 #[.nestMembers #[627, 629, 369]] #[{ accessFlags := 0, nameIndex := 9, descriptorIndex := 10, attributes := #[] }, { accessFlags := 8, nameIndex := 261, descriptorIndex := 262, attributes := #[] }, { accessFlags := 9, nameIndex := 117, descriptorIndex := 122, attributes := #[] }, { accessFlags := 9, nameIndex := 117, descriptorIndex := 118, attributes := #[] }] 48 6 #[] #[{ accessFlags := 26, nameIndex := 61, descriptorIndex := 62, attributes := #[] }, { accessFlags := 26, nameIndex := 65, descriptorIndex := 62, attributes := #[] }, { accessFlags := 24, nameIndex := 430, descriptorIndex := 62, attributes := #[] }, { accessFlags := 4120, nameIndex := 46, descriptorIndex := 47, attributes := #[] }])
  fields := #[{ name := "HI_BYTE_SHIFT", type := .int, accessFlags := 26, slot := 0, constantValue := 0 }, { name := "LO_BYTE_SHIFT", type := .int, accessFlags := 26, slot := 1, constantValue := 0 }, { name := "MAX_LENGTH", type := .int, accessFlags := 24, slot := 2, constantValue := 0 }, { name := "$assertionsDisabled", type := .boolean, accessFlags := 4120, slot := 3, constantValue := 0 }]
  methods := #[k8m0, k8m1, k8m2, k8m3]
  instanceTypes := #[]
  staticTypes := #[.int, .int, .int, .boolean]
  resolved := Array.replicate 635 none
  statics := none }

def pool9 : Array CpInfo := pool [(1, .methodref 2 3), (0, .class_ 4), (0, .nameAndType 5 6), (0, u "java/lang/Object"), (0, u "<init>"), (0, u "()V"), (0, .fieldref 8 9), (0, .class_ 10), (0, .nameAndType 11 12), (0, u "com/example/match_before_write/matchbeforewrite/EntityTag"), (0, u "weak"), (0, u "Z"), (0, .fieldref 8 14), (0, .nameAndType 15 16), (0, u "value"), (0, u "Ljava/lang/String;"), (0, .methodref 8 18), (0, .nameAndType 19 20), (0, u "checkedValue"), (0, u "(Ljava/lang/String;I)Ljava/lang/String;"), (0, .methodref 8 22), (0, .nameAndType 5 23), (0, u "(ZLjava/lang/String;)V"), (0, .string 25), (0, u "text"), (0, .methodref 27 28), (0, .class_ 29), (0, .nameAndType 30 31), (0, u "java/util/Objects"), (0, u "requireNonNull"), (0, u "(Ljava/lang/Object;Ljava/lang/String;)Ljava/lang/Object;"), (0, .string 33), (0, u "W/"), (0, .methodref 35 36), (0, .class_ 37), (0, .nameAndType 38 39), (0, u "java/lang/String"), (0, u "startsWith"), (0, u "(Ljava/lang/String;)Z"), (0, .methodref 35 41), (0, .nameAndType 42 43), (0, u "length"), (0, u "()I"), (0, .methodref 35 45), (0, .nameAndType 46 47), (0, u "charAt"), (0, u "(I)C"), (7, .methodref 35 56), (0, .nameAndType 57 58), (0, u "substring"), (0, u "(II)Ljava/lang/String;"), (0, .string 60), (0, u "other"), (0, .methodref 35 62), (0, .nameAndType 63 64), (0, u "equals"), (0, u "(Ljava/lang/Object;)Z"), (0, .fieldref 8 66), (0, .nameAndType 67 16), (0, u "field"), (0, .class_ 69), (0, u "java/lang/StringBuilder"), (0, .methodref 68 3), (0, .string 72), (0, u ""), (0, .methodref 68 74), (0, .nameAndType 75 76), (0, u "append"), (0, u "(Ljava/lang/String;)Ljava/lang/StringBuilder;"), (0, .methodref 68 78), (0, .nameAndType 75 79), (0, u "(C)Ljava/lang/StringBuilder;"), (0, .methodref 68 81), (0, .nameAndType 82 83), (0, u "toString"), (0, u "()Ljava/lang/String;"), (8, .string 15), (16, u "WEAK_PREFIX"), (1, u "QUOTE"), (0, u "C"), (3, u "strong"), (0, u "(Ljava/lang/String;)Lcom/example/match_before_write/matchbeforewrite/EntityTag;"), (0, u "parse"), (1, u "isWeak"), (0, u "()Z"), (0, u "strongMatch"), (0, u "(Lcom/example/match_before_write/matchbeforewrite/EntityTag;)Z")] 3

def k9c0 : Code := { maxStack := 2, maxLocals := 3, code := prog_5_method_1_code, exceptionTable := #[], attributes := #[] }
def k9m0 : Method := { name := "<init>", desc := "(ZLjava/lang/String;)V", sig := { parameters := [.boolean, (.object "java/lang/String")], returnType := none }, accessFlags := 2, code := some k9c0 }
def k9c1 : Code := { maxStack := 5, maxLocals := 1, code := prog_5_method_2_code, exceptionTable := #[], attributes := #[] }
def k9m1 : Method := { name := "strong", desc := "(Ljava/lang/String;)Lcom/example/match_before_write/matchbeforewrite/EntityTag;", sig := { parameters := [(.object "java/lang/String")], returnType := some (.object "com/example/match_before_write/matchbeforewrite/EntityTag") }, accessFlags := 9, code := some k9c1 }
def k9c2 : Code := { maxStack := 4, maxLocals := 5, code := prog_5_method_4_code, exceptionTable := #[], attributes := #[] }
def k9m2 : Method := { name := "parse", desc := "(Ljava/lang/String;)Lcom/example/match_before_write/matchbeforewrite/EntityTag;", sig := { parameters := [(.object "java/lang/String")], returnType := some (.object "com/example/match_before_write/matchbeforewrite/EntityTag") }, accessFlags := 9, code := some k9c2 }
def k9c3 : Code := { maxStack := 1, maxLocals := 1, code := prog_5_method_5_code, exceptionTable := #[], attributes := #[] }
def k9m3 : Method := { name := "isWeak", desc := "()Z", sig := { parameters := [], returnType := some .boolean }, accessFlags := 1, code := some k9c3 }
def k9c4 : Code := { maxStack := 1, maxLocals := 1, code := prog_5_method_6_code, exceptionTable := #[], attributes := #[] }
def k9m4 : Method := { name := "value", desc := "()Ljava/lang/String;", sig := { parameters := [], returnType := some (.object "java/lang/String") }, accessFlags := 1, code := some k9c4 }
def k9c5 : Code := { maxStack := 2, maxLocals := 2, code := prog_5_method_7_code, exceptionTable := #[], attributes := #[] }
def k9m5 : Method := { name := "strongMatch", desc := "(Lcom/example/match_before_write/matchbeforewrite/EntityTag;)Z", sig := { parameters := [(.object "com/example/match_before_write/matchbeforewrite/EntityTag")], returnType := some .boolean }, accessFlags := 1, code := some k9c5 }
def k9c6 : Code := { maxStack := 2, maxLocals := 2, code := prog_5_method_9_code, exceptionTable := #[], attributes := #[] }
def k9m6 : Method := { name := "toString", desc := "()Ljava/lang/String;", sig := { parameters := [], returnType := some (.object "java/lang/String") }, accessFlags := 1, code := some k9c6 }
def k9c7 : Code := { maxStack := 2, maxLocals := 3, code := prog_5_method_10_code, exceptionTable := #[], attributes := #[] }
def k9m7 : Method := { name := "equals", desc := "(Ljava/lang/Object;)Z", sig := { parameters := [(.object "java/lang/Object")], returnType := some .boolean }, accessFlags := 1, code := some k9c7 }
def k9c8 : Code := { maxStack := 6, maxLocals := 6, code := prog_5_method_12_code, exceptionTable := #[], attributes := #[] }
def k9m8 : Method := { name := "checkedValue", desc := "(Ljava/lang/String;I)Ljava/lang/String;", sig := { parameters := [(.object "java/lang/String"), .int], returnType := some (.object "java/lang/String") }, accessFlags := 10, code := some k9c8 }
/-- com/example/match_before_write/matchbeforewrite/EntityTag -/
def k9 : Class := { plain "com/example/match_before_write/matchbeforewrite/EntityTag" (some 0) with
  accessFlags := 49
  interfaces := #[]
  cf := some (fileOf pool9 8 #[] #[{ accessFlags := 2, nameIndex := 5, descriptorIndex := 23, attributes := #[] }, { accessFlags := 9, nameIndex := 116, descriptorIndex := 117, attributes := #[] }, { accessFlags := 9, nameIndex := 118, descriptorIndex := 117, attributes := #[] }, { accessFlags := 1, nameIndex := 120, descriptorIndex := 121, attributes := #[] }, { accessFlags := 1, nameIndex := 15, descriptorIndex := 83, attributes := #[] }, { accessFlags := 1, nameIndex := 122, descriptorIndex := 123, attributes := #[] }, { accessFlags := 1, nameIndex := 82, descriptorIndex := 83, attributes := #[] }, { accessFlags := 1, nameIndex := 63, descriptorIndex := 64, attributes := #[] }, { accessFlags := 10, nameIndex := 19, descriptorIndex := 20, attributes := #[] }] 49 2 #[] #[{ accessFlags := 26, nameIndex := 109, descriptorIndex := 16, attributes := #[] }, { accessFlags := 26, nameIndex := 111, descriptorIndex := 112, attributes := #[] }, { accessFlags := 18, nameIndex := 11, descriptorIndex := 12, attributes := #[] }, { accessFlags := 18, nameIndex := 15, descriptorIndex := 16, attributes := #[] }, { accessFlags := 2, nameIndex := 67, descriptorIndex := 16, attributes := #[] }])
  fields := #[{ name := "WEAK_PREFIX", type := (.object "java/lang/String"), accessFlags := 26, slot := 0, constantValue := 0 }, { name := "QUOTE", type := .char, accessFlags := 26, slot := 1, constantValue := 0 }, { name := "weak", type := .boolean, accessFlags := 18, slot := 0, constantValue := 0 }, { name := "value", type := (.object "java/lang/String"), accessFlags := 18, slot := 1, constantValue := 0 }, { name := "field", type := (.object "java/lang/String"), accessFlags := 2, slot := 2, constantValue := 0 }]
  methods := #[k9m0, k9m1, k9m2, k9m3, k9m4, k9m5, k9m6, k9m7, k9m8]
  instanceTypes := #[.boolean, (.object "java/lang/String"), (.object "java/lang/String")]
  staticTypes := #[(.object "java/lang/String"), .char]
  resolved := Array.replicate 127 none
  statics := none }

def pool10 : Array CpInfo := pool [(2, .class_ 4), (1, u "java/lang/Object"), (0, u "<init>"), (0, u "()V"), (35, .class_ 44), (1, u "java/util/Objects"), (0, u "requireNonNull"), (48, u "(Ljava/lang/Object;Ljava/lang/String;)Ljava/lang/Object;")] 89

def k10m0 : Method := { name := "<init>", desc := "()V", sig := { parameters := [], returnType := none }, accessFlags := 2, code := none }
def k10c1 : Code := { maxStack := 3, maxLocals := 2, code := jdk_31_method_11_code, exceptionTable := #[], attributes := #[] }
def k10m1 : Method := { name := "requireNonNull", desc := "(Ljava/lang/Object;Ljava/lang/String;)Ljava/lang/Object;", sig := { parameters := [(.object "java/lang/Object"), (.object "java/lang/String")], returnType := some (.object "java/lang/Object") }, accessFlags := 9, code := some k10c1 }
/-- java/util/Objects -/
def k10 : Class := { plain "java/util/Objects" (some 0) with
  accessFlags := 49
  interfaces := #[]
  cf := some (fileOf pool10 42 #[] #[{ accessFlags := 2, nameIndex := 5, descriptorIndex := 6, attributes := #[] }, { accessFlags := 9, nameIndex := 45, descriptorIndex := 94, attributes := #[] }] 49 2 #[] #[])
  fields := #[]
  methods := #[k10m0, k10m1]
  instanceTypes := #[]
  staticTypes := #[]
  resolved := Array.replicate 184 none
  statics := none }

def pool11 : Array CpInfo := pool [(1, .class_ 2), (0, u "java/lang/Appendable"), (0, .class_ 4), (0, u "java/lang/Object")] 9

/-- java/lang/Appendable -/
def k11 : Class := { plain "java/lang/Appendable" (some 0) with
  accessFlags := 1537
  interfaces := #[]
  cf := some (fileOf pool11 1 #[] #[] 1537 3 #[] #[])
  fields := #[]
  methods := #[]
  instanceTypes := #[]
  staticTypes := #[]
  resolved := Array.replicate 14 none
  statics := none }

def pool12 : Array CpInfo := pool [(1, .class_ 2), (0, u "java/lang/String"), (0, .methodref 4 5), (0, .class_ 6), (0, .nameAndType 7 8), (0, u "java/lang/Object"), (0, u "<init>"), (0, u "()V"), (1, .class_ 12), (1, u "java/lang/AbstractStringBuilder"), (0, u "EMPTYVALUE"), (0, u "[B"), (0, .fieldref 10 16), (0, .nameAndType 17 14), (0, u "value"), (0, .fieldref 1 19), (0, .nameAndType 20 21), (0, u "COMPACT_STRINGS"), (0, u "Z"), (0, .fieldref 10 23), (0, .nameAndType 24 25), (0, u "coder"), (0, u "B"), (6, .methodref 1 33), (0, .nameAndType 34 35), (0, u "length"), (0, u "()I"), (4, .methodref 1 41), (0, .nameAndType 24 42), (0, u "()B"), (2, u "append"), (0, u "(Ljava/lang/String;)Ljava/lang/AbstractStringBuilder;"), (1, .class_ 49), (0, u "java/lang/CharSequence"), (19, u "(Ljava/lang/String;)V"), (5, u "maybeLatin1"), (3, .fieldref 10 80), (0, .nameAndType 81 82), (0, u "count"), (0, u "I"), (0, .methodref 10 84), (0, .nameAndType 85 86), (0, u "isLatin1"), (0, u "()Z"), (1, .class_ 90), (1, u "java/lang/StringLatin1"), (9, .methodref 10 101), (0, .nameAndType 102 103), (0, u "ensureCapacityInternal"), (0, u "(I)V"), (87, .methodref 88 192), (0, .nameAndType 193 194), (0, u "canEncode"), (0, u "(C)Z"), (13, .methodref 10 209), (0, .nameAndType 210 211), (0, u "putStringAt"), (0, u "(ILjava/lang/String;)V"), (5, u "inflateIfNeededFor"), (2, .nameAndType 221 222), (0, u "getBytes"), (0, u "([BIB)V"), (69, u "(C)Ljava/lang/AbstractStringBuilder;"), (104, .methodref 10 398), (0, .nameAndType 217 69), (0, .methodref 1 220), (3, u "()[B"), (40, .class_ 445), (0, u "java/lang/Appendable"), (106, u "getValue")] 56

def k12m0 : Method := { name := "<init>", desc := "()V", sig := { parameters := [], returnType := none }, accessFlags := 0, code := none }
def k12c1 : Code := { maxStack := 2, maxLocals := 2, code := jdk_68_method_2_code, exceptionTable := #[], attributes := #[] }
def k12m1 : Method := { name := "<init>", desc := "(I)V", sig := { parameters := [.int], returnType := none }, accessFlags := 0, code := some k12c1 }
def k12c2 : Code := { maxStack := 1, maxLocals := 1, code := jdk_68_method_6_code, exceptionTable := #[], attributes := #[] }
def k12m2 : Method := { name := "length", desc := "()I", sig := { parameters := [], returnType := some .int }, accessFlags := 1, code := some k12c2 }
def k12c3 : Code := { maxStack := 4, maxLocals := 3, code := jdk_68_method_9_code, exceptionTable := #[], attributes := #[] }
def k12m3 : Method := { name := "ensureCapacityInternal", desc := "(I)V", sig := { parameters := [.int], returnType := none }, accessFlags := 2, code := some k12c3 }
def k12c4 : Code := { maxStack := 3, maxLocals := 3, code := jdk_68_method_22_code, exceptionTable := #[], attributes := #[] }
def k12m4 : Method := { name := "append", desc := "(Ljava/lang/String;)Ljava/lang/AbstractStringBuilder;", sig := { parameters := [(.object "java/lang/String")], returnType := some (.object "java/lang/AbstractStringBuilder") }, accessFlags := 1, code := some k12c4 }
def k12c5 : Code := { maxStack := 5, maxLocals := 2, code := jdk_68_method_31_code, exceptionTable := #[], attributes := #[] }
def k12m5 : Method := { name := "append", desc := "(C)Ljava/lang/AbstractStringBuilder;", sig := { parameters := [.char], returnType := some (.object "java/lang/AbstractStringBuilder") }, accessFlags := 1, code := some k12c5 }
def k12c6 : Code := { maxStack := 1, maxLocals := 1, code := jdk_68_method_64_code, exceptionTable := #[], attributes := #[] }
def k12m6 : Method := { name := "getValue", desc := "()[B", sig := { parameters := [], returnType := some (.array .byte) }, accessFlags := 16, code := some k12c6 }
def k12c7 : Code := { maxStack := 1, maxLocals := 1, code := jdk_68_method_68_code, exceptionTable := #[], attributes := #[] }
def k12m7 : Method := { name := "isLatin1", desc := "()Z", sig := { parameters := [], returnType := some .boolean }, accessFlags := 16, code := some k12c7 }
def k12c8 : Code := { maxStack := 2, maxLocals := 2, code := jdk_68_method_71_code, exceptionTable := #[], attributes := #[] }
def k12m8 : Method := { name := "inflateIfNeededFor", desc := "(Ljava/lang/String;)V", sig := { parameters := [(.object "java/lang/String")], returnType := none }, accessFlags := 2, code := some k12c8 }
def k12c9 : Code := { maxStack := 4, maxLocals := 3, code := jdk_68_method_73_code, exceptionTable := #[], attributes := #[] }
def k12m9 : Method := { name := "putStringAt", desc := "(ILjava/lang/String;)V", sig := { parameters := [.int, (.object "java/lang/String")], returnType := none }, accessFlags := 2, code := some k12c9 }
/-- java/lang/AbstractStringBuilder -/
def k12 : Class := { plain "java/lang/AbstractStringBuilder" (some 0) with
  accessFlags := 1056
  interfaces := #[11, 4]
  cf := some (fileOf pool12 10 #[] #[{ accessFlags := 0, nameIndex := 7, descriptorIndex := 8, attributes := #[] }, { accessFlags := 0, nameIndex := 7, descriptorIndex := 103, attributes := #[] }, { accessFlags := 1, nameIndex := 34, descriptorIndex := 35, attributes := #[] }, { accessFlags := 2, nameIndex := 102, descriptorIndex := 103, attributes := #[] }, { accessFlags := 1, nameIndex := 45, descriptorIndex := 46, attributes := #[] }, { accessFlags := 1, nameIndex := 45, descriptorIndex := 292, attributes := #[] }, { accessFlags := 16, nameIndex := 552, descriptorIndex := 403, attributes := #[] }, { accessFlags := 16, nameIndex := 85, descriptorIndex := 86, attributes := #[] }, { accessFlags := 2, nameIndex := 217, descriptorIndex := 69, attributes := #[] }, { accessFlags := 2, nameIndex := 210, descriptorIndex := 211, attributes := #[] }] 1056 4 #[444, 48] #[{ accessFlags := 0, nameIndex := 17, descriptorIndex := 14, attributes := #[] }, { accessFlags := 0, nameIndex := 24, descriptorIndex := 25, attributes := #[] }, { accessFlags := 0, nameIndex := 75, descriptorIndex := 21, attributes := #[] }, { accessFlags := 0, nameIndex := 81, descriptorIndex := 82, attributes := #[] }, { accessFlags := 26, nameIndex := 13, descriptorIndex := 14, attributes := #[] }])
  fields := #[{ name := "value", type := (.array .byte), accessFlags := 0, slot := 0, constantValue := 0 }, { name := "coder", type := .byte, accessFlags := 0, slot := 1, constantValue := 0 }, { name := "maybeLatin1", type := .boolean, accessFlags := 0, slot := 2, constantValue := 0 }, { name := "count", type := .int, accessFlags := 0, slot := 3, constantValue := 0 }, { name := "EMPTYVALUE", type := (.array .byte), accessFlags := 26, slot := 0, constantValue := 0 }]
  methods := #[k12m0, k12m1, k12m2, k12m3, k12m4, k12m5, k12m6, k12m7, k12m8, k12m9]
  instanceTypes := #[(.array .byte), .byte, .boolean, .int]
  staticTypes := #[(.array .byte)]
  resolved := Array.replicate 609 none
  statics := none }

def pool13 : Array CpInfo := pool [(1, .methodref 2 3), (0, .class_ 4), (0, .nameAndType 5 6), (0, u "java/lang/AbstractStringBuilder"), (0, u "<init>"), (0, u "(I)V"), (11, .class_ 20), (1, u "java/lang/String"), (3, .class_ 26), (1, u "java/lang/StringBuilder"), (0, u "append"), (0, u "(Ljava/lang/String;)Ljava/lang/StringBuilder;"), (0, .methodref 2 30), (0, .nameAndType 27 31), (0, u "(Ljava/lang/String;)Ljava/lang/AbstractStringBuilder;"), (18, .methodref 2 51), (0, .nameAndType 27 52), (0, u "(C)Ljava/lang/AbstractStringBuilder;"), (84, .methodref 18 138), (0, .nameAndType 5 139), (0, u "(Ljava/lang/StringBuilder;)V"), (5, u "()V"), (10, u "()I"), (129, u "(C)Ljava/lang/StringBuilder;"), (56, .methodref 2 344), (0, .nameAndType 345 156), (0, u "length"), (3, .class_ 350), (0, u "java/lang/Appendable"), (0, .class_ 352), (0, u "java/io/Serializable"), (0, .class_ 354), (0, u "java/lang/Comparable"), (0, .class_ 356), (0, u "java/lang/CharSequence"), (0, u "serialVersionUID"), (0, u "J"), (40, u "toString"), (0, u "()Ljava/lang/String;")] 21

def k13c0 : Code := { maxStack := 2, maxLocals := 1, code := jdk_67_method_1_code, exceptionTable := #[], attributes := #[] }
def k13m0 : Method := { name := "<init>", desc := "()V", sig := { parameters := [], returnType := none }, accessFlags := 1, code := some k13c0 }
def k13c1 : Code := { maxStack := 2, maxLocals := 2, code := jdk_67_method_7_code, exceptionTable := #[], attributes := #[] }
def k13m1 : Method := { name := "append", desc := "(Ljava/lang/String;)Ljava/lang/StringBuilder;", sig := { parameters := [(.object "java/lang/String")], returnType := some (.object "java/lang/StringBuilder") }, accessFlags := 1, code := some k13c1 }
def k13c2 : Code := { maxStack := 2, maxLocals := 2, code := jdk_67_method_14_code, exceptionTable := #[], attributes := #[] }
def k13m2 : Method := { name := "append", desc := "(C)Ljava/lang/StringBuilder;", sig := { parameters := [.char], returnType := some (.object "java/lang/StringBuilder") }, accessFlags := 1, code := some k13c2 }
def k13c3 : Code := { maxStack := 3, maxLocals := 1, code := jdk_67_method_42_code, exceptionTable := #[], attributes := #[] }
def k13m3 : Method := { name := "toString", desc := "()Ljava/lang/String;", sig := { parameters := [], returnType := some (.object "java/lang/String") }, accessFlags := 1, code := some k13c3 }
def k13c4 : Code := { maxStack := 1, maxLocals := 1, code := jdk_67_method_93_code, exceptionTable := #[], attributes := #[] }
def k13m4 : Method := { name := "length", desc := "()I", sig := { parameters := [], returnType := some .int }, accessFlags := 4161, code := some k13c4 }
/-- java/lang/StringBuilder -/
def k13 : Class := { plain "java/lang/StringBuilder" (some 12) with
  accessFlags := 49
  interfaces := #[11, 2, 3, 4]
  cf := some (fileOf pool13 24 #[] #[{ accessFlags := 1, nameIndex := 5, descriptorIndex := 145, attributes := #[] }, { accessFlags := 1, nameIndex := 27, descriptorIndex := 28, attributes := #[] }, { accessFlags := 1, nameIndex := 27, descriptorIndex := 286, attributes := #[] }, { accessFlags := 1, nameIndex := 399, descriptorIndex := 400, attributes := #[] }, { accessFlags := 4161, nameIndex := 345, descriptorIndex := 156, attributes := #[] }] 49 2 #[349, 351, 353, 355] #[{ accessFlags := 24, nameIndex := 357, descriptorIndex := 358, attributes := #[] }])
  fields := #[{ name := "serialVersionUID", type := .long, accessFlags := 24, slot := 0, constantValue := 0 }]
  methods := #[k13m0, k13m1, k13m2, k13m3, k13m4]
  instanceTypes := #[(.array .byte), .byte, .boolean, .int]
  staticTypes := #[.long]
  resolved := Array.replicate 422 none
  statics := none }

def pool14 : Array CpInfo := pool [(2, .class_ 4), (1, u "java/lang/Object"), (0, u "<init>"), (0, u "()V"), (1, .class_ 10), (1, u "java/lang/System"), (0, u "allowSecurityManager"), (0, u "I"), (16, u "cons"), (0, u "Ljava/io/Console;"), (77, .class_ 110), (1, u "java/lang/System$CallersHolder"), (43, u "initialErrStream"), (0, u "Ljava/io/PrintStream;"), (19, u "security"), (0, u "Ljava/lang/SecurityManager;"), (31, .class_ 209), (0, u "java/lang/System$1"), (7, u "props"), (0, u "Ljava/util/Properties;"), (2, u "lineSeparator"), (0, u "Ljava/lang/String;"), (96, .class_ 321), (1, u "java/lang/System$LoggerFinder"), (5, .class_ 328), (0, u "java/lang/System$Logger"), (67, u "err"), (2, u "out"), (91, u "notSupportedJnuEncoding"), (15, u "in"), (17, u "initialIn"), (0, u "Ljava/io/InputStream;"), (35, u "bootLayer"), (0, u "Ljava/lang/ModuleLayer;"), (99, .class_ 664), (0, u "java/lang/System$2"), (9, u "NEVER"), (2, u "MAYBE"), (49, u "arraycopy"), (0, u "(Ljava/lang/Object;ILjava/lang/Object;II)V"), (72, .class_ 802), (0, u "java/lang/System$Logger$Level")] 31

def k14m0 : Method := { name := "<init>", desc := "()V", sig := { parameters := [], returnType := none }, accessFlags := 2, code := none }
def k14m1 : Method := { name := "arraycopy", desc := "(Ljava/lang/Object;ILjava/lang/Object;II)V", sig := { parameters := [(.object "java/lang/Object"), .int, (.object "java/lang/Object"), .int, .int], returnType := none }, accessFlags := 265, code := none }
/-- java/lang/System -/
def k14 : Class := { plain "java/lang/System" (some 0) with
  accessFlags := 49
  interfaces := #[]
  cf := some (fileOf pool14 8 #[.nestMembers #[319, 327, 801, 108, 663, 208]] #[{ accessFlags := 2, nameIndex := 5, descriptorIndex := 6, attributes := #[] }, { accessFlags := 265, nameIndex := 727, descriptorIndex := 728, attributes := #[] }] 49 2 #[] #[{ accessFlags := 25, nameIndex := 507, descriptorIndex := 526, attributes := #[] }, { accessFlags := 25, nameIndex := 399, descriptorIndex := 155, attributes := #[] }, { accessFlags := 25, nameIndex := 396, descriptorIndex := 155, attributes := #[] }, { accessFlags := 10, nameIndex := 525, descriptorIndex := 526, attributes := #[] }, { accessFlags := 26, nameIndex := 674, descriptorIndex := 12, attributes := #[] }, { accessFlags := 26, nameIndex := 677, descriptorIndex := 12, attributes := #[] }, { accessFlags := 10, nameIndex := 11, descriptorIndex := 12, attributes := #[] }, { accessFlags := 74, nameIndex := 175, descriptorIndex := 176, attributes := #[] }, { accessFlags := 10, nameIndex := 491, descriptorIndex := 222, attributes := #[] }, { accessFlags := 74, nameIndex := 29, descriptorIndex := 30, attributes := #[] }, { accessFlags := 74, nameIndex := 154, descriptorIndex := 155, attributes := #[] }, { accessFlags := 10, nameIndex := 217, descriptorIndex := 218, attributes := #[] }, { accessFlags := 10, nameIndex := 221, descriptorIndex := 222, attributes := #[] }, { accessFlags := 8, nameIndex := 562, descriptorIndex := 563, attributes := #[] }])
  fields := #[{ name := "in", type := (.object "java/io/InputStream"), accessFlags := 25, slot := 0, constantValue := 0 }, { name := "out", type := (.object "java/io/PrintStream"), accessFlags := 25, slot := 1, constantValue := 0 }, { name := "err", type := (.object "java/io/PrintStream"), accessFlags := 25, slot := 2, constantValue := 0 }, { name := "initialIn", type := (.object "java/io/InputStream"), accessFlags := 10, slot := 3, constantValue := 0 }, { name := "NEVER", type := .int, accessFlags := 26, slot := 4, constantValue := 0 }, { name := "MAYBE", type := .int, accessFlags := 26, slot := 5, constantValue := 0 }, { name := "allowSecurityManager", type := .int, accessFlags := 10, slot := 6, constantValue := 0 }, { name := "security", type := (.object "java/lang/SecurityManager"), accessFlags := 74, slot := 7, constantValue := 0 }, { name := "notSupportedJnuEncoding", type := (.object "java/lang/String"), accessFlags := 10, slot := 8, constantValue := 0 }, { name := "cons", type := (.object "java/io/Console"), accessFlags := 74, slot := 9, constantValue := 0 }, { name := "initialErrStream", type := (.object "java/io/PrintStream"), accessFlags := 74, slot := 10, constantValue := 0 }, { name := "props", type := (.object "java/util/Properties"), accessFlags := 10, slot := 11, constantValue := 0 }, { name := "lineSeparator", type := (.object "java/lang/String"), accessFlags := 10, slot := 12, constantValue := 0 }, { name := "bootLayer", type := (.object "java/lang/ModuleLayer"), accessFlags := 8, slot := 13, constantValue := 0 }]
  methods := #[k14m0, k14m1]
  instanceTypes := #[]
  staticTypes := #[(.object "java/io/InputStream"), (.object "java/io/PrintStream"), (.object "java/io/PrintStream"), (.object "java/io/InputStream"), .int, .int, .int, (.object "java/lang/SecurityManager"), (.object "java/lang/String"), (.object "java/io/Console"), (.object "java/io/PrintStream"), (.object "java/util/Properties"), (.object "java/lang/String"), (.object "java/lang/ModuleLayer")]
  resolved := Array.replicate 834 none
  statics := none }

def pool15 : Array CpInfo := pool [(1, .class_ 2), (0, u "java/lang/String"), (1, .class_ 6), (1, u "java/lang/Object"), (0, u "<init>"), (0, u "()V"), (0, .methodref 1 10), (0, .nameAndType 11 12), (0, u "checkIndex"), (0, u "(II)V"), (1, .class_ 16), (1, u "java/lang/StringLatin1"), (36, u "([BI)C"), (36, u "canEncode"), (14, u "(C)Z"), (6, .methodref 1 113), (0, .nameAndType 7 114), (0, u "([BB)V"), (6, u "$assertionsDisabled"), (0, u "Z"), (8, .class_ 133), (1, u "java/util/Arrays"), (17, .string 152), (0, u ""), (43, u "newString"), (0, u "([BII)Ljava/lang/String;"), (23, .class_ 223), (1, u "java/lang/StringLatin1$LinesSpliterator"), (8, .methodref 131 233), (0, .nameAndType 234 235), (0, u "copyOfRange"), (0, u "([BII)[B"), (16, u "charAt"), (28, u "equals"), (0, u "([B[B)Z"), (107, .class_ 391), (0, u "java/lang/StringLatin1$CharsSpliterator")] 3

def k15m0 : Method := { name := "<init>", desc := "()V", sig := { parameters := [], returnType := none }, accessFlags := 0, code := none }
def k15c1 : Code := { maxStack := 2, maxLocals := 2, code := jdk_43_method_2_code, exceptionTable := #[], attributes := #[] }
def k15m1 : Method := { name := "charAt", desc := "([BI)C", sig := { parameters := [(.array .byte), .int], returnType := some .char }, accessFlags := 9, code := some k15c1 }
def k15c2 : Code := { maxStack := 2, maxLocals := 1, code := jdk_43_method_3_code, exceptionTable := #[], attributes := #[] }
def k15m2 : Method := { name := "canEncode", desc := "(C)Z", sig := { parameters := [.char], returnType := some .boolean }, accessFlags := 9, code := some k15c2 }
def k15c3 : Code := { maxStack := 3, maxLocals := 3, code := jdk_43_method_13_code, exceptionTable := #[], attributes := #[] }
def k15m3 : Method := { name := "equals", desc := "([B[B)Z", sig := { parameters := [(.array .byte), (.array .byte)], returnType := some .boolean }, accessFlags := 9, code := some k15c3 }
def k15c4 : Code := { maxStack := 6, maxLocals := 3, code := jdk_43_method_47_code, exceptionTable := #[], attributes := #[] }
def k15m4 : Method := { name := "newString", desc := "([BII)Ljava/lang/String;", sig := { parameters := [(.array .byte), .int, .int], returnType := some (.object "java/lang/String") }, accessFlags := 9, code := some k15c4 }
/-- java/lang/StringLatin1 -/
def k15 : Class := { plain "java/lang/StringLatin1" (some 0) with
  accessFlags := 48
  interfaces := #[]
  cf := some (fileOf pool15 14 #[.nestMembers #[390, 221]] #[{ accessFlags := 0, nameIndex := 7, descriptorIndex := 8, attributes := #[] }, { accessFlags := 9, nameIndex := 252, descriptorIndex := 53, attributes := #[] }, { accessFlags := 9, nameIndex := 90, descriptorIndex := 105, attributes := #[] }, { accessFlags := 9, nameIndex := 281, descriptorIndex := 282, attributes := #[] }, { accessFlags := 9, nameIndex := 196, descriptorIndex := 197, attributes := #[] }] 48 4 #[] #[{ accessFlags := 4120, nameIndex := 121, descriptorIndex := 122, attributes := #[] }])
  fields := #[{ name := "$assertionsDisabled", type := .boolean, accessFlags := 4120, slot := 0, constantValue := 0 }]
  methods := #[k15m0, k15m1, k15m2, k15m3, k15m4]
  instanceTypes := #[]
  staticTypes := #[.boolean]
  resolved := Array.replicate 395 none
  statics := none }

def pool16 : Array CpInfo := pool [(2, .class_ 4), (1, u "java/lang/Object"), (0, u "<init>"), (0, u "()V"), (7, .class_ 16), (1, u "java/util/Arrays"), (57, .class_ 76), (1, u "java/util/Arrays$NaturalOrder"), (36, .class_ 115), (1, u "java/util/Arrays$LegacyMergeSort"), (1, u "Z"), (21, u "copyOfRange"), (10, .methodref 151 152), (0, .class_ 153), (0, .nameAndType 154 155), (0, u "java/lang/System"), (0, u "arraycopy"), (0, u "(Ljava/lang/Object;ILjava/lang/Object;II)V"), (148, .methodref 305 306), (0, .class_ 307), (0, .nameAndType 308 309), (0, u "java/lang/Math"), (0, u "min"), (0, u "(II)I"), (29, .methodref 14 340), (0, .nameAndType 341 342), (0, u "copyOfRangeByte"), (0, u "([BII)[B"), (0, .methodref 14 344), (0, .nameAndType 345 346), (0, u "checkLength"), (0, u "(II)V"), (28, .class_ 376), (0, u "java/util/Arrays$ArrayList"), (68, u "$assertionsDisabled"), (269, u "MIN_ARRAY_SORT_GRAN"), (0, u "I"), (2, u "INSERTIONSORT_THRESHOLD"), (255, .class_ 976), (0, u "java/util/Arrays$ArrayItr")] 52

def k16m0 : Method := { name := "<init>", desc := "()V", sig := { parameters := [], returnType := none }, accessFlags := 2, code := none }
def k16c1 : Code := { maxStack := 4, maxLocals := 2, code := jdk_65_method_131_code, exceptionTable := #[], attributes := #[] }
def k16m1 : Method := { name := "checkLength", desc := "(II)V", sig := { parameters := [.int, .int], returnType := none }, accessFlags := 10, code := some k16c1 }
def k16c2 : Code := { maxStack := 3, maxLocals := 3, code := jdk_65_method_132_code, exceptionTable := #[], attributes := #[] }
def k16m2 : Method := { name := "copyOfRange", desc := "([BII)[B", sig := { parameters := [(.array .byte), .int, .int], returnType := some (.array .byte) }, accessFlags := 9, code := some k16c2 }
def k16c3 : Code := { maxStack := 6, maxLocals := 5, code := jdk_65_method_133_code, exceptionTable := #[], attributes := #[] }
def k16m3 : Method := { name := "copyOfRangeByte", desc := "([BII)[B", sig := { parameters := [(.array .byte), .int, .int], returnType := some (.array .byte) }, accessFlags := 10, code := some k16c3 }
/-- java/util/Arrays -/
def k16 : Class := { plain "java/util/Arrays" (some 0) with
  accessFlags := 49
  interfaces := #[]
  cf := some (fileOf pool16 14 #[.nestMembers #[975, 375, 113, 74]] #[{ accessFlags := 2, nameIndex := 5, descriptorIndex := 6, attributes := #[] }, { accessFlags := 10, nameIndex := 345, descriptorIndex := 346, attributes := #[] }, { accessFlags := 9, nameIndex := 139, descriptorIndex := 342, attributes := #[] }, { accessFlags := 10, nameIndex := 341, descriptorIndex := 342, attributes := #[] }] 49 2 #[] #[{ accessFlags := 26, nameIndex := 715, descriptorIndex := 716, attributes := #[] }, { accessFlags := 26, nameIndex := 719, descriptorIndex := 716, attributes := #[] }, { accessFlags := 4120, nameIndex := 445, descriptorIndex := 117, attributes := #[] }])
  fields := #[{ name := "MIN_ARRAY_SORT_GRAN", type := .int, accessFlags := 26, slot := 0, constantValue := 0 }, { name := "INSERTIONSORT_THRESHOLD", type := .int, accessFlags := 26, slot := 1, constantValue := 0 }, { name := "$assertionsDisabled", type := .boolean, accessFlags := 4120, slot := 2, constantValue := 0 }]
  methods := #[k16m0, k16m1, k16m2, k16m3]
  instanceTypes := #[]
  staticTypes := #[.int, .int, .boolean]
  resolved := Array.replicate 1029 none
  statics := none }

def pool17 : Array CpInfo := pool [(1, .class_ 2), (0, u "java/lang/Math"), (1, .class_ 6), (1, u "java/lang/Object"), (0, u "<init>"), (0, u "()V"), (89, .class_ 100), (1, u "java/lang/Math$RandomNumberGeneratorHolder"), (71, u "negativeZeroFloatBits"), (0, u "J"), (2, u "negativeZeroDoubleBits"), (24, u "min"), (43, u "$assertionsDisabled"), (0, u "Z"), (88, u "(II)I"), (2, u "twoToTheDoubleScaleDown"), (0, u "D"), (4, u "twoToTheDoubleScaleUp"), (9, u "E"), (3, u "PI"), (2, u "TAU"), (2, u "DEGREES_TO_RADIANS"), (0, u "RADIANS_TO_DEGREES")] 94

def k17m0 : Method := { name := "<init>", desc := "()V", sig := { parameters := [], returnType := none }, accessFlags := 2, code := none }
def k17c1 : Code := { maxStack := 2, maxLocals := 2, code := jdk_29_method_69_code, exceptionTable := #[], attributes := #[] }
def k17m1 : Method := { name := "min", desc := "(II)I", sig := { parameters := [.int, .int], returnType := some .int }, accessFlags := 9, code := some k17c1 }
/-- java/lang/Math -/
def k17 : Class := { plain "java/lang/Math" (some 0) with
  accessFlags := 49
  interfaces := #[]
  cf := some (fileOf pool17 1 #[.nestMembers #[98]] #[{ accessFlags := 2, nameIndex := 7, descriptorIndex := 8, attributes := #[] }, { accessFlags := 9, nameIndex := 201, descriptorIndex := 335, attributes := #[] }] 49 4 #[] #[{ accessFlags := 25, nameIndex := 354, descriptorIndex := 339, attributes := #[] }, { accessFlags := 25, nameIndex := 358, descriptorIndex := 339, attributes := #[] }, { accessFlags := 25, nameIndex := 361, descriptorIndex := 339, attributes := #[] }, { accessFlags := 26, nameIndex := 364, descriptorIndex := 339, attributes := #[] }, { accessFlags := 26, nameIndex := 365, descriptorIndex := 339, attributes := #[] }, { accessFlags := 26, nameIndex := 172, descriptorIndex := 173, attributes := #[] }, { accessFlags := 26, nameIndex := 176, descriptorIndex := 173, attributes := #[] }, { accessFlags := 8, nameIndex := 344, descriptorIndex := 339, attributes := #[] }, { accessFlags := 8, nameIndex := 338, descriptorIndex := 339, attributes := #[] }, { accessFlags := 4120, nameIndex := 245, descriptorIndex := 246, attributes := #[] }])
  fields := #[{ name := "E", type := .double, accessFlags := 25, slot := 0, constantValue := 0 }, { name := "PI", type := .double, accessFlags := 25, slot := 1, constantValue := 0 }, { name := "TAU", type := .double, accessFlags := 25, slot := 2, constantValue := 0 }, { name := "DEGREES_TO_RADIANS", type := .double, accessFlags := 26, slot := 3, constantValue := 0 }, { name := "RADIANS_TO_DEGREES", type := .double, accessFlags := 26, slot := 4, constantValue := 0 }, { name := "negativeZeroFloatBits", type := .long, accessFlags := 26, slot := 5, constantValue := 0 }, { name := "negativeZeroDoubleBits", type := .long, accessFlags := 26, slot := 6, constantValue := 0 }, { name := "twoToTheDoubleScaleUp", type := .double, accessFlags := 8, slot := 7, constantValue := 0 }, { name := "twoToTheDoubleScaleDown", type := .double, accessFlags := 8, slot := 8, constantValue := 0 }, { name := "$assertionsDisabled", type := .boolean, accessFlags := 4120, slot := 9, constantValue := 0 }]
  methods := #[k17m0, k17m1]
  instanceTypes := #[]
  staticTypes := #[.double, .double, .double, .double, .double, .long, .long, .double, .double, .boolean]
  resolved := Array.replicate 460 none
  statics := none }

def pool18 : Array CpInfo := pool [(9, u "<init>"), (6, .class_ 18), (1, u "java/lang/Object"), (0, u "()V"), (1, .class_ 23), (1, u "jdk/internal/util/ArraysSupport"), (0, u "LOG2_ARRAY_LONG_INDEX_SCALE"), (0, u "I"), (2, u "U"), (0, u "Ljdk/internal/misc/Unsafe;"), (8, u "BIG_ENDIAN"), (0, u "Z"), (8, u "LOG2_BYTE_BIT_SIZE"), (4, u "LOG2_ARRAY_INT_INDEX_SCALE"), (54, u "JLA"), (0, u "Ljdk/internal/access/JavaLangAccess;"), (11, u "LOG2_ARRAY_BOOLEAN_INDEX_SCALE"), (9, u "LOG2_ARRAY_BYTE_INDEX_SCALE"), (5, u "LOG2_ARRAY_CHAR_INDEX_SCALE"), (5, u "LOG2_ARRAY_SHORT_INDEX_SCALE"), (5, u "mismatch"), (12, u "LOG2_ARRAY_FLOAT_INDEX_SCALE"), (24, u "LOG2_ARRAY_DOUBLE_INDEX_SCALE"), (89, u "T_BOOLEAN"), (2, u "T_CHAR"), (1, u "T_FLOAT"), (1, u "T_DOUBLE"), (1, u "T_BYTE"), (1, u "T_SHORT"), (1, u "T_INT"), (1, u "T_LONG"), (1, u "SOFT_MAX_ARRAY_LENGTH"), (42, u "([BI[BII)I")] 40

def k18m0 : Method := { name := "<init>", desc := "()V", sig := { parameters := [], returnType := none }, accessFlags := 2, code := none }
def k18c1 : Code := { maxStack := 8, maxLocals := 8, code := jdk_48_method_14_code, exceptionTable := #[], attributes := #[] }
def k18m1 : Method := { name := "mismatch", desc := "([BI[BII)I", sig := { parameters := [(.array .byte), .int, (.array .byte), .int, .int], returnType := some .int }, accessFlags := 9, code := some k18c1 }
/-- jdk/internal/util/ArraysSupport -/
def k18 : Class := { plain "jdk/internal/util/ArraysSupport" (some 0) with
  accessFlags := 33
  interfaces := #[]
  cf := some (fileOf pool18 21 #[] #[{ accessFlags := 2, nameIndex := 9, descriptorIndex := 19, attributes := #[] }, { accessFlags := 9, nameIndex := 149, descriptorIndex := 337, attributes := #[] }] 33 16 #[] #[{ accessFlags := 24, nameIndex := 28, descriptorIndex := 29, attributes := #[] }, { accessFlags := 26, nameIndex := 38, descriptorIndex := 39, attributes := #[] }, { accessFlags := 25, nameIndex := 121, descriptorIndex := 25, attributes := #[] }, { accessFlags := 25, nameIndex := 131, descriptorIndex := 25, attributes := #[] }, { accessFlags := 25, nameIndex := 137, descriptorIndex := 25, attributes := #[] }, { accessFlags := 25, nameIndex := 143, descriptorIndex := 25, attributes := #[] }, { accessFlags := 25, nameIndex := 53, descriptorIndex := 25, attributes := #[] }, { accessFlags := 25, nameIndex := 24, descriptorIndex := 25, attributes := #[] }, { accessFlags := 25, nameIndex := 162, descriptorIndex := 25, attributes := #[] }, { accessFlags := 25, nameIndex := 187, descriptorIndex := 25, attributes := #[] }, { accessFlags := 26, nameIndex := 48, descriptorIndex := 25, attributes := #[] }, { accessFlags := 25, nameIndex := 277, descriptorIndex := 25, attributes := #[] }, { accessFlags := 25, nameIndex := 280, descriptorIndex := 25, attributes := #[] }, { accessFlags := 25, nameIndex := 282, descriptorIndex := 25, attributes := #[] }, { accessFlags := 25, nameIndex := 284, descriptorIndex := 25, attributes := #[] }, { accessFlags := 25, nameIndex := 286, descriptorIndex := 25, attributes := #[] }, { accessFlags := 25, nameIndex := 288, descriptorIndex := 25, attributes := #[] }, { accessFlags := 25, nameIndex := 290, descriptorIndex := 25, attributes := #[] }, { accessFlags := 25, nameIndex := 292, descriptorIndex := 25, attributes := #[] }, { accessFlags := 26, nameIndex := 108, descriptorIndex := 109, attributes := #[] }, { accessFlags := 25, nameIndex := 294, descriptorIndex := 25, attributes := #[] }])
  fields := #[{ name := "U", type := (.object "jdk/internal/misc/Unsafe"), accessFlags := 24, slot := 0, constantValue := 0 }, { name := "BIG_ENDIAN", type := .boolean, accessFlags := 26, slot := 1, constantValue := 0 }, { name := "LOG2_ARRAY_BOOLEAN_INDEX_SCALE", type := .int, accessFlags := 25, slot := 2, constantValue := 0 }, { name := "LOG2_ARRAY_BYTE_INDEX_SCALE", type := .int, accessFlags := 25, slot := 3, constantValue := 0 }, { name := "LOG2_ARRAY_CHAR_INDEX_SCALE", type := .int, accessFlags := 25, slot := 4, constantValue := 0 }, { name := "LOG2_ARRAY_SHORT_INDEX_SCALE", type := .int, accessFlags := 25, slot := 5, constantValue := 0 }, { name := "LOG2_ARRAY_INT_INDEX_SCALE", type := .int, accessFlags := 25, slot := 6, constantValue := 0 }, { name := "LOG2_ARRAY_LONG_INDEX_SCALE", type := .int, accessFlags := 25, slot := 7, constantValue := 0 }, { name := "LOG2_ARRAY_FLOAT_INDEX_SCALE", type := .int, accessFlags := 25, slot := 8, constantValue := 0 }, { name := "LOG2_ARRAY_DOUBLE_INDEX_SCALE", type := .int, accessFlags := 25, slot := 9, constantValue := 0 }, { name := "LOG2_BYTE_BIT_SIZE", type := .int, accessFlags := 26, slot := 10, constantValue := 0 }, { name := "T_BOOLEAN", type := .int, accessFlags := 25, slot := 11, constantValue := 0 }, { name := "T_CHAR", type := .int, accessFlags := 25, slot := 12, constantValue := 0 }, { name := "T_FLOAT", type := .int, accessFlags := 25, slot := 13, constantValue := 0 }, { name := "T_DOUBLE", type := .int, accessFlags := 25, slot := 14, constantValue := 0 }, { name := "T_BYTE", type := .int, accessFlags := 25, slot := 15, constantValue := 0 }, { name := "T_SHORT", type := .int, accessFlags := 25, slot := 16, constantValue := 0 }, { name := "T_INT", type := .int, accessFlags := 25, slot := 17, constantValue := 0 }, { name := "T_LONG", type := .int, accessFlags := 25, slot := 18, constantValue := 0 }, { name := "JLA", type := (.object "jdk/internal/access/JavaLangAccess"), accessFlags := 26, slot := 19, constantValue := 0 }, { name := "SOFT_MAX_ARRAY_LENGTH", type := .int, accessFlags := 25, slot := 20, constantValue := 0 }]
  methods := #[k18m0, k18m1]
  instanceTypes := #[]
  staticTypes := #[(.object "jdk/internal/misc/Unsafe"), .boolean, .int, .int, .int, .int, .int, .int, .int, .int, .int, .int, .int, .int, .int, .int, .int, .int, .int, (.object "jdk/internal/access/JavaLangAccess"), .int]
  resolved := Array.replicate 378 none
  statics := none }

def pool19 : Array CpInfo := pool [(2, .class_ 4), (1, u "java/lang/Object"), (0, u "<init>"), (0, u "()V"), (17, .class_ 26), (1, u "jdk/internal/util/Preconditions"), (6, u "checkIndex"), (13, u "checkFromToIndex"), (7, .class_ 56), (0, u "jdk/internal/util/Preconditions$4"), (57, .class_ 115), (0, u "jdk/internal/util/Preconditions$1"), (7, u "SIOOBE_FORMATTER"), (0, u "Ljava/util/function/BiFunction;"), (0, .class_ 126), (0, u "jdk/internal/util/Preconditions$2"), (3, u "AIOOBE_FORMATTER"), (0, .class_ 132), (0, u "jdk/internal/util/Preconditions$3"), (3, u "IOOBE_FORMATTER"), (41, u "(IILjava/util/function/BiFunction;)I"), (4, u "(IIILjava/util/function/BiFunction;)I")] 10

def k19m0 : Method := { name := "<init>", desc := "()V", sig := { parameters := [], returnType := none }, accessFlags := 1, code := none }
def k19c1 : Code := { maxStack := 3, maxLocals := 3, code := jdk_41_method_11_code, exceptionTable := #[], attributes := #[] }
def k19m1 : Method := { name := "checkIndex", desc := "(IILjava/util/function/BiFunction;)I", sig := { parameters := [.int, .int, (.object "java/util/function/BiFunction")], returnType := some .int }, accessFlags := 9, code := some k19c1 }
def k19c2 : Code := { maxStack := 4, maxLocals := 4, code := jdk_41_method_12_code, exceptionTable := #[], attributes := #[] }
def k19m2 : Method := { name := "checkFromToIndex", desc := "(IIILjava/util/function/BiFunction;)I", sig := { parameters := [.int, .int, .int, (.object "java/util/function/BiFunction")], returnType := some .int }, accessFlags := 9, code := some k19c2 }
/-- jdk/internal/util/Preconditions -/
def k19 : Class := { plain "jdk/internal/util/Preconditions" (some 0) with
  accessFlags := 33
  interfaces := #[]
  cf := some (fileOf pool19 24 #[.nestMembers #[55, 131, 125, 114]] #[{ accessFlags := 1, nameIndex := 5, descriptorIndex := 6, attributes := #[] }, { accessFlags := 9, nameIndex := 33, descriptorIndex := 178, attributes := #[] }, { accessFlags := 9, nameIndex := 47, descriptorIndex := 183, attributes := #[] }] 33 2 #[] #[{ accessFlags := 25, nameIndex := 123, descriptorIndex := 124, attributes := #[] }, { accessFlags := 25, nameIndex := 130, descriptorIndex := 124, attributes := #[] }, { accessFlags := 25, nameIndex := 136, descriptorIndex := 124, attributes := #[] }])
  fields := #[{ name := "SIOOBE_FORMATTER", type := (.object "java/util/function/BiFunction"), accessFlags := 25, slot := 0, constantValue := 0 }, { name := "AIOOBE_FORMATTER", type := (.object "java/util/function/BiFunction"), accessFlags := 25, slot := 1, constantValue := 0 }, { name := "IOOBE_FORMATTER", type := (.object "java/util/function/BiFunction"), accessFlags := 25, slot := 2, constantValue := 0 }]
  methods := #[k19m0, k19m1, k19m2]
  instanceTypes := #[]
  staticTypes := #[(.object "java/util/function/BiFunction"), (.object "java/util/function/BiFunction"), (.object "java/util/function/BiFunction")]
  resolved := Array.replicate 194 none
  statics := some 1 }

def pool20 : Array CpInfo := pool [(1, u "java/lang/Cloneable"), (0, .class_ 1), (0, u "java/lang/Object"), (0, .class_ 3)] 3

/-- java/lang/Cloneable -/
def k20 : Class := { plain "java/lang/Cloneable" (some 0) with
  accessFlags := 1537
  interfaces := #[]
  cf := some (fileOf pool20 2 #[] #[] 1537 4 #[] #[])
  fields := #[]
  methods := #[]
  instanceTypes := #[]
  staticTypes := #[]
  resolved := Array.replicate 8 none
  statics := none }

/-- the primitive byte -/
def k21 : Class := { plain "byte" none with kind := .primitive 'B', accessFlags := 0x411 }
/-- [B -/
def k22 : Class := { plain "[B" (some 0) with kind := .array 21 .byte, interfaces := #[20, 2], accessFlags := 1041 }

/-- the primitive char -/
def k23 : Class := { plain "char" none with kind := .primitive 'C', accessFlags := 0x411 }
/-- [C -/
def k24 : Class := { plain "[C" (some 0) with kind := .array 23 .char, interfaces := #[20, 2], accessFlags := 1041 }

/-- the primitive int -/
def k25 : Class := { plain "int" none with kind := .primitive 'I', accessFlags := 0x411 }
/-- [I -/
def k26 : Class := { plain "[I" (some 0) with kind := .array 25 .int, interfaces := #[20, 2], accessFlags := 1041 }

def heap : Heap := #[{ cls := 7, slots := #[.long 0, .int 1, .null, .int 0, .null, .int 0, .int 0], vm := .statics 7 },
  { cls := 19, slots := #[.null, .null, .null], vm := .statics 19 }]
def classes : Array Class := #[k0, k1, k2, k3, k4, k5, k6, k7, k8, k9, k10, k11, k12, k13, k14, k15, k16, k17, k18, k19, k20, k21, k22, k23, k24, k25, k26]
def interned : List (Array UInt16 × Addr) := []
def slotsUsed : Nat := 10
def theMethod : MethodId := ⟨1, 4⟩
def args0 : Array Value := #[.int 2, .int 5, .int 6, .int 7]
def aboutOver (below : List Frame) : State where
  vm := { classes := classes, interned := interned.toArray }
  heap := heap
  slotsUsed := slotsUsed
  threads := #[{ frames := .invoking theMethod args0 :: below }]
def below0 : List Frame := [.native { method := ⟨0, 0⟩, args := #[] }]
def about1 : State := aboutOver below0
def p0 : Program := .bare "" "" ""
def e0 : Env := launch0.env 0 0 0
theorem w_frames : about1.frames = Frame.invoking theMethod args0 :: below0 := rfl
set_option maxRecDepth 65536 in
theorem w_args : argsFit about1.vm theMethod args0 = true := by decide +kernel
set_option maxRecDepth 65536 in
theorem w_heap : heapFits about1 = true := by decide +kernel
set_option maxRecDepth 65536 in
theorem w_runnable : about1.curStatus? = some .runnable := by decide +kernel
set_option maxRecDepth 65536 in
theorem w_alone : about1.alone = true := by decide +kernel
set_option maxRecDepth 65536 in
theorem w_named : about1.methodNamed? x = some theMethod := by decide +kernel
set_option maxRecDepth 65536 in
theorem w_hears : about1.hears theMethod below0 = true := by decide +kernel
set_option maxRecDepth 65536 in
theorem w_ripe : about1.ripe theMethod args0 below0 = true := by decide +kernel
theorem w_running : about1.status = .running := rfl
set_option maxRecDepth 65536 in
theorem w_room : about1.hasRoom e0.platform room_1 = true :=
  launch0.hasRoom_least _ room_1 (by decide +kernel) (by decide +kernel) (by decide +kernel) (by decide +kernel) (by decide +kernel) (by decide +kernel)
theorem allAtoms_all (ts : List Jvm.Cond) (a : Array Jvm.Value) (st : Jvm.State) : (allAtoms ts).before a st = ts.all (fun c => c.before a st) := by
  induction ts with
  | nil => rfl
  | cons c t ih =>
    show (Jvm.Cond.and c (allAtoms t)).before a st = _
    rw [Jvm.Cond.before_and, ih, List.all_cons]
def words1 : List Jvm.Cond := Jvm.Cond.code x code maxLocals ret :: tables_1
/-- a 'code' word, met by the world's own term for the bytes: nothing is compared byte by byte -/
theorem code_word {y : MethodName} {bytes : ByteArray} {mx : Nat} {rt : Option FieldType} {a : Array Value} {s : State} {m : MethodId} {meth : Method} {c : Code} (h1 : s.methodNamed? y = some m) (h2 : s.vm.method? m = some meth) (h3 : meth.code = some c) (h4 : c.code = bytes)
    (h5 : (c.maxLocals == mx && c.exceptionTable.isEmpty && decide (c.maxStack ≤ mostOperands) && decide (meth.sig.returnType = rt) && !meth.locks && decide (parseMethodDescriptor y.desc = some meth.sig)) = true) : (Jvm.Cond.code y bytes mx rt).before a s = true := by
  simp only [Bool.and_eq_true, beq_iff_eq, Bool.not_eq_true', decide_eq_true_eq] at h5
  obtain ⟨⟨⟨⟨⟨g1, g2⟩, g3⟩, g4⟩, g5⟩, g6⟩ := h5
  simp [Cond.before, Cond.holds, Cond.value, h1, h2, h3, h4, g1, g2, g3, g4, g5, g6]
def isCode : Jvm.Cond → Bool
  | .code _ _ _ _ => true
  | _ => false
theorem all_split {L : List Jvm.Cond} {P : Jvm.Cond → Bool} (h1 : L.all (fun c => isCode c || P c) = true) (h2 : ∀ c ∈ L.filter isCode, P c = true) : L.all P = true := by
  refine List.all_eq_true.mpr fun c hc => ?_
  have h := List.all_eq_true.mp h1 c hc
  rcases Bool.eq_false_or_eq_true (isCode c) with hi | hi
  · exact h2 c (List.mem_filter.mpr ⟨hc, hi⟩)
  · simpa [hi] using h
set_option maxRecDepth 65536 in
theorem w_c0 : (Jvm.Cond.code x code maxLocals ret).before args0 about1 = true := code_word (m := ⟨1, 4⟩) (meth := k1m4) (c := k1c4) (by decide +kernel) rfl rfl rfl (by decide +kernel)
set_option maxRecDepth 65536 in
theorem w_c1 : (Jvm.Cond.code ({ cls := "com/example/match_before_write/matchbeforewrite/EntityTagStrongPinLaw", name := "etagc", desc := "(I)C" } : Jvm.MethodName) method_2_code (2 : Nat) (Option.some Jvm.ClassFile.FieldType.char)).before args0 about1 = true := code_word (m := ⟨1, 1⟩) (meth := k1m1) (c := k1c1) (by decide +kernel) rfl rfl rfl (by decide +kernel)
set_option maxRecDepth 65536 in
theorem w_c2 : (Jvm.Cond.code ({ cls := "com/example/match_before_write/matchbeforewrite/EntityTagStrongPinLaw", name := "chars", desc := "(ICCC)[C" } : Jvm.MethodName) method_3_code (4 : Nat) (Option.some (Jvm.ClassFile.FieldType.array Jvm.ClassFile.FieldType.char))).before args0 about1 = true := code_word (m := ⟨1, 2⟩) (meth := k1m2) (c := k1c2) (by decide +kernel) rfl rfl rfl (by decide +kernel)
set_option maxRecDepth 65536 in
theorem w_c3 : (Jvm.Cond.code ({ cls := "java/lang/String", name := "<init>", desc := "([C)V" } : Jvm.MethodName) jdk_42_method_3_code (2 : Nat) (Option.none : Option Jvm.ClassFile.FieldType)).before args0 about1 = true := code_word (m := ⟨7, 1⟩) (meth := k7m1) (c := k7c1) (by decide +kernel) rfl rfl rfl (by decide +kernel)
set_option maxRecDepth 65536 in
theorem w_c4 : (Jvm.Cond.code ({ cls := "java/lang/String", name := "<init>", desc := "([CIILjava/lang/Void;)V" } : Jvm.MethodName) jdk_42_method_149_code (6 : Nat) (Option.none : Option Jvm.ClassFile.FieldType)).before args0 about1 = true := code_word (m := ⟨7, 10⟩) (meth := k7m10) (c := k7c10) (by decide +kernel) rfl rfl rfl (by decide +kernel)
set_option maxRecDepth 65536 in
theorem w_c5 : (Jvm.Cond.code ({ cls := "java/lang/Object", name := "<init>", desc := "()V" } : Jvm.MethodName) object_method_1_code (1 : Nat) (Option.none : Option Jvm.ClassFile.FieldType)).before args0 about1 = true := code_word (m := ⟨0, 0⟩) (meth := k0m0) (c := k0c0) (by decide +kernel) rfl rfl rfl (by decide +kernel)
set_option maxRecDepth 65536 in
theorem w_c6 : (Jvm.Cond.code ({ cls := "com/example/match_before_write/matchbeforewrite/EntityTagStrongPinLaw", name := "quoted", desc := "(ICCC)[C" } : Jvm.MethodName) method_4_code (4 : Nat) (Option.some (Jvm.ClassFile.FieldType.array Jvm.ClassFile.FieldType.char))).before args0 about1 = true := code_word (m := ⟨1, 3⟩) (meth := k1m3) (c := k1c3) (by decide +kernel) rfl rfl rfl (by decide +kernel)
set_option maxRecDepth 65536 in
theorem w_c7 : (Jvm.Cond.code ({ cls := "java/lang/StringUTF16", name := "compress", desc := "([CII)[B" } : Jvm.MethodName) jdk_52_method_16_code (6 : Nat) (Option.some (Jvm.ClassFile.FieldType.array Jvm.ClassFile.FieldType.byte))).before args0 about1 = true := code_word (m := ⟨8, 2⟩) (meth := k8m2) (c := k8c2) (by decide +kernel) rfl rfl rfl (by decide +kernel)
set_option maxRecDepth 65536 in
theorem w_c8 : (Jvm.Cond.code ({ cls := "java/lang/StringUTF16", name := "compress", desc := "([CI[BII)I" } : Jvm.MethodName) jdk_52_method_21_code (7 : Nat) (Option.some Jvm.ClassFile.FieldType.int)).before args0 about1 = true := code_word (m := ⟨8, 3⟩) (meth := k8m3) (c := k8c3) (by decide +kernel) rfl rfl rfl (by decide +kernel)
set_option maxRecDepth 65536 in
theorem w_c9 : (Jvm.Cond.code ({ cls := "java/lang/StringUTF16", name := "coderFromArrayLen", desc := "([BI)B" } : Jvm.MethodName) jdk_52_method_15_code (2 : Nat) (Option.some Jvm.ClassFile.FieldType.byte)).before args0 about1 = true := code_word (m := ⟨8, 1⟩) (meth := k8m1) (c := k8c1) (by decide +kernel) rfl rfl rfl (by decide +kernel)
set_option maxRecDepth 65536 in
theorem w_c10 : (Jvm.Cond.code ({ cls := "com/example/match_before_write/matchbeforewrite/EntityTag", name := "strong", desc := "(Ljava/lang/String;)Lcom/example/match_before_write/matchbeforewrite/EntityTag;" } : Jvm.MethodName) prog_5_method_2_code (1 : Nat) (Option.some (Jvm.ClassFile.FieldType.object "com/example/match_before_write/matchbeforewrite/EntityTag"))).before args0 about1 = true := code_word (m := ⟨9, 1⟩) (meth := k9m1) (c := k9c1) (by decide +kernel) rfl rfl rfl (by decide +kernel)
set_option maxRecDepth 65536 in
theorem w_c11 : (Jvm.Cond.code ({ cls := "com/example/match_before_write/matchbeforewrite/EntityTag", name := "checkedValue", desc := "(Ljava/lang/String;I)Ljava/lang/String;" } : Jvm.MethodName) prog_5_method_12_code (6 : Nat) (Option.some (Jvm.ClassFile.FieldType.object "java/lang/String"))).before args0 about1 = true := code_word (m := ⟨9, 8⟩) (meth := k9m8) (c := k9c8) (by decide +kernel) rfl rfl rfl (by decide +kernel)
set_option maxRecDepth 65536 in
theorem w_c12 : (Jvm.Cond.code ({ cls := "java/util/Objects", name := "requireNonNull", desc := "(Ljava/lang/Object;Ljava/lang/String;)Ljava/lang/Object;" } : Jvm.MethodName) jdk_31_method_11_code (2 : Nat) (Option.some (Jvm.ClassFile.FieldType.object "java/lang/Object"))).before args0 about1 = true := code_word (m := ⟨10, 1⟩) (meth := k10m1) (c := k10c1) (by decide +kernel) rfl rfl rfl (by decide +kernel)
set_option maxRecDepth 65536 in
theorem w_c13 : (Jvm.Cond.code ({ cls := "java/lang/String", name := "length", desc := "()I" } : Jvm.MethodName) jdk_42_method_54_code (1 : Nat) (Option.some Jvm.ClassFile.FieldType.int)).before args0 about1 = true := code_word (m := ⟨7, 3⟩) (meth := k7m3) (c := k7c3) (by decide +kernel) rfl rfl rfl (by decide +kernel)
set_option maxRecDepth 65536 in
theorem w_c14 : (Jvm.Cond.code ({ cls := "java/lang/String", name := "coder", desc := "()B" } : Jvm.MethodName) jdk_42_method_152_code (1 : Nat) (Option.some Jvm.ClassFile.FieldType.byte)).before args0 about1 = true := code_word (m := ⟨7, 13⟩) (meth := k7m13) (c := k7c13) (by decide +kernel) rfl rfl rfl (by decide +kernel)
set_option maxRecDepth 65536 in
theorem w_c15 : (Jvm.Cond.code ({ cls := "com/example/match_before_write/matchbeforewrite/EntityTag", name := "<init>", desc := "(ZLjava/lang/String;)V" } : Jvm.MethodName) prog_5_method_1_code (3 : Nat) (Option.none : Option Jvm.ClassFile.FieldType)).before args0 about1 = true := code_word (m := ⟨9, 0⟩) (meth := k9m0) (c := k9c0) (by decide +kernel) rfl rfl rfl (by decide +kernel)
set_option maxRecDepth 65536 in
theorem w_c16 : (Jvm.Cond.code ({ cls := "com/example/match_before_write/matchbeforewrite/EntityTag", name := "isWeak", desc := "()Z" } : Jvm.MethodName) prog_5_method_5_code (1 : Nat) (Option.some Jvm.ClassFile.FieldType.boolean)).before args0 about1 = true := code_word (m := ⟨9, 3⟩) (meth := k9m3) (c := k9c3) (by decide +kernel) rfl rfl rfl (by decide +kernel)
set_option maxRecDepth 65536 in
theorem w_c17 : (Jvm.Cond.code ({ cls := "com/example/match_before_write/matchbeforewrite/EntityTag", name := "value", desc := "()Ljava/lang/String;" } : Jvm.MethodName) prog_5_method_6_code (1 : Nat) (Option.some (Jvm.ClassFile.FieldType.object "java/lang/String"))).before args0 about1 = true := code_word (m := ⟨9, 4⟩) (meth := k9m4) (c := k9c4) (by decide +kernel) rfl rfl rfl (by decide +kernel)
set_option maxRecDepth 65536 in
theorem w_c18 : (Jvm.Cond.code ({ cls := "java/lang/String", name := "equals", desc := "(Ljava/lang/Object;)Z" } : Jvm.MethodName) jdk_42_method_66_code (3 : Nat) (Option.some Jvm.ClassFile.FieldType.boolean)).before args0 about1 = true := code_word (m := ⟨7, 5⟩) (meth := k7m5) (c := k7c5) (by decide +kernel) rfl rfl rfl (by decide +kernel)
set_option maxRecDepth 65536 in
theorem w_c19 : (Jvm.Cond.code ({ cls := "com/example/match_before_write/matchbeforewrite/EntityTag", name := "toString", desc := "()Ljava/lang/String;" } : Jvm.MethodName) prog_5_method_9_code (2 : Nat) (Option.some (Jvm.ClassFile.FieldType.object "java/lang/String"))).before args0 about1 = true := code_word (m := ⟨9, 6⟩) (meth := k9m6) (c := k9c6) (by decide +kernel) rfl rfl rfl (by decide +kernel)
set_option maxRecDepth 65536 in
theorem w_c20 : (Jvm.Cond.code ({ cls := "java/lang/StringBuilder", name := "<init>", desc := "()V" } : Jvm.MethodName) jdk_67_method_1_code (1 : Nat) (Option.none : Option Jvm.ClassFile.FieldType)).before args0 about1 = true := code_word (m := ⟨13, 0⟩) (meth := k13m0) (c := k13c0) (by decide +kernel) rfl rfl rfl (by decide +kernel)
set_option maxRecDepth 65536 in
theorem w_c21 : (Jvm.Cond.code ({ cls := "java/lang/AbstractStringBuilder", name := "<init>", desc := "(I)V" } : Jvm.MethodName) jdk_68_method_2_code (2 : Nat) (Option.none : Option Jvm.ClassFile.FieldType)).before args0 about1 = true := code_word (m := ⟨12, 1⟩) (meth := k12m1) (c := k12c1) (by decide +kernel) rfl rfl rfl (by decide +kernel)
set_option maxRecDepth 65536 in
theorem w_c22 : (Jvm.Cond.code ({ cls := "java/lang/StringBuilder", name := "append", desc := "(Ljava/lang/String;)Ljava/lang/StringBuilder;" } : Jvm.MethodName) jdk_67_method_7_code (2 : Nat) (Option.some (Jvm.ClassFile.FieldType.object "java/lang/StringBuilder"))).before args0 about1 = true := code_word (m := ⟨13, 1⟩) (meth := k13m1) (c := k13c1) (by decide +kernel) rfl rfl rfl (by decide +kernel)
set_option maxRecDepth 65536 in
theorem w_c23 : (Jvm.Cond.code ({ cls := "java/lang/AbstractStringBuilder", name := "append", desc := "(Ljava/lang/String;)Ljava/lang/AbstractStringBuilder;" } : Jvm.MethodName) jdk_68_method_22_code (3 : Nat) (Option.some (Jvm.ClassFile.FieldType.object "java/lang/AbstractStringBuilder"))).before args0 about1 = true := code_word (m := ⟨12, 4⟩) (meth := k12m4) (c := k12c4) (by decide +kernel) rfl rfl rfl (by decide +kernel)
set_option maxRecDepth 65536 in
theorem w_c24 : (Jvm.Cond.code ({ cls := "java/lang/AbstractStringBuilder", name := "ensureCapacityInternal", desc := "(I)V" } : Jvm.MethodName) jdk_68_method_9_code (3 : Nat) (Option.none : Option Jvm.ClassFile.FieldType)).before args0 about1 = true := code_word (m := ⟨12, 3⟩) (meth := k12m3) (c := k12c3) (by decide +kernel) rfl rfl rfl (by decide +kernel)
set_option maxRecDepth 65536 in
theorem w_c25 : (Jvm.Cond.code ({ cls := "java/lang/AbstractStringBuilder", name := "putStringAt", desc := "(ILjava/lang/String;)V" } : Jvm.MethodName) jdk_68_method_73_code (3 : Nat) (Option.none : Option Jvm.ClassFile.FieldType)).before args0 about1 = true := code_word (m := ⟨12, 9⟩) (meth := k12m9) (c := k12c9) (by decide +kernel) rfl rfl rfl (by decide +kernel)
set_option maxRecDepth 65536 in
theorem w_c26 : (Jvm.Cond.code ({ cls := "java/lang/AbstractStringBuilder", name := "inflateIfNeededFor", desc := "(Ljava/lang/String;)V" } : Jvm.MethodName) jdk_68_method_71_code (2 : Nat) (Option.none : Option Jvm.ClassFile.FieldType)).before args0 about1 = true := code_word (m := ⟨12, 8⟩) (meth := k12m8) (c := k12c8) (by decide +kernel) rfl rfl rfl (by decide +kernel)
set_option maxRecDepth 65536 in
theorem w_c27 : (Jvm.Cond.code ({ cls := "java/lang/String", name := "getBytes", desc := "([BIB)V" } : Jvm.MethodName) jdk_42_method_147_code (4 : Nat) (Option.none : Option Jvm.ClassFile.FieldType)).before args0 about1 = true := code_word (m := ⟨7, 9⟩) (meth := k7m9) (c := k7c9) (by decide +kernel) rfl rfl rfl (by decide +kernel)
set_option maxRecDepth 65536 in
theorem w_c28 : (Jvm.Cond.code ({ cls := "java/lang/StringBuilder", name := "append", desc := "(C)Ljava/lang/StringBuilder;" } : Jvm.MethodName) jdk_67_method_14_code (2 : Nat) (Option.some (Jvm.ClassFile.FieldType.object "java/lang/StringBuilder"))).before args0 about1 = true := code_word (m := ⟨13, 2⟩) (meth := k13m2) (c := k13c2) (by decide +kernel) rfl rfl rfl (by decide +kernel)
set_option maxRecDepth 65536 in
theorem w_c29 : (Jvm.Cond.code ({ cls := "java/lang/AbstractStringBuilder", name := "append", desc := "(C)Ljava/lang/AbstractStringBuilder;" } : Jvm.MethodName) jdk_68_method_31_code (2 : Nat) (Option.some (Jvm.ClassFile.FieldType.object "java/lang/AbstractStringBuilder"))).before args0 about1 = true := code_word (m := ⟨12, 5⟩) (meth := k12m5) (c := k12c5) (by decide +kernel) rfl rfl rfl (by decide +kernel)
set_option maxRecDepth 65536 in
theorem w_c30 : (Jvm.Cond.code ({ cls := "java/lang/AbstractStringBuilder", name := "isLatin1", desc := "()Z" } : Jvm.MethodName) jdk_68_method_68_code (1 : Nat) (Option.some Jvm.ClassFile.FieldType.boolean)).before args0 about1 = true := code_word (m := ⟨12, 7⟩) (meth := k12m7) (c := k12c7) (by decide +kernel) rfl rfl rfl (by decide +kernel)
set_option maxRecDepth 65536 in
theorem w_c31 : (Jvm.Cond.code ({ cls := "java/lang/StringLatin1", name := "canEncode", desc := "(C)Z" } : Jvm.MethodName) jdk_43_method_3_code (1 : Nat) (Option.some Jvm.ClassFile.FieldType.boolean)).before args0 about1 = true := code_word (m := ⟨15, 2⟩) (meth := k15m2) (c := k15c2) (by decide +kernel) rfl rfl rfl (by decide +kernel)
set_option maxRecDepth 65536 in
theorem w_c32 : (Jvm.Cond.code ({ cls := "java/lang/StringBuilder", name := "toString", desc := "()Ljava/lang/String;" } : Jvm.MethodName) jdk_67_method_42_code (1 : Nat) (Option.some (Jvm.ClassFile.FieldType.object "java/lang/String"))).before args0 about1 = true := code_word (m := ⟨13, 3⟩) (meth := k13m3) (c := k13c3) (by decide +kernel) rfl rfl rfl (by decide +kernel)
set_option maxRecDepth 65536 in
theorem w_c33 : (Jvm.Cond.code ({ cls := "java/lang/String", name := "<init>", desc := "(Ljava/lang/StringBuilder;)V" } : Jvm.MethodName) jdk_42_method_53_code (2 : Nat) (Option.none : Option Jvm.ClassFile.FieldType)).before args0 about1 = true := code_word (m := ⟨7, 2⟩) (meth := k7m2) (c := k7c2) (by decide +kernel) rfl rfl rfl (by decide +kernel)
set_option maxRecDepth 65536 in
theorem w_c34 : (Jvm.Cond.code ({ cls := "java/lang/String", name := "<init>", desc := "(Ljava/lang/AbstractStringBuilder;Ljava/lang/Void;)V" } : Jvm.MethodName) jdk_42_method_150_code (5 : Nat) (Option.none : Option Jvm.ClassFile.FieldType)).before args0 about1 = true := code_word (m := ⟨7, 11⟩) (meth := k7m11) (c := k7c11) (by decide +kernel) rfl rfl rfl (by decide +kernel)
set_option maxRecDepth 65536 in
theorem w_c35 : (Jvm.Cond.code ({ cls := "java/lang/AbstractStringBuilder", name := "getValue", desc := "()[B" } : Jvm.MethodName) jdk_68_method_64_code (1 : Nat) (Option.some (Jvm.ClassFile.FieldType.array Jvm.ClassFile.FieldType.byte))).before args0 about1 = true := code_word (m := ⟨12, 6⟩) (meth := k12m6) (c := k12c6) (by decide +kernel) rfl rfl rfl (by decide +kernel)
set_option maxRecDepth 65536 in
theorem w_c36 : (Jvm.Cond.code ({ cls := "java/lang/StringBuilder", name := "length", desc := "()I" } : Jvm.MethodName) jdk_67_method_93_code (1 : Nat) (Option.some Jvm.ClassFile.FieldType.int)).before args0 about1 = true := code_word (m := ⟨13, 4⟩) (meth := k13m4) (c := k13c4) (by decide +kernel) rfl rfl rfl (by decide +kernel)
set_option maxRecDepth 65536 in
theorem w_c37 : (Jvm.Cond.code ({ cls := "java/lang/AbstractStringBuilder", name := "length", desc := "()I" } : Jvm.MethodName) jdk_68_method_6_code (1 : Nat) (Option.some Jvm.ClassFile.FieldType.int)).before args0 about1 = true := code_word (m := ⟨12, 2⟩) (meth := k12m2) (c := k12c2) (by decide +kernel) rfl rfl rfl (by decide +kernel)
set_option maxRecDepth 65536 in
theorem w_c38 : (Jvm.Cond.code ({ cls := "java/util/Arrays", name := "copyOfRange", desc := "([BII)[B" } : Jvm.MethodName) jdk_65_method_132_code (3 : Nat) (Option.some (Jvm.ClassFile.FieldType.array Jvm.ClassFile.FieldType.byte))).before args0 about1 = true := code_word (m := ⟨16, 2⟩) (meth := k16m2) (c := k16c2) (by decide +kernel) rfl rfl rfl (by decide +kernel)
set_option maxRecDepth 65536 in
theorem w_c39 : (Jvm.Cond.code ({ cls := "java/util/Arrays", name := "copyOfRangeByte", desc := "([BII)[B" } : Jvm.MethodName) jdk_65_method_133_code (5 : Nat) (Option.some (Jvm.ClassFile.FieldType.array Jvm.ClassFile.FieldType.byte))).before args0 about1 = true := code_word (m := ⟨16, 3⟩) (meth := k16m3) (c := k16c3) (by decide +kernel) rfl rfl rfl (by decide +kernel)
set_option maxRecDepth 65536 in
theorem w_c40 : (Jvm.Cond.code ({ cls := "java/util/Arrays", name := "checkLength", desc := "(II)V" } : Jvm.MethodName) jdk_65_method_131_code (2 : Nat) (Option.none : Option Jvm.ClassFile.FieldType)).before args0 about1 = true := code_word (m := ⟨16, 1⟩) (meth := k16m1) (c := k16c1) (by decide +kernel) rfl rfl rfl (by decide +kernel)
set_option maxRecDepth 65536 in
theorem w_c41 : (Jvm.Cond.code ({ cls := "java/lang/Math", name := "min", desc := "(II)I" } : Jvm.MethodName) jdk_29_method_69_code (2 : Nat) (Option.some Jvm.ClassFile.FieldType.int)).before args0 about1 = true := code_word (m := ⟨17, 1⟩) (meth := k17m1) (c := k17c1) (by decide +kernel) rfl rfl rfl (by decide +kernel)
set_option maxRecDepth 65536 in
theorem w_c42 : (Jvm.Cond.code ({ cls := "java/lang/StringLatin1", name := "equals", desc := "([B[B)Z" } : Jvm.MethodName) jdk_43_method_13_code (3 : Nat) (Option.some Jvm.ClassFile.FieldType.boolean)).before args0 about1 = true := code_word (m := ⟨15, 3⟩) (meth := k15m3) (c := k15c3) (by decide +kernel) rfl rfl rfl (by decide +kernel)
set_option maxRecDepth 65536 in
theorem w_c43 : (Jvm.Cond.code ({ cls := "com/example/match_before_write/matchbeforewrite/EntityTag", name := "strongMatch", desc := "(Lcom/example/match_before_write/matchbeforewrite/EntityTag;)Z" } : Jvm.MethodName) prog_5_method_7_code (2 : Nat) (Option.some Jvm.ClassFile.FieldType.boolean)).before args0 about1 = true := code_word (m := ⟨9, 5⟩) (meth := k9m5) (c := k9c5) (by decide +kernel) rfl rfl rfl (by decide +kernel)
set_option maxRecDepth 65536 in
theorem w_c44 : (Jvm.Cond.code ({ cls := "com/example/match_before_write/matchbeforewrite/EntityTag", name := "parse", desc := "(Ljava/lang/String;)Lcom/example/match_before_write/matchbeforewrite/EntityTag;" } : Jvm.MethodName) prog_5_method_4_code (5 : Nat) (Option.some (Jvm.ClassFile.FieldType.object "com/example/match_before_write/matchbeforewrite/EntityTag"))).before args0 about1 = true := code_word (m := ⟨9, 2⟩) (meth := k9m2) (c := k9c2) (by decide +kernel) rfl rfl rfl (by decide +kernel)
set_option maxRecDepth 65536 in
theorem w_c45 : (Jvm.Cond.code ({ cls := "java/lang/String", name := "startsWith", desc := "(Ljava/lang/String;)Z" } : Jvm.MethodName) jdk_42_method_76_code (2 : Nat) (Option.some Jvm.ClassFile.FieldType.boolean)).before args0 about1 = true := code_word (m := ⟨7, 7⟩) (meth := k7m7) (c := k7c7) (by decide +kernel) rfl rfl rfl (by decide +kernel)
set_option maxRecDepth 65536 in
theorem w_c46 : (Jvm.Cond.code ({ cls := "java/lang/String", name := "startsWith", desc := "(Ljava/lang/String;I)Z" } : Jvm.MethodName) jdk_42_method_75_code (8 : Nat) (Option.some Jvm.ClassFile.FieldType.boolean)).before args0 about1 = true := code_word (m := ⟨7, 6⟩) (meth := k7m6) (c := k7c6) (by decide +kernel) rfl rfl rfl (by decide +kernel)
set_option maxRecDepth 65536 in
theorem w_c47 : (Jvm.Cond.code ({ cls := "jdk/internal/util/ArraysSupport", name := "mismatch", desc := "([BI[BII)I" } : Jvm.MethodName) jdk_48_method_14_code (8 : Nat) (Option.some Jvm.ClassFile.FieldType.int)).before args0 about1 = true := code_word (m := ⟨18, 1⟩) (meth := k18m1) (c := k18c1) (by decide +kernel) rfl rfl rfl (by decide +kernel)
set_option maxRecDepth 65536 in
theorem w_c48 : (Jvm.Cond.code ({ cls := "java/lang/String", name := "charAt", desc := "(I)C" } : Jvm.MethodName) jdk_42_method_56_code (2 : Nat) (Option.some Jvm.ClassFile.FieldType.char)).before args0 about1 = true := code_word (m := ⟨7, 4⟩) (meth := k7m4) (c := k7c4) (by decide +kernel) rfl rfl rfl (by decide +kernel)
set_option maxRecDepth 65536 in
theorem w_c49 : (Jvm.Cond.code ({ cls := "java/lang/String", name := "isLatin1", desc := "()Z" } : Jvm.MethodName) jdk_42_method_154_code (1 : Nat) (Option.some Jvm.ClassFile.FieldType.boolean)).before args0 about1 = true := code_word (m := ⟨7, 14⟩) (meth := k7m14) (c := k7c14) (by decide +kernel) rfl rfl rfl (by decide +kernel)
set_option maxRecDepth 65536 in
theorem w_c50 : (Jvm.Cond.code ({ cls := "java/lang/StringLatin1", name := "charAt", desc := "([BI)C" } : Jvm.MethodName) jdk_43_method_2_code (2 : Nat) (Option.some Jvm.ClassFile.FieldType.char)).before args0 about1 = true := code_word (m := ⟨15, 1⟩) (meth := k15m1) (c := k15c1) (by decide +kernel) rfl rfl rfl (by decide +kernel)
set_option maxRecDepth 65536 in
theorem w_c51 : (Jvm.Cond.code ({ cls := "java/lang/String", name := "checkIndex", desc := "(II)V" } : Jvm.MethodName) jdk_42_method_155_code (2 : Nat) (Option.none : Option Jvm.ClassFile.FieldType)).before args0 about1 = true := code_word (m := ⟨7, 15⟩) (meth := k7m15) (c := k7c15) (by decide +kernel) rfl rfl rfl (by decide +kernel)
set_option maxRecDepth 65536 in
theorem w_c52 : (Jvm.Cond.code ({ cls := "jdk/internal/util/Preconditions", name := "checkIndex", desc := "(IILjava/util/function/BiFunction;)I" } : Jvm.MethodName) jdk_41_method_11_code (3 : Nat) (Option.some Jvm.ClassFile.FieldType.int)).before args0 about1 = true := code_word (m := ⟨19, 1⟩) (meth := k19m1) (c := k19c1) (by decide +kernel) rfl rfl rfl (by decide +kernel)
set_option maxRecDepth 65536 in
theorem w_c53 : (Jvm.Cond.code ({ cls := "java/lang/String", name := "substring", desc := "(II)Ljava/lang/String;" } : Jvm.MethodName) jdk_42_method_92_code (5 : Nat) (Option.some (Jvm.ClassFile.FieldType.object "java/lang/String"))).before args0 about1 = true := code_word (m := ⟨7, 8⟩) (meth := k7m8) (c := k7c8) (by decide +kernel) rfl rfl rfl (by decide +kernel)
set_option maxRecDepth 65536 in
theorem w_c54 : (Jvm.Cond.code ({ cls := "java/lang/String", name := "checkBoundsBeginEnd", desc := "(III)V" } : Jvm.MethodName) jdk_42_method_158_code (3 : Nat) (Option.none : Option Jvm.ClassFile.FieldType)).before args0 about1 = true := code_word (m := ⟨7, 16⟩) (meth := k7m16) (c := k7c16) (by decide +kernel) rfl rfl rfl (by decide +kernel)
set_option maxRecDepth 65536 in
theorem w_c55 : (Jvm.Cond.code ({ cls := "jdk/internal/util/Preconditions", name := "checkFromToIndex", desc := "(IIILjava/util/function/BiFunction;)I" } : Jvm.MethodName) jdk_41_method_12_code (4 : Nat) (Option.some Jvm.ClassFile.FieldType.int)).before args0 about1 = true := code_word (m := ⟨19, 2⟩) (meth := k19m2) (c := k19c2) (by decide +kernel) rfl rfl rfl (by decide +kernel)
set_option maxRecDepth 65536 in
theorem w_c56 : (Jvm.Cond.code ({ cls := "java/lang/StringLatin1", name := "newString", desc := "([BII)Ljava/lang/String;" } : Jvm.MethodName) jdk_43_method_47_code (3 : Nat) (Option.some (Jvm.ClassFile.FieldType.object "java/lang/String"))).before args0 about1 = true := code_word (m := ⟨15, 4⟩) (meth := k15m4) (c := k15c4) (by decide +kernel) rfl rfl rfl (by decide +kernel)
set_option maxRecDepth 65536 in
theorem w_c57 : (Jvm.Cond.code ({ cls := "com/example/match_before_write/matchbeforewrite/EntityTag", name := "equals", desc := "(Ljava/lang/Object;)Z" } : Jvm.MethodName) prog_5_method_10_code (3 : Nat) (Option.some Jvm.ClassFile.FieldType.boolean)).before args0 about1 = true := code_word (m := ⟨9, 7⟩) (meth := k9m7) (c := k9c7) (by decide +kernel) rfl rfl rfl (by decide +kernel)
set_option maxRecDepth 65536 in
theorem w_c58 : (Jvm.Cond.code ({ cls := "java/lang/String", name := "<init>", desc := "([BB)V" } : Jvm.MethodName) jdk_42_method_151_code (3 : Nat) (Option.none : Option Jvm.ClassFile.FieldType)).before args0 about1 = true := code_word (m := ⟨7, 12⟩) (meth := k7m12) (c := k7c12) (by decide +kernel) rfl rfl rfl (by decide +kernel)
def codes1 : List Jvm.Cond := [Jvm.Cond.code x code maxLocals ret, Jvm.Cond.code ({ cls := "com/example/match_before_write/matchbeforewrite/EntityTagStrongPinLaw", name := "etagc", desc := "(I)C" } : Jvm.MethodName) method_2_code (2 : Nat) (Option.some Jvm.ClassFile.FieldType.char), Jvm.Cond.code ({ cls := "com/example/match_before_write/matchbeforewrite/EntityTagStrongPinLaw", name := "chars", desc := "(ICCC)[C" } : Jvm.MethodName) method_3_code (4 : Nat) (Option.some (Jvm.ClassFile.FieldType.array Jvm.ClassFile.FieldType.char)), Jvm.Cond.code ({ cls := "java/lang/String", name := "<init>", desc := "([C)V" } : Jvm.MethodName) jdk_42_method_3_code (2 : Nat) (Option.none : Option Jvm.ClassFile.FieldType), Jvm.Cond.code ({ cls := "java/lang/String", name := "<init>", desc := "([CIILjava/lang/Void;)V" } : Jvm.MethodName) jdk_42_method_149_code (6 : Nat) (Option.none : Option Jvm.ClassFile.FieldType), Jvm.Cond.code ({ cls := "java/lang/Object", name := "<init>", desc := "()V" } : Jvm.MethodName) object_method_1_code (1 : Nat) (Option.none : Option Jvm.ClassFile.FieldType), Jvm.Cond.code ({ cls := "com/example/match_before_write/matchbeforewrite/EntityTagStrongPinLaw", name := "quoted", desc := "(ICCC)[C" } : Jvm.MethodName) method_4_code (4 : Nat) (Option.some (Jvm.ClassFile.FieldType.array Jvm.ClassFile.FieldType.char)), Jvm.Cond.code ({ cls := "java/lang/StringUTF16", name := "compress", desc := "([CII)[B" } : Jvm.MethodName) jdk_52_method_16_code (6 : Nat) (Option.some (Jvm.ClassFile.FieldType.array Jvm.ClassFile.FieldType.byte)), Jvm.Cond.code ({ cls := "java/lang/StringUTF16", name := "compress", desc := "([CI[BII)I" } : Jvm.MethodName) jdk_52_method_21_code (7 : Nat) (Option.some Jvm.ClassFile.FieldType.int), Jvm.Cond.code ({ cls := "java/lang/StringUTF16", name := "coderFromArrayLen", desc := "([BI)B" } : Jvm.MethodName) jdk_52_method_15_code (2 : Nat) (Option.some Jvm.ClassFile.FieldType.byte), Jvm.Cond.code ({ cls := "com/example/match_before_write/matchbeforewrite/EntityTag", name := "strong", desc := "(Ljava/lang/String;)Lcom/example/match_before_write/matchbeforewrite/EntityTag;" } : Jvm.MethodName) prog_5_method_2_code (1 : Nat) (Option.some (Jvm.ClassFile.FieldType.object "com/example/match_before_write/matchbeforewrite/EntityTag")), Jvm.Cond.code ({ cls := "com/example/match_before_write/matchbeforewrite/EntityTag", name := "checkedValue", desc := "(Ljava/lang/String;I)Ljava/lang/String;" } : Jvm.MethodName) prog_5_method_12_code (6 : Nat) (Option.some (Jvm.ClassFile.FieldType.object "java/lang/String")), Jvm.Cond.code ({ cls := "java/util/Objects", name := "requireNonNull", desc := "(Ljava/lang/Object;Ljava/lang/String;)Ljava/lang/Object;" } : Jvm.MethodName) jdk_31_method_11_code (2 : Nat) (Option.some (Jvm.ClassFile.FieldType.object "java/lang/Object")), Jvm.Cond.code ({ cls := "java/lang/String", name := "length", desc := "()I" } : Jvm.MethodName) jdk_42_method_54_code (1 : Nat) (Option.some Jvm.ClassFile.FieldType.int), Jvm.Cond.code ({ cls := "java/lang/String", name := "coder", desc := "()B" } : Jvm.MethodName) jdk_42_method_152_code (1 : Nat) (Option.some Jvm.ClassFile.FieldType.byte), Jvm.Cond.code ({ cls := "com/example/match_before_write/matchbeforewrite/EntityTag", name := "<init>", desc := "(ZLjava/lang/String;)V" } : Jvm.MethodName) prog_5_method_1_code (3 : Nat) (Option.none : Option Jvm.ClassFile.FieldType), Jvm.Cond.code ({ cls := "com/example/match_before_write/matchbeforewrite/EntityTag", name := "isWeak", desc := "()Z" } : Jvm.MethodName) prog_5_method_5_code (1 : Nat) (Option.some Jvm.ClassFile.FieldType.boolean), Jvm.Cond.code ({ cls := "com/example/match_before_write/matchbeforewrite/EntityTag", name := "value", desc := "()Ljava/lang/String;" } : Jvm.MethodName) prog_5_method_6_code (1 : Nat) (Option.some (Jvm.ClassFile.FieldType.object "java/lang/String")), Jvm.Cond.code ({ cls := "java/lang/String", name := "equals", desc := "(Ljava/lang/Object;)Z" } : Jvm.MethodName) jdk_42_method_66_code (3 : Nat) (Option.some Jvm.ClassFile.FieldType.boolean), Jvm.Cond.code ({ cls := "com/example/match_before_write/matchbeforewrite/EntityTag", name := "toString", desc := "()Ljava/lang/String;" } : Jvm.MethodName) prog_5_method_9_code (2 : Nat) (Option.some (Jvm.ClassFile.FieldType.object "java/lang/String")), Jvm.Cond.code ({ cls := "java/lang/StringBuilder", name := "<init>", desc := "()V" } : Jvm.MethodName) jdk_67_method_1_code (1 : Nat) (Option.none : Option Jvm.ClassFile.FieldType), Jvm.Cond.code ({ cls := "java/lang/AbstractStringBuilder", name := "<init>", desc := "(I)V" } : Jvm.MethodName) jdk_68_method_2_code (2 : Nat) (Option.none : Option Jvm.ClassFile.FieldType), Jvm.Cond.code ({ cls := "java/lang/StringBuilder", name := "append", desc := "(Ljava/lang/String;)Ljava/lang/StringBuilder;" } : Jvm.MethodName) jdk_67_method_7_code (2 : Nat) (Option.some (Jvm.ClassFile.FieldType.object "java/lang/StringBuilder")), Jvm.Cond.code ({ cls := "java/lang/AbstractStringBuilder", name := "append", desc := "(Ljava/lang/String;)Ljava/lang/AbstractStringBuilder;" } : Jvm.MethodName) jdk_68_method_22_code (3 : Nat) (Option.some (Jvm.ClassFile.FieldType.object "java/lang/AbstractStringBuilder")), Jvm.Cond.code ({ cls := "java/lang/AbstractStringBuilder", name := "ensureCapacityInternal", desc := "(I)V" } : Jvm.MethodName) jdk_68_method_9_code (3 : Nat) (Option.none : Option Jvm.ClassFile.FieldType), Jvm.Cond.code ({ cls := "java/lang/AbstractStringBuilder", name := "putStringAt", desc := "(ILjava/lang/String;)V" } : Jvm.MethodName) jdk_68_method_73_code (3 : Nat) (Option.none : Option Jvm.ClassFile.FieldType), Jvm.Cond.code ({ cls := "java/lang/AbstractStringBuilder", name := "inflateIfNeededFor", desc := "(Ljava/lang/String;)V" } : Jvm.MethodName) jdk_68_method_71_code (2 : Nat) (Option.none : Option Jvm.ClassFile.FieldType), Jvm.Cond.code ({ cls := "java/lang/String", name := "getBytes", desc := "([BIB)V" } : Jvm.MethodName) jdk_42_method_147_code (4 : Nat) (Option.none : Option Jvm.ClassFile.FieldType), Jvm.Cond.code ({ cls := "java/lang/StringBuilder", name := "append", desc := "(C)Ljava/lang/StringBuilder;" } : Jvm.MethodName) jdk_67_method_14_code (2 : Nat) (Option.some (Jvm.ClassFile.FieldType.object "java/lang/StringBuilder")), Jvm.Cond.code ({ cls := "java/lang/AbstractStringBuilder", name := "append", desc := "(C)Ljava/lang/AbstractStringBuilder;" } : Jvm.MethodName) jdk_68_method_31_code (2 : Nat) (Option.some (Jvm.ClassFile.FieldType.object "java/lang/AbstractStringBuilder")), Jvm.Cond.code ({ cls := "java/lang/AbstractStringBuilder", name := "isLatin1", desc := "()Z" } : Jvm.MethodName) jdk_68_method_68_code (1 : Nat) (Option.some Jvm.ClassFile.FieldType.boolean), Jvm.Cond.code ({ cls := "java/lang/StringLatin1", name := "canEncode", desc := "(C)Z" } : Jvm.MethodName) jdk_43_method_3_code (1 : Nat) (Option.some Jvm.ClassFile.FieldType.boolean), Jvm.Cond.code ({ cls := "java/lang/StringBuilder", name := "toString", desc := "()Ljava/lang/String;" } : Jvm.MethodName) jdk_67_method_42_code (1 : Nat) (Option.some (Jvm.ClassFile.FieldType.object "java/lang/String")), Jvm.Cond.code ({ cls := "java/lang/String", name := "<init>", desc := "(Ljava/lang/StringBuilder;)V" } : Jvm.MethodName) jdk_42_method_53_code (2 : Nat) (Option.none : Option Jvm.ClassFile.FieldType), Jvm.Cond.code ({ cls := "java/lang/String", name := "<init>", desc := "(Ljava/lang/AbstractStringBuilder;Ljava/lang/Void;)V" } : Jvm.MethodName) jdk_42_method_150_code (5 : Nat) (Option.none : Option Jvm.ClassFile.FieldType), Jvm.Cond.code ({ cls := "java/lang/AbstractStringBuilder", name := "getValue", desc := "()[B" } : Jvm.MethodName) jdk_68_method_64_code (1 : Nat) (Option.some (Jvm.ClassFile.FieldType.array Jvm.ClassFile.FieldType.byte)), Jvm.Cond.code ({ cls := "java/lang/StringBuilder", name := "length", desc := "()I" } : Jvm.MethodName) jdk_67_method_93_code (1 : Nat) (Option.some Jvm.ClassFile.FieldType.int), Jvm.Cond.code ({ cls := "java/lang/AbstractStringBuilder", name := "length", desc := "()I" } : Jvm.MethodName) jdk_68_method_6_code (1 : Nat) (Option.some Jvm.ClassFile.FieldType.int), Jvm.Cond.code ({ cls := "java/util/Arrays", name := "copyOfRange", desc := "([BII)[B" } : Jvm.MethodName) jdk_65_method_132_code (3 : Nat) (Option.some (Jvm.ClassFile.FieldType.array Jvm.ClassFile.FieldType.byte)), Jvm.Cond.code ({ cls := "java/util/Arrays", name := "copyOfRangeByte", desc := "([BII)[B" } : Jvm.MethodName) jdk_65_method_133_code (5 : Nat) (Option.some (Jvm.ClassFile.FieldType.array Jvm.ClassFile.FieldType.byte)), Jvm.Cond.code ({ cls := "java/util/Arrays", name := "checkLength", desc := "(II)V" } : Jvm.MethodName) jdk_65_method_131_code (2 : Nat) (Option.none : Option Jvm.ClassFile.FieldType), Jvm.Cond.code ({ cls := "java/lang/Math", name := "min", desc := "(II)I" } : Jvm.MethodName) jdk_29_method_69_code (2 : Nat) (Option.some Jvm.ClassFile.FieldType.int), Jvm.Cond.code ({ cls := "java/lang/StringLatin1", name := "equals", desc := "([B[B)Z" } : Jvm.MethodName) jdk_43_method_13_code (3 : Nat) (Option.some Jvm.ClassFile.FieldType.boolean), Jvm.Cond.code ({ cls := "com/example/match_before_write/matchbeforewrite/EntityTag", name := "strongMatch", desc := "(Lcom/example/match_before_write/matchbeforewrite/EntityTag;)Z" } : Jvm.MethodName) prog_5_method_7_code (2 : Nat) (Option.some Jvm.ClassFile.FieldType.boolean), Jvm.Cond.code ({ cls := "com/example/match_before_write/matchbeforewrite/EntityTag", name := "parse", desc := "(Ljava/lang/String;)Lcom/example/match_before_write/matchbeforewrite/EntityTag;" } : Jvm.MethodName) prog_5_method_4_code (5 : Nat) (Option.some (Jvm.ClassFile.FieldType.object "com/example/match_before_write/matchbeforewrite/EntityTag")), Jvm.Cond.code ({ cls := "java/lang/String", name := "startsWith", desc := "(Ljava/lang/String;)Z" } : Jvm.MethodName) jdk_42_method_76_code (2 : Nat) (Option.some Jvm.ClassFile.FieldType.boolean), Jvm.Cond.code ({ cls := "java/lang/String", name := "startsWith", desc := "(Ljava/lang/String;I)Z" } : Jvm.MethodName) jdk_42_method_75_code (8 : Nat) (Option.some Jvm.ClassFile.FieldType.boolean), Jvm.Cond.code ({ cls := "jdk/internal/util/ArraysSupport", name := "mismatch", desc := "([BI[BII)I" } : Jvm.MethodName) jdk_48_method_14_code (8 : Nat) (Option.some Jvm.ClassFile.FieldType.int), Jvm.Cond.code ({ cls := "java/lang/String", name := "charAt", desc := "(I)C" } : Jvm.MethodName) jdk_42_method_56_code (2 : Nat) (Option.some Jvm.ClassFile.FieldType.char), Jvm.Cond.code ({ cls := "java/lang/String", name := "isLatin1", desc := "()Z" } : Jvm.MethodName) jdk_42_method_154_code (1 : Nat) (Option.some Jvm.ClassFile.FieldType.boolean), Jvm.Cond.code ({ cls := "java/lang/StringLatin1", name := "charAt", desc := "([BI)C" } : Jvm.MethodName) jdk_43_method_2_code (2 : Nat) (Option.some Jvm.ClassFile.FieldType.char), Jvm.Cond.code ({ cls := "java/lang/String", name := "checkIndex", desc := "(II)V" } : Jvm.MethodName) jdk_42_method_155_code (2 : Nat) (Option.none : Option Jvm.ClassFile.FieldType), Jvm.Cond.code ({ cls := "jdk/internal/util/Preconditions", name := "checkIndex", desc := "(IILjava/util/function/BiFunction;)I" } : Jvm.MethodName) jdk_41_method_11_code (3 : Nat) (Option.some Jvm.ClassFile.FieldType.int), Jvm.Cond.code ({ cls := "java/lang/String", name := "substring", desc := "(II)Ljava/lang/String;" } : Jvm.MethodName) jdk_42_method_92_code (5 : Nat) (Option.some (Jvm.ClassFile.FieldType.object "java/lang/String")), Jvm.Cond.code ({ cls := "java/lang/String", name := "checkBoundsBeginEnd", desc := "(III)V" } : Jvm.MethodName) jdk_42_method_158_code (3 : Nat) (Option.none : Option Jvm.ClassFile.FieldType), Jvm.Cond.code ({ cls := "jdk/internal/util/Preconditions", name := "checkFromToIndex", desc := "(IIILjava/util/function/BiFunction;)I" } : Jvm.MethodName) jdk_41_method_12_code (4 : Nat) (Option.some Jvm.ClassFile.FieldType.int), Jvm.Cond.code ({ cls := "java/lang/StringLatin1", name := "newString", desc := "([BII)Ljava/lang/String;" } : Jvm.MethodName) jdk_43_method_47_code (3 : Nat) (Option.some (Jvm.ClassFile.FieldType.object "java/lang/String")), Jvm.Cond.code ({ cls := "com/example/match_before_write/matchbeforewrite/EntityTag", name := "equals", desc := "(Ljava/lang/Object;)Z" } : Jvm.MethodName) prog_5_method_10_code (3 : Nat) (Option.some Jvm.ClassFile.FieldType.boolean), Jvm.Cond.code ({ cls := "java/lang/String", name := "<init>", desc := "([BB)V" } : Jvm.MethodName) jdk_42_method_151_code (3 : Nat) (Option.none : Option Jvm.ClassFile.FieldType)]
set_option maxRecDepth 65536 in
theorem codes_eq : words1.filter isCode = codes1 := rfl
theorem w_codes : ∀ c ∈ words1.filter isCode, c.before args0 about1 = true := by
  rw [codes_eq]
  intro c hc
  simp only [codes1, List.mem_cons, List.not_mem_nil, or_false] at hc
  rcases hc with rfl | rfl | rfl | rfl | rfl | rfl | rfl | rfl | rfl | rfl | rfl | rfl | rfl | rfl | rfl | rfl | rfl | rfl | rfl | rfl | rfl | rfl | rfl | rfl | rfl | rfl | rfl | rfl | rfl | rfl | rfl | rfl | rfl | rfl | rfl | rfl | rfl | rfl | rfl | rfl | rfl | rfl | rfl | rfl | rfl | rfl | rfl | rfl | rfl | rfl | rfl | rfl | rfl | rfl | rfl | rfl | rfl | rfl | rfl
  · exact w_c0
  · exact w_c1
  · exact w_c2
  · exact w_c3
  · exact w_c4
  · exact w_c5
  · exact w_c6
  · exact w_c7
  · exact w_c8
  · exact w_c9
  · exact w_c10
  · exact w_c11
  · exact w_c12
  · exact w_c13
  · exact w_c14
  · exact w_c15
  · exact w_c16
  · exact w_c17
  · exact w_c18
  · exact w_c19
  · exact w_c20
  · exact w_c21
  · exact w_c22
  · exact w_c23
  · exact w_c24
  · exact w_c25
  · exact w_c26
  · exact w_c27
  · exact w_c28
  · exact w_c29
  · exact w_c30
  · exact w_c31
  · exact w_c32
  · exact w_c33
  · exact w_c34
  · exact w_c35
  · exact w_c36
  · exact w_c37
  · exact w_c38
  · exact w_c39
  · exact w_c40
  · exact w_c41
  · exact w_c42
  · exact w_c43
  · exact w_c44
  · exact w_c45
  · exact w_c46
  · exact w_c47
  · exact w_c48
  · exact w_c49
  · exact w_c50
  · exact w_c51
  · exact w_c52
  · exact w_c53
  · exact w_c54
  · exact w_c55
  · exact w_c56
  · exact w_c57
  · exact w_c58
set_option maxRecDepth 65536 in
theorem w_t1 : (words1.take 24).all (fun c => isCode c || c.before args0 about1) = true := by decide +kernel
set_option maxRecDepth 65536 in
theorem w_t2 : ((words1.drop 24).take 24).all (fun c => isCode c || c.before args0 about1) = true := by decide +kernel
set_option maxRecDepth 65536 in
theorem w_t3 : (((words1.drop 24).drop 24).take 24).all (fun c => isCode c || c.before args0 about1) = true := by decide +kernel
set_option maxRecDepth 65536 in
theorem w_t4 : ((((words1.drop 24).drop 24).drop 24).take 24).all (fun c => isCode c || c.before args0 about1) = true := by decide +kernel
set_option maxRecDepth 65536 in
theorem w_t5 : (((((words1.drop 24).drop 24).drop 24).drop 24).take 24).all (fun c => isCode c || c.before args0 about1) = true := by decide +kernel
set_option maxRecDepth 65536 in
theorem w_t6 : ((((((words1.drop 24).drop 24).drop 24).drop 24).drop 24).take 24).all (fun c => isCode c || c.before args0 about1) = true := by decide +kernel
set_option maxRecDepth 65536 in
theorem w_t7 : (((((((words1.drop 24).drop 24).drop 24).drop 24).drop 24).drop 24).take 24).all (fun c => isCode c || c.before args0 about1) = true := by decide +kernel
set_option maxRecDepth 65536 in
theorem w_t8 : ((((((((words1.drop 24).drop 24).drop 24).drop 24).drop 24).drop 24).drop 24).take 24).all (fun c => isCode c || c.before args0 about1) = true := by decide +kernel
set_option maxRecDepth 65536 in
theorem w_t9 : (((((((((words1.drop 24).drop 24).drop 24).drop 24).drop 24).drop 24).drop 24).drop 24).take 24).all (fun c => isCode c || c.before args0 about1) = true := by decide +kernel
set_option maxRecDepth 65536 in
theorem w_t10 : ((((((((((words1.drop 24).drop 24).drop 24).drop 24).drop 24).drop 24).drop 24).drop 24).drop 24).take 24).all (fun c => isCode c || c.before args0 about1) = true := by decide +kernel
set_option maxRecDepth 65536 in
theorem w_t11 : (((((((((((words1.drop 24).drop 24).drop 24).drop 24).drop 24).drop 24).drop 24).drop 24).drop 24).drop 24).take 24).all (fun c => isCode c || c.before args0 about1) = true := by decide +kernel
set_option maxRecDepth 65536 in
theorem w_t12 : ((((((((((((words1.drop 24).drop 24).drop 24).drop 24).drop 24).drop 24).drop 24).drop 24).drop 24).drop 24).drop 24).take 24).all (fun c => isCode c || c.before args0 about1) = true := by decide +kernel
set_option maxRecDepth 65536 in
theorem w_t13 : ((((((((((((words1.drop 24).drop 24).drop 24).drop 24).drop 24).drop 24).drop 24).drop 24).drop 24).drop 24).drop 24).drop 24).all (fun c => isCode c || c.before args0 about1) = true := by decide +kernel
theorem w_tables : (allAtoms (Jvm.Cond.code x code maxLocals ret :: tables_1)).before args0 about1 = true := by
  rw [allAtoms_all]
  show words1.all (fun c => c.before args0 about1) = true
  refine all_split ?_ w_codes
  rw [← List.take_append_drop 24 words1, List.all_append, w_t1, ← List.take_append_drop 24 (words1.drop 24), List.all_append, w_t2, ← List.take_append_drop 24 ((words1.drop 24).drop 24), List.all_append, w_t3, ← List.take_append_drop 24 (((words1.drop 24).drop 24).drop 24), List.all_append, w_t4, ← List.take_append_drop 24 ((((words1.drop 24).drop 24).drop 24).drop 24), List.all_append, w_t5, ← List.take_append_drop 24 (((((words1.drop 24).drop 24).drop 24).drop 24).drop 24), List.all_append, w_t6, ← List.take_append_drop 24 ((((((words1.drop 24).drop 24).drop 24).drop 24).drop 24).drop 24), List.all_append, w_t7, ← List.take_append_drop 24 (((((((words1.drop 24).drop 24).drop 24).drop 24).drop 24).drop 24).drop 24), List.all_append, w_t8, ← List.take_append_drop 24 ((((((((words1.drop 24).drop 24).drop 24).drop 24).drop 24).drop 24).drop 24).drop 24), List.all_append, w_t9, ← List.take_append_drop 24 (((((((((words1.drop 24).drop 24).drop 24).drop 24).drop 24).drop 24).drop 24).drop 24).drop 24), List.all_append, w_t10, ← List.take_append_drop 24 ((((((((((words1.drop 24).drop 24).drop 24).drop 24).drop 24).drop 24).drop 24).drop 24).drop 24).drop 24), List.all_append, w_t11, ← List.take_append_drop 24 (((((((((((words1.drop 24).drop 24).drop 24).drop 24).drop 24).drop 24).drop 24).drop 24).drop 24).drop 24).drop 24), List.all_append, w_t12, w_t13]
  rfl
set_option maxRecDepth 65536 in
theorem w_rest : rest_1_c.before args0 about1 = true := by decide +kernel
set_option maxRecDepth 65536 in
theorem w_case : (Jvm.Cond.and given_1 narrow_1).before args0 about1 = true := by decide +kernel
set_option maxRecDepth 65536 in
theorem w_consts : constsHeld consts_1 about1 := Jvm.Lit.constsHeldB_iff.mp (by decide +kernel)
theorem w_applies : (headSpec (Jvm.Cond.code x code maxLocals ret :: tables_1) room_1).applies x e0.platform about1 = true :=
  (Spec.applies_iff w_frames).mpr ⟨w_running, w_runnable, w_alone, w_named, w_hears, w_ripe, w_room, w_tables⟩
theorem atStart : AtStart classFile x code maxLocals ret World_1 tables_1 room_1 Calls_1 rest_1 Pre_1 launch0 p0 e0 about1 theMethod args0 below0 :=
  ⟨lists_1, trivial, launch0.admits_env _ _ _, launch0.least_env, fairChoices_fair.cas, fairChoices_fair.clock, w_frames, w_args, w_heap, w_applies, ⟨w_consts, trivial⟩, w_rest, w_case⟩
end start1
theorem witness_1 : WitnessClaimed_1 := ⟨start1.p0, start1.e0, start1.about1, start1.theMethod, start1.args0, start1.below0, start1.atStart⟩
end Jvm.Pilot.@@N@@
