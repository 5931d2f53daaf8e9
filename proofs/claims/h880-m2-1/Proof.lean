import JvmDerived
import JvmDerived.Pilot.@@N@@Statement
import JvmDerived.Pilot.@@N@@Code
set_option linter.unusedVariables false
set_option linter.unusedSimpArgs false
set_option maxRecDepth 65536
set_option maxHeartbeats 40000000
namespace Jvm.RoadKit
open Sem ClassFile Op Lib Jvm.Stand Jvm.Free Jvm.LawKit
section Own
variable {p : Program} {l : Launch} {e : Env} {R : Room} {s : State} {m : MethodId} {args : Array Value} {below : List Frame} {meth : Method} {c : Code} {T T' : State} {locs : List Loc} {cells slots : Nat} {Z : State} {a0 : Array Value} {h h' h0 : Heap} {K : State → Outcome → Prop} {pc : Nat} {Ls : Array Slot} {rest : List Value} {Q : Option Value → Heap → List Loc → Prop} {k n : Nat} {a b : Addr} {ws : List Addr} {sl : Nat} {v : Value}
/-- from T the run comes to its end, and K holds there -/
def Go (p : Program) (e : Env) (below : List Frame) (K : State → Outcome → Prop) (T : State) : Prop := ∃ U o, Steps p.tables e below T U ∧ U.status = .running ∧ Ended U below o ∧ K U o
theorem Go.by (st : ∀ t, Steps p.tables e below T' t → Steps p.tables e below T t) (g : Go p e below K T') : Go p e below K T := by
  obtain ⟨U, o, q, r⟩ := g; exact ⟨U, o, st _ q, r⟩
theorem Go.on (st : Steps p.tables e below T T') (g : Go p e below K T') : Go p e below K T := by
  obtain ⟨U, o, q, r⟩ := g; exact ⟨U, o, st.trans q, r⟩
theorem Go.cast {T'' : State} (q : T = T'') (g : Go p e below K T'') : Go p e below K T := q ▸ g
def KK (s : State) (Q : Option Value → Heap → List Loc → Prop) (k n : Nat) : State → Outcome → Prop := fun U o => ∃ v L, o = .returned v ∧ Q v U.heap L ∧ FrameEnd s o U L k n
abbrev Ctr (l : Launch) (Z : State) (h0 : Heap) (y : MethodName) (bytes : ByteArray) (maxL : Nat) (ret : Option FieldType) (ws : List Cond) (rm : Room) (as' : Array Value) (Q : Option Value → Heap → List Loc → Prop) : Prop :=
  MetFree l y (head1 (Cond.code y bytes maxL ret :: ws) rm) (fun a U => a = as' ∧ Z.Warmed39 U.vm ∧ U.heap = h0) (fun _ _ _ _ _ => True) (fun _ U o U' => ∃ v L, o = .returned v ∧ Q v U'.heap L ∧ FrameEnd U o U' L rm.cells rm.slots)
theorem enter {y : MethodName} {bytes : ByteArray} {maxL : Nat} {ret : Option FieldType} {ws : List Cond} {rm : Room} {as' : Array Value} (hp : plainFor y = true)
    (H : ∀ (p : Program) (e : Env) (s : State) (m : MethodId) (below : List Frame) (meth : Method) (c : Code) (s₁ : State), p.tables.exec = Jvm.exec → c.code = bytes → c.maxLocals = maxL → Z.Warmed39 s.vm → s.vm.findClass y.cls = some m.cls → meth.name = y.name → meth.sig.returnType = ret → meth.locks = false →
      Stand p l e rm s m as' below meth c s₁ [] 0 0 → s₁.heap = h0 → s.heap = h0 → Go p e below (KK s Q rm.cells rm.slots) (s₁.setTop (entryFrame m as' maxL))) : Ctr l Z h0 y bytes maxL ret ws rm as' Q := by
  refine MetFree.of_bodySF hp hisR ?_
  intro p e s m args below meth c s₁ Bd hml0 hP hK
  obtain ⟨rfl, hZ, hh⟩ := hP
  exact H p e s m below meth c s₁ Bd.exec Bd.bytes hml0 hZ (findClass_of_methodNamed Bd.named) (name_of_methodNamed Bd.named Bd.method).1 Bd.returns Bd.notSynchronized (Stand.of_body Bd) (by rw [← hh, Bd.state]; rfl) hh
/-! returns -/
theorem Go.ret {w : Value} {t : FieldType} {i : Instr} (X : Stand p l e R s m args below meth c T locs cells slots) (hx : p.tables.exec = Jvm.exec) (hret : meth.sig.returnType = some t) (hlk : meth.locks = false) (hn : narrow t w = w)
    (hi : (i = .ireturn ∧ (t = .int ∨ t = .boolean ∨ t = .byte ∨ t = .char ∨ t = .short) ∧ ∃ z, w = .int z) ∨ (i = .lreturn ∧ t = .long ∧ ∃ z, w = .long z) ∨ (i = .dreturn ∧ t = .double ∧ ∃ z, w = .double z) ∨ (i = .freturn ∧ t = .float ∧ ∃ z, w = .float z) ∨ (i = .areturn ∧ t.isReference = true ∧ w.isRef = true))
    (hd : decode c.code pc = .ok (i, 1)) (eT : T.heap = h) (hk : cells ≤ k) (hs : slots ≤ n) (hQ : Q (some w) h locs) : Go p e below (KK s Q k n) (T.setTop (mkF m pc Ls (w :: rest))) := by
  obtain ⟨fs, hr, hrun, hended, hW, hsame⟩ := X.leave (v := some w) (fun h => by rw [hret] at h; cases h) hlk
  subst eT
  exact ⟨_, _, retOut X hx hret hn hi hd hr, hrun, hended, _, _, rfl, hQ, ⟨_, rfl⟩, hW, hsame.mono hk hs⟩
theorem Go.retI {z : Int32} {t : FieldType} (X : Stand p l e R s m args below meth c T locs cells slots) (hx : p.tables.exec = Jvm.exec) (hret : meth.sig.returnType = some t) (hlk : meth.locks = false) (ht : t = .int ∨ t = .boolean ∨ t = .byte ∨ t = .char ∨ t = .short) (hn : narrow t (.int z) = .int z)
    (hd : decode c.code pc = .ok (.ireturn, 1)) (eT : T.heap = h) (hk : cells ≤ k) (hs : slots ≤ n) (hQ : Q (some (.int z)) h locs) : Go p e below (KK s Q k n) (T.setTop (mkF m pc Ls (.int z :: rest))) :=
  Go.ret X hx hret hlk hn (Or.inl ⟨rfl, ht, z, rfl⟩) hd eT hk hs hQ
theorem nar_ref {t : FieldType} {w : Value} (hw : w.isRef = true) : narrow t w = w := by cases w <;> first | (simp [Value.isRef] at hw; done) | (cases t <;> rfl)
theorem fits_any {C : String} {w : Value} (hw : w.isRef = true) : fits (.object C) w = true := by cases w <;> first | (simp [Value.isRef] at hw; done) | rfl
theorem Go.retA {w : Value} {t : FieldType} (X : Stand p l e R s m args below meth c T locs cells slots) (hx : p.tables.exec = Jvm.exec) (hret : meth.sig.returnType = some t) (hlk : meth.locks = false) (ht : t.isReference = true) (hw : w.isRef = true)
    (hd : decode c.code pc = .ok (.areturn, 1)) (eT : T.heap = h) (hk : cells ≤ k) (hs : slots ≤ n) (hQ : Q (some w) h locs) : Go p e below (KK s Q k n) (T.setTop (mkF m pc Ls (w :: rest))) :=
  Go.ret X hx hret hlk (nar_ref hw) (Or.inr (Or.inr (Or.inr (Or.inr ⟨rfl, ht, hw⟩)))) hd eT hk hs hQ
theorem Go.retV (X : Stand p l e R s m args below meth c T locs cells slots) (hx : p.tables.exec = Jvm.exec) (hret : meth.sig.returnType = none) (hlk : meth.locks = false)
    (hd : decode c.code pc = .ok (.return_, 1)) (eT : T.heap = h) (hk : cells ≤ k) (hs : slots ≤ n) (hQ : Q none h locs) : Go p e below (KK s Q k n) (T.setTop (mkF m pc Ls [])) := by
  obtain ⟨fs, hr, hrun, hended, hW, hsame⟩ := X.leave (v := none) (fun _ => rfl) hlk
  subst eT
  exact ⟨_, _, X.returnOut hx hret hd hr, hrun, hended, _, _, rfl, hQ, ⟨_, rfl⟩, hW, hsame.mono hk hs⟩
/-! the old cells -/
theorem ext_trans {h1 h2 h3 : Heap} (E : Ext h1 h2) (F : Ext h2 h3) : Ext h1 h3 := ⟨Nat.le_trans E.1 F.1, fun a c q => F.2 a c (E.2 a c q)⟩
theorem ext_wr {h1 h2 h3 : Heap} (E : Ext h1 h2) (W : Wr h2 h3 a sl v) (g : h1.size ≤ a) : Ext h1 h3 := by
  obtain ⟨cell, q1, q2, q3, rfl⟩ := W
  refine ⟨by simpa using E.1, fun x c q => ?_⟩
  have hx : x < h1.size := (Array.getElem?_eq_some_iff.mp q).1
  rw [Array.getElem?_setIfInBounds_ne (Nat.ne_of_gt (Nat.lt_of_lt_of_le hx g))]
  exact E.2 x c q
theorem ext_keep {h1 h2 h3 : Heap} (E : Ext h1 h2) (F : Keep h2 h3 ws) (g : ∀ x ∈ ws, h1.size ≤ x) : Ext h1 h3 := by
  refine ⟨Nat.le_trans E.1 F.1, fun x c q => F.2.1 x c (E.2 x c q) fun z => ?_⟩
  exact absurd (Array.getElem?_eq_some_iff.mp q).1 (Nat.not_lt.mpr (g x z))
theorem ne_new (q : a < h.size) (r : h.size ≤ b) : a ≠ b := Nat.ne_of_lt (Nat.lt_of_lt_of_le q r)
/-! calls -/
theorem Go.callS {own : String} {index : Nat} {y : MethodName} {bytes : ByteArray} {maxL : Nat} {ret : Option FieldType} {rm : Room} {as' : Array Value} {argsL S : List Value} (X : Stand p l e R s m args below meth c T locs cells slots) (hx : p.tables.exec = Jvm.exec) (hZ : Z.Warmed39 s.vm) (hown : s.vm.findClass own = some m.cls)
    (w1 : (Cond.methodLink own index y).before a0 Z = true) (w2 : (Cond.static y).before a0 Z = true) (w3 : (Cond.initialized y.cls).before a0 Z = true) (w4 : (Cond.code y bytes maxL ret).before a0 Z = true)
    (hy : y.cls ≠ "java/lang/invoke/MethodHandle" ∧ y.cls ≠ "java/lang/invoke/VarHandle") {Q : Option Value → Heap → List Loc → Prop} (hM : Ctr l Z h y bytes maxL ret [] rm as' Q) (eT : T.heap = h) (hsz : Ls.size = c.maxLocals)
    (hd : decode c.code pc = .ok (.invokestatic index, 3)) (hlen : ∀ sig, parseMethodDescriptor y.desc = some sig → argsL.length = sig.parameters.length) (hst : S = argsL.reverse ++ rest) (has : argsL.toArray = as')
    {W : Nat} (hW : 2 * 0 + (rest.map fun v => v.category).sum ≤ W) (hB : rm.frames + 1 ≤ R.frames ∧ W + (maxL + 11) + rm.locals ≤ R.locals ∧ cells + rm.cells ≤ R.cells ∧ slots + rm.slots ≤ R.slots)
    (g : ∀ (v : Option Value) (T' : State) (L : List Loc), Stand p l e R s m args below meth c T' (locs ++ L) (cells + rm.cells) (slots + rm.slots) → Q v T'.heap L → Go p e below K (T'.setTop (mkF m (pc + 3) Ls (v.toList ++ rest)))) : Go p e below K (T.setTop (mkF m pc Ls S)) := by
  obtain ⟨hf, hl, hc, hs⟩ := hB
  obtain ⟨v, _, ⟨T', L', k', n'⟩, -, X', ⟨Lc, hQ, l', y', z'⟩, st⟩ := Jvm.LawKit.callS X hx (y := y) hown (mvT hZ w1) (mvT hZ w2) (mvT hZ w3) (mvT hZ w4) hy (backOf (W := W) hM hZ w4 w3 hf hl) (g := mkF m pc Ls S) rfl hsz (argsL := argsL) (rest := rest) hlen hst hW hd (fun _ _ => ⟨has, eT, hc, hs⟩)
  dsimp only [Pt.U, Pt.locs, Pt.cells, Pt.slots] at X' l' y' z' st hQ
  subst l' y' z'
  exact Go.by st (g v T' Lc X' hQ)
theorem Go.init {own : String} {index : Nat} {y : MethodName} {bytes : ByteArray} {maxL : Nat} {rm : Room} {as' : Array Value} {argsL S : List Value} (X : Stand p l e R s m args below meth c T locs cells slots) (hx : p.tables.exec = Jvm.exec) (hZ : Z.Warmed39 s.vm) (hown : s.vm.findClass own = some m.cls) (hy1 : y.name = "<init>")
    (w1 : (Cond.methodLink own index y).before a0 Z = true) (w2 : (Cond.instanceMethod y).before a0 Z = true) (w3 : (Cond.initialized y.cls).before a0 Z = true) (w4 : (Cond.code y bytes maxL none).before a0 Z = true)
    (hy : y.cls ≠ "java/lang/invoke/MethodHandle" ∧ y.cls ≠ "java/lang/invoke/VarHandle") {Q : Option Value → Heap → List Loc → Prop} (hM : Ctr l Z h y bytes maxL none [] rm as' Q) (eT : T.heap = h) (hsz : Ls.size = c.maxLocals)
    (hd : decode c.code pc = .ok (.invokespecial index, 3)) (hlen : ∀ sig, parseMethodDescriptor y.desc = some sig → argsL.length = sig.parameters.length) (hst : S = argsL.reverse ++ .ref a :: rest) (has : (Value.ref a :: argsL).toArray = as')
    {W : Nat} (hW : 2 * 0 + (rest.map fun v => v.category).sum ≤ W) (hB : rm.frames + 1 ≤ R.frames ∧ W + (maxL + 11) + rm.locals ≤ R.locals ∧ cells + rm.cells ≤ R.cells ∧ slots + rm.slots ≤ R.slots)
    (g : ∀ (v : Option Value) (T' : State) (L : List Loc), Stand p l e R s m args below meth c T' (locs ++ L) (cells + rm.cells) (slots + rm.slots) → Q v T'.heap L → Go p e below K (T'.setTop (mkF m (pc + 3) Ls (v.toList ++ rest)))) : Go p e below K (T.setTop (mkF m pc Ls S)) := by
  obtain ⟨hf, hl, hc, hs⟩ := hB
  obtain ⟨v, _, ⟨T', L', k', n'⟩, -, X', ⟨Lc, hQ, l', y', z'⟩, st⟩ := X.specialBack hx (y := y) hy1 hown (mvT hZ w1) (mvT hZ w2) (mvT hZ w4) hy (backOf (W := W) hM hZ w4 w3 hf hl) (g := mkF m pc Ls S) rfl hsz (Steps.refl _) (a := a) (argsL := argsL) (rest := rest) hlen hst hW hd (fun _ _ => ⟨has, eT, hc, hs⟩)
  dsimp only [Pt.U, Pt.locs, Pt.cells, Pt.slots] at X' l' y' z' st hQ
  subst l' y' z'
  exact Go.on st (g v T' Lc X' hQ)
theorem Go.virt {own C : String} {index : Nat} {y z : MethodName} {bytes : ByteArray} {maxL : Nat} {ret : Option FieldType} {rm : Room} {as' : Array Value} {argsL S : List Value} (X : Stand p l e R s m args below meth c T locs cells slots) (hx : p.tables.exec = Jvm.exec) (hZ : Z.Warmed39 s.vm) (hown : s.vm.findClass own = some m.cls)
    (w1 : (Cond.methodLink own index y).before a0 Z = true) (w2 : (Cond.declares y).before a0 Z = true) (hnf : NotFace s y) (w5 : (Cond.selects C y z).before a0 Z = true) (w6 : (Cond.instanceMethod z).before a0 Z = true) (w3 : (Cond.initialized z.cls).before a0 Z = true) (w4 : (Cond.code z bytes maxL ret).before a0 Z = true)
    (hy : y.cls ≠ "java/lang/invoke/MethodHandle" ∧ y.cls ≠ "java/lang/invoke/VarHandle") {Q : Option Value → Heap → List Loc → Prop} (hM : Ctr l Z h z bytes maxL ret [] rm as' Q) (eT : T.heap = h) (E : Exa Z h a C) (hsz : Ls.size = c.maxLocals)
    (hd : decode c.code pc = .ok (.invokevirtual index, 3)) (hlen : ∀ sig, parseMethodDescriptor y.desc = some sig → argsL.length = sig.parameters.length) (hst : S = argsL.reverse ++ .ref a :: rest) (has : (Value.ref a :: argsL).toArray = as')
    {W : Nat} (hW : 2 * 0 + (rest.map fun v => v.category).sum ≤ W) (hB : rm.frames + 1 ≤ R.frames ∧ W + (maxL + 11) + rm.locals ≤ R.locals ∧ cells + rm.cells ≤ R.cells ∧ slots + rm.slots ≤ R.slots)
    (g : ∀ (v : Option Value) (T' : State) (L : List Loc), Stand p l e R s m args below meth c T' (locs ++ L) (cells + rm.cells) (slots + rm.slots) → Q v T'.heap L → Go p e below K (T'.setTop (mkF m (pc + 3) Ls (v.toList ++ rest)))) : Go p e below K (T.setTop (mkF m pc Ls S)) := by
  obtain ⟨hf, hl, hc, hs⟩ := hB
  obtain ⟨cq, kq, q1, q2, q3⟩ := isOf hZ eT E
  obtain ⟨v, _, ⟨T', L', k', n'⟩, -, X', ⟨Lc, hQ, l', y', z'⟩, st⟩ := X.virtualBack hx (y := y) (z := z) hown (mvT hZ w1) (mvT hZ w2) hnf (mvT hZ w5) (mvT hZ w6) hy (backOf (W := W) hM hZ w4 w3 hf hl) q1 q3 (g := mkF m pc Ls S) rfl hsz (Steps.refl _) (argsL := argsL) (rest := rest) hlen hst hW hd (fun _ _ => ⟨has, eT, hc, hs⟩)
  dsimp only [Pt.U, Pt.locs, Pt.cells, Pt.slots] at X' l' y' z' st hQ
  subst l' y' z'
  exact Go.on st (g v T' Lc X' hQ)
theorem Go.face {own C : String} {index count : Nat} {y z : MethodName} {bytes : ByteArray} {maxL : Nat} {ret : Option FieldType} {rm : Room} {as' : Array Value} {argsL S : List Value} (X : Stand p l e R s m args below meth c T locs cells slots) (hx : p.tables.exec = Jvm.exec) (hZ : Z.Warmed39 s.vm) (hown : s.vm.findClass own = some m.cls)
    (w1 : (Cond.methodLink own index y).before a0 Z = true) (w2 : (Cond.declares y).before a0 Z = true) (w7 : (Cond.interfaceMethod y.cls y.cls y.name y.desc).before a0 Z = true) (w5 : (Cond.selects C y z).before a0 Z = true) (w6 : (Cond.instanceMethod z).before a0 Z = true) (w8 : (Cond.publicMethod z).before a0 Z = true) (w9 : (Cond.unhidden C y.name y.desc).before a0 Z = true) (w10 : (Cond.castable C y.cls).before a0 Z = true) (w3 : (Cond.initialized z.cls).before a0 Z = true) (w4 : (Cond.code z bytes maxL ret).before a0 Z = true)
    (hy : y.cls ≠ "java/lang/invoke/MethodHandle" ∧ y.cls ≠ "java/lang/invoke/VarHandle") {Q : Option Value → Heap → List Loc → Prop} (hM : Ctr l Z h z bytes maxL ret [] rm as' Q) (eT : T.heap = h) (E : Exa Z h a C) (hsz : Ls.size = c.maxLocals)
    (hd : decode c.code pc = .ok (.invokeinterface index count, 5)) (hlen : ∀ sig, parseMethodDescriptor y.desc = some sig → argsL.length = sig.parameters.length) (hst : S = argsL.reverse ++ .ref a :: rest) (has : (Value.ref a :: argsL).toArray = as')
    {W : Nat} (hW : 2 * 0 + (rest.map fun v => v.category).sum ≤ W) (hB : rm.frames + 1 ≤ R.frames ∧ W + (maxL + 11) + rm.locals ≤ R.locals ∧ cells + rm.cells ≤ R.cells ∧ slots + rm.slots ≤ R.slots)
    (g : ∀ (v : Option Value) (T' : State) (L : List Loc), Stand p l e R s m args below meth c T' (locs ++ L) (cells + rm.cells) (slots + rm.slots) → Q v T'.heap L → Go p e below K (T'.setTop (mkF m (pc + 5) Ls (v.toList ++ rest)))) : Go p e below K (T.setTop (mkF m pc Ls S)) := by
  obtain ⟨hf, hl, hc, hs⟩ := hB
  obtain ⟨cq, kq, q1, q2, q3⟩ := isOf hZ eT E
  obtain ⟨v, _, ⟨T', L', k', n'⟩, -, X', ⟨Lc, hQ, l', y', z'⟩, st⟩ := X.interfaceBack hx (xi := y) (y := z) hown (mvT hZ w1) (mvT hZ w2) (mvT hZ w7 (by simp [Cond.onTables, Cond.keepsFace, Cond.keeps, Cond.steady, Cond.faceAtom]; exact hy)) (mvT hZ w5) (mvT hZ w6) (mvT hZ w8) (mvT hZ w9) (mvT hZ w10) hy (backOf (W := W) (len := 5) hM hZ w4 w3 hf hl) q1 q2 q3 (g := mkF m pc Ls S) rfl hsz (Steps.refl _) (argsL := argsL) (rest := rest) hlen hst hW hd (fun _ _ => ⟨has, eT, hc, hs⟩)
  dsimp only [Pt.U, Pt.locs, Pt.cells, Pt.slots] at X' l' y' z' st hQ
  subst l' y' z'
  exact Go.on st (g v T' Lc X' hQ)
theorem Go.priv {own : String} {index : Nat} {y : MethodName} {bytes : ByteArray} {maxL : Nat} {ret : Option FieldType} {rm : Room} {as' : Array Value} {argsL S : List Value} {C : String} (X : Stand p l e R s m args below meth c T locs cells slots) (hx : p.tables.exec = Jvm.exec) (hZ : Z.Warmed39 s.vm) (hown : s.vm.findClass own = some m.cls)
    (w1 : (Cond.methodLink own index y).before a0 Z = true) (w6 : (Cond.instanceMethod y).before a0 Z = true) (w5 : (Cond.selects y.cls y y).before a0 Z = true) (w7 : (Cond.privateMethod y).before a0 Z = true) (w3 : (Cond.initialized y.cls).before a0 Z = true) (w4 : (Cond.code y bytes maxL ret).before a0 Z = true)
    (hy : y.cls ≠ "java/lang/invoke/MethodHandle" ∧ y.cls ≠ "java/lang/invoke/VarHandle") {Q : Option Value → Heap → List Loc → Prop} (hM : Ctr l Z h y bytes maxL ret [] rm as' Q) (eT : T.heap = h) (E : Exa Z h a C) (hsz : Ls.size = c.maxLocals)
    (hd : decode c.code pc = .ok (.invokevirtual index, 3)) (hlen : ∀ sig, parseMethodDescriptor y.desc = some sig → argsL.length = sig.parameters.length) (hst : S = argsL.reverse ++ .ref a :: rest) (has : (Value.ref a :: argsL).toArray = as')
    {W : Nat} (hW : 2 * 0 + (rest.map fun v => v.category).sum ≤ W) (hB : rm.frames + 1 ≤ R.frames ∧ W + (maxL + 11) + rm.locals ≤ R.locals ∧ cells + rm.cells ≤ R.cells ∧ slots + rm.slots ≤ R.slots)
    (g : ∀ (v : Option Value) (T' : State) (L : List Loc), Stand p l e R s m args below meth c T' (locs ++ L) (cells + rm.cells) (slots + rm.slots) → Q v T'.heap L → Go p e below K (T'.setTop (mkF m (pc + 3) Ls (v.toList ++ rest)))) : Go p e below K (T.setTop (mkF m pc Ls S)) := by
  obtain ⟨hf, hl, hc, hs⟩ := hB
  obtain ⟨cq, q1, q2⟩ := E.cell
  subst eT
  obtain ⟨v, _, ⟨T', L', k', n'⟩, -, X', ⟨Lc, hQ, l', y', z'⟩, st⟩ := X.privateBack hx (y := y) hown (mvT hZ w1) (mvT hZ w6) (mvT hZ w5) (Cond.privateMethod_at (mvP hZ w7 (args := #[]))) (mvT hZ w4) hy (backOf (W := W) hM hZ w4 w3 hf hl) (g := mkF m pc Ls S) rfl hsz (Steps.refl _) (a := a) q1 q2 (argsL := argsL) (rest := rest) hlen hst hW hd (fun _ _ => ⟨has, rfl, hc, hs⟩)
  dsimp only [Pt.U, Pt.locs, Pt.cells, Pt.slots] at X' l' y' z' st hQ
  subst l' y' z'
  exact Go.on st (g v T' Lc X' hQ)
/-! arrays whose components are known -/
variable {cA : ClassId} {ty : FieldType} {z j : Int32} {vs : List Value} {dv : Value}
theorem Go.alen (X : Stand p l e R s m args below meth c T locs cells slots) (hx : p.tables.exec = Jvm.exec) (hZ : Z.Warmed39 s.vm) (eT : T.heap = h) (V : Arv Z h a cA ty z vs dv) (hd : decode c.code pc = .ok (.arraylength, 1))
    (g : Go p e below K (T.setTop (mkF m (pc + 1) Ls (.int z :: rest)))) : Go p e below K (T.setTop (mkF m pc Ls (.ref a :: rest))) := by
  obtain ⟨cl, A, -, S, N, -, -⟩ := V
  subst eT
  refine Go.by (fun t q => X.arraylength hx A.1 (State.isArrayOf_alike hZ.alike A.2.1) (g := mkF m pc Ls (.ref a :: rest)) rfl rfl hd _ q) ?_
  rw [len_of S N]
  exact g
/-- an array of which the length alone is known -/
def Lng (Z : State) (h : Heap) (a : Addr) (n : Int32) : Prop := ∃ (cl : Cell) (ty : FieldType), Arr Z h a cl ty ∧ cl.slots.size = n.toNatClampNeg ∧ ¬ n < 0
theorem Lng.ext (L : Lng Z h a z) (E : Ext h h') : Lng Z h' a z := by obtain ⟨cl, ty, A, r⟩ := L; exact ⟨cl, ty, A.ext E, r⟩
theorem Lng.lt (L : Lng Z h a z) : a < h.size := by obtain ⟨cl, ty, A, r⟩ := L; exact A.lt
theorem Lng.of {cl : Cell} (A : Arr Z h a cl ty) (q : cl.slots.size < 2 ^ 31) (e : cl.slots.size.toInt32 = z) (hz : ¬ z < 0) : Lng Z h a z := by
  refine ⟨cl, ty, A, ?_, hz⟩
  rw [← e]; simp only [Int32.toNatClampNeg, len_toInt q]; rfl
theorem Go.aln (X : Stand p l e R s m args below meth c T locs cells slots) (hx : p.tables.exec = Jvm.exec) (hZ : Z.Warmed39 s.vm) (eT : T.heap = h) (V : Lng Z h a z) (hd : decode c.code pc = .ok (.arraylength, 1))
    (g : Go p e below K (T.setTop (mkF m (pc + 1) Ls (.int z :: rest)))) : Go p e below K (T.setTop (mkF m pc Ls (.ref a :: rest))) := by
  obtain ⟨cl, ty, A, S, N⟩ := V
  subst eT
  refine Go.by (fun t q => X.arraylength hx A.1 (State.isArrayOf_alike hZ.alike A.2.1) (g := mkF m pc Ls (.ref a :: rest)) rfl rfl hd _ q) ?_
  rw [len_of S N]
  exact g
theorem cc (x : Int32) : nar .char x.toUInt32.toUInt16.toUInt32.toInt32 = x.toUInt32.toUInt16.toUInt32.toInt32 := by
  have h := Jvm.Free.XT.narrow_c x
  exact Value.int.inj h
theorem bb (x : Int32) : x.toInt8.toInt32.toInt8.toInt32 = x.toInt8.toInt32 := by simp
theorem Go.bal {v : Value} (X : Stand p l e R s m args below meth c T locs cells slots) (hx : p.tables.exec = Jvm.exec) (hZ : Z.Warmed39 s.vm) (eT : T.heap = h) (V : Arv Z h a cA .byte z vs dv) (hj : ¬ j < 0 ∧ j < z) (hv : vs.getD j.toNatClampNeg dv = v) (hd : decode c.code pc = .ok (.baload, 1))
    (g : Go p e below K (T.setTop (mkF m (pc + 1) Ls (v :: rest)))) : Go p e below K (T.setTop (mkF m pc Ls (.int j :: .ref a :: rest))) := by
  obtain ⟨cl, A, -, S, N, H, -⟩ := V
  subst eT
  have hin := inb_of S hj
  exact Go.by (fun t q => X.baloadBytes hx (j := j) (v := v) A.1 (State.isArrayOf_alike hZ.alike A.2.1) A.2.2 hin (H.at hin hv) (g := mkF m pc Ls (.int j :: .ref a :: rest)) rfl rfl hd _ q) g
theorem Go.aal {v : Value} (X : Stand p l e R s m args below meth c T locs cells slots) (hx : p.tables.exec = Jvm.exec) (hZ : Z.Warmed39 s.vm) (eT : T.heap = h) (V : Arv Z h a cA ty z vs dv) (hty : ty.isReference = true) (hj : ¬ j < 0 ∧ j < z) (hv : vs.getD j.toNatClampNeg dv = v) (hd : decode c.code pc = .ok (.aaload, 1))
    (g : Go p e below K (T.setTop (mkF m (pc + 1) Ls (v :: rest)))) : Go p e below K (T.setTop (mkF m pc Ls (.int j :: .ref a :: rest))) := by
  obtain ⟨cl, A, -, S, N, H, -⟩ := V
  subst eT
  have hin := inb_of S hj
  exact Go.by (fun t q => X.aaload hx (j := j) (v := v) A.1 (State.isArrayOf_alike hZ.alike A.2.1) hty A.2.2 hin (H.at hin hv) (g := mkF m pc Ls (.int j :: .ref a :: rest)) rfl rfl hd _ q) g
theorem Go.bst {x : Int32} {i : Nat} (X : Stand p l e R s m args below meth c T locs cells slots) (hx : p.tables.exec = Jvm.exec) (hZ : Z.Warmed39 s.vm) (eT : T.heap = h) (V : Arv Z h a cA .byte z vs dv) (hj : ¬ j < 0 ∧ j < z) (hi : j.toNatClampNeg = i) (hl : i < vs.length) (hd : decode c.code pc = .ok (.bastore, 1))
    (g : ∀ (T' : State) (h' : Heap), Stand p l e R s m args below meth c T' (locs ++ [⟨a, j.toNatClampNeg⟩]) cells slots → T'.heap = h' → Wr h h' a j.toNatClampNeg (.int x.toInt8.toInt32) → Arv Z h' a cA .byte z (vs.set i (.int x.toInt8.toInt32)) dv → Go p e below K (T'.setTop (mkF m (pc + 1) Ls rest))) : Go p e below K (T.setTop (mkF m pc Ls (.int x :: .int j :: .ref a :: rest))) := by
  obtain ⟨cl, A, q1, S, N, H, G⟩ := V
  obtain ⟨T', h', X', e', W, st⟩ := stB X hx hZ eT A (j := j) (x := x) (inb_of S hj) (g := mkF m pc Ls (.int x :: .int j :: .ref a :: rest)) rfl rfl hd
  exact Go.by st (g T' h' X' e' W (Arv.set A q1 S N H G (fits_nar_byte _) W i hi hl))
/-! from the case's words -/
theorem sta_exa {C f d K : String} (hx : (Cond.exactly (Term.static C f d) K).value args s none s [] = some true) (w1 : (Cond.initialized C).before args s = true) (w2 : (Cond.laysStatic C f d).before args s = true) : ∃ a, (Term.static C f d).eval args s none [] s = some (.ref a) ∧ Sta s s.heap C f d (.ref a) ∧ Exa s s.heap a K := by
  obtain ⟨a, ev⟩ := exa_v hx
  exact ⟨a, ev, Sta.start ev (Or.inr ⟨w1, w2⟩), Exa.start ev hx⟩
theorem fld_int {t : Term} {C f d : String} {z : Int32} (ev : t.eval args s none [] s = some (.ref a)) (hx : (Cond.eq (Term.field t C f d) (Term.int z)).value args s none s [] = some true) : Fld s s.heap a C f d (.int z) := by
  obtain ⟨x, y, e1, e2, k1, k2⟩ := cmp_v (Or.inl hx)
  have e3 : y = .int z := by rw [Term.int_eval] at e2; exact (Option.some.inj e2).symm
  subst e3
  obtain ⟨q, rfl⟩ : ∃ q, x = .int q := k2
  have e4 : q = z := by simpa [Cond.value, e1, e2] using hx
  subst e4
  rw [fld_at ev] at e1
  exact Fld.start e1
theorem eq_int {t : Term} {x z : Int32} (ev : t.eval args s none [] s = some (.int x)) (h : (Cond.eq t (Term.int z)).before args s = true) : x = z := by
  have q := Cond.before_iff.mp h
  simpa [Cond.value, ev, Term.int_eval] using q
theorem fld_ref {t : Term} {C f d : String} (ev : t.eval args s none [] s = some (.ref a)) (ev2 : (Term.field t C f d).eval args s none [] s = some (.ref b)) : Fld s s.heap a C f d (.ref b) := by
  rw [fld_at ev] at ev2; exact Fld.start ev2
theorem fld_null {t : Term} {C f d : String} (ev : t.eval args s none [] s = some (.ref a)) (hx : (Cond.eq (Term.field t C f d) Term.null).value args s none s [] = some true) : Fld s s.heap a C f d .null := by
  have q := null_v hx
  rw [fld_at ev] at q; exact Fld.start q
theorem fld_same {t u : Term} {C f d : String} (ev : t.eval args s none [] s = some (.ref a)) (ev2 : u.eval args s none [] s = some (.ref b)) (hx : (Cond.eq (Term.field t C f d) u).value args s none s [] = some true) : Fld s s.heap a C f d (.ref b) := by
  obtain ⟨x, y, e1, e2, k1, k2⟩ := cmp_v (Or.inl hx)
  cases ev2.symm.trans e2
  have hr : x.isRef = true := by
    have := k2
    simp [Kin] at this
    exact this.2
  rw [eq_R e1 e2 hr rfl] at hx
  have e3 : x = .ref b := by simpa using hx
  subst e3
  exact fld_ref ev e1
theorem elem_int {t : Term} {i v : Int32} {cl : Cell} {ty : FieldType} (ev : t.eval args s none [] s = some (.ref a)) (A : Arr s s.heap a cl ty) (hx : (Cond.eq (Term.elem t (Term.int i)) (Term.int v)).value args s none s [] = some true) : cl.slots[i.toNatClampNeg]? = some (.int v) := by
  obtain ⟨x, y, e1, e2, k1, k2⟩ := cmp_v (Or.inl hx)
  have e3 : y = .int v := by rw [Term.int_eval] at e2; exact (Option.some.inj e2).symm
  subst e3
  obtain ⟨q, rfl⟩ : ∃ q, x = .int q := k2
  have e4 : q = v := eq_int e1 (Cond.before_iff.mpr hx)
  subst e4
  exact (elem_in e1 ev (Term.int_eval _) A.1).2
theorem sta_int {C f d : String} (h0 : (Cond.initializedFor C f d).before args s = true) (h1 : (Cond.isInt (Term.static C f d)).before args s = true) : ∃ x, (Term.static C f d).eval args s none [] s = some (.int x) ∧ Sta s s.heap C f d (.int x) := by
  obtain ⟨x, ev⟩ := is_v (Cond.before_iff.mp h1)
  exact ⟨x, ev, Sta.start ev (Or.inl h0)⟩
theorem sta_ref {C f d : String} (h0 : (Cond.initializedFor C f d).before args s = true) (h1 : (Cond.isRef (Term.static C f d)).before args s = true) : ∃ x, (Term.static C f d).eval args s none [] s = some x ∧ x.isRef = true ∧ Sta s s.heap C f d x := by
  obtain ⟨x, ev, hr⟩ := isR_v (Cond.before_iff.mp h1)
  exact ⟨x, ev, hr, Sta.start ev (Or.inl h0)⟩
theorem ne_int {t : Term} {x z : Int32} (ev : t.eval args s none [] s = some (.int x)) (h : (Cond.not (Cond.eq t (Term.int z))).before args s = true) : ¬ x = z := by
  have q := not_v (Cond.before_iff.mp h)
  intro e; subst e
  rw [eq_i ev (Term.int_eval _) rfl] at q
  cases q
/-! a class whose superclasses are named is not one that can be instantiated and isn't among them -/
theorem ns_root {O D : String} {nn : Nat} (w : (Cond.noSuperclass O).before a0 Z = true) (wk : (Cond.instantiable D nn).before a0 Z = true) (hn : O ≠ D) : NS Z O D := by
  obtain ⟨c1, k1, q1, q2, q3, -, -⟩ := Cond.noSuperclass_spec w
  obtain ⟨t, -, g1, -⟩ := Cond.instantiable_spec wk
  refine ⟨c1, t, q1, g1, fun fuel => ?_⟩
  have ne := ids_ne q1 g1 hn
  cases fuel <;> simp [Vm.isSubclassAux, ne, q2, q3]
theorem ns_no {C S D : String} {nn : Nat} (w : (Cond.superclass C S).before a0 Z = true) (wk : (Cond.instantiable D nn).before a0 Z = true) (n : NS Z C D) (hn : C ≠ D) : ∃ c t, Z.vm.findClass C = some c ∧ Z.vm.findClass D = some t ∧ Z.vm.assignable c t = false := by
  obtain ⟨c1, t, q0, g0, n3⟩ := n
  obtain ⟨p1, k1, kp, q1, q2, q3, q4, q5, -, q7⟩ := Cond.superclass_spec q0 w
  obtain ⟨t', k2, g1, g2, g3, g4, -⟩ := Cond.instantiable_spec wk
  cases g0.symm.trans g1
  have ne := ids_ne q0 g0 hn
  have g5 : k2.isInterface = false := by simpa using (Bool.or_eq_false_iff.mp g4).1
  refine ⟨c1, t, q0, g0, ?_⟩
  show Z.vm.assignableAux (255 + 1) c1 t = false
  simp [Vm.assignableAux, ne, q2, g2, q5, g3, g5, Vm.isSubclass, n3]
end Own
end Jvm.RoadKit
namespace Jvm.RoadKit
open Sem ClassFile Op Lib Jvm.Stand Jvm.Free Jvm.LawKit
section OwnSteps
variable {p : Program} {l : Launch} {e : Env} {R : Room} {s : State} {m : MethodId} {args : Array Value} {below : List Frame} {meth : Method} {c : Code} {T : State} {locs : List Loc} {cells slots : Nat} {K : State → Outcome → Prop} {pc q : Nat} {Ls l' : Array Slot} {S : List Value}
theorem Go.iloadN {k : Fin 4} {v : Int32} (X : Stand p l e R s m args below meth c T locs cells slots) (hx : p.tables.exec = Jvm.exec) (hd : decode c.code pc = .ok (.iload_n k, 1)) (hl : Ls[k.val]? = some (.val (.int v))) (hp : pc + 1 = q) (g : Go p e below K (T.setTop (mkF m q Ls (.int v :: S)))) : Go p e below K (T.setTop (mkF m pc Ls S)) := by
  subst hp
  exact Go.by (fun t z => XS.iloadN X.here hx rfl hd hl z) g
theorem Go.iload {k : Nat} {v : Int32} (X : Stand p l e R s m args below meth c T locs cells slots) (hx : p.tables.exec = Jvm.exec) (hd : decode c.code pc = .ok (.iload k, 2)) (hl : Ls[k]? = some (.val (.int v))) (hp : pc + 2 = q) (g : Go p e below K (T.setTop (mkF m q Ls (.int v :: S)))) : Go p e below K (T.setTop (mkF m pc Ls S)) := by
  subst hp
  exact Go.by (fun t z => XS.iload X.here hx rfl hd hl z) g
theorem Go.istoreN {k : Fin 4} {v : Int32} (X : Stand p l e R s m args below meth c T locs cells slots) (hx : p.tables.exec = Jvm.exec) (hd : decode c.code pc = .ok (.istore_n k, 1)) (hl : storeLocals Ls k.val (.int v) = some l') (hp : pc + 1 = q) (g : Go p e below K (T.setTop (mkF m q l' S))) : Go p e below K (T.setTop (mkF m pc Ls (.int v :: S))) := by
  subst hp
  exact Go.by (fun t z => XS.istoreN X.here hx rfl hd rfl hl z) g
theorem Go.istore {k : Nat} {v : Int32} (X : Stand p l e R s m args below meth c T locs cells slots) (hx : p.tables.exec = Jvm.exec) (hd : decode c.code pc = .ok (.istore k, 2)) (hl : storeLocals Ls k (.int v) = some l') (hp : pc + 2 = q) (g : Go p e below K (T.setTop (mkF m q l' S))) : Go p e below K (T.setTop (mkF m pc Ls (.int v :: S))) := by
  subst hp
  exact Go.by (fun t z => XS.istore X.here hx rfl hd rfl hl z) g
theorem Go.aloadN {k : Fin 4} {v : Value} (X : Stand p l e R s m args below meth c T locs cells slots) (hx : p.tables.exec = Jvm.exec) (hd : decode c.code pc = .ok (.aload_n k, 1)) (hl : Ls[k.val]? = some (.val v)) (hv : v.isRef = true) (hp : pc + 1 = q) (g : Go p e below K (T.setTop (mkF m q Ls (v :: S)))) : Go p e below K (T.setTop (mkF m pc Ls S)) := by
  subst hp
  exact Go.by (fun t z => XS.aloadN X.here hx rfl hd hl hv z) g
theorem Go.aload {k : Nat} {v : Value} (X : Stand p l e R s m args below meth c T locs cells slots) (hx : p.tables.exec = Jvm.exec) (hd : decode c.code pc = .ok (.aload k, 2)) (hl : Ls[k]? = some (.val v)) (hv : v.isRef = true) (hp : pc + 2 = q) (g : Go p e below K (T.setTop (mkF m q Ls (v :: S)))) : Go p e below K (T.setTop (mkF m pc Ls S)) := by
  subst hp
  exact Go.by (fun t z => XS.aload X.here hx rfl hd hl hv z) g
theorem Go.astoreN {k : Fin 4} {v : Value} (X : Stand p l e R s m args below meth c T locs cells slots) (hx : p.tables.exec = Jvm.exec) (hd : decode c.code pc = .ok (.astore_n k, 1)) (hv : v.isRef = true) (hl : storeLocals Ls k.val v = some l') (hp : pc + 1 = q) (g : Go p e below K (T.setTop (mkF m q l' S))) : Go p e below K (T.setTop (mkF m pc Ls (v :: S))) := by
  subst hp
  exact Go.by (fun t z => XS.astoreN X.here hx rfl hd rfl hv hl z) g
theorem Go.astore {k : Nat} {v : Value} (X : Stand p l e R s m args below meth c T locs cells slots) (hx : p.tables.exec = Jvm.exec) (hd : decode c.code pc = .ok (.astore k, 2)) (hv : v.isRef = true) (hl : storeLocals Ls k v = some l') (hp : pc + 2 = q) (g : Go p e below K (T.setTop (mkF m q l' S))) : Go p e below K (T.setTop (mkF m pc Ls (v :: S))) := by
  subst hp
  exact Go.by (fun t z => XS.astore X.here hx rfl hd rfl hv hl z) g
theorem Go.iconst {i : Int} {r : Int32} (X : Stand p l e R s m args below meth c T locs cells slots) (hx : p.tables.exec = Jvm.exec) (hd : decode c.code pc = .ok (.iconst i, 1)) (hr : Int32.ofInt i = r) (hp : pc + 1 = q) (g : Go p e below K (T.setTop (mkF m q Ls (.int r :: S)))) : Go p e below K (T.setTop (mkF m pc Ls S)) := by
  subst hp hr
  exact Go.by (fun t z => XS.iconst X.here hx rfl hd z) g
theorem Go.bipush {i : Int} {r : Int32} (X : Stand p l e R s m args below meth c T locs cells slots) (hx : p.tables.exec = Jvm.exec) (hd : decode c.code pc = .ok (.bipush i, 2)) (hr : (Int8.ofInt i).toInt32 = r) (hp : pc + 2 = q) (g : Go p e below K (T.setTop (mkF m q Ls (.int r :: S)))) : Go p e below K (T.setTop (mkF m pc Ls S)) := by
  subst hp hr
  exact Go.by (fun t z => XS.bipush X.here hx rfl hd z) g
theorem Go.aconst_null  (X : Stand p l e R s m args below meth c T locs cells slots) (hx : p.tables.exec = Jvm.exec) (hd : decode c.code pc = .ok (.aconst_null, 1)) (hp : pc + 1 = q) (g : Go p e below K (T.setTop (mkF m q Ls (.null :: S)))) : Go p e below K (T.setTop (mkF m pc Ls S)) := by
  subst hp
  exact Go.by (fun t z => XS.aconstNull X.here hx rfl hd z) g
theorem Go.iadd {x y r : Int32} (X : Stand p l e R s m args below meth c T locs cells slots) (hx : p.tables.exec = Jvm.exec) (hd : decode c.code pc = .ok (.iadd, 1)) (hr : x + y = r) (hp : pc + 1 = q) (g : Go p e below K (T.setTop (mkF m q Ls (.int r :: S)))) : Go p e below K (T.setTop (mkF m pc Ls (.int y :: .int x :: S))) := by
  subst hp hr
  exact Go.by (fun t z => XS.iadd X.here hx rfl hd rfl z) g
theorem Go.isub {x y r : Int32} (X : Stand p l e R s m args below meth c T locs cells slots) (hx : p.tables.exec = Jvm.exec) (hd : decode c.code pc = .ok (.isub, 1)) (hr : x - y = r) (hp : pc + 1 = q) (g : Go p e below K (T.setTop (mkF m q Ls (.int r :: S)))) : Go p e below K (T.setTop (mkF m pc Ls (.int y :: .int x :: S))) := by
  subst hp hr
  exact Go.by (fun t z => XS.isub X.here hx rfl hd rfl z) g
theorem Go.imul {x y r : Int32} (X : Stand p l e R s m args below meth c T locs cells slots) (hx : p.tables.exec = Jvm.exec) (hd : decode c.code pc = .ok (.imul, 1)) (hr : x * y = r) (hp : pc + 1 = q) (g : Go p e below K (T.setTop (mkF m q Ls (.int r :: S)))) : Go p e below K (T.setTop (mkF m pc Ls (.int y :: .int x :: S))) := by
  subst hp hr
  exact Go.by (fun t z => XS.imul X.here hx rfl hd rfl z) g
theorem Go.iand {x y r : Int32} (X : Stand p l e R s m args below meth c T locs cells slots) (hx : p.tables.exec = Jvm.exec) (hd : decode c.code pc = .ok (.iand, 1)) (hr : x &&& y = r) (hp : pc + 1 = q) (g : Go p e below K (T.setTop (mkF m q Ls (.int r :: S)))) : Go p e below K (T.setTop (mkF m pc Ls (.int y :: .int x :: S))) := by
  subst hp hr
  exact Go.by (fun t z => XS.iand X.here hx rfl hd rfl z) g
theorem Go.irem {x y r : Int32} (X : Stand p l e R s m args below meth c T locs cells slots) (hx : p.tables.exec = Jvm.exec) (hd : decode c.code pc = .ok (.irem, 1)) (hy : y ≠ 0) (hr : x % y = r) (hp : pc + 1 = q) (g : Go p e below K (T.setTop (mkF m q Ls (.int r :: S)))) : Go p e below K (T.setTop (mkF m pc Ls (.int y :: .int x :: S))) := by
  subst hp hr
  exact Go.by (fun t z => iremM X hx (g := mkF m pc Ls (.int y :: .int x :: S)) rfl hd rfl hy z) g
theorem Go.ishr {x y r : Int32} (X : Stand p l e R s m args below meth c T locs cells slots) (hx : p.tables.exec = Jvm.exec) (hd : decode c.code pc = .ok (.ishr, 1)) (hr : x >>> (y &&& 31) = r) (hp : pc + 1 = q) (g : Go p e below K (T.setTop (mkF m q Ls (.int r :: S)))) : Go p e below K (T.setTop (mkF m pc Ls (.int y :: .int x :: S))) := by
  subst hp hr
  exact Go.by (fun t z => XS.ishr X.here hx rfl hd rfl z) g
theorem Go.i2b {x : Int32} {r : Int32} (X : Stand p l e R s m args below meth c T locs cells slots) (hx : p.tables.exec = Jvm.exec) (hd : decode c.code pc = .ok (.i2b, 1)) (hr : x.toInt8.toInt32 = r) (hp : pc + 1 = q) (g : Go p e below K (T.setTop (mkF m q Ls (.int r :: S)))) : Go p e below K (T.setTop (mkF m pc Ls (.int x :: S))) := by
  subst hp hr
  exact Go.by (fun t z => XS.i2b X.here hx rfl hd rfl z) g
theorem Go.iinc {k : Nat} {cst : Int} {x r : Int32} (X : Stand p l e R s m args below meth c T locs cells slots) (hx : p.tables.exec = Jvm.exec) (hd : decode c.code pc = .ok (.iinc k cst, 3)) (hl : Ls[k]? = some (.val (.int x))) (hr : x + Int32.ofInt cst = r) (hl' : storeLocals Ls k (.int r) = some l') (hp : pc + 3 = q) (g : Go p e below K (T.setTop (mkF m q l' S))) : Go p e below K (T.setTop (mkF m pc Ls S)) := by
  subst hp hr
  exact Go.by (fun t z => XS.iinc X.here hx rfl hd hl hl' z) g
theorem Go.dup {x : Value} (X : Stand p l e R s m args below meth c T locs cells slots) (hx : p.tables.exec = Jvm.exec) (hd : decode c.code pc = .ok (.dup, 1)) (hc : x.category = 1) (hp : pc + 1 = q) (g : Go p e below K (T.setTop (mkF m q Ls (x :: x :: S)))) : Go p e below K (T.setTop (mkF m pc Ls (x :: S))) := by
  subst hp
  exact Go.by (fun t z => XS.dup X.here hx rfl hd rfl hc z) g
theorem Go.dup_x1 {x y : Value} (X : Stand p l e R s m args below meth c T locs cells slots) (hx : p.tables.exec = Jvm.exec) (hd : decode c.code pc = .ok (.dup_x1, 1)) (hc : x.category = 1) (hc2 : y.category = 1) (hp : pc + 1 = q) (g : Go p e below K (T.setTop (mkF m q Ls (x :: y :: x :: S)))) : Go p e below K (T.setTop (mkF m pc Ls (x :: y :: S))) := by
  subst hp
  exact Go.by (fun t z => XS.dupX1 X.here hx rfl hd rfl hc hc2 z) g
theorem Go.pop {x : Value} (X : Stand p l e R s m args below meth c T locs cells slots) (hx : p.tables.exec = Jvm.exec) (hd : decode c.code pc = .ok (.pop, 1)) (hc : x.category = 1) (hp : pc + 1 = q) (g : Go p e below K (T.setTop (mkF m q Ls S))) : Go p e below K (T.setTop (mkF m pc Ls (x :: S))) := by
  subst hp
  exact Go.by (fun t z => XS.pop X.here hx rfl hd rfl hc z) g
theorem Go.goto  {o : Int} (X : Stand p l e R s m args below meth c T locs cells slots) (hx : p.tables.exec = Jvm.exec) (hd : decode c.code pc = .ok (.goto o, 3)) (ho : 0 ≤ (pc : Int) + o) (hp : ((pc : Int) + o).toNat = q) (g : Go p e below K (T.setTop (mkF m q Ls S))) : Go p e below K (T.setTop (mkF m pc Ls S)) :=
  Go.by (fun t z => XS.goto X.here hx rfl (pc0 := pc) rfl hd ho hp z) g
theorem Go.ifYes {cd : ClassFile.Cond} {x : Int32} {o : Int} (X : Stand p l e R s m args below meth c T locs cells slots) (hx : p.tables.exec = Jvm.exec) (hd : decode c.code pc = .ok (.ifCond cd o, 3)) (hc : ifCond.holds cd x = true) (ho : 0 ≤ (pc : Int) + o) (hp : ((pc : Int) + o).toNat = q) (g : Go p e below K (T.setTop (mkF m q Ls S))) : Go p e below K (T.setTop (mkF m pc Ls (.int x :: S))) :=
  Go.by (fun t z => XS.ifYes X.here hx rfl (pc0 := pc) rfl hd rfl hc ho hp z) g
theorem Go.icmpYes {cd : ClassFile.Cond} {x y : Int32} {o : Int} (X : Stand p l e R s m args below meth c T locs cells slots) (hx : p.tables.exec = Jvm.exec) (hd : decode c.code pc = .ok (.if_icmp cd o, 3)) (hc : if_icmp.holds cd x y = true) (ho : 0 ≤ (pc : Int) + o) (hp : ((pc : Int) + o).toNat = q) (g : Go p e below K (T.setTop (mkF m q Ls S))) : Go p e below K (T.setTop (mkF m pc Ls (.int y :: .int x :: S))) :=
  Go.by (fun t z => XS.icmpYes X.here hx rfl (pc0 := pc) rfl hd rfl hc ho hp z) g
theorem Go.ifnonnullYes {b : Addr} {o : Int} (X : Stand p l e R s m args below meth c T locs cells slots) (hx : p.tables.exec = Jvm.exec) (hd : decode c.code pc = .ok (.ifnonnull o, 3)) (ho : 0 ≤ (pc : Int) + o) (hp : ((pc : Int) + o).toNat = q) (g : Go p e below K (T.setTop (mkF m q Ls S))) : Go p e below K (T.setTop (mkF m pc Ls (.ref b :: S))) :=
  Go.by (fun t z => XS.ifnonnullYes X.here hx rfl (pc0 := pc) rfl hd rfl ho hp z) g
theorem Go.ifNo {cd : ClassFile.Cond} {x : Int32} {o : Int} (X : Stand p l e R s m args below meth c T locs cells slots) (hx : p.tables.exec = Jvm.exec) (hd : decode c.code pc = .ok (.ifCond cd o, 3)) (hc : ifCond.holds cd x = false) (hp : pc + 3 = q) (g : Go p e below K (T.setTop (mkF m q Ls S))) : Go p e below K (T.setTop (mkF m pc Ls (.int x :: S))) := by
  subst hp
  exact Go.by (fun t z => XS.ifNo X.here hx rfl hd rfl hc z) g
theorem Go.icmpNo {cd : ClassFile.Cond} {x y : Int32} {o : Int} (X : Stand p l e R s m args below meth c T locs cells slots) (hx : p.tables.exec = Jvm.exec) (hd : decode c.code pc = .ok (.if_icmp cd o, 3)) (hc : if_icmp.holds cd x y = false) (hp : pc + 3 = q) (g : Go p e below K (T.setTop (mkF m q Ls S))) : Go p e below K (T.setTop (mkF m pc Ls (.int y :: .int x :: S))) := by
  subst hp
  exact Go.by (fun t z => XS.icmpNo X.here hx rfl hd rfl hc z) g
theorem Go.ifnullNo {b : Addr} {o : Int} (X : Stand p l e R s m args below meth c T locs cells slots) (hx : p.tables.exec = Jvm.exec) (hd : decode c.code pc = .ok (.ifnull o, 3)) (hp : pc + 3 = q) (g : Go p e below K (T.setTop (mkF m q Ls S))) : Go p e below K (T.setTop (mkF m pc Ls (.ref b :: S))) := by
  subst hp
  exact Go.by (fun t z => XS.ifnullNo X.here hx rfl hd rfl z) g
theorem Go.acmp {cd : ACond} {x y : Value} {o : Int} {same : Bool} (X : Stand p l e R s m args below meth c T locs cells slots) (hx : p.tables.exec = Jvm.exec) (h1 : x.isRef = true) (h2 : y.isRef = true) (hd : decode c.code pc = .ok (.if_acmp cd o, 3)) (hq : decide (x = y) = same) (ho : 0 ≤ (pc : Int) + o) (hp : q = if acV cd same = true then ((pc : Int) + o).toNat else pc + 3) (g : Go p e below K (T.setTop (mkF m q Ls S))) : Go p e below K (T.setTop (mkF m pc Ls (y :: x :: S))) :=
  Go.by (fun t z => Jvm.RoadKit.acmp (g := mkF m pc Ls (y :: x :: S)) X hx rfl h1 h2 (pc0 := pc) (same := same) rfl hd rfl hq ho hp z) g
variable {Z : State} {a0 : Array Value} {h : Heap} {own R0 O n d host C : String} {index kk : Nat} {a : Addr} {v v' old : Value} {ty : FieldType}
theorem Go.getF (X : Stand p l e R s m args below meth c T locs cells slots) (hx : p.tables.exec = Jvm.exec) (hZ : Z.Warmed39 s.vm) (hown : s.vm.findClass own = some m.cls) (w : (Cond.fieldLink own index R0 n d).before a0 Z = true ∨ (Cond.fieldLinkNest own index R0 n d host).before a0 Z = true) (via : Via Z R0 O n d) (eT : T.heap = h) (F : Fld Z h a O n d v) (hd : decode c.code pc = .ok (.getfield index, 3)) (hp : pc + 3 = q)
    (g : ∀ T', Stand p l e R s m args below meth c T' locs cells slots → T'.heap = h → Go p e below K (T'.setTop (mkF m q Ls (v :: S)))) : Go p e below K (T.setTop (mkF m pc Ls (.ref a :: S))) := by
  subst hp
  obtain ⟨T', X', e', st⟩ := Jvm.RoadKit.getF X hx hZ hown w via eT F (g := mkF m pc Ls (.ref a :: S)) rfl rfl hd
  exact Go.by st (g T' X' e')
theorem Go.getS (X : Stand p l e R s m args below meth c T locs cells slots) (hx : p.tables.exec = Jvm.exec) (hZ : Z.Warmed39 s.vm) (hown : s.vm.findClass own = some m.cls) (w : (Cond.fieldLink own index R0 n d).before a0 Z = true ∨ (Cond.fieldLinkNest own index R0 n d host).before a0 Z = true) (via : Via Z R0 O n d) (eT : T.heap = h) (F : Sta Z h O n d v) (hd : decode c.code pc = .ok (.getstatic index, 3)) (hp : pc + 3 = q)
    (g : ∀ T', Stand p l e R s m args below meth c T' locs cells slots → T'.heap = h → Go p e below K (T'.setTop (mkF m q Ls (v :: S)))) : Go p e below K (T.setTop (mkF m pc Ls S)) := by
  subst hp
  obtain ⟨T', X', e', st⟩ := Jvm.RoadKit.getS2 X hx hZ hown w via eT F (g := mkF m pc Ls S) rfl hd
  exact Go.by st (g T' X' e')
theorem Go.putF (X : Stand p l e R s m args below meth c T locs cells slots) (hx : p.tables.exec = Jvm.exec) (hZ : Z.Warmed39 s.vm) (hown : s.vm.findClass own = some m.cls) (w : (Cond.fieldLink own index R0 n d).before a0 Z = true ∨ (Cond.fieldLinkNest own index R0 n d host).before a0 Z = true) (via : Via Z R0 O n d) (eT : T.heap = h) (F : Fld Z h a O n d old) (E : Exa Z h a C)
    (L : (Cond.lays C O n d).before a0 Z = true ∨ ((Cond.laysFinal C O n d).before a0 Z = true ∧ own = O ∧ meth.name = "<init>")) (wi : (Cond.instantiable C kk).before a0 Z = true) (hty : parseFieldDescriptor d = some ty) (hn : narrow ty v = v) (hf : fits ty v = true) (hd : decode c.code pc = .ok (.putfield index, 3)) (hp : pc + 3 = q)
    (g : ∀ T' h', Stand p l e R s m args below meth c T' (locs ++ [⟨a, slotOf Z O n d⟩]) cells slots → T'.heap = h' → Wr h h' a (slotOf Z O n d) v → Fld Z h' a O n d v → Go p e below K (T'.setTop (mkF m q Ls S))) : Go p e below K (T.setTop (mkF m pc Ls (v :: .ref a :: S))) := by
  subst hp
  obtain ⟨T', h', X', e', W, st⟩ := Jvm.RoadKit.putF X hx hZ hown w via eT F E L wi hty hn hf (g := mkF m pc Ls (v :: .ref a :: S)) rfl rfl hd
  exact Go.by st (g T' h' X' e' W (F.same W))
theorem Go.newO {nn : Nat} (X : Stand p l e R s m args below meth c T locs cells slots) (hx : p.tables.exec = Jvm.exec) (hZ : Z.Warmed39 s.vm) (hown : s.vm.findClass own = some m.cls) (w : (Cond.classLink own index C).before a0 Z = true) (wi : (Cond.instantiable C nn).before a0 Z = true) (wz : (Cond.initialized C).before a0 Z = true) (eT : T.heap = h) (hd : decode c.code pc = .ok (.new index, 3)) (hc : cells + 1 ≤ R.cells) (hl : slots + nn ≤ R.slots) (hp : pc + 3 = q)
    (g : ∀ (b : Addr) T' h', Stand p l e R s m args below meth c T' locs (cells + 1) (slots + nn) → T'.heap = h' → h.size = b → Ext h h' → Exa Z h' b C → (∀ {O nm d : String} {ty : FieldType}, Laid Z a0 C O nm d → parseFieldDescriptor d = some ty → Fld Z h' b O nm d (defaultValue ty)) → Unt h' b → Go p e below K (T'.setTop (mkF m q Ls (.ref b :: S)))) : Go p e below K (T.setTop (mkF m pc Ls S)) := by
  subst hp
  obtain ⟨T', h', X', e', E, A, D, U, st⟩ := Jvm.RoadKit.newO X hx hZ hown w wi wz eT (g := mkF m pc Ls S) rfl hd hc hl
  exact Go.by st (g _ T' h' X' e' rfl E A D U)
theorem Go.newP {aty : ArrayType} {z : Int32} {ad : String} {cap : Nat} (X : Stand p l e R s m args below meth c T locs cells slots) (hx : p.tables.exec = Jvm.exec) (hZ : Z.Warmed39 s.vm) (hd : decode c.code pc = .ok (.newarray aty, 2)) (w : (Cond.arrayClass (newarray.typeOf aty)).before a0 Z = true) (eT : T.heap = h) (hn : ¬ z < 0) (hcap : z.toNatClampNeg ≤ cap) (hb : cap * 8 ≤ 536870912) (hc : cells + 1 ≤ R.cells) (hl : slots + cap ≤ R.slots) (had : "[" ++ (newarray.typeOf aty).toString = ad) (hp : pc + 2 = q)
    (g : ∀ (b : Addr) T' h' cA, Stand p l e R s m args below meth c T' locs (cells + 1) (slots + cap) → T'.heap = h' → h.size = b → Ext h h' → Arv Z h' b cA (newarray.typeOf aty) z [] (defaultValue (newarray.typeOf aty)) → Exa Z h' b ad → Go p e below K (T'.setTop (mkF m q Ls (.ref b :: S)))) : Go p e below K (T.setTop (mkF m pc Ls (.int z :: S))) := by
  subst hp
  obtain ⟨T', h', cA, X', e', E, A, B, st⟩ := Jvm.RoadKit.newPE X hx hZ w eT (g := mkF m pc Ls (.int z :: S)) rfl hd rfl hn hcap hb hc hl had
  exact Go.by st (g _ T' h' cA X' e' rfl E (Arv.new A hn) B)
theorem Go.initO (X : Stand p l e R s m args below meth c T locs cells slots) (hx : p.tables.exec = Jvm.exec) (hZ : Z.Warmed39 s.vm) (hown : s.vm.findClass own = some m.cls) (w1 : (Cond.methodLink own index Lib.objectInit).before a0 Z = true) (w2 : (Cond.instanceMethod Lib.objectInit).before a0 Z = true) (w3 : (Cond.code Lib.objectInit ⟨#[0xb1]⟩ 1 none).before a0 Z = true) (eT : T.heap = h) (hsz : Ls.size = c.maxLocals) (hd : decode c.code pc = .ok (.invokespecial index, 3)) (hf : 1 ≤ R.frames) {W : Nat} (hW : 2 * 0 + (S.map fun v => v.category).sum ≤ W) (hl : W + 12 ≤ R.locals) (hp : pc + 3 = q)
    (g : ∀ T', Stand p l e R s m args below meth c T' locs cells slots → T'.heap = h → Go p e below K (T'.setTop (mkF m q Ls S))) : Go p e below K (T.setTop (mkF m pc Ls (.ref a :: S))) := by
  subst hp
  obtain ⟨T', X', e', st⟩ := Jvm.RoadKit.initO X hx hZ hown w1 w2 w3 eT (g := mkF m pc Ls (.ref a :: S)) rfl hsz rfl hd hf hW hl
  exact Go.by st (g T' X' e')
theorem Go.castY {D : String} (X : Stand p l e R s m args below meth c T locs cells slots) (hx : p.tables.exec = Jvm.exec) (hZ : Z.Warmed39 s.vm) (hown : s.vm.findClass own = some m.cls) (w : (Cond.classLink own index D).before a0 Z = true) (eT : T.heap = h) (F : Ins Z h a D true) (hd : decode c.code pc = .ok (.checkcast index, 3)) (hp : pc + 3 = q)
    (g : ∀ T', Stand p l e R s m args below meth c T' locs cells slots → T'.heap = h → Go p e below K (T'.setTop (mkF m q Ls (.ref a :: S)))) : Go p e below K (T.setTop (mkF m pc Ls (.ref a :: S))) := by
  subst hp
  obtain ⟨T', X', e', st⟩ := Jvm.RoadKit.castY X hx hZ hown w eT F (g := mkF m pc Ls (.ref a :: S)) rfl rfl hd
  exact Go.by st (g T' X' e')

end OwnSteps
end Jvm.RoadKit
namespace Jvm.RoadKit
open Sem ClassFile Op Lib Jvm.Stand Jvm.Free Jvm.LawKit
section OwnRefs
variable {p : Program} {l : Launch} {e : Env} {R : Room} {s : State} {m : MethodId} {args : Array Value} {below : List Frame} {meth : Method} {c : Code} {T T' : State} {locs : List Loc} {cells slots : Nat} {Z : State} {a0 : Array Value} {h h' h0 : Heap} {K : State → Outcome → Prop} {pc q : Nat} {Ls : Array Slot} {rest S : List Value} {k n : Nat} {a b : Addr} {cA : ClassId} {ty : FieldType} {z j : Int32} {vs : List Value} {dv : Value}
theorem own_selp {C : String} {x' y y' : MethodName} (hs : (Cond.selects C x' y').before a0 Z = true) (hc : y'.cls = y.cls) (w6 : (Cond.instanceMethod y).before a0 Z = true) (w7 : (Cond.privateMethod y).before a0 Z = true) (hy : y.cls ≠ "java/lang/invoke/MethodHandle" ∧ y.cls ≠ "java/lang/invoke/VarHandle") : (Cond.selects y.cls y y).before a0 Z = true := by
  obtain ⟨c2, r2, m2, q1, -, q3, -, kP, hkP, hkPi⟩ := Cond.selects_spec hs
  have q4 := findClass_of_methodNamed q3
  rw [hc] at q4
  exact selects_self_of_private q4 hkP hkPi (Cond.privateMethod_at w7) w6 hy
theorem own_nf {C : String} {x' z' y : MethodName} (hs : (Cond.selects C x' z').before args s = true) (hc : z'.cls = y.cls) : NotFace s y := fun r0 h0 => by
  obtain ⟨c2, r2, m2, -, -, q3, -, kP, hkP, hkPi⟩ := Cond.selects_spec hs
  have q4 := findClass_of_methodNamed q3
  have q5 := findClass_of_methodNamed h0
  rw [hc, q5] at q4
  exact ⟨kP, by rw [Option.some.inj q4]; exact hkP, hkPi⟩
theorem own_sameM {C : String} {x' z' y : MethodName} (hs : (Cond.selects C x' z').before a0 Z = true) (hc : z'.cls = y.cls) (wi : (Cond.instanceMethod y).before a0 Z = true) (hy : y.cls ≠ "java/lang/invoke/MethodHandle" ∧ y.cls ≠ "java/lang/invoke/VarHandle") : (Cond.sameMethod y.cls y.cls y.name y.desc).before a0 Z = true := by
  obtain ⟨mk, methM, hnamed, -⟩ := Cond.instanceMethod_spec wi
  obtain ⟨kr, hkr, hni⟩ := own_nf hs hc mk hnamed
  have hf := State.methodFound?_of_named hnamed hy
  have hcn := findClass_of_methodNamed hnamed
  have hn' : Z.methodNamed? ⟨y.cls, y.name, y.desc⟩ = some mk := hnamed
  simp [Cond.before, Cond.holds, Cond.value, hcn, hf, hn', hkr, hni]
theorem Sto.ofArv {y : Addr} {C : String} (V : Arv Z h a cA ty z vs dv) (O : Ovr Z cA C) (I : Ins Z h y C true) : Sto Z h a (.ref y) := by
  obtain ⟨cl, A, q1, -⟩ := V
  exact Sto.ofV A q1 O I
theorem Go.newR {own C ad : String} {index cap : Nat} (X : Stand p l e R s m args below meth c T locs cells slots) (hx : p.tables.exec = Jvm.exec) (hZ : Z.Warmed39 s.vm) (hown : s.vm.findClass own = some m.cls) (w1 : (Cond.classLink own index C).before a0 Z = true) (w2 : (Cond.arrayOver (.object C)).before a0 Z = true) (hd : decode c.code pc = .ok (.anewarray index, 3)) (eT : T.heap = h) (hn : ¬ z < 0) (hcap : z.toNatClampNeg ≤ cap) (hb : cap * 8 ≤ 536870912) (hc : cells + 1 ≤ R.cells) (hl : slots + cap ≤ R.slots) (had : "[" ++ (FieldType.object C).toString = ad) (hp : pc + 3 = q)
    (g : ∀ (b : Addr) T' h' cA, Stand p l e R s m args below meth c T' locs (cells + 1) (slots + cap) → T'.heap = h' → h.size = b → Ext h h' → Arv Z h' b cA (.object C) z [] .null → Exa Z h' b ad → Ovr Z cA C → Go p e below K (T'.setTop (mkF m q Ls (.ref b :: S)))) : Go p e below K (T.setTop (mkF m pc Ls (.int z :: S))) := by
  subst hp
  obtain ⟨T', h', cA, X', e', E, A, B, O, st⟩ := Jvm.RoadKit.newRE X hx hZ hown w1 w2 eT (g := mkF m pc Ls (.int z :: S)) rfl hd rfl hn hcap hb hc hl had
  exact Go.by st (g _ T' h' cA X' e' rfl E (Arv.new A hn) B O)
theorem Go.rst {v : Value} {i : Nat} (X : Stand p l e R s m args below meth c T locs cells slots) (hx : p.tables.exec = Jvm.exec) (hZ : Z.Warmed39 s.vm) (eT : T.heap = h) (V : Arv Z h a cA ty z vs dv) (hty : ty.isReference = true) (F : Sto Z h a v) (hfit : fits ty v = true) (hj : ¬ j < 0 ∧ j < z) (hi : j.toNatClampNeg = i) (hl : i < vs.length) (hd : decode c.code pc = .ok (.aastore, 1))
    (g : ∀ (T' : State) (h' : Heap), Stand p l e R s m args below meth c T' (locs ++ [⟨a, j.toNatClampNeg⟩]) cells slots → T'.heap = h' → Wr h h' a j.toNatClampNeg v → Arv Z h' a cA ty z (vs.set i v) dv → Go p e below K (T'.setTop (mkF m (pc + 1) Ls rest))) : Go p e below K (T.setTop (mkF m pc Ls (v :: .int j :: .ref a :: rest))) := by
  obtain ⟨cl, A, q1, S, N, H, G⟩ := V
  obtain ⟨T', h', X', e', W, st⟩ := stR X hx hZ eT A (j := j) (v := v) (inb_of S hj) hty F (g := mkF m pc Ls (v :: .int j :: .ref a :: rest)) rfl rfl hd
  exact Go.by st (g T' h' X' e' W (Arv.set A q1 S N H G hfit W i hi hl))
end OwnRefs
end Jvm.RoadKit
namespace Jvm.Pilot.@@N@@
open Jvm Jvm.ClassFile Sem Op Lib Jvm.Free Jvm.Stand Jvm.LawKit Jvm.RoadKit Bundle Jvm.Pilot.@@N@@.Jvm.D
section
variable {Z : State} {a0 : Array Value} (hw : ∀ d ∈ tables_1, d.before a0 Z = true)
def wd0 := hw _ (List.mem_of_getElem? (i := 0) rfl)
def wd1 := hw _ (List.mem_of_getElem? (i := 1) rfl)
def wd2 := hw _ (List.mem_of_getElem? (i := 2) rfl)
def wd3 := hw _ (List.mem_of_getElem? (i := 3) rfl)
def wd4 := hw _ (List.mem_of_getElem? (i := 4) rfl)
def wd5 := hw _ (List.mem_of_getElem? (i := 5) rfl)
def wd6 := hw _ (List.mem_of_getElem? (i := 6) rfl)
def wd7 := hw _ (List.mem_of_getElem? (i := 7) rfl)
def wd8 := hw _ (List.mem_of_getElem? (i := 8) rfl)
def wd9 := hw _ (List.mem_of_getElem? (i := 9) rfl)
def wd10 := hw _ (List.mem_of_getElem? (i := 10) rfl)
def wd11 := hw _ (List.mem_of_getElem? (i := 11) rfl)
def wd12 := hw _ (List.mem_of_getElem? (i := 12) rfl)
def wd15 := hw _ (List.mem_of_getElem? (i := 15) rfl)
def wd16 := hw _ (List.mem_of_getElem? (i := 16) rfl)
def wd17 := hw _ (List.mem_of_getElem? (i := 17) rfl)
def wd18 := hw _ (List.mem_of_getElem? (i := 18) rfl)
def wd21 := hw _ (List.mem_of_getElem? (i := 21) rfl)
def wd22 := hw _ (List.mem_of_getElem? (i := 22) rfl)
def wd23 := hw _ (List.mem_of_getElem? (i := 23) rfl)
def wd24 := hw _ (List.mem_of_getElem? (i := 24) rfl)
def wd25 := hw _ (List.mem_of_getElem? (i := 25) rfl)
def wd26 := hw _ (List.mem_of_getElem? (i := 26) rfl)
def wd27 := hw _ (List.mem_of_getElem? (i := 27) rfl)
def wd28 := hw _ (List.mem_of_getElem? (i := 28) rfl)
def wd29 := hw _ (List.mem_of_getElem? (i := 29) rfl)
def wd30 := hw _ (List.mem_of_getElem? (i := 30) rfl)
def wd31 := hw _ (List.mem_of_getElem? (i := 31) rfl)
def wd32 := hw _ (List.mem_of_getElem? (i := 32) rfl)
def wd33 := hw _ (List.mem_of_getElem? (i := 33) rfl)
def wd34 := hw _ (List.mem_of_getElem? (i := 34) rfl)
def wd35 := hw _ (List.mem_of_getElem? (i := 35) rfl)
def wd36 := hw _ (List.mem_of_getElem? (i := 36) rfl)
def wd37 := hw _ (List.mem_of_getElem? (i := 37) rfl)
def wd38 := hw _ (List.mem_of_getElem? (i := 38) rfl)
def wd39 := hw _ (List.mem_of_getElem? (i := 39) rfl)
def wd40 := hw _ (List.mem_of_getElem? (i := 40) rfl)
def wd41 := hw _ (List.mem_of_getElem? (i := 41) rfl)
def wd42 := hw _ (List.mem_of_getElem? (i := 42) rfl)
def wd43 := hw _ (List.mem_of_getElem? (i := 43) rfl)
def wd44 := hw _ (List.mem_of_getElem? (i := 44) rfl)
def wd45 := hw _ (List.mem_of_getElem? (i := 45) rfl)
def wd46 := hw _ (List.mem_of_getElem? (i := 46) rfl)
def wd47 := hw _ (List.mem_of_getElem? (i := 47) rfl)
def wd48 := hw _ (List.mem_of_getElem? (i := 48) rfl)
def wd49 := hw _ (List.mem_of_getElem? (i := 49) rfl)
def wd50 := hw _ (List.mem_of_getElem? (i := 50) rfl)
def wd51 := hw _ (List.mem_of_getElem? (i := 51) rfl)
def wd52 := hw _ (List.mem_of_getElem? (i := 52) rfl)
def wd53 := hw _ (List.mem_of_getElem? (i := 53) rfl)
def wd54 := hw _ (List.mem_of_getElem? (i := 54) rfl)
def wd55 := hw _ (List.mem_of_getElem? (i := 55) rfl)
def wd56 := hw _ (List.mem_of_getElem? (i := 56) rfl)
def wd57 := hw _ (List.mem_of_getElem? (i := 57) rfl)
def wd58 := hw _ (List.mem_of_getElem? (i := 58) rfl)
def wd59 := hw _ (List.mem_of_getElem? (i := 59) rfl)
def wd60 := hw _ (List.mem_of_getElem? (i := 60) rfl)
def wd61 := hw _ (List.mem_of_getElem? (i := 61) rfl)
def wd62 := hw _ (List.mem_of_getElem? (i := 62) rfl)
def wd63 := hw _ (List.mem_of_getElem? (i := 63) rfl)
def wd64 := hw _ (List.mem_of_getElem? (i := 64) rfl)
def wd65 := hw _ (List.mem_of_getElem? (i := 65) rfl)
def wd66 := hw _ (List.mem_of_getElem? (i := 66) rfl)
def wd67 := hw _ (List.mem_of_getElem? (i := 67) rfl)
def wd68 := hw _ (List.mem_of_getElem? (i := 68) rfl)
def wd69 := hw _ (List.mem_of_getElem? (i := 69) rfl)
def wd70 := hw _ (List.mem_of_getElem? (i := 70) rfl)
def wd71 := hw _ (List.mem_of_getElem? (i := 71) rfl)
def wd72 := hw _ (List.mem_of_getElem? (i := 72) rfl)
def wd73 := hw _ (List.mem_of_getElem? (i := 73) rfl)
def wd74 := hw _ (List.mem_of_getElem? (i := 74) rfl)
def wd75 := hw _ (List.mem_of_getElem? (i := 75) rfl)
def wd76 := hw _ (List.mem_of_getElem? (i := 76) rfl)
def wd77 := hw _ (List.mem_of_getElem? (i := 77) rfl)
def wd78 := hw _ (List.mem_of_getElem? (i := 78) rfl)
def wd79 := hw _ (List.mem_of_getElem? (i := 79) rfl)
def wd80 := hw _ (List.mem_of_getElem? (i := 80) rfl)
def wd81 := hw _ (List.mem_of_getElem? (i := 81) rfl)
def wd82 := hw _ (List.mem_of_getElem? (i := 82) rfl)
def wd83 := hw _ (List.mem_of_getElem? (i := 83) rfl)
def wd84 := hw _ (List.mem_of_getElem? (i := 84) rfl)
def wd85 := hw _ (List.mem_of_getElem? (i := 85) rfl)
def wd86 := hw _ (List.mem_of_getElem? (i := 86) rfl)
def wd87 := hw _ (List.mem_of_getElem? (i := 87) rfl)
def wd88 := hw _ (List.mem_of_getElem? (i := 88) rfl)
def wd89 := hw _ (List.mem_of_getElem? (i := 89) rfl)
def wd90 := hw _ (List.mem_of_getElem? (i := 90) rfl)
def wd91 := hw _ (List.mem_of_getElem? (i := 91) rfl)
def wd92 := hw _ (List.mem_of_getElem? (i := 92) rfl)
def wd93 := hw _ (List.mem_of_getElem? (i := 93) rfl)
def wd94 := hw _ (List.mem_of_getElem? (i := 94) rfl)
def wd95 := hw _ (List.mem_of_getElem? (i := 95) rfl)
def wd96 := hw _ (List.mem_of_getElem? (i := 96) rfl)
def wd97 := hw _ (List.mem_of_getElem? (i := 97) rfl)
def wd98 := hw _ (List.mem_of_getElem? (i := 98) rfl)
def wd99 := hw _ (List.mem_of_getElem? (i := 99) rfl)
def wd100 := hw _ (List.mem_of_getElem? (i := 100) rfl)
def wd101 := hw _ (List.mem_of_getElem? (i := 101) rfl)
def wd102 := hw _ (List.mem_of_getElem? (i := 102) rfl)
def wd103 := hw _ (List.mem_of_getElem? (i := 103) rfl)
def wd104 := hw _ (List.mem_of_getElem? (i := 104) rfl)
def wd105 := hw _ (List.mem_of_getElem? (i := 105) rfl)
def wd106 := hw _ (List.mem_of_getElem? (i := 106) rfl)
def wd107 := hw _ (List.mem_of_getElem? (i := 107) rfl)
def wd108 := hw _ (List.mem_of_getElem? (i := 108) rfl)
def wd109 := hw _ (List.mem_of_getElem? (i := 109) rfl)
def wd110 := hw _ (List.mem_of_getElem? (i := 110) rfl)
def wd111 := hw _ (List.mem_of_getElem? (i := 111) rfl)
def wd112 := hw _ (List.mem_of_getElem? (i := 112) rfl)
def wd113 := hw _ (List.mem_of_getElem? (i := 113) rfl)
def wd114 := hw _ (List.mem_of_getElem? (i := 114) rfl)
def wd115 := hw _ (List.mem_of_getElem? (i := 115) rfl)
def wd116 := hw _ (List.mem_of_getElem? (i := 116) rfl)
def wd117 := hw _ (List.mem_of_getElem? (i := 117) rfl)
def wd118 := hw _ (List.mem_of_getElem? (i := 118) rfl)
def wd119 := hw _ (List.mem_of_getElem? (i := 119) rfl)
def wd120 := hw _ (List.mem_of_getElem? (i := 120) rfl)
def wd121 := hw _ (List.mem_of_getElem? (i := 121) rfl)
def wd122 := hw _ (List.mem_of_getElem? (i := 122) rfl)
def wd123 := hw _ (List.mem_of_getElem? (i := 123) rfl)
def wd124 := hw _ (List.mem_of_getElem? (i := 124) rfl)
def wd125 := hw _ (List.mem_of_getElem? (i := 125) rfl)
def wd126 := hw _ (List.mem_of_getElem? (i := 126) rfl)
def wd127 := hw _ (List.mem_of_getElem? (i := 127) rfl)
def wd128 := hw _ (List.mem_of_getElem? (i := 128) rfl)
def wd129 := hw _ (List.mem_of_getElem? (i := 129) rfl)
def wd130 := hw _ (List.mem_of_getElem? (i := 130) rfl)
def wd131 := hw _ (List.mem_of_getElem? (i := 131) rfl)
def wd133 := hw _ (List.mem_of_getElem? (i := 133) rfl)
def wd134 := hw _ (List.mem_of_getElem? (i := 134) rfl)
def wd136 := hw _ (List.mem_of_getElem? (i := 136) rfl)
def wd137 := hw _ (List.mem_of_getElem? (i := 137) rfl)
def wd138 := hw _ (List.mem_of_getElem? (i := 138) rfl)
def wd139 := hw _ (List.mem_of_getElem? (i := 139) rfl)
def wd140 := hw _ (List.mem_of_getElem? (i := 140) rfl)
end
abbrev k1 := prog_29_method_2_code
abbrev k2 := jdk_38_method_2_code
abbrev k3 := jdk_39_method_1_code
abbrev k4 := jdk_22_method_1_code
abbrev k5 := object_method_1_code
abbrev k6 := jdk_38_method_8_code
abbrev k7 := method_7_code
abbrev k8 := method_8_code
abbrev k9 := method_5_code
abbrev k10 := method_3_code
abbrev k11 := jdk_65_method_132_code
abbrev k12 := jdk_65_method_133_code
abbrev k13 := jdk_65_method_131_code
abbrev k14 := jdk_29_method_69_code
abbrev k15 := jdk_38_method_25_code
abbrev k16 := jdk_38_method_24_code
abbrev k17 := jdk_38_method_7_code
abbrev k18 := jdk_38_method_6_code
abbrev k19 := jdk_29_method_65_code
abbrev k20 := method_4_code
abbrev k21 := method_6_code
abbrev k22 := jdk_38_method_20_code
abbrev k23 := jdk_31_method_17_code
abbrev k24 := jdk_41_method_11_code
abbrev k25 := jdk_38_method_18_code
theorem d1_0 : decode k1 0 = .ok (.new 7, 3) := by decide +kernel
theorem d1_3 : decode k1 3 = .ok (.dup, 1) := by decide +kernel
theorem d1_4 : decode k1 4 = .ok (.invokespecial 9, 3) := by decide +kernel
theorem d1_7 : decode k1 7 = .ok (.astore_n 2, 1) := by decide +kernel
theorem d1_8 : decode k1 8 = .ok (.iconst 0, 1) := by decide +kernel
theorem d1_9 : decode k1 9 = .ok (.istore_n 3, 1) := by decide +kernel
theorem d1_10 : decode k1 10 = .ok (.iload_n 3, 1) := by decide +kernel
theorem d1_11 : decode k1 11 = .ok (.aload_n 0, 1) := by decide +kernel
theorem d1_12 : decode k1 12 = .ok (.arraylength, 1) := by decide +kernel
theorem d1_13 : decode k1 13 = .ok (.if_icmp .ge 49, 3) := by decide +kernel
theorem d1_16 : decode k1 16 = .ok (.iload_n 3, 1) := by decide +kernel
theorem d1_17 : decode k1 17 = .ok (.istore 4, 2) := by decide +kernel
theorem d1_19 : decode k1 19 = .ok (.iload 4, 2) := by decide +kernel
theorem d1_21 : decode k1 21 = .ok (.aload_n 0, 1) := by decide +kernel
theorem d1_22 : decode k1 22 = .ok (.arraylength, 1) := by decide +kernel
theorem d1_23 : decode k1 23 = .ok (.if_icmp .ge 17, 3) := by decide +kernel
theorem d1_26 : decode k1 26 = .ok (.aload_n 0, 1) := by decide +kernel
theorem d1_27 : decode k1 27 = .ok (.iload 4, 2) := by decide +kernel
theorem d1_29 : decode k1 29 = .ok (.baload, 1) := by decide +kernel
theorem d1_30 : decode k1 30 = .ok (.iload_n 1, 1) := by decide +kernel
theorem d1_31 : decode k1 31 = .ok (.if_icmp .eq 9, 3) := by decide +kernel
theorem d1_34 : decode k1 34 = .ok (.iinc 4 1, 3) := by decide +kernel
theorem d1_37 : decode k1 37 = .ok (.goto (-18), 3) := by decide +kernel
theorem d1_40 : decode k1 40 = .ok (.aload_n 2, 1) := by decide +kernel
theorem d1_41 : decode k1 41 = .ok (.aload_n 0, 1) := by decide +kernel
theorem d1_42 : decode k1 42 = .ok (.iload_n 3, 1) := by decide +kernel
theorem d1_43 : decode k1 43 = .ok (.iload 4, 2) := by decide +kernel
theorem d1_45 : decode k1 45 = .ok (.invokestatic 10, 3) := by decide +kernel
theorem d1_48 : decode k1 48 = .ok (.invokeinterface 16 2, 5) := by decide +kernel
theorem d1_53 : decode k1 53 = .ok (.pop, 1) := by decide +kernel
theorem d1_54 : decode k1 54 = .ok (.iload 4, 2) := by decide +kernel
theorem d1_56 : decode k1 56 = .ok (.iconst 1, 1) := by decide +kernel
theorem d1_57 : decode k1 57 = .ok (.iadd, 1) := by decide +kernel
theorem d1_58 : decode k1 58 = .ok (.istore_n 3, 1) := by decide +kernel
theorem d1_59 : decode k1 59 = .ok (.goto (-49), 3) := by decide +kernel
theorem d1_62 : decode k1 62 = .ok (.aload_n 2, 1) := by decide +kernel
theorem d1_63 : decode k1 63 = .ok (.areturn, 1) := by decide +kernel
theorem d2_0 : decode k2 0 = .ok (.aload_n 0, 1) := by decide +kernel
theorem d2_1 : decode k2 1 = .ok (.invokespecial 1, 3) := by decide +kernel
theorem d2_4 : decode k2 4 = .ok (.aload_n 0, 1) := by decide +kernel
theorem d2_5 : decode k2 5 = .ok (.getstatic 39, 3) := by decide +kernel
theorem d2_8 : decode k2 8 = .ok (.putfield 9, 3) := by decide +kernel
theorem d2_11 : decode k2 11 = .ok (.return_, 1) := by decide +kernel
theorem d3_0 : decode k3 0 = .ok (.aload_n 0, 1) := by decide +kernel
theorem d3_1 : decode k3 1 = .ok (.invokespecial 1, 3) := by decide +kernel
theorem d3_4 : decode k3 4 = .ok (.aload_n 0, 1) := by decide +kernel
theorem d3_5 : decode k3 5 = .ok (.iconst 0, 1) := by decide +kernel
theorem d3_6 : decode k3 6 = .ok (.putfield 7, 3) := by decide +kernel
theorem d3_9 : decode k3 9 = .ok (.return_, 1) := by decide +kernel
theorem d4_0 : decode k4 0 = .ok (.aload_n 0, 1) := by decide +kernel
theorem d4_1 : decode k4 1 = .ok (.invokespecial 1, 3) := by decide +kernel
theorem d4_4 : decode k4 4 = .ok (.return_, 1) := by decide +kernel
theorem d6_0 : decode k6 0 = .ok (.aload_n 0, 1) := by decide +kernel
theorem d6_1 : decode k6 1 = .ok (.getfield 48, 3) := by decide +kernel
theorem d6_4 : decode k6 4 = .ok (.ireturn, 1) := by decide +kernel
theorem d7_0 : decode k7 0 = .ok (.iload_n 2, 1) := by decide +kernel
theorem d7_1 : decode k7 1 = .ok (.aload_n 1, 1) := by decide +kernel
theorem d7_2 : decode k7 2 = .ok (.arraylength, 1) := by decide +kernel
theorem d7_3 : decode k7 3 = .ok (.if_icmp .ge 10, 3) := by decide +kernel
theorem d7_6 : decode k7 6 = .ok (.aload_n 1, 1) := by decide +kernel
theorem d7_7 : decode k7 7 = .ok (.iload_n 2, 1) := by decide +kernel
theorem d7_8 : decode k7 8 = .ok (.baload, 1) := by decide +kernel
theorem d7_9 : decode k7 9 = .ok (.iload_n 3, 1) := by decide +kernel
theorem d7_10 : decode k7 10 = .ok (.if_icmp .ne 5, 3) := by decide +kernel
theorem d7_13 : decode k7 13 = .ok (.iconst 1, 1) := by decide +kernel
theorem d7_14 : decode k7 14 = .ok (.ireturn, 1) := by decide +kernel
theorem d7_15 : decode k7 15 = .ok (.aload_n 1, 1) := by decide +kernel
theorem d7_16 : decode k7 16 = .ok (.iload_n 2, 1) := by decide +kernel
theorem d7_17 : decode k7 17 = .ok (.iload_n 3, 1) := by decide +kernel
theorem d7_18 : decode k7 18 = .ok (.invokestatic 19, 3) := by decide +kernel
theorem d7_21 : decode k7 21 = .ok (.istore 4, 2) := by decide +kernel
theorem d7_23 : decode k7 23 = .ok (.iload_n 2, 1) := by decide +kernel
theorem d7_24 : decode k7 24 = .ok (.aload_n 1, 1) := by decide +kernel
theorem d7_25 : decode k7 25 = .ok (.iload_n 2, 1) := by decide +kernel
theorem d7_26 : decode k7 26 = .ok (.iload_n 3, 1) := by decide +kernel
theorem d7_27 : decode k7 27 = .ok (.invokestatic 41, 3) := by decide +kernel
theorem d7_30 : decode k7 30 = .ok (.isub, 1) := by decide +kernel
theorem d7_31 : decode k7 31 = .ok (.iconst 1, 1) := by decide +kernel
theorem d7_32 : decode k7 32 = .ok (.isub, 1) := by decide +kernel
theorem d7_33 : decode k7 33 = .ok (.istore 5, 2) := by decide +kernel
theorem d7_35 : decode k7 35 = .ok (.iload 4, 2) := by decide +kernel
theorem d7_37 : decode k7 37 = .ok (.aload_n 0, 1) := by decide +kernel
theorem d7_38 : decode k7 38 = .ok (.invokeinterface 23 1, 5) := by decide +kernel
theorem d7_43 : decode k7 43 = .ok (.if_icmp .lt 5, 3) := by decide +kernel
theorem d7_48 : decode k7 48 = .ok (.aload_n 0, 1) := by decide +kernel
theorem d7_49 : decode k7 49 = .ok (.iload 4, 2) := by decide +kernel
theorem d7_51 : decode k7 51 = .ok (.invokeinterface 44 2, 5) := by decide +kernel
theorem d7_56 : decode k7 56 = .ok (.checkcast 48, 3) := by decide +kernel
theorem d7_59 : decode k7 59 = .ok (.astore 6, 2) := by decide +kernel
theorem d7_61 : decode k7 61 = .ok (.aload 6, 2) := by decide +kernel
theorem d7_63 : decode k7 63 = .ok (.ifnull 11, 3) := by decide +kernel
theorem d7_66 : decode k7 66 = .ok (.iload 5, 2) := by decide +kernel
theorem d7_68 : decode k7 68 = .ok (.aload 6, 2) := by decide +kernel
theorem d7_70 : decode k7 70 = .ok (.arraylength, 1) := by decide +kernel
theorem d7_71 : decode k7 71 = .ok (.if_icmp .lt 5, 3) := by decide +kernel
theorem d7_76 : decode k7 76 = .ok (.aload 6, 2) := by decide +kernel
theorem d7_78 : decode k7 78 = .ok (.iload 5, 2) := by decide +kernel
theorem d7_80 : decode k7 80 = .ok (.baload, 1) := by decide +kernel
theorem d7_81 : decode k7 81 = .ok (.aload_n 1, 1) := by decide +kernel
theorem d7_82 : decode k7 82 = .ok (.iload_n 2, 1) := by decide +kernel
theorem d7_83 : decode k7 83 = .ok (.baload, 1) := by decide +kernel
theorem d7_84 : decode k7 84 = .ok (.if_icmp .ne 7, 3) := by decide +kernel
theorem d7_87 : decode k7 87 = .ok (.iconst 1, 1) := by decide +kernel
theorem d7_88 : decode k7 88 = .ok (.goto 4, 3) := by decide +kernel
theorem d7_92 : decode k7 92 = .ok (.ireturn, 1) := by decide +kernel
theorem d8_0 : decode k8 0 = .ok (.iload_n 1, 1) := by decide +kernel
theorem d8_1 : decode k8 1 = .ok (.aload_n 0, 1) := by decide +kernel
theorem d8_2 : decode k8 2 = .ok (.invokeinterface 23 1, 5) := by decide +kernel
theorem d8_7 : decode k8 7 = .ok (.if_icmp .lt 5, 3) := by decide +kernel
theorem d8_10 : decode k8 10 = .ok (.iconst 0, 1) := by decide +kernel
theorem d8_11 : decode k8 11 = .ok (.ireturn, 1) := by decide +kernel
theorem d8_12 : decode k8 12 = .ok (.aload_n 0, 1) := by decide +kernel
theorem d8_13 : decode k8 13 = .ok (.iload_n 1, 1) := by decide +kernel
theorem d8_14 : decode k8 14 = .ok (.invokeinterface 44 2, 5) := by decide +kernel
theorem d8_19 : decode k8 19 = .ok (.checkcast 48, 3) := by decide +kernel
theorem d8_22 : decode k8 22 = .ok (.astore_n 2, 1) := by decide +kernel
theorem d8_23 : decode k8 23 = .ok (.aload_n 2, 1) := by decide +kernel
theorem d8_24 : decode k8 24 = .ok (.ifnonnull 6, 3) := by decide +kernel
theorem d8_30 : decode k8 30 = .ok (.aload_n 2, 1) := by decide +kernel
theorem d8_31 : decode k8 31 = .ok (.arraylength, 1) := by decide +kernel
theorem d8_32 : decode k8 32 = .ok (.ireturn, 1) := by decide +kernel
theorem d9_0 : decode k9 0 = .ok (.iconst 0, 1) := by decide +kernel
theorem d9_1 : decode k9 1 = .ok (.istore_n 3, 1) := by decide +kernel
theorem d9_2 : decode k9 2 = .ok (.iconst 0, 1) := by decide +kernel
theorem d9_3 : decode k9 3 = .ok (.iload_n 1, 1) := by decide +kernel
theorem d9_4 : decode k9 4 = .ok (.if_icmp .ge 16, 3) := by decide +kernel
theorem d9_7 : decode k9 7 = .ok (.aload_n 0, 1) := by decide +kernel
theorem d9_8 : decode k9 8 = .ok (.iconst 0, 1) := by decide +kernel
theorem d9_9 : decode k9 9 = .ok (.iload_n 2, 1) := by decide +kernel
theorem d9_10 : decode k9 10 = .ok (.invokestatic 37, 3) := by decide +kernel
theorem d9_13 : decode k9 13 = .ok (.ifCond .eq 7, 3) := by decide +kernel
theorem d9_16 : decode k9 16 = .ok (.iload_n 3, 1) := by decide +kernel
theorem d9_17 : decode k9 17 = .ok (.iconst 1, 1) := by decide +kernel
theorem d9_18 : decode k9 18 = .ok (.iadd, 1) := by decide +kernel
theorem d9_19 : decode k9 19 = .ok (.istore_n 3, 1) := by decide +kernel
theorem d9_20 : decode k9 20 = .ok (.iconst 1, 1) := by decide +kernel
theorem d9_21 : decode k9 21 = .ok (.iload_n 1, 1) := by decide +kernel
theorem d9_22 : decode k9 22 = .ok (.if_icmp .ge 16, 3) := by decide +kernel
theorem d9_25 : decode k9 25 = .ok (.aload_n 0, 1) := by decide +kernel
theorem d9_26 : decode k9 26 = .ok (.iconst 1, 1) := by decide +kernel
theorem d9_27 : decode k9 27 = .ok (.iload_n 2, 1) := by decide +kernel
theorem d9_28 : decode k9 28 = .ok (.invokestatic 37, 3) := by decide +kernel
theorem d9_31 : decode k9 31 = .ok (.ifCond .eq 7, 3) := by decide +kernel
theorem d9_34 : decode k9 34 = .ok (.iload_n 3, 1) := by decide +kernel
theorem d9_35 : decode k9 35 = .ok (.iconst 1, 1) := by decide +kernel
theorem d9_36 : decode k9 36 = .ok (.iadd, 1) := by decide +kernel
theorem d9_37 : decode k9 37 = .ok (.istore_n 3, 1) := by decide +kernel
theorem d9_38 : decode k9 38 = .ok (.iconst 2, 1) := by decide +kernel
theorem d9_39 : decode k9 39 = .ok (.iload_n 1, 1) := by decide +kernel
theorem d9_40 : decode k9 40 = .ok (.if_icmp .ge 16, 3) := by decide +kernel
theorem d9_43 : decode k9 43 = .ok (.aload_n 0, 1) := by decide +kernel
theorem d9_44 : decode k9 44 = .ok (.iconst 2, 1) := by decide +kernel
theorem d9_45 : decode k9 45 = .ok (.iload_n 2, 1) := by decide +kernel
theorem d9_46 : decode k9 46 = .ok (.invokestatic 37, 3) := by decide +kernel
theorem d9_49 : decode k9 49 = .ok (.ifCond .eq 7, 3) := by decide +kernel
theorem d9_52 : decode k9 52 = .ok (.iload_n 3, 1) := by decide +kernel
theorem d9_53 : decode k9 53 = .ok (.iconst 1, 1) := by decide +kernel
theorem d9_54 : decode k9 54 = .ok (.iadd, 1) := by decide +kernel
theorem d9_55 : decode k9 55 = .ok (.istore_n 3, 1) := by decide +kernel
theorem d9_56 : decode k9 56 = .ok (.iconst 3, 1) := by decide +kernel
theorem d9_57 : decode k9 57 = .ok (.iload_n 1, 1) := by decide +kernel
theorem d9_58 : decode k9 58 = .ok (.if_icmp .ge 16, 3) := by decide +kernel
theorem d9_61 : decode k9 61 = .ok (.aload_n 0, 1) := by decide +kernel
theorem d9_62 : decode k9 62 = .ok (.iconst 3, 1) := by decide +kernel
theorem d9_63 : decode k9 63 = .ok (.iload_n 2, 1) := by decide +kernel
theorem d9_64 : decode k9 64 = .ok (.invokestatic 37, 3) := by decide +kernel
theorem d9_67 : decode k9 67 = .ok (.ifCond .eq 7, 3) := by decide +kernel
theorem d9_70 : decode k9 70 = .ok (.iload_n 3, 1) := by decide +kernel
theorem d9_71 : decode k9 71 = .ok (.iconst 1, 1) := by decide +kernel
theorem d9_72 : decode k9 72 = .ok (.iadd, 1) := by decide +kernel
theorem d9_73 : decode k9 73 = .ok (.istore_n 3, 1) := by decide +kernel
theorem d9_74 : decode k9 74 = .ok (.iload_n 3, 1) := by decide +kernel
theorem d9_75 : decode k9 75 = .ok (.ireturn, 1) := by decide +kernel
theorem d10_0 : decode k10 0 = .ok (.iload_n 0, 1) := by decide +kernel
theorem d10_1 : decode k10 1 = .ok (.iload_n 2, 1) := by decide +kernel
theorem d10_2 : decode k10 2 = .ok (.ishr, 1) := by decide +kernel
theorem d10_3 : decode k10 3 = .ok (.iconst 1, 1) := by decide +kernel
theorem d10_4 : decode k10 4 = .ok (.iand, 1) := by decide +kernel
theorem d10_5 : decode k10 5 = .ok (.ifCond .eq 5, 3) := by decide +kernel
theorem d10_8 : decode k10 8 = .ok (.iload_n 3, 1) := by decide +kernel
theorem d10_9 : decode k10 9 = .ok (.ireturn, 1) := by decide +kernel
theorem d10_10 : decode k10 10 = .ok (.iload_n 1, 1) := by decide +kernel
theorem d10_11 : decode k10 11 = .ok (.bipush 8, 2) := by decide +kernel
theorem d10_13 : decode k10 13 = .ok (.iload_n 2, 1) := by decide +kernel
theorem d10_14 : decode k10 14 = .ok (.imul, 1) := by decide +kernel
theorem d10_15 : decode k10 15 = .ok (.ishr, 1) := by decide +kernel
theorem d10_16 : decode k10 16 = .ok (.i2b, 1) := by decide +kernel
theorem d10_17 : decode k10 17 = .ok (.ireturn, 1) := by decide +kernel
theorem d11_0 : decode k11 0 = .ok (.iload_n 1, 1) := by decide +kernel
theorem d11_1 : decode k11 1 = .ok (.ifCond .ne 9, 3) := by decide +kernel
theorem d11_4 : decode k11 4 = .ok (.iload_n 2, 1) := by decide +kernel
theorem d11_5 : decode k11 5 = .ok (.aload_n 0, 1) := by decide +kernel
theorem d11_6 : decode k11 6 = .ok (.arraylength, 1) := by decide +kernel
theorem d11_7 : decode k11 7 = .ok (.if_icmp .eq 10, 3) := by decide +kernel
theorem d11_10 : decode k11 10 = .ok (.aload_n 0, 1) := by decide +kernel
theorem d11_11 : decode k11 11 = .ok (.iload_n 1, 1) := by decide +kernel
theorem d11_12 : decode k11 12 = .ok (.iload_n 2, 1) := by decide +kernel
theorem d11_13 : decode k11 13 = .ok (.invokestatic 339, 3) := by decide +kernel
theorem d11_16 : decode k11 16 = .ok (.areturn, 1) := by decide +kernel
theorem d11_17 : decode k11 17 = .ok (.aload_n 0, 1) := by decide +kernel
theorem d11_18 : decode k11 18 = .ok (.invokevirtual 310, 3) := by decide +kernel
theorem d11_21 : decode k11 21 = .ok (.checkcast 311, 3) := by decide +kernel
theorem d11_24 : decode k11 24 = .ok (.areturn, 1) := by decide +kernel
theorem d12_0 : decode k12 0 = .ok (.iload_n 1, 1) := by decide +kernel
theorem d12_1 : decode k12 1 = .ok (.iload_n 2, 1) := by decide +kernel
theorem d12_2 : decode k12 2 = .ok (.invokestatic 343, 3) := by decide +kernel
theorem d12_5 : decode k12 5 = .ok (.iload_n 2, 1) := by decide +kernel
theorem d12_6 : decode k12 6 = .ok (.iload_n 1, 1) := by decide +kernel
theorem d12_7 : decode k12 7 = .ok (.isub, 1) := by decide +kernel
theorem d12_8 : decode k12 8 = .ok (.istore_n 3, 1) := by decide +kernel
theorem d12_9 : decode k12 9 = .ok (.iload_n 3, 1) := by decide +kernel
theorem d12_10 : decode k12 10 = .ok (.newarray .byte, 2) := by decide +kernel
theorem d12_12 : decode k12 12 = .ok (.astore 4, 2) := by decide +kernel
theorem d12_14 : decode k12 14 = .ok (.aload_n 0, 1) := by decide +kernel
theorem d12_15 : decode k12 15 = .ok (.iload_n 1, 1) := by decide +kernel
theorem d12_16 : decode k12 16 = .ok (.aload 4, 2) := by decide +kernel
theorem d12_18 : decode k12 18 = .ok (.iconst 0, 1) := by decide +kernel
theorem d12_19 : decode k12 19 = .ok (.aload_n 0, 1) := by decide +kernel
theorem d12_20 : decode k12 20 = .ok (.arraylength, 1) := by decide +kernel
theorem d12_21 : decode k12 21 = .ok (.iload_n 1, 1) := by decide +kernel
theorem d12_22 : decode k12 22 = .ok (.isub, 1) := by decide +kernel
theorem d12_23 : decode k12 23 = .ok (.iload_n 3, 1) := by decide +kernel
theorem d12_24 : decode k12 24 = .ok (.invokestatic 304, 3) := by decide +kernel
theorem d12_27 : decode k12 27 = .ok (.invokestatic 150, 3) := by decide +kernel
theorem d12_30 : decode k12 30 = .ok (.aload 4, 2) := by decide +kernel
theorem d12_32 : decode k12 32 = .ok (.areturn, 1) := by decide +kernel
theorem d13_0 : decode k13 0 = .ok (.iload_n 1, 1) := by decide +kernel
theorem d13_1 : decode k13 1 = .ok (.iload_n 0, 1) := by decide +kernel
theorem d13_2 : decode k13 2 = .ok (.if_icmp .ge 35, 3) := by decide +kernel
theorem d13_37 : decode k13 37 = .ok (.return_, 1) := by decide +kernel
theorem d14_0 : decode k14 0 = .ok (.iload_n 0, 1) := by decide +kernel
theorem d14_1 : decode k14 1 = .ok (.iload_n 1, 1) := by decide +kernel
theorem d14_2 : decode k14 2 = .ok (.if_icmp .gt 7, 3) := by decide +kernel
theorem d14_5 : decode k14 5 = .ok (.iload_n 0, 1) := by decide +kernel
theorem d14_6 : decode k14 6 = .ok (.goto 4, 3) := by decide +kernel
theorem d14_9 : decode k14 9 = .ok (.iload_n 1, 1) := by decide +kernel
theorem d14_10 : decode k14 10 = .ok (.ireturn, 1) := by decide +kernel
theorem d15_0 : decode k15 0 = .ok (.aload_n 0, 1) := by decide +kernel
theorem d15_1 : decode k15 1 = .ok (.dup, 1) := by decide +kernel
theorem d15_2 : decode k15 2 = .ok (.getfield 63, 3) := by decide +kernel
theorem d15_5 : decode k15 5 = .ok (.iconst 1, 1) := by decide +kernel
theorem d15_6 : decode k15 6 = .ok (.iadd, 1) := by decide +kernel
theorem d15_7 : decode k15 7 = .ok (.putfield 63, 3) := by decide +kernel
theorem d15_10 : decode k15 10 = .ok (.aload_n 0, 1) := by decide +kernel
theorem d15_11 : decode k15 11 = .ok (.aload_n 1, 1) := by decide +kernel
theorem d15_12 : decode k15 12 = .ok (.aload_n 0, 1) := by decide +kernel
theorem d15_13 : decode k15 13 = .ok (.getfield 9, 3) := by decide +kernel
theorem d15_16 : decode k15 16 = .ok (.aload_n 0, 1) := by decide +kernel
theorem d15_17 : decode k15 17 = .ok (.getfield 48, 3) := by decide +kernel
theorem d15_20 : decode k15 20 = .ok (.invokevirtual 131, 3) := by decide +kernel
theorem d15_23 : decode k15 23 = .ok (.iconst 1, 1) := by decide +kernel
theorem d15_24 : decode k15 24 = .ok (.ireturn, 1) := by decide +kernel
theorem d16_0 : decode k16 0 = .ok (.iload_n 3, 1) := by decide +kernel
theorem d16_1 : decode k16 1 = .ok (.aload_n 2, 1) := by decide +kernel
theorem d16_2 : decode k16 2 = .ok (.arraylength, 1) := by decide +kernel
theorem d16_3 : decode k16 3 = .ok (.if_icmp .ne 8, 3) := by decide +kernel
theorem d16_6 : decode k16 6 = .ok (.aload_n 0, 1) := by decide +kernel
theorem d16_7 : decode k16 7 = .ok (.invokevirtual 129, 3) := by decide +kernel
theorem d16_10 : decode k16 10 = .ok (.astore_n 2, 1) := by decide +kernel
theorem d16_11 : decode k16 11 = .ok (.aload_n 2, 1) := by decide +kernel
theorem d16_12 : decode k16 12 = .ok (.iload_n 3, 1) := by decide +kernel
theorem d16_13 : decode k16 13 = .ok (.aload_n 1, 1) := by decide +kernel
theorem d16_14 : decode k16 14 = .ok (.aastore, 1) := by decide +kernel
theorem d16_15 : decode k16 15 = .ok (.aload_n 0, 1) := by decide +kernel
theorem d16_16 : decode k16 16 = .ok (.iload_n 3, 1) := by decide +kernel
theorem d16_17 : decode k16 17 = .ok (.iconst 1, 1) := by decide +kernel
theorem d16_18 : decode k16 18 = .ok (.iadd, 1) := by decide +kernel
theorem d16_19 : decode k16 19 = .ok (.putfield 48, 3) := by decide +kernel
theorem d16_22 : decode k16 22 = .ok (.return_, 1) := by decide +kernel
theorem d17_0 : decode k17 0 = .ok (.aload_n 0, 1) := by decide +kernel
theorem d17_1 : decode k17 1 = .ok (.aload_n 0, 1) := by decide +kernel
theorem d17_2 : decode k17 2 = .ok (.getfield 48, 3) := by decide +kernel
theorem d17_5 : decode k17 5 = .ok (.iconst 1, 1) := by decide +kernel
theorem d17_6 : decode k17 6 = .ok (.iadd, 1) := by decide +kernel
theorem d17_7 : decode k17 7 = .ok (.invokevirtual 69, 3) := by decide +kernel
theorem d17_10 : decode k17 10 = .ok (.areturn, 1) := by decide +kernel
theorem d18_0 : decode k18 0 = .ok (.aload_n 0, 1) := by decide +kernel
theorem d18_1 : decode k18 1 = .ok (.getfield 9, 3) := by decide +kernel
theorem d18_4 : decode k18 4 = .ok (.arraylength, 1) := by decide +kernel
theorem d18_5 : decode k18 5 = .ok (.istore_n 2, 1) := by decide +kernel
theorem d18_6 : decode k18 6 = .ok (.iload_n 2, 1) := by decide +kernel
theorem d18_7 : decode k18 7 = .ok (.ifCond .gt 13, 3) := by decide +kernel
theorem d18_10 : decode k18 10 = .ok (.aload_n 0, 1) := by decide +kernel
theorem d18_11 : decode k18 11 = .ok (.getfield 9, 3) := by decide +kernel
theorem d18_14 : decode k18 14 = .ok (.getstatic 39, 3) := by decide +kernel
theorem d18_17 : decode k18 17 = .ok (.if_acmp .eq 28, 3) := by decide +kernel
theorem d18_45 : decode k18 45 = .ok (.aload_n 0, 1) := by decide +kernel
theorem d18_46 : decode k18 46 = .ok (.bipush 10, 2) := by decide +kernel
theorem d18_48 : decode k18 48 = .ok (.iload_n 1, 1) := by decide +kernel
theorem d18_49 : decode k18 49 = .ok (.invokestatic 79, 3) := by decide +kernel
theorem d18_52 : decode k18 52 = .ok (.anewarray 7, 3) := by decide +kernel
theorem d18_55 : decode k18 55 = .ok (.dup_x1, 1) := by decide +kernel
theorem d18_56 : decode k18 56 = .ok (.putfield 9, 3) := by decide +kernel
theorem d18_59 : decode k18 59 = .ok (.areturn, 1) := by decide +kernel
theorem d19_0 : decode k19 0 = .ok (.iload_n 0, 1) := by decide +kernel
theorem d19_1 : decode k19 1 = .ok (.iload_n 1, 1) := by decide +kernel
theorem d19_2 : decode k19 2 = .ok (.if_icmp .lt 7, 3) := by decide +kernel
theorem d19_5 : decode k19 5 = .ok (.iload_n 0, 1) := by decide +kernel
theorem d19_6 : decode k19 6 = .ok (.goto 4, 3) := by decide +kernel
theorem d19_10 : decode k19 10 = .ok (.ireturn, 1) := by decide +kernel
theorem d20_0 : decode k20 0 = .ok (.iload_n 1, 1) := by decide +kernel
theorem d20_1 : decode k20 1 = .ok (.aload_n 0, 1) := by decide +kernel
theorem d20_2 : decode k20 2 = .ok (.arraylength, 1) := by decide +kernel
theorem d20_3 : decode k20 3 = .ok (.if_icmp .ge 14, 3) := by decide +kernel
theorem d20_6 : decode k20 6 = .ok (.aload_n 0, 1) := by decide +kernel
theorem d20_7 : decode k20 7 = .ok (.iload_n 1, 1) := by decide +kernel
theorem d20_8 : decode k20 8 = .ok (.baload, 1) := by decide +kernel
theorem d20_9 : decode k20 9 = .ok (.iload_n 2, 1) := by decide +kernel
theorem d20_10 : decode k20 10 = .ok (.if_icmp .ne 7, 3) := by decide +kernel
theorem d20_13 : decode k20 13 = .ok (.iconst 1, 1) := by decide +kernel
theorem d20_14 : decode k20 14 = .ok (.goto 4, 3) := by decide +kernel
theorem d20_17 : decode k20 17 = .ok (.iconst 0, 1) := by decide +kernel
theorem d20_18 : decode k20 18 = .ok (.ireturn, 1) := by decide +kernel
theorem d21_0 : decode k21 0 = .ok (.iconst (-1), 1) := by decide +kernel
theorem d21_1 : decode k21 1 = .ok (.istore_n 3, 1) := by decide +kernel
theorem d21_2 : decode k21 2 = .ok (.iconst 0, 1) := by decide +kernel
theorem d21_3 : decode k21 3 = .ok (.iload_n 1, 1) := by decide +kernel
theorem d21_4 : decode k21 4 = .ok (.if_icmp .ge 14, 3) := by decide +kernel
theorem d21_7 : decode k21 7 = .ok (.aload_n 0, 1) := by decide +kernel
theorem d21_8 : decode k21 8 = .ok (.iconst 0, 1) := by decide +kernel
theorem d21_9 : decode k21 9 = .ok (.iload_n 2, 1) := by decide +kernel
theorem d21_10 : decode k21 10 = .ok (.invokestatic 37, 3) := by decide +kernel
theorem d21_13 : decode k21 13 = .ok (.ifCond .eq 5, 3) := by decide +kernel
theorem d21_16 : decode k21 16 = .ok (.iconst 0, 1) := by decide +kernel
theorem d21_17 : decode k21 17 = .ok (.istore_n 3, 1) := by decide +kernel
theorem d21_18 : decode k21 18 = .ok (.iconst 1, 1) := by decide +kernel
theorem d21_19 : decode k21 19 = .ok (.iload_n 1, 1) := by decide +kernel
theorem d21_20 : decode k21 20 = .ok (.if_icmp .ge 14, 3) := by decide +kernel
theorem d21_23 : decode k21 23 = .ok (.aload_n 0, 1) := by decide +kernel
theorem d21_24 : decode k21 24 = .ok (.iconst 1, 1) := by decide +kernel
theorem d21_25 : decode k21 25 = .ok (.iload_n 2, 1) := by decide +kernel
theorem d21_26 : decode k21 26 = .ok (.invokestatic 37, 3) := by decide +kernel
theorem d21_29 : decode k21 29 = .ok (.ifCond .eq 5, 3) := by decide +kernel
theorem d21_32 : decode k21 32 = .ok (.iconst 1, 1) := by decide +kernel
theorem d21_33 : decode k21 33 = .ok (.istore_n 3, 1) := by decide +kernel
theorem d21_34 : decode k21 34 = .ok (.iconst 2, 1) := by decide +kernel
theorem d21_35 : decode k21 35 = .ok (.iload_n 1, 1) := by decide +kernel
theorem d21_36 : decode k21 36 = .ok (.if_icmp .ge 14, 3) := by decide +kernel
theorem d21_39 : decode k21 39 = .ok (.aload_n 0, 1) := by decide +kernel
theorem d21_40 : decode k21 40 = .ok (.iconst 2, 1) := by decide +kernel
theorem d21_41 : decode k21 41 = .ok (.iload_n 2, 1) := by decide +kernel
theorem d21_42 : decode k21 42 = .ok (.invokestatic 37, 3) := by decide +kernel
theorem d21_45 : decode k21 45 = .ok (.ifCond .eq 5, 3) := by decide +kernel
theorem d21_48 : decode k21 48 = .ok (.iconst 2, 1) := by decide +kernel
theorem d21_49 : decode k21 49 = .ok (.istore_n 3, 1) := by decide +kernel
theorem d21_50 : decode k21 50 = .ok (.iconst 3, 1) := by decide +kernel
theorem d21_51 : decode k21 51 = .ok (.iload_n 1, 1) := by decide +kernel
theorem d21_52 : decode k21 52 = .ok (.if_icmp .ge 14, 3) := by decide +kernel
theorem d21_66 : decode k21 66 = .ok (.iload_n 3, 1) := by decide +kernel
theorem d21_67 : decode k21 67 = .ok (.ireturn, 1) := by decide +kernel
theorem d22_0 : decode k22 0 = .ok (.iload_n 1, 1) := by decide +kernel
theorem d22_1 : decode k22 1 = .ok (.aload_n 0, 1) := by decide +kernel
theorem d22_2 : decode k22 2 = .ok (.getfield 48, 3) := by decide +kernel
theorem d22_5 : decode k22 5 = .ok (.invokestatic 118, 3) := by decide +kernel
theorem d22_8 : decode k22 8 = .ok (.pop, 1) := by decide +kernel
theorem d22_9 : decode k22 9 = .ok (.aload_n 0, 1) := by decide +kernel
theorem d22_10 : decode k22 10 = .ok (.iload_n 1, 1) := by decide +kernel
theorem d22_11 : decode k22 11 = .ok (.invokevirtual 123, 3) := by decide +kernel
theorem d22_14 : decode k22 14 = .ok (.areturn, 1) := by decide +kernel
theorem d23_0 : decode k23 0 = .ok (.iload_n 0, 1) := by decide +kernel
theorem d23_1 : decode k23 1 = .ok (.iload_n 1, 1) := by decide +kernel
theorem d23_2 : decode k23 2 = .ok (.aconst_null, 1) := by decide +kernel
theorem d23_3 : decode k23 3 = .ok (.invokestatic 105, 3) := by decide +kernel
theorem d23_6 : decode k23 6 = .ok (.ireturn, 1) := by decide +kernel
theorem d24_0 : decode k24 0 = .ok (.iload_n 0, 1) := by decide +kernel
theorem d24_1 : decode k24 1 = .ok (.ifCond .lt 8, 3) := by decide +kernel
theorem d24_4 : decode k24 4 = .ok (.iload_n 0, 1) := by decide +kernel
theorem d24_5 : decode k24 5 = .ok (.iload_n 1, 1) := by decide +kernel
theorem d24_6 : decode k24 6 = .ok (.if_icmp .lt 10, 3) := by decide +kernel
theorem d24_16 : decode k24 16 = .ok (.iload_n 0, 1) := by decide +kernel
theorem d24_17 : decode k24 17 = .ok (.ireturn, 1) := by decide +kernel
theorem d25_0 : decode k25 0 = .ok (.aload_n 0, 1) := by decide +kernel
theorem d25_1 : decode k25 1 = .ok (.getfield 9, 3) := by decide +kernel
theorem d25_4 : decode k25 4 = .ok (.iload_n 1, 1) := by decide +kernel
theorem d25_5 : decode k25 5 = .ok (.aaload, 1) := by decide +kernel
theorem d25_6 : decode k25 6 = .ok (.areturn, 1) := by decide +kernel
theorem pd0 : parseMethodDescriptor "()V" = some ⟨[], none⟩ := by decide +kernel
theorem pd1 : parseMethodDescriptor "(II)I" = some ⟨[.int, .int], some .int⟩ := by decide +kernel
theorem pd2 : parseMethodDescriptor "(I)[Ljava/lang/Object;" = some ⟨[.int], some (.array (.object "java/lang/Object"))⟩ := by decide +kernel
theorem pd3 : parseMethodDescriptor "()[Ljava/lang/Object;" = some ⟨[], some (.array (.object "java/lang/Object"))⟩ := by decide +kernel
theorem pd4 : parseMethodDescriptor "(Ljava/lang/Object;[Ljava/lang/Object;I)V" = some ⟨[(.object "java/lang/Object"), (.array (.object "java/lang/Object")), .int], none⟩ := by decide +kernel
theorem pd5 : parseMethodDescriptor "(IILjava/util/function/BiFunction;)I" = some ⟨[.int, .int, (.object "java/util/function/BiFunction")], some .int⟩ := by decide +kernel
theorem pd6 : parseMethodDescriptor "(I)Ljava/lang/Object;" = some ⟨[.int], some (.object "java/lang/Object")⟩ := by decide +kernel
theorem pd7 : parseMethodDescriptor "(II)V" = some ⟨[.int, .int], none⟩ := by decide +kernel
theorem pd8 : parseMethodDescriptor "([BII)[B" = some ⟨[(.array .byte), .int, .int], some (.array .byte)⟩ := by decide +kernel
theorem pd9 : parseMethodDescriptor "([BIB)Z" = some ⟨[(.array .byte), .int, .byte], some .boolean⟩ := by decide +kernel
theorem pd10 : parseMethodDescriptor "([BIB)I" = some ⟨[(.array .byte), .int, .byte], some .int⟩ := by decide +kernel
theorem pd11 : parseMethodDescriptor "()I" = some ⟨[], some .int⟩ := by decide +kernel
theorem pd12 : parseMethodDescriptor "(Ljava/lang/Object;)Z" = some ⟨[(.object "java/lang/Object")], some .boolean⟩ := by decide +kernel
theorem pd13 : parseMethodDescriptor "([BB)Ljava/util/List;" = some ⟨[(.array .byte), .byte], some (.object "java/util/List")⟩ := by decide +kernel
theorem pd14 : parseMethodDescriptor "(Ljava/util/List;[BIB)Z" = some ⟨[(.object "java/util/List"), (.array .byte), .int, .byte], some .boolean⟩ := by decide +kernel
theorem pd15 : parseMethodDescriptor "(Ljava/util/List;I)I" = some ⟨[(.object "java/util/List"), .int], some .int⟩ := by decide +kernel
theorem pd16 : parseMethodDescriptor "(IIIB)B" = some ⟨[.int, .int, .int, .byte], some .byte⟩ := by decide +kernel
theorem pn0 : plainName "java/util/AbstractCollection" = true := by first | (simp [plainName, overriddenIn]; done) | decide +kernel
theorem pn1 : plainName "java/util/AbstractList" = true := by first | (simp [plainName, overriddenIn]; done) | decide +kernel
theorem pn2 : plainName "java/util/ArrayList" = true := by first | (simp [plainName, overriddenIn]; done) | decide +kernel
theorem pn3 : plainName "jdk/internal/util/Preconditions" = true := by first | (simp [plainName, overriddenIn]; done) | decide +kernel
theorem pn4 : plainName "java/util/Objects" = true := by first | (simp [plainName, overriddenIn]; done) | decide +kernel
theorem pn5 : plainName "java/util/Arrays" = true := by first | (simp [plainName, overriddenIn]; done) | decide +kernel
theorem pn6 : plainName "com/example/cronopoly/cronopoly/cli/Utf8RecordsPinLaw" = true := by first | (simp [plainName, overriddenIn]; done) | decide +kernel
theorem pn7 : plainName "com/example/cronopoly/cronopoly/cli/Utf8" = true := by first | (simp [plainName, overriddenIn]; done) | decide +kernel
theorem ef_cac (m : MethodId) (x0 : Addr) : entryFrame m #[(.ref x0)] 1 = mkF m 0 #[.val (.ref x0)] [] := by first | (simp [entryFrame, mkF, argsToLocals, Value.category, maxLocals]; done) | rfl
theorem ef_cabl (m : MethodId) (x0 : Addr) : entryFrame m #[(.ref x0)] 1 = mkF m 0 #[.val (.ref x0)] [] := by first | (simp [entryFrame, mkF, argsToLocals, Value.category, maxLocals]; done) | rfl
theorem ef_cali (m : MethodId) (x0 : Addr) : entryFrame m #[(.ref x0)] 1 = mkF m 0 #[.val (.ref x0)] [] := by first | (simp [entryFrame, mkF, argsToLocals, Value.category, maxLocals]; done) | rfl
theorem ef_cmaxI (m : MethodId) (x0 : Int32) (x1 : Int32) : entryFrame m #[(.int x0), (.int x1)] 2 = mkF m 0 #[.val (.int x0), .val (.int x1)] [] := by first | (simp [entryFrame, mkF, argsToLocals, Value.category, maxLocals]; done) | rfl
theorem ef_cgroI (m : MethodId) (x0 : Addr) : entryFrame m #[(.ref x0), (.int 1)] 4 = mkF m 0 #[.val (.ref x0), .val (.int 1), .unset, .unset] [] := by first | (simp [entryFrame, mkF, argsToLocals, Value.category, maxLocals]; done) | rfl
theorem ef_cgro (m : MethodId) (x0 : Addr) : entryFrame m #[(.ref x0)] 1 = mkF m 0 #[.val (.ref x0)] [] := by first | (simp [entryFrame, mkF, argsToLocals, Value.category, maxLocals]; done) | rfl
theorem ef_cad3_0 (m : MethodId) (x0 : Addr) (x1 : Addr) (x2 : Addr) : entryFrame m #[(.ref x0), (.ref x1), (.ref x2), (.int 0)] 4 = mkF m 0 #[.val (.ref x0), .val (.ref x1), .val (.ref x2), .val (.int 0)] [] := by first | (simp [entryFrame, mkF, argsToLocals, Value.category, maxLocals]; done) | rfl
theorem ef_cadd_0 (m : MethodId) (x0 : Addr) (x1 : Addr) : entryFrame m #[(.ref x0), (.ref x1)] 2 = mkF m 0 #[.val (.ref x0), .val (.ref x1)] [] := by first | (simp [entryFrame, mkF, argsToLocals, Value.category, maxLocals]; done) | rfl
theorem ef_cad3_1 (m : MethodId) (x0 : Addr) (x1 : Addr) (x2 : Addr) : entryFrame m #[(.ref x0), (.ref x1), (.ref x2), (.int 1)] 4 = mkF m 0 #[.val (.ref x0), .val (.ref x1), .val (.ref x2), .val (.int 1)] [] := by first | (simp [entryFrame, mkF, argsToLocals, Value.category, maxLocals]; done) | rfl
theorem ef_cadd_1 (m : MethodId) (x0 : Addr) (x1 : Addr) : entryFrame m #[(.ref x0), (.ref x1)] 2 = mkF m 0 #[.val (.ref x0), .val (.ref x1)] [] := by first | (simp [entryFrame, mkF, argsToLocals, Value.category, maxLocals]; done) | rfl
theorem ef_cad3_2 (m : MethodId) (x0 : Addr) (x1 : Addr) (x2 : Addr) : entryFrame m #[(.ref x0), (.ref x1), (.ref x2), (.int 2)] 4 = mkF m 0 #[.val (.ref x0), .val (.ref x1), .val (.ref x2), .val (.int 2)] [] := by first | (simp [entryFrame, mkF, argsToLocals, Value.category, maxLocals]; done) | rfl
theorem ef_cadd_2 (m : MethodId) (x0 : Addr) (x1 : Addr) : entryFrame m #[(.ref x0), (.ref x1)] 2 = mkF m 0 #[.val (.ref x0), .val (.ref x1)] [] := by first | (simp [entryFrame, mkF, argsToLocals, Value.category, maxLocals]; done) | rfl
theorem ef_cad3_3 (m : MethodId) (x0 : Addr) (x1 : Addr) (x2 : Addr) : entryFrame m #[(.ref x0), (.ref x1), (.ref x2), (.int 3)] 4 = mkF m 0 #[.val (.ref x0), .val (.ref x1), .val (.ref x2), .val (.int 3)] [] := by first | (simp [entryFrame, mkF, argsToLocals, Value.category, maxLocals]; done) | rfl
theorem ef_cadd_3 (m : MethodId) (x0 : Addr) (x1 : Addr) : entryFrame m #[(.ref x0), (.ref x1)] 2 = mkF m 0 #[.val (.ref x0), .val (.ref x1)] [] := by first | (simp [entryFrame, mkF, argsToLocals, Value.category, maxLocals]; done) | rfl
theorem ef_csize (m : MethodId) (x0 : Addr) : entryFrame m #[(.ref x0)] 1 = mkF m 0 #[.val (.ref x0)] [] := by first | (simp [entryFrame, mkF, argsToLocals, Value.category, maxLocals]; done) | rfl
theorem ef_cpchk (m : MethodId) (x0 : Int32) (x1 : Int32) : entryFrame m #[(.int x0), (.int x1), .null] 3 = mkF m 0 #[.val (.int x0), .val (.int x1), .val .null] [] := by first | (simp [entryFrame, mkF, argsToLocals, Value.category, maxLocals]; done) | rfl
theorem ef_cochk (m : MethodId) (x0 : Int32) (x1 : Int32) : entryFrame m #[(.int x0), (.int x1)] 2 = mkF m 0 #[.val (.int x0), .val (.int x1)] [] := by first | (simp [entryFrame, mkF, argsToLocals, Value.category, maxLocals]; done) | rfl
theorem ef_ceda (m : MethodId) (x0 : Addr) (x1 : Int32) : entryFrame m #[(.ref x0), (.int x1)] 2 = mkF m 0 #[.val (.ref x0), .val (.int x1)] [] := by first | (simp [entryFrame, mkF, argsToLocals, Value.category, maxLocals]; done) | rfl
theorem ef_cget (m : MethodId) (x0 : Addr) (x1 : Int32) : entryFrame m #[(.ref x0), (.int x1)] 2 = mkF m 0 #[.val (.ref x0), .val (.int x1)] [] := by first | (simp [entryFrame, mkF, argsToLocals, Value.category, maxLocals]; done) | rfl
theorem ef_cchl (m : MethodId) (x0 : Int32) (x1 : Int32) : entryFrame m #[(.int x0), (.int x1)] 2 = mkF m 0 #[.val (.int x0), .val (.int x1)] [] := by first | (simp [entryFrame, mkF, argsToLocals, Value.category, maxLocals]; done) | rfl
theorem ef_cmn (m : MethodId) (x0 : Int32) (x1 : Int32) : entryFrame m #[(.int x0), (.int x1)] 2 = mkF m 0 #[.val (.int x0), .val (.int x1)] [] := by first | (simp [entryFrame, mkF, argsToLocals, Value.category, maxLocals]; done) | rfl
theorem ef_ccrb_0_0 (m : MethodId) (x0 : Addr) : entryFrame m #[(.ref x0), (.int 0), (.int 0)] 5 = mkF m 0 #[.val (.ref x0), .val (.int 0), .val (.int 0), .unset, .unset] [] := by first | (simp [entryFrame, mkF, argsToLocals, Value.category, maxLocals]; done) | rfl
theorem ef_ccr_0_0 (m : MethodId) (x0 : Addr) : entryFrame m #[(.ref x0), (.int 0), (.int 0)] 3 = mkF m 0 #[.val (.ref x0), .val (.int 0), .val (.int 0)] [] := by first | (simp [entryFrame, mkF, argsToLocals, Value.category, maxLocals]; done) | rfl
theorem ef_ccrb_0_1 (m : MethodId) (x0 : Addr) : entryFrame m #[(.ref x0), (.int 0), (.int 1)] 5 = mkF m 0 #[.val (.ref x0), .val (.int 0), .val (.int 1), .unset, .unset] [] := by first | (simp [entryFrame, mkF, argsToLocals, Value.category, maxLocals]; done) | rfl
theorem ef_ccr_0_1 (m : MethodId) (x0 : Addr) : entryFrame m #[(.ref x0), (.int 0), (.int 1)] 3 = mkF m 0 #[.val (.ref x0), .val (.int 0), .val (.int 1)] [] := by first | (simp [entryFrame, mkF, argsToLocals, Value.category, maxLocals]; done) | rfl
theorem ef_ccrb_0_2 (m : MethodId) (x0 : Addr) : entryFrame m #[(.ref x0), (.int 0), (.int 2)] 5 = mkF m 0 #[.val (.ref x0), .val (.int 0), .val (.int 2), .unset, .unset] [] := by first | (simp [entryFrame, mkF, argsToLocals, Value.category, maxLocals]; done) | rfl
theorem ef_ccr_0_2 (m : MethodId) (x0 : Addr) : entryFrame m #[(.ref x0), (.int 0), (.int 2)] 3 = mkF m 0 #[.val (.ref x0), .val (.int 0), .val (.int 2)] [] := by first | (simp [entryFrame, mkF, argsToLocals, Value.category, maxLocals]; done) | rfl
theorem ef_ccrb_0_3 (m : MethodId) (x0 : Addr) : entryFrame m #[(.ref x0), (.int 0), (.int 3)] 5 = mkF m 0 #[.val (.ref x0), .val (.int 0), .val (.int 3), .unset, .unset] [] := by first | (simp [entryFrame, mkF, argsToLocals, Value.category, maxLocals]; done) | rfl
theorem ef_ccr_0_3 (m : MethodId) (x0 : Addr) : entryFrame m #[(.ref x0), (.int 0), (.int 3)] 3 = mkF m 0 #[.val (.ref x0), .val (.int 0), .val (.int 3)] [] := by first | (simp [entryFrame, mkF, argsToLocals, Value.category, maxLocals]; done) | rfl
theorem ef_ccrb_0_4 (m : MethodId) (x0 : Addr) : entryFrame m #[(.ref x0), (.int 0), (.int 4)] 5 = mkF m 0 #[.val (.ref x0), .val (.int 0), .val (.int 4), .unset, .unset] [] := by first | (simp [entryFrame, mkF, argsToLocals, Value.category, maxLocals]; done) | rfl
theorem ef_ccrb_1_1 (m : MethodId) (x0 : Addr) : entryFrame m #[(.ref x0), (.int 1), (.int 1)] 5 = mkF m 0 #[.val (.ref x0), .val (.int 1), .val (.int 1), .unset, .unset] [] := by first | (simp [entryFrame, mkF, argsToLocals, Value.category, maxLocals]; done) | rfl
theorem ef_ccr_1_1 (m : MethodId) (x0 : Addr) : entryFrame m #[(.ref x0), (.int 1), (.int 1)] 3 = mkF m 0 #[.val (.ref x0), .val (.int 1), .val (.int 1)] [] := by first | (simp [entryFrame, mkF, argsToLocals, Value.category, maxLocals]; done) | rfl
theorem ef_ccrb_1_2 (m : MethodId) (x0 : Addr) : entryFrame m #[(.ref x0), (.int 1), (.int 2)] 5 = mkF m 0 #[.val (.ref x0), .val (.int 1), .val (.int 2), .unset, .unset] [] := by first | (simp [entryFrame, mkF, argsToLocals, Value.category, maxLocals]; done) | rfl
theorem ef_ccr_1_2 (m : MethodId) (x0 : Addr) : entryFrame m #[(.ref x0), (.int 1), (.int 2)] 3 = mkF m 0 #[.val (.ref x0), .val (.int 1), .val (.int 2)] [] := by first | (simp [entryFrame, mkF, argsToLocals, Value.category, maxLocals]; done) | rfl
theorem ef_ccrb_1_3 (m : MethodId) (x0 : Addr) : entryFrame m #[(.ref x0), (.int 1), (.int 3)] 5 = mkF m 0 #[.val (.ref x0), .val (.int 1), .val (.int 3), .unset, .unset] [] := by first | (simp [entryFrame, mkF, argsToLocals, Value.category, maxLocals]; done) | rfl
theorem ef_ccr_1_3 (m : MethodId) (x0 : Addr) : entryFrame m #[(.ref x0), (.int 1), (.int 3)] 3 = mkF m 0 #[.val (.ref x0), .val (.int 1), .val (.int 3)] [] := by first | (simp [entryFrame, mkF, argsToLocals, Value.category, maxLocals]; done) | rfl
theorem ef_ccrb_1_4 (m : MethodId) (x0 : Addr) : entryFrame m #[(.ref x0), (.int 1), (.int 4)] 5 = mkF m 0 #[.val (.ref x0), .val (.int 1), .val (.int 4), .unset, .unset] [] := by first | (simp [entryFrame, mkF, argsToLocals, Value.category, maxLocals]; done) | rfl
theorem ef_ccr_1_4 (m : MethodId) (x0 : Addr) : entryFrame m #[(.ref x0), (.int 1), (.int 4)] 3 = mkF m 0 #[.val (.ref x0), .val (.int 1), .val (.int 4)] [] := by first | (simp [entryFrame, mkF, argsToLocals, Value.category, maxLocals]; done) | rfl
theorem ef_ccrb_2_2 (m : MethodId) (x0 : Addr) : entryFrame m #[(.ref x0), (.int 2), (.int 2)] 5 = mkF m 0 #[.val (.ref x0), .val (.int 2), .val (.int 2), .unset, .unset] [] := by first | (simp [entryFrame, mkF, argsToLocals, Value.category, maxLocals]; done) | rfl
theorem ef_ccr_2_2 (m : MethodId) (x0 : Addr) : entryFrame m #[(.ref x0), (.int 2), (.int 2)] 3 = mkF m 0 #[.val (.ref x0), .val (.int 2), .val (.int 2)] [] := by first | (simp [entryFrame, mkF, argsToLocals, Value.category, maxLocals]; done) | rfl
theorem ef_ccrb_2_3 (m : MethodId) (x0 : Addr) : entryFrame m #[(.ref x0), (.int 2), (.int 3)] 5 = mkF m 0 #[.val (.ref x0), .val (.int 2), .val (.int 3), .unset, .unset] [] := by first | (simp [entryFrame, mkF, argsToLocals, Value.category, maxLocals]; done) | rfl
theorem ef_ccr_2_3 (m : MethodId) (x0 : Addr) : entryFrame m #[(.ref x0), (.int 2), (.int 3)] 3 = mkF m 0 #[.val (.ref x0), .val (.int 2), .val (.int 3)] [] := by first | (simp [entryFrame, mkF, argsToLocals, Value.category, maxLocals]; done) | rfl
theorem ef_ccrb_2_4 (m : MethodId) (x0 : Addr) : entryFrame m #[(.ref x0), (.int 2), (.int 4)] 5 = mkF m 0 #[.val (.ref x0), .val (.int 2), .val (.int 4), .unset, .unset] [] := by first | (simp [entryFrame, mkF, argsToLocals, Value.category, maxLocals]; done) | rfl
theorem ef_ccr_2_4 (m : MethodId) (x0 : Addr) : entryFrame m #[(.ref x0), (.int 2), (.int 4)] 3 = mkF m 0 #[.val (.ref x0), .val (.int 2), .val (.int 4)] [] := by first | (simp [entryFrame, mkF, argsToLocals, Value.category, maxLocals]; done) | rfl
theorem ef_ccrb_3_3 (m : MethodId) (x0 : Addr) : entryFrame m #[(.ref x0), (.int 3), (.int 3)] 5 = mkF m 0 #[.val (.ref x0), .val (.int 3), .val (.int 3), .unset, .unset] [] := by first | (simp [entryFrame, mkF, argsToLocals, Value.category, maxLocals]; done) | rfl
theorem ef_ccr_3_3 (m : MethodId) (x0 : Addr) : entryFrame m #[(.ref x0), (.int 3), (.int 3)] 3 = mkF m 0 #[.val (.ref x0), .val (.int 3), .val (.int 3)] [] := by first | (simp [entryFrame, mkF, argsToLocals, Value.category, maxLocals]; done) | rfl
theorem ef_ccrb_3_4 (m : MethodId) (x0 : Addr) : entryFrame m #[(.ref x0), (.int 3), (.int 4)] 5 = mkF m 0 #[.val (.ref x0), .val (.int 3), .val (.int 4), .unset, .unset] [] := by first | (simp [entryFrame, mkF, argsToLocals, Value.category, maxLocals]; done) | rfl
theorem ef_ccr_3_4 (m : MethodId) (x0 : Addr) : entryFrame m #[(.ref x0), (.int 3), (.int 4)] 3 = mkF m 0 #[.val (.ref x0), .val (.int 3), .val (.int 4)] [] := by first | (simp [entryFrame, mkF, argsToLocals, Value.category, maxLocals]; done) | rfl
theorem ef_ccl_1 (m : MethodId) (x0 : Addr) : entryFrame m #[(.ref x0), (.int 0), (.int 1)] 3 = mkF m 0 #[.val (.ref x0), .val (.int 0), .val (.int 1)] [] := by first | (simp [entryFrame, mkF, argsToLocals, Value.category, maxLocals]; done) | rfl
theorem ef_ccl_2 (m : MethodId) (x0 : Addr) : entryFrame m #[(.ref x0), (.int 0), (.int 2)] 3 = mkF m 0 #[.val (.ref x0), .val (.int 0), .val (.int 2)] [] := by first | (simp [entryFrame, mkF, argsToLocals, Value.category, maxLocals]; done) | rfl
theorem ef_ccl_3 (m : MethodId) (x0 : Addr) : entryFrame m #[(.ref x0), (.int 0), (.int 3)] 3 = mkF m 0 #[.val (.ref x0), .val (.int 0), .val (.int 3)] [] := by first | (simp [entryFrame, mkF, argsToLocals, Value.category, maxLocals]; done) | rfl
theorem ef_ccl_4 (m : MethodId) (x0 : Addr) : entryFrame m #[(.ref x0), (.int 0), (.int 4)] 3 = mkF m 0 #[.val (.ref x0), .val (.int 0), .val (.int 4)] [] := by first | (simp [entryFrame, mkF, argsToLocals, Value.category, maxLocals]; done) | rfl
theorem ef_cist (m : MethodId) (x0 : Addr) (x1 : Int32) (x2 : Int32) : entryFrame m #[(.ref x0), (.int x1), (.int x2)] 3 = mkF m 0 #[.val (.ref x0), .val (.int x1), .val (.int x2)] [] := by first | (simp [entryFrame, mkF, argsToLocals, Value.category, maxLocals]; done) | rfl
theorem ef_ctb_0 (m : MethodId) (x0 : Addr) (x2 : Int32) : entryFrame m #[(.ref x0), (.int 0), (.int x2)] 4 = mkF m 0 #[.val (.ref x0), .val (.int 0), .val (.int x2), .unset] [] := by first | (simp [entryFrame, mkF, argsToLocals, Value.category, maxLocals]; done) | rfl
theorem ef_ctb_1 (m : MethodId) (x0 : Addr) (x2 : Int32) : entryFrame m #[(.ref x0), (.int 1), (.int x2)] 4 = mkF m 0 #[.val (.ref x0), .val (.int 1), .val (.int x2), .unset] [] := by first | (simp [entryFrame, mkF, argsToLocals, Value.category, maxLocals]; done) | rfl
theorem ef_ctb_2 (m : MethodId) (x0 : Addr) (x2 : Int32) : entryFrame m #[(.ref x0), (.int 2), (.int x2)] 4 = mkF m 0 #[.val (.ref x0), .val (.int 2), .val (.int x2), .unset] [] := by first | (simp [entryFrame, mkF, argsToLocals, Value.category, maxLocals]; done) | rfl
theorem ef_ctb_3 (m : MethodId) (x0 : Addr) (x2 : Int32) : entryFrame m #[(.ref x0), (.int 3), (.int x2)] 4 = mkF m 0 #[.val (.ref x0), .val (.int 3), .val (.int x2), .unset] [] := by first | (simp [entryFrame, mkF, argsToLocals, Value.category, maxLocals]; done) | rfl
theorem ef_ctb_4 (m : MethodId) (x0 : Addr) (x2 : Int32) : entryFrame m #[(.ref x0), (.int 4), (.int x2)] 4 = mkF m 0 #[.val (.ref x0), .val (.int 4), .val (.int x2), .unset] [] := by first | (simp [entryFrame, mkF, argsToLocals, Value.category, maxLocals]; done) | rfl
theorem ef_clt_0 (m : MethodId) (x0 : Addr) (x2 : Int32) : entryFrame m #[(.ref x0), (.int 0), (.int x2)] 4 = mkF m 0 #[.val (.ref x0), .val (.int 0), .val (.int x2), .unset] [] := by first | (simp [entryFrame, mkF, argsToLocals, Value.category, maxLocals]; done) | rfl
theorem ef_clt_1 (m : MethodId) (x0 : Addr) (x2 : Int32) : entryFrame m #[(.ref x0), (.int 1), (.int x2)] 4 = mkF m 0 #[.val (.ref x0), .val (.int 1), .val (.int x2), .unset] [] := by first | (simp [entryFrame, mkF, argsToLocals, Value.category, maxLocals]; done) | rfl
theorem ef_clt_2 (m : MethodId) (x0 : Addr) (x2 : Int32) : entryFrame m #[(.ref x0), (.int 2), (.int x2)] 4 = mkF m 0 #[.val (.ref x0), .val (.int 2), .val (.int x2), .unset] [] := by first | (simp [entryFrame, mkF, argsToLocals, Value.category, maxLocals]; done) | rfl
theorem ef_clt_3 (m : MethodId) (x0 : Addr) (x2 : Int32) : entryFrame m #[(.ref x0), (.int 3), (.int x2)] 4 = mkF m 0 #[.val (.ref x0), .val (.int 3), .val (.int x2), .unset] [] := by first | (simp [entryFrame, mkF, argsToLocals, Value.category, maxLocals]; done) | rfl
theorem ef_cpick (m : MethodId) (x0 : Int32) (x1 : Int32) (x2 : Int32) (x3 : Int32) : entryFrame m #[(.int x0), (.int x1), (.int x2), (.int x3)] 4 = mkF m 0 #[.val (.int x0), .val (.int x1), .val (.int x2), .val (.int x3)] [] := by first | (simp [entryFrame, mkF, argsToLocals, Value.category, maxLocals]; done) | rfl
theorem ef_cokA (m : MethodId) (x0 : Addr) (x1 : Addr) (x2 : Int32) (x3 : Int32) : entryFrame m #[(.ref x0), (.ref x1), (.int x2), (.int x3)] 7 = mkF m 0 #[.val (.ref x0), .val (.ref x1), .val (.int x2), .val (.int x3), .unset, .unset, .unset] [] := by first | (simp [entryFrame, mkF, argsToLocals, Value.category, maxLocals]; done) | rfl
theorem ef_cok_0 (m : MethodId) (x0 : Addr) (x1 : Addr) (x3 : Int32) : entryFrame m #[(.ref x0), (.ref x1), (.int 0), (.int x3)] 7 = mkF m 0 #[.val (.ref x0), .val (.ref x1), .val (.int 0), .val (.int x3), .unset, .unset, .unset] [] := by first | (simp [entryFrame, mkF, argsToLocals, Value.category, maxLocals]; done) | rfl
theorem ef_cok_1 (m : MethodId) (x0 : Addr) (x1 : Addr) (x3 : Int32) : entryFrame m #[(.ref x0), (.ref x1), (.int 1), (.int x3)] 7 = mkF m 0 #[.val (.ref x0), .val (.ref x1), .val (.int 1), .val (.int x3), .unset, .unset, .unset] [] := by first | (simp [entryFrame, mkF, argsToLocals, Value.category, maxLocals]; done) | rfl
theorem ef_cok_2 (m : MethodId) (x0 : Addr) (x1 : Addr) (x3 : Int32) : entryFrame m #[(.ref x0), (.ref x1), (.int 2), (.int x3)] 7 = mkF m 0 #[.val (.ref x0), .val (.ref x1), .val (.int 2), .val (.int x3), .unset, .unset, .unset] [] := by first | (simp [entryFrame, mkF, argsToLocals, Value.category, maxLocals]; done) | rfl
theorem ef_cok_3 (m : MethodId) (x0 : Addr) (x1 : Addr) (x3 : Int32) : entryFrame m #[(.ref x0), (.ref x1), (.int 3), (.int x3)] 7 = mkF m 0 #[.val (.ref x0), .val (.ref x1), .val (.int 3), .val (.int x3), .unset, .unset, .unset] [] := by first | (simp [entryFrame, mkF, argsToLocals, Value.category, maxLocals]; done) | rfl
theorem ef_clenof (m : MethodId) (x0 : Addr) (x1 : Int32) : entryFrame m #[(.ref x0), (.int x1)] 3 = mkF m 0 #[.val (.ref x0), .val (.int x1), .unset] [] := by first | (simp [entryFrame, mkF, argsToLocals, Value.category, maxLocals]; done) | rfl
theorem ef_crec_0 (m : MethodId) (x0 : Addr) (x1 : Int32) : entryFrame m #[(.ref x0), (.int x1)] 5 = mkF m 0 #[.val (.ref x0), .val (.int x1), .unset, .unset, .unset] [] := by first | (simp [entryFrame, mkF, argsToLocals, Value.category, maxLocals]; done) | rfl
theorem ef_crec_1 (m : MethodId) (x0 : Addr) (x1 : Int32) : entryFrame m #[(.ref x0), (.int x1)] 5 = mkF m 0 #[.val (.ref x0), .val (.int x1), .unset, .unset, .unset] [] := by first | (simp [entryFrame, mkF, argsToLocals, Value.category, maxLocals]; done) | rfl
theorem ef_crec_2 (m : MethodId) (x0 : Addr) (x1 : Int32) : entryFrame m #[(.ref x0), (.int x1)] 5 = mkF m 0 #[.val (.ref x0), .val (.int x1), .unset, .unset, .unset] [] := by first | (simp [entryFrame, mkF, argsToLocals, Value.category, maxLocals]; done) | rfl
theorem ef_crec_3 (m : MethodId) (x0 : Addr) (x1 : Int32) : entryFrame m #[(.ref x0), (.int x1)] 5 = mkF m 0 #[.val (.ref x0), .val (.int x1), .unset, .unset, .unset] [] := by first | (simp [entryFrame, mkF, argsToLocals, Value.category, maxLocals]; done) | rfl
theorem ef_crec_4 (m : MethodId) (x0 : Addr) (x1 : Int32) : entryFrame m #[(.ref x0), (.int x1)] 5 = mkF m 0 #[.val (.ref x0), .val (.int x1), .unset, .unset, .unset] [] := by first | (simp [entryFrame, mkF, argsToLocals, Value.category, maxLocals]; done) | rfl
theorem ef_law0 (m : MethodId) (x0 : Int32) (x1 : Int32) (x2 : Int32) (x3 : Int32) : entryFrame m #[(.int x0), (.int x1), (.int x2), (.int x3)] maxLocals = mkF m 0 #[.val (.int x0), .val (.int x1), .val (.int x2), .val (.int x3), .unset, .unset, .unset, .unset, .unset, .unset] [] := by first | (simp [entryFrame, mkF, argsToLocals, Value.category, maxLocals]; done) | rfl
def own_is (x t : Int32) : Int32 := if x = t then 1 else 0
theorem own_isT {x t : Int32} (h : x = t) : own_is x t = 1 := if_pos h
theorem own_isF {x t : Int32} (h : ¬ (x = t)) : own_is x t = 0 := if_neg h
theorem own_is1 {x t : Int32} (h : ¬ (own_is x t = 0)) : own_is x t = 1 := by
  by_cases q : x = t
  · exact own_isT q
  · exact absurd (own_isF q) h
theorem own_is1n {x t : Int32} (h : own_is x t = 1) : ¬ (own_is x t = 0) := by rw [h]; decide
def own_tb1 (x0 t : Int32) : Int32 := own_is x0 t
def own_tb2 (x0 x1 t : Int32) : Int32 := own_is x0 t + own_is x1 t
def own_tb3 (x0 x1 x2 t : Int32) : Int32 := own_is x0 t + own_is x1 t + own_is x2 t
def own_tb4 (x0 x1 x2 x3 t : Int32) : Int32 := own_is x0 t + own_is x1 t + own_is x2 t + own_is x3 t
def own_lt1 (x0 t : Int32) : Int32 := if own_is x0 t = 0 then -1 else 0
def own_lt2 (x0 x1 t : Int32) : Int32 := if own_is x1 t = 0 then own_lt1 x0 t else 1
def own_lt3 (x0 x1 x2 t : Int32) : Int32 := if own_is x2 t = 0 then own_lt2 x0 x1 t else 2
theorem own_anti {a b : Int32} (h : ¬ (a < b)) (q : ¬ (b < a)) : a = b := by
  simp only [Int32.lt_iff_toInt_lt, ← Int32.toInt_inj] at *; omega
def Elm (Z : State) (h : Heap) (li : Addr) (r len : Int32) (vs : List Value) : Prop := ∃ (d a : Addr) (kd ka : ClassId) (us : List Value), Fld Z h li "java/util/ArrayList" "elementData" "[Ljava/lang/Object;" (.ref d) ∧ Arv Z h d kd (.object "java/lang/Object") (10 : Int32) us .null ∧ us.getD r.toNatClampNeg .null = .ref a ∧ ¬ (r < 0) ∧ r < 10 ∧ Exa Z h a "[B" ∧ Arv Z h a ka .byte len vs (.int 0)
def OKI (Z : State) (h : Heap) (li : Addr) (kk r f x : Int32) : Prop := r < kk ∧ ∃ (len : Int32) (vs : List Value), Elm Z h li r len vs ∧ ¬ (f < 0) ∧ f < len ∧ vs.getD f.toNatClampNeg (.int 0) = .int x
def LENP (Z : State) (h : Heap) (li : Addr) (kk j q : Int32) : Prop := (¬ (j < kk) ∧ q = 0) ∨ (j < kk ∧ ∃ vs : List Value, Elm Z h li j q vs)
theorem own_oki {Z : State} {h : Heap} {li : Addr} {kk r r' f i l x : Int32} (h1 : r' = r) (h2 : l = i - f - 1) (h3 : OKI Z h li kk r f x) : OKI Z h li kk r' (i - l - 1) x := by
  have : i - l - 1 = f := by
    subst h2; simp only [← Int32.toInt_inj]; simp [Int32.toInt_sub]
    have e : i.toInt - (i.toInt - f.toInt - 1) - 1 = f.toInt := by omega
    have h4 := f.le_toInt
    have h5 := f.toInt_lt
    rw [e]; exact Int.bmod_eq_of_le (by omega) (by omega)
  rw [h1, this]; exact h3
theorem own_rem5 (x : Int32) : (x &&& (7 : Int32)) % (5 : Int32) = 0 ∨ (x &&& (7 : Int32)) % (5 : Int32) = 1 ∨ (x &&& (7 : Int32)) % (5 : Int32) = 2 ∨ (x &&& (7 : Int32)) % (5 : Int32) = 3 ∨ (x &&& (7 : Int32)) % (5 : Int32) = 4 := by
  have h0 : 0 ≤ (x &&& (7 : Int32)).toInt := by
    have : ¬ (x &&& (7 : Int32)) < 0 := by rw [Jvm.Free.XT.and_neg32]; exact fun q => absurd q.2 (by decide)
    rw [Jvm.Free.XT.negI32] at this; omega
  generalize x &&& (7 : Int32) = y at h0 ⊢
  have h1 : (y % 5).toInt = y.toInt.tmod 5 := Int32.toInt_mod y 5
  rw [Int.tmod_eq_emod_of_nonneg h0] at h1
  have h2 := Int.emod_nonneg y.toInt (by decide : (5 : Int) ≠ 0)
  have h3 := Int.emod_lt_of_pos y.toInt (by decide : (0 : Int) < 5)
  simp only [← Int32.toInt_inj]
  have e0 : (0 : Int32).toInt = 0 := rfl
  have e1 : (1 : Int32).toInt = 1 := rfl
  have e2 : (2 : Int32).toInt = 2 := rfl
  have e3 : (3 : Int32).toInt = 3 := rfl
  have e4 : (4 : Int32).toInt = 4 := rfl
  omega
abbrev xS0 : String := "java/util/ArrayList"
abbrev xS1 : String := "java/util/Arrays"
abbrev xS2 : String := "java/lang/Object"
abbrev xS3 : String := "[Ljava/lang/Object;"
abbrev xS4 : String := "com/example/cronopoly/cronopoly/cli/Utf8RecordsPinLaw"
abbrev xS5 : String := "java/util/AbstractList"
def Q_cac (Z : State) (o : Addr) (h0 : Heap) (vR : Option Value) (hR : Heap) (LR : List Loc) : Prop := vR = none ∧ Fr Z.heap.size LR ∧ hR = h0
theorem cac (l : Launch) (Z : State) (a0 : Array Value) (hw : ∀ d ∈ tables_1, d.before a0 Z = true) (o : Addr) (h0 : Heap) (O0 : Ext Z.heap h0) :
    Ctr l Z h0 (⟨"java/util/AbstractCollection", "<init>", "()V"⟩ : MethodName) k4 1 none [] ({ frames := 1, cells := 0, slots := 0, locals := 12 } : Room) #[(.ref o)] (Q_cac Z o h0) := by
  refine enter (plainFor_of_name pn0) ?_
  intro pp ee ss mm below meth cc s₁ hx hby hml hZ hown hnm hret hlk X0 e0 hs0
  replace hown : ss.vm.findClass "java/util/AbstractCollection" = some mm.cls := hown
  refine Go.cast (congrArg s₁.setTop (ef_cac mm o)) ?_
  have N0 := Fr.nil Z.heap.size
  show Go pp ee below _ (s₁.setTop (mkF mm 0 #[.val (.ref o)] []))
  refine Go.aloadN X0 hx (hb hby d4_0) rfl rfl (q := 1) rfl ?_
  refine Go.initO X0 hx hZ hown (wd23 hw) (wd24 hw) (wd25 hw) e0 (by rw [hml]; rfl) (hb hby d4_1) (by decide) (W := 0) (by exact Nat.le_refl _) (by decide) (q := 4) rfl ?_
  intro T101 X101 e101
  exact Go.retV X101 hx hret hlk (hb hby d4_4) e101 (by decide) (by decide) ⟨rfl, N0, rfl⟩
def Q_cabl (Z : State) (o : Addr) (h0 : Heap) (vR : Option Value) (hR : Heap) (LR : List Loc) : Prop := vR = none ∧ Fr Z.heap.size LR ∧ Keep h0 hR [o] ∧ Fld Z hR o xS0 "elementData" xS3 .null ∧ Fld Z hR o xS0 "size" "I" (.int 0) ∧ Fld Z hR o xS5 "modCount" "I" (.int 0)
theorem cabl (l : Launch) (Z : State) (a0 : Array Value) (hw : ∀ d ∈ tables_1, d.before a0 Z = true) (o : Addr) (h0 : Heap) (O0 : Ext Z.heap h0) (Eo : Exa Z h0 o xS0) (g_o : Z.heap.size ≤ o) (F0 : Fld Z h0 o xS0 "elementData" xS3 .null) (F1 : Fld Z h0 o xS0 "size" "I" (.int 0)) (F2 : Fld Z h0 o xS5 "modCount" "I" (.int 0)) :
    Ctr l Z h0 (⟨xS5, "<init>", "()V"⟩ : MethodName) k3 1 none [] ({ frames := 2, cells := 0, slots := 0, locals := 24 } : Room) #[(.ref o)] (Q_cabl Z o h0) := by
  refine enter (plainFor_of_name pn1) ?_
  intro pp ee ss mm below meth cc s₁ hx hby hml hZ hown hnm hret hlk X0 e0 hs0
  replace hown : ss.vm.findClass xS5 = some mm.cls := hown
  refine Go.cast (congrArg s₁.setTop (ef_cabl mm o)) ?_
  have N0 := Fr.nil Z.heap.size
  have KP := Keep.refl h0 [o]
  show Go pp ee below _ (s₁.setTop (mkF mm 0 #[.val (.ref o)] []))
  refine Go.aloadN X0 hx (hb hby d3_0) rfl rfl (q := 1) rfl ?_
  refine Go.init X0 hx hZ hown rfl (wd17 hw) (wd18 hw) (wd21 hw) (wd22 hw) (by decide) (cac l Z a0 hw o h0 O0) e0 (by rw [hml]; rfl) (hb hby d3_1) (argsL := []) (rest := []) (lenOf pd0 rfl) rfl rfl (W := 0) (Nat.le_refl _) (by decide) ?_
  intro v101 T101 L101 X101 hQ101
  obtain ⟨rfl, N101q, e101⟩ := hQ101
  have N101 := Fr.app N0 N101q
  refine Go.aloadN X101 hx (hb hby d3_4) rfl rfl (q := 5) rfl ?_
  refine Go.iconst X101 hx (hb hby d3_5) (r := (0 : Int32)) rfl (q := 6) rfl ?_
  refine Go.putF X101 hx hZ hown (host := "") (Or.inl (wd26 hw)) Via.refl e101 F2 Eo (Or.inl (wd27 hw)) (wd6 hw) (ty := .int) (by decide) rfl rfl (hb hby d3_6) (q := 9) rfl ?_
  intro T102 h102 X102 e102 W102 F102
  have N102 := Fr.snoc X102 N101 g_o
  replace Eo := Eo.wr W102
  replace F0 := F0.other W102 (Or.inr (slot_ne (Or.inl (wd30 hw)) (Or.inl (wd27 hw)) (by decide) (t := (.array (.object xS2))) (t' := .int) (by decide) (by decide)))
  replace F1 := F1.other W102 (Or.inr (slot_ne (Or.inl (wd41 hw)) (Or.inl (wd27 hw)) (by decide) (t := .int) (t' := .int) (by decide) (by decide)))
  have OW102 := ext_wr O0 W102 g_o
  replace KP := KP.wr W102 (Or.inl (List.mem_of_getElem? (i := 0) rfl))
  exact Go.retV X102 hx hret hlk (hb hby d3_9) e102 (by decide) (by decide) ⟨rfl, N102, KP, F0, F1, F102⟩
def Q_cali (Z : State) (o de : Addr) (h0 : Heap) (vR : Option Value) (hR : Heap) (LR : List Loc) : Prop := vR = none ∧ Fr Z.heap.size LR ∧ Keep h0 hR [o] ∧ Fld Z hR o xS0 "elementData" xS3 (.ref de) ∧ Fld Z hR o xS0 "size" "I" (.int 0) ∧ Fld Z hR o xS5 "modCount" "I" (.int 0)
theorem cali (l : Launch) (Z : State) (a0 : Array Value) (hw : ∀ d ∈ tables_1, d.before a0 Z = true) (o de : Addr) (h0 : Heap) (O0 : Ext Z.heap h0) (Eo : Exa Z h0 o xS0) (g_o : Z.heap.size ≤ o) (F0 : Fld Z h0 o xS0 "elementData" xS3 .null) (F1 : Fld Z h0 o xS0 "size" "I" (.int 0)) (F2 : Fld Z h0 o xS5 "modCount" "I" (.int 0)) (SD : Sta Z Z.heap xS0 "DEFAULTCAPACITY_EMPTY_ELEMENTDATA" xS3 (.ref de)) :
    Ctr l Z h0 (⟨xS0, "<init>", "()V"⟩ : MethodName) k2 1 none [] ({ frames := 3, cells := 0, slots := 0, locals := 36 } : Room) #[(.ref o)] (Q_cali Z o de h0) := by
  refine enter (plainFor_of_name pn2) ?_
  intro pp ee ss mm below meth cc s₁ hx hby hml hZ hown hnm hret hlk X0 e0 hs0
  replace hown : ss.vm.findClass xS0 = some mm.cls := hown
  refine Go.cast (congrArg s₁.setTop (ef_cali mm o)) ?_
  have N0 := Fr.nil Z.heap.size
  have KP := Keep.refl h0 [o]
  show Go pp ee below _ (s₁.setTop (mkF mm 0 #[.val (.ref o)] []))
  refine Go.aloadN X0 hx (hb hby d2_0) rfl rfl (q := 1) rfl ?_
  refine Go.init X0 hx hZ hown rfl (wd11 hw) (wd12 hw) (wd15 hw) (wd16 hw) (by decide) (cabl l Z a0 hw o h0 O0 Eo g_o F0 F1 F2) e0 (by rw [hml]; rfl) (hb hby d2_1) (argsL := []) (rest := []) (lenOf pd0 rfl) rfl rfl (W := 0) (Nat.le_refl _) (by decide) ?_
  intro v101 T101 L101 X101 hQ101
  obtain ⟨h101, e101⟩ : ∃ z, T101.heap = z := ⟨_, rfl⟩
  rw [e101] at hQ101
  obtain ⟨rfl, N101q, K101, P101_0, P101_1, P101_2⟩ := hQ101
  have N101 := Fr.app N0 N101q
  replace Eo := Eo.keep K101
  have OK101 := ext_keep O0 K101 (allS g_o all0)
  replace KP := KP.trans K101 (allS (Or.inl (List.mem_of_getElem? (i := 0) rfl)) all0)
  refine Go.aloadN X101 hx (hb hby d2_4) rfl rfl (q := 5) rfl ?_
  refine Go.getS X101 hx hZ hown (host := "") (Or.inl (wd28 hw)) Via.refl e101 (SD.ext OK101) (hb hby d2_5) (q := 8) rfl ?_
  intro T102 X102 e102
  refine Go.putF X102 hx hZ hown (host := "") (Or.inl (wd29 hw)) Via.refl e102 P101_0 Eo (Or.inl (wd30 hw)) (wd6 hw) (ty := (.array (.object xS2))) (by decide) rfl rfl (hb hby d2_8) (q := 11) rfl ?_
  intro T103 h103 X103 e103 W103 F103
  have N103 := Fr.snoc X103 N101 g_o
  replace Eo := Eo.wr W103
  replace P101_1 := P101_1.other W103 (Or.inr (slot_ne (Or.inl (wd41 hw)) (Or.inl (wd30 hw)) (by decide) (t := .int) (t' := (.array (.object xS2))) (by decide) (by decide)))
  replace P101_2 := P101_2.other W103 (Or.inr (slot_ne (Or.inl (wd27 hw)) (Or.inl (wd30 hw)) (by decide) (t := .int) (t' := (.array (.object xS2))) (by decide) (by decide)))
  have OW103 := ext_wr OK101 W103 g_o
  replace KP := KP.wr W103 (Or.inl (List.mem_of_getElem? (i := 0) rfl))
  exact Go.retV X103 hx hret hlk (hb hby d2_11) e103 (by decide) (by decide) ⟨rfl, N103, KP, F103, P101_1, P101_2⟩
def Q_cmaxI (Z : State) (pa pb : Int32) (h0 : Heap) (vR : Option Value) (hR : Heap) (LR : List Loc) : Prop := vR = some (.int pa) ∧ Fr Z.heap.size LR ∧ hR = h0
theorem cmaxI (l : Launch) (Z : State) (a0 : Array Value) (hw : ∀ d ∈ tables_1, d.before a0 Z = true) (pa pb : Int32) (h0 : Heap) (O0 : Ext Z.heap h0) (h : ¬ (pa < pb)) :
    Ctr l Z h0 (⟨"java/lang/Math", "max", "(II)I"⟩ : MethodName) k19 2 (some .int) [] ({ frames := 0, cells := 0, slots := 0, locals := 0 } : Room) #[(.int pa), (.int pb)] (Q_cmaxI Z pa pb h0) := by
  refine enter (Jvm.Free.JP.mathPlain rfl (by decide +kernel)) ?_
  intro pp ee ss mm below meth cc s₁ hx hby hml hZ hown hnm hret hlk X0 e0 hs0
  replace hown : ss.vm.findClass "java/lang/Math" = some mm.cls := hown
  refine Go.cast (congrArg s₁.setTop (ef_cmaxI mm pa pb)) ?_
  have N0 := Fr.nil Z.heap.size
  show Go pp ee below _ (s₁.setTop (mkF mm 0 #[.val (.int pa), .val (.int pb)] []))
  refine Go.iloadN X0 hx (hb hby d19_0) rfl (q := 1) rfl ?_
  refine Go.iloadN X0 hx (hb hby d19_1) rfl (q := 2) rfl ?_
  refine Go.icmpNo X0 hx (hb hby d19_2) (Jvm.Free.XT.ii_lt_f h) (q := 5) rfl ?_
  refine Go.iloadN X0 hx (hb hby d19_5) rfl (q := 6) rfl ?_
  refine Go.goto X0 hx (hb hby d19_6) (q := 10) (by decide) (by decide) ?_
  exact Go.retI X0 hx hret hlk (Or.inl rfl) rfl (hb hby d19_10) e0 (by decide) (by decide) ⟨rfl, N0, rfl⟩
def Q_cgroI (Z : State) (o de : Addr) (mc : Int32) (h0 : Heap) (vR : Option Value) (hR : Heap) (LR : List Loc) : Prop := ∃ d : Addr, ∃ kd : ClassId, vR = some (.ref d) ∧ Fr Z.heap.size LR ∧ Keep h0 hR [o] ∧ h0.size ≤ d ∧ Fld Z hR o xS0 "elementData" xS3 (.ref d) ∧ Fld Z hR o xS0 "size" "I" (.int 0) ∧ Fld Z hR o xS5 "modCount" "I" (.int mc) ∧ Arv Z hR d kd (.object xS2) (10 : Int32) [.null, .null, .null, .null, .null, .null, .null, .null, .null, .null] .null ∧ Ovr Z kd xS2
theorem cgroI (l : Launch) (Z : State) (a0 : Array Value) (hw : ∀ d ∈ tables_1, d.before a0 Z = true) (o de : Addr) (mc : Int32) (h0 : Heap) (O0 : Ext Z.heap h0) (Eo : Exa Z h0 o xS0) (g_o : Z.heap.size ≤ o) (F0 : Fld Z h0 o xS0 "elementData" xS3 (.ref de)) (F1 : Fld Z h0 o xS0 "size" "I" (.int 0)) (F2 : Fld Z h0 o xS5 "modCount" "I" (.int mc)) (SD : Sta Z Z.heap xS0 "DEFAULTCAPACITY_EMPTY_ELEMENTDATA" xS3 (.ref de)) (LD : Lng Z Z.heap de (0 : Int32)) :
    Ctr l Z h0 (⟨xS0, "grow", "(I)[Ljava/lang/Object;"⟩ : MethodName) k18 4 (some (.array (.object xS2))) [] ({ frames := 1, cells := 1, slots := 10, locals := 14 } : Room) #[(.ref o), (.int 1)] (Q_cgroI Z o de mc h0) := by
  refine enter (plainFor_of_name pn2) ?_
  intro pp ee ss mm below meth cc s₁ hx hby hml hZ hown hnm hret hlk X0 e0 hs0
  replace hown : ss.vm.findClass xS0 = some mm.cls := hown
  refine Go.cast (congrArg s₁.setTop (ef_cgroI mm o)) ?_
  have N0 := Fr.nil Z.heap.size
  have KP := Keep.refl h0 [o]
  show Go pp ee below _ (s₁.setTop (mkF mm 0 #[.val (.ref o), .val (.int 1), .unset, .unset] []))
  refine Go.aloadN X0 hx (hb hby d18_0) rfl rfl (q := 1) rfl ?_
  refine Go.getF X0 hx hZ hown (host := "") (Or.inl (wd29 hw)) Via.refl e0 F0 (hb hby d18_1) (q := 4) rfl ?_
  intro T101 X101 e101
  refine Go.aln X101 hx hZ e101 (LD.ext O0) (hb hby d18_4) ?_
  refine Go.istoreN X101 hx (hb hby d18_5) (l' := #[.val (.ref o), .val (.int 1), .val (.int 0), .unset]) rfl (q := 6) rfl ?_
  refine Go.iloadN X101 hx (hb hby d18_6) rfl (q := 7) rfl ?_
  refine Go.ifNo X101 hx (hb hby d18_7) (by decide) (q := 10) rfl ?_
  refine Go.aloadN X101 hx (hb hby d18_10) rfl rfl (q := 11) rfl ?_
  refine Go.getF X101 hx hZ hown (host := "") (Or.inl (wd29 hw)) Via.refl e101 F0 (hb hby d18_11) (q := 14) rfl ?_
  intro T102 X102 e102
  refine Go.getS X102 hx hZ hown (host := "") (Or.inl (wd28 hw)) Via.refl e102 (SD.ext O0) (hb hby d18_14) (q := 17) rfl ?_
  intro T103 X103 e103
  refine Go.acmp X103 hx rfl rfl (hb hby d18_17) (same := true) (decide_eq_true rfl) (q := 45) (by decide) (by decide) ?_
  refine Go.aloadN X103 hx (hb hby d18_45) rfl rfl (q := 46) rfl ?_
  refine Go.bipush X103 hx (hb hby d18_46) (r := (10 : Int32)) rfl (q := 48) rfl ?_
  refine Go.iloadN X103 hx (hb hby d18_48) rfl (q := 49) rfl ?_
  refine Go.callS X103 hx hZ hown (wd98 hw) (wd99 hw) (wd67 hw) (wd100 hw) (by decide) (cmaxI l Z a0 hw ((10 : Int32)) ((1 : Int32)) h0 O0 (by decide)) e103 (by rw [hml]; rfl) (hb hby d18_49) (argsL := [(.int 10), (.int 1)]) (rest := [(.ref o)]) (lenOf pd1 rfl) rfl rfl (W := 1) (Nat.le_refl _) (by decide) ?_
  intro v104 T104 L104 X104 hQ104
  obtain ⟨rfl, N104q, e104⟩ := hQ104
  have N104 := Fr.app N0 N104q
  refine Go.newR X104 hx hZ hown (wd101 hw) (wd102 hw) (hb hby d18_52) e104 (by decide) (cap := 10) (by decide) (by decide) (by decide) (by decide) (ad := xS3) rfl (q := 55) rfl ?_
  intro b105 T105 h105 k105 X105 e105 q105 E105 V105 B105 Ov105
  have ne_o_b105 : o ≠ b105 := ne_new Eo.lt (Nat.le_of_eq q105)
  have g_b105 : Z.heap.size ≤ b105 := Nat.le_trans O0.1 (Nat.le_of_eq q105)
  have z_b105 : h0.size ≤ b105 := Nat.le_trans KP.1 (Nat.le_of_eq q105)
  replace Eo := Eo.ext E105
  replace F0 := F0.ext E105
  replace F1 := F1.ext E105
  replace F2 := F2.ext E105
  have OE105 := ext_trans O0 E105
  replace KP := KP.ext E105
  replace V105 : Arv Z h105 b105 k105 (.object xS2) (10 : Int32) [.null, .null, .null, .null, .null, .null, .null, .null, .null, .null] .null := V105.pad (pad_rep [] .null 10)
  refine Go.dup_x1 X105 hx (hb hby d18_55) rfl rfl (q := 56) rfl ?_
  refine Go.putF X105 hx hZ hown (host := "") (Or.inl (wd29 hw)) Via.refl e105 F0 Eo (Or.inl (wd30 hw)) (wd6 hw) (ty := (.array (.object xS2))) (by decide) rfl rfl (hb hby d18_56) (q := 59) rfl ?_
  intro T106 h106 X106 e106 W106 F106
  have N106 := Fr.snoc X106 N104 g_o
  replace Eo := Eo.wr W106
  replace F1 := F1.other W106 (Or.inr (slot_ne (Or.inl (wd41 hw)) (Or.inl (wd30 hw)) (by decide) (t := .int) (t' := (.array (.object xS2))) (by decide) (by decide)))
  replace F2 := F2.other W106 (Or.inr (slot_ne (Or.inl (wd27 hw)) (Or.inl (wd30 hw)) (by decide) (t := .int) (t' := (.array (.object xS2))) (by decide) (by decide)))
  replace B105 := B105.wr W106
  replace V105 := V105.other W106 (Ne.symm ne_o_b105)
  have OW106 := ext_wr OE105 W106 g_o
  replace KP := KP.wr W106 (Or.inl (List.mem_of_getElem? (i := 0) rfl))
  exact Go.retA X106 hx hret hlk rfl rfl (hb hby d18_59) e106 (by decide) (by decide) ⟨b105, k105, rfl, N106, KP, z_b105, F106, F1, F2, V105, Ov105⟩
def Q_cgro (Z : State) (o de : Addr) (mc : Int32) (h0 : Heap) (vR : Option Value) (hR : Heap) (LR : List Loc) : Prop := ∃ d : Addr, ∃ kd : ClassId, vR = some (.ref d) ∧ Fr Z.heap.size LR ∧ Keep h0 hR [o] ∧ h0.size ≤ d ∧ Fld Z hR o xS0 "elementData" xS3 (.ref d) ∧ Fld Z hR o xS0 "size" "I" (.int 0) ∧ Fld Z hR o xS5 "modCount" "I" (.int mc) ∧ Arv Z hR d kd (.object xS2) (10 : Int32) [.null, .null, .null, .null, .null, .null, .null, .null, .null, .null] .null ∧ Ovr Z kd xS2
theorem cgro (l : Launch) (Z : State) (a0 : Array Value) (hw : ∀ d ∈ tables_1, d.before a0 Z = true) (o de : Addr) (mc : Int32) (h0 : Heap) (O0 : Ext Z.heap h0) (Eo : Exa Z h0 o xS0) (g_o : Z.heap.size ≤ o) (F0 : Fld Z h0 o xS0 "elementData" xS3 (.ref de)) (F1 : Fld Z h0 o xS0 "size" "I" (.int 0)) (F2 : Fld Z h0 o xS5 "modCount" "I" (.int mc)) (SD : Sta Z Z.heap xS0 "DEFAULTCAPACITY_EMPTY_ELEMENTDATA" xS3 (.ref de)) (LD : Lng Z Z.heap de (0 : Int32)) :
    Ctr l Z h0 (⟨xS0, "grow", "()[Ljava/lang/Object;"⟩ : MethodName) k17 1 (some (.array (.object xS2))) [] ({ frames := 2, cells := 1, slots := 10, locals := 29 } : Room) #[(.ref o)] (Q_cgro Z o de mc h0) := by
  refine enter (plainFor_of_name pn2) ?_
  intro pp ee ss mm below meth cc s₁ hx hby hml hZ hown hnm hret hlk X0 e0 hs0
  replace hown : ss.vm.findClass xS0 = some mm.cls := hown
  refine Go.cast (congrArg s₁.setTop (ef_cgro mm o)) ?_
  have N0 := Fr.nil Z.heap.size
  have KP := Keep.refl h0 [o]
  show Go pp ee below _ (s₁.setTop (mkF mm 0 #[.val (.ref o)] []))
  refine Go.aloadN X0 hx (hb hby d17_0) rfl rfl (q := 1) rfl ?_
  refine Go.aloadN X0 hx (hb hby d17_1) rfl rfl (q := 2) rfl ?_
  refine Go.getF X0 hx hZ hown (host := "") (Or.inl (wd40 hw)) Via.refl e0 F1 (hb hby d17_2) (q := 5) rfl ?_
  intro T101 X101 e101
  refine Go.iconst X101 hx (hb hby d17_5) (r := (1 : Int32)) rfl (q := 6) rfl ?_
  refine Go.iadd X101 hx (hb hby d17_6) (r := (1 : Int32)) rfl (q := 7) rfl ?_
  refine Go.priv X101 hx hZ hown (wd93 hw) (wd94 hw) (wd96 hw) (wd95 hw) (wd7 hw) (wd97 hw) (by decide) (cgroI l Z a0 hw o de mc h0 O0 Eo g_o F0 F1 F2 SD LD) e101 Eo (by rw [hml]; rfl) (hb hby d17_7) (argsL := [(.int 1)]) (rest := []) (lenOf pd2 rfl) rfl rfl (W := 0) (Nat.le_refl _) (by decide) ?_
  intro v102 T102 L102 X102 hQ102
  obtain ⟨h102, e102⟩ : ∃ z, T102.heap = z := ⟨_, rfl⟩
  rw [e102] at hQ102
  obtain ⟨d_102, kd_102, rfl, N102q, K102, fr102_d, P102_0, P102_1, P102_2, P102_3, P102_4⟩ := hQ102
  have N102 := Fr.app N0 N102q
  have ne_o_d_102 : o ≠ d_102 := ne_new Eo.lt fr102_d
  have g_d_102 : Z.heap.size ≤ d_102 := Nat.le_trans O0.1 fr102_d
  have z_d_102 : h0.size ≤ d_102 := Nat.le_trans KP.1 fr102_d
  replace Eo := Eo.keep K102
  have OK102 := ext_keep O0 K102 (allS g_o all0)
  replace KP := KP.trans K102 (allS (Or.inl (List.mem_of_getElem? (i := 0) rfl)) all0)
  exact Go.retA X102 hx hret hlk rfl rfl (hb hby d17_10) e102 (by decide) (by decide) ⟨d_102, kd_102, rfl, N102, KP, z_d_102, P102_0, P102_1, P102_2, P102_3, P102_4⟩
def Q_cad3_0 (Z : State) (o x de : Addr) (mc : Int32) (h0 : Heap) (vR : Option Value) (hR : Heap) (LR : List Loc) : Prop := ∃ d : Addr, ∃ kd : ClassId, vR = none ∧ Fr Z.heap.size LR ∧ Keep h0 hR [o] ∧ h0.size ≤ d ∧ Fld Z hR o xS0 "elementData" xS3 (.ref d) ∧ Fld Z hR o xS0 "size" "I" (.int 1) ∧ Fld Z hR o xS5 "modCount" "I" (.int mc) ∧ Arv Z hR d kd (.object xS2) (10 : Int32) [(.ref x), .null, .null, .null, .null, .null, .null, .null, .null, .null] .null ∧ Ovr Z kd xS2
theorem cad3_0 (l : Launch) (Z : State) (a0 : Array Value) (hw : ∀ d ∈ tables_1, d.before a0 Z = true) (o x de : Addr) (mc : Int32) (h0 : Heap) (O0 : Ext Z.heap h0) (Eo : Exa Z h0 o xS0) (g_o : Z.heap.size ≤ o) (F0 : Fld Z h0 o xS0 "elementData" xS3 (.ref de)) (F1 : Fld Z h0 o xS0 "size" "I" (.int 0)) (F2 : Fld Z h0 o xS5 "modCount" "I" (.int mc)) (Ex : Exa Z h0 x "[B") (SD : Sta Z Z.heap xS0 "DEFAULTCAPACITY_EMPTY_ELEMENTDATA" xS3 (.ref de)) (LD : Lng Z Z.heap de (0 : Int32)) :
    Ctr l Z h0 (⟨xS0, "add", "(Ljava/lang/Object;[Ljava/lang/Object;I)V"⟩ : MethodName) k16 4 none [] ({ frames := 3, cells := 1, slots := 10, locals := 41 } : Room) #[(.ref o), (.ref x), (.ref de), (.int 0)] (Q_cad3_0 Z o x de mc h0) := by
  refine enter (plainFor_of_name pn2) ?_
  intro pp ee ss mm below meth cc s₁ hx hby hml hZ hown hnm hret hlk X0 e0 hs0
  replace hown : ss.vm.findClass xS0 = some mm.cls := hown
  refine Go.cast (congrArg s₁.setTop (ef_cad3_0 mm o x de)) ?_
  have N0 := Fr.nil Z.heap.size
  have KP := Keep.refl h0 [o]
  show Go pp ee below _ (s₁.setTop (mkF mm 0 #[.val (.ref o), .val (.ref x), .val (.ref de), .val (.int 0)] []))
  refine Go.iloadN X0 hx (hb hby d16_0) rfl (q := 1) rfl ?_
  refine Go.aloadN X0 hx (hb hby d16_1) rfl rfl (q := 2) rfl ?_
  refine Go.aln X0 hx hZ e0 (LD.ext O0) (hb hby d16_2) ?_
  refine Go.icmpNo X0 hx (hb hby d16_3) (by decide) (q := 6) rfl ?_
  refine Go.aloadN X0 hx (hb hby d16_6) rfl rfl (q := 7) rfl ?_
  refine Go.priv X0 hx hZ hown (wd88 hw) (wd89 hw) (wd91 hw) (wd90 hw) (wd7 hw) (wd92 hw) (by decide) (cgro l Z a0 hw o de mc h0 O0 Eo g_o F0 F1 F2 SD LD) e0 Eo (by rw [hml]; rfl) (hb hby d16_7) (argsL := []) (rest := []) (lenOf pd3 rfl) rfl rfl (W := 0) (Nat.le_refl _) (by decide) ?_
  intro v101 T101 L101 X101 hQ101
  obtain ⟨h101, e101⟩ : ∃ z, T101.heap = z := ⟨_, rfl⟩
  rw [e101] at hQ101
  obtain ⟨d_101, kd_101, rfl, N101q, K101, fr101_d, P101_0, P101_1, P101_2, P101_3, P101_4⟩ := hQ101
  have N101 := Fr.app N0 N101q
  have ne_o_d_101 : o ≠ d_101 := ne_new Eo.lt fr101_d
  have ne_x_d_101 : x ≠ d_101 := ne_new Ex.lt fr101_d
  have g_d_101 : Z.heap.size ≤ d_101 := Nat.le_trans O0.1 fr101_d
  have z_d_101 : h0.size ≤ d_101 := Nat.le_trans KP.1 fr101_d
  replace Eo := Eo.keep K101
  replace Ex := Ex.keep K101
  have OK101 := ext_keep O0 K101 (allS g_o all0)
  replace KP := KP.trans K101 (allS (Or.inl (List.mem_of_getElem? (i := 0) rfl)) all0)
  refine Go.astoreN X101 hx (hb hby d16_10) rfl (l' := #[.val (.ref o), .val (.ref x), .val (.ref d_101), .val (.int 0)]) rfl (q := 11) rfl ?_
  refine Go.aloadN X101 hx (hb hby d16_11) rfl rfl (q := 12) rfl ?_
  refine Go.iloadN X101 hx (hb hby d16_12) rfl (q := 13) rfl ?_
  refine Go.aloadN X101 hx (hb hby d16_13) rfl rfl (q := 14) rfl ?_
  refine Go.rst X101 hx hZ e101 P101_3 rfl (Sto.ofArv P101_3 P101_4 (Ins.of_exa Ex (wd103 hw))) rfl ⟨by decide, by decide⟩ (i := 0) rfl (Nat.le_of_ble_eq_true rfl) (hb hby d16_14) ?_
  intro T102 h102 X102 e102 W102 V102
  replace V102 : Arv Z h102 d_101 kd_101 (.object xS2) (10 : Int32) [(.ref x), .null, .null, .null, .null, .null, .null, .null, .null, .null] .null := V102
  have N102 := Fr.snoc X102 N101 g_d_101
  replace Eo := Eo.wr W102
  replace Ex := Ex.wr W102
  replace P101_0 := P101_0.other W102 (Or.inl ne_o_d_101)
  replace P101_1 := P101_1.other W102 (Or.inl ne_o_d_101)
  replace P101_2 := P101_2.other W102 (Or.inl ne_o_d_101)
  have OW102 := ext_wr OK101 W102 g_d_101
  replace KP := KP.wr W102 (Or.inr z_d_101)
  refine Go.aloadN X102 hx (hb hby d16_15) rfl rfl (q := 16) rfl ?_
  refine Go.iloadN X102 hx (hb hby d16_16) rfl (q := 17) rfl ?_
  refine Go.iconst X102 hx (hb hby d16_17) (r := (1 : Int32)) rfl (q := 18) rfl ?_
  refine Go.iadd X102 hx (hb hby d16_18) (r := (1 : Int32)) rfl (q := 19) rfl ?_
  refine Go.putF X102 hx hZ hown (host := "") (Or.inl (wd40 hw)) Via.refl e102 P101_1 Eo (Or.inl (wd41 hw)) (wd6 hw) (ty := .int) (by decide) rfl rfl (hb hby d16_19) (q := 22) rfl ?_
  intro T103 h103 X103 e103 W103 F103
  have N103 := Fr.snoc X103 N102 g_o
  replace Eo := Eo.wr W103
  replace Ex := Ex.wr W103
  replace P101_0 := P101_0.other W103 (Or.inr (slot_ne (Or.inl (wd30 hw)) (Or.inl (wd41 hw)) (by decide) (t := (.array (.object xS2))) (t' := .int) (by decide) (by decide)))
  replace P101_2 := P101_2.other W103 (Or.inr (slot_ne (Or.inl (wd27 hw)) (Or.inl (wd41 hw)) (by decide) (t := .int) (t' := .int) (by decide) (by decide)))
  replace V102 := V102.other W103 (Ne.symm ne_o_d_101)
  have OW103 := ext_wr OW102 W103 g_o
  replace KP := KP.wr W103 (Or.inl (List.mem_of_getElem? (i := 0) rfl))
  exact Go.retV X103 hx hret hlk (hb hby d16_22) e103 (by decide) (by decide) ⟨d_101, kd_101, rfl, N103, KP, z_d_101, P101_0, F103, P101_2, V102, P101_4⟩
def Q_cadd_0 (Z : State) (o x de : Addr) (mc : Int32) (h0 : Heap) (vR : Option Value) (hR : Heap) (LR : List Loc) : Prop := ∃ d : Addr, ∃ kd : ClassId, vR = some (.int 1) ∧ Fr Z.heap.size LR ∧ Keep h0 hR [o] ∧ h0.size ≤ d ∧ Fld Z hR o xS0 "elementData" xS3 (.ref d) ∧ Fld Z hR o xS0 "size" "I" (.int 1) ∧ Fld Z hR o xS5 "modCount" "I" (.int (mc + (1 : Int32))) ∧ Arv Z hR d kd (.object xS2) (10 : Int32) [(.ref x), .null, .null, .null, .null, .null, .null, .null, .null, .null] .null ∧ Ovr Z kd xS2
theorem cadd_0 (l : Launch) (Z : State) (a0 : Array Value) (hw : ∀ d ∈ tables_1, d.before a0 Z = true) (o x de : Addr) (mc : Int32) (h0 : Heap) (O0 : Ext Z.heap h0) (Eo : Exa Z h0 o xS0) (g_o : Z.heap.size ≤ o) (F0 : Fld Z h0 o xS0 "elementData" xS3 (.ref de)) (F1 : Fld Z h0 o xS0 "size" "I" (.int 0)) (F2 : Fld Z h0 o xS5 "modCount" "I" (.int mc)) (Ex : Exa Z h0 x "[B") (SD : Sta Z Z.heap xS0 "DEFAULTCAPACITY_EMPTY_ELEMENTDATA" xS3 (.ref de)) (LD : Lng Z Z.heap de (0 : Int32)) :
    Ctr l Z h0 (⟨xS0, "add", "(Ljava/lang/Object;)Z"⟩ : MethodName) k15 2 (some .boolean) [] ({ frames := 4, cells := 1, slots := 10, locals := 56 } : Room) #[(.ref o), (.ref x)] (Q_cadd_0 Z o x de mc h0) := by
  refine enter (plainFor_of_name pn2) ?_
  intro pp ee ss mm below meth cc s₁ hx hby hml hZ hown hnm hret hlk X0 e0 hs0
  replace hown : ss.vm.findClass xS0 = some mm.cls := hown
  refine Go.cast (congrArg s₁.setTop (ef_cadd_0 mm o x)) ?_
  have N0 := Fr.nil Z.heap.size
  have KP := Keep.refl h0 [o]
  show Go pp ee below _ (s₁.setTop (mkF mm 0 #[.val (.ref o), .val (.ref x)] []))
  refine Go.aloadN X0 hx (hb hby d15_0) rfl rfl (q := 1) rfl ?_
  refine Go.dup X0 hx (hb hby d15_1) rfl (q := 2) rfl ?_
  refine Go.getF X0 hx hZ hown (host := "") (Or.inl (wd81 hw)) (Via.of (wd82 hw)) e0 F2 (hb hby d15_2) (q := 5) rfl ?_
  intro T101 X101 e101
  refine Go.iconst X101 hx (hb hby d15_5) (r := (1 : Int32)) rfl (q := 6) rfl ?_
  refine Go.iadd X101 hx (hb hby d15_6) rfl (q := 7) rfl ?_
  refine Go.putF X101 hx hZ hown (host := "") (Or.inl (wd81 hw)) (Via.of (wd82 hw)) e101 F2 Eo (Or.inl (wd27 hw)) (wd6 hw) (ty := .int) (by decide) rfl rfl (hb hby d15_7) (q := 10) rfl ?_
  intro T102 h102 X102 e102 W102 F102
  have N102 := Fr.snoc X102 N0 g_o
  replace Eo := Eo.wr W102
  replace F0 := F0.other W102 (Or.inr (slot_ne (Or.inl (wd30 hw)) (Or.inl (wd27 hw)) (by decide) (t := (.array (.object xS2))) (t' := .int) (by decide) (by decide)))
  replace F1 := F1.other W102 (Or.inr (slot_ne (Or.inl (wd41 hw)) (Or.inl (wd27 hw)) (by decide) (t := .int) (t' := .int) (by decide) (by decide)))
  replace Ex := Ex.wr W102
  have OW102 := ext_wr O0 W102 g_o
  replace KP := KP.wr W102 (Or.inl (List.mem_of_getElem? (i := 0) rfl))
  refine Go.aloadN X102 hx (hb hby d15_10) rfl rfl (q := 11) rfl ?_
  refine Go.aloadN X102 hx (hb hby d15_11) rfl rfl (q := 12) rfl ?_
  refine Go.aloadN X102 hx (hb hby d15_12) rfl rfl (q := 13) rfl ?_
  refine Go.getF X102 hx hZ hown (host := "") (Or.inl (wd29 hw)) Via.refl e102 F0 (hb hby d15_13) (q := 16) rfl ?_
  intro T103 X103 e103
  refine Go.aloadN X103 hx (hb hby d15_16) rfl rfl (q := 17) rfl ?_
  refine Go.getF X103 hx hZ hown (host := "") (Or.inl (wd40 hw)) Via.refl e103 F1 (hb hby d15_17) (q := 20) rfl ?_
  intro T104 X104 e104
  refine Go.priv X104 hx hZ hown (wd83 hw) (wd84 hw) (wd86 hw) (wd85 hw) (wd7 hw) (wd87 hw) (by decide) (cad3_0 l Z a0 hw o x de ((mc + (1 : Int32))) h102 OW102 Eo g_o F0 F1 F102 Ex SD LD) e104 Eo (by rw [hml]; rfl) (hb hby d15_20) (argsL := [(.ref x), (.ref de), (.int 0)]) (rest := []) (lenOf pd4 rfl) rfl rfl (W := 0) (Nat.le_refl _) (by decide) ?_
  intro v105 T105 L105 X105 hQ105
  obtain ⟨h105, e105⟩ : ∃ z, T105.heap = z := ⟨_, rfl⟩
  rw [e105] at hQ105
  obtain ⟨d_105, kd_105, rfl, N105q, K105, fr105_d, P105_0, P105_1, P105_2, P105_3, P105_4⟩ := hQ105
  have N105 := Fr.app N102 N105q
  have ne_o_d_105 : o ≠ d_105 := ne_new Eo.lt fr105_d
  have ne_x_d_105 : x ≠ d_105 := ne_new Ex.lt fr105_d
  have g_d_105 : Z.heap.size ≤ d_105 := Nat.le_trans OW102.1 fr105_d
  have z_d_105 : h0.size ≤ d_105 := Nat.le_trans KP.1 fr105_d
  replace Eo := Eo.keep K105
  replace Ex := Ex.keep K105
  have OK105 := ext_keep OW102 K105 (allS g_o all0)
  replace KP := KP.trans K105 (allS (Or.inl (List.mem_of_getElem? (i := 0) rfl)) all0)
  refine Go.iconst X105 hx (hb hby d15_23) (r := (1 : Int32)) rfl (q := 24) rfl ?_
  exact Go.retI X105 hx hret hlk (by simp) rfl (hb hby d15_24) e105 (by decide) (by decide) ⟨d_105, kd_105, rfl, N105, KP, z_d_105, P105_0, P105_1, P105_2, P105_3, P105_4⟩
def Q_cad3_1 (Z : State) (o x d : Addr) (mc : Int32) (y0 : Addr) (kd : ClassId) (h0 : Heap) (vR : Option Value) (hR : Heap) (LR : List Loc) : Prop := vR = none ∧ Fr Z.heap.size LR ∧ Keep h0 hR [o, d] ∧ Fld Z hR o xS0 "elementData" xS3 (.ref d) ∧ Fld Z hR o xS0 "size" "I" (.int 2) ∧ Fld Z hR o xS5 "modCount" "I" (.int mc) ∧ Arv Z hR d kd (.object xS2) (10 : Int32) [(.ref y0), (.ref x), .null, .null, .null, .null, .null, .null, .null, .null] .null
theorem cad3_1 (l : Launch) (Z : State) (a0 : Array Value) (hw : ∀ d ∈ tables_1, d.before a0 Z = true) (o x d : Addr) (mc : Int32) (y0 : Addr) (kd : ClassId) (h0 : Heap) (O0 : Ext Z.heap h0) (Eo : Exa Z h0 o xS0) (g_o : Z.heap.size ≤ o) (F0 : Fld Z h0 o xS0 "elementData" xS3 (.ref d)) (F1 : Fld Z h0 o xS0 "size" "I" (.int 1)) (F2 : Fld Z h0 o xS5 "modCount" "I" (.int mc)) (F3 : Arv Z h0 d kd (.object xS2) (10 : Int32) [(.ref y0), .null, .null, .null, .null, .null, .null, .null, .null, .null] .null) (Ex : Exa Z h0 x "[B") (g_d : Z.heap.size ≤ d) (n_o_d : o ≠ d) (ov : Ovr Z kd xS2) :
    Ctr l Z h0 (⟨xS0, "add", "(Ljava/lang/Object;[Ljava/lang/Object;I)V"⟩ : MethodName) k16 4 none [] ({ frames := 0, cells := 0, slots := 0, locals := 0 } : Room) #[(.ref o), (.ref x), (.ref d), (.int 1)] (Q_cad3_1 Z o x d mc y0 kd h0) := by
  refine enter (plainFor_of_name pn2) ?_
  intro pp ee ss mm below meth cc s₁ hx hby hml hZ hown hnm hret hlk X0 e0 hs0
  replace hown : ss.vm.findClass xS0 = some mm.cls := hown
  refine Go.cast (congrArg s₁.setTop (ef_cad3_1 mm o x d)) ?_
  have N0 := Fr.nil Z.heap.size
  have KP := Keep.refl h0 [o, d]
  show Go pp ee below _ (s₁.setTop (mkF mm 0 #[.val (.ref o), .val (.ref x), .val (.ref d), .val (.int 1)] []))
  refine Go.iloadN X0 hx (hb hby d16_0) rfl (q := 1) rfl ?_
  refine Go.aloadN X0 hx (hb hby d16_1) rfl rfl (q := 2) rfl ?_
  refine Go.alen X0 hx hZ e0 F3 (hb hby d16_2) ?_
  refine Go.icmpYes X0 hx (hb hby d16_3) (by decide) (q := 11) (by decide) (by decide) ?_
  refine Go.aloadN X0 hx (hb hby d16_11) rfl rfl (q := 12) rfl ?_
  refine Go.iloadN X0 hx (hb hby d16_12) rfl (q := 13) rfl ?_
  refine Go.aloadN X0 hx (hb hby d16_13) rfl rfl (q := 14) rfl ?_
  refine Go.rst X0 hx hZ e0 F3 rfl (Sto.ofArv F3 ov (Ins.of_exa Ex (wd103 hw))) rfl ⟨by decide, by decide⟩ (i := 1) rfl (Nat.le_of_ble_eq_true rfl) (hb hby d16_14) ?_
  intro T101 h101 X101 e101 W101 V101
  replace V101 : Arv Z h101 d kd (.object xS2) (10 : Int32) [(.ref y0), (.ref x), .null, .null, .null, .null, .null, .null, .null, .null] .null := V101
  have N101 := Fr.snoc X101 N0 g_d
  replace Eo := Eo.wr W101
  replace F0 := F0.other W101 (Or.inl n_o_d)
  replace F1 := F1.other W101 (Or.inl n_o_d)
  replace F2 := F2.other W101 (Or.inl n_o_d)
  replace Ex := Ex.wr W101
  have OW101 := ext_wr O0 W101 g_d
  replace KP := KP.wr W101 (Or.inl (List.mem_of_getElem? (i := 1) rfl))
  refine Go.aloadN X101 hx (hb hby d16_15) rfl rfl (q := 16) rfl ?_
  refine Go.iloadN X101 hx (hb hby d16_16) rfl (q := 17) rfl ?_
  refine Go.iconst X101 hx (hb hby d16_17) (r := (1 : Int32)) rfl (q := 18) rfl ?_
  refine Go.iadd X101 hx (hb hby d16_18) (r := (2 : Int32)) rfl (q := 19) rfl ?_
  refine Go.putF X101 hx hZ hown (host := "") (Or.inl (wd40 hw)) Via.refl e101 F1 Eo (Or.inl (wd41 hw)) (wd6 hw) (ty := .int) (by decide) rfl rfl (hb hby d16_19) (q := 22) rfl ?_
  intro T102 h102 X102 e102 W102 F102
  have N102 := Fr.snoc X102 N101 g_o
  replace Eo := Eo.wr W102
  replace F0 := F0.other W102 (Or.inr (slot_ne (Or.inl (wd30 hw)) (Or.inl (wd41 hw)) (by decide) (t := (.array (.object xS2))) (t' := .int) (by decide) (by decide)))
  replace F2 := F2.other W102 (Or.inr (slot_ne (Or.inl (wd27 hw)) (Or.inl (wd41 hw)) (by decide) (t := .int) (t' := .int) (by decide) (by decide)))
  replace Ex := Ex.wr W102
  replace V101 := V101.other W102 (Ne.symm n_o_d)
  have OW102 := ext_wr OW101 W102 g_o
  replace KP := KP.wr W102 (Or.inl (List.mem_of_getElem? (i := 0) rfl))
  exact Go.retV X102 hx hret hlk (hb hby d16_22) e102 (by decide) (by decide) ⟨rfl, N102, KP, F0, F102, F2, V101⟩
def Q_cadd_1 (Z : State) (o x d : Addr) (mc : Int32) (y0 : Addr) (kd : ClassId) (h0 : Heap) (vR : Option Value) (hR : Heap) (LR : List Loc) : Prop := vR = some (.int 1) ∧ Fr Z.heap.size LR ∧ Keep h0 hR [o, d] ∧ Fld Z hR o xS0 "elementData" xS3 (.ref d) ∧ Fld Z hR o xS0 "size" "I" (.int 2) ∧ Fld Z hR o xS5 "modCount" "I" (.int (mc + (1 : Int32))) ∧ Arv Z hR d kd (.object xS2) (10 : Int32) [(.ref y0), (.ref x), .null, .null, .null, .null, .null, .null, .null, .null] .null
theorem cadd_1 (l : Launch) (Z : State) (a0 : Array Value) (hw : ∀ d ∈ tables_1, d.before a0 Z = true) (o x d : Addr) (mc : Int32) (y0 : Addr) (kd : ClassId) (h0 : Heap) (O0 : Ext Z.heap h0) (Eo : Exa Z h0 o xS0) (g_o : Z.heap.size ≤ o) (F0 : Fld Z h0 o xS0 "elementData" xS3 (.ref d)) (F1 : Fld Z h0 o xS0 "size" "I" (.int 1)) (F2 : Fld Z h0 o xS5 "modCount" "I" (.int mc)) (F3 : Arv Z h0 d kd (.object xS2) (10 : Int32) [(.ref y0), .null, .null, .null, .null, .null, .null, .null, .null, .null] .null) (Ex : Exa Z h0 x "[B") (g_d : Z.heap.size ≤ d) (n_o_d : o ≠ d) (ov : Ovr Z kd xS2) :
    Ctr l Z h0 (⟨xS0, "add", "(Ljava/lang/Object;)Z"⟩ : MethodName) k15 2 (some .boolean) [] ({ frames := 1, cells := 0, slots := 0, locals := 15 } : Room) #[(.ref o), (.ref x)] (Q_cadd_1 Z o x d mc y0 kd h0) := by
  refine enter (plainFor_of_name pn2) ?_
  intro pp ee ss mm below meth cc s₁ hx hby hml hZ hown hnm hret hlk X0 e0 hs0
  replace hown : ss.vm.findClass xS0 = some mm.cls := hown
  refine Go.cast (congrArg s₁.setTop (ef_cadd_1 mm o x)) ?_
  have N0 := Fr.nil Z.heap.size
  have KP := Keep.refl h0 [o, d]
  show Go pp ee below _ (s₁.setTop (mkF mm 0 #[.val (.ref o), .val (.ref x)] []))
  refine Go.aloadN X0 hx (hb hby d15_0) rfl rfl (q := 1) rfl ?_
  refine Go.dup X0 hx (hb hby d15_1) rfl (q := 2) rfl ?_
  refine Go.getF X0 hx hZ hown (host := "") (Or.inl (wd81 hw)) (Via.of (wd82 hw)) e0 F2 (hb hby d15_2) (q := 5) rfl ?_
  intro T101 X101 e101
  refine Go.iconst X101 hx (hb hby d15_5) (r := (1 : Int32)) rfl (q := 6) rfl ?_
  refine Go.iadd X101 hx (hb hby d15_6) rfl (q := 7) rfl ?_
  refine Go.putF X101 hx hZ hown (host := "") (Or.inl (wd81 hw)) (Via.of (wd82 hw)) e101 F2 Eo (Or.inl (wd27 hw)) (wd6 hw) (ty := .int) (by decide) rfl rfl (hb hby d15_7) (q := 10) rfl ?_
  intro T102 h102 X102 e102 W102 F102
  have N102 := Fr.snoc X102 N0 g_o
  replace Eo := Eo.wr W102
  replace F0 := F0.other W102 (Or.inr (slot_ne (Or.inl (wd30 hw)) (Or.inl (wd27 hw)) (by decide) (t := (.array (.object xS2))) (t' := .int) (by decide) (by decide)))
  replace F1 := F1.other W102 (Or.inr (slot_ne (Or.inl (wd41 hw)) (Or.inl (wd27 hw)) (by decide) (t := .int) (t' := .int) (by decide) (by decide)))
  replace F3 := F3.other W102 (Ne.symm n_o_d)
  replace Ex := Ex.wr W102
  have OW102 := ext_wr O0 W102 g_o
  replace KP := KP.wr W102 (Or.inl (List.mem_of_getElem? (i := 0) rfl))
  refine Go.aloadN X102 hx (hb hby d15_10) rfl rfl (q := 11) rfl ?_
  refine Go.aloadN X102 hx (hb hby d15_11) rfl rfl (q := 12) rfl ?_
  refine Go.aloadN X102 hx (hb hby d15_12) rfl rfl (q := 13) rfl ?_
  refine Go.getF X102 hx hZ hown (host := "") (Or.inl (wd29 hw)) Via.refl e102 F0 (hb hby d15_13) (q := 16) rfl ?_
  intro T103 X103 e103
  refine Go.aloadN X103 hx (hb hby d15_16) rfl rfl (q := 17) rfl ?_
  refine Go.getF X103 hx hZ hown (host := "") (Or.inl (wd40 hw)) Via.refl e103 F1 (hb hby d15_17) (q := 20) rfl ?_
  intro T104 X104 e104
  refine Go.priv X104 hx hZ hown (wd83 hw) (wd84 hw) (wd86 hw) (wd85 hw) (wd7 hw) (wd87 hw) (by decide) (cad3_1 l Z a0 hw o x d ((mc + (1 : Int32))) y0 (kd) h102 OW102 Eo g_o F0 F1 F102 F3 Ex g_d n_o_d ov) e104 Eo (by rw [hml]; rfl) (hb hby d15_20) (argsL := [(.ref x), (.ref d), (.int 1)]) (rest := []) (lenOf pd4 rfl) rfl rfl (W := 0) (Nat.le_refl _) (by decide) ?_
  intro v105 T105 L105 X105 hQ105
  obtain ⟨h105, e105⟩ : ∃ z, T105.heap = z := ⟨_, rfl⟩
  rw [e105] at hQ105
  obtain ⟨rfl, N105q, K105, P105_0, P105_1, P105_2, P105_3⟩ := hQ105
  have N105 := Fr.app N102 N105q
  replace Eo := Eo.keep K105
  replace Ex := Ex.keep K105
  have OK105 := ext_keep OW102 K105 (allS g_o (allS g_d all0))
  replace KP := KP.trans K105 (allS (Or.inl (List.mem_of_getElem? (i := 0) rfl)) (allS (Or.inl (List.mem_of_getElem? (i := 1) rfl)) all0))
  refine Go.iconst X105 hx (hb hby d15_23) (r := (1 : Int32)) rfl (q := 24) rfl ?_
  exact Go.retI X105 hx hret hlk (by simp) rfl (hb hby d15_24) e105 (by decide) (by decide) ⟨rfl, N105, KP, P105_0, P105_1, P105_2, P105_3⟩
def Q_cad3_2 (Z : State) (o x d : Addr) (mc : Int32) (y0 y1 : Addr) (kd : ClassId) (h0 : Heap) (vR : Option Value) (hR : Heap) (LR : List Loc) : Prop := vR = none ∧ Fr Z.heap.size LR ∧ Keep h0 hR [o, d] ∧ Fld Z hR o xS0 "elementData" xS3 (.ref d) ∧ Fld Z hR o xS0 "size" "I" (.int 3) ∧ Fld Z hR o xS5 "modCount" "I" (.int mc) ∧ Arv Z hR d kd (.object xS2) (10 : Int32) [(.ref y0), (.ref y1), (.ref x), .null, .null, .null, .null, .null, .null, .null] .null
theorem cad3_2 (l : Launch) (Z : State) (a0 : Array Value) (hw : ∀ d ∈ tables_1, d.before a0 Z = true) (o x d : Addr) (mc : Int32) (y0 y1 : Addr) (kd : ClassId) (h0 : Heap) (O0 : Ext Z.heap h0) (Eo : Exa Z h0 o xS0) (g_o : Z.heap.size ≤ o) (F0 : Fld Z h0 o xS0 "elementData" xS3 (.ref d)) (F1 : Fld Z h0 o xS0 "size" "I" (.int 2)) (F2 : Fld Z h0 o xS5 "modCount" "I" (.int mc)) (F3 : Arv Z h0 d kd (.object xS2) (10 : Int32) [(.ref y0), (.ref y1), .null, .null, .null, .null, .null, .null, .null, .null] .null) (Ex : Exa Z h0 x "[B") (g_d : Z.heap.size ≤ d) (n_o_d : o ≠ d) (ov : Ovr Z kd xS2) :
    Ctr l Z h0 (⟨xS0, "add", "(Ljava/lang/Object;[Ljava/lang/Object;I)V"⟩ : MethodName) k16 4 none [] ({ frames := 0, cells := 0, slots := 0, locals := 0 } : Room) #[(.ref o), (.ref x), (.ref d), (.int 2)] (Q_cad3_2 Z o x d mc y0 y1 kd h0) := by
  refine enter (plainFor_of_name pn2) ?_
  intro pp ee ss mm below meth cc s₁ hx hby hml hZ hown hnm hret hlk X0 e0 hs0
  replace hown : ss.vm.findClass xS0 = some mm.cls := hown
  refine Go.cast (congrArg s₁.setTop (ef_cad3_2 mm o x d)) ?_
  have N0 := Fr.nil Z.heap.size
  have KP := Keep.refl h0 [o, d]
  show Go pp ee below _ (s₁.setTop (mkF mm 0 #[.val (.ref o), .val (.ref x), .val (.ref d), .val (.int 2)] []))
  refine Go.iloadN X0 hx (hb hby d16_0) rfl (q := 1) rfl ?_
  refine Go.aloadN X0 hx (hb hby d16_1) rfl rfl (q := 2) rfl ?_
  refine Go.alen X0 hx hZ e0 F3 (hb hby d16_2) ?_
  refine Go.icmpYes X0 hx (hb hby d16_3) (by decide) (q := 11) (by decide) (by decide) ?_
  refine Go.aloadN X0 hx (hb hby d16_11) rfl rfl (q := 12) rfl ?_
  refine Go.iloadN X0 hx (hb hby d16_12) rfl (q := 13) rfl ?_
  refine Go.aloadN X0 hx (hb hby d16_13) rfl rfl (q := 14) rfl ?_
  refine Go.rst X0 hx hZ e0 F3 rfl (Sto.ofArv F3 ov (Ins.of_exa Ex (wd103 hw))) rfl ⟨by decide, by decide⟩ (i := 2) rfl (Nat.le_of_ble_eq_true rfl) (hb hby d16_14) ?_
  intro T101 h101 X101 e101 W101 V101
  replace V101 : Arv Z h101 d kd (.object xS2) (10 : Int32) [(.ref y0), (.ref y1), (.ref x), .null, .null, .null, .null, .null, .null, .null] .null := V101
  have N101 := Fr.snoc X101 N0 g_d
  replace Eo := Eo.wr W101
  replace F0 := F0.other W101 (Or.inl n_o_d)
  replace F1 := F1.other W101 (Or.inl n_o_d)
  replace F2 := F2.other W101 (Or.inl n_o_d)
  replace Ex := Ex.wr W101
  have OW101 := ext_wr O0 W101 g_d
  replace KP := KP.wr W101 (Or.inl (List.mem_of_getElem? (i := 1) rfl))
  refine Go.aloadN X101 hx (hb hby d16_15) rfl rfl (q := 16) rfl ?_
  refine Go.iloadN X101 hx (hb hby d16_16) rfl (q := 17) rfl ?_
  refine Go.iconst X101 hx (hb hby d16_17) (r := (1 : Int32)) rfl (q := 18) rfl ?_
  refine Go.iadd X101 hx (hb hby d16_18) (r := (3 : Int32)) rfl (q := 19) rfl ?_
  refine Go.putF X101 hx hZ hown (host := "") (Or.inl (wd40 hw)) Via.refl e101 F1 Eo (Or.inl (wd41 hw)) (wd6 hw) (ty := .int) (by decide) rfl rfl (hb hby d16_19) (q := 22) rfl ?_
  intro T102 h102 X102 e102 W102 F102
  have N102 := Fr.snoc X102 N101 g_o
  replace Eo := Eo.wr W102
  replace F0 := F0.other W102 (Or.inr (slot_ne (Or.inl (wd30 hw)) (Or.inl (wd41 hw)) (by decide) (t := (.array (.object xS2))) (t' := .int) (by decide) (by decide)))
  replace F2 := F2.other W102 (Or.inr (slot_ne (Or.inl (wd27 hw)) (Or.inl (wd41 hw)) (by decide) (t := .int) (t' := .int) (by decide) (by decide)))
  replace Ex := Ex.wr W102
  replace V101 := V101.other W102 (Ne.symm n_o_d)
  have OW102 := ext_wr OW101 W102 g_o
  replace KP := KP.wr W102 (Or.inl (List.mem_of_getElem? (i := 0) rfl))
  exact Go.retV X102 hx hret hlk (hb hby d16_22) e102 (by decide) (by decide) ⟨rfl, N102, KP, F0, F102, F2, V101⟩
def Q_cadd_2 (Z : State) (o x d : Addr) (mc : Int32) (y0 y1 : Addr) (kd : ClassId) (h0 : Heap) (vR : Option Value) (hR : Heap) (LR : List Loc) : Prop := vR = some (.int 1) ∧ Fr Z.heap.size LR ∧ Keep h0 hR [o, d] ∧ Fld Z hR o xS0 "elementData" xS3 (.ref d) ∧ Fld Z hR o xS0 "size" "I" (.int 3) ∧ Fld Z hR o xS5 "modCount" "I" (.int (mc + (1 : Int32))) ∧ Arv Z hR d kd (.object xS2) (10 : Int32) [(.ref y0), (.ref y1), (.ref x), .null, .null, .null, .null, .null, .null, .null] .null
theorem cadd_2 (l : Launch) (Z : State) (a0 : Array Value) (hw : ∀ d ∈ tables_1, d.before a0 Z = true) (o x d : Addr) (mc : Int32) (y0 y1 : Addr) (kd : ClassId) (h0 : Heap) (O0 : Ext Z.heap h0) (Eo : Exa Z h0 o xS0) (g_o : Z.heap.size ≤ o) (F0 : Fld Z h0 o xS0 "elementData" xS3 (.ref d)) (F1 : Fld Z h0 o xS0 "size" "I" (.int 2)) (F2 : Fld Z h0 o xS5 "modCount" "I" (.int mc)) (F3 : Arv Z h0 d kd (.object xS2) (10 : Int32) [(.ref y0), (.ref y1), .null, .null, .null, .null, .null, .null, .null, .null] .null) (Ex : Exa Z h0 x "[B") (g_d : Z.heap.size ≤ d) (n_o_d : o ≠ d) (ov : Ovr Z kd xS2) :
    Ctr l Z h0 (⟨xS0, "add", "(Ljava/lang/Object;)Z"⟩ : MethodName) k15 2 (some .boolean) [] ({ frames := 1, cells := 0, slots := 0, locals := 15 } : Room) #[(.ref o), (.ref x)] (Q_cadd_2 Z o x d mc y0 y1 kd h0) := by
  refine enter (plainFor_of_name pn2) ?_
  intro pp ee ss mm below meth cc s₁ hx hby hml hZ hown hnm hret hlk X0 e0 hs0
  replace hown : ss.vm.findClass xS0 = some mm.cls := hown
  refine Go.cast (congrArg s₁.setTop (ef_cadd_2 mm o x)) ?_
  have N0 := Fr.nil Z.heap.size
  have KP := Keep.refl h0 [o, d]
  show Go pp ee below _ (s₁.setTop (mkF mm 0 #[.val (.ref o), .val (.ref x)] []))
  refine Go.aloadN X0 hx (hb hby d15_0) rfl rfl (q := 1) rfl ?_
  refine Go.dup X0 hx (hb hby d15_1) rfl (q := 2) rfl ?_
  refine Go.getF X0 hx hZ hown (host := "") (Or.inl (wd81 hw)) (Via.of (wd82 hw)) e0 F2 (hb hby d15_2) (q := 5) rfl ?_
  intro T101 X101 e101
  refine Go.iconst X101 hx (hb hby d15_5) (r := (1 : Int32)) rfl (q := 6) rfl ?_
  refine Go.iadd X101 hx (hb hby d15_6) rfl (q := 7) rfl ?_
  refine Go.putF X101 hx hZ hown (host := "") (Or.inl (wd81 hw)) (Via.of (wd82 hw)) e101 F2 Eo (Or.inl (wd27 hw)) (wd6 hw) (ty := .int) (by decide) rfl rfl (hb hby d15_7) (q := 10) rfl ?_
  intro T102 h102 X102 e102 W102 F102
  have N102 := Fr.snoc X102 N0 g_o
  replace Eo := Eo.wr W102
  replace F0 := F0.other W102 (Or.inr (slot_ne (Or.inl (wd30 hw)) (Or.inl (wd27 hw)) (by decide) (t := (.array (.object xS2))) (t' := .int) (by decide) (by decide)))
  replace F1 := F1.other W102 (Or.inr (slot_ne (Or.inl (wd41 hw)) (Or.inl (wd27 hw)) (by decide) (t := .int) (t' := .int) (by decide) (by decide)))
  replace F3 := F3.other W102 (Ne.symm n_o_d)
  replace Ex := Ex.wr W102
  have OW102 := ext_wr O0 W102 g_o
  replace KP := KP.wr W102 (Or.inl (List.mem_of_getElem? (i := 0) rfl))
  refine Go.aloadN X102 hx (hb hby d15_10) rfl rfl (q := 11) rfl ?_
  refine Go.aloadN X102 hx (hb hby d15_11) rfl rfl (q := 12) rfl ?_
  refine Go.aloadN X102 hx (hb hby d15_12) rfl rfl (q := 13) rfl ?_
  refine Go.getF X102 hx hZ hown (host := "") (Or.inl (wd29 hw)) Via.refl e102 F0 (hb hby d15_13) (q := 16) rfl ?_
  intro T103 X103 e103
  refine Go.aloadN X103 hx (hb hby d15_16) rfl rfl (q := 17) rfl ?_
  refine Go.getF X103 hx hZ hown (host := "") (Or.inl (wd40 hw)) Via.refl e103 F1 (hb hby d15_17) (q := 20) rfl ?_
  intro T104 X104 e104
  refine Go.priv X104 hx hZ hown (wd83 hw) (wd84 hw) (wd86 hw) (wd85 hw) (wd7 hw) (wd87 hw) (by decide) (cad3_2 l Z a0 hw o x d ((mc + (1 : Int32))) y0 y1 (kd) h102 OW102 Eo g_o F0 F1 F102 F3 Ex g_d n_o_d ov) e104 Eo (by rw [hml]; rfl) (hb hby d15_20) (argsL := [(.ref x), (.ref d), (.int 2)]) (rest := []) (lenOf pd4 rfl) rfl rfl (W := 0) (Nat.le_refl _) (by decide) ?_
  intro v105 T105 L105 X105 hQ105
  obtain ⟨h105, e105⟩ : ∃ z, T105.heap = z := ⟨_, rfl⟩
  rw [e105] at hQ105
  obtain ⟨rfl, N105q, K105, P105_0, P105_1, P105_2, P105_3⟩ := hQ105
  have N105 := Fr.app N102 N105q
  replace Eo := Eo.keep K105
  replace Ex := Ex.keep K105
  have OK105 := ext_keep OW102 K105 (allS g_o (allS g_d all0))
  replace KP := KP.trans K105 (allS (Or.inl (List.mem_of_getElem? (i := 0) rfl)) (allS (Or.inl (List.mem_of_getElem? (i := 1) rfl)) all0))
  refine Go.iconst X105 hx (hb hby d15_23) (r := (1 : Int32)) rfl (q := 24) rfl ?_
  exact Go.retI X105 hx hret hlk (by simp) rfl (hb hby d15_24) e105 (by decide) (by decide) ⟨rfl, N105, KP, P105_0, P105_1, P105_2, P105_3⟩
def Q_cad3_3 (Z : State) (o x d : Addr) (mc : Int32) (y0 y1 y2 : Addr) (kd : ClassId) (h0 : Heap) (vR : Option Value) (hR : Heap) (LR : List Loc) : Prop := vR = none ∧ Fr Z.heap.size LR ∧ Keep h0 hR [o, d] ∧ Fld Z hR o xS0 "elementData" xS3 (.ref d) ∧ Fld Z hR o xS0 "size" "I" (.int 4) ∧ Fld Z hR o xS5 "modCount" "I" (.int mc) ∧ Arv Z hR d kd (.object xS2) (10 : Int32) [(.ref y0), (.ref y1), (.ref y2), (.ref x), .null, .null, .null, .null, .null, .null] .null
theorem cad3_3 (l : Launch) (Z : State) (a0 : Array Value) (hw : ∀ d ∈ tables_1, d.before a0 Z = true) (o x d : Addr) (mc : Int32) (y0 y1 y2 : Addr) (kd : ClassId) (h0 : Heap) (O0 : Ext Z.heap h0) (Eo : Exa Z h0 o xS0) (g_o : Z.heap.size ≤ o) (F0 : Fld Z h0 o xS0 "elementData" xS3 (.ref d)) (F1 : Fld Z h0 o xS0 "size" "I" (.int 3)) (F2 : Fld Z h0 o xS5 "modCount" "I" (.int mc)) (F3 : Arv Z h0 d kd (.object xS2) (10 : Int32) [(.ref y0), (.ref y1), (.ref y2), .null, .null, .null, .null, .null, .null, .null] .null) (Ex : Exa Z h0 x "[B") (g_d : Z.heap.size ≤ d) (n_o_d : o ≠ d) (ov : Ovr Z kd xS2) :
    Ctr l Z h0 (⟨xS0, "add", "(Ljava/lang/Object;[Ljava/lang/Object;I)V"⟩ : MethodName) k16 4 none [] ({ frames := 0, cells := 0, slots := 0, locals := 0 } : Room) #[(.ref o), (.ref x), (.ref d), (.int 3)] (Q_cad3_3 Z o x d mc y0 y1 y2 kd h0) := by
  refine enter (plainFor_of_name pn2) ?_
  intro pp ee ss mm below meth cc s₁ hx hby hml hZ hown hnm hret hlk X0 e0 hs0
  replace hown : ss.vm.findClass xS0 = some mm.cls := hown
  refine Go.cast (congrArg s₁.setTop (ef_cad3_3 mm o x d)) ?_
  have N0 := Fr.nil Z.heap.size
  have KP := Keep.refl h0 [o, d]
  show Go pp ee below _ (s₁.setTop (mkF mm 0 #[.val (.ref o), .val (.ref x), .val (.ref d), .val (.int 3)] []))
  refine Go.iloadN X0 hx (hb hby d16_0) rfl (q := 1) rfl ?_
  refine Go.aloadN X0 hx (hb hby d16_1) rfl rfl (q := 2) rfl ?_
  refine Go.alen X0 hx hZ e0 F3 (hb hby d16_2) ?_
  refine Go.icmpYes X0 hx (hb hby d16_3) (by decide) (q := 11) (by decide) (by decide) ?_
  refine Go.aloadN X0 hx (hb hby d16_11) rfl rfl (q := 12) rfl ?_
  refine Go.iloadN X0 hx (hb hby d16_12) rfl (q := 13) rfl ?_
  refine Go.aloadN X0 hx (hb hby d16_13) rfl rfl (q := 14) rfl ?_
  refine Go.rst X0 hx hZ e0 F3 rfl (Sto.ofArv F3 ov (Ins.of_exa Ex (wd103 hw))) rfl ⟨by decide, by decide⟩ (i := 3) rfl (Nat.le_of_ble_eq_true rfl) (hb hby d16_14) ?_
  intro T101 h101 X101 e101 W101 V101
  replace V101 : Arv Z h101 d kd (.object xS2) (10 : Int32) [(.ref y0), (.ref y1), (.ref y2), (.ref x), .null, .null, .null, .null, .null, .null] .null := V101
  have N101 := Fr.snoc X101 N0 g_d
  replace Eo := Eo.wr W101
  replace F0 := F0.other W101 (Or.inl n_o_d)
  replace F1 := F1.other W101 (Or.inl n_o_d)
  replace F2 := F2.other W101 (Or.inl n_o_d)
  replace Ex := Ex.wr W101
  have OW101 := ext_wr O0 W101 g_d
  replace KP := KP.wr W101 (Or.inl (List.mem_of_getElem? (i := 1) rfl))
  refine Go.aloadN X101 hx (hb hby d16_15) rfl rfl (q := 16) rfl ?_
  refine Go.iloadN X101 hx (hb hby d16_16) rfl (q := 17) rfl ?_
  refine Go.iconst X101 hx (hb hby d16_17) (r := (1 : Int32)) rfl (q := 18) rfl ?_
  refine Go.iadd X101 hx (hb hby d16_18) (r := (4 : Int32)) rfl (q := 19) rfl ?_
  refine Go.putF X101 hx hZ hown (host := "") (Or.inl (wd40 hw)) Via.refl e101 F1 Eo (Or.inl (wd41 hw)) (wd6 hw) (ty := .int) (by decide) rfl rfl (hb hby d16_19) (q := 22) rfl ?_
  intro T102 h102 X102 e102 W102 F102
  have N102 := Fr.snoc X102 N101 g_o
  replace Eo := Eo.wr W102
  replace F0 := F0.other W102 (Or.inr (slot_ne (Or.inl (wd30 hw)) (Or.inl (wd41 hw)) (by decide) (t := (.array (.object xS2))) (t' := .int) (by decide) (by decide)))
  replace F2 := F2.other W102 (Or.inr (slot_ne (Or.inl (wd27 hw)) (Or.inl (wd41 hw)) (by decide) (t := .int) (t' := .int) (by decide) (by decide)))
  replace Ex := Ex.wr W102
  replace V101 := V101.other W102 (Ne.symm n_o_d)
  have OW102 := ext_wr OW101 W102 g_o
  replace KP := KP.wr W102 (Or.inl (List.mem_of_getElem? (i := 0) rfl))
  exact Go.retV X102 hx hret hlk (hb hby d16_22) e102 (by decide) (by decide) ⟨rfl, N102, KP, F0, F102, F2, V101⟩
def Q_cadd_3 (Z : State) (o x d : Addr) (mc : Int32) (y0 y1 y2 : Addr) (kd : ClassId) (h0 : Heap) (vR : Option Value) (hR : Heap) (LR : List Loc) : Prop := vR = some (.int 1) ∧ Fr Z.heap.size LR ∧ Keep h0 hR [o, d] ∧ Fld Z hR o xS0 "elementData" xS3 (.ref d) ∧ Fld Z hR o xS0 "size" "I" (.int 4) ∧ Fld Z hR o xS5 "modCount" "I" (.int (mc + (1 : Int32))) ∧ Arv Z hR d kd (.object xS2) (10 : Int32) [(.ref y0), (.ref y1), (.ref y2), (.ref x), .null, .null, .null, .null, .null, .null] .null
theorem cadd_3 (l : Launch) (Z : State) (a0 : Array Value) (hw : ∀ d ∈ tables_1, d.before a0 Z = true) (o x d : Addr) (mc : Int32) (y0 y1 y2 : Addr) (kd : ClassId) (h0 : Heap) (O0 : Ext Z.heap h0) (Eo : Exa Z h0 o xS0) (g_o : Z.heap.size ≤ o) (F0 : Fld Z h0 o xS0 "elementData" xS3 (.ref d)) (F1 : Fld Z h0 o xS0 "size" "I" (.int 3)) (F2 : Fld Z h0 o xS5 "modCount" "I" (.int mc)) (F3 : Arv Z h0 d kd (.object xS2) (10 : Int32) [(.ref y0), (.ref y1), (.ref y2), .null, .null, .null, .null, .null, .null, .null] .null) (Ex : Exa Z h0 x "[B") (g_d : Z.heap.size ≤ d) (n_o_d : o ≠ d) (ov : Ovr Z kd xS2) :
    Ctr l Z h0 (⟨xS0, "add", "(Ljava/lang/Object;)Z"⟩ : MethodName) k15 2 (some .boolean) [] ({ frames := 1, cells := 0, slots := 0, locals := 15 } : Room) #[(.ref o), (.ref x)] (Q_cadd_3 Z o x d mc y0 y1 y2 kd h0) := by
  refine enter (plainFor_of_name pn2) ?_
  intro pp ee ss mm below meth cc s₁ hx hby hml hZ hown hnm hret hlk X0 e0 hs0
  replace hown : ss.vm.findClass xS0 = some mm.cls := hown
  refine Go.cast (congrArg s₁.setTop (ef_cadd_3 mm o x)) ?_
  have N0 := Fr.nil Z.heap.size
  have KP := Keep.refl h0 [o, d]
  show Go pp ee below _ (s₁.setTop (mkF mm 0 #[.val (.ref o), .val (.ref x)] []))
  refine Go.aloadN X0 hx (hb hby d15_0) rfl rfl (q := 1) rfl ?_
  refine Go.dup X0 hx (hb hby d15_1) rfl (q := 2) rfl ?_
  refine Go.getF X0 hx hZ hown (host := "") (Or.inl (wd81 hw)) (Via.of (wd82 hw)) e0 F2 (hb hby d15_2) (q := 5) rfl ?_
  intro T101 X101 e101
  refine Go.iconst X101 hx (hb hby d15_5) (r := (1 : Int32)) rfl (q := 6) rfl ?_
  refine Go.iadd X101 hx (hb hby d15_6) rfl (q := 7) rfl ?_
  refine Go.putF X101 hx hZ hown (host := "") (Or.inl (wd81 hw)) (Via.of (wd82 hw)) e101 F2 Eo (Or.inl (wd27 hw)) (wd6 hw) (ty := .int) (by decide) rfl rfl (hb hby d15_7) (q := 10) rfl ?_
  intro T102 h102 X102 e102 W102 F102
  have N102 := Fr.snoc X102 N0 g_o
  replace Eo := Eo.wr W102
  replace F0 := F0.other W102 (Or.inr (slot_ne (Or.inl (wd30 hw)) (Or.inl (wd27 hw)) (by decide) (t := (.array (.object xS2))) (t' := .int) (by decide) (by decide)))
  replace F1 := F1.other W102 (Or.inr (slot_ne (Or.inl (wd41 hw)) (Or.inl (wd27 hw)) (by decide) (t := .int) (t' := .int) (by decide) (by decide)))
  replace F3 := F3.other W102 (Ne.symm n_o_d)
  replace Ex := Ex.wr W102
  have OW102 := ext_wr O0 W102 g_o
  replace KP := KP.wr W102 (Or.inl (List.mem_of_getElem? (i := 0) rfl))
  refine Go.aloadN X102 hx (hb hby d15_10) rfl rfl (q := 11) rfl ?_
  refine Go.aloadN X102 hx (hb hby d15_11) rfl rfl (q := 12) rfl ?_
  refine Go.aloadN X102 hx (hb hby d15_12) rfl rfl (q := 13) rfl ?_
  refine Go.getF X102 hx hZ hown (host := "") (Or.inl (wd29 hw)) Via.refl e102 F0 (hb hby d15_13) (q := 16) rfl ?_
  intro T103 X103 e103
  refine Go.aloadN X103 hx (hb hby d15_16) rfl rfl (q := 17) rfl ?_
  refine Go.getF X103 hx hZ hown (host := "") (Or.inl (wd40 hw)) Via.refl e103 F1 (hb hby d15_17) (q := 20) rfl ?_
  intro T104 X104 e104
  refine Go.priv X104 hx hZ hown (wd83 hw) (wd84 hw) (wd86 hw) (wd85 hw) (wd7 hw) (wd87 hw) (by decide) (cad3_3 l Z a0 hw o x d ((mc + (1 : Int32))) y0 y1 y2 (kd) h102 OW102 Eo g_o F0 F1 F102 F3 Ex g_d n_o_d ov) e104 Eo (by rw [hml]; rfl) (hb hby d15_20) (argsL := [(.ref x), (.ref d), (.int 3)]) (rest := []) (lenOf pd4 rfl) rfl rfl (W := 0) (Nat.le_refl _) (by decide) ?_
  intro v105 T105 L105 X105 hQ105
  obtain ⟨h105, e105⟩ : ∃ z, T105.heap = z := ⟨_, rfl⟩
  rw [e105] at hQ105
  obtain ⟨rfl, N105q, K105, P105_0, P105_1, P105_2, P105_3⟩ := hQ105
  have N105 := Fr.app N102 N105q
  replace Eo := Eo.keep K105
  replace Ex := Ex.keep K105
  have OK105 := ext_keep OW102 K105 (allS g_o (allS g_d all0))
  replace KP := KP.trans K105 (allS (Or.inl (List.mem_of_getElem? (i := 0) rfl)) (allS (Or.inl (List.mem_of_getElem? (i := 1) rfl)) all0))
  refine Go.iconst X105 hx (hb hby d15_23) (r := (1 : Int32)) rfl (q := 24) rfl ?_
  exact Go.retI X105 hx hret hlk (by simp) rfl (hb hby d15_24) e105 (by decide) (by decide) ⟨rfl, N105, KP, P105_0, P105_1, P105_2, P105_3⟩
def Q_csize (Z : State) (o : Addr) (nn : Int32) (h0 : Heap) (vR : Option Value) (hR : Heap) (LR : List Loc) : Prop := vR = some (.int nn) ∧ Fr Z.heap.size LR ∧ hR = h0
theorem csize (l : Launch) (Z : State) (a0 : Array Value) (hw : ∀ d ∈ tables_1, d.before a0 Z = true) (o : Addr) (nn : Int32) (h0 : Heap) (O0 : Ext Z.heap h0) (Fs : Fld Z h0 o xS0 "size" "I" (.int nn)) :
    Ctr l Z h0 (⟨xS0, "size", "()I"⟩ : MethodName) k6 1 (some .int) [] ({ frames := 0, cells := 0, slots := 0, locals := 0 } : Room) #[(.ref o)] (Q_csize Z o nn h0) := by
  refine enter (plainFor_of_name pn2) ?_
  intro pp ee ss mm below meth cc s₁ hx hby hml hZ hown hnm hret hlk X0 e0 hs0
  replace hown : ss.vm.findClass xS0 = some mm.cls := hown
  refine Go.cast (congrArg s₁.setTop (ef_csize mm o)) ?_
  have N0 := Fr.nil Z.heap.size
  show Go pp ee below _ (s₁.setTop (mkF mm 0 #[.val (.ref o)] []))
  refine Go.aloadN X0 hx (hb hby d6_0) rfl rfl (q := 1) rfl ?_
  refine Go.getF X0 hx hZ hown (host := "") (Or.inl (wd40 hw)) Via.refl e0 Fs (hb hby d6_1) (q := 4) rfl ?_
  intro T101 X101 e101
  exact Go.retI X101 hx hret hlk (Or.inl rfl) rfl (hb hby d6_4) e101 (by decide) (by decide) ⟨rfl, N0, rfl⟩
def Q_cpchk (Z : State) (i nn : Int32) (h0 : Heap) (vR : Option Value) (hR : Heap) (LR : List Loc) : Prop := vR = some (.int i) ∧ Fr Z.heap.size LR ∧ hR = h0
theorem cpchk (l : Launch) (Z : State) (a0 : Array Value) (hw : ∀ d ∈ tables_1, d.before a0 Z = true) (i nn : Int32) (h0 : Heap) (O0 : Ext Z.heap h0) (hi0 : ¬ (i < (0 : Int32))) (hi1 : i < nn) :
    Ctr l Z h0 (⟨"jdk/internal/util/Preconditions", "checkIndex", "(IILjava/util/function/BiFunction;)I"⟩ : MethodName) k24 3 (some .int) [] ({ frames := 0, cells := 0, slots := 0, locals := 0 } : Room) #[(.int i), (.int nn), .null] (Q_cpchk Z i nn h0) := by
  refine enter (plainFor_of_name pn3) ?_
  intro pp ee ss mm below meth cc s₁ hx hby hml hZ hown hnm hret hlk X0 e0 hs0
  replace hown : ss.vm.findClass "jdk/internal/util/Preconditions" = some mm.cls := hown
  refine Go.cast (congrArg s₁.setTop (ef_cpchk mm i nn)) ?_
  have N0 := Fr.nil Z.heap.size
  show Go pp ee below _ (s₁.setTop (mkF mm 0 #[.val (.int i), .val (.int nn), .val .null] []))
  refine Go.iloadN X0 hx (hb hby d24_0) rfl (q := 1) rfl ?_
  refine Go.ifNo X0 hx (hb hby d24_1) (Jvm.Free.XT.i0_lt_f hi0) (q := 4) rfl ?_
  refine Go.iloadN X0 hx (hb hby d24_4) rfl (q := 5) rfl ?_
  refine Go.iloadN X0 hx (hb hby d24_5) rfl (q := 6) rfl ?_
  refine Go.icmpYes X0 hx (hb hby d24_6) (Jvm.Free.XT.ii_lt_t hi1) (q := 16) (by decide) (by decide) ?_
  refine Go.iloadN X0 hx (hb hby d24_16) rfl (q := 17) rfl ?_
  exact Go.retI X0 hx hret hlk (Or.inl rfl) rfl (hb hby d24_17) e0 (by decide) (by decide) ⟨rfl, N0, rfl⟩
def Q_cochk (Z : State) (i nn : Int32) (h0 : Heap) (vR : Option Value) (hR : Heap) (LR : List Loc) : Prop := vR = some (.int i) ∧ Fr Z.heap.size LR ∧ hR = h0
theorem cochk (l : Launch) (Z : State) (a0 : Array Value) (hw : ∀ d ∈ tables_1, d.before a0 Z = true) (i nn : Int32) (h0 : Heap) (O0 : Ext Z.heap h0) (hi0 : ¬ (i < (0 : Int32))) (hi1 : i < nn) :
    Ctr l Z h0 (⟨"java/util/Objects", "checkIndex", "(II)I"⟩ : MethodName) k23 2 (some .int) [] ({ frames := 1, cells := 0, slots := 0, locals := 14 } : Room) #[(.int i), (.int nn)] (Q_cochk Z i nn h0) := by
  refine enter (plainFor_of_name pn4) ?_
  intro pp ee ss mm below meth cc s₁ hx hby hml hZ hown hnm hret hlk X0 e0 hs0
  replace hown : ss.vm.findClass "java/util/Objects" = some mm.cls := hown
  refine Go.cast (congrArg s₁.setTop (ef_cochk mm i nn)) ?_
  have N0 := Fr.nil Z.heap.size
  show Go pp ee below _ (s₁.setTop (mkF mm 0 #[.val (.int i), .val (.int nn)] []))
  refine Go.iloadN X0 hx (hb hby d23_0) rfl (q := 1) rfl ?_
  refine Go.iloadN X0 hx (hb hby d23_1) rfl (q := 2) rfl ?_
  refine Go.aconst_null X0 hx (hb hby d23_2) (q := 3) rfl ?_
  refine Go.callS X0 hx hZ hown (wd122 hw) (wd123 hw) (wd124 hw) (wd125 hw) (by decide) (cpchk l Z a0 hw i nn h0 O0 hi0 hi1) e0 (by rw [hml]; rfl) (hb hby d23_3) (argsL := [(.int i), (.int nn), .null]) (rest := []) (lenOf pd5 rfl) rfl rfl (W := 0) (Nat.le_refl _) (by decide) ?_
  intro v101 T101 L101 X101 hQ101
  obtain ⟨rfl, N101q, e101⟩ := hQ101
  have N101 := Fr.app N0 N101q
  exact Go.retI X101 hx hret hlk (Or.inl rfl) rfl (hb hby d23_6) e101 (by decide) (by decide) ⟨rfl, N101, rfl⟩
def Q_ceda (Z : State) (o : Addr) (i : Int32) (a d : Addr) (kd : ClassId) (us : List Value) (h0 : Heap) (vR : Option Value) (hR : Heap) (LR : List Loc) : Prop := vR = some (.ref a) ∧ Fr Z.heap.size LR ∧ hR = h0
theorem ceda (l : Launch) (Z : State) (a0 : Array Value) (hw : ∀ d ∈ tables_1, d.before a0 Z = true) (o : Addr) (i : Int32) (a d : Addr) (kd : ClassId) (us : List Value) (h0 : Heap) (O0 : Ext Z.heap h0) (Fe : Fld Z h0 o xS0 "elementData" xS3 (.ref d)) (V : Arv Z h0 d kd (.object xS2) (10 : Int32) us .null) (hi0 : ¬ (i < (0 : Int32))) (hi10 : i < (10 : Int32)) (hg : us.getD (i).toNatClampNeg .null = (.ref a)) :
    Ctr l Z h0 (⟨xS0, "elementData", "(I)Ljava/lang/Object;"⟩ : MethodName) k25 2 (some (.object xS2)) [] ({ frames := 0, cells := 0, slots := 0, locals := 0 } : Room) #[(.ref o), (.int i)] (Q_ceda Z o i a d kd us h0) := by
  refine enter (plainFor_of_name pn2) ?_
  intro pp ee ss mm below meth cc s₁ hx hby hml hZ hown hnm hret hlk X0 e0 hs0
  replace hown : ss.vm.findClass xS0 = some mm.cls := hown
  refine Go.cast (congrArg s₁.setTop (ef_ceda mm o i)) ?_
  have N0 := Fr.nil Z.heap.size
  show Go pp ee below _ (s₁.setTop (mkF mm 0 #[.val (.ref o), .val (.int i)] []))
  refine Go.aloadN X0 hx (hb hby d25_0) rfl rfl (q := 1) rfl ?_
  refine Go.getF X0 hx hZ hown (host := "") (Or.inl (wd29 hw)) Via.refl e0 Fe (hb hby d25_1) (q := 4) rfl ?_
  intro T101 X101 e101
  refine Go.iloadN X101 hx (hb hby d25_4) rfl (q := 5) rfl ?_
  refine Go.aal X101 hx hZ e101 V rfl ⟨hi0, hi10⟩ (v := (.ref a)) hg (hb hby d25_5) ?_
  exact Go.retA X101 hx hret hlk rfl rfl (hb hby d25_6) e101 (by decide) (by decide) ⟨rfl, N0, rfl⟩
def Q_cget (Z : State) (o : Addr) (i : Int32) (a : Addr) (nn : Int32) (d : Addr) (kd : ClassId) (us : List Value) (h0 : Heap) (vR : Option Value) (hR : Heap) (LR : List Loc) : Prop := vR = some (.ref a) ∧ Fr Z.heap.size LR ∧ hR = h0
theorem cget (l : Launch) (Z : State) (a0 : Array Value) (hw : ∀ d ∈ tables_1, d.before a0 Z = true) (o : Addr) (i : Int32) (a : Addr) (nn : Int32) (d : Addr) (kd : ClassId) (us : List Value) (h0 : Heap) (O0 : Ext Z.heap h0) (Eo : Exa Z h0 o xS0) (Fs : Fld Z h0 o xS0 "size" "I" (.int nn)) (Fe : Fld Z h0 o xS0 "elementData" xS3 (.ref d)) (V : Arv Z h0 d kd (.object xS2) (10 : Int32) us .null) (hi0 : ¬ (i < (0 : Int32))) (hi10 : i < (10 : Int32)) (hg : us.getD (i).toNatClampNeg .null = (.ref a)) (hi1 : i < nn) :
    Ctr l Z h0 (⟨xS0, "get", "(I)Ljava/lang/Object;"⟩ : MethodName) k22 2 (some (.object xS2)) [] ({ frames := 2, cells := 0, slots := 0, locals := 27 } : Room) #[(.ref o), (.int i)] (Q_cget Z o i a nn d kd us h0) := by
  refine enter (plainFor_of_name pn2) ?_
  intro pp ee ss mm below meth cc s₁ hx hby hml hZ hown hnm hret hlk X0 e0 hs0
  replace hown : ss.vm.findClass xS0 = some mm.cls := hown
  refine Go.cast (congrArg s₁.setTop (ef_cget mm o i)) ?_
  have N0 := Fr.nil Z.heap.size
  show Go pp ee below _ (s₁.setTop (mkF mm 0 #[.val (.ref o), .val (.int i)] []))
  refine Go.iloadN X0 hx (hb hby d22_0) rfl (q := 1) rfl ?_
  refine Go.aloadN X0 hx (hb hby d22_1) rfl rfl (q := 2) rfl ?_
  refine Go.getF X0 hx hZ hown (host := "") (Or.inl (wd40 hw)) Via.refl e0 Fs (hb hby d22_2) (q := 5) rfl ?_
  intro T101 X101 e101
  refine Go.callS X101 hx hZ hown (wd118 hw) (wd119 hw) (wd120 hw) (wd121 hw) (by decide) (cochk l Z a0 hw i nn h0 O0 hi0 hi1) e101 (by rw [hml]; rfl) (hb hby d22_5) (argsL := [(.int i), (.int nn)]) (rest := []) (lenOf pd1 rfl) rfl rfl (W := 0) (Nat.le_refl _) (by decide) ?_
  intro v102 T102 L102 X102 hQ102
  obtain ⟨rfl, N102q, e102⟩ := hQ102
  have N102 := Fr.app N0 N102q
  refine Go.pop X102 hx (hb hby d22_8) rfl (q := 9) rfl ?_
  refine Go.aloadN X102 hx (hb hby d22_9) rfl rfl (q := 10) rfl ?_
  refine Go.iloadN X102 hx (hb hby d22_10) rfl (q := 11) rfl ?_
  refine Go.virt X102 hx hZ hown (wd126 hw) (wd127 hw) (notFace_of_selects (args := #[]) (mvT hZ (wd129 hw))) (wd129 hw) (wd128 hw) (wd7 hw) (wd130 hw) (by decide) (ceda l Z a0 hw o i a d (kd) (us) h0 O0 Fe V hi0 hi10 hg) e102 Eo (by rw [hml]; rfl) (hb hby d22_11) (argsL := [(.int i)]) (rest := []) (lenOf pd6 rfl) rfl rfl (W := 0) (Nat.le_refl _) (by decide) ?_
  intro v103 T103 L103 X103 hQ103
  obtain ⟨rfl, N103q, e103⟩ := hQ103
  have N103 := Fr.app N102 N103q
  exact Go.retA X103 hx hret hlk rfl rfl (hb hby d22_14) e103 (by decide) (by decide) ⟨rfl, N103, rfl⟩
def Q_cchl (Z : State) (pa pb : Int32) (h0 : Heap) (vR : Option Value) (hR : Heap) (LR : List Loc) : Prop := vR = none ∧ Fr Z.heap.size LR ∧ hR = h0
theorem cchl (l : Launch) (Z : State) (a0 : Array Value) (hw : ∀ d ∈ tables_1, d.before a0 Z = true) (pa pb : Int32) (h0 : Heap) (O0 : Ext Z.heap h0) (h : ¬ (pb < pa)) :
    Ctr l Z h0 (⟨xS1, "checkLength", "(II)V"⟩ : MethodName) k13 2 none [] ({ frames := 0, cells := 0, slots := 0, locals := 0 } : Room) #[(.int pa), (.int pb)] (Q_cchl Z pa pb h0) := by
  refine enter (plainFor_of_name pn5) ?_
  intro pp ee ss mm below meth cc s₁ hx hby hml hZ hown hnm hret hlk X0 e0 hs0
  replace hown : ss.vm.findClass xS1 = some mm.cls := hown
  refine Go.cast (congrArg s₁.setTop (ef_cchl mm pa pb)) ?_
  have N0 := Fr.nil Z.heap.size
  show Go pp ee below _ (s₁.setTop (mkF mm 0 #[.val (.int pa), .val (.int pb)] []))
  refine Go.iloadN X0 hx (hb hby d13_0) rfl (q := 1) rfl ?_
  refine Go.iloadN X0 hx (hb hby d13_1) rfl (q := 2) rfl ?_
  refine Go.icmpYes X0 hx (hb hby d13_2) (Jvm.Free.XT.ii_ge_t h) (q := 37) (by decide) (by decide) ?_
  exact Go.retV X0 hx hret hlk (hb hby d13_37) e0 (by decide) (by decide) ⟨rfl, N0, rfl⟩
def Q_cmn (Z : State) (pa pb : Int32) (h0 : Heap) (vR : Option Value) (hR : Heap) (LR : List Loc) : Prop := vR = some (.int pb) ∧ Fr Z.heap.size LR ∧ hR = h0
theorem cmn (l : Launch) (Z : State) (a0 : Array Value) (hw : ∀ d ∈ tables_1, d.before a0 Z = true) (pa pb : Int32) (h0 : Heap) (O0 : Ext Z.heap h0) (h : ¬ (pa < pb)) :
    Ctr l Z h0 (⟨"java/lang/Math", "min", "(II)I"⟩ : MethodName) k14 2 (some .int) [] ({ frames := 0, cells := 0, slots := 0, locals := 0 } : Room) #[(.int pa), (.int pb)] (Q_cmn Z pa pb h0) := by
  refine enter (Jvm.Free.JP.mathPlain rfl (by decide +kernel)) ?_
  intro pp ee ss mm below meth cc s₁ hx hby hml hZ hown hnm hret hlk X0 e0 hs0
  replace hown : ss.vm.findClass "java/lang/Math" = some mm.cls := hown
  refine Go.cast (congrArg s₁.setTop (ef_cmn mm pa pb)) ?_
  have N0 := Fr.nil Z.heap.size
  show Go pp ee below _ (s₁.setTop (mkF mm 0 #[.val (.int pa), .val (.int pb)] []))
  refine Go.iloadN X0 hx (hb hby d14_0) rfl (q := 1) rfl ?_
  refine Go.iloadN X0 hx (hb hby d14_1) rfl (q := 2) rfl ?_
  by_cases hc101 : pb < pa
  · refine Go.icmpYes X0 hx (hb hby d14_2) (Jvm.Free.XT.ii_gt_t hc101) (q := 9) (by decide) (by decide) ?_
    refine Go.iloadN X0 hx (hb hby d14_9) rfl (q := 10) rfl ?_
    exact Go.retI X0 hx hret hlk (Or.inl rfl) rfl (hb hby d14_10) e0 (by decide) (by decide) ⟨rfl, N0, rfl⟩
  · refine Go.icmpNo X0 hx (hb hby d14_2) (Jvm.Free.XT.ii_gt_f hc101) (q := 5) rfl ?_
    refine Go.iloadN X0 hx (hb hby d14_5) rfl (q := 6) rfl ?_
    refine Go.goto X0 hx (hb hby d14_6) (q := 10) (by decide) (by decide) ?_
    exact Go.retI X0 hx hret hlk (Or.inl rfl) rfl (hb hby d14_10) e0 (by decide) (by decide) ⟨by rw [own_anti h hc101], N0, rfl⟩
def Q_ccrb_0_0 (Z : State) (b : Addr) (x0 x1 x2 x3 : Int32) (kb : ClassId) (n : Int32) (h0 : Heap) (vR : Option Value) (hR : Heap) (LR : List Loc) : Prop := ∃ b2 : Addr, ∃ kc : ClassId, vR = some (.ref b2) ∧ Fr Z.heap.size LR ∧ Keep h0 hR [] ∧ h0.size ≤ b2 ∧ Exa Z hR b2 "[B" ∧ Arv Z hR b2 kc .byte (0 : Int32) [] (.int 0)
theorem ccrb_0_0 (l : Launch) (Z : State) (a0 : Array Value) (hw : ∀ d ∈ tables_1, d.before a0 Z = true) (b : Addr) (x0 x1 x2 x3 : Int32) (kb : ClassId) (n : Int32) (h0 : Heap) (O0 : Ext Z.heap h0) (Vb : Arv Z h0 b kb .byte n [(.int x0), (.int x1), (.int x2), (.int x3)] (.int 0)) (hle : (0 : Int32).toNatClampNeg + (0 : Int32).toNatClampNeg ≤ n.toNatClampNeg) (hmn : ¬ ((n - (0 : Int32)) < (0 : Int32))) :
    Ctr l Z h0 (⟨xS1, "copyOfRangeByte", "([BII)[B"⟩ : MethodName) k12 5 (some (.array .byte)) [] ({ frames := 1, cells := 1, slots := 0, locals := 18 } : Room) #[(.ref b), (.int 0), (.int 0)] (Q_ccrb_0_0 Z b x0 x1 x2 x3 kb n h0) := by
  refine enter (plainFor_of_name pn5) ?_
  intro pp ee ss mm below meth cc s₁ hx hby hml hZ hown hnm hret hlk X0 e0 hs0
  replace hown : ss.vm.findClass xS1 = some mm.cls := hown
  refine Go.cast (congrArg s₁.setTop (ef_ccrb_0_0 mm b)) ?_
  have N0 := Fr.nil Z.heap.size
  have KP := Keep.refl h0 []
  show Go pp ee below _ (s₁.setTop (mkF mm 0 #[.val (.ref b), .val (.int 0), .val (.int 0), .unset, .unset] []))
  refine Go.iloadN X0 hx (hb hby d12_0) rfl (q := 1) rfl ?_
  refine Go.iloadN X0 hx (hb hby d12_1) rfl (q := 2) rfl ?_
  refine Go.callS X0 hx hZ hown (wd62 hw) (wd63 hw) (wd57 hw) (wd64 hw) (by decide) (cchl l Z a0 hw ((0 : Int32)) ((0 : Int32)) h0 O0 (by decide)) e0 (by rw [hml]; rfl) (hb hby d12_2) (argsL := [(.int 0), (.int 0)]) (rest := []) (lenOf pd7 rfl) rfl rfl (W := 0) (Nat.le_refl _) (by decide) ?_
  intro v101 T101 L101 X101 hQ101
  obtain ⟨rfl, N101q, e101⟩ := hQ101
  have N101 := Fr.app N0 N101q
  refine Go.iloadN X101 hx (hb hby d12_5) rfl (q := 6) rfl ?_
  refine Go.iloadN X101 hx (hb hby d12_6) rfl (q := 7) rfl ?_
  refine Go.isub X101 hx (hb hby d12_7) (r := (0 : Int32)) rfl (q := 8) rfl ?_
  refine Go.istoreN X101 hx (hb hby d12_8) (l' := #[.val (.ref b), .val (.int 0), .val (.int 0), .val (.int 0), .unset]) rfl (q := 9) rfl ?_
  refine Go.iloadN X101 hx (hb hby d12_9) rfl (q := 10) rfl ?_
  refine Go.newP X101 hx hZ (hb hby d12_10) (wd0 hw) e101 (by decide) (cap := 0) (by decide) (by decide) (by decide) (by decide) (ad := "[B") rfl (q := 12) rfl ?_
  intro b102 T102 h102 k102 X102 e102 q102 E102 V102 B102
  have ne_b_b102 : b ≠ b102 := ne_new Vb.lt (Nat.le_of_eq q102)
  have g_b102 : Z.heap.size ≤ b102 := Nat.le_trans O0.1 (Nat.le_of_eq q102)
  have z_b102 : h0.size ≤ b102 := Nat.le_trans KP.1 (Nat.le_of_eq q102)
  replace Vb := Vb.ext E102
  have OE102 := ext_trans O0 E102
  replace KP := KP.ext E102
  replace V102 : Arv Z h102 b102 k102 .byte (0 : Int32) [] (.int 0) := V102
  refine Go.astore X102 hx (hb hby d12_12) rfl (l' := #[.val (.ref b), .val (.int 0), .val (.int 0), .val (.int 0), .val (.ref b102)]) rfl (q := 14) rfl ?_
  refine Go.aloadN X102 hx (hb hby d12_14) rfl rfl (q := 15) rfl ?_
  refine Go.iloadN X102 hx (hb hby d12_15) rfl (q := 16) rfl ?_
  refine Go.aload X102 hx (hb hby d12_16) rfl rfl (q := 18) rfl ?_
  refine Go.iconst X102 hx (hb hby d12_18) (r := (0 : Int32)) rfl (q := 19) rfl ?_
  refine Go.aloadN X102 hx (hb hby d12_19) rfl rfl (q := 20) rfl ?_
  refine Go.alen X102 hx hZ e102 Vb (hb hby d12_20) ?_
  refine Go.iloadN X102 hx (hb hby d12_21) rfl (q := 22) rfl ?_
  refine Go.isub X102 hx (hb hby d12_22) rfl (q := 23) rfl ?_
  refine Go.iloadN X102 hx (hb hby d12_23) rfl (q := 24) rfl ?_
  refine Go.callS X102 hx hZ hown (wd65 hw) (wd66 hw) (wd67 hw) (wd68 hw) (by decide) (cmn l Z a0 hw ((n - (0 : Int32))) ((0 : Int32)) h102 OE102 hmn) e102 (by rw [hml]; rfl) (hb hby d12_24) (argsL := [(.int (n - (0 : Int32))), (.int 0)]) (rest := [(.int 0), (.ref b102), (.int 0), (.ref b)]) (lenOf pd1 rfl) rfl rfl (W := 4) (Nat.le_refl _) (by decide) ?_
  intro v103 T103 L103 X103 hQ103
  obtain ⟨rfl, N103q, e103⟩ := hQ103
  have N103 := Fr.app N101 N103q
  obtain ⟨T104, h104, L104, X104, e104, N104, K104, V104, st104⟩ := cpA X103 hx hZ hown (wd69 hw) (wd72 hw) (wd70 hw) (wd71 hw) e103 Vb V102 (us := []) (sp := (0 : Int32)) (dp := (0 : Int32)) (nn := (0 : Int32)) (Or.inl ⟨rfl, rfl⟩) (by decide) (by decide) (by decide) hle (by decide) rfl (Nat.le_of_ble_eq_true rfl) N103 g_b102 (g := (mkF mm 27 #[.val (.ref b), .val (.int 0), .val (.int 0), .val (.int 0), .val (.ref b102)] [(.int 0), (.int 0), (.ref b102), (.int 0), (.ref b)])) rfl (by rw [hml]; rfl) rfl (hb hby d12_27) (by decide) (W := 0) (by show 2 * 0 + _ ≤ _; exact Nat.le_of_eq rfl) (by decide)
  refine Go.by st104 ?_
  replace Vb := Vb.keep K104 (ninS ne_b_b102 nin0)
  replace B102 := B102.keep K104
  have OK104 := ext_keep OE102 K104 (allS g_b102 all0)
  replace KP := KP.trans K104 (allS (Or.inr z_b102) all0)
  replace V104 : Arv Z h104 b102 k102 .byte (0 : Int32) [] (.int 0) := V104
  show Go pp ee below _ (T104.setTop (mkF mm 30 #[.val (.ref b), .val (.int 0), .val (.int 0), .val (.int 0), .val (.ref b102)] []))
  refine Go.aload X104 hx (hb hby d12_30) rfl rfl (q := 32) rfl ?_
  exact Go.retA X104 hx hret hlk rfl rfl (hb hby d12_32) e104 (by decide) (by decide) ⟨b102, k102, rfl, N104, KP, z_b102, B102, V104⟩
def Q_ccr_0_0 (Z : State) (b : Addr) (x0 x1 x2 x3 : Int32) (kb : ClassId) (n : Int32) (h0 : Heap) (vR : Option Value) (hR : Heap) (LR : List Loc) : Prop := ∃ b2 : Addr, ∃ kc : ClassId, vR = some (.ref b2) ∧ Fr Z.heap.size LR ∧ Keep h0 hR [] ∧ h0.size ≤ b2 ∧ Exa Z hR b2 "[B" ∧ Arv Z hR b2 kc .byte (0 : Int32) [] (.int 0)
theorem ccr_0_0 (l : Launch) (Z : State) (a0 : Array Value) (hw : ∀ d ∈ tables_1, d.before a0 Z = true) (b : Addr) (x0 x1 x2 x3 : Int32) (kb : ClassId) (n : Int32) (h0 : Heap) (O0 : Ext Z.heap h0) (Vb : Arv Z h0 b kb .byte n [(.int x0), (.int x1), (.int x2), (.int x3)] (.int 0)) (hle : (0 : Int32).toNatClampNeg + (0 : Int32).toNatClampNeg ≤ n.toNatClampNeg) (hmn : ¬ ((n - (0 : Int32)) < (0 : Int32))) (hne : ¬ ((0 : Int32) = n)) :
    Ctr l Z h0 (⟨xS1, "copyOfRange", "([BII)[B"⟩ : MethodName) k11 3 (some (.array .byte)) [] ({ frames := 2, cells := 1, slots := 0, locals := 34 } : Room) #[(.ref b), (.int 0), (.int 0)] (Q_ccr_0_0 Z b x0 x1 x2 x3 kb n h0) := by
  refine enter (plainFor_of_name pn5) ?_
  intro pp ee ss mm below meth cc s₁ hx hby hml hZ hown hnm hret hlk X0 e0 hs0
  replace hown : ss.vm.findClass xS1 = some mm.cls := hown
  refine Go.cast (congrArg s₁.setTop (ef_ccr_0_0 mm b)) ?_
  have N0 := Fr.nil Z.heap.size
  have KP := Keep.refl h0 []
  show Go pp ee below _ (s₁.setTop (mkF mm 0 #[.val (.ref b), .val (.int 0), .val (.int 0)] []))
  refine Go.iloadN X0 hx (hb hby d11_0) rfl (q := 1) rfl ?_
  refine Go.ifNo X0 hx (hb hby d11_1) (by decide) (q := 4) rfl ?_
  refine Go.iloadN X0 hx (hb hby d11_4) rfl (q := 5) rfl ?_
  refine Go.aloadN X0 hx (hb hby d11_5) rfl rfl (q := 6) rfl ?_
  refine Go.alen X0 hx hZ e0 Vb (hb hby d11_6) ?_
  refine Go.icmpNo X0 hx (hb hby d11_7) (Jvm.Free.XT.ii_eq_f hne) (q := 10) rfl ?_
  refine Go.aloadN X0 hx (hb hby d11_10) rfl rfl (q := 11) rfl ?_
  refine Go.iloadN X0 hx (hb hby d11_11) rfl (q := 12) rfl ?_
  refine Go.iloadN X0 hx (hb hby d11_12) rfl (q := 13) rfl ?_
  refine Go.callS X0 hx hZ hown (wd59 hw) (wd60 hw) (wd57 hw) (wd61 hw) (by decide) (ccrb_0_0 l Z a0 hw b x0 x1 x2 x3 (kb) n h0 O0 Vb hle hmn) e0 (by rw [hml]; rfl) (hb hby d11_13) (argsL := [(.ref b), (.int 0), (.int 0)]) (rest := []) (lenOf pd8 rfl) rfl rfl (W := 0) (Nat.le_refl _) (by decide) ?_
  intro v101 T101 L101 X101 hQ101
  obtain ⟨h101, e101⟩ : ∃ z, T101.heap = z := ⟨_, rfl⟩
  rw [e101] at hQ101
  obtain ⟨b2_101, kc_101, rfl, N101q, K101, fr101_b2, P101_0, P101_1⟩ := hQ101
  have N101 := Fr.app N0 N101q
  have ne_b_b2_101 : b ≠ b2_101 := ne_new Vb.lt fr101_b2
  have g_b2_101 : Z.heap.size ≤ b2_101 := Nat.le_trans O0.1 fr101_b2
  have z_b2_101 : h0.size ≤ b2_101 := Nat.le_trans KP.1 fr101_b2
  replace Vb := Vb.keep K101 nin0
  have OK101 := ext_keep O0 K101 all0
  replace KP := KP.trans K101 all0
  exact Go.retA X101 hx hret hlk rfl rfl (hb hby d11_16) e101 (by decide) (by decide) ⟨b2_101, kc_101, rfl, N101, KP, z_b2_101, P101_0, P101_1⟩
def Q_ccrb_0_1 (Z : State) (b : Addr) (x0 x1 x2 x3 : Int32) (kb : ClassId) (n : Int32) (h0 : Heap) (vR : Option Value) (hR : Heap) (LR : List Loc) : Prop := ∃ b2 : Addr, ∃ kc : ClassId, vR = some (.ref b2) ∧ Fr Z.heap.size LR ∧ Keep h0 hR [] ∧ h0.size ≤ b2 ∧ Exa Z hR b2 "[B" ∧ Arv Z hR b2 kc .byte (1 : Int32) [(.int x0)] (.int 0)
theorem ccrb_0_1 (l : Launch) (Z : State) (a0 : Array Value) (hw : ∀ d ∈ tables_1, d.before a0 Z = true) (b : Addr) (x0 x1 x2 x3 : Int32) (kb : ClassId) (n : Int32) (h0 : Heap) (O0 : Ext Z.heap h0) (Vb : Arv Z h0 b kb .byte n [(.int x0), (.int x1), (.int x2), (.int x3)] (.int 0)) (hle : (0 : Int32).toNatClampNeg + (1 : Int32).toNatClampNeg ≤ n.toNatClampNeg) (hmn : ¬ ((n - (0 : Int32)) < (1 : Int32))) :
    Ctr l Z h0 (⟨xS1, "copyOfRangeByte", "([BII)[B"⟩ : MethodName) k12 5 (some (.array .byte)) [] ({ frames := 1, cells := 1, slots := 1, locals := 18 } : Room) #[(.ref b), (.int 0), (.int 1)] (Q_ccrb_0_1 Z b x0 x1 x2 x3 kb n h0) := by
  refine enter (plainFor_of_name pn5) ?_
  intro pp ee ss mm below meth cc s₁ hx hby hml hZ hown hnm hret hlk X0 e0 hs0
  replace hown : ss.vm.findClass xS1 = some mm.cls := hown
  refine Go.cast (congrArg s₁.setTop (ef_ccrb_0_1 mm b)) ?_
  have N0 := Fr.nil Z.heap.size
  have KP := Keep.refl h0 []
  show Go pp ee below _ (s₁.setTop (mkF mm 0 #[.val (.ref b), .val (.int 0), .val (.int 1), .unset, .unset] []))
  refine Go.iloadN X0 hx (hb hby d12_0) rfl (q := 1) rfl ?_
  refine Go.iloadN X0 hx (hb hby d12_1) rfl (q := 2) rfl ?_
  refine Go.callS X0 hx hZ hown (wd62 hw) (wd63 hw) (wd57 hw) (wd64 hw) (by decide) (cchl l Z a0 hw ((0 : Int32)) ((1 : Int32)) h0 O0 (by decide)) e0 (by rw [hml]; rfl) (hb hby d12_2) (argsL := [(.int 0), (.int 1)]) (rest := []) (lenOf pd7 rfl) rfl rfl (W := 0) (Nat.le_refl _) (by decide) ?_
  intro v101 T101 L101 X101 hQ101
  obtain ⟨rfl, N101q, e101⟩ := hQ101
  have N101 := Fr.app N0 N101q
  refine Go.iloadN X101 hx (hb hby d12_5) rfl (q := 6) rfl ?_
  refine Go.iloadN X101 hx (hb hby d12_6) rfl (q := 7) rfl ?_
  refine Go.isub X101 hx (hb hby d12_7) (r := (1 : Int32)) rfl (q := 8) rfl ?_
  refine Go.istoreN X101 hx (hb hby d12_8) (l' := #[.val (.ref b), .val (.int 0), .val (.int 1), .val (.int 1), .unset]) rfl (q := 9) rfl ?_
  refine Go.iloadN X101 hx (hb hby d12_9) rfl (q := 10) rfl ?_
  refine Go.newP X101 hx hZ (hb hby d12_10) (wd0 hw) e101 (by decide) (cap := 1) (by decide) (by decide) (by decide) (by decide) (ad := "[B") rfl (q := 12) rfl ?_
  intro b102 T102 h102 k102 X102 e102 q102 E102 V102 B102
  have ne_b_b102 : b ≠ b102 := ne_new Vb.lt (Nat.le_of_eq q102)
  have g_b102 : Z.heap.size ≤ b102 := Nat.le_trans O0.1 (Nat.le_of_eq q102)
  have z_b102 : h0.size ≤ b102 := Nat.le_trans KP.1 (Nat.le_of_eq q102)
  replace Vb := Vb.ext E102
  have OE102 := ext_trans O0 E102
  replace KP := KP.ext E102
  replace V102 : Arv Z h102 b102 k102 .byte (1 : Int32) [(.int 0)] (.int 0) := V102.pad (pad_rep [] (.int 0) 1)
  refine Go.astore X102 hx (hb hby d12_12) rfl (l' := #[.val (.ref b), .val (.int 0), .val (.int 1), .val (.int 1), .val (.ref b102)]) rfl (q := 14) rfl ?_
  refine Go.aloadN X102 hx (hb hby d12_14) rfl rfl (q := 15) rfl ?_
  refine Go.iloadN X102 hx (hb hby d12_15) rfl (q := 16) rfl ?_
  refine Go.aload X102 hx (hb hby d12_16) rfl rfl (q := 18) rfl ?_
  refine Go.iconst X102 hx (hb hby d12_18) (r := (0 : Int32)) rfl (q := 19) rfl ?_
  refine Go.aloadN X102 hx (hb hby d12_19) rfl rfl (q := 20) rfl ?_
  refine Go.alen X102 hx hZ e102 Vb (hb hby d12_20) ?_
  refine Go.iloadN X102 hx (hb hby d12_21) rfl (q := 22) rfl ?_
  refine Go.isub X102 hx (hb hby d12_22) rfl (q := 23) rfl ?_
  refine Go.iloadN X102 hx (hb hby d12_23) rfl (q := 24) rfl ?_
  refine Go.callS X102 hx hZ hown (wd65 hw) (wd66 hw) (wd67 hw) (wd68 hw) (by decide) (cmn l Z a0 hw ((n - (0 : Int32))) ((1 : Int32)) h102 OE102 hmn) e102 (by rw [hml]; rfl) (hb hby d12_24) (argsL := [(.int (n - (0 : Int32))), (.int 1)]) (rest := [(.int 0), (.ref b102), (.int 0), (.ref b)]) (lenOf pd1 rfl) rfl rfl (W := 4) (Nat.le_refl _) (by decide) ?_
  intro v103 T103 L103 X103 hQ103
  obtain ⟨rfl, N103q, e103⟩ := hQ103
  have N103 := Fr.app N101 N103q
  obtain ⟨T104, h104, L104, X104, e104, N104, K104, V104, st104⟩ := cpA X103 hx hZ hown (wd69 hw) (wd72 hw) (wd70 hw) (wd71 hw) e103 Vb V102 (us := [(.int x0)]) (sp := (0 : Int32)) (dp := (0 : Int32)) (nn := (1 : Int32)) (Or.inl ⟨rfl, rfl⟩) (by decide) (by decide) (by decide) hle (by decide) rfl (Nat.le_of_ble_eq_true rfl) N103 g_b102 (g := (mkF mm 27 #[.val (.ref b), .val (.int 0), .val (.int 1), .val (.int 1), .val (.ref b102)] [(.int 1), (.int 0), (.ref b102), (.int 0), (.ref b)])) rfl (by rw [hml]; rfl) rfl (hb hby d12_27) (by decide) (W := 0) (by show 2 * 0 + _ ≤ _; exact Nat.le_of_eq rfl) (by decide)
  refine Go.by st104 ?_
  replace Vb := Vb.keep K104 (ninS ne_b_b102 nin0)
  replace B102 := B102.keep K104
  have OK104 := ext_keep OE102 K104 (allS g_b102 all0)
  replace KP := KP.trans K104 (allS (Or.inr z_b102) all0)
  replace V104 : Arv Z h104 b102 k102 .byte (1 : Int32) [(.int x0)] (.int 0) := V104
  show Go pp ee below _ (T104.setTop (mkF mm 30 #[.val (.ref b), .val (.int 0), .val (.int 1), .val (.int 1), .val (.ref b102)] []))
  refine Go.aload X104 hx (hb hby d12_30) rfl rfl (q := 32) rfl ?_
  exact Go.retA X104 hx hret hlk rfl rfl (hb hby d12_32) e104 (by decide) (by decide) ⟨b102, k102, rfl, N104, KP, z_b102, B102, V104⟩
def Q_ccr_0_1 (Z : State) (b : Addr) (x0 x1 x2 x3 : Int32) (kb : ClassId) (n : Int32) (h0 : Heap) (vR : Option Value) (hR : Heap) (LR : List Loc) : Prop := ∃ b2 : Addr, ∃ kc : ClassId, vR = some (.ref b2) ∧ Fr Z.heap.size LR ∧ Keep h0 hR [] ∧ h0.size ≤ b2 ∧ Exa Z hR b2 "[B" ∧ Arv Z hR b2 kc .byte (1 : Int32) [(.int x0)] (.int 0)
theorem ccr_0_1 (l : Launch) (Z : State) (a0 : Array Value) (hw : ∀ d ∈ tables_1, d.before a0 Z = true) (b : Addr) (x0 x1 x2 x3 : Int32) (kb : ClassId) (n : Int32) (h0 : Heap) (O0 : Ext Z.heap h0) (Vb : Arv Z h0 b kb .byte n [(.int x0), (.int x1), (.int x2), (.int x3)] (.int 0)) (hle : (0 : Int32).toNatClampNeg + (1 : Int32).toNatClampNeg ≤ n.toNatClampNeg) (hmn : ¬ ((n - (0 : Int32)) < (1 : Int32))) (hne : ¬ ((1 : Int32) = n)) :
    Ctr l Z h0 (⟨xS1, "copyOfRange", "([BII)[B"⟩ : MethodName) k11 3 (some (.array .byte)) [] ({ frames := 2, cells := 1, slots := 1, locals := 34 } : Room) #[(.ref b), (.int 0), (.int 1)] (Q_ccr_0_1 Z b x0 x1 x2 x3 kb n h0) := by
  refine enter (plainFor_of_name pn5) ?_
  intro pp ee ss mm below meth cc s₁ hx hby hml hZ hown hnm hret hlk X0 e0 hs0
  replace hown : ss.vm.findClass xS1 = some mm.cls := hown
  refine Go.cast (congrArg s₁.setTop (ef_ccr_0_1 mm b)) ?_
  have N0 := Fr.nil Z.heap.size
  have KP := Keep.refl h0 []
  show Go pp ee below _ (s₁.setTop (mkF mm 0 #[.val (.ref b), .val (.int 0), .val (.int 1)] []))
  refine Go.iloadN X0 hx (hb hby d11_0) rfl (q := 1) rfl ?_
  refine Go.ifNo X0 hx (hb hby d11_1) (by decide) (q := 4) rfl ?_
  refine Go.iloadN X0 hx (hb hby d11_4) rfl (q := 5) rfl ?_
  refine Go.aloadN X0 hx (hb hby d11_5) rfl rfl (q := 6) rfl ?_
  refine Go.alen X0 hx hZ e0 Vb (hb hby d11_6) ?_
  refine Go.icmpNo X0 hx (hb hby d11_7) (Jvm.Free.XT.ii_eq_f hne) (q := 10) rfl ?_
  refine Go.aloadN X0 hx (hb hby d11_10) rfl rfl (q := 11) rfl ?_
  refine Go.iloadN X0 hx (hb hby d11_11) rfl (q := 12) rfl ?_
  refine Go.iloadN X0 hx (hb hby d11_12) rfl (q := 13) rfl ?_
  refine Go.callS X0 hx hZ hown (wd59 hw) (wd60 hw) (wd57 hw) (wd61 hw) (by decide) (ccrb_0_1 l Z a0 hw b x0 x1 x2 x3 (kb) n h0 O0 Vb hle hmn) e0 (by rw [hml]; rfl) (hb hby d11_13) (argsL := [(.ref b), (.int 0), (.int 1)]) (rest := []) (lenOf pd8 rfl) rfl rfl (W := 0) (Nat.le_refl _) (by decide) ?_
  intro v101 T101 L101 X101 hQ101
  obtain ⟨h101, e101⟩ : ∃ z, T101.heap = z := ⟨_, rfl⟩
  rw [e101] at hQ101
  obtain ⟨b2_101, kc_101, rfl, N101q, K101, fr101_b2, P101_0, P101_1⟩ := hQ101
  have N101 := Fr.app N0 N101q
  have ne_b_b2_101 : b ≠ b2_101 := ne_new Vb.lt fr101_b2
  have g_b2_101 : Z.heap.size ≤ b2_101 := Nat.le_trans O0.1 fr101_b2
  have z_b2_101 : h0.size ≤ b2_101 := Nat.le_trans KP.1 fr101_b2
  replace Vb := Vb.keep K101 nin0
  have OK101 := ext_keep O0 K101 all0
  replace KP := KP.trans K101 all0
  exact Go.retA X101 hx hret hlk rfl rfl (hb hby d11_16) e101 (by decide) (by decide) ⟨b2_101, kc_101, rfl, N101, KP, z_b2_101, P101_0, P101_1⟩
def Q_ccrb_0_2 (Z : State) (b : Addr) (x0 x1 x2 x3 : Int32) (kb : ClassId) (n : Int32) (h0 : Heap) (vR : Option Value) (hR : Heap) (LR : List Loc) : Prop := ∃ b2 : Addr, ∃ kc : ClassId, vR = some (.ref b2) ∧ Fr Z.heap.size LR ∧ Keep h0 hR [] ∧ h0.size ≤ b2 ∧ Exa Z hR b2 "[B" ∧ Arv Z hR b2 kc .byte (2 : Int32) [(.int x0), (.int x1)] (.int 0)
theorem ccrb_0_2 (l : Launch) (Z : State) (a0 : Array Value) (hw : ∀ d ∈ tables_1, d.before a0 Z = true) (b : Addr) (x0 x1 x2 x3 : Int32) (kb : ClassId) (n : Int32) (h0 : Heap) (O0 : Ext Z.heap h0) (Vb : Arv Z h0 b kb .byte n [(.int x0), (.int x1), (.int x2), (.int x3)] (.int 0)) (hle : (0 : Int32).toNatClampNeg + (2 : Int32).toNatClampNeg ≤ n.toNatClampNeg) (hmn : ¬ ((n - (0 : Int32)) < (2 : Int32))) :
    Ctr l Z h0 (⟨xS1, "copyOfRangeByte", "([BII)[B"⟩ : MethodName) k12 5 (some (.array .byte)) [] ({ frames := 1, cells := 1, slots := 2, locals := 18 } : Room) #[(.ref b), (.int 0), (.int 2)] (Q_ccrb_0_2 Z b x0 x1 x2 x3 kb n h0) := by
  refine enter (plainFor_of_name pn5) ?_
  intro pp ee ss mm below meth cc s₁ hx hby hml hZ hown hnm hret hlk X0 e0 hs0
  replace hown : ss.vm.findClass xS1 = some mm.cls := hown
  refine Go.cast (congrArg s₁.setTop (ef_ccrb_0_2 mm b)) ?_
  have N0 := Fr.nil Z.heap.size
  have KP := Keep.refl h0 []
  show Go pp ee below _ (s₁.setTop (mkF mm 0 #[.val (.ref b), .val (.int 0), .val (.int 2), .unset, .unset] []))
  refine Go.iloadN X0 hx (hb hby d12_0) rfl (q := 1) rfl ?_
  refine Go.iloadN X0 hx (hb hby d12_1) rfl (q := 2) rfl ?_
  refine Go.callS X0 hx hZ hown (wd62 hw) (wd63 hw) (wd57 hw) (wd64 hw) (by decide) (cchl l Z a0 hw ((0 : Int32)) ((2 : Int32)) h0 O0 (by decide)) e0 (by rw [hml]; rfl) (hb hby d12_2) (argsL := [(.int 0), (.int 2)]) (rest := []) (lenOf pd7 rfl) rfl rfl (W := 0) (Nat.le_refl _) (by decide) ?_
  intro v101 T101 L101 X101 hQ101
  obtain ⟨rfl, N101q, e101⟩ := hQ101
  have N101 := Fr.app N0 N101q
  refine Go.iloadN X101 hx (hb hby d12_5) rfl (q := 6) rfl ?_
  refine Go.iloadN X101 hx (hb hby d12_6) rfl (q := 7) rfl ?_
  refine Go.isub X101 hx (hb hby d12_7) (r := (2 : Int32)) rfl (q := 8) rfl ?_
  refine Go.istoreN X101 hx (hb hby d12_8) (l' := #[.val (.ref b), .val (.int 0), .val (.int 2), .val (.int 2), .unset]) rfl (q := 9) rfl ?_
  refine Go.iloadN X101 hx (hb hby d12_9) rfl (q := 10) rfl ?_
  refine Go.newP X101 hx hZ (hb hby d12_10) (wd0 hw) e101 (by decide) (cap := 2) (by decide) (by decide) (by decide) (by decide) (ad := "[B") rfl (q := 12) rfl ?_
  intro b102 T102 h102 k102 X102 e102 q102 E102 V102 B102
  have ne_b_b102 : b ≠ b102 := ne_new Vb.lt (Nat.le_of_eq q102)
  have g_b102 : Z.heap.size ≤ b102 := Nat.le_trans O0.1 (Nat.le_of_eq q102)
  have z_b102 : h0.size ≤ b102 := Nat.le_trans KP.1 (Nat.le_of_eq q102)
  replace Vb := Vb.ext E102
  have OE102 := ext_trans O0 E102
  replace KP := KP.ext E102
  replace V102 : Arv Z h102 b102 k102 .byte (2 : Int32) [(.int 0), (.int 0)] (.int 0) := V102.pad (pad_rep [] (.int 0) 2)
  refine Go.astore X102 hx (hb hby d12_12) rfl (l' := #[.val (.ref b), .val (.int 0), .val (.int 2), .val (.int 2), .val (.ref b102)]) rfl (q := 14) rfl ?_
  refine Go.aloadN X102 hx (hb hby d12_14) rfl rfl (q := 15) rfl ?_
  refine Go.iloadN X102 hx (hb hby d12_15) rfl (q := 16) rfl ?_
  refine Go.aload X102 hx (hb hby d12_16) rfl rfl (q := 18) rfl ?_
  refine Go.iconst X102 hx (hb hby d12_18) (r := (0 : Int32)) rfl (q := 19) rfl ?_
  refine Go.aloadN X102 hx (hb hby d12_19) rfl rfl (q := 20) rfl ?_
  refine Go.alen X102 hx hZ e102 Vb (hb hby d12_20) ?_
  refine Go.iloadN X102 hx (hb hby d12_21) rfl (q := 22) rfl ?_
  refine Go.isub X102 hx (hb hby d12_22) rfl (q := 23) rfl ?_
  refine Go.iloadN X102 hx (hb hby d12_23) rfl (q := 24) rfl ?_
  refine Go.callS X102 hx hZ hown (wd65 hw) (wd66 hw) (wd67 hw) (wd68 hw) (by decide) (cmn l Z a0 hw ((n - (0 : Int32))) ((2 : Int32)) h102 OE102 hmn) e102 (by rw [hml]; rfl) (hb hby d12_24) (argsL := [(.int (n - (0 : Int32))), (.int 2)]) (rest := [(.int 0), (.ref b102), (.int 0), (.ref b)]) (lenOf pd1 rfl) rfl rfl (W := 4) (Nat.le_refl _) (by decide) ?_
  intro v103 T103 L103 X103 hQ103
  obtain ⟨rfl, N103q, e103⟩ := hQ103
  have N103 := Fr.app N101 N103q
  obtain ⟨T104, h104, L104, X104, e104, N104, K104, V104, st104⟩ := cpA X103 hx hZ hown (wd69 hw) (wd72 hw) (wd70 hw) (wd71 hw) e103 Vb V102 (us := [(.int x0), (.int x1)]) (sp := (0 : Int32)) (dp := (0 : Int32)) (nn := (2 : Int32)) (Or.inl ⟨rfl, rfl⟩) (by decide) (by decide) (by decide) hle (by decide) rfl (Nat.le_of_ble_eq_true rfl) N103 g_b102 (g := (mkF mm 27 #[.val (.ref b), .val (.int 0), .val (.int 2), .val (.int 2), .val (.ref b102)] [(.int 2), (.int 0), (.ref b102), (.int 0), (.ref b)])) rfl (by rw [hml]; rfl) rfl (hb hby d12_27) (by decide) (W := 0) (by show 2 * 0 + _ ≤ _; exact Nat.le_of_eq rfl) (by decide)
  refine Go.by st104 ?_
  replace Vb := Vb.keep K104 (ninS ne_b_b102 nin0)
  replace B102 := B102.keep K104
  have OK104 := ext_keep OE102 K104 (allS g_b102 all0)
  replace KP := KP.trans K104 (allS (Or.inr z_b102) all0)
  replace V104 : Arv Z h104 b102 k102 .byte (2 : Int32) [(.int x0), (.int x1)] (.int 0) := V104
  show Go pp ee below _ (T104.setTop (mkF mm 30 #[.val (.ref b), .val (.int 0), .val (.int 2), .val (.int 2), .val (.ref b102)] []))
  refine Go.aload X104 hx (hb hby d12_30) rfl rfl (q := 32) rfl ?_
  exact Go.retA X104 hx hret hlk rfl rfl (hb hby d12_32) e104 (by decide) (by decide) ⟨b102, k102, rfl, N104, KP, z_b102, B102, V104⟩
def Q_ccr_0_2 (Z : State) (b : Addr) (x0 x1 x2 x3 : Int32) (kb : ClassId) (n : Int32) (h0 : Heap) (vR : Option Value) (hR : Heap) (LR : List Loc) : Prop := ∃ b2 : Addr, ∃ kc : ClassId, vR = some (.ref b2) ∧ Fr Z.heap.size LR ∧ Keep h0 hR [] ∧ h0.size ≤ b2 ∧ Exa Z hR b2 "[B" ∧ Arv Z hR b2 kc .byte (2 : Int32) [(.int x0), (.int x1)] (.int 0)
theorem ccr_0_2 (l : Launch) (Z : State) (a0 : Array Value) (hw : ∀ d ∈ tables_1, d.before a0 Z = true) (b : Addr) (x0 x1 x2 x3 : Int32) (kb : ClassId) (n : Int32) (h0 : Heap) (O0 : Ext Z.heap h0) (Vb : Arv Z h0 b kb .byte n [(.int x0), (.int x1), (.int x2), (.int x3)] (.int 0)) (hle : (0 : Int32).toNatClampNeg + (2 : Int32).toNatClampNeg ≤ n.toNatClampNeg) (hmn : ¬ ((n - (0 : Int32)) < (2 : Int32))) (hne : ¬ ((2 : Int32) = n)) :
    Ctr l Z h0 (⟨xS1, "copyOfRange", "([BII)[B"⟩ : MethodName) k11 3 (some (.array .byte)) [] ({ frames := 2, cells := 1, slots := 2, locals := 34 } : Room) #[(.ref b), (.int 0), (.int 2)] (Q_ccr_0_2 Z b x0 x1 x2 x3 kb n h0) := by
  refine enter (plainFor_of_name pn5) ?_
  intro pp ee ss mm below meth cc s₁ hx hby hml hZ hown hnm hret hlk X0 e0 hs0
  replace hown : ss.vm.findClass xS1 = some mm.cls := hown
  refine Go.cast (congrArg s₁.setTop (ef_ccr_0_2 mm b)) ?_
  have N0 := Fr.nil Z.heap.size
  have KP := Keep.refl h0 []
  show Go pp ee below _ (s₁.setTop (mkF mm 0 #[.val (.ref b), .val (.int 0), .val (.int 2)] []))
  refine Go.iloadN X0 hx (hb hby d11_0) rfl (q := 1) rfl ?_
  refine Go.ifNo X0 hx (hb hby d11_1) (by decide) (q := 4) rfl ?_
  refine Go.iloadN X0 hx (hb hby d11_4) rfl (q := 5) rfl ?_
  refine Go.aloadN X0 hx (hb hby d11_5) rfl rfl (q := 6) rfl ?_
  refine Go.alen X0 hx hZ e0 Vb (hb hby d11_6) ?_
  refine Go.icmpNo X0 hx (hb hby d11_7) (Jvm.Free.XT.ii_eq_f hne) (q := 10) rfl ?_
  refine Go.aloadN X0 hx (hb hby d11_10) rfl rfl (q := 11) rfl ?_
  refine Go.iloadN X0 hx (hb hby d11_11) rfl (q := 12) rfl ?_
  refine Go.iloadN X0 hx (hb hby d11_12) rfl (q := 13) rfl ?_
  refine Go.callS X0 hx hZ hown (wd59 hw) (wd60 hw) (wd57 hw) (wd61 hw) (by decide) (ccrb_0_2 l Z a0 hw b x0 x1 x2 x3 (kb) n h0 O0 Vb hle hmn) e0 (by rw [hml]; rfl) (hb hby d11_13) (argsL := [(.ref b), (.int 0), (.int 2)]) (rest := []) (lenOf pd8 rfl) rfl rfl (W := 0) (Nat.le_refl _) (by decide) ?_
  intro v101 T101 L101 X101 hQ101
  obtain ⟨h101, e101⟩ : ∃ z, T101.heap = z := ⟨_, rfl⟩
  rw [e101] at hQ101
  obtain ⟨b2_101, kc_101, rfl, N101q, K101, fr101_b2, P101_0, P101_1⟩ := hQ101
  have N101 := Fr.app N0 N101q
  have ne_b_b2_101 : b ≠ b2_101 := ne_new Vb.lt fr101_b2
  have g_b2_101 : Z.heap.size ≤ b2_101 := Nat.le_trans O0.1 fr101_b2
  have z_b2_101 : h0.size ≤ b2_101 := Nat.le_trans KP.1 fr101_b2
  replace Vb := Vb.keep K101 nin0
  have OK101 := ext_keep O0 K101 all0
  replace KP := KP.trans K101 all0
  exact Go.retA X101 hx hret hlk rfl rfl (hb hby d11_16) e101 (by decide) (by decide) ⟨b2_101, kc_101, rfl, N101, KP, z_b2_101, P101_0, P101_1⟩
def Q_ccrb_0_3 (Z : State) (b : Addr) (x0 x1 x2 x3 : Int32) (kb : ClassId) (n : Int32) (h0 : Heap) (vR : Option Value) (hR : Heap) (LR : List Loc) : Prop := ∃ b2 : Addr, ∃ kc : ClassId, vR = some (.ref b2) ∧ Fr Z.heap.size LR ∧ Keep h0 hR [] ∧ h0.size ≤ b2 ∧ Exa Z hR b2 "[B" ∧ Arv Z hR b2 kc .byte (3 : Int32) [(.int x0), (.int x1), (.int x2)] (.int 0)
theorem ccrb_0_3 (l : Launch) (Z : State) (a0 : Array Value) (hw : ∀ d ∈ tables_1, d.before a0 Z = true) (b : Addr) (x0 x1 x2 x3 : Int32) (kb : ClassId) (n : Int32) (h0 : Heap) (O0 : Ext Z.heap h0) (Vb : Arv Z h0 b kb .byte n [(.int x0), (.int x1), (.int x2), (.int x3)] (.int 0)) (hle : (0 : Int32).toNatClampNeg + (3 : Int32).toNatClampNeg ≤ n.toNatClampNeg) (hmn : ¬ ((n - (0 : Int32)) < (3 : Int32))) :
    Ctr l Z h0 (⟨xS1, "copyOfRangeByte", "([BII)[B"⟩ : MethodName) k12 5 (some (.array .byte)) [] ({ frames := 1, cells := 1, slots := 3, locals := 18 } : Room) #[(.ref b), (.int 0), (.int 3)] (Q_ccrb_0_3 Z b x0 x1 x2 x3 kb n h0) := by
  refine enter (plainFor_of_name pn5) ?_
  intro pp ee ss mm below meth cc s₁ hx hby hml hZ hown hnm hret hlk X0 e0 hs0
  replace hown : ss.vm.findClass xS1 = some mm.cls := hown
  refine Go.cast (congrArg s₁.setTop (ef_ccrb_0_3 mm b)) ?_
  have N0 := Fr.nil Z.heap.size
  have KP := Keep.refl h0 []
  show Go pp ee below _ (s₁.setTop (mkF mm 0 #[.val (.ref b), .val (.int 0), .val (.int 3), .unset, .unset] []))
  refine Go.iloadN X0 hx (hb hby d12_0) rfl (q := 1) rfl ?_
  refine Go.iloadN X0 hx (hb hby d12_1) rfl (q := 2) rfl ?_
  refine Go.callS X0 hx hZ hown (wd62 hw) (wd63 hw) (wd57 hw) (wd64 hw) (by decide) (cchl l Z a0 hw ((0 : Int32)) ((3 : Int32)) h0 O0 (by decide)) e0 (by rw [hml]; rfl) (hb hby d12_2) (argsL := [(.int 0), (.int 3)]) (rest := []) (lenOf pd7 rfl) rfl rfl (W := 0) (Nat.le_refl _) (by decide) ?_
  intro v101 T101 L101 X101 hQ101
  obtain ⟨rfl, N101q, e101⟩ := hQ101
  have N101 := Fr.app N0 N101q
  refine Go.iloadN X101 hx (hb hby d12_5) rfl (q := 6) rfl ?_
  refine Go.iloadN X101 hx (hb hby d12_6) rfl (q := 7) rfl ?_
  refine Go.isub X101 hx (hb hby d12_7) (r := (3 : Int32)) rfl (q := 8) rfl ?_
  refine Go.istoreN X101 hx (hb hby d12_8) (l' := #[.val (.ref b), .val (.int 0), .val (.int 3), .val (.int 3), .unset]) rfl (q := 9) rfl ?_
  refine Go.iloadN X101 hx (hb hby d12_9) rfl (q := 10) rfl ?_
  refine Go.newP X101 hx hZ (hb hby d12_10) (wd0 hw) e101 (by decide) (cap := 3) (by decide) (by decide) (by decide) (by decide) (ad := "[B") rfl (q := 12) rfl ?_
  intro b102 T102 h102 k102 X102 e102 q102 E102 V102 B102
  have ne_b_b102 : b ≠ b102 := ne_new Vb.lt (Nat.le_of_eq q102)
  have g_b102 : Z.heap.size ≤ b102 := Nat.le_trans O0.1 (Nat.le_of_eq q102)
  have z_b102 : h0.size ≤ b102 := Nat.le_trans KP.1 (Nat.le_of_eq q102)
  replace Vb := Vb.ext E102
  have OE102 := ext_trans O0 E102
  replace KP := KP.ext E102
  replace V102 : Arv Z h102 b102 k102 .byte (3 : Int32) [(.int 0), (.int 0), (.int 0)] (.int 0) := V102.pad (pad_rep [] (.int 0) 3)
  refine Go.astore X102 hx (hb hby d12_12) rfl (l' := #[.val (.ref b), .val (.int 0), .val (.int 3), .val (.int 3), .val (.ref b102)]) rfl (q := 14) rfl ?_
  refine Go.aloadN X102 hx (hb hby d12_14) rfl rfl (q := 15) rfl ?_
  refine Go.iloadN X102 hx (hb hby d12_15) rfl (q := 16) rfl ?_
  refine Go.aload X102 hx (hb hby d12_16) rfl rfl (q := 18) rfl ?_
  refine Go.iconst X102 hx (hb hby d12_18) (r := (0 : Int32)) rfl (q := 19) rfl ?_
  refine Go.aloadN X102 hx (hb hby d12_19) rfl rfl (q := 20) rfl ?_
  refine Go.alen X102 hx hZ e102 Vb (hb hby d12_20) ?_
  refine Go.iloadN X102 hx (hb hby d12_21) rfl (q := 22) rfl ?_
  refine Go.isub X102 hx (hb hby d12_22) rfl (q := 23) rfl ?_
  refine Go.iloadN X102 hx (hb hby d12_23) rfl (q := 24) rfl ?_
  refine Go.callS X102 hx hZ hown (wd65 hw) (wd66 hw) (wd67 hw) (wd68 hw) (by decide) (cmn l Z a0 hw ((n - (0 : Int32))) ((3 : Int32)) h102 OE102 hmn) e102 (by rw [hml]; rfl) (hb hby d12_24) (argsL := [(.int (n - (0 : Int32))), (.int 3)]) (rest := [(.int 0), (.ref b102), (.int 0), (.ref b)]) (lenOf pd1 rfl) rfl rfl (W := 4) (Nat.le_refl _) (by decide) ?_
  intro v103 T103 L103 X103 hQ103
  obtain ⟨rfl, N103q, e103⟩ := hQ103
  have N103 := Fr.app N101 N103q
  obtain ⟨T104, h104, L104, X104, e104, N104, K104, V104, st104⟩ := cpA X103 hx hZ hown (wd69 hw) (wd72 hw) (wd70 hw) (wd71 hw) e103 Vb V102 (us := [(.int x0), (.int x1), (.int x2)]) (sp := (0 : Int32)) (dp := (0 : Int32)) (nn := (3 : Int32)) (Or.inl ⟨rfl, rfl⟩) (by decide) (by decide) (by decide) hle (by decide) rfl (Nat.le_of_ble_eq_true rfl) N103 g_b102 (g := (mkF mm 27 #[.val (.ref b), .val (.int 0), .val (.int 3), .val (.int 3), .val (.ref b102)] [(.int 3), (.int 0), (.ref b102), (.int 0), (.ref b)])) rfl (by rw [hml]; rfl) rfl (hb hby d12_27) (by decide) (W := 0) (by show 2 * 0 + _ ≤ _; exact Nat.le_of_eq rfl) (by decide)
  refine Go.by st104 ?_
  replace Vb := Vb.keep K104 (ninS ne_b_b102 nin0)
  replace B102 := B102.keep K104
  have OK104 := ext_keep OE102 K104 (allS g_b102 all0)
  replace KP := KP.trans K104 (allS (Or.inr z_b102) all0)
  replace V104 : Arv Z h104 b102 k102 .byte (3 : Int32) [(.int x0), (.int x1), (.int x2)] (.int 0) := V104
  show Go pp ee below _ (T104.setTop (mkF mm 30 #[.val (.ref b), .val (.int 0), .val (.int 3), .val (.int 3), .val (.ref b102)] []))
  refine Go.aload X104 hx (hb hby d12_30) rfl rfl (q := 32) rfl ?_
  exact Go.retA X104 hx hret hlk rfl rfl (hb hby d12_32) e104 (by decide) (by decide) ⟨b102, k102, rfl, N104, KP, z_b102, B102, V104⟩
def Q_ccr_0_3 (Z : State) (b : Addr) (x0 x1 x2 x3 : Int32) (kb : ClassId) (n : Int32) (h0 : Heap) (vR : Option Value) (hR : Heap) (LR : List Loc) : Prop := ∃ b2 : Addr, ∃ kc : ClassId, vR = some (.ref b2) ∧ Fr Z.heap.size LR ∧ Keep h0 hR [] ∧ h0.size ≤ b2 ∧ Exa Z hR b2 "[B" ∧ Arv Z hR b2 kc .byte (3 : Int32) [(.int x0), (.int x1), (.int x2)] (.int 0)
theorem ccr_0_3 (l : Launch) (Z : State) (a0 : Array Value) (hw : ∀ d ∈ tables_1, d.before a0 Z = true) (b : Addr) (x0 x1 x2 x3 : Int32) (kb : ClassId) (n : Int32) (h0 : Heap) (O0 : Ext Z.heap h0) (Vb : Arv Z h0 b kb .byte n [(.int x0), (.int x1), (.int x2), (.int x3)] (.int 0)) (hle : (0 : Int32).toNatClampNeg + (3 : Int32).toNatClampNeg ≤ n.toNatClampNeg) (hmn : ¬ ((n - (0 : Int32)) < (3 : Int32))) (hne : ¬ ((3 : Int32) = n)) :
    Ctr l Z h0 (⟨xS1, "copyOfRange", "([BII)[B"⟩ : MethodName) k11 3 (some (.array .byte)) [] ({ frames := 2, cells := 1, slots := 3, locals := 34 } : Room) #[(.ref b), (.int 0), (.int 3)] (Q_ccr_0_3 Z b x0 x1 x2 x3 kb n h0) := by
  refine enter (plainFor_of_name pn5) ?_
  intro pp ee ss mm below meth cc s₁ hx hby hml hZ hown hnm hret hlk X0 e0 hs0
  replace hown : ss.vm.findClass xS1 = some mm.cls := hown
  refine Go.cast (congrArg s₁.setTop (ef_ccr_0_3 mm b)) ?_
  have N0 := Fr.nil Z.heap.size
  have KP := Keep.refl h0 []
  show Go pp ee below _ (s₁.setTop (mkF mm 0 #[.val (.ref b), .val (.int 0), .val (.int 3)] []))
  refine Go.iloadN X0 hx (hb hby d11_0) rfl (q := 1) rfl ?_
  refine Go.ifNo X0 hx (hb hby d11_1) (by decide) (q := 4) rfl ?_
  refine Go.iloadN X0 hx (hb hby d11_4) rfl (q := 5) rfl ?_
  refine Go.aloadN X0 hx (hb hby d11_5) rfl rfl (q := 6) rfl ?_
  refine Go.alen X0 hx hZ e0 Vb (hb hby d11_6) ?_
  refine Go.icmpNo X0 hx (hb hby d11_7) (Jvm.Free.XT.ii_eq_f hne) (q := 10) rfl ?_
  refine Go.aloadN X0 hx (hb hby d11_10) rfl rfl (q := 11) rfl ?_
  refine Go.iloadN X0 hx (hb hby d11_11) rfl (q := 12) rfl ?_
  refine Go.iloadN X0 hx (hb hby d11_12) rfl (q := 13) rfl ?_
  refine Go.callS X0 hx hZ hown (wd59 hw) (wd60 hw) (wd57 hw) (wd61 hw) (by decide) (ccrb_0_3 l Z a0 hw b x0 x1 x2 x3 (kb) n h0 O0 Vb hle hmn) e0 (by rw [hml]; rfl) (hb hby d11_13) (argsL := [(.ref b), (.int 0), (.int 3)]) (rest := []) (lenOf pd8 rfl) rfl rfl (W := 0) (Nat.le_refl _) (by decide) ?_
  intro v101 T101 L101 X101 hQ101
  obtain ⟨h101, e101⟩ : ∃ z, T101.heap = z := ⟨_, rfl⟩
  rw [e101] at hQ101
  obtain ⟨b2_101, kc_101, rfl, N101q, K101, fr101_b2, P101_0, P101_1⟩ := hQ101
  have N101 := Fr.app N0 N101q
  have ne_b_b2_101 : b ≠ b2_101 := ne_new Vb.lt fr101_b2
  have g_b2_101 : Z.heap.size ≤ b2_101 := Nat.le_trans O0.1 fr101_b2
  have z_b2_101 : h0.size ≤ b2_101 := Nat.le_trans KP.1 fr101_b2
  replace Vb := Vb.keep K101 nin0
  have OK101 := ext_keep O0 K101 all0
  replace KP := KP.trans K101 all0
  exact Go.retA X101 hx hret hlk rfl rfl (hb hby d11_16) e101 (by decide) (by decide) ⟨b2_101, kc_101, rfl, N101, KP, z_b2_101, P101_0, P101_1⟩
def Q_ccrb_0_4 (Z : State) (b : Addr) (x0 x1 x2 x3 : Int32) (kb : ClassId) (n : Int32) (h0 : Heap) (vR : Option Value) (hR : Heap) (LR : List Loc) : Prop := ∃ b2 : Addr, ∃ kc : ClassId, vR = some (.ref b2) ∧ Fr Z.heap.size LR ∧ Keep h0 hR [] ∧ h0.size ≤ b2 ∧ Exa Z hR b2 "[B" ∧ Arv Z hR b2 kc .byte (4 : Int32) [(.int x0), (.int x1), (.int x2), (.int x3)] (.int 0)
theorem ccrb_0_4 (l : Launch) (Z : State) (a0 : Array Value) (hw : ∀ d ∈ tables_1, d.before a0 Z = true) (b : Addr) (x0 x1 x2 x3 : Int32) (kb : ClassId) (n : Int32) (h0 : Heap) (O0 : Ext Z.heap h0) (Vb : Arv Z h0 b kb .byte n [(.int x0), (.int x1), (.int x2), (.int x3)] (.int 0)) (hle : (0 : Int32).toNatClampNeg + (4 : Int32).toNatClampNeg ≤ n.toNatClampNeg) (hmn : ¬ ((n - (0 : Int32)) < (4 : Int32))) :
    Ctr l Z h0 (⟨xS1, "copyOfRangeByte", "([BII)[B"⟩ : MethodName) k12 5 (some (.array .byte)) [] ({ frames := 1, cells := 1, slots := 4, locals := 18 } : Room) #[(.ref b), (.int 0), (.int 4)] (Q_ccrb_0_4 Z b x0 x1 x2 x3 kb n h0) := by
  refine enter (plainFor_of_name pn5) ?_
  intro pp ee ss mm below meth cc s₁ hx hby hml hZ hown hnm hret hlk X0 e0 hs0
  replace hown : ss.vm.findClass xS1 = some mm.cls := hown
  refine Go.cast (congrArg s₁.setTop (ef_ccrb_0_4 mm b)) ?_
  have N0 := Fr.nil Z.heap.size
  have KP := Keep.refl h0 []
  show Go pp ee below _ (s₁.setTop (mkF mm 0 #[.val (.ref b), .val (.int 0), .val (.int 4), .unset, .unset] []))
  refine Go.iloadN X0 hx (hb hby d12_0) rfl (q := 1) rfl ?_
  refine Go.iloadN X0 hx (hb hby d12_1) rfl (q := 2) rfl ?_
  refine Go.callS X0 hx hZ hown (wd62 hw) (wd63 hw) (wd57 hw) (wd64 hw) (by decide) (cchl l Z a0 hw ((0 : Int32)) ((4 : Int32)) h0 O0 (by decide)) e0 (by rw [hml]; rfl) (hb hby d12_2) (argsL := [(.int 0), (.int 4)]) (rest := []) (lenOf pd7 rfl) rfl rfl (W := 0) (Nat.le_refl _) (by decide) ?_
  intro v101 T101 L101 X101 hQ101
  obtain ⟨rfl, N101q, e101⟩ := hQ101
  have N101 := Fr.app N0 N101q
  refine Go.iloadN X101 hx (hb hby d12_5) rfl (q := 6) rfl ?_
  refine Go.iloadN X101 hx (hb hby d12_6) rfl (q := 7) rfl ?_
  refine Go.isub X101 hx (hb hby d12_7) (r := (4 : Int32)) rfl (q := 8) rfl ?_
  refine Go.istoreN X101 hx (hb hby d12_8) (l' := #[.val (.ref b), .val (.int 0), .val (.int 4), .val (.int 4), .unset]) rfl (q := 9) rfl ?_
  refine Go.iloadN X101 hx (hb hby d12_9) rfl (q := 10) rfl ?_
  refine Go.newP X101 hx hZ (hb hby d12_10) (wd0 hw) e101 (by decide) (cap := 4) (by decide) (by decide) (by decide) (by decide) (ad := "[B") rfl (q := 12) rfl ?_
  intro b102 T102 h102 k102 X102 e102 q102 E102 V102 B102
  have ne_b_b102 : b ≠ b102 := ne_new Vb.lt (Nat.le_of_eq q102)
  have g_b102 : Z.heap.size ≤ b102 := Nat.le_trans O0.1 (Nat.le_of_eq q102)
  have z_b102 : h0.size ≤ b102 := Nat.le_trans KP.1 (Nat.le_of_eq q102)
  replace Vb := Vb.ext E102
  have OE102 := ext_trans O0 E102
  replace KP := KP.ext E102
  replace V102 : Arv Z h102 b102 k102 .byte (4 : Int32) [(.int 0), (.int 0), (.int 0), (.int 0)] (.int 0) := V102.pad (pad_rep [] (.int 0) 4)
  refine Go.astore X102 hx (hb hby d12_12) rfl (l' := #[.val (.ref b), .val (.int 0), .val (.int 4), .val (.int 4), .val (.ref b102)]) rfl (q := 14) rfl ?_
  refine Go.aloadN X102 hx (hb hby d12_14) rfl rfl (q := 15) rfl ?_
  refine Go.iloadN X102 hx (hb hby d12_15) rfl (q := 16) rfl ?_
  refine Go.aload X102 hx (hb hby d12_16) rfl rfl (q := 18) rfl ?_
  refine Go.iconst X102 hx (hb hby d12_18) (r := (0 : Int32)) rfl (q := 19) rfl ?_
  refine Go.aloadN X102 hx (hb hby d12_19) rfl rfl (q := 20) rfl ?_
  refine Go.alen X102 hx hZ e102 Vb (hb hby d12_20) ?_
  refine Go.iloadN X102 hx (hb hby d12_21) rfl (q := 22) rfl ?_
  refine Go.isub X102 hx (hb hby d12_22) rfl (q := 23) rfl ?_
  refine Go.iloadN X102 hx (hb hby d12_23) rfl (q := 24) rfl ?_
  refine Go.callS X102 hx hZ hown (wd65 hw) (wd66 hw) (wd67 hw) (wd68 hw) (by decide) (cmn l Z a0 hw ((n - (0 : Int32))) ((4 : Int32)) h102 OE102 hmn) e102 (by rw [hml]; rfl) (hb hby d12_24) (argsL := [(.int (n - (0 : Int32))), (.int 4)]) (rest := [(.int 0), (.ref b102), (.int 0), (.ref b)]) (lenOf pd1 rfl) rfl rfl (W := 4) (Nat.le_refl _) (by decide) ?_
  intro v103 T103 L103 X103 hQ103
  obtain ⟨rfl, N103q, e103⟩ := hQ103
  have N103 := Fr.app N101 N103q
  obtain ⟨T104, h104, L104, X104, e104, N104, K104, V104, st104⟩ := cpA X103 hx hZ hown (wd69 hw) (wd72 hw) (wd70 hw) (wd71 hw) e103 Vb V102 (us := [(.int x0), (.int x1), (.int x2), (.int x3)]) (sp := (0 : Int32)) (dp := (0 : Int32)) (nn := (4 : Int32)) (Or.inl ⟨rfl, rfl⟩) (by decide) (by decide) (by decide) hle (by decide) rfl (Nat.le_of_ble_eq_true rfl) N103 g_b102 (g := (mkF mm 27 #[.val (.ref b), .val (.int 0), .val (.int 4), .val (.int 4), .val (.ref b102)] [(.int 4), (.int 0), (.ref b102), (.int 0), (.ref b)])) rfl (by rw [hml]; rfl) rfl (hb hby d12_27) (by decide) (W := 0) (by show 2 * 0 + _ ≤ _; exact Nat.le_of_eq rfl) (by decide)
  refine Go.by st104 ?_
  replace Vb := Vb.keep K104 (ninS ne_b_b102 nin0)
  replace B102 := B102.keep K104
  have OK104 := ext_keep OE102 K104 (allS g_b102 all0)
  replace KP := KP.trans K104 (allS (Or.inr z_b102) all0)
  replace V104 : Arv Z h104 b102 k102 .byte (4 : Int32) [(.int x0), (.int x1), (.int x2), (.int x3)] (.int 0) := V104
  show Go pp ee below _ (T104.setTop (mkF mm 30 #[.val (.ref b), .val (.int 0), .val (.int 4), .val (.int 4), .val (.ref b102)] []))
  refine Go.aload X104 hx (hb hby d12_30) rfl rfl (q := 32) rfl ?_
  exact Go.retA X104 hx hret hlk rfl rfl (hb hby d12_32) e104 (by decide) (by decide) ⟨b102, k102, rfl, N104, KP, z_b102, B102, V104⟩
def Q_ccrb_1_1 (Z : State) (b : Addr) (x0 x1 x2 x3 : Int32) (kb : ClassId) (n : Int32) (h0 : Heap) (vR : Option Value) (hR : Heap) (LR : List Loc) : Prop := ∃ b2 : Addr, ∃ kc : ClassId, vR = some (.ref b2) ∧ Fr Z.heap.size LR ∧ Keep h0 hR [] ∧ h0.size ≤ b2 ∧ Exa Z hR b2 "[B" ∧ Arv Z hR b2 kc .byte (0 : Int32) [] (.int 0)
theorem ccrb_1_1 (l : Launch) (Z : State) (a0 : Array Value) (hw : ∀ d ∈ tables_1, d.before a0 Z = true) (b : Addr) (x0 x1 x2 x3 : Int32) (kb : ClassId) (n : Int32) (h0 : Heap) (O0 : Ext Z.heap h0) (Vb : Arv Z h0 b kb .byte n [(.int x0), (.int x1), (.int x2), (.int x3)] (.int 0)) (hle : (1 : Int32).toNatClampNeg + (0 : Int32).toNatClampNeg ≤ n.toNatClampNeg) (hmn : ¬ ((n - (1 : Int32)) < (0 : Int32))) :
    Ctr l Z h0 (⟨xS1, "copyOfRangeByte", "([BII)[B"⟩ : MethodName) k12 5 (some (.array .byte)) [] ({ frames := 1, cells := 1, slots := 0, locals := 18 } : Room) #[(.ref b), (.int 1), (.int 1)] (Q_ccrb_1_1 Z b x0 x1 x2 x3 kb n h0) := by
  refine enter (plainFor_of_name pn5) ?_
  intro pp ee ss mm below meth cc s₁ hx hby hml hZ hown hnm hret hlk X0 e0 hs0
  replace hown : ss.vm.findClass xS1 = some mm.cls := hown
  refine Go.cast (congrArg s₁.setTop (ef_ccrb_1_1 mm b)) ?_
  have N0 := Fr.nil Z.heap.size
  have KP := Keep.refl h0 []
  show Go pp ee below _ (s₁.setTop (mkF mm 0 #[.val (.ref b), .val (.int 1), .val (.int 1), .unset, .unset] []))
  refine Go.iloadN X0 hx (hb hby d12_0) rfl (q := 1) rfl ?_
  refine Go.iloadN X0 hx (hb hby d12_1) rfl (q := 2) rfl ?_
  refine Go.callS X0 hx hZ hown (wd62 hw) (wd63 hw) (wd57 hw) (wd64 hw) (by decide) (cchl l Z a0 hw ((1 : Int32)) ((1 : Int32)) h0 O0 (by decide)) e0 (by rw [hml]; rfl) (hb hby d12_2) (argsL := [(.int 1), (.int 1)]) (rest := []) (lenOf pd7 rfl) rfl rfl (W := 0) (Nat.le_refl _) (by decide) ?_
  intro v101 T101 L101 X101 hQ101
  obtain ⟨rfl, N101q, e101⟩ := hQ101
  have N101 := Fr.app N0 N101q
  refine Go.iloadN X101 hx (hb hby d12_5) rfl (q := 6) rfl ?_
  refine Go.iloadN X101 hx (hb hby d12_6) rfl (q := 7) rfl ?_
  refine Go.isub X101 hx (hb hby d12_7) (r := (0 : Int32)) rfl (q := 8) rfl ?_
  refine Go.istoreN X101 hx (hb hby d12_8) (l' := #[.val (.ref b), .val (.int 1), .val (.int 1), .val (.int 0), .unset]) rfl (q := 9) rfl ?_
  refine Go.iloadN X101 hx (hb hby d12_9) rfl (q := 10) rfl ?_
  refine Go.newP X101 hx hZ (hb hby d12_10) (wd0 hw) e101 (by decide) (cap := 0) (by decide) (by decide) (by decide) (by decide) (ad := "[B") rfl (q := 12) rfl ?_
  intro b102 T102 h102 k102 X102 e102 q102 E102 V102 B102
  have ne_b_b102 : b ≠ b102 := ne_new Vb.lt (Nat.le_of_eq q102)
  have g_b102 : Z.heap.size ≤ b102 := Nat.le_trans O0.1 (Nat.le_of_eq q102)
  have z_b102 : h0.size ≤ b102 := Nat.le_trans KP.1 (Nat.le_of_eq q102)
  replace Vb := Vb.ext E102
  have OE102 := ext_trans O0 E102
  replace KP := KP.ext E102
  replace V102 : Arv Z h102 b102 k102 .byte (0 : Int32) [] (.int 0) := V102
  refine Go.astore X102 hx (hb hby d12_12) rfl (l' := #[.val (.ref b), .val (.int 1), .val (.int 1), .val (.int 0), .val (.ref b102)]) rfl (q := 14) rfl ?_
  refine Go.aloadN X102 hx (hb hby d12_14) rfl rfl (q := 15) rfl ?_
  refine Go.iloadN X102 hx (hb hby d12_15) rfl (q := 16) rfl ?_
  refine Go.aload X102 hx (hb hby d12_16) rfl rfl (q := 18) rfl ?_
  refine Go.iconst X102 hx (hb hby d12_18) (r := (0 : Int32)) rfl (q := 19) rfl ?_
  refine Go.aloadN X102 hx (hb hby d12_19) rfl rfl (q := 20) rfl ?_
  refine Go.alen X102 hx hZ e102 Vb (hb hby d12_20) ?_
  refine Go.iloadN X102 hx (hb hby d12_21) rfl (q := 22) rfl ?_
  refine Go.isub X102 hx (hb hby d12_22) rfl (q := 23) rfl ?_
  refine Go.iloadN X102 hx (hb hby d12_23) rfl (q := 24) rfl ?_
  refine Go.callS X102 hx hZ hown (wd65 hw) (wd66 hw) (wd67 hw) (wd68 hw) (by decide) (cmn l Z a0 hw ((n - (1 : Int32))) ((0 : Int32)) h102 OE102 hmn) e102 (by rw [hml]; rfl) (hb hby d12_24) (argsL := [(.int (n - (1 : Int32))), (.int 0)]) (rest := [(.int 0), (.ref b102), (.int 1), (.ref b)]) (lenOf pd1 rfl) rfl rfl (W := 4) (Nat.le_refl _) (by decide) ?_
  intro v103 T103 L103 X103 hQ103
  obtain ⟨rfl, N103q, e103⟩ := hQ103
  have N103 := Fr.app N101 N103q
  obtain ⟨T104, h104, L104, X104, e104, N104, K104, V104, st104⟩ := cpA X103 hx hZ hown (wd69 hw) (wd72 hw) (wd70 hw) (wd71 hw) e103 Vb V102 (us := []) (sp := (1 : Int32)) (dp := (0 : Int32)) (nn := (0 : Int32)) (Or.inl ⟨rfl, rfl⟩) (by decide) (by decide) (by decide) hle (by decide) rfl (Nat.le_of_ble_eq_true rfl) N103 g_b102 (g := (mkF mm 27 #[.val (.ref b), .val (.int 1), .val (.int 1), .val (.int 0), .val (.ref b102)] [(.int 0), (.int 0), (.ref b102), (.int 1), (.ref b)])) rfl (by rw [hml]; rfl) rfl (hb hby d12_27) (by decide) (W := 0) (by show 2 * 0 + _ ≤ _; exact Nat.le_of_eq rfl) (by decide)
  refine Go.by st104 ?_
  replace Vb := Vb.keep K104 (ninS ne_b_b102 nin0)
  replace B102 := B102.keep K104
  have OK104 := ext_keep OE102 K104 (allS g_b102 all0)
  replace KP := KP.trans K104 (allS (Or.inr z_b102) all0)
  replace V104 : Arv Z h104 b102 k102 .byte (0 : Int32) [] (.int 0) := V104
  show Go pp ee below _ (T104.setTop (mkF mm 30 #[.val (.ref b), .val (.int 1), .val (.int 1), .val (.int 0), .val (.ref b102)] []))
  refine Go.aload X104 hx (hb hby d12_30) rfl rfl (q := 32) rfl ?_
  exact Go.retA X104 hx hret hlk rfl rfl (hb hby d12_32) e104 (by decide) (by decide) ⟨b102, k102, rfl, N104, KP, z_b102, B102, V104⟩
def Q_ccr_1_1 (Z : State) (b : Addr) (x0 x1 x2 x3 : Int32) (kb : ClassId) (n : Int32) (h0 : Heap) (vR : Option Value) (hR : Heap) (LR : List Loc) : Prop := ∃ b2 : Addr, ∃ kc : ClassId, vR = some (.ref b2) ∧ Fr Z.heap.size LR ∧ Keep h0 hR [] ∧ h0.size ≤ b2 ∧ Exa Z hR b2 "[B" ∧ Arv Z hR b2 kc .byte (0 : Int32) [] (.int 0)
theorem ccr_1_1 (l : Launch) (Z : State) (a0 : Array Value) (hw : ∀ d ∈ tables_1, d.before a0 Z = true) (b : Addr) (x0 x1 x2 x3 : Int32) (kb : ClassId) (n : Int32) (h0 : Heap) (O0 : Ext Z.heap h0) (Vb : Arv Z h0 b kb .byte n [(.int x0), (.int x1), (.int x2), (.int x3)] (.int 0)) (hle : (1 : Int32).toNatClampNeg + (0 : Int32).toNatClampNeg ≤ n.toNatClampNeg) (hmn : ¬ ((n - (1 : Int32)) < (0 : Int32))) :
    Ctr l Z h0 (⟨xS1, "copyOfRange", "([BII)[B"⟩ : MethodName) k11 3 (some (.array .byte)) [] ({ frames := 2, cells := 1, slots := 0, locals := 34 } : Room) #[(.ref b), (.int 1), (.int 1)] (Q_ccr_1_1 Z b x0 x1 x2 x3 kb n h0) := by
  refine enter (plainFor_of_name pn5) ?_
  intro pp ee ss mm below meth cc s₁ hx hby hml hZ hown hnm hret hlk X0 e0 hs0
  replace hown : ss.vm.findClass xS1 = some mm.cls := hown
  refine Go.cast (congrArg s₁.setTop (ef_ccr_1_1 mm b)) ?_
  have N0 := Fr.nil Z.heap.size
  have KP := Keep.refl h0 []
  show Go pp ee below _ (s₁.setTop (mkF mm 0 #[.val (.ref b), .val (.int 1), .val (.int 1)] []))
  refine Go.iloadN X0 hx (hb hby d11_0) rfl (q := 1) rfl ?_
  refine Go.ifYes X0 hx (hb hby d11_1) (by decide) (q := 10) (by decide) (by decide) ?_
  refine Go.aloadN X0 hx (hb hby d11_10) rfl rfl (q := 11) rfl ?_
  refine Go.iloadN X0 hx (hb hby d11_11) rfl (q := 12) rfl ?_
  refine Go.iloadN X0 hx (hb hby d11_12) rfl (q := 13) rfl ?_
  refine Go.callS X0 hx hZ hown (wd59 hw) (wd60 hw) (wd57 hw) (wd61 hw) (by decide) (ccrb_1_1 l Z a0 hw b x0 x1 x2 x3 (kb) n h0 O0 Vb hle hmn) e0 (by rw [hml]; rfl) (hb hby d11_13) (argsL := [(.ref b), (.int 1), (.int 1)]) (rest := []) (lenOf pd8 rfl) rfl rfl (W := 0) (Nat.le_refl _) (by decide) ?_
  intro v101 T101 L101 X101 hQ101
  obtain ⟨h101, e101⟩ : ∃ z, T101.heap = z := ⟨_, rfl⟩
  rw [e101] at hQ101
  obtain ⟨b2_101, kc_101, rfl, N101q, K101, fr101_b2, P101_0, P101_1⟩ := hQ101
  have N101 := Fr.app N0 N101q
  have ne_b_b2_101 : b ≠ b2_101 := ne_new Vb.lt fr101_b2
  have g_b2_101 : Z.heap.size ≤ b2_101 := Nat.le_trans O0.1 fr101_b2
  have z_b2_101 : h0.size ≤ b2_101 := Nat.le_trans KP.1 fr101_b2
  replace Vb := Vb.keep K101 nin0
  have OK101 := ext_keep O0 K101 all0
  replace KP := KP.trans K101 all0
  exact Go.retA X101 hx hret hlk rfl rfl (hb hby d11_16) e101 (by decide) (by decide) ⟨b2_101, kc_101, rfl, N101, KP, z_b2_101, P101_0, P101_1⟩
def Q_ccrb_1_2 (Z : State) (b : Addr) (x0 x1 x2 x3 : Int32) (kb : ClassId) (n : Int32) (h0 : Heap) (vR : Option Value) (hR : Heap) (LR : List Loc) : Prop := ∃ b2 : Addr, ∃ kc : ClassId, vR = some (.ref b2) ∧ Fr Z.heap.size LR ∧ Keep h0 hR [] ∧ h0.size ≤ b2 ∧ Exa Z hR b2 "[B" ∧ Arv Z hR b2 kc .byte (1 : Int32) [(.int x1)] (.int 0)
theorem ccrb_1_2 (l : Launch) (Z : State) (a0 : Array Value) (hw : ∀ d ∈ tables_1, d.before a0 Z = true) (b : Addr) (x0 x1 x2 x3 : Int32) (kb : ClassId) (n : Int32) (h0 : Heap) (O0 : Ext Z.heap h0) (Vb : Arv Z h0 b kb .byte n [(.int x0), (.int x1), (.int x2), (.int x3)] (.int 0)) (hle : (1 : Int32).toNatClampNeg + (1 : Int32).toNatClampNeg ≤ n.toNatClampNeg) (hmn : ¬ ((n - (1 : Int32)) < (1 : Int32))) :
    Ctr l Z h0 (⟨xS1, "copyOfRangeByte", "([BII)[B"⟩ : MethodName) k12 5 (some (.array .byte)) [] ({ frames := 1, cells := 1, slots := 1, locals := 18 } : Room) #[(.ref b), (.int 1), (.int 2)] (Q_ccrb_1_2 Z b x0 x1 x2 x3 kb n h0) := by
  refine enter (plainFor_of_name pn5) ?_
  intro pp ee ss mm below meth cc s₁ hx hby hml hZ hown hnm hret hlk X0 e0 hs0
  replace hown : ss.vm.findClass xS1 = some mm.cls := hown
  refine Go.cast (congrArg s₁.setTop (ef_ccrb_1_2 mm b)) ?_
  have N0 := Fr.nil Z.heap.size
  have KP := Keep.refl h0 []
  show Go pp ee below _ (s₁.setTop (mkF mm 0 #[.val (.ref b), .val (.int 1), .val (.int 2), .unset, .unset] []))
  refine Go.iloadN X0 hx (hb hby d12_0) rfl (q := 1) rfl ?_
  refine Go.iloadN X0 hx (hb hby d12_1) rfl (q := 2) rfl ?_
  refine Go.callS X0 hx hZ hown (wd62 hw) (wd63 hw) (wd57 hw) (wd64 hw) (by decide) (cchl l Z a0 hw ((1 : Int32)) ((2 : Int32)) h0 O0 (by decide)) e0 (by rw [hml]; rfl) (hb hby d12_2) (argsL := [(.int 1), (.int 2)]) (rest := []) (lenOf pd7 rfl) rfl rfl (W := 0) (Nat.le_refl _) (by decide) ?_
  intro v101 T101 L101 X101 hQ101
  obtain ⟨rfl, N101q, e101⟩ := hQ101
  have N101 := Fr.app N0 N101q
  refine Go.iloadN X101 hx (hb hby d12_5) rfl (q := 6) rfl ?_
  refine Go.iloadN X101 hx (hb hby d12_6) rfl (q := 7) rfl ?_
  refine Go.isub X101 hx (hb hby d12_7) (r := (1 : Int32)) rfl (q := 8) rfl ?_
  refine Go.istoreN X101 hx (hb hby d12_8) (l' := #[.val (.ref b), .val (.int 1), .val (.int 2), .val (.int 1), .unset]) rfl (q := 9) rfl ?_
  refine Go.iloadN X101 hx (hb hby d12_9) rfl (q := 10) rfl ?_
  refine Go.newP X101 hx hZ (hb hby d12_10) (wd0 hw) e101 (by decide) (cap := 1) (by decide) (by decide) (by decide) (by decide) (ad := "[B") rfl (q := 12) rfl ?_
  intro b102 T102 h102 k102 X102 e102 q102 E102 V102 B102
  have ne_b_b102 : b ≠ b102 := ne_new Vb.lt (Nat.le_of_eq q102)
  have g_b102 : Z.heap.size ≤ b102 := Nat.le_trans O0.1 (Nat.le_of_eq q102)
  have z_b102 : h0.size ≤ b102 := Nat.le_trans KP.1 (Nat.le_of_eq q102)
  replace Vb := Vb.ext E102
  have OE102 := ext_trans O0 E102
  replace KP := KP.ext E102
  replace V102 : Arv Z h102 b102 k102 .byte (1 : Int32) [(.int 0)] (.int 0) := V102.pad (pad_rep [] (.int 0) 1)
  refine Go.astore X102 hx (hb hby d12_12) rfl (l' := #[.val (.ref b), .val (.int 1), .val (.int 2), .val (.int 1), .val (.ref b102)]) rfl (q := 14) rfl ?_
  refine Go.aloadN X102 hx (hb hby d12_14) rfl rfl (q := 15) rfl ?_
  refine Go.iloadN X102 hx (hb hby d12_15) rfl (q := 16) rfl ?_
  refine Go.aload X102 hx (hb hby d12_16) rfl rfl (q := 18) rfl ?_
  refine Go.iconst X102 hx (hb hby d12_18) (r := (0 : Int32)) rfl (q := 19) rfl ?_
  refine Go.aloadN X102 hx (hb hby d12_19) rfl rfl (q := 20) rfl ?_
  refine Go.alen X102 hx hZ e102 Vb (hb hby d12_20) ?_
  refine Go.iloadN X102 hx (hb hby d12_21) rfl (q := 22) rfl ?_
  refine Go.isub X102 hx (hb hby d12_22) rfl (q := 23) rfl ?_
  refine Go.iloadN X102 hx (hb hby d12_23) rfl (q := 24) rfl ?_
  refine Go.callS X102 hx hZ hown (wd65 hw) (wd66 hw) (wd67 hw) (wd68 hw) (by decide) (cmn l Z a0 hw ((n - (1 : Int32))) ((1 : Int32)) h102 OE102 hmn) e102 (by rw [hml]; rfl) (hb hby d12_24) (argsL := [(.int (n - (1 : Int32))), (.int 1)]) (rest := [(.int 0), (.ref b102), (.int 1), (.ref b)]) (lenOf pd1 rfl) rfl rfl (W := 4) (Nat.le_refl _) (by decide) ?_
  intro v103 T103 L103 X103 hQ103
  obtain ⟨rfl, N103q, e103⟩ := hQ103
  have N103 := Fr.app N101 N103q
  obtain ⟨T104, h104, L104, X104, e104, N104, K104, V104, st104⟩ := cpA X103 hx hZ hown (wd69 hw) (wd72 hw) (wd70 hw) (wd71 hw) e103 Vb V102 (us := [(.int x1)]) (sp := (1 : Int32)) (dp := (0 : Int32)) (nn := (1 : Int32)) (Or.inl ⟨rfl, rfl⟩) (by decide) (by decide) (by decide) hle (by decide) rfl (Nat.le_of_ble_eq_true rfl) N103 g_b102 (g := (mkF mm 27 #[.val (.ref b), .val (.int 1), .val (.int 2), .val (.int 1), .val (.ref b102)] [(.int 1), (.int 0), (.ref b102), (.int 1), (.ref b)])) rfl (by rw [hml]; rfl) rfl (hb hby d12_27) (by decide) (W := 0) (by show 2 * 0 + _ ≤ _; exact Nat.le_of_eq rfl) (by decide)
  refine Go.by st104 ?_
  replace Vb := Vb.keep K104 (ninS ne_b_b102 nin0)
  replace B102 := B102.keep K104
  have OK104 := ext_keep OE102 K104 (allS g_b102 all0)
  replace KP := KP.trans K104 (allS (Or.inr z_b102) all0)
  replace V104 : Arv Z h104 b102 k102 .byte (1 : Int32) [(.int x1)] (.int 0) := V104
  show Go pp ee below _ (T104.setTop (mkF mm 30 #[.val (.ref b), .val (.int 1), .val (.int 2), .val (.int 1), .val (.ref b102)] []))
  refine Go.aload X104 hx (hb hby d12_30) rfl rfl (q := 32) rfl ?_
  exact Go.retA X104 hx hret hlk rfl rfl (hb hby d12_32) e104 (by decide) (by decide) ⟨b102, k102, rfl, N104, KP, z_b102, B102, V104⟩
def Q_ccr_1_2 (Z : State) (b : Addr) (x0 x1 x2 x3 : Int32) (kb : ClassId) (n : Int32) (h0 : Heap) (vR : Option Value) (hR : Heap) (LR : List Loc) : Prop := ∃ b2 : Addr, ∃ kc : ClassId, vR = some (.ref b2) ∧ Fr Z.heap.size LR ∧ Keep h0 hR [] ∧ h0.size ≤ b2 ∧ Exa Z hR b2 "[B" ∧ Arv Z hR b2 kc .byte (1 : Int32) [(.int x1)] (.int 0)
theorem ccr_1_2 (l : Launch) (Z : State) (a0 : Array Value) (hw : ∀ d ∈ tables_1, d.before a0 Z = true) (b : Addr) (x0 x1 x2 x3 : Int32) (kb : ClassId) (n : Int32) (h0 : Heap) (O0 : Ext Z.heap h0) (Vb : Arv Z h0 b kb .byte n [(.int x0), (.int x1), (.int x2), (.int x3)] (.int 0)) (hle : (1 : Int32).toNatClampNeg + (1 : Int32).toNatClampNeg ≤ n.toNatClampNeg) (hmn : ¬ ((n - (1 : Int32)) < (1 : Int32))) :
    Ctr l Z h0 (⟨xS1, "copyOfRange", "([BII)[B"⟩ : MethodName) k11 3 (some (.array .byte)) [] ({ frames := 2, cells := 1, slots := 1, locals := 34 } : Room) #[(.ref b), (.int 1), (.int 2)] (Q_ccr_1_2 Z b x0 x1 x2 x3 kb n h0) := by
  refine enter (plainFor_of_name pn5) ?_
  intro pp ee ss mm below meth cc s₁ hx hby hml hZ hown hnm hret hlk X0 e0 hs0
  replace hown : ss.vm.findClass xS1 = some mm.cls := hown
  refine Go.cast (congrArg s₁.setTop (ef_ccr_1_2 mm b)) ?_
  have N0 := Fr.nil Z.heap.size
  have KP := Keep.refl h0 []
  show Go pp ee below _ (s₁.setTop (mkF mm 0 #[.val (.ref b), .val (.int 1), .val (.int 2)] []))
  refine Go.iloadN X0 hx (hb hby d11_0) rfl (q := 1) rfl ?_
  refine Go.ifYes X0 hx (hb hby d11_1) (by decide) (q := 10) (by decide) (by decide) ?_
  refine Go.aloadN X0 hx (hb hby d11_10) rfl rfl (q := 11) rfl ?_
  refine Go.iloadN X0 hx (hb hby d11_11) rfl (q := 12) rfl ?_
  refine Go.iloadN X0 hx (hb hby d11_12) rfl (q := 13) rfl ?_
  refine Go.callS X0 hx hZ hown (wd59 hw) (wd60 hw) (wd57 hw) (wd61 hw) (by decide) (ccrb_1_2 l Z a0 hw b x0 x1 x2 x3 (kb) n h0 O0 Vb hle hmn) e0 (by rw [hml]; rfl) (hb hby d11_13) (argsL := [(.ref b), (.int 1), (.int 2)]) (rest := []) (lenOf pd8 rfl) rfl rfl (W := 0) (Nat.le_refl _) (by decide) ?_
  intro v101 T101 L101 X101 hQ101
  obtain ⟨h101, e101⟩ : ∃ z, T101.heap = z := ⟨_, rfl⟩
  rw [e101] at hQ101
  obtain ⟨b2_101, kc_101, rfl, N101q, K101, fr101_b2, P101_0, P101_1⟩ := hQ101
  have N101 := Fr.app N0 N101q
  have ne_b_b2_101 : b ≠ b2_101 := ne_new Vb.lt fr101_b2
  have g_b2_101 : Z.heap.size ≤ b2_101 := Nat.le_trans O0.1 fr101_b2
  have z_b2_101 : h0.size ≤ b2_101 := Nat.le_trans KP.1 fr101_b2
  replace Vb := Vb.keep K101 nin0
  have OK101 := ext_keep O0 K101 all0
  replace KP := KP.trans K101 all0
  exact Go.retA X101 hx hret hlk rfl rfl (hb hby d11_16) e101 (by decide) (by decide) ⟨b2_101, kc_101, rfl, N101, KP, z_b2_101, P101_0, P101_1⟩
def Q_ccrb_1_3 (Z : State) (b : Addr) (x0 x1 x2 x3 : Int32) (kb : ClassId) (n : Int32) (h0 : Heap) (vR : Option Value) (hR : Heap) (LR : List Loc) : Prop := ∃ b2 : Addr, ∃ kc : ClassId, vR = some (.ref b2) ∧ Fr Z.heap.size LR ∧ Keep h0 hR [] ∧ h0.size ≤ b2 ∧ Exa Z hR b2 "[B" ∧ Arv Z hR b2 kc .byte (2 : Int32) [(.int x1), (.int x2)] (.int 0)
theorem ccrb_1_3 (l : Launch) (Z : State) (a0 : Array Value) (hw : ∀ d ∈ tables_1, d.before a0 Z = true) (b : Addr) (x0 x1 x2 x3 : Int32) (kb : ClassId) (n : Int32) (h0 : Heap) (O0 : Ext Z.heap h0) (Vb : Arv Z h0 b kb .byte n [(.int x0), (.int x1), (.int x2), (.int x3)] (.int 0)) (hle : (1 : Int32).toNatClampNeg + (2 : Int32).toNatClampNeg ≤ n.toNatClampNeg) (hmn : ¬ ((n - (1 : Int32)) < (2 : Int32))) :
    Ctr l Z h0 (⟨xS1, "copyOfRangeByte", "([BII)[B"⟩ : MethodName) k12 5 (some (.array .byte)) [] ({ frames := 1, cells := 1, slots := 2, locals := 18 } : Room) #[(.ref b), (.int 1), (.int 3)] (Q_ccrb_1_3 Z b x0 x1 x2 x3 kb n h0) := by
  refine enter (plainFor_of_name pn5) ?_
  intro pp ee ss mm below meth cc s₁ hx hby hml hZ hown hnm hret hlk X0 e0 hs0
  replace hown : ss.vm.findClass xS1 = some mm.cls := hown
  refine Go.cast (congrArg s₁.setTop (ef_ccrb_1_3 mm b)) ?_
  have N0 := Fr.nil Z.heap.size
  have KP := Keep.refl h0 []
  show Go pp ee below _ (s₁.setTop (mkF mm 0 #[.val (.ref b), .val (.int 1), .val (.int 3), .unset, .unset] []))
  refine Go.iloadN X0 hx (hb hby d12_0) rfl (q := 1) rfl ?_
  refine Go.iloadN X0 hx (hb hby d12_1) rfl (q := 2) rfl ?_
  refine Go.callS X0 hx hZ hown (wd62 hw) (wd63 hw) (wd57 hw) (wd64 hw) (by decide) (cchl l Z a0 hw ((1 : Int32)) ((3 : Int32)) h0 O0 (by decide)) e0 (by rw [hml]; rfl) (hb hby d12_2) (argsL := [(.int 1), (.int 3)]) (rest := []) (lenOf pd7 rfl) rfl rfl (W := 0) (Nat.le_refl _) (by decide) ?_
  intro v101 T101 L101 X101 hQ101
  obtain ⟨rfl, N101q, e101⟩ := hQ101
  have N101 := Fr.app N0 N101q
  refine Go.iloadN X101 hx (hb hby d12_5) rfl (q := 6) rfl ?_
  refine Go.iloadN X101 hx (hb hby d12_6) rfl (q := 7) rfl ?_
  refine Go.isub X101 hx (hb hby d12_7) (r := (2 : Int32)) rfl (q := 8) rfl ?_
  refine Go.istoreN X101 hx (hb hby d12_8) (l' := #[.val (.ref b), .val (.int 1), .val (.int 3), .val (.int 2), .unset]) rfl (q := 9) rfl ?_
  refine Go.iloadN X101 hx (hb hby d12_9) rfl (q := 10) rfl ?_
  refine Go.newP X101 hx hZ (hb hby d12_10) (wd0 hw) e101 (by decide) (cap := 2) (by decide) (by decide) (by decide) (by decide) (ad := "[B") rfl (q := 12) rfl ?_
  intro b102 T102 h102 k102 X102 e102 q102 E102 V102 B102
  have ne_b_b102 : b ≠ b102 := ne_new Vb.lt (Nat.le_of_eq q102)
  have g_b102 : Z.heap.size ≤ b102 := Nat.le_trans O0.1 (Nat.le_of_eq q102)
  have z_b102 : h0.size ≤ b102 := Nat.le_trans KP.1 (Nat.le_of_eq q102)
  replace Vb := Vb.ext E102
  have OE102 := ext_trans O0 E102
  replace KP := KP.ext E102
  replace V102 : Arv Z h102 b102 k102 .byte (2 : Int32) [(.int 0), (.int 0)] (.int 0) := V102.pad (pad_rep [] (.int 0) 2)
  refine Go.astore X102 hx (hb hby d12_12) rfl (l' := #[.val (.ref b), .val (.int 1), .val (.int 3), .val (.int 2), .val (.ref b102)]) rfl (q := 14) rfl ?_
  refine Go.aloadN X102 hx (hb hby d12_14) rfl rfl (q := 15) rfl ?_
  refine Go.iloadN X102 hx (hb hby d12_15) rfl (q := 16) rfl ?_
  refine Go.aload X102 hx (hb hby d12_16) rfl rfl (q := 18) rfl ?_
  refine Go.iconst X102 hx (hb hby d12_18) (r := (0 : Int32)) rfl (q := 19) rfl ?_
  refine Go.aloadN X102 hx (hb hby d12_19) rfl rfl (q := 20) rfl ?_
  refine Go.alen X102 hx hZ e102 Vb (hb hby d12_20) ?_
  refine Go.iloadN X102 hx (hb hby d12_21) rfl (q := 22) rfl ?_
  refine Go.isub X102 hx (hb hby d12_22) rfl (q := 23) rfl ?_
  refine Go.iloadN X102 hx (hb hby d12_23) rfl (q := 24) rfl ?_
  refine Go.callS X102 hx hZ hown (wd65 hw) (wd66 hw) (wd67 hw) (wd68 hw) (by decide) (cmn l Z a0 hw ((n - (1 : Int32))) ((2 : Int32)) h102 OE102 hmn) e102 (by rw [hml]; rfl) (hb hby d12_24) (argsL := [(.int (n - (1 : Int32))), (.int 2)]) (rest := [(.int 0), (.ref b102), (.int 1), (.ref b)]) (lenOf pd1 rfl) rfl rfl (W := 4) (Nat.le_refl _) (by decide) ?_
  intro v103 T103 L103 X103 hQ103
  obtain ⟨rfl, N103q, e103⟩ := hQ103
  have N103 := Fr.app N101 N103q
  obtain ⟨T104, h104, L104, X104, e104, N104, K104, V104, st104⟩ := cpA X103 hx hZ hown (wd69 hw) (wd72 hw) (wd70 hw) (wd71 hw) e103 Vb V102 (us := [(.int x1), (.int x2)]) (sp := (1 : Int32)) (dp := (0 : Int32)) (nn := (2 : Int32)) (Or.inl ⟨rfl, rfl⟩) (by decide) (by decide) (by decide) hle (by decide) rfl (Nat.le_of_ble_eq_true rfl) N103 g_b102 (g := (mkF mm 27 #[.val (.ref b), .val (.int 1), .val (.int 3), .val (.int 2), .val (.ref b102)] [(.int 2), (.int 0), (.ref b102), (.int 1), (.ref b)])) rfl (by rw [hml]; rfl) rfl (hb hby d12_27) (by decide) (W := 0) (by show 2 * 0 + _ ≤ _; exact Nat.le_of_eq rfl) (by decide)
  refine Go.by st104 ?_
  replace Vb := Vb.keep K104 (ninS ne_b_b102 nin0)
  replace B102 := B102.keep K104
  have OK104 := ext_keep OE102 K104 (allS g_b102 all0)
  replace KP := KP.trans K104 (allS (Or.inr z_b102) all0)
  replace V104 : Arv Z h104 b102 k102 .byte (2 : Int32) [(.int x1), (.int x2)] (.int 0) := V104
  show Go pp ee below _ (T104.setTop (mkF mm 30 #[.val (.ref b), .val (.int 1), .val (.int 3), .val (.int 2), .val (.ref b102)] []))
  refine Go.aload X104 hx (hb hby d12_30) rfl rfl (q := 32) rfl ?_
  exact Go.retA X104 hx hret hlk rfl rfl (hb hby d12_32) e104 (by decide) (by decide) ⟨b102, k102, rfl, N104, KP, z_b102, B102, V104⟩
def Q_ccr_1_3 (Z : State) (b : Addr) (x0 x1 x2 x3 : Int32) (kb : ClassId) (n : Int32) (h0 : Heap) (vR : Option Value) (hR : Heap) (LR : List Loc) : Prop := ∃ b2 : Addr, ∃ kc : ClassId, vR = some (.ref b2) ∧ Fr Z.heap.size LR ∧ Keep h0 hR [] ∧ h0.size ≤ b2 ∧ Exa Z hR b2 "[B" ∧ Arv Z hR b2 kc .byte (2 : Int32) [(.int x1), (.int x2)] (.int 0)
theorem ccr_1_3 (l : Launch) (Z : State) (a0 : Array Value) (hw : ∀ d ∈ tables_1, d.before a0 Z = true) (b : Addr) (x0 x1 x2 x3 : Int32) (kb : ClassId) (n : Int32) (h0 : Heap) (O0 : Ext Z.heap h0) (Vb : Arv Z h0 b kb .byte n [(.int x0), (.int x1), (.int x2), (.int x3)] (.int 0)) (hle : (1 : Int32).toNatClampNeg + (2 : Int32).toNatClampNeg ≤ n.toNatClampNeg) (hmn : ¬ ((n - (1 : Int32)) < (2 : Int32))) :
    Ctr l Z h0 (⟨xS1, "copyOfRange", "([BII)[B"⟩ : MethodName) k11 3 (some (.array .byte)) [] ({ frames := 2, cells := 1, slots := 2, locals := 34 } : Room) #[(.ref b), (.int 1), (.int 3)] (Q_ccr_1_3 Z b x0 x1 x2 x3 kb n h0) := by
  refine enter (plainFor_of_name pn5) ?_
  intro pp ee ss mm below meth cc s₁ hx hby hml hZ hown hnm hret hlk X0 e0 hs0
  replace hown : ss.vm.findClass xS1 = some mm.cls := hown
  refine Go.cast (congrArg s₁.setTop (ef_ccr_1_3 mm b)) ?_
  have N0 := Fr.nil Z.heap.size
  have KP := Keep.refl h0 []
  show Go pp ee below _ (s₁.setTop (mkF mm 0 #[.val (.ref b), .val (.int 1), .val (.int 3)] []))
  refine Go.iloadN X0 hx (hb hby d11_0) rfl (q := 1) rfl ?_
  refine Go.ifYes X0 hx (hb hby d11_1) (by decide) (q := 10) (by decide) (by decide) ?_
  refine Go.aloadN X0 hx (hb hby d11_10) rfl rfl (q := 11) rfl ?_
  refine Go.iloadN X0 hx (hb hby d11_11) rfl (q := 12) rfl ?_
  refine Go.iloadN X0 hx (hb hby d11_12) rfl (q := 13) rfl ?_
  refine Go.callS X0 hx hZ hown (wd59 hw) (wd60 hw) (wd57 hw) (wd61 hw) (by decide) (ccrb_1_3 l Z a0 hw b x0 x1 x2 x3 (kb) n h0 O0 Vb hle hmn) e0 (by rw [hml]; rfl) (hb hby d11_13) (argsL := [(.ref b), (.int 1), (.int 3)]) (rest := []) (lenOf pd8 rfl) rfl rfl (W := 0) (Nat.le_refl _) (by decide) ?_
  intro v101 T101 L101 X101 hQ101
  obtain ⟨h101, e101⟩ : ∃ z, T101.heap = z := ⟨_, rfl⟩
  rw [e101] at hQ101
  obtain ⟨b2_101, kc_101, rfl, N101q, K101, fr101_b2, P101_0, P101_1⟩ := hQ101
  have N101 := Fr.app N0 N101q
  have ne_b_b2_101 : b ≠ b2_101 := ne_new Vb.lt fr101_b2
  have g_b2_101 : Z.heap.size ≤ b2_101 := Nat.le_trans O0.1 fr101_b2
  have z_b2_101 : h0.size ≤ b2_101 := Nat.le_trans KP.1 fr101_b2
  replace Vb := Vb.keep K101 nin0
  have OK101 := ext_keep O0 K101 all0
  replace KP := KP.trans K101 all0
  exact Go.retA X101 hx hret hlk rfl rfl (hb hby d11_16) e101 (by decide) (by decide) ⟨b2_101, kc_101, rfl, N101, KP, z_b2_101, P101_0, P101_1⟩
def Q_ccrb_1_4 (Z : State) (b : Addr) (x0 x1 x2 x3 : Int32) (kb : ClassId) (n : Int32) (h0 : Heap) (vR : Option Value) (hR : Heap) (LR : List Loc) : Prop := ∃ b2 : Addr, ∃ kc : ClassId, vR = some (.ref b2) ∧ Fr Z.heap.size LR ∧ Keep h0 hR [] ∧ h0.size ≤ b2 ∧ Exa Z hR b2 "[B" ∧ Arv Z hR b2 kc .byte (3 : Int32) [(.int x1), (.int x2), (.int x3)] (.int 0)
theorem ccrb_1_4 (l : Launch) (Z : State) (a0 : Array Value) (hw : ∀ d ∈ tables_1, d.before a0 Z = true) (b : Addr) (x0 x1 x2 x3 : Int32) (kb : ClassId) (n : Int32) (h0 : Heap) (O0 : Ext Z.heap h0) (Vb : Arv Z h0 b kb .byte n [(.int x0), (.int x1), (.int x2), (.int x3)] (.int 0)) (hle : (1 : Int32).toNatClampNeg + (3 : Int32).toNatClampNeg ≤ n.toNatClampNeg) (hmn : ¬ ((n - (1 : Int32)) < (3 : Int32))) :
    Ctr l Z h0 (⟨xS1, "copyOfRangeByte", "([BII)[B"⟩ : MethodName) k12 5 (some (.array .byte)) [] ({ frames := 1, cells := 1, slots := 3, locals := 18 } : Room) #[(.ref b), (.int 1), (.int 4)] (Q_ccrb_1_4 Z b x0 x1 x2 x3 kb n h0) := by
  refine enter (plainFor_of_name pn5) ?_
  intro pp ee ss mm below meth cc s₁ hx hby hml hZ hown hnm hret hlk X0 e0 hs0
  replace hown : ss.vm.findClass xS1 = some mm.cls := hown
  refine Go.cast (congrArg s₁.setTop (ef_ccrb_1_4 mm b)) ?_
  have N0 := Fr.nil Z.heap.size
  have KP := Keep.refl h0 []
  show Go pp ee below _ (s₁.setTop (mkF mm 0 #[.val (.ref b), .val (.int 1), .val (.int 4), .unset, .unset] []))
  refine Go.iloadN X0 hx (hb hby d12_0) rfl (q := 1) rfl ?_
  refine Go.iloadN X0 hx (hb hby d12_1) rfl (q := 2) rfl ?_
  refine Go.callS X0 hx hZ hown (wd62 hw) (wd63 hw) (wd57 hw) (wd64 hw) (by decide) (cchl l Z a0 hw ((1 : Int32)) ((4 : Int32)) h0 O0 (by decide)) e0 (by rw [hml]; rfl) (hb hby d12_2) (argsL := [(.int 1), (.int 4)]) (rest := []) (lenOf pd7 rfl) rfl rfl (W := 0) (Nat.le_refl _) (by decide) ?_
  intro v101 T101 L101 X101 hQ101
  obtain ⟨rfl, N101q, e101⟩ := hQ101
  have N101 := Fr.app N0 N101q
  refine Go.iloadN X101 hx (hb hby d12_5) rfl (q := 6) rfl ?_
  refine Go.iloadN X101 hx (hb hby d12_6) rfl (q := 7) rfl ?_
  refine Go.isub X101 hx (hb hby d12_7) (r := (3 : Int32)) rfl (q := 8) rfl ?_
  refine Go.istoreN X101 hx (hb hby d12_8) (l' := #[.val (.ref b), .val (.int 1), .val (.int 4), .val (.int 3), .unset]) rfl (q := 9) rfl ?_
  refine Go.iloadN X101 hx (hb hby d12_9) rfl (q := 10) rfl ?_
  refine Go.newP X101 hx hZ (hb hby d12_10) (wd0 hw) e101 (by decide) (cap := 3) (by decide) (by decide) (by decide) (by decide) (ad := "[B") rfl (q := 12) rfl ?_
  intro b102 T102 h102 k102 X102 e102 q102 E102 V102 B102
  have ne_b_b102 : b ≠ b102 := ne_new Vb.lt (Nat.le_of_eq q102)
  have g_b102 : Z.heap.size ≤ b102 := Nat.le_trans O0.1 (Nat.le_of_eq q102)
  have z_b102 : h0.size ≤ b102 := Nat.le_trans KP.1 (Nat.le_of_eq q102)
  replace Vb := Vb.ext E102
  have OE102 := ext_trans O0 E102
  replace KP := KP.ext E102
  replace V102 : Arv Z h102 b102 k102 .byte (3 : Int32) [(.int 0), (.int 0), (.int 0)] (.int 0) := V102.pad (pad_rep [] (.int 0) 3)
  refine Go.astore X102 hx (hb hby d12_12) rfl (l' := #[.val (.ref b), .val (.int 1), .val (.int 4), .val (.int 3), .val (.ref b102)]) rfl (q := 14) rfl ?_
  refine Go.aloadN X102 hx (hb hby d12_14) rfl rfl (q := 15) rfl ?_
  refine Go.iloadN X102 hx (hb hby d12_15) rfl (q := 16) rfl ?_
  refine Go.aload X102 hx (hb hby d12_16) rfl rfl (q := 18) rfl ?_
  refine Go.iconst X102 hx (hb hby d12_18) (r := (0 : Int32)) rfl (q := 19) rfl ?_
  refine Go.aloadN X102 hx (hb hby d12_19) rfl rfl (q := 20) rfl ?_
  refine Go.alen X102 hx hZ e102 Vb (hb hby d12_20) ?_
  refine Go.iloadN X102 hx (hb hby d12_21) rfl (q := 22) rfl ?_
  refine Go.isub X102 hx (hb hby d12_22) rfl (q := 23) rfl ?_
  refine Go.iloadN X102 hx (hb hby d12_23) rfl (q := 24) rfl ?_
  refine Go.callS X102 hx hZ hown (wd65 hw) (wd66 hw) (wd67 hw) (wd68 hw) (by decide) (cmn l Z a0 hw ((n - (1 : Int32))) ((3 : Int32)) h102 OE102 hmn) e102 (by rw [hml]; rfl) (hb hby d12_24) (argsL := [(.int (n - (1 : Int32))), (.int 3)]) (rest := [(.int 0), (.ref b102), (.int 1), (.ref b)]) (lenOf pd1 rfl) rfl rfl (W := 4) (Nat.le_refl _) (by decide) ?_
  intro v103 T103 L103 X103 hQ103
  obtain ⟨rfl, N103q, e103⟩ := hQ103
  have N103 := Fr.app N101 N103q
  obtain ⟨T104, h104, L104, X104, e104, N104, K104, V104, st104⟩ := cpA X103 hx hZ hown (wd69 hw) (wd72 hw) (wd70 hw) (wd71 hw) e103 Vb V102 (us := [(.int x1), (.int x2), (.int x3)]) (sp := (1 : Int32)) (dp := (0 : Int32)) (nn := (3 : Int32)) (Or.inl ⟨rfl, rfl⟩) (by decide) (by decide) (by decide) hle (by decide) rfl (Nat.le_of_ble_eq_true rfl) N103 g_b102 (g := (mkF mm 27 #[.val (.ref b), .val (.int 1), .val (.int 4), .val (.int 3), .val (.ref b102)] [(.int 3), (.int 0), (.ref b102), (.int 1), (.ref b)])) rfl (by rw [hml]; rfl) rfl (hb hby d12_27) (by decide) (W := 0) (by show 2 * 0 + _ ≤ _; exact Nat.le_of_eq rfl) (by decide)
  refine Go.by st104 ?_
  replace Vb := Vb.keep K104 (ninS ne_b_b102 nin0)
  replace B102 := B102.keep K104
  have OK104 := ext_keep OE102 K104 (allS g_b102 all0)
  replace KP := KP.trans K104 (allS (Or.inr z_b102) all0)
  replace V104 : Arv Z h104 b102 k102 .byte (3 : Int32) [(.int x1), (.int x2), (.int x3)] (.int 0) := V104
  show Go pp ee below _ (T104.setTop (mkF mm 30 #[.val (.ref b), .val (.int 1), .val (.int 4), .val (.int 3), .val (.ref b102)] []))
  refine Go.aload X104 hx (hb hby d12_30) rfl rfl (q := 32) rfl ?_
  exact Go.retA X104 hx hret hlk rfl rfl (hb hby d12_32) e104 (by decide) (by decide) ⟨b102, k102, rfl, N104, KP, z_b102, B102, V104⟩
def Q_ccr_1_4 (Z : State) (b : Addr) (x0 x1 x2 x3 : Int32) (kb : ClassId) (n : Int32) (h0 : Heap) (vR : Option Value) (hR : Heap) (LR : List Loc) : Prop := ∃ b2 : Addr, ∃ kc : ClassId, vR = some (.ref b2) ∧ Fr Z.heap.size LR ∧ Keep h0 hR [] ∧ h0.size ≤ b2 ∧ Exa Z hR b2 "[B" ∧ Arv Z hR b2 kc .byte (3 : Int32) [(.int x1), (.int x2), (.int x3)] (.int 0)
theorem ccr_1_4 (l : Launch) (Z : State) (a0 : Array Value) (hw : ∀ d ∈ tables_1, d.before a0 Z = true) (b : Addr) (x0 x1 x2 x3 : Int32) (kb : ClassId) (n : Int32) (h0 : Heap) (O0 : Ext Z.heap h0) (Vb : Arv Z h0 b kb .byte n [(.int x0), (.int x1), (.int x2), (.int x3)] (.int 0)) (hle : (1 : Int32).toNatClampNeg + (3 : Int32).toNatClampNeg ≤ n.toNatClampNeg) (hmn : ¬ ((n - (1 : Int32)) < (3 : Int32))) :
    Ctr l Z h0 (⟨xS1, "copyOfRange", "([BII)[B"⟩ : MethodName) k11 3 (some (.array .byte)) [] ({ frames := 2, cells := 1, slots := 3, locals := 34 } : Room) #[(.ref b), (.int 1), (.int 4)] (Q_ccr_1_4 Z b x0 x1 x2 x3 kb n h0) := by
  refine enter (plainFor_of_name pn5) ?_
  intro pp ee ss mm below meth cc s₁ hx hby hml hZ hown hnm hret hlk X0 e0 hs0
  replace hown : ss.vm.findClass xS1 = some mm.cls := hown
  refine Go.cast (congrArg s₁.setTop (ef_ccr_1_4 mm b)) ?_
  have N0 := Fr.nil Z.heap.size
  have KP := Keep.refl h0 []
  show Go pp ee below _ (s₁.setTop (mkF mm 0 #[.val (.ref b), .val (.int 1), .val (.int 4)] []))
  refine Go.iloadN X0 hx (hb hby d11_0) rfl (q := 1) rfl ?_
  refine Go.ifYes X0 hx (hb hby d11_1) (by decide) (q := 10) (by decide) (by decide) ?_
  refine Go.aloadN X0 hx (hb hby d11_10) rfl rfl (q := 11) rfl ?_
  refine Go.iloadN X0 hx (hb hby d11_11) rfl (q := 12) rfl ?_
  refine Go.iloadN X0 hx (hb hby d11_12) rfl (q := 13) rfl ?_
  refine Go.callS X0 hx hZ hown (wd59 hw) (wd60 hw) (wd57 hw) (wd61 hw) (by decide) (ccrb_1_4 l Z a0 hw b x0 x1 x2 x3 (kb) n h0 O0 Vb hle hmn) e0 (by rw [hml]; rfl) (hb hby d11_13) (argsL := [(.ref b), (.int 1), (.int 4)]) (rest := []) (lenOf pd8 rfl) rfl rfl (W := 0) (Nat.le_refl _) (by decide) ?_
  intro v101 T101 L101 X101 hQ101
  obtain ⟨h101, e101⟩ : ∃ z, T101.heap = z := ⟨_, rfl⟩
  rw [e101] at hQ101
  obtain ⟨b2_101, kc_101, rfl, N101q, K101, fr101_b2, P101_0, P101_1⟩ := hQ101
  have N101 := Fr.app N0 N101q
  have ne_b_b2_101 : b ≠ b2_101 := ne_new Vb.lt fr101_b2
  have g_b2_101 : Z.heap.size ≤ b2_101 := Nat.le_trans O0.1 fr101_b2
  have z_b2_101 : h0.size ≤ b2_101 := Nat.le_trans KP.1 fr101_b2
  replace Vb := Vb.keep K101 nin0
  have OK101 := ext_keep O0 K101 all0
  replace KP := KP.trans K101 all0
  exact Go.retA X101 hx hret hlk rfl rfl (hb hby d11_16) e101 (by decide) (by decide) ⟨b2_101, kc_101, rfl, N101, KP, z_b2_101, P101_0, P101_1⟩
def Q_ccrb_2_2 (Z : State) (b : Addr) (x0 x1 x2 x3 : Int32) (kb : ClassId) (n : Int32) (h0 : Heap) (vR : Option Value) (hR : Heap) (LR : List Loc) : Prop := ∃ b2 : Addr, ∃ kc : ClassId, vR = some (.ref b2) ∧ Fr Z.heap.size LR ∧ Keep h0 hR [] ∧ h0.size ≤ b2 ∧ Exa Z hR b2 "[B" ∧ Arv Z hR b2 kc .byte (0 : Int32) [] (.int 0)
theorem ccrb_2_2 (l : Launch) (Z : State) (a0 : Array Value) (hw : ∀ d ∈ tables_1, d.before a0 Z = true) (b : Addr) (x0 x1 x2 x3 : Int32) (kb : ClassId) (n : Int32) (h0 : Heap) (O0 : Ext Z.heap h0) (Vb : Arv Z h0 b kb .byte n [(.int x0), (.int x1), (.int x2), (.int x3)] (.int 0)) (hle : (2 : Int32).toNatClampNeg + (0 : Int32).toNatClampNeg ≤ n.toNatClampNeg) (hmn : ¬ ((n - (2 : Int32)) < (0 : Int32))) :
    Ctr l Z h0 (⟨xS1, "copyOfRangeByte", "([BII)[B"⟩ : MethodName) k12 5 (some (.array .byte)) [] ({ frames := 1, cells := 1, slots := 0, locals := 18 } : Room) #[(.ref b), (.int 2), (.int 2)] (Q_ccrb_2_2 Z b x0 x1 x2 x3 kb n h0) := by
  refine enter (plainFor_of_name pn5) ?_
  intro pp ee ss mm below meth cc s₁ hx hby hml hZ hown hnm hret hlk X0 e0 hs0
  replace hown : ss.vm.findClass xS1 = some mm.cls := hown
  refine Go.cast (congrArg s₁.setTop (ef_ccrb_2_2 mm b)) ?_
  have N0 := Fr.nil Z.heap.size
  have KP := Keep.refl h0 []
  show Go pp ee below _ (s₁.setTop (mkF mm 0 #[.val (.ref b), .val (.int 2), .val (.int 2), .unset, .unset] []))
  refine Go.iloadN X0 hx (hb hby d12_0) rfl (q := 1) rfl ?_
  refine Go.iloadN X0 hx (hb hby d12_1) rfl (q := 2) rfl ?_
  refine Go.callS X0 hx hZ hown (wd62 hw) (wd63 hw) (wd57 hw) (wd64 hw) (by decide) (cchl l Z a0 hw ((2 : Int32)) ((2 : Int32)) h0 O0 (by decide)) e0 (by rw [hml]; rfl) (hb hby d12_2) (argsL := [(.int 2), (.int 2)]) (rest := []) (lenOf pd7 rfl) rfl rfl (W := 0) (Nat.le_refl _) (by decide) ?_
  intro v101 T101 L101 X101 hQ101
  obtain ⟨rfl, N101q, e101⟩ := hQ101
  have N101 := Fr.app N0 N101q
  refine Go.iloadN X101 hx (hb hby d12_5) rfl (q := 6) rfl ?_
  refine Go.iloadN X101 hx (hb hby d12_6) rfl (q := 7) rfl ?_
  refine Go.isub X101 hx (hb hby d12_7) (r := (0 : Int32)) rfl (q := 8) rfl ?_
  refine Go.istoreN X101 hx (hb hby d12_8) (l' := #[.val (.ref b), .val (.int 2), .val (.int 2), .val (.int 0), .unset]) rfl (q := 9) rfl ?_
  refine Go.iloadN X101 hx (hb hby d12_9) rfl (q := 10) rfl ?_
  refine Go.newP X101 hx hZ (hb hby d12_10) (wd0 hw) e101 (by decide) (cap := 0) (by decide) (by decide) (by decide) (by decide) (ad := "[B") rfl (q := 12) rfl ?_
  intro b102 T102 h102 k102 X102 e102 q102 E102 V102 B102
  have ne_b_b102 : b ≠ b102 := ne_new Vb.lt (Nat.le_of_eq q102)
  have g_b102 : Z.heap.size ≤ b102 := Nat.le_trans O0.1 (Nat.le_of_eq q102)
  have z_b102 : h0.size ≤ b102 := Nat.le_trans KP.1 (Nat.le_of_eq q102)
  replace Vb := Vb.ext E102
  have OE102 := ext_trans O0 E102
  replace KP := KP.ext E102
  replace V102 : Arv Z h102 b102 k102 .byte (0 : Int32) [] (.int 0) := V102
  refine Go.astore X102 hx (hb hby d12_12) rfl (l' := #[.val (.ref b), .val (.int 2), .val (.int 2), .val (.int 0), .val (.ref b102)]) rfl (q := 14) rfl ?_
  refine Go.aloadN X102 hx (hb hby d12_14) rfl rfl (q := 15) rfl ?_
  refine Go.iloadN X102 hx (hb hby d12_15) rfl (q := 16) rfl ?_
  refine Go.aload X102 hx (hb hby d12_16) rfl rfl (q := 18) rfl ?_
  refine Go.iconst X102 hx (hb hby d12_18) (r := (0 : Int32)) rfl (q := 19) rfl ?_
  refine Go.aloadN X102 hx (hb hby d12_19) rfl rfl (q := 20) rfl ?_
  refine Go.alen X102 hx hZ e102 Vb (hb hby d12_20) ?_
  refine Go.iloadN X102 hx (hb hby d12_21) rfl (q := 22) rfl ?_
  refine Go.isub X102 hx (hb hby d12_22) rfl (q := 23) rfl ?_
  refine Go.iloadN X102 hx (hb hby d12_23) rfl (q := 24) rfl ?_
  refine Go.callS X102 hx hZ hown (wd65 hw) (wd66 hw) (wd67 hw) (wd68 hw) (by decide) (cmn l Z a0 hw ((n - (2 : Int32))) ((0 : Int32)) h102 OE102 hmn) e102 (by rw [hml]; rfl) (hb hby d12_24) (argsL := [(.int (n - (2 : Int32))), (.int 0)]) (rest := [(.int 0), (.ref b102), (.int 2), (.ref b)]) (lenOf pd1 rfl) rfl rfl (W := 4) (Nat.le_refl _) (by decide) ?_
  intro v103 T103 L103 X103 hQ103
  obtain ⟨rfl, N103q, e103⟩ := hQ103
  have N103 := Fr.app N101 N103q
  obtain ⟨T104, h104, L104, X104, e104, N104, K104, V104, st104⟩ := cpA X103 hx hZ hown (wd69 hw) (wd72 hw) (wd70 hw) (wd71 hw) e103 Vb V102 (us := []) (sp := (2 : Int32)) (dp := (0 : Int32)) (nn := (0 : Int32)) (Or.inl ⟨rfl, rfl⟩) (by decide) (by decide) (by decide) hle (by decide) rfl (Nat.le_of_ble_eq_true rfl) N103 g_b102 (g := (mkF mm 27 #[.val (.ref b), .val (.int 2), .val (.int 2), .val (.int 0), .val (.ref b102)] [(.int 0), (.int 0), (.ref b102), (.int 2), (.ref b)])) rfl (by rw [hml]; rfl) rfl (hb hby d12_27) (by decide) (W := 0) (by show 2 * 0 + _ ≤ _; exact Nat.le_of_eq rfl) (by decide)
  refine Go.by st104 ?_
  replace Vb := Vb.keep K104 (ninS ne_b_b102 nin0)
  replace B102 := B102.keep K104
  have OK104 := ext_keep OE102 K104 (allS g_b102 all0)
  replace KP := KP.trans K104 (allS (Or.inr z_b102) all0)
  replace V104 : Arv Z h104 b102 k102 .byte (0 : Int32) [] (.int 0) := V104
  show Go pp ee below _ (T104.setTop (mkF mm 30 #[.val (.ref b), .val (.int 2), .val (.int 2), .val (.int 0), .val (.ref b102)] []))
  refine Go.aload X104 hx (hb hby d12_30) rfl rfl (q := 32) rfl ?_
  exact Go.retA X104 hx hret hlk rfl rfl (hb hby d12_32) e104 (by decide) (by decide) ⟨b102, k102, rfl, N104, KP, z_b102, B102, V104⟩
def Q_ccr_2_2 (Z : State) (b : Addr) (x0 x1 x2 x3 : Int32) (kb : ClassId) (n : Int32) (h0 : Heap) (vR : Option Value) (hR : Heap) (LR : List Loc) : Prop := ∃ b2 : Addr, ∃ kc : ClassId, vR = some (.ref b2) ∧ Fr Z.heap.size LR ∧ Keep h0 hR [] ∧ h0.size ≤ b2 ∧ Exa Z hR b2 "[B" ∧ Arv Z hR b2 kc .byte (0 : Int32) [] (.int 0)
theorem ccr_2_2 (l : Launch) (Z : State) (a0 : Array Value) (hw : ∀ d ∈ tables_1, d.before a0 Z = true) (b : Addr) (x0 x1 x2 x3 : Int32) (kb : ClassId) (n : Int32) (h0 : Heap) (O0 : Ext Z.heap h0) (Vb : Arv Z h0 b kb .byte n [(.int x0), (.int x1), (.int x2), (.int x3)] (.int 0)) (hle : (2 : Int32).toNatClampNeg + (0 : Int32).toNatClampNeg ≤ n.toNatClampNeg) (hmn : ¬ ((n - (2 : Int32)) < (0 : Int32))) :
    Ctr l Z h0 (⟨xS1, "copyOfRange", "([BII)[B"⟩ : MethodName) k11 3 (some (.array .byte)) [] ({ frames := 2, cells := 1, slots := 0, locals := 34 } : Room) #[(.ref b), (.int 2), (.int 2)] (Q_ccr_2_2 Z b x0 x1 x2 x3 kb n h0) := by
  refine enter (plainFor_of_name pn5) ?_
  intro pp ee ss mm below meth cc s₁ hx hby hml hZ hown hnm hret hlk X0 e0 hs0
  replace hown : ss.vm.findClass xS1 = some mm.cls := hown
  refine Go.cast (congrArg s₁.setTop (ef_ccr_2_2 mm b)) ?_
  have N0 := Fr.nil Z.heap.size
  have KP := Keep.refl h0 []
  show Go pp ee below _ (s₁.setTop (mkF mm 0 #[.val (.ref b), .val (.int 2), .val (.int 2)] []))
  refine Go.iloadN X0 hx (hb hby d11_0) rfl (q := 1) rfl ?_
  refine Go.ifYes X0 hx (hb hby d11_1) (by decide) (q := 10) (by decide) (by decide) ?_
  refine Go.aloadN X0 hx (hb hby d11_10) rfl rfl (q := 11) rfl ?_
  refine Go.iloadN X0 hx (hb hby d11_11) rfl (q := 12) rfl ?_
  refine Go.iloadN X0 hx (hb hby d11_12) rfl (q := 13) rfl ?_
  refine Go.callS X0 hx hZ hown (wd59 hw) (wd60 hw) (wd57 hw) (wd61 hw) (by decide) (ccrb_2_2 l Z a0 hw b x0 x1 x2 x3 (kb) n h0 O0 Vb hle hmn) e0 (by rw [hml]; rfl) (hb hby d11_13) (argsL := [(.ref b), (.int 2), (.int 2)]) (rest := []) (lenOf pd8 rfl) rfl rfl (W := 0) (Nat.le_refl _) (by decide) ?_
  intro v101 T101 L101 X101 hQ101
  obtain ⟨h101, e101⟩ : ∃ z, T101.heap = z := ⟨_, rfl⟩
  rw [e101] at hQ101
  obtain ⟨b2_101, kc_101, rfl, N101q, K101, fr101_b2, P101_0, P101_1⟩ := hQ101
  have N101 := Fr.app N0 N101q
  have ne_b_b2_101 : b ≠ b2_101 := ne_new Vb.lt fr101_b2
  have g_b2_101 : Z.heap.size ≤ b2_101 := Nat.le_trans O0.1 fr101_b2
  have z_b2_101 : h0.size ≤ b2_101 := Nat.le_trans KP.1 fr101_b2
  replace Vb := Vb.keep K101 nin0
  have OK101 := ext_keep O0 K101 all0
  replace KP := KP.trans K101 all0
  exact Go.retA X101 hx hret hlk rfl rfl (hb hby d11_16) e101 (by decide) (by decide) ⟨b2_101, kc_101, rfl, N101, KP, z_b2_101, P101_0, P101_1⟩
def Q_ccrb_2_3 (Z : State) (b : Addr) (x0 x1 x2 x3 : Int32) (kb : ClassId) (n : Int32) (h0 : Heap) (vR : Option Value) (hR : Heap) (LR : List Loc) : Prop := ∃ b2 : Addr, ∃ kc : ClassId, vR = some (.ref b2) ∧ Fr Z.heap.size LR ∧ Keep h0 hR [] ∧ h0.size ≤ b2 ∧ Exa Z hR b2 "[B" ∧ Arv Z hR b2 kc .byte (1 : Int32) [(.int x2)] (.int 0)
theorem ccrb_2_3 (l : Launch) (Z : State) (a0 : Array Value) (hw : ∀ d ∈ tables_1, d.before a0 Z = true) (b : Addr) (x0 x1 x2 x3 : Int32) (kb : ClassId) (n : Int32) (h0 : Heap) (O0 : Ext Z.heap h0) (Vb : Arv Z h0 b kb .byte n [(.int x0), (.int x1), (.int x2), (.int x3)] (.int 0)) (hle : (2 : Int32).toNatClampNeg + (1 : Int32).toNatClampNeg ≤ n.toNatClampNeg) (hmn : ¬ ((n - (2 : Int32)) < (1 : Int32))) :
    Ctr l Z h0 (⟨xS1, "copyOfRangeByte", "([BII)[B"⟩ : MethodName) k12 5 (some (.array .byte)) [] ({ frames := 1, cells := 1, slots := 1, locals := 18 } : Room) #[(.ref b), (.int 2), (.int 3)] (Q_ccrb_2_3 Z b x0 x1 x2 x3 kb n h0) := by
  refine enter (plainFor_of_name pn5) ?_
  intro pp ee ss mm below meth cc s₁ hx hby hml hZ hown hnm hret hlk X0 e0 hs0
  replace hown : ss.vm.findClass xS1 = some mm.cls := hown
  refine Go.cast (congrArg s₁.setTop (ef_ccrb_2_3 mm b)) ?_
  have N0 := Fr.nil Z.heap.size
  have KP := Keep.refl h0 []
  show Go pp ee below _ (s₁.setTop (mkF mm 0 #[.val (.ref b), .val (.int 2), .val (.int 3), .unset, .unset] []))
  refine Go.iloadN X0 hx (hb hby d12_0) rfl (q := 1) rfl ?_
  refine Go.iloadN X0 hx (hb hby d12_1) rfl (q := 2) rfl ?_
  refine Go.callS X0 hx hZ hown (wd62 hw) (wd63 hw) (wd57 hw) (wd64 hw) (by decide) (cchl l Z a0 hw ((2 : Int32)) ((3 : Int32)) h0 O0 (by decide)) e0 (by rw [hml]; rfl) (hb hby d12_2) (argsL := [(.int 2), (.int 3)]) (rest := []) (lenOf pd7 rfl) rfl rfl (W := 0) (Nat.le_refl _) (by decide) ?_
  intro v101 T101 L101 X101 hQ101
  obtain ⟨rfl, N101q, e101⟩ := hQ101
  have N101 := Fr.app N0 N101q
  refine Go.iloadN X101 hx (hb hby d12_5) rfl (q := 6) rfl ?_
  refine Go.iloadN X101 hx (hb hby d12_6) rfl (q := 7) rfl ?_
  refine Go.isub X101 hx (hb hby d12_7) (r := (1 : Int32)) rfl (q := 8) rfl ?_
  refine Go.istoreN X101 hx (hb hby d12_8) (l' := #[.val (.ref b), .val (.int 2), .val (.int 3), .val (.int 1), .unset]) rfl (q := 9) rfl ?_
  refine Go.iloadN X101 hx (hb hby d12_9) rfl (q := 10) rfl ?_
  refine Go.newP X101 hx hZ (hb hby d12_10) (wd0 hw) e101 (by decide) (cap := 1) (by decide) (by decide) (by decide) (by decide) (ad := "[B") rfl (q := 12) rfl ?_
  intro b102 T102 h102 k102 X102 e102 q102 E102 V102 B102
  have ne_b_b102 : b ≠ b102 := ne_new Vb.lt (Nat.le_of_eq q102)
  have g_b102 : Z.heap.size ≤ b102 := Nat.le_trans O0.1 (Nat.le_of_eq q102)
  have z_b102 : h0.size ≤ b102 := Nat.le_trans KP.1 (Nat.le_of_eq q102)
  replace Vb := Vb.ext E102
  have OE102 := ext_trans O0 E102
  replace KP := KP.ext E102
  replace V102 : Arv Z h102 b102 k102 .byte (1 : Int32) [(.int 0)] (.int 0) := V102.pad (pad_rep [] (.int 0) 1)
  refine Go.astore X102 hx (hb hby d12_12) rfl (l' := #[.val (.ref b), .val (.int 2), .val (.int 3), .val (.int 1), .val (.ref b102)]) rfl (q := 14) rfl ?_
  refine Go.aloadN X102 hx (hb hby d12_14) rfl rfl (q := 15) rfl ?_
  refine Go.iloadN X102 hx (hb hby d12_15) rfl (q := 16) rfl ?_
  refine Go.aload X102 hx (hb hby d12_16) rfl rfl (q := 18) rfl ?_
  refine Go.iconst X102 hx (hb hby d12_18) (r := (0 : Int32)) rfl (q := 19) rfl ?_
  refine Go.aloadN X102 hx (hb hby d12_19) rfl rfl (q := 20) rfl ?_
  refine Go.alen X102 hx hZ e102 Vb (hb hby d12_20) ?_
  refine Go.iloadN X102 hx (hb hby d12_21) rfl (q := 22) rfl ?_
  refine Go.isub X102 hx (hb hby d12_22) rfl (q := 23) rfl ?_
  refine Go.iloadN X102 hx (hb hby d12_23) rfl (q := 24) rfl ?_
  refine Go.callS X102 hx hZ hown (wd65 hw) (wd66 hw) (wd67 hw) (wd68 hw) (by decide) (cmn l Z a0 hw ((n - (2 : Int32))) ((1 : Int32)) h102 OE102 hmn) e102 (by rw [hml]; rfl) (hb hby d12_24) (argsL := [(.int (n - (2 : Int32))), (.int 1)]) (rest := [(.int 0), (.ref b102), (.int 2), (.ref b)]) (lenOf pd1 rfl) rfl rfl (W := 4) (Nat.le_refl _) (by decide) ?_
  intro v103 T103 L103 X103 hQ103
  obtain ⟨rfl, N103q, e103⟩ := hQ103
  have N103 := Fr.app N101 N103q
  obtain ⟨T104, h104, L104, X104, e104, N104, K104, V104, st104⟩ := cpA X103 hx hZ hown (wd69 hw) (wd72 hw) (wd70 hw) (wd71 hw) e103 Vb V102 (us := [(.int x2)]) (sp := (2 : Int32)) (dp := (0 : Int32)) (nn := (1 : Int32)) (Or.inl ⟨rfl, rfl⟩) (by decide) (by decide) (by decide) hle (by decide) rfl (Nat.le_of_ble_eq_true rfl) N103 g_b102 (g := (mkF mm 27 #[.val (.ref b), .val (.int 2), .val (.int 3), .val (.int 1), .val (.ref b102)] [(.int 1), (.int 0), (.ref b102), (.int 2), (.ref b)])) rfl (by rw [hml]; rfl) rfl (hb hby d12_27) (by decide) (W := 0) (by show 2 * 0 + _ ≤ _; exact Nat.le_of_eq rfl) (by decide)
  refine Go.by st104 ?_
  replace Vb := Vb.keep K104 (ninS ne_b_b102 nin0)
  replace B102 := B102.keep K104
  have OK104 := ext_keep OE102 K104 (allS g_b102 all0)
  replace KP := KP.trans K104 (allS (Or.inr z_b102) all0)
  replace V104 : Arv Z h104 b102 k102 .byte (1 : Int32) [(.int x2)] (.int 0) := V104
  show Go pp ee below _ (T104.setTop (mkF mm 30 #[.val (.ref b), .val (.int 2), .val (.int 3), .val (.int 1), .val (.ref b102)] []))
  refine Go.aload X104 hx (hb hby d12_30) rfl rfl (q := 32) rfl ?_
  exact Go.retA X104 hx hret hlk rfl rfl (hb hby d12_32) e104 (by decide) (by decide) ⟨b102, k102, rfl, N104, KP, z_b102, B102, V104⟩
def Q_ccr_2_3 (Z : State) (b : Addr) (x0 x1 x2 x3 : Int32) (kb : ClassId) (n : Int32) (h0 : Heap) (vR : Option Value) (hR : Heap) (LR : List Loc) : Prop := ∃ b2 : Addr, ∃ kc : ClassId, vR = some (.ref b2) ∧ Fr Z.heap.size LR ∧ Keep h0 hR [] ∧ h0.size ≤ b2 ∧ Exa Z hR b2 "[B" ∧ Arv Z hR b2 kc .byte (1 : Int32) [(.int x2)] (.int 0)
theorem ccr_2_3 (l : Launch) (Z : State) (a0 : Array Value) (hw : ∀ d ∈ tables_1, d.before a0 Z = true) (b : Addr) (x0 x1 x2 x3 : Int32) (kb : ClassId) (n : Int32) (h0 : Heap) (O0 : Ext Z.heap h0) (Vb : Arv Z h0 b kb .byte n [(.int x0), (.int x1), (.int x2), (.int x3)] (.int 0)) (hle : (2 : Int32).toNatClampNeg + (1 : Int32).toNatClampNeg ≤ n.toNatClampNeg) (hmn : ¬ ((n - (2 : Int32)) < (1 : Int32))) :
    Ctr l Z h0 (⟨xS1, "copyOfRange", "([BII)[B"⟩ : MethodName) k11 3 (some (.array .byte)) [] ({ frames := 2, cells := 1, slots := 1, locals := 34 } : Room) #[(.ref b), (.int 2), (.int 3)] (Q_ccr_2_3 Z b x0 x1 x2 x3 kb n h0) := by
  refine enter (plainFor_of_name pn5) ?_
  intro pp ee ss mm below meth cc s₁ hx hby hml hZ hown hnm hret hlk X0 e0 hs0
  replace hown : ss.vm.findClass xS1 = some mm.cls := hown
  refine Go.cast (congrArg s₁.setTop (ef_ccr_2_3 mm b)) ?_
  have N0 := Fr.nil Z.heap.size
  have KP := Keep.refl h0 []
  show Go pp ee below _ (s₁.setTop (mkF mm 0 #[.val (.ref b), .val (.int 2), .val (.int 3)] []))
  refine Go.iloadN X0 hx (hb hby d11_0) rfl (q := 1) rfl ?_
  refine Go.ifYes X0 hx (hb hby d11_1) (by decide) (q := 10) (by decide) (by decide) ?_
  refine Go.aloadN X0 hx (hb hby d11_10) rfl rfl (q := 11) rfl ?_
  refine Go.iloadN X0 hx (hb hby d11_11) rfl (q := 12) rfl ?_
  refine Go.iloadN X0 hx (hb hby d11_12) rfl (q := 13) rfl ?_
  refine Go.callS X0 hx hZ hown (wd59 hw) (wd60 hw) (wd57 hw) (wd61 hw) (by decide) (ccrb_2_3 l Z a0 hw b x0 x1 x2 x3 (kb) n h0 O0 Vb hle hmn) e0 (by rw [hml]; rfl) (hb hby d11_13) (argsL := [(.ref b), (.int 2), (.int 3)]) (rest := []) (lenOf pd8 rfl) rfl rfl (W := 0) (Nat.le_refl _) (by decide) ?_
  intro v101 T101 L101 X101 hQ101
  obtain ⟨h101, e101⟩ : ∃ z, T101.heap = z := ⟨_, rfl⟩
  rw [e101] at hQ101
  obtain ⟨b2_101, kc_101, rfl, N101q, K101, fr101_b2, P101_0, P101_1⟩ := hQ101
  have N101 := Fr.app N0 N101q
  have ne_b_b2_101 : b ≠ b2_101 := ne_new Vb.lt fr101_b2
  have g_b2_101 : Z.heap.size ≤ b2_101 := Nat.le_trans O0.1 fr101_b2
  have z_b2_101 : h0.size ≤ b2_101 := Nat.le_trans KP.1 fr101_b2
  replace Vb := Vb.keep K101 nin0
  have OK101 := ext_keep O0 K101 all0
  replace KP := KP.trans K101 all0
  exact Go.retA X101 hx hret hlk rfl rfl (hb hby d11_16) e101 (by decide) (by decide) ⟨b2_101, kc_101, rfl, N101, KP, z_b2_101, P101_0, P101_1⟩
def Q_ccrb_2_4 (Z : State) (b : Addr) (x0 x1 x2 x3 : Int32) (kb : ClassId) (n : Int32) (h0 : Heap) (vR : Option Value) (hR : Heap) (LR : List Loc) : Prop := ∃ b2 : Addr, ∃ kc : ClassId, vR = some (.ref b2) ∧ Fr Z.heap.size LR ∧ Keep h0 hR [] ∧ h0.size ≤ b2 ∧ Exa Z hR b2 "[B" ∧ Arv Z hR b2 kc .byte (2 : Int32) [(.int x2), (.int x3)] (.int 0)
theorem ccrb_2_4 (l : Launch) (Z : State) (a0 : Array Value) (hw : ∀ d ∈ tables_1, d.before a0 Z = true) (b : Addr) (x0 x1 x2 x3 : Int32) (kb : ClassId) (n : Int32) (h0 : Heap) (O0 : Ext Z.heap h0) (Vb : Arv Z h0 b kb .byte n [(.int x0), (.int x1), (.int x2), (.int x3)] (.int 0)) (hle : (2 : Int32).toNatClampNeg + (2 : Int32).toNatClampNeg ≤ n.toNatClampNeg) (hmn : ¬ ((n - (2 : Int32)) < (2 : Int32))) :
    Ctr l Z h0 (⟨xS1, "copyOfRangeByte", "([BII)[B"⟩ : MethodName) k12 5 (some (.array .byte)) [] ({ frames := 1, cells := 1, slots := 2, locals := 18 } : Room) #[(.ref b), (.int 2), (.int 4)] (Q_ccrb_2_4 Z b x0 x1 x2 x3 kb n h0) := by
  refine enter (plainFor_of_name pn5) ?_
  intro pp ee ss mm below meth cc s₁ hx hby hml hZ hown hnm hret hlk X0 e0 hs0
  replace hown : ss.vm.findClass xS1 = some mm.cls := hown
  refine Go.cast (congrArg s₁.setTop (ef_ccrb_2_4 mm b)) ?_
  have N0 := Fr.nil Z.heap.size
  have KP := Keep.refl h0 []
  show Go pp ee below _ (s₁.setTop (mkF mm 0 #[.val (.ref b), .val (.int 2), .val (.int 4), .unset, .unset] []))
  refine Go.iloadN X0 hx (hb hby d12_0) rfl (q := 1) rfl ?_
  refine Go.iloadN X0 hx (hb hby d12_1) rfl (q := 2) rfl ?_
  refine Go.callS X0 hx hZ hown (wd62 hw) (wd63 hw) (wd57 hw) (wd64 hw) (by decide) (cchl l Z a0 hw ((2 : Int32)) ((4 : Int32)) h0 O0 (by decide)) e0 (by rw [hml]; rfl) (hb hby d12_2) (argsL := [(.int 2), (.int 4)]) (rest := []) (lenOf pd7 rfl) rfl rfl (W := 0) (Nat.le_refl _) (by decide) ?_
  intro v101 T101 L101 X101 hQ101
  obtain ⟨rfl, N101q, e101⟩ := hQ101
  have N101 := Fr.app N0 N101q
  refine Go.iloadN X101 hx (hb hby d12_5) rfl (q := 6) rfl ?_
  refine Go.iloadN X101 hx (hb hby d12_6) rfl (q := 7) rfl ?_
  refine Go.isub X101 hx (hb hby d12_7) (r := (2 : Int32)) rfl (q := 8) rfl ?_
  refine Go.istoreN X101 hx (hb hby d12_8) (l' := #[.val (.ref b), .val (.int 2), .val (.int 4), .val (.int 2), .unset]) rfl (q := 9) rfl ?_
  refine Go.iloadN X101 hx (hb hby d12_9) rfl (q := 10) rfl ?_
  refine Go.newP X101 hx hZ (hb hby d12_10) (wd0 hw) e101 (by decide) (cap := 2) (by decide) (by decide) (by decide) (by decide) (ad := "[B") rfl (q := 12) rfl ?_
  intro b102 T102 h102 k102 X102 e102 q102 E102 V102 B102
  have ne_b_b102 : b ≠ b102 := ne_new Vb.lt (Nat.le_of_eq q102)
  have g_b102 : Z.heap.size ≤ b102 := Nat.le_trans O0.1 (Nat.le_of_eq q102)
  have z_b102 : h0.size ≤ b102 := Nat.le_trans KP.1 (Nat.le_of_eq q102)
  replace Vb := Vb.ext E102
  have OE102 := ext_trans O0 E102
  replace KP := KP.ext E102
  replace V102 : Arv Z h102 b102 k102 .byte (2 : Int32) [(.int 0), (.int 0)] (.int 0) := V102.pad (pad_rep [] (.int 0) 2)
  refine Go.astore X102 hx (hb hby d12_12) rfl (l' := #[.val (.ref b), .val (.int 2), .val (.int 4), .val (.int 2), .val (.ref b102)]) rfl (q := 14) rfl ?_
  refine Go.aloadN X102 hx (hb hby d12_14) rfl rfl (q := 15) rfl ?_
  refine Go.iloadN X102 hx (hb hby d12_15) rfl (q := 16) rfl ?_
  refine Go.aload X102 hx (hb hby d12_16) rfl rfl (q := 18) rfl ?_
  refine Go.iconst X102 hx (hb hby d12_18) (r := (0 : Int32)) rfl (q := 19) rfl ?_
  refine Go.aloadN X102 hx (hb hby d12_19) rfl rfl (q := 20) rfl ?_
  refine Go.alen X102 hx hZ e102 Vb (hb hby d12_20) ?_
  refine Go.iloadN X102 hx (hb hby d12_21) rfl (q := 22) rfl ?_
  refine Go.isub X102 hx (hb hby d12_22) rfl (q := 23) rfl ?_
  refine Go.iloadN X102 hx (hb hby d12_23) rfl (q := 24) rfl ?_
  refine Go.callS X102 hx hZ hown (wd65 hw) (wd66 hw) (wd67 hw) (wd68 hw) (by decide) (cmn l Z a0 hw ((n - (2 : Int32))) ((2 : Int32)) h102 OE102 hmn) e102 (by rw [hml]; rfl) (hb hby d12_24) (argsL := [(.int (n - (2 : Int32))), (.int 2)]) (rest := [(.int 0), (.ref b102), (.int 2), (.ref b)]) (lenOf pd1 rfl) rfl rfl (W := 4) (Nat.le_refl _) (by decide) ?_
  intro v103 T103 L103 X103 hQ103
  obtain ⟨rfl, N103q, e103⟩ := hQ103
  have N103 := Fr.app N101 N103q
  obtain ⟨T104, h104, L104, X104, e104, N104, K104, V104, st104⟩ := cpA X103 hx hZ hown (wd69 hw) (wd72 hw) (wd70 hw) (wd71 hw) e103 Vb V102 (us := [(.int x2), (.int x3)]) (sp := (2 : Int32)) (dp := (0 : Int32)) (nn := (2 : Int32)) (Or.inl ⟨rfl, rfl⟩) (by decide) (by decide) (by decide) hle (by decide) rfl (Nat.le_of_ble_eq_true rfl) N103 g_b102 (g := (mkF mm 27 #[.val (.ref b), .val (.int 2), .val (.int 4), .val (.int 2), .val (.ref b102)] [(.int 2), (.int 0), (.ref b102), (.int 2), (.ref b)])) rfl (by rw [hml]; rfl) rfl (hb hby d12_27) (by decide) (W := 0) (by show 2 * 0 + _ ≤ _; exact Nat.le_of_eq rfl) (by decide)
  refine Go.by st104 ?_
  replace Vb := Vb.keep K104 (ninS ne_b_b102 nin0)
  replace B102 := B102.keep K104
  have OK104 := ext_keep OE102 K104 (allS g_b102 all0)
  replace KP := KP.trans K104 (allS (Or.inr z_b102) all0)
  replace V104 : Arv Z h104 b102 k102 .byte (2 : Int32) [(.int x2), (.int x3)] (.int 0) := V104
  show Go pp ee below _ (T104.setTop (mkF mm 30 #[.val (.ref b), .val (.int 2), .val (.int 4), .val (.int 2), .val (.ref b102)] []))
  refine Go.aload X104 hx (hb hby d12_30) rfl rfl (q := 32) rfl ?_
  exact Go.retA X104 hx hret hlk rfl rfl (hb hby d12_32) e104 (by decide) (by decide) ⟨b102, k102, rfl, N104, KP, z_b102, B102, V104⟩
def Q_ccr_2_4 (Z : State) (b : Addr) (x0 x1 x2 x3 : Int32) (kb : ClassId) (n : Int32) (h0 : Heap) (vR : Option Value) (hR : Heap) (LR : List Loc) : Prop := ∃ b2 : Addr, ∃ kc : ClassId, vR = some (.ref b2) ∧ Fr Z.heap.size LR ∧ Keep h0 hR [] ∧ h0.size ≤ b2 ∧ Exa Z hR b2 "[B" ∧ Arv Z hR b2 kc .byte (2 : Int32) [(.int x2), (.int x3)] (.int 0)
theorem ccr_2_4 (l : Launch) (Z : State) (a0 : Array Value) (hw : ∀ d ∈ tables_1, d.before a0 Z = true) (b : Addr) (x0 x1 x2 x3 : Int32) (kb : ClassId) (n : Int32) (h0 : Heap) (O0 : Ext Z.heap h0) (Vb : Arv Z h0 b kb .byte n [(.int x0), (.int x1), (.int x2), (.int x3)] (.int 0)) (hle : (2 : Int32).toNatClampNeg + (2 : Int32).toNatClampNeg ≤ n.toNatClampNeg) (hmn : ¬ ((n - (2 : Int32)) < (2 : Int32))) :
    Ctr l Z h0 (⟨xS1, "copyOfRange", "([BII)[B"⟩ : MethodName) k11 3 (some (.array .byte)) [] ({ frames := 2, cells := 1, slots := 2, locals := 34 } : Room) #[(.ref b), (.int 2), (.int 4)] (Q_ccr_2_4 Z b x0 x1 x2 x3 kb n h0) := by
  refine enter (plainFor_of_name pn5) ?_
  intro pp ee ss mm below meth cc s₁ hx hby hml hZ hown hnm hret hlk X0 e0 hs0
  replace hown : ss.vm.findClass xS1 = some mm.cls := hown
  refine Go.cast (congrArg s₁.setTop (ef_ccr_2_4 mm b)) ?_
  have N0 := Fr.nil Z.heap.size
  have KP := Keep.refl h0 []
  show Go pp ee below _ (s₁.setTop (mkF mm 0 #[.val (.ref b), .val (.int 2), .val (.int 4)] []))
  refine Go.iloadN X0 hx (hb hby d11_0) rfl (q := 1) rfl ?_
  refine Go.ifYes X0 hx (hb hby d11_1) (by decide) (q := 10) (by decide) (by decide) ?_
  refine Go.aloadN X0 hx (hb hby d11_10) rfl rfl (q := 11) rfl ?_
  refine Go.iloadN X0 hx (hb hby d11_11) rfl (q := 12) rfl ?_
  refine Go.iloadN X0 hx (hb hby d11_12) rfl (q := 13) rfl ?_
  refine Go.callS X0 hx hZ hown (wd59 hw) (wd60 hw) (wd57 hw) (wd61 hw) (by decide) (ccrb_2_4 l Z a0 hw b x0 x1 x2 x3 (kb) n h0 O0 Vb hle hmn) e0 (by rw [hml]; rfl) (hb hby d11_13) (argsL := [(.ref b), (.int 2), (.int 4)]) (rest := []) (lenOf pd8 rfl) rfl rfl (W := 0) (Nat.le_refl _) (by decide) ?_
  intro v101 T101 L101 X101 hQ101
  obtain ⟨h101, e101⟩ : ∃ z, T101.heap = z := ⟨_, rfl⟩
  rw [e101] at hQ101
  obtain ⟨b2_101, kc_101, rfl, N101q, K101, fr101_b2, P101_0, P101_1⟩ := hQ101
  have N101 := Fr.app N0 N101q
  have ne_b_b2_101 : b ≠ b2_101 := ne_new Vb.lt fr101_b2
  have g_b2_101 : Z.heap.size ≤ b2_101 := Nat.le_trans O0.1 fr101_b2
  have z_b2_101 : h0.size ≤ b2_101 := Nat.le_trans KP.1 fr101_b2
  replace Vb := Vb.keep K101 nin0
  have OK101 := ext_keep O0 K101 all0
  replace KP := KP.trans K101 all0
  exact Go.retA X101 hx hret hlk rfl rfl (hb hby d11_16) e101 (by decide) (by decide) ⟨b2_101, kc_101, rfl, N101, KP, z_b2_101, P101_0, P101_1⟩
def Q_ccrb_3_3 (Z : State) (b : Addr) (x0 x1 x2 x3 : Int32) (kb : ClassId) (n : Int32) (h0 : Heap) (vR : Option Value) (hR : Heap) (LR : List Loc) : Prop := ∃ b2 : Addr, ∃ kc : ClassId, vR = some (.ref b2) ∧ Fr Z.heap.size LR ∧ Keep h0 hR [] ∧ h0.size ≤ b2 ∧ Exa Z hR b2 "[B" ∧ Arv Z hR b2 kc .byte (0 : Int32) [] (.int 0)
theorem ccrb_3_3 (l : Launch) (Z : State) (a0 : Array Value) (hw : ∀ d ∈ tables_1, d.before a0 Z = true) (b : Addr) (x0 x1 x2 x3 : Int32) (kb : ClassId) (n : Int32) (h0 : Heap) (O0 : Ext Z.heap h0) (Vb : Arv Z h0 b kb .byte n [(.int x0), (.int x1), (.int x2), (.int x3)] (.int 0)) (hle : (3 : Int32).toNatClampNeg + (0 : Int32).toNatClampNeg ≤ n.toNatClampNeg) (hmn : ¬ ((n - (3 : Int32)) < (0 : Int32))) :
    Ctr l Z h0 (⟨xS1, "copyOfRangeByte", "([BII)[B"⟩ : MethodName) k12 5 (some (.array .byte)) [] ({ frames := 1, cells := 1, slots := 0, locals := 18 } : Room) #[(.ref b), (.int 3), (.int 3)] (Q_ccrb_3_3 Z b x0 x1 x2 x3 kb n h0) := by
  refine enter (plainFor_of_name pn5) ?_
  intro pp ee ss mm below meth cc s₁ hx hby hml hZ hown hnm hret hlk X0 e0 hs0
  replace hown : ss.vm.findClass xS1 = some mm.cls := hown
  refine Go.cast (congrArg s₁.setTop (ef_ccrb_3_3 mm b)) ?_
  have N0 := Fr.nil Z.heap.size
  have KP := Keep.refl h0 []
  show Go pp ee below _ (s₁.setTop (mkF mm 0 #[.val (.ref b), .val (.int 3), .val (.int 3), .unset, .unset] []))
  refine Go.iloadN X0 hx (hb hby d12_0) rfl (q := 1) rfl ?_
  refine Go.iloadN X0 hx (hb hby d12_1) rfl (q := 2) rfl ?_
  refine Go.callS X0 hx hZ hown (wd62 hw) (wd63 hw) (wd57 hw) (wd64 hw) (by decide) (cchl l Z a0 hw ((3 : Int32)) ((3 : Int32)) h0 O0 (by decide)) e0 (by rw [hml]; rfl) (hb hby d12_2) (argsL := [(.int 3), (.int 3)]) (rest := []) (lenOf pd7 rfl) rfl rfl (W := 0) (Nat.le_refl _) (by decide) ?_
  intro v101 T101 L101 X101 hQ101
  obtain ⟨rfl, N101q, e101⟩ := hQ101
  have N101 := Fr.app N0 N101q
  refine Go.iloadN X101 hx (hb hby d12_5) rfl (q := 6) rfl ?_
  refine Go.iloadN X101 hx (hb hby d12_6) rfl (q := 7) rfl ?_
  refine Go.isub X101 hx (hb hby d12_7) (r := (0 : Int32)) rfl (q := 8) rfl ?_
  refine Go.istoreN X101 hx (hb hby d12_8) (l' := #[.val (.ref b), .val (.int 3), .val (.int 3), .val (.int 0), .unset]) rfl (q := 9) rfl ?_
  refine Go.iloadN X101 hx (hb hby d12_9) rfl (q := 10) rfl ?_
  refine Go.newP X101 hx hZ (hb hby d12_10) (wd0 hw) e101 (by decide) (cap := 0) (by decide) (by decide) (by decide) (by decide) (ad := "[B") rfl (q := 12) rfl ?_
  intro b102 T102 h102 k102 X102 e102 q102 E102 V102 B102
  have ne_b_b102 : b ≠ b102 := ne_new Vb.lt (Nat.le_of_eq q102)
  have g_b102 : Z.heap.size ≤ b102 := Nat.le_trans O0.1 (Nat.le_of_eq q102)
  have z_b102 : h0.size ≤ b102 := Nat.le_trans KP.1 (Nat.le_of_eq q102)
  replace Vb := Vb.ext E102
  have OE102 := ext_trans O0 E102
  replace KP := KP.ext E102
  replace V102 : Arv Z h102 b102 k102 .byte (0 : Int32) [] (.int 0) := V102
  refine Go.astore X102 hx (hb hby d12_12) rfl (l' := #[.val (.ref b), .val (.int 3), .val (.int 3), .val (.int 0), .val (.ref b102)]) rfl (q := 14) rfl ?_
  refine Go.aloadN X102 hx (hb hby d12_14) rfl rfl (q := 15) rfl ?_
  refine Go.iloadN X102 hx (hb hby d12_15) rfl (q := 16) rfl ?_
  refine Go.aload X102 hx (hb hby d12_16) rfl rfl (q := 18) rfl ?_
  refine Go.iconst X102 hx (hb hby d12_18) (r := (0 : Int32)) rfl (q := 19) rfl ?_
  refine Go.aloadN X102 hx (hb hby d12_19) rfl rfl (q := 20) rfl ?_
  refine Go.alen X102 hx hZ e102 Vb (hb hby d12_20) ?_
  refine Go.iloadN X102 hx (hb hby d12_21) rfl (q := 22) rfl ?_
  refine Go.isub X102 hx (hb hby d12_22) rfl (q := 23) rfl ?_
  refine Go.iloadN X102 hx (hb hby d12_23) rfl (q := 24) rfl ?_
  refine Go.callS X102 hx hZ hown (wd65 hw) (wd66 hw) (wd67 hw) (wd68 hw) (by decide) (cmn l Z a0 hw ((n - (3 : Int32))) ((0 : Int32)) h102 OE102 hmn) e102 (by rw [hml]; rfl) (hb hby d12_24) (argsL := [(.int (n - (3 : Int32))), (.int 0)]) (rest := [(.int 0), (.ref b102), (.int 3), (.ref b)]) (lenOf pd1 rfl) rfl rfl (W := 4) (Nat.le_refl _) (by decide) ?_
  intro v103 T103 L103 X103 hQ103
  obtain ⟨rfl, N103q, e103⟩ := hQ103
  have N103 := Fr.app N101 N103q
  obtain ⟨T104, h104, L104, X104, e104, N104, K104, V104, st104⟩ := cpA X103 hx hZ hown (wd69 hw) (wd72 hw) (wd70 hw) (wd71 hw) e103 Vb V102 (us := []) (sp := (3 : Int32)) (dp := (0 : Int32)) (nn := (0 : Int32)) (Or.inl ⟨rfl, rfl⟩) (by decide) (by decide) (by decide) hle (by decide) rfl (Nat.le_of_ble_eq_true rfl) N103 g_b102 (g := (mkF mm 27 #[.val (.ref b), .val (.int 3), .val (.int 3), .val (.int 0), .val (.ref b102)] [(.int 0), (.int 0), (.ref b102), (.int 3), (.ref b)])) rfl (by rw [hml]; rfl) rfl (hb hby d12_27) (by decide) (W := 0) (by show 2 * 0 + _ ≤ _; exact Nat.le_of_eq rfl) (by decide)
  refine Go.by st104 ?_
  replace Vb := Vb.keep K104 (ninS ne_b_b102 nin0)
  replace B102 := B102.keep K104
  have OK104 := ext_keep OE102 K104 (allS g_b102 all0)
  replace KP := KP.trans K104 (allS (Or.inr z_b102) all0)
  replace V104 : Arv Z h104 b102 k102 .byte (0 : Int32) [] (.int 0) := V104
  show Go pp ee below _ (T104.setTop (mkF mm 30 #[.val (.ref b), .val (.int 3), .val (.int 3), .val (.int 0), .val (.ref b102)] []))
  refine Go.aload X104 hx (hb hby d12_30) rfl rfl (q := 32) rfl ?_
  exact Go.retA X104 hx hret hlk rfl rfl (hb hby d12_32) e104 (by decide) (by decide) ⟨b102, k102, rfl, N104, KP, z_b102, B102, V104⟩
def Q_ccr_3_3 (Z : State) (b : Addr) (x0 x1 x2 x3 : Int32) (kb : ClassId) (n : Int32) (h0 : Heap) (vR : Option Value) (hR : Heap) (LR : List Loc) : Prop := ∃ b2 : Addr, ∃ kc : ClassId, vR = some (.ref b2) ∧ Fr Z.heap.size LR ∧ Keep h0 hR [] ∧ h0.size ≤ b2 ∧ Exa Z hR b2 "[B" ∧ Arv Z hR b2 kc .byte (0 : Int32) [] (.int 0)
theorem ccr_3_3 (l : Launch) (Z : State) (a0 : Array Value) (hw : ∀ d ∈ tables_1, d.before a0 Z = true) (b : Addr) (x0 x1 x2 x3 : Int32) (kb : ClassId) (n : Int32) (h0 : Heap) (O0 : Ext Z.heap h0) (Vb : Arv Z h0 b kb .byte n [(.int x0), (.int x1), (.int x2), (.int x3)] (.int 0)) (hle : (3 : Int32).toNatClampNeg + (0 : Int32).toNatClampNeg ≤ n.toNatClampNeg) (hmn : ¬ ((n - (3 : Int32)) < (0 : Int32))) :
    Ctr l Z h0 (⟨xS1, "copyOfRange", "([BII)[B"⟩ : MethodName) k11 3 (some (.array .byte)) [] ({ frames := 2, cells := 1, slots := 0, locals := 34 } : Room) #[(.ref b), (.int 3), (.int 3)] (Q_ccr_3_3 Z b x0 x1 x2 x3 kb n h0) := by
  refine enter (plainFor_of_name pn5) ?_
  intro pp ee ss mm below meth cc s₁ hx hby hml hZ hown hnm hret hlk X0 e0 hs0
  replace hown : ss.vm.findClass xS1 = some mm.cls := hown
  refine Go.cast (congrArg s₁.setTop (ef_ccr_3_3 mm b)) ?_
  have N0 := Fr.nil Z.heap.size
  have KP := Keep.refl h0 []
  show Go pp ee below _ (s₁.setTop (mkF mm 0 #[.val (.ref b), .val (.int 3), .val (.int 3)] []))
  refine Go.iloadN X0 hx (hb hby d11_0) rfl (q := 1) rfl ?_
  refine Go.ifYes X0 hx (hb hby d11_1) (by decide) (q := 10) (by decide) (by decide) ?_
  refine Go.aloadN X0 hx (hb hby d11_10) rfl rfl (q := 11) rfl ?_
  refine Go.iloadN X0 hx (hb hby d11_11) rfl (q := 12) rfl ?_
  refine Go.iloadN X0 hx (hb hby d11_12) rfl (q := 13) rfl ?_
  refine Go.callS X0 hx hZ hown (wd59 hw) (wd60 hw) (wd57 hw) (wd61 hw) (by decide) (ccrb_3_3 l Z a0 hw b x0 x1 x2 x3 (kb) n h0 O0 Vb hle hmn) e0 (by rw [hml]; rfl) (hb hby d11_13) (argsL := [(.ref b), (.int 3), (.int 3)]) (rest := []) (lenOf pd8 rfl) rfl rfl (W := 0) (Nat.le_refl _) (by decide) ?_
  intro v101 T101 L101 X101 hQ101
  obtain ⟨h101, e101⟩ : ∃ z, T101.heap = z := ⟨_, rfl⟩
  rw [e101] at hQ101
  obtain ⟨b2_101, kc_101, rfl, N101q, K101, fr101_b2, P101_0, P101_1⟩ := hQ101
  have N101 := Fr.app N0 N101q
  have ne_b_b2_101 : b ≠ b2_101 := ne_new Vb.lt fr101_b2
  have g_b2_101 : Z.heap.size ≤ b2_101 := Nat.le_trans O0.1 fr101_b2
  have z_b2_101 : h0.size ≤ b2_101 := Nat.le_trans KP.1 fr101_b2
  replace Vb := Vb.keep K101 nin0
  have OK101 := ext_keep O0 K101 all0
  replace KP := KP.trans K101 all0
  exact Go.retA X101 hx hret hlk rfl rfl (hb hby d11_16) e101 (by decide) (by decide) ⟨b2_101, kc_101, rfl, N101, KP, z_b2_101, P101_0, P101_1⟩
def Q_ccrb_3_4 (Z : State) (b : Addr) (x0 x1 x2 x3 : Int32) (kb : ClassId) (n : Int32) (h0 : Heap) (vR : Option Value) (hR : Heap) (LR : List Loc) : Prop := ∃ b2 : Addr, ∃ kc : ClassId, vR = some (.ref b2) ∧ Fr Z.heap.size LR ∧ Keep h0 hR [] ∧ h0.size ≤ b2 ∧ Exa Z hR b2 "[B" ∧ Arv Z hR b2 kc .byte (1 : Int32) [(.int x3)] (.int 0)
theorem ccrb_3_4 (l : Launch) (Z : State) (a0 : Array Value) (hw : ∀ d ∈ tables_1, d.before a0 Z = true) (b : Addr) (x0 x1 x2 x3 : Int32) (kb : ClassId) (n : Int32) (h0 : Heap) (O0 : Ext Z.heap h0) (Vb : Arv Z h0 b kb .byte n [(.int x0), (.int x1), (.int x2), (.int x3)] (.int 0)) (hle : (3 : Int32).toNatClampNeg + (1 : Int32).toNatClampNeg ≤ n.toNatClampNeg) (hmn : ¬ ((n - (3 : Int32)) < (1 : Int32))) :
    Ctr l Z h0 (⟨xS1, "copyOfRangeByte", "([BII)[B"⟩ : MethodName) k12 5 (some (.array .byte)) [] ({ frames := 1, cells := 1, slots := 1, locals := 18 } : Room) #[(.ref b), (.int 3), (.int 4)] (Q_ccrb_3_4 Z b x0 x1 x2 x3 kb n h0) := by
  refine enter (plainFor_of_name pn5) ?_
  intro pp ee ss mm below meth cc s₁ hx hby hml hZ hown hnm hret hlk X0 e0 hs0
  replace hown : ss.vm.findClass xS1 = some mm.cls := hown
  refine Go.cast (congrArg s₁.setTop (ef_ccrb_3_4 mm b)) ?_
  have N0 := Fr.nil Z.heap.size
  have KP := Keep.refl h0 []
  show Go pp ee below _ (s₁.setTop (mkF mm 0 #[.val (.ref b), .val (.int 3), .val (.int 4), .unset, .unset] []))
  refine Go.iloadN X0 hx (hb hby d12_0) rfl (q := 1) rfl ?_
  refine Go.iloadN X0 hx (hb hby d12_1) rfl (q := 2) rfl ?_
  refine Go.callS X0 hx hZ hown (wd62 hw) (wd63 hw) (wd57 hw) (wd64 hw) (by decide) (cchl l Z a0 hw ((3 : Int32)) ((4 : Int32)) h0 O0 (by decide)) e0 (by rw [hml]; rfl) (hb hby d12_2) (argsL := [(.int 3), (.int 4)]) (rest := []) (lenOf pd7 rfl) rfl rfl (W := 0) (Nat.le_refl _) (by decide) ?_
  intro v101 T101 L101 X101 hQ101
  obtain ⟨rfl, N101q, e101⟩ := hQ101
  have N101 := Fr.app N0 N101q
  refine Go.iloadN X101 hx (hb hby d12_5) rfl (q := 6) rfl ?_
  refine Go.iloadN X101 hx (hb hby d12_6) rfl (q := 7) rfl ?_
  refine Go.isub X101 hx (hb hby d12_7) (r := (1 : Int32)) rfl (q := 8) rfl ?_
  refine Go.istoreN X101 hx (hb hby d12_8) (l' := #[.val (.ref b), .val (.int 3), .val (.int 4), .val (.int 1), .unset]) rfl (q := 9) rfl ?_
  refine Go.iloadN X101 hx (hb hby d12_9) rfl (q := 10) rfl ?_
  refine Go.newP X101 hx hZ (hb hby d12_10) (wd0 hw) e101 (by decide) (cap := 1) (by decide) (by decide) (by decide) (by decide) (ad := "[B") rfl (q := 12) rfl ?_
  intro b102 T102 h102 k102 X102 e102 q102 E102 V102 B102
  have ne_b_b102 : b ≠ b102 := ne_new Vb.lt (Nat.le_of_eq q102)
  have g_b102 : Z.heap.size ≤ b102 := Nat.le_trans O0.1 (Nat.le_of_eq q102)
  have z_b102 : h0.size ≤ b102 := Nat.le_trans KP.1 (Nat.le_of_eq q102)
  replace Vb := Vb.ext E102
  have OE102 := ext_trans O0 E102
  replace KP := KP.ext E102
  replace V102 : Arv Z h102 b102 k102 .byte (1 : Int32) [(.int 0)] (.int 0) := V102.pad (pad_rep [] (.int 0) 1)
  refine Go.astore X102 hx (hb hby d12_12) rfl (l' := #[.val (.ref b), .val (.int 3), .val (.int 4), .val (.int 1), .val (.ref b102)]) rfl (q := 14) rfl ?_
  refine Go.aloadN X102 hx (hb hby d12_14) rfl rfl (q := 15) rfl ?_
  refine Go.iloadN X102 hx (hb hby d12_15) rfl (q := 16) rfl ?_
  refine Go.aload X102 hx (hb hby d12_16) rfl rfl (q := 18) rfl ?_
  refine Go.iconst X102 hx (hb hby d12_18) (r := (0 : Int32)) rfl (q := 19) rfl ?_
  refine Go.aloadN X102 hx (hb hby d12_19) rfl rfl (q := 20) rfl ?_
  refine Go.alen X102 hx hZ e102 Vb (hb hby d12_20) ?_
  refine Go.iloadN X102 hx (hb hby d12_21) rfl (q := 22) rfl ?_
  refine Go.isub X102 hx (hb hby d12_22) rfl (q := 23) rfl ?_
  refine Go.iloadN X102 hx (hb hby d12_23) rfl (q := 24) rfl ?_
  refine Go.callS X102 hx hZ hown (wd65 hw) (wd66 hw) (wd67 hw) (wd68 hw) (by decide) (cmn l Z a0 hw ((n - (3 : Int32))) ((1 : Int32)) h102 OE102 hmn) e102 (by rw [hml]; rfl) (hb hby d12_24) (argsL := [(.int (n - (3 : Int32))), (.int 1)]) (rest := [(.int 0), (.ref b102), (.int 3), (.ref b)]) (lenOf pd1 rfl) rfl rfl (W := 4) (Nat.le_refl _) (by decide) ?_
  intro v103 T103 L103 X103 hQ103
  obtain ⟨rfl, N103q, e103⟩ := hQ103
  have N103 := Fr.app N101 N103q
  obtain ⟨T104, h104, L104, X104, e104, N104, K104, V104, st104⟩ := cpA X103 hx hZ hown (wd69 hw) (wd72 hw) (wd70 hw) (wd71 hw) e103 Vb V102 (us := [(.int x3)]) (sp := (3 : Int32)) (dp := (0 : Int32)) (nn := (1 : Int32)) (Or.inl ⟨rfl, rfl⟩) (by decide) (by decide) (by decide) hle (by decide) rfl (Nat.le_of_ble_eq_true rfl) N103 g_b102 (g := (mkF mm 27 #[.val (.ref b), .val (.int 3), .val (.int 4), .val (.int 1), .val (.ref b102)] [(.int 1), (.int 0), (.ref b102), (.int 3), (.ref b)])) rfl (by rw [hml]; rfl) rfl (hb hby d12_27) (by decide) (W := 0) (by show 2 * 0 + _ ≤ _; exact Nat.le_of_eq rfl) (by decide)
  refine Go.by st104 ?_
  replace Vb := Vb.keep K104 (ninS ne_b_b102 nin0)
  replace B102 := B102.keep K104
  have OK104 := ext_keep OE102 K104 (allS g_b102 all0)
  replace KP := KP.trans K104 (allS (Or.inr z_b102) all0)
  replace V104 : Arv Z h104 b102 k102 .byte (1 : Int32) [(.int x3)] (.int 0) := V104
  show Go pp ee below _ (T104.setTop (mkF mm 30 #[.val (.ref b), .val (.int 3), .val (.int 4), .val (.int 1), .val (.ref b102)] []))
  refine Go.aload X104 hx (hb hby d12_30) rfl rfl (q := 32) rfl ?_
  exact Go.retA X104 hx hret hlk rfl rfl (hb hby d12_32) e104 (by decide) (by decide) ⟨b102, k102, rfl, N104, KP, z_b102, B102, V104⟩
def Q_ccr_3_4 (Z : State) (b : Addr) (x0 x1 x2 x3 : Int32) (kb : ClassId) (n : Int32) (h0 : Heap) (vR : Option Value) (hR : Heap) (LR : List Loc) : Prop := ∃ b2 : Addr, ∃ kc : ClassId, vR = some (.ref b2) ∧ Fr Z.heap.size LR ∧ Keep h0 hR [] ∧ h0.size ≤ b2 ∧ Exa Z hR b2 "[B" ∧ Arv Z hR b2 kc .byte (1 : Int32) [(.int x3)] (.int 0)
theorem ccr_3_4 (l : Launch) (Z : State) (a0 : Array Value) (hw : ∀ d ∈ tables_1, d.before a0 Z = true) (b : Addr) (x0 x1 x2 x3 : Int32) (kb : ClassId) (n : Int32) (h0 : Heap) (O0 : Ext Z.heap h0) (Vb : Arv Z h0 b kb .byte n [(.int x0), (.int x1), (.int x2), (.int x3)] (.int 0)) (hle : (3 : Int32).toNatClampNeg + (1 : Int32).toNatClampNeg ≤ n.toNatClampNeg) (hmn : ¬ ((n - (3 : Int32)) < (1 : Int32))) :
    Ctr l Z h0 (⟨xS1, "copyOfRange", "([BII)[B"⟩ : MethodName) k11 3 (some (.array .byte)) [] ({ frames := 2, cells := 1, slots := 1, locals := 34 } : Room) #[(.ref b), (.int 3), (.int 4)] (Q_ccr_3_4 Z b x0 x1 x2 x3 kb n h0) := by
  refine enter (plainFor_of_name pn5) ?_
  intro pp ee ss mm below meth cc s₁ hx hby hml hZ hown hnm hret hlk X0 e0 hs0
  replace hown : ss.vm.findClass xS1 = some mm.cls := hown
  refine Go.cast (congrArg s₁.setTop (ef_ccr_3_4 mm b)) ?_
  have N0 := Fr.nil Z.heap.size
  have KP := Keep.refl h0 []
  show Go pp ee below _ (s₁.setTop (mkF mm 0 #[.val (.ref b), .val (.int 3), .val (.int 4)] []))
  refine Go.iloadN X0 hx (hb hby d11_0) rfl (q := 1) rfl ?_
  refine Go.ifYes X0 hx (hb hby d11_1) (by decide) (q := 10) (by decide) (by decide) ?_
  refine Go.aloadN X0 hx (hb hby d11_10) rfl rfl (q := 11) rfl ?_
  refine Go.iloadN X0 hx (hb hby d11_11) rfl (q := 12) rfl ?_
  refine Go.iloadN X0 hx (hb hby d11_12) rfl (q := 13) rfl ?_
  refine Go.callS X0 hx hZ hown (wd59 hw) (wd60 hw) (wd57 hw) (wd61 hw) (by decide) (ccrb_3_4 l Z a0 hw b x0 x1 x2 x3 (kb) n h0 O0 Vb hle hmn) e0 (by rw [hml]; rfl) (hb hby d11_13) (argsL := [(.ref b), (.int 3), (.int 4)]) (rest := []) (lenOf pd8 rfl) rfl rfl (W := 0) (Nat.le_refl _) (by decide) ?_
  intro v101 T101 L101 X101 hQ101
  obtain ⟨h101, e101⟩ : ∃ z, T101.heap = z := ⟨_, rfl⟩
  rw [e101] at hQ101
  obtain ⟨b2_101, kc_101, rfl, N101q, K101, fr101_b2, P101_0, P101_1⟩ := hQ101
  have N101 := Fr.app N0 N101q
  have ne_b_b2_101 : b ≠ b2_101 := ne_new Vb.lt fr101_b2
  have g_b2_101 : Z.heap.size ≤ b2_101 := Nat.le_trans O0.1 fr101_b2
  have z_b2_101 : h0.size ≤ b2_101 := Nat.le_trans KP.1 fr101_b2
  replace Vb := Vb.keep K101 nin0
  have OK101 := ext_keep O0 K101 all0
  replace KP := KP.trans K101 all0
  exact Go.retA X101 hx hret hlk rfl rfl (hb hby d11_16) e101 (by decide) (by decide) ⟨b2_101, kc_101, rfl, N101, KP, z_b2_101, P101_0, P101_1⟩
def Q_ccl_1 (Z : State) (b : Addr) (x0 x1 x2 x3 : Int32) (kb : ClassId) (h0 : Heap) (vR : Option Value) (hR : Heap) (LR : List Loc) : Prop := ∃ b2 : Addr, ∃ kc : ClassId, vR = some (.ref b2) ∧ Fr Z.heap.size LR ∧ Keep h0 hR [] ∧ h0.size ≤ b2 ∧ Exa Z hR b2 "[B" ∧ Arv Z hR b2 kc .byte (1 : Int32) [(.int x0), (.int x1), (.int x2), (.int x3)] (.int 0)
theorem ccl_1 (l : Launch) (Z : State) (a0 : Array Value) (hw : ∀ d ∈ tables_1, d.before a0 Z = true) (b : Addr) (x0 x1 x2 x3 : Int32) (kb : ClassId) (h0 : Heap) (O0 : Ext Z.heap h0) (Eb : Exa Z h0 b "[B") (Vb : Arv Z h0 b kb .byte (1 : Int32) [(.int x0), (.int x1), (.int x2), (.int x3)] (.int 0)) :
    Ctr l Z h0 (⟨xS1, "copyOfRange", "([BII)[B"⟩ : MethodName) k11 3 (some (.array .byte)) [] ({ frames := 1, cells := 1, slots := 1, locals := 14 } : Room) #[(.ref b), (.int 0), (.int 1)] (Q_ccl_1 Z b x0 x1 x2 x3 kb h0) := by
  refine enter (plainFor_of_name pn5) ?_
  intro pp ee ss mm below meth cc s₁ hx hby hml hZ hown hnm hret hlk X0 e0 hs0
  replace hown : ss.vm.findClass xS1 = some mm.cls := hown
  refine Go.cast (congrArg s₁.setTop (ef_ccl_1 mm b)) ?_
  have N0 := Fr.nil Z.heap.size
  have KP := Keep.refl h0 []
  show Go pp ee below _ (s₁.setTop (mkF mm 0 #[.val (.ref b), .val (.int 0), .val (.int 1)] []))
  refine Go.iloadN X0 hx (hb hby d11_0) rfl (q := 1) rfl ?_
  refine Go.ifNo X0 hx (hb hby d11_1) (by decide) (q := 4) rfl ?_
  refine Go.iloadN X0 hx (hb hby d11_4) rfl (q := 5) rfl ?_
  refine Go.aloadN X0 hx (hb hby d11_5) rfl rfl (q := 6) rfl ?_
  refine Go.alen X0 hx hZ e0 Vb (hb hby d11_6) ?_
  refine Go.icmpYes X0 hx (hb hby d11_7) (by decide) (q := 17) (by decide) (by decide) ?_
  refine Go.aloadN X0 hx (hb hby d11_17) rfl rfl (q := 18) rfl ?_
  obtain ⟨T101, h101, X101, e101, E101, V101, B101, st101⟩ := cloneH X0 hx hZ hown (wd133 hw) (wd134 hw) (wd138 hw) (wd136 hw) (wd137 hw) (wd139 hw) e0 Vb.arh Eb (g := (mkF mm 18 #[.val (.ref b), .val (.int 0), .val (.int 1)] [(.ref b)])) rfl (by rw [hml]; rfl) rfl (hb hby d11_18) (by decide) (W := 0) (cap := 1) (by show 2 * 0 + _ ≤ _; exact Nat.le_of_eq rfl) (by decide) (by decide) (by decide) (by decide)
  obtain ⟨b101, q101⟩ : ∃ z, z = h0.size := ⟨_, rfl⟩
  rw [← q101] at V101 B101 st101
  refine Go.by st101 ?_
  have ne_b_b101 : b ≠ b101 := ne_new Eb.lt (Nat.le_of_eq q101.symm)
  have g_b101 : Z.heap.size ≤ b101 := Nat.le_trans O0.1 (Nat.le_of_eq q101.symm)
  have z_b101 : h0.size ≤ b101 := Nat.le_trans KP.1 (Nat.le_of_eq q101.symm)
  replace Eb := Eb.ext E101
  replace Vb := Vb.ext E101
  have OE101 := ext_trans O0 E101
  replace KP := KP.ext E101
  replace V101 : Arv Z h101 b101 kb .byte (1 : Int32) [(.int x0), (.int x1), (.int x2), (.int x3)] (.int 0) := V101
  show Go pp ee below _ (T101.setTop (mkF mm 21 #[.val (.ref b), .val (.int 0), .val (.int 1)] [(.ref b101)]))
  refine Go.castY X101 hx hZ hown (wd140 hw) e101 (Ins.self B101) (hb hby d11_21) (q := 24) rfl ?_
  intro T102 X102 e102
  exact Go.retA X102 hx hret hlk rfl rfl (hb hby d11_24) e102 (by decide) (by decide) ⟨b101, kb, rfl, N0, KP, z_b101, B101, V101⟩
def Q_ccl_2 (Z : State) (b : Addr) (x0 x1 x2 x3 : Int32) (kb : ClassId) (h0 : Heap) (vR : Option Value) (hR : Heap) (LR : List Loc) : Prop := ∃ b2 : Addr, ∃ kc : ClassId, vR = some (.ref b2) ∧ Fr Z.heap.size LR ∧ Keep h0 hR [] ∧ h0.size ≤ b2 ∧ Exa Z hR b2 "[B" ∧ Arv Z hR b2 kc .byte (2 : Int32) [(.int x0), (.int x1), (.int x2), (.int x3)] (.int 0)
theorem ccl_2 (l : Launch) (Z : State) (a0 : Array Value) (hw : ∀ d ∈ tables_1, d.before a0 Z = true) (b : Addr) (x0 x1 x2 x3 : Int32) (kb : ClassId) (h0 : Heap) (O0 : Ext Z.heap h0) (Eb : Exa Z h0 b "[B") (Vb : Arv Z h0 b kb .byte (2 : Int32) [(.int x0), (.int x1), (.int x2), (.int x3)] (.int 0)) :
    Ctr l Z h0 (⟨xS1, "copyOfRange", "([BII)[B"⟩ : MethodName) k11 3 (some (.array .byte)) [] ({ frames := 1, cells := 1, slots := 2, locals := 14 } : Room) #[(.ref b), (.int 0), (.int 2)] (Q_ccl_2 Z b x0 x1 x2 x3 kb h0) := by
  refine enter (plainFor_of_name pn5) ?_
  intro pp ee ss mm below meth cc s₁ hx hby hml hZ hown hnm hret hlk X0 e0 hs0
  replace hown : ss.vm.findClass xS1 = some mm.cls := hown
  refine Go.cast (congrArg s₁.setTop (ef_ccl_2 mm b)) ?_
  have N0 := Fr.nil Z.heap.size
  have KP := Keep.refl h0 []
  show Go pp ee below _ (s₁.setTop (mkF mm 0 #[.val (.ref b), .val (.int 0), .val (.int 2)] []))
  refine Go.iloadN X0 hx (hb hby d11_0) rfl (q := 1) rfl ?_
  refine Go.ifNo X0 hx (hb hby d11_1) (by decide) (q := 4) rfl ?_
  refine Go.iloadN X0 hx (hb hby d11_4) rfl (q := 5) rfl ?_
  refine Go.aloadN X0 hx (hb hby d11_5) rfl rfl (q := 6) rfl ?_
  refine Go.alen X0 hx hZ e0 Vb (hb hby d11_6) ?_
  refine Go.icmpYes X0 hx (hb hby d11_7) (by decide) (q := 17) (by decide) (by decide) ?_
  refine Go.aloadN X0 hx (hb hby d11_17) rfl rfl (q := 18) rfl ?_
  obtain ⟨T101, h101, X101, e101, E101, V101, B101, st101⟩ := cloneH X0 hx hZ hown (wd133 hw) (wd134 hw) (wd138 hw) (wd136 hw) (wd137 hw) (wd139 hw) e0 Vb.arh Eb (g := (mkF mm 18 #[.val (.ref b), .val (.int 0), .val (.int 2)] [(.ref b)])) rfl (by rw [hml]; rfl) rfl (hb hby d11_18) (by decide) (W := 0) (cap := 2) (by show 2 * 0 + _ ≤ _; exact Nat.le_of_eq rfl) (by decide) (by decide) (by decide) (by decide)
  obtain ⟨b101, q101⟩ : ∃ z, z = h0.size := ⟨_, rfl⟩
  rw [← q101] at V101 B101 st101
  refine Go.by st101 ?_
  have ne_b_b101 : b ≠ b101 := ne_new Eb.lt (Nat.le_of_eq q101.symm)
  have g_b101 : Z.heap.size ≤ b101 := Nat.le_trans O0.1 (Nat.le_of_eq q101.symm)
  have z_b101 : h0.size ≤ b101 := Nat.le_trans KP.1 (Nat.le_of_eq q101.symm)
  replace Eb := Eb.ext E101
  replace Vb := Vb.ext E101
  have OE101 := ext_trans O0 E101
  replace KP := KP.ext E101
  replace V101 : Arv Z h101 b101 kb .byte (2 : Int32) [(.int x0), (.int x1), (.int x2), (.int x3)] (.int 0) := V101
  show Go pp ee below _ (T101.setTop (mkF mm 21 #[.val (.ref b), .val (.int 0), .val (.int 2)] [(.ref b101)]))
  refine Go.castY X101 hx hZ hown (wd140 hw) e101 (Ins.self B101) (hb hby d11_21) (q := 24) rfl ?_
  intro T102 X102 e102
  exact Go.retA X102 hx hret hlk rfl rfl (hb hby d11_24) e102 (by decide) (by decide) ⟨b101, kb, rfl, N0, KP, z_b101, B101, V101⟩
def Q_ccl_3 (Z : State) (b : Addr) (x0 x1 x2 x3 : Int32) (kb : ClassId) (h0 : Heap) (vR : Option Value) (hR : Heap) (LR : List Loc) : Prop := ∃ b2 : Addr, ∃ kc : ClassId, vR = some (.ref b2) ∧ Fr Z.heap.size LR ∧ Keep h0 hR [] ∧ h0.size ≤ b2 ∧ Exa Z hR b2 "[B" ∧ Arv Z hR b2 kc .byte (3 : Int32) [(.int x0), (.int x1), (.int x2), (.int x3)] (.int 0)
theorem ccl_3 (l : Launch) (Z : State) (a0 : Array Value) (hw : ∀ d ∈ tables_1, d.before a0 Z = true) (b : Addr) (x0 x1 x2 x3 : Int32) (kb : ClassId) (h0 : Heap) (O0 : Ext Z.heap h0) (Eb : Exa Z h0 b "[B") (Vb : Arv Z h0 b kb .byte (3 : Int32) [(.int x0), (.int x1), (.int x2), (.int x3)] (.int 0)) :
    Ctr l Z h0 (⟨xS1, "copyOfRange", "([BII)[B"⟩ : MethodName) k11 3 (some (.array .byte)) [] ({ frames := 1, cells := 1, slots := 3, locals := 14 } : Room) #[(.ref b), (.int 0), (.int 3)] (Q_ccl_3 Z b x0 x1 x2 x3 kb h0) := by
  refine enter (plainFor_of_name pn5) ?_
  intro pp ee ss mm below meth cc s₁ hx hby hml hZ hown hnm hret hlk X0 e0 hs0
  replace hown : ss.vm.findClass xS1 = some mm.cls := hown
  refine Go.cast (congrArg s₁.setTop (ef_ccl_3 mm b)) ?_
  have N0 := Fr.nil Z.heap.size
  have KP := Keep.refl h0 []
  show Go pp ee below _ (s₁.setTop (mkF mm 0 #[.val (.ref b), .val (.int 0), .val (.int 3)] []))
  refine Go.iloadN X0 hx (hb hby d11_0) rfl (q := 1) rfl ?_
  refine Go.ifNo X0 hx (hb hby d11_1) (by decide) (q := 4) rfl ?_
  refine Go.iloadN X0 hx (hb hby d11_4) rfl (q := 5) rfl ?_
  refine Go.aloadN X0 hx (hb hby d11_5) rfl rfl (q := 6) rfl ?_
  refine Go.alen X0 hx hZ e0 Vb (hb hby d11_6) ?_
  refine Go.icmpYes X0 hx (hb hby d11_7) (by decide) (q := 17) (by decide) (by decide) ?_
  refine Go.aloadN X0 hx (hb hby d11_17) rfl rfl (q := 18) rfl ?_
  obtain ⟨T101, h101, X101, e101, E101, V101, B101, st101⟩ := cloneH X0 hx hZ hown (wd133 hw) (wd134 hw) (wd138 hw) (wd136 hw) (wd137 hw) (wd139 hw) e0 Vb.arh Eb (g := (mkF mm 18 #[.val (.ref b), .val (.int 0), .val (.int 3)] [(.ref b)])) rfl (by rw [hml]; rfl) rfl (hb hby d11_18) (by decide) (W := 0) (cap := 3) (by show 2 * 0 + _ ≤ _; exact Nat.le_of_eq rfl) (by decide) (by decide) (by decide) (by decide)
  obtain ⟨b101, q101⟩ : ∃ z, z = h0.size := ⟨_, rfl⟩
  rw [← q101] at V101 B101 st101
  refine Go.by st101 ?_
  have ne_b_b101 : b ≠ b101 := ne_new Eb.lt (Nat.le_of_eq q101.symm)
  have g_b101 : Z.heap.size ≤ b101 := Nat.le_trans O0.1 (Nat.le_of_eq q101.symm)
  have z_b101 : h0.size ≤ b101 := Nat.le_trans KP.1 (Nat.le_of_eq q101.symm)
  replace Eb := Eb.ext E101
  replace Vb := Vb.ext E101
  have OE101 := ext_trans O0 E101
  replace KP := KP.ext E101
  replace V101 : Arv Z h101 b101 kb .byte (3 : Int32) [(.int x0), (.int x1), (.int x2), (.int x3)] (.int 0) := V101
  show Go pp ee below _ (T101.setTop (mkF mm 21 #[.val (.ref b), .val (.int 0), .val (.int 3)] [(.ref b101)]))
  refine Go.castY X101 hx hZ hown (wd140 hw) e101 (Ins.self B101) (hb hby d11_21) (q := 24) rfl ?_
  intro T102 X102 e102
  exact Go.retA X102 hx hret hlk rfl rfl (hb hby d11_24) e102 (by decide) (by decide) ⟨b101, kb, rfl, N0, KP, z_b101, B101, V101⟩
def Q_ccl_4 (Z : State) (b : Addr) (x0 x1 x2 x3 : Int32) (kb : ClassId) (h0 : Heap) (vR : Option Value) (hR : Heap) (LR : List Loc) : Prop := ∃ b2 : Addr, ∃ kc : ClassId, vR = some (.ref b2) ∧ Fr Z.heap.size LR ∧ Keep h0 hR [] ∧ h0.size ≤ b2 ∧ Exa Z hR b2 "[B" ∧ Arv Z hR b2 kc .byte (4 : Int32) [(.int x0), (.int x1), (.int x2), (.int x3)] (.int 0)
theorem ccl_4 (l : Launch) (Z : State) (a0 : Array Value) (hw : ∀ d ∈ tables_1, d.before a0 Z = true) (b : Addr) (x0 x1 x2 x3 : Int32) (kb : ClassId) (h0 : Heap) (O0 : Ext Z.heap h0) (Eb : Exa Z h0 b "[B") (Vb : Arv Z h0 b kb .byte (4 : Int32) [(.int x0), (.int x1), (.int x2), (.int x3)] (.int 0)) :
    Ctr l Z h0 (⟨xS1, "copyOfRange", "([BII)[B"⟩ : MethodName) k11 3 (some (.array .byte)) [] ({ frames := 1, cells := 1, slots := 4, locals := 14 } : Room) #[(.ref b), (.int 0), (.int 4)] (Q_ccl_4 Z b x0 x1 x2 x3 kb h0) := by
  refine enter (plainFor_of_name pn5) ?_
  intro pp ee ss mm below meth cc s₁ hx hby hml hZ hown hnm hret hlk X0 e0 hs0
  replace hown : ss.vm.findClass xS1 = some mm.cls := hown
  refine Go.cast (congrArg s₁.setTop (ef_ccl_4 mm b)) ?_
  have N0 := Fr.nil Z.heap.size
  have KP := Keep.refl h0 []
  show Go pp ee below _ (s₁.setTop (mkF mm 0 #[.val (.ref b), .val (.int 0), .val (.int 4)] []))
  refine Go.iloadN X0 hx (hb hby d11_0) rfl (q := 1) rfl ?_
  refine Go.ifNo X0 hx (hb hby d11_1) (by decide) (q := 4) rfl ?_
  refine Go.iloadN X0 hx (hb hby d11_4) rfl (q := 5) rfl ?_
  refine Go.aloadN X0 hx (hb hby d11_5) rfl rfl (q := 6) rfl ?_
  refine Go.alen X0 hx hZ e0 Vb (hb hby d11_6) ?_
  refine Go.icmpYes X0 hx (hb hby d11_7) (by decide) (q := 17) (by decide) (by decide) ?_
  refine Go.aloadN X0 hx (hb hby d11_17) rfl rfl (q := 18) rfl ?_
  obtain ⟨T101, h101, X101, e101, E101, V101, B101, st101⟩ := cloneH X0 hx hZ hown (wd133 hw) (wd134 hw) (wd138 hw) (wd136 hw) (wd137 hw) (wd139 hw) e0 Vb.arh Eb (g := (mkF mm 18 #[.val (.ref b), .val (.int 0), .val (.int 4)] [(.ref b)])) rfl (by rw [hml]; rfl) rfl (hb hby d11_18) (by decide) (W := 0) (cap := 4) (by show 2 * 0 + _ ≤ _; exact Nat.le_of_eq rfl) (by decide) (by decide) (by decide) (by decide)
  obtain ⟨b101, q101⟩ : ∃ z, z = h0.size := ⟨_, rfl⟩
  rw [← q101] at V101 B101 st101
  refine Go.by st101 ?_
  have ne_b_b101 : b ≠ b101 := ne_new Eb.lt (Nat.le_of_eq q101.symm)
  have g_b101 : Z.heap.size ≤ b101 := Nat.le_trans O0.1 (Nat.le_of_eq q101.symm)
  have z_b101 : h0.size ≤ b101 := Nat.le_trans KP.1 (Nat.le_of_eq q101.symm)
  replace Eb := Eb.ext E101
  replace Vb := Vb.ext E101
  have OE101 := ext_trans O0 E101
  replace KP := KP.ext E101
  replace V101 : Arv Z h101 b101 kb .byte (4 : Int32) [(.int x0), (.int x1), (.int x2), (.int x3)] (.int 0) := V101
  show Go pp ee below _ (T101.setTop (mkF mm 21 #[.val (.ref b), .val (.int 0), .val (.int 4)] [(.ref b101)]))
  refine Go.castY X101 hx hZ hown (wd140 hw) e101 (Ins.self B101) (hb hby d11_21) (q := 24) rfl ?_
  intro T102 X102 e102
  exact Go.retA X102 hx hret hlk rfl rfl (hb hby d11_24) e102 (by decide) (by decide) ⟨b101, kb, rfl, N0, KP, z_b101, B101, V101⟩
def Q_cist (Z : State) (b : Addr) (n : Int32) (kb : ClassId) (vs : List Value) (i t xx : Int32) (h0 : Heap) (vR : Option Value) (hR : Heap) (LR : List Loc) : Prop := vR = some (.int (own_is xx t)) ∧ Fr Z.heap.size LR ∧ hR = h0
theorem cist (l : Launch) (Z : State) (a0 : Array Value) (hw : ∀ d ∈ tables_1, d.before a0 Z = true) (b : Addr) (n : Int32) (kb : ClassId) (vs : List Value) (i t xx : Int32) (h0 : Heap) (O0 : Ext Z.heap h0) (Vb : Arv Z h0 b kb .byte n vs (.int 0)) (hi0 : ¬ (i < (0 : Int32))) (hi1 : i < n) (hgx : vs.getD (i).toNatClampNeg (.int (0 : Int32)) = (.int xx)) :
    Ctr l Z h0 (⟨xS4, "isT", "([BIB)Z"⟩ : MethodName) k20 3 (some .boolean) [] ({ frames := 0, cells := 0, slots := 0, locals := 0 } : Room) #[(.ref b), (.int i), (.int t)] (Q_cist Z b n kb vs i t xx h0) := by
  refine enter (plainFor_of_name pn6) ?_
  intro pp ee ss mm below meth cc s₁ hx hby hml hZ hown hnm hret hlk X0 e0 hs0
  replace hown : ss.vm.findClass xS4 = some mm.cls := hown
  refine Go.cast (congrArg s₁.setTop (ef_cist mm b i t)) ?_
  have N0 := Fr.nil Z.heap.size
  show Go pp ee below _ (s₁.setTop (mkF mm 0 #[.val (.ref b), .val (.int i), .val (.int t)] []))
  refine Go.iloadN X0 hx (hb hby d20_0) rfl (q := 1) rfl ?_
  refine Go.aloadN X0 hx (hb hby d20_1) rfl rfl (q := 2) rfl ?_
  refine Go.alen X0 hx hZ e0 Vb (hb hby d20_2) ?_
  refine Go.icmpNo X0 hx (hb hby d20_3) (Jvm.Free.XT.ii_ge_f hi1) (q := 6) rfl ?_
  refine Go.aloadN X0 hx (hb hby d20_6) rfl rfl (q := 7) rfl ?_
  refine Go.iloadN X0 hx (hb hby d20_7) rfl (q := 8) rfl ?_
  refine Go.bal X0 hx hZ e0 Vb ⟨hi0, hi1⟩ (v := (.int xx)) hgx (hb hby d20_8) ?_
  refine Go.iloadN X0 hx (hb hby d20_9) rfl (q := 10) rfl ?_
  by_cases hc101 : xx = t
  · refine Go.icmpNo X0 hx (hb hby d20_10) (Jvm.Free.XT.ii_ne_f hc101) (q := 13) rfl ?_
    refine Go.iconst X0 hx (hb hby d20_13) (r := (1 : Int32)) rfl (q := 14) rfl ?_
    refine Go.goto X0 hx (hb hby d20_14) (q := 18) (by decide) (by decide) ?_
    exact Go.retI X0 hx hret hlk (by simp) rfl (hb hby d20_18) e0 (by decide) (by decide) ⟨by rw [own_isT hc101], N0, rfl⟩
  · refine Go.icmpYes X0 hx (hb hby d20_10) (Jvm.Free.XT.ii_ne_t hc101) (q := 17) (by decide) (by decide) ?_
    refine Go.iconst X0 hx (hb hby d20_17) (r := (0 : Int32)) rfl (q := 18) rfl ?_
    exact Go.retI X0 hx hret hlk (by simp) rfl (hb hby d20_18) e0 (by decide) (by decide) ⟨by rw [own_isF hc101], N0, rfl⟩
def Q_ctb_0 (Z : State) (b : Addr) (x0 x1 x2 x3 : Int32) (kb : ClassId) (n t : Int32) (h0 : Heap) (vR : Option Value) (hR : Heap) (LR : List Loc) : Prop := vR = some (.int 0) ∧ Fr Z.heap.size LR ∧ hR = h0
theorem ctb_0 (l : Launch) (Z : State) (a0 : Array Value) (hw : ∀ d ∈ tables_1, d.before a0 Z = true) (b : Addr) (x0 x1 x2 x3 : Int32) (kb : ClassId) (n t : Int32) (h0 : Heap) (O0 : Ext Z.heap h0) (Vb : Arv Z h0 b kb .byte n [(.int x0), (.int x1), (.int x2), (.int x3)] (.int 0)) :
    Ctr l Z h0 (⟨xS4, "tb", "([BIB)I"⟩ : MethodName) k9 4 (some .int) [] ({ frames := 0, cells := 0, slots := 0, locals := 0 } : Room) #[(.ref b), (.int 0), (.int t)] (Q_ctb_0 Z b x0 x1 x2 x3 kb n t h0) := by
  refine enter (plainFor_of_name pn6) ?_
  intro pp ee ss mm below meth cc s₁ hx hby hml hZ hown hnm hret hlk X0 e0 hs0
  replace hown : ss.vm.findClass xS4 = some mm.cls := hown
  refine Go.cast (congrArg s₁.setTop (ef_ctb_0 mm b t)) ?_
  have N0 := Fr.nil Z.heap.size
  show Go pp ee below _ (s₁.setTop (mkF mm 0 #[.val (.ref b), .val (.int 0), .val (.int t), .unset] []))
  refine Go.iconst X0 hx (hb hby d9_0) (r := (0 : Int32)) rfl (q := 1) rfl ?_
  refine Go.istoreN X0 hx (hb hby d9_1) (l' := #[.val (.ref b), .val (.int 0), .val (.int t), .val (.int 0)]) rfl (q := 2) rfl ?_
  refine Go.iconst X0 hx (hb hby d9_2) (r := (0 : Int32)) rfl (q := 3) rfl ?_
  refine Go.iloadN X0 hx (hb hby d9_3) rfl (q := 4) rfl ?_
  refine Go.icmpYes X0 hx (hb hby d9_4) (by decide) (q := 20) (by decide) (by decide) ?_
  refine Go.iconst X0 hx (hb hby d9_20) (r := (1 : Int32)) rfl (q := 21) rfl ?_
  refine Go.iloadN X0 hx (hb hby d9_21) rfl (q := 22) rfl ?_
  refine Go.icmpYes X0 hx (hb hby d9_22) (by decide) (q := 38) (by decide) (by decide) ?_
  refine Go.iconst X0 hx (hb hby d9_38) (r := (2 : Int32)) rfl (q := 39) rfl ?_
  refine Go.iloadN X0 hx (hb hby d9_39) rfl (q := 40) rfl ?_
  refine Go.icmpYes X0 hx (hb hby d9_40) (by decide) (q := 56) (by decide) (by decide) ?_
  refine Go.iconst X0 hx (hb hby d9_56) (r := (3 : Int32)) rfl (q := 57) rfl ?_
  refine Go.iloadN X0 hx (hb hby d9_57) rfl (q := 58) rfl ?_
  refine Go.icmpYes X0 hx (hb hby d9_58) (by decide) (q := 74) (by decide) (by decide) ?_
  refine Go.iloadN X0 hx (hb hby d9_74) rfl (q := 75) rfl ?_
  exact Go.retI X0 hx hret hlk (Or.inl rfl) rfl (hb hby d9_75) e0 (by decide) (by decide) ⟨rfl, N0, rfl⟩
def Q_ctb_1 (Z : State) (b : Addr) (x0 x1 x2 x3 : Int32) (kb : ClassId) (n t : Int32) (h0 : Heap) (vR : Option Value) (hR : Heap) (LR : List Loc) : Prop := vR = some (.int (own_tb1 x0 t)) ∧ Fr Z.heap.size LR ∧ hR = h0
theorem ctb_1 (l : Launch) (Z : State) (a0 : Array Value) (hw : ∀ d ∈ tables_1, d.before a0 Z = true) (b : Addr) (x0 x1 x2 x3 : Int32) (kb : ClassId) (n t : Int32) (h0 : Heap) (O0 : Ext Z.heap h0) (Vb : Arv Z h0 b kb .byte n [(.int x0), (.int x1), (.int x2), (.int x3)] (.int 0)) (hj0 : (0 : Int32) < n) :
    Ctr l Z h0 (⟨xS4, "tb", "([BIB)I"⟩ : MethodName) k9 4 (some .int) [] ({ frames := 1, cells := 0, slots := 0, locals := 14 } : Room) #[(.ref b), (.int 1), (.int t)] (Q_ctb_1 Z b x0 x1 x2 x3 kb n t h0) := by
  refine enter (plainFor_of_name pn6) ?_
  intro pp ee ss mm below meth cc s₁ hx hby hml hZ hown hnm hret hlk X0 e0 hs0
  replace hown : ss.vm.findClass xS4 = some mm.cls := hown
  refine Go.cast (congrArg s₁.setTop (ef_ctb_1 mm b t)) ?_
  have N0 := Fr.nil Z.heap.size
  show Go pp ee below _ (s₁.setTop (mkF mm 0 #[.val (.ref b), .val (.int 1), .val (.int t), .unset] []))
  refine Go.iconst X0 hx (hb hby d9_0) (r := (0 : Int32)) rfl (q := 1) rfl ?_
  refine Go.istoreN X0 hx (hb hby d9_1) (l' := #[.val (.ref b), .val (.int 1), .val (.int t), .val (.int 0)]) rfl (q := 2) rfl ?_
  refine Go.iconst X0 hx (hb hby d9_2) (r := (0 : Int32)) rfl (q := 3) rfl ?_
  refine Go.iloadN X0 hx (hb hby d9_3) rfl (q := 4) rfl ?_
  refine Go.icmpNo X0 hx (hb hby d9_4) (by decide) (q := 7) rfl ?_
  refine Go.aloadN X0 hx (hb hby d9_7) rfl rfl (q := 8) rfl ?_
  refine Go.iconst X0 hx (hb hby d9_8) (r := (0 : Int32)) rfl (q := 9) rfl ?_
  refine Go.iloadN X0 hx (hb hby d9_9) rfl (q := 10) rfl ?_
  refine Go.callS X0 hx hZ hown (wd104 hw) (wd105 hw) (wd44 hw) (wd106 hw) (by decide) (cist l Z a0 hw b n (kb) ([(.int x0), (.int x1), (.int x2), (.int x3)]) ((0 : Int32)) t x0 h0 O0 Vb (by decide) hj0 rfl) e0 (by rw [hml]; rfl) (hb hby d9_10) (argsL := [(.ref b), (.int 0), (.int t)]) (rest := []) (lenOf pd9 rfl) rfl rfl (W := 0) (Nat.le_refl _) (by decide) ?_
  intro v101 T101 L101 X101 hQ101
  obtain ⟨rfl, N101q, e101⟩ := hQ101
  have N101 := Fr.app N0 N101q
  by_cases hc102 : (own_is x0 t) = (0 : Int32)
  · refine Go.ifYes X101 hx (hb hby d9_13) (Jvm.Free.XT.i0_eq_t hc102) (q := 20) (by decide) (by decide) ?_
    refine Go.iconst X101 hx (hb hby d9_20) (r := (1 : Int32)) rfl (q := 21) rfl ?_
    refine Go.iloadN X101 hx (hb hby d9_21) rfl (q := 22) rfl ?_
    refine Go.icmpYes X101 hx (hb hby d9_22) (by decide) (q := 38) (by decide) (by decide) ?_
    refine Go.iconst X101 hx (hb hby d9_38) (r := (2 : Int32)) rfl (q := 39) rfl ?_
    refine Go.iloadN X101 hx (hb hby d9_39) rfl (q := 40) rfl ?_
    refine Go.icmpYes X101 hx (hb hby d9_40) (by decide) (q := 56) (by decide) (by decide) ?_
    refine Go.iconst X101 hx (hb hby d9_56) (r := (3 : Int32)) rfl (q := 57) rfl ?_
    refine Go.iloadN X101 hx (hb hby d9_57) rfl (q := 58) rfl ?_
    refine Go.icmpYes X101 hx (hb hby d9_58) (by decide) (q := 74) (by decide) (by decide) ?_
    refine Go.iloadN X101 hx (hb hby d9_74) rfl (q := 75) rfl ?_
    exact Go.retI X101 hx hret hlk (Or.inl rfl) rfl (hb hby d9_75) e101 (by decide) (by decide) ⟨by rw [own_tb1, hc102] <;> rfl, N101, rfl⟩
  · refine Go.ifNo X101 hx (hb hby d9_13) (Jvm.Free.XT.i0_eq_f hc102) (q := 16) rfl ?_
    refine Go.iloadN X101 hx (hb hby d9_16) rfl (q := 17) rfl ?_
    refine Go.iconst X101 hx (hb hby d9_17) (r := (1 : Int32)) rfl (q := 18) rfl ?_
    refine Go.iadd X101 hx (hb hby d9_18) (r := (1 : Int32)) rfl (q := 19) rfl ?_
    refine Go.istoreN X101 hx (hb hby d9_19) (l' := #[.val (.ref b), .val (.int 1), .val (.int t), .val (.int 1)]) rfl (q := 20) rfl ?_
    refine Go.iconst X101 hx (hb hby d9_20) (r := (1 : Int32)) rfl (q := 21) rfl ?_
    refine Go.iloadN X101 hx (hb hby d9_21) rfl (q := 22) rfl ?_
    refine Go.icmpYes X101 hx (hb hby d9_22) (by decide) (q := 38) (by decide) (by decide) ?_
    refine Go.iconst X101 hx (hb hby d9_38) (r := (2 : Int32)) rfl (q := 39) rfl ?_
    refine Go.iloadN X101 hx (hb hby d9_39) rfl (q := 40) rfl ?_
    refine Go.icmpYes X101 hx (hb hby d9_40) (by decide) (q := 56) (by decide) (by decide) ?_
    refine Go.iconst X101 hx (hb hby d9_56) (r := (3 : Int32)) rfl (q := 57) rfl ?_
    refine Go.iloadN X101 hx (hb hby d9_57) rfl (q := 58) rfl ?_
    refine Go.icmpYes X101 hx (hb hby d9_58) (by decide) (q := 74) (by decide) (by decide) ?_
    refine Go.iloadN X101 hx (hb hby d9_74) rfl (q := 75) rfl ?_
    exact Go.retI X101 hx hret hlk (Or.inl rfl) rfl (hb hby d9_75) e101 (by decide) (by decide) ⟨by rw [own_tb1, own_is1 hc102] <;> rfl, N101, rfl⟩
def Q_ctb_2 (Z : State) (b : Addr) (x0 x1 x2 x3 : Int32) (kb : ClassId) (n t : Int32) (h0 : Heap) (vR : Option Value) (hR : Heap) (LR : List Loc) : Prop := vR = some (.int (own_tb2 x0 x1 t)) ∧ Fr Z.heap.size LR ∧ hR = h0
theorem ctb_2 (l : Launch) (Z : State) (a0 : Array Value) (hw : ∀ d ∈ tables_1, d.before a0 Z = true) (b : Addr) (x0 x1 x2 x3 : Int32) (kb : ClassId) (n t : Int32) (h0 : Heap) (O0 : Ext Z.heap h0) (Vb : Arv Z h0 b kb .byte n [(.int x0), (.int x1), (.int x2), (.int x3)] (.int 0)) (hj0 : (0 : Int32) < n) (hj1 : (1 : Int32) < n) :
    Ctr l Z h0 (⟨xS4, "tb", "([BIB)I"⟩ : MethodName) k9 4 (some .int) [] ({ frames := 1, cells := 0, slots := 0, locals := 14 } : Room) #[(.ref b), (.int 2), (.int t)] (Q_ctb_2 Z b x0 x1 x2 x3 kb n t h0) := by
  refine enter (plainFor_of_name pn6) ?_
  intro pp ee ss mm below meth cc s₁ hx hby hml hZ hown hnm hret hlk X0 e0 hs0
  replace hown : ss.vm.findClass xS4 = some mm.cls := hown
  refine Go.cast (congrArg s₁.setTop (ef_ctb_2 mm b t)) ?_
  have N0 := Fr.nil Z.heap.size
  show Go pp ee below _ (s₁.setTop (mkF mm 0 #[.val (.ref b), .val (.int 2), .val (.int t), .unset] []))
  refine Go.iconst X0 hx (hb hby d9_0) (r := (0 : Int32)) rfl (q := 1) rfl ?_
  refine Go.istoreN X0 hx (hb hby d9_1) (l' := #[.val (.ref b), .val (.int 2), .val (.int t), .val (.int 0)]) rfl (q := 2) rfl ?_
  refine Go.iconst X0 hx (hb hby d9_2) (r := (0 : Int32)) rfl (q := 3) rfl ?_
  refine Go.iloadN X0 hx (hb hby d9_3) rfl (q := 4) rfl ?_
  refine Go.icmpNo X0 hx (hb hby d9_4) (by decide) (q := 7) rfl ?_
  refine Go.aloadN X0 hx (hb hby d9_7) rfl rfl (q := 8) rfl ?_
  refine Go.iconst X0 hx (hb hby d9_8) (r := (0 : Int32)) rfl (q := 9) rfl ?_
  refine Go.iloadN X0 hx (hb hby d9_9) rfl (q := 10) rfl ?_
  refine Go.callS X0 hx hZ hown (wd104 hw) (wd105 hw) (wd44 hw) (wd106 hw) (by decide) (cist l Z a0 hw b n (kb) ([(.int x0), (.int x1), (.int x2), (.int x3)]) ((0 : Int32)) t x0 h0 O0 Vb (by decide) hj0 rfl) e0 (by rw [hml]; rfl) (hb hby d9_10) (argsL := [(.ref b), (.int 0), (.int t)]) (rest := []) (lenOf pd9 rfl) rfl rfl (W := 0) (Nat.le_refl _) (by decide) ?_
  intro v101 T101 L101 X101 hQ101
  obtain ⟨rfl, N101q, e101⟩ := hQ101
  have N101 := Fr.app N0 N101q
  by_cases hc102 : (own_is x0 t) = (0 : Int32)
  · refine Go.ifYes X101 hx (hb hby d9_13) (Jvm.Free.XT.i0_eq_t hc102) (q := 20) (by decide) (by decide) ?_
    refine Go.iconst X101 hx (hb hby d9_20) (r := (1 : Int32)) rfl (q := 21) rfl ?_
    refine Go.iloadN X101 hx (hb hby d9_21) rfl (q := 22) rfl ?_
    refine Go.icmpNo X101 hx (hb hby d9_22) (by decide) (q := 25) rfl ?_
    refine Go.aloadN X101 hx (hb hby d9_25) rfl rfl (q := 26) rfl ?_
    refine Go.iconst X101 hx (hb hby d9_26) (r := (1 : Int32)) rfl (q := 27) rfl ?_
    refine Go.iloadN X101 hx (hb hby d9_27) rfl (q := 28) rfl ?_
    refine Go.callS X101 hx hZ hown (wd104 hw) (wd105 hw) (wd44 hw) (wd106 hw) (by decide) (cist l Z a0 hw b n (kb) ([(.int x0), (.int x1), (.int x2), (.int x3)]) ((1 : Int32)) t x1 h0 O0 Vb (by decide) hj1 rfl) e101 (by rw [hml]; rfl) (hb hby d9_28) (argsL := [(.ref b), (.int 1), (.int t)]) (rest := []) (lenOf pd9 rfl) rfl rfl (W := 0) (Nat.le_refl _) (by decide) ?_
    intro v103 T103 L103 X103 hQ103
    obtain ⟨rfl, N103q, e103⟩ := hQ103
    have N103 := Fr.app N101 N103q
    by_cases hc104 : (own_is x1 t) = (0 : Int32)
    · refine Go.ifYes X103 hx (hb hby d9_31) (Jvm.Free.XT.i0_eq_t hc104) (q := 38) (by decide) (by decide) ?_
      refine Go.iconst X103 hx (hb hby d9_38) (r := (2 : Int32)) rfl (q := 39) rfl ?_
      refine Go.iloadN X103 hx (hb hby d9_39) rfl (q := 40) rfl ?_
      refine Go.icmpYes X103 hx (hb hby d9_40) (by decide) (q := 56) (by decide) (by decide) ?_
      refine Go.iconst X103 hx (hb hby d9_56) (r := (3 : Int32)) rfl (q := 57) rfl ?_
      refine Go.iloadN X103 hx (hb hby d9_57) rfl (q := 58) rfl ?_
      refine Go.icmpYes X103 hx (hb hby d9_58) (by decide) (q := 74) (by decide) (by decide) ?_
      refine Go.iloadN X103 hx (hb hby d9_74) rfl (q := 75) rfl ?_
      exact Go.retI X103 hx hret hlk (Or.inl rfl) rfl (hb hby d9_75) e103 (by decide) (by decide) ⟨by rw [own_tb2, hc102, hc104] <;> rfl, N103, rfl⟩
    · refine Go.ifNo X103 hx (hb hby d9_31) (Jvm.Free.XT.i0_eq_f hc104) (q := 34) rfl ?_
      refine Go.iloadN X103 hx (hb hby d9_34) rfl (q := 35) rfl ?_
      refine Go.iconst X103 hx (hb hby d9_35) (r := (1 : Int32)) rfl (q := 36) rfl ?_
      refine Go.iadd X103 hx (hb hby d9_36) (r := (1 : Int32)) rfl (q := 37) rfl ?_
      refine Go.istoreN X103 hx (hb hby d9_37) (l' := #[.val (.ref b), .val (.int 2), .val (.int t), .val (.int 1)]) rfl (q := 38) rfl ?_
      refine Go.iconst X103 hx (hb hby d9_38) (r := (2 : Int32)) rfl (q := 39) rfl ?_
      refine Go.iloadN X103 hx (hb hby d9_39) rfl (q := 40) rfl ?_
      refine Go.icmpYes X103 hx (hb hby d9_40) (by decide) (q := 56) (by decide) (by decide) ?_
      refine Go.iconst X103 hx (hb hby d9_56) (r := (3 : Int32)) rfl (q := 57) rfl ?_
      refine Go.iloadN X103 hx (hb hby d9_57) rfl (q := 58) rfl ?_
      refine Go.icmpYes X103 hx (hb hby d9_58) (by decide) (q := 74) (by decide) (by decide) ?_
      refine Go.iloadN X103 hx (hb hby d9_74) rfl (q := 75) rfl ?_
      exact Go.retI X103 hx hret hlk (Or.inl rfl) rfl (hb hby d9_75) e103 (by decide) (by decide) ⟨by rw [own_tb2, hc102, own_is1 hc104] <;> rfl, N103, rfl⟩
  · refine Go.ifNo X101 hx (hb hby d9_13) (Jvm.Free.XT.i0_eq_f hc102) (q := 16) rfl ?_
    refine Go.iloadN X101 hx (hb hby d9_16) rfl (q := 17) rfl ?_
    refine Go.iconst X101 hx (hb hby d9_17) (r := (1 : Int32)) rfl (q := 18) rfl ?_
    refine Go.iadd X101 hx (hb hby d9_18) (r := (1 : Int32)) rfl (q := 19) rfl ?_
    refine Go.istoreN X101 hx (hb hby d9_19) (l' := #[.val (.ref b), .val (.int 2), .val (.int t), .val (.int 1)]) rfl (q := 20) rfl ?_
    refine Go.iconst X101 hx (hb hby d9_20) (r := (1 : Int32)) rfl (q := 21) rfl ?_
    refine Go.iloadN X101 hx (hb hby d9_21) rfl (q := 22) rfl ?_
    refine Go.icmpNo X101 hx (hb hby d9_22) (by decide) (q := 25) rfl ?_
    refine Go.aloadN X101 hx (hb hby d9_25) rfl rfl (q := 26) rfl ?_
    refine Go.iconst X101 hx (hb hby d9_26) (r := (1 : Int32)) rfl (q := 27) rfl ?_
    refine Go.iloadN X101 hx (hb hby d9_27) rfl (q := 28) rfl ?_
    refine Go.callS X101 hx hZ hown (wd104 hw) (wd105 hw) (wd44 hw) (wd106 hw) (by decide) (cist l Z a0 hw b n (kb) ([(.int x0), (.int x1), (.int x2), (.int x3)]) ((1 : Int32)) t x1 h0 O0 Vb (by decide) hj1 rfl) e101 (by rw [hml]; rfl) (hb hby d9_28) (argsL := [(.ref b), (.int 1), (.int t)]) (rest := []) (lenOf pd9 rfl) rfl rfl (W := 0) (Nat.le_refl _) (by decide) ?_
    intro v105 T105 L105 X105 hQ105
    obtain ⟨rfl, N105q, e105⟩ := hQ105
    have N105 := Fr.app N101 N105q
    by_cases hc106 : (own_is x1 t) = (0 : Int32)
    · refine Go.ifYes X105 hx (hb hby d9_31) (Jvm.Free.XT.i0_eq_t hc106) (q := 38) (by decide) (by decide) ?_
      refine Go.iconst X105 hx (hb hby d9_38) (r := (2 : Int32)) rfl (q := 39) rfl ?_
      refine Go.iloadN X105 hx (hb hby d9_39) rfl (q := 40) rfl ?_
      refine Go.icmpYes X105 hx (hb hby d9_40) (by decide) (q := 56) (by decide) (by decide) ?_
      refine Go.iconst X105 hx (hb hby d9_56) (r := (3 : Int32)) rfl (q := 57) rfl ?_
      refine Go.iloadN X105 hx (hb hby d9_57) rfl (q := 58) rfl ?_
      refine Go.icmpYes X105 hx (hb hby d9_58) (by decide) (q := 74) (by decide) (by decide) ?_
      refine Go.iloadN X105 hx (hb hby d9_74) rfl (q := 75) rfl ?_
      exact Go.retI X105 hx hret hlk (Or.inl rfl) rfl (hb hby d9_75) e105 (by decide) (by decide) ⟨by rw [own_tb2, own_is1 hc102, hc106] <;> rfl, N105, rfl⟩
    · refine Go.ifNo X105 hx (hb hby d9_31) (Jvm.Free.XT.i0_eq_f hc106) (q := 34) rfl ?_
      refine Go.iloadN X105 hx (hb hby d9_34) rfl (q := 35) rfl ?_
      refine Go.iconst X105 hx (hb hby d9_35) (r := (1 : Int32)) rfl (q := 36) rfl ?_
      refine Go.iadd X105 hx (hb hby d9_36) (r := (2 : Int32)) rfl (q := 37) rfl ?_
      refine Go.istoreN X105 hx (hb hby d9_37) (l' := #[.val (.ref b), .val (.int 2), .val (.int t), .val (.int 2)]) rfl (q := 38) rfl ?_
      refine Go.iconst X105 hx (hb hby d9_38) (r := (2 : Int32)) rfl (q := 39) rfl ?_
      refine Go.iloadN X105 hx (hb hby d9_39) rfl (q := 40) rfl ?_
      refine Go.icmpYes X105 hx (hb hby d9_40) (by decide) (q := 56) (by decide) (by decide) ?_
      refine Go.iconst X105 hx (hb hby d9_56) (r := (3 : Int32)) rfl (q := 57) rfl ?_
      refine Go.iloadN X105 hx (hb hby d9_57) rfl (q := 58) rfl ?_
      refine Go.icmpYes X105 hx (hb hby d9_58) (by decide) (q := 74) (by decide) (by decide) ?_
      refine Go.iloadN X105 hx (hb hby d9_74) rfl (q := 75) rfl ?_
      exact Go.retI X105 hx hret hlk (Or.inl rfl) rfl (hb hby d9_75) e105 (by decide) (by decide) ⟨by rw [own_tb2, own_is1 hc102, own_is1 hc106] <;> rfl, N105, rfl⟩
def Q_ctb_3 (Z : State) (b : Addr) (x0 x1 x2 x3 : Int32) (kb : ClassId) (n t : Int32) (h0 : Heap) (vR : Option Value) (hR : Heap) (LR : List Loc) : Prop := vR = some (.int (own_tb3 x0 x1 x2 t)) ∧ Fr Z.heap.size LR ∧ hR = h0
theorem ctb_3 (l : Launch) (Z : State) (a0 : Array Value) (hw : ∀ d ∈ tables_1, d.before a0 Z = true) (b : Addr) (x0 x1 x2 x3 : Int32) (kb : ClassId) (n t : Int32) (h0 : Heap) (O0 : Ext Z.heap h0) (Vb : Arv Z h0 b kb .byte n [(.int x0), (.int x1), (.int x2), (.int x3)] (.int 0)) (hj0 : (0 : Int32) < n) (hj1 : (1 : Int32) < n) (hj2 : (2 : Int32) < n) :
    Ctr l Z h0 (⟨xS4, "tb", "([BIB)I"⟩ : MethodName) k9 4 (some .int) [] ({ frames := 1, cells := 0, slots := 0, locals := 14 } : Room) #[(.ref b), (.int 3), (.int t)] (Q_ctb_3 Z b x0 x1 x2 x3 kb n t h0) := by
  refine enter (plainFor_of_name pn6) ?_
  intro pp ee ss mm below meth cc s₁ hx hby hml hZ hown hnm hret hlk X0 e0 hs0
  replace hown : ss.vm.findClass xS4 = some mm.cls := hown
  refine Go.cast (congrArg s₁.setTop (ef_ctb_3 mm b t)) ?_
  have N0 := Fr.nil Z.heap.size
  show Go pp ee below _ (s₁.setTop (mkF mm 0 #[.val (.ref b), .val (.int 3), .val (.int t), .unset] []))
  refine Go.iconst X0 hx (hb hby d9_0) (r := (0 : Int32)) rfl (q := 1) rfl ?_
  refine Go.istoreN X0 hx (hb hby d9_1) (l' := #[.val (.ref b), .val (.int 3), .val (.int t), .val (.int 0)]) rfl (q := 2) rfl ?_
  refine Go.iconst X0 hx (hb hby d9_2) (r := (0 : Int32)) rfl (q := 3) rfl ?_
  refine Go.iloadN X0 hx (hb hby d9_3) rfl (q := 4) rfl ?_
  refine Go.icmpNo X0 hx (hb hby d9_4) (by decide) (q := 7) rfl ?_
  refine Go.aloadN X0 hx (hb hby d9_7) rfl rfl (q := 8) rfl ?_
  refine Go.iconst X0 hx (hb hby d9_8) (r := (0 : Int32)) rfl (q := 9) rfl ?_
  refine Go.iloadN X0 hx (hb hby d9_9) rfl (q := 10) rfl ?_
  refine Go.callS X0 hx hZ hown (wd104 hw) (wd105 hw) (wd44 hw) (wd106 hw) (by decide) (cist l Z a0 hw b n (kb) ([(.int x0), (.int x1), (.int x2), (.int x3)]) ((0 : Int32)) t x0 h0 O0 Vb (by decide) hj0 rfl) e0 (by rw [hml]; rfl) (hb hby d9_10) (argsL := [(.ref b), (.int 0), (.int t)]) (rest := []) (lenOf pd9 rfl) rfl rfl (W := 0) (Nat.le_refl _) (by decide) ?_
  intro v101 T101 L101 X101 hQ101
  obtain ⟨rfl, N101q, e101⟩ := hQ101
  have N101 := Fr.app N0 N101q
  by_cases hc102 : (own_is x0 t) = (0 : Int32)
  · refine Go.ifYes X101 hx (hb hby d9_13) (Jvm.Free.XT.i0_eq_t hc102) (q := 20) (by decide) (by decide) ?_
    refine Go.iconst X101 hx (hb hby d9_20) (r := (1 : Int32)) rfl (q := 21) rfl ?_
    refine Go.iloadN X101 hx (hb hby d9_21) rfl (q := 22) rfl ?_
    refine Go.icmpNo X101 hx (hb hby d9_22) (by decide) (q := 25) rfl ?_
    refine Go.aloadN X101 hx (hb hby d9_25) rfl rfl (q := 26) rfl ?_
    refine Go.iconst X101 hx (hb hby d9_26) (r := (1 : Int32)) rfl (q := 27) rfl ?_
    refine Go.iloadN X101 hx (hb hby d9_27) rfl (q := 28) rfl ?_
    refine Go.callS X101 hx hZ hown (wd104 hw) (wd105 hw) (wd44 hw) (wd106 hw) (by decide) (cist l Z a0 hw b n (kb) ([(.int x0), (.int x1), (.int x2), (.int x3)]) ((1 : Int32)) t x1 h0 O0 Vb (by decide) hj1 rfl) e101 (by rw [hml]; rfl) (hb hby d9_28) (argsL := [(.ref b), (.int 1), (.int t)]) (rest := []) (lenOf pd9 rfl) rfl rfl (W := 0) (Nat.le_refl _) (by decide) ?_
    intro v103 T103 L103 X103 hQ103
    obtain ⟨rfl, N103q, e103⟩ := hQ103
    have N103 := Fr.app N101 N103q
    by_cases hc104 : (own_is x1 t) = (0 : Int32)
    · refine Go.ifYes X103 hx (hb hby d9_31) (Jvm.Free.XT.i0_eq_t hc104) (q := 38) (by decide) (by decide) ?_
      refine Go.iconst X103 hx (hb hby d9_38) (r := (2 : Int32)) rfl (q := 39) rfl ?_
      refine Go.iloadN X103 hx (hb hby d9_39) rfl (q := 40) rfl ?_
      refine Go.icmpNo X103 hx (hb hby d9_40) (by decide) (q := 43) rfl ?_
      refine Go.aloadN X103 hx (hb hby d9_43) rfl rfl (q := 44) rfl ?_
      refine Go.iconst X103 hx (hb hby d9_44) (r := (2 : Int32)) rfl (q := 45) rfl ?_
      refine Go.iloadN X103 hx (hb hby d9_45) rfl (q := 46) rfl ?_
      refine Go.callS X103 hx hZ hown (wd104 hw) (wd105 hw) (wd44 hw) (wd106 hw) (by decide) (cist l Z a0 hw b n (kb) ([(.int x0), (.int x1), (.int x2), (.int x3)]) ((2 : Int32)) t x2 h0 O0 Vb (by decide) hj2 rfl) e103 (by rw [hml]; rfl) (hb hby d9_46) (argsL := [(.ref b), (.int 2), (.int t)]) (rest := []) (lenOf pd9 rfl) rfl rfl (W := 0) (Nat.le_refl _) (by decide) ?_
      intro v105 T105 L105 X105 hQ105
      obtain ⟨rfl, N105q, e105⟩ := hQ105
      have N105 := Fr.app N103 N105q
      by_cases hc106 : (own_is x2 t) = (0 : Int32)
      · refine Go.ifYes X105 hx (hb hby d9_49) (Jvm.Free.XT.i0_eq_t hc106) (q := 56) (by decide) (by decide) ?_
        refine Go.iconst X105 hx (hb hby d9_56) (r := (3 : Int32)) rfl (q := 57) rfl ?_
        refine Go.iloadN X105 hx (hb hby d9_57) rfl (q := 58) rfl ?_
        refine Go.icmpYes X105 hx (hb hby d9_58) (by decide) (q := 74) (by decide) (by decide) ?_
        refine Go.iloadN X105 hx (hb hby d9_74) rfl (q := 75) rfl ?_
        exact Go.retI X105 hx hret hlk (Or.inl rfl) rfl (hb hby d9_75) e105 (by decide) (by decide) ⟨by rw [own_tb3, hc102, hc104, hc106] <;> rfl, N105, rfl⟩
      · refine Go.ifNo X105 hx (hb hby d9_49) (Jvm.Free.XT.i0_eq_f hc106) (q := 52) rfl ?_
        refine Go.iloadN X105 hx (hb hby d9_52) rfl (q := 53) rfl ?_
        refine Go.iconst X105 hx (hb hby d9_53) (r := (1 : Int32)) rfl (q := 54) rfl ?_
        refine Go.iadd X105 hx (hb hby d9_54) (r := (1 : Int32)) rfl (q := 55) rfl ?_
        refine Go.istoreN X105 hx (hb hby d9_55) (l' := #[.val (.ref b), .val (.int 3), .val (.int t), .val (.int 1)]) rfl (q := 56) rfl ?_
        refine Go.iconst X105 hx (hb hby d9_56) (r := (3 : Int32)) rfl (q := 57) rfl ?_
        refine Go.iloadN X105 hx (hb hby d9_57) rfl (q := 58) rfl ?_
        refine Go.icmpYes X105 hx (hb hby d9_58) (by decide) (q := 74) (by decide) (by decide) ?_
        refine Go.iloadN X105 hx (hb hby d9_74) rfl (q := 75) rfl ?_
        exact Go.retI X105 hx hret hlk (Or.inl rfl) rfl (hb hby d9_75) e105 (by decide) (by decide) ⟨by rw [own_tb3, hc102, hc104, own_is1 hc106] <;> rfl, N105, rfl⟩
    · refine Go.ifNo X103 hx (hb hby d9_31) (Jvm.Free.XT.i0_eq_f hc104) (q := 34) rfl ?_
      refine Go.iloadN X103 hx (hb hby d9_34) rfl (q := 35) rfl ?_
      refine Go.iconst X103 hx (hb hby d9_35) (r := (1 : Int32)) rfl (q := 36) rfl ?_
      refine Go.iadd X103 hx (hb hby d9_36) (r := (1 : Int32)) rfl (q := 37) rfl ?_
      refine Go.istoreN X103 hx (hb hby d9_37) (l' := #[.val (.ref b), .val (.int 3), .val (.int t), .val (.int 1)]) rfl (q := 38) rfl ?_
      refine Go.iconst X103 hx (hb hby d9_38) (r := (2 : Int32)) rfl (q := 39) rfl ?_
      refine Go.iloadN X103 hx (hb hby d9_39) rfl (q := 40) rfl ?_
      refine Go.icmpNo X103 hx (hb hby d9_40) (by decide) (q := 43) rfl ?_
      refine Go.aloadN X103 hx (hb hby d9_43) rfl rfl (q := 44) rfl ?_
      refine Go.iconst X103 hx (hb hby d9_44) (r := (2 : Int32)) rfl (q := 45) rfl ?_
      refine Go.iloadN X103 hx (hb hby d9_45) rfl (q := 46) rfl ?_
      refine Go.callS X103 hx hZ hown (wd104 hw) (wd105 hw) (wd44 hw) (wd106 hw) (by decide) (cist l Z a0 hw b n (kb) ([(.int x0), (.int x1), (.int x2), (.int x3)]) ((2 : Int32)) t x2 h0 O0 Vb (by decide) hj2 rfl) e103 (by rw [hml]; rfl) (hb hby d9_46) (argsL := [(.ref b), (.int 2), (.int t)]) (rest := []) (lenOf pd9 rfl) rfl rfl (W := 0) (Nat.le_refl _) (by decide) ?_
      intro v107 T107 L107 X107 hQ107
      obtain ⟨rfl, N107q, e107⟩ := hQ107
      have N107 := Fr.app N103 N107q
      by_cases hc108 : (own_is x2 t) = (0 : Int32)
      · refine Go.ifYes X107 hx (hb hby d9_49) (Jvm.Free.XT.i0_eq_t hc108) (q := 56) (by decide) (by decide) ?_
        refine Go.iconst X107 hx (hb hby d9_56) (r := (3 : Int32)) rfl (q := 57) rfl ?_
        refine Go.iloadN X107 hx (hb hby d9_57) rfl (q := 58) rfl ?_
        refine Go.icmpYes X107 hx (hb hby d9_58) (by decide) (q := 74) (by decide) (by decide) ?_
        refine Go.iloadN X107 hx (hb hby d9_74) rfl (q := 75) rfl ?_
        exact Go.retI X107 hx hret hlk (Or.inl rfl) rfl (hb hby d9_75) e107 (by decide) (by decide) ⟨by rw [own_tb3, hc102, own_is1 hc104, hc108] <;> rfl, N107, rfl⟩
      · refine Go.ifNo X107 hx (hb hby d9_49) (Jvm.Free.XT.i0_eq_f hc108) (q := 52) rfl ?_
        refine Go.iloadN X107 hx (hb hby d9_52) rfl (q := 53) rfl ?_
        refine Go.iconst X107 hx (hb hby d9_53) (r := (1 : Int32)) rfl (q := 54) rfl ?_
        refine Go.iadd X107 hx (hb hby d9_54) (r := (2 : Int32)) rfl (q := 55) rfl ?_
        refine Go.istoreN X107 hx (hb hby d9_55) (l' := #[.val (.ref b), .val (.int 3), .val (.int t), .val (.int 2)]) rfl (q := 56) rfl ?_
        refine Go.iconst X107 hx (hb hby d9_56) (r := (3 : Int32)) rfl (q := 57) rfl ?_
        refine Go.iloadN X107 hx (hb hby d9_57) rfl (q := 58) rfl ?_
        refine Go.icmpYes X107 hx (hb hby d9_58) (by decide) (q := 74) (by decide) (by decide) ?_
        refine Go.iloadN X107 hx (hb hby d9_74) rfl (q := 75) rfl ?_
        exact Go.retI X107 hx hret hlk (Or.inl rfl) rfl (hb hby d9_75) e107 (by decide) (by decide) ⟨by rw [own_tb3, hc102, own_is1 hc104, own_is1 hc108] <;> rfl, N107, rfl⟩
  · refine Go.ifNo X101 hx (hb hby d9_13) (Jvm.Free.XT.i0_eq_f hc102) (q := 16) rfl ?_
    refine Go.iloadN X101 hx (hb hby d9_16) rfl (q := 17) rfl ?_
    refine Go.iconst X101 hx (hb hby d9_17) (r := (1 : Int32)) rfl (q := 18) rfl ?_
    refine Go.iadd X101 hx (hb hby d9_18) (r := (1 : Int32)) rfl (q := 19) rfl ?_
    refine Go.istoreN X101 hx (hb hby d9_19) (l' := #[.val (.ref b), .val (.int 3), .val (.int t), .val (.int 1)]) rfl (q := 20) rfl ?_
    refine Go.iconst X101 hx (hb hby d9_20) (r := (1 : Int32)) rfl (q := 21) rfl ?_
    refine Go.iloadN X101 hx (hb hby d9_21) rfl (q := 22) rfl ?_
    refine Go.icmpNo X101 hx (hb hby d9_22) (by decide) (q := 25) rfl ?_
    refine Go.aloadN X101 hx (hb hby d9_25) rfl rfl (q := 26) rfl ?_
    refine Go.iconst X101 hx (hb hby d9_26) (r := (1 : Int32)) rfl (q := 27) rfl ?_
    refine Go.iloadN X101 hx (hb hby d9_27) rfl (q := 28) rfl ?_
    refine Go.callS X101 hx hZ hown (wd104 hw) (wd105 hw) (wd44 hw) (wd106 hw) (by decide) (cist l Z a0 hw b n (kb) ([(.int x0), (.int x1), (.int x2), (.int x3)]) ((1 : Int32)) t x1 h0 O0 Vb (by decide) hj1 rfl) e101 (by rw [hml]; rfl) (hb hby d9_28) (argsL := [(.ref b), (.int 1), (.int t)]) (rest := []) (lenOf pd9 rfl) rfl rfl (W := 0) (Nat.le_refl _) (by decide) ?_
    intro v109 T109 L109 X109 hQ109
    obtain ⟨rfl, N109q, e109⟩ := hQ109
    have N109 := Fr.app N101 N109q
    by_cases hc110 : (own_is x1 t) = (0 : Int32)
    · refine Go.ifYes X109 hx (hb hby d9_31) (Jvm.Free.XT.i0_eq_t hc110) (q := 38) (by decide) (by decide) ?_
      refine Go.iconst X109 hx (hb hby d9_38) (r := (2 : Int32)) rfl (q := 39) rfl ?_
      refine Go.iloadN X109 hx (hb hby d9_39) rfl (q := 40) rfl ?_
      refine Go.icmpNo X109 hx (hb hby d9_40) (by decide) (q := 43) rfl ?_
      refine Go.aloadN X109 hx (hb hby d9_43) rfl rfl (q := 44) rfl ?_
      refine Go.iconst X109 hx (hb hby d9_44) (r := (2 : Int32)) rfl (q := 45) rfl ?_
      refine Go.iloadN X109 hx (hb hby d9_45) rfl (q := 46) rfl ?_
      refine Go.callS X109 hx hZ hown (wd104 hw) (wd105 hw) (wd44 hw) (wd106 hw) (by decide) (cist l Z a0 hw b n (kb) ([(.int x0), (.int x1), (.int x2), (.int x3)]) ((2 : Int32)) t x2 h0 O0 Vb (by decide) hj2 rfl) e109 (by rw [hml]; rfl) (hb hby d9_46) (argsL := [(.ref b), (.int 2), (.int t)]) (rest := []) (lenOf pd9 rfl) rfl rfl (W := 0) (Nat.le_refl _) (by decide) ?_
      intro v111 T111 L111 X111 hQ111
      obtain ⟨rfl, N111q, e111⟩ := hQ111
      have N111 := Fr.app N109 N111q
      by_cases hc112 : (own_is x2 t) = (0 : Int32)
      · refine Go.ifYes X111 hx (hb hby d9_49) (Jvm.Free.XT.i0_eq_t hc112) (q := 56) (by decide) (by decide) ?_
        refine Go.iconst X111 hx (hb hby d9_56) (r := (3 : Int32)) rfl (q := 57) rfl ?_
        refine Go.iloadN X111 hx (hb hby d9_57) rfl (q := 58) rfl ?_
        refine Go.icmpYes X111 hx (hb hby d9_58) (by decide) (q := 74) (by decide) (by decide) ?_
        refine Go.iloadN X111 hx (hb hby d9_74) rfl (q := 75) rfl ?_
        exact Go.retI X111 hx hret hlk (Or.inl rfl) rfl (hb hby d9_75) e111 (by decide) (by decide) ⟨by rw [own_tb3, own_is1 hc102, hc110, hc112] <;> rfl, N111, rfl⟩
      · refine Go.ifNo X111 hx (hb hby d9_49) (Jvm.Free.XT.i0_eq_f hc112) (q := 52) rfl ?_
        refine Go.iloadN X111 hx (hb hby d9_52) rfl (q := 53) rfl ?_
        refine Go.iconst X111 hx (hb hby d9_53) (r := (1 : Int32)) rfl (q := 54) rfl ?_
        refine Go.iadd X111 hx (hb hby d9_54) (r := (2 : Int32)) rfl (q := 55) rfl ?_
        refine Go.istoreN X111 hx (hb hby d9_55) (l' := #[.val (.ref b), .val (.int 3), .val (.int t), .val (.int 2)]) rfl (q := 56) rfl ?_
        refine Go.iconst X111 hx (hb hby d9_56) (r := (3 : Int32)) rfl (q := 57) rfl ?_
        refine Go.iloadN X111 hx (hb hby d9_57) rfl (q := 58) rfl ?_
        refine Go.icmpYes X111 hx (hb hby d9_58) (by decide) (q := 74) (by decide) (by decide) ?_
        refine Go.iloadN X111 hx (hb hby d9_74) rfl (q := 75) rfl ?_
        exact Go.retI X111 hx hret hlk (Or.inl rfl) rfl (hb hby d9_75) e111 (by decide) (by decide) ⟨by rw [own_tb3, own_is1 hc102, hc110, own_is1 hc112] <;> rfl, N111, rfl⟩
    · refine Go.ifNo X109 hx (hb hby d9_31) (Jvm.Free.XT.i0_eq_f hc110) (q := 34) rfl ?_
      refine Go.iloadN X109 hx (hb hby d9_34) rfl (q := 35) rfl ?_
      refine Go.iconst X109 hx (hb hby d9_35) (r := (1 : Int32)) rfl (q := 36) rfl ?_
      refine Go.iadd X109 hx (hb hby d9_36) (r := (2 : Int32)) rfl (q := 37) rfl ?_
      refine Go.istoreN X109 hx (hb hby d9_37) (l' := #[.val (.ref b), .val (.int 3), .val (.int t), .val (.int 2)]) rfl (q := 38) rfl ?_
      refine Go.iconst X109 hx (hb hby d9_38) (r := (2 : Int32)) rfl (q := 39) rfl ?_
      refine Go.iloadN X109 hx (hb hby d9_39) rfl (q := 40) rfl ?_
      refine Go.icmpNo X109 hx (hb hby d9_40) (by decide) (q := 43) rfl ?_
      refine Go.aloadN X109 hx (hb hby d9_43) rfl rfl (q := 44) rfl ?_
      refine Go.iconst X109 hx (hb hby d9_44) (r := (2 : Int32)) rfl (q := 45) rfl ?_
      refine Go.iloadN X109 hx (hb hby d9_45) rfl (q := 46) rfl ?_
      refine Go.callS X109 hx hZ hown (wd104 hw) (wd105 hw) (wd44 hw) (wd106 hw) (by decide) (cist l Z a0 hw b n (kb) ([(.int x0), (.int x1), (.int x2), (.int x3)]) ((2 : Int32)) t x2 h0 O0 Vb (by decide) hj2 rfl) e109 (by rw [hml]; rfl) (hb hby d9_46) (argsL := [(.ref b), (.int 2), (.int t)]) (rest := []) (lenOf pd9 rfl) rfl rfl (W := 0) (Nat.le_refl _) (by decide) ?_
      intro v113 T113 L113 X113 hQ113
      obtain ⟨rfl, N113q, e113⟩ := hQ113
      have N113 := Fr.app N109 N113q
      by_cases hc114 : (own_is x2 t) = (0 : Int32)
      · refine Go.ifYes X113 hx (hb hby d9_49) (Jvm.Free.XT.i0_eq_t hc114) (q := 56) (by decide) (by decide) ?_
        refine Go.iconst X113 hx (hb hby d9_56) (r := (3 : Int32)) rfl (q := 57) rfl ?_
        refine Go.iloadN X113 hx (hb hby d9_57) rfl (q := 58) rfl ?_
        refine Go.icmpYes X113 hx (hb hby d9_58) (by decide) (q := 74) (by decide) (by decide) ?_
        refine Go.iloadN X113 hx (hb hby d9_74) rfl (q := 75) rfl ?_
        exact Go.retI X113 hx hret hlk (Or.inl rfl) rfl (hb hby d9_75) e113 (by decide) (by decide) ⟨by rw [own_tb3, own_is1 hc102, own_is1 hc110, hc114] <;> rfl, N113, rfl⟩
      · refine Go.ifNo X113 hx (hb hby d9_49) (Jvm.Free.XT.i0_eq_f hc114) (q := 52) rfl ?_
        refine Go.iloadN X113 hx (hb hby d9_52) rfl (q := 53) rfl ?_
        refine Go.iconst X113 hx (hb hby d9_53) (r := (1 : Int32)) rfl (q := 54) rfl ?_
        refine Go.iadd X113 hx (hb hby d9_54) (r := (3 : Int32)) rfl (q := 55) rfl ?_
        refine Go.istoreN X113 hx (hb hby d9_55) (l' := #[.val (.ref b), .val (.int 3), .val (.int t), .val (.int 3)]) rfl (q := 56) rfl ?_
        refine Go.iconst X113 hx (hb hby d9_56) (r := (3 : Int32)) rfl (q := 57) rfl ?_
        refine Go.iloadN X113 hx (hb hby d9_57) rfl (q := 58) rfl ?_
        refine Go.icmpYes X113 hx (hb hby d9_58) (by decide) (q := 74) (by decide) (by decide) ?_
        refine Go.iloadN X113 hx (hb hby d9_74) rfl (q := 75) rfl ?_
        exact Go.retI X113 hx hret hlk (Or.inl rfl) rfl (hb hby d9_75) e113 (by decide) (by decide) ⟨by rw [own_tb3, own_is1 hc102, own_is1 hc110, own_is1 hc114] <;> rfl, N113, rfl⟩
def Q_ctb_4 (Z : State) (b : Addr) (x0 x1 x2 x3 : Int32) (kb : ClassId) (n t : Int32) (h0 : Heap) (vR : Option Value) (hR : Heap) (LR : List Loc) : Prop := vR = some (.int (own_tb4 x0 x1 x2 x3 t)) ∧ Fr Z.heap.size LR ∧ hR = h0
theorem ctb_4 (l : Launch) (Z : State) (a0 : Array Value) (hw : ∀ d ∈ tables_1, d.before a0 Z = true) (b : Addr) (x0 x1 x2 x3 : Int32) (kb : ClassId) (n t : Int32) (h0 : Heap) (O0 : Ext Z.heap h0) (Vb : Arv Z h0 b kb .byte n [(.int x0), (.int x1), (.int x2), (.int x3)] (.int 0)) (hj0 : (0 : Int32) < n) (hj1 : (1 : Int32) < n) (hj2 : (2 : Int32) < n) (hj3 : (3 : Int32) < n) :
    Ctr l Z h0 (⟨xS4, "tb", "([BIB)I"⟩ : MethodName) k9 4 (some .int) [] ({ frames := 1, cells := 0, slots := 0, locals := 14 } : Room) #[(.ref b), (.int 4), (.int t)] (Q_ctb_4 Z b x0 x1 x2 x3 kb n t h0) := by
  refine enter (plainFor_of_name pn6) ?_
  intro pp ee ss mm below meth cc s₁ hx hby hml hZ hown hnm hret hlk X0 e0 hs0
  replace hown : ss.vm.findClass xS4 = some mm.cls := hown
  refine Go.cast (congrArg s₁.setTop (ef_ctb_4 mm b t)) ?_
  have N0 := Fr.nil Z.heap.size
  show Go pp ee below _ (s₁.setTop (mkF mm 0 #[.val (.ref b), .val (.int 4), .val (.int t), .unset] []))
  refine Go.iconst X0 hx (hb hby d9_0) (r := (0 : Int32)) rfl (q := 1) rfl ?_
  refine Go.istoreN X0 hx (hb hby d9_1) (l' := #[.val (.ref b), .val (.int 4), .val (.int t), .val (.int 0)]) rfl (q := 2) rfl ?_
  refine Go.iconst X0 hx (hb hby d9_2) (r := (0 : Int32)) rfl (q := 3) rfl ?_
  refine Go.iloadN X0 hx (hb hby d9_3) rfl (q := 4) rfl ?_
  refine Go.icmpNo X0 hx (hb hby d9_4) (by decide) (q := 7) rfl ?_
  refine Go.aloadN X0 hx (hb hby d9_7) rfl rfl (q := 8) rfl ?_
  refine Go.iconst X0 hx (hb hby d9_8) (r := (0 : Int32)) rfl (q := 9) rfl ?_
  refine Go.iloadN X0 hx (hb hby d9_9) rfl (q := 10) rfl ?_
  refine Go.callS X0 hx hZ hown (wd104 hw) (wd105 hw) (wd44 hw) (wd106 hw) (by decide) (cist l Z a0 hw b n (kb) ([(.int x0), (.int x1), (.int x2), (.int x3)]) ((0 : Int32)) t x0 h0 O0 Vb (by decide) hj0 rfl) e0 (by rw [hml]; rfl) (hb hby d9_10) (argsL := [(.ref b), (.int 0), (.int t)]) (rest := []) (lenOf pd9 rfl) rfl rfl (W := 0) (Nat.le_refl _) (by decide) ?_
  intro v101 T101 L101 X101 hQ101
  obtain ⟨rfl, N101q, e101⟩ := hQ101
  have N101 := Fr.app N0 N101q
  by_cases hc102 : (own_is x0 t) = (0 : Int32)
  · refine Go.ifYes X101 hx (hb hby d9_13) (Jvm.Free.XT.i0_eq_t hc102) (q := 20) (by decide) (by decide) ?_
    refine Go.iconst X101 hx (hb hby d9_20) (r := (1 : Int32)) rfl (q := 21) rfl ?_
    refine Go.iloadN X101 hx (hb hby d9_21) rfl (q := 22) rfl ?_
    refine Go.icmpNo X101 hx (hb hby d9_22) (by decide) (q := 25) rfl ?_
    refine Go.aloadN X101 hx (hb hby d9_25) rfl rfl (q := 26) rfl ?_
    refine Go.iconst X101 hx (hb hby d9_26) (r := (1 : Int32)) rfl (q := 27) rfl ?_
    refine Go.iloadN X101 hx (hb hby d9_27) rfl (q := 28) rfl ?_
    refine Go.callS X101 hx hZ hown (wd104 hw) (wd105 hw) (wd44 hw) (wd106 hw) (by decide) (cist l Z a0 hw b n (kb) ([(.int x0), (.int x1), (.int x2), (.int x3)]) ((1 : Int32)) t x1 h0 O0 Vb (by decide) hj1 rfl) e101 (by rw [hml]; rfl) (hb hby d9_28) (argsL := [(.ref b), (.int 1), (.int t)]) (rest := []) (lenOf pd9 rfl) rfl rfl (W := 0) (Nat.le_refl _) (by decide) ?_
    intro v103 T103 L103 X103 hQ103
    obtain ⟨rfl, N103q, e103⟩ := hQ103
    have N103 := Fr.app N101 N103q
    by_cases hc104 : (own_is x1 t) = (0 : Int32)
    · refine Go.ifYes X103 hx (hb hby d9_31) (Jvm.Free.XT.i0_eq_t hc104) (q := 38) (by decide) (by decide) ?_
      refine Go.iconst X103 hx (hb hby d9_38) (r := (2 : Int32)) rfl (q := 39) rfl ?_
      refine Go.iloadN X103 hx (hb hby d9_39) rfl (q := 40) rfl ?_
      refine Go.icmpNo X103 hx (hb hby d9_40) (by decide) (q := 43) rfl ?_
      refine Go.aloadN X103 hx (hb hby d9_43) rfl rfl (q := 44) rfl ?_
      refine Go.iconst X103 hx (hb hby d9_44) (r := (2 : Int32)) rfl (q := 45) rfl ?_
      refine Go.iloadN X103 hx (hb hby d9_45) rfl (q := 46) rfl ?_
      refine Go.callS X103 hx hZ hown (wd104 hw) (wd105 hw) (wd44 hw) (wd106 hw) (by decide) (cist l Z a0 hw b n (kb) ([(.int x0), (.int x1), (.int x2), (.int x3)]) ((2 : Int32)) t x2 h0 O0 Vb (by decide) hj2 rfl) e103 (by rw [hml]; rfl) (hb hby d9_46) (argsL := [(.ref b), (.int 2), (.int t)]) (rest := []) (lenOf pd9 rfl) rfl rfl (W := 0) (Nat.le_refl _) (by decide) ?_
      intro v105 T105 L105 X105 hQ105
      obtain ⟨rfl, N105q, e105⟩ := hQ105
      have N105 := Fr.app N103 N105q
      by_cases hc106 : (own_is x2 t) = (0 : Int32)
      · refine Go.ifYes X105 hx (hb hby d9_49) (Jvm.Free.XT.i0_eq_t hc106) (q := 56) (by decide) (by decide) ?_
        refine Go.iconst X105 hx (hb hby d9_56) (r := (3 : Int32)) rfl (q := 57) rfl ?_
        refine Go.iloadN X105 hx (hb hby d9_57) rfl (q := 58) rfl ?_
        refine Go.icmpNo X105 hx (hb hby d9_58) (by decide) (q := 61) rfl ?_
        refine Go.aloadN X105 hx (hb hby d9_61) rfl rfl (q := 62) rfl ?_
        refine Go.iconst X105 hx (hb hby d9_62) (r := (3 : Int32)) rfl (q := 63) rfl ?_
        refine Go.iloadN X105 hx (hb hby d9_63) rfl (q := 64) rfl ?_
        refine Go.callS X105 hx hZ hown (wd104 hw) (wd105 hw) (wd44 hw) (wd106 hw) (by decide) (cist l Z a0 hw b n (kb) ([(.int x0), (.int x1), (.int x2), (.int x3)]) ((3 : Int32)) t x3 h0 O0 Vb (by decide) hj3 rfl) e105 (by rw [hml]; rfl) (hb hby d9_64) (argsL := [(.ref b), (.int 3), (.int t)]) (rest := []) (lenOf pd9 rfl) rfl rfl (W := 0) (Nat.le_refl _) (by decide) ?_
        intro v107 T107 L107 X107 hQ107
        obtain ⟨rfl, N107q, e107⟩ := hQ107
        have N107 := Fr.app N105 N107q
        by_cases hc108 : (own_is x3 t) = (0 : Int32)
        · refine Go.ifYes X107 hx (hb hby d9_67) (Jvm.Free.XT.i0_eq_t hc108) (q := 74) (by decide) (by decide) ?_
          refine Go.iloadN X107 hx (hb hby d9_74) rfl (q := 75) rfl ?_
          exact Go.retI X107 hx hret hlk (Or.inl rfl) rfl (hb hby d9_75) e107 (by decide) (by decide) ⟨by rw [own_tb4, hc102, hc104, hc106, hc108] <;> rfl, N107, rfl⟩
        · refine Go.ifNo X107 hx (hb hby d9_67) (Jvm.Free.XT.i0_eq_f hc108) (q := 70) rfl ?_
          refine Go.iloadN X107 hx (hb hby d9_70) rfl (q := 71) rfl ?_
          refine Go.iconst X107 hx (hb hby d9_71) (r := (1 : Int32)) rfl (q := 72) rfl ?_
          refine Go.iadd X107 hx (hb hby d9_72) (r := (1 : Int32)) rfl (q := 73) rfl ?_
          refine Go.istoreN X107 hx (hb hby d9_73) (l' := #[.val (.ref b), .val (.int 4), .val (.int t), .val (.int 1)]) rfl (q := 74) rfl ?_
          refine Go.iloadN X107 hx (hb hby d9_74) rfl (q := 75) rfl ?_
          exact Go.retI X107 hx hret hlk (Or.inl rfl) rfl (hb hby d9_75) e107 (by decide) (by decide) ⟨by rw [own_tb4, hc102, hc104, hc106, own_is1 hc108] <;> rfl, N107, rfl⟩
      · refine Go.ifNo X105 hx (hb hby d9_49) (Jvm.Free.XT.i0_eq_f hc106) (q := 52) rfl ?_
        refine Go.iloadN X105 hx (hb hby d9_52) rfl (q := 53) rfl ?_
        refine Go.iconst X105 hx (hb hby d9_53) (r := (1 : Int32)) rfl (q := 54) rfl ?_
        refine Go.iadd X105 hx (hb hby d9_54) (r := (1 : Int32)) rfl (q := 55) rfl ?_
        refine Go.istoreN X105 hx (hb hby d9_55) (l' := #[.val (.ref b), .val (.int 4), .val (.int t), .val (.int 1)]) rfl (q := 56) rfl ?_
        refine Go.iconst X105 hx (hb hby d9_56) (r := (3 : Int32)) rfl (q := 57) rfl ?_
        refine Go.iloadN X105 hx (hb hby d9_57) rfl (q := 58) rfl ?_
        refine Go.icmpNo X105 hx (hb hby d9_58) (by decide) (q := 61) rfl ?_
        refine Go.aloadN X105 hx (hb hby d9_61) rfl rfl (q := 62) rfl ?_
        refine Go.iconst X105 hx (hb hby d9_62) (r := (3 : Int32)) rfl (q := 63) rfl ?_
        refine Go.iloadN X105 hx (hb hby d9_63) rfl (q := 64) rfl ?_
        refine Go.callS X105 hx hZ hown (wd104 hw) (wd105 hw) (wd44 hw) (wd106 hw) (by decide) (cist l Z a0 hw b n (kb) ([(.int x0), (.int x1), (.int x2), (.int x3)]) ((3 : Int32)) t x3 h0 O0 Vb (by decide) hj3 rfl) e105 (by rw [hml]; rfl) (hb hby d9_64) (argsL := [(.ref b), (.int 3), (.int t)]) (rest := []) (lenOf pd9 rfl) rfl rfl (W := 0) (Nat.le_refl _) (by decide) ?_
        intro v109 T109 L109 X109 hQ109
        obtain ⟨rfl, N109q, e109⟩ := hQ109
        have N109 := Fr.app N105 N109q
        by_cases hc110 : (own_is x3 t) = (0 : Int32)
        · refine Go.ifYes X109 hx (hb hby d9_67) (Jvm.Free.XT.i0_eq_t hc110) (q := 74) (by decide) (by decide) ?_
          refine Go.iloadN X109 hx (hb hby d9_74) rfl (q := 75) rfl ?_
          exact Go.retI X109 hx hret hlk (Or.inl rfl) rfl (hb hby d9_75) e109 (by decide) (by decide) ⟨by rw [own_tb4, hc102, hc104, own_is1 hc106, hc110] <;> rfl, N109, rfl⟩
        · refine Go.ifNo X109 hx (hb hby d9_67) (Jvm.Free.XT.i0_eq_f hc110) (q := 70) rfl ?_
          refine Go.iloadN X109 hx (hb hby d9_70) rfl (q := 71) rfl ?_
          refine Go.iconst X109 hx (hb hby d9_71) (r := (1 : Int32)) rfl (q := 72) rfl ?_
          refine Go.iadd X109 hx (hb hby d9_72) (r := (2 : Int32)) rfl (q := 73) rfl ?_
          refine Go.istoreN X109 hx (hb hby d9_73) (l' := #[.val (.ref b), .val (.int 4), .val (.int t), .val (.int 2)]) rfl (q := 74) rfl ?_
          refine Go.iloadN X109 hx (hb hby d9_74) rfl (q := 75) rfl ?_
          exact Go.retI X109 hx hret hlk (Or.inl rfl) rfl (hb hby d9_75) e109 (by decide) (by decide) ⟨by rw [own_tb4, hc102, hc104, own_is1 hc106, own_is1 hc110] <;> rfl, N109, rfl⟩
    · refine Go.ifNo X103 hx (hb hby d9_31) (Jvm.Free.XT.i0_eq_f hc104) (q := 34) rfl ?_
      refine Go.iloadN X103 hx (hb hby d9_34) rfl (q := 35) rfl ?_
      refine Go.iconst X103 hx (hb hby d9_35) (r := (1 : Int32)) rfl (q := 36) rfl ?_
      refine Go.iadd X103 hx (hb hby d9_36) (r := (1 : Int32)) rfl (q := 37) rfl ?_
      refine Go.istoreN X103 hx (hb hby d9_37) (l' := #[.val (.ref b), .val (.int 4), .val (.int t), .val (.int 1)]) rfl (q := 38) rfl ?_
      refine Go.iconst X103 hx (hb hby d9_38) (r := (2 : Int32)) rfl (q := 39) rfl ?_
      refine Go.iloadN X103 hx (hb hby d9_39) rfl (q := 40) rfl ?_
      refine Go.icmpNo X103 hx (hb hby d9_40) (by decide) (q := 43) rfl ?_
      refine Go.aloadN X103 hx (hb hby d9_43) rfl rfl (q := 44) rfl ?_
      refine Go.iconst X103 hx (hb hby d9_44) (r := (2 : Int32)) rfl (q := 45) rfl ?_
      refine Go.iloadN X103 hx (hb hby d9_45) rfl (q := 46) rfl ?_
      refine Go.callS X103 hx hZ hown (wd104 hw) (wd105 hw) (wd44 hw) (wd106 hw) (by decide) (cist l Z a0 hw b n (kb) ([(.int x0), (.int x1), (.int x2), (.int x3)]) ((2 : Int32)) t x2 h0 O0 Vb (by decide) hj2 rfl) e103 (by rw [hml]; rfl) (hb hby d9_46) (argsL := [(.ref b), (.int 2), (.int t)]) (rest := []) (lenOf pd9 rfl) rfl rfl (W := 0) (Nat.le_refl _) (by decide) ?_
      intro v111 T111 L111 X111 hQ111
      obtain ⟨rfl, N111q, e111⟩ := hQ111
      have N111 := Fr.app N103 N111q
      by_cases hc112 : (own_is x2 t) = (0 : Int32)
      · refine Go.ifYes X111 hx (hb hby d9_49) (Jvm.Free.XT.i0_eq_t hc112) (q := 56) (by decide) (by decide) ?_
        refine Go.iconst X111 hx (hb hby d9_56) (r := (3 : Int32)) rfl (q := 57) rfl ?_
        refine Go.iloadN X111 hx (hb hby d9_57) rfl (q := 58) rfl ?_
        refine Go.icmpNo X111 hx (hb hby d9_58) (by decide) (q := 61) rfl ?_
        refine Go.aloadN X111 hx (hb hby d9_61) rfl rfl (q := 62) rfl ?_
        refine Go.iconst X111 hx (hb hby d9_62) (r := (3 : Int32)) rfl (q := 63) rfl ?_
        refine Go.iloadN X111 hx (hb hby d9_63) rfl (q := 64) rfl ?_
        refine Go.callS X111 hx hZ hown (wd104 hw) (wd105 hw) (wd44 hw) (wd106 hw) (by decide) (cist l Z a0 hw b n (kb) ([(.int x0), (.int x1), (.int x2), (.int x3)]) ((3 : Int32)) t x3 h0 O0 Vb (by decide) hj3 rfl) e111 (by rw [hml]; rfl) (hb hby d9_64) (argsL := [(.ref b), (.int 3), (.int t)]) (rest := []) (lenOf pd9 rfl) rfl rfl (W := 0) (Nat.le_refl _) (by decide) ?_
        intro v113 T113 L113 X113 hQ113
        obtain ⟨rfl, N113q, e113⟩ := hQ113
        have N113 := Fr.app N111 N113q
        by_cases hc114 : (own_is x3 t) = (0 : Int32)
        · refine Go.ifYes X113 hx (hb hby d9_67) (Jvm.Free.XT.i0_eq_t hc114) (q := 74) (by decide) (by decide) ?_
          refine Go.iloadN X113 hx (hb hby d9_74) rfl (q := 75) rfl ?_
          exact Go.retI X113 hx hret hlk (Or.inl rfl) rfl (hb hby d9_75) e113 (by decide) (by decide) ⟨by rw [own_tb4, hc102, own_is1 hc104, hc112, hc114] <;> rfl, N113, rfl⟩
        · refine Go.ifNo X113 hx (hb hby d9_67) (Jvm.Free.XT.i0_eq_f hc114) (q := 70) rfl ?_
          refine Go.iloadN X113 hx (hb hby d9_70) rfl (q := 71) rfl ?_
          refine Go.iconst X113 hx (hb hby d9_71) (r := (1 : Int32)) rfl (q := 72) rfl ?_
          refine Go.iadd X113 hx (hb hby d9_72) (r := (2 : Int32)) rfl (q := 73) rfl ?_
          refine Go.istoreN X113 hx (hb hby d9_73) (l' := #[.val (.ref b), .val (.int 4), .val (.int t), .val (.int 2)]) rfl (q := 74) rfl ?_
          refine Go.iloadN X113 hx (hb hby d9_74) rfl (q := 75) rfl ?_
          exact Go.retI X113 hx hret hlk (Or.inl rfl) rfl (hb hby d9_75) e113 (by decide) (by decide) ⟨by rw [own_tb4, hc102, own_is1 hc104, hc112, own_is1 hc114] <;> rfl, N113, rfl⟩
      · refine Go.ifNo X111 hx (hb hby d9_49) (Jvm.Free.XT.i0_eq_f hc112) (q := 52) rfl ?_
        refine Go.iloadN X111 hx (hb hby d9_52) rfl (q := 53) rfl ?_
        refine Go.iconst X111 hx (hb hby d9_53) (r := (1 : Int32)) rfl (q := 54) rfl ?_
        refine Go.iadd X111 hx (hb hby d9_54) (r := (2 : Int32)) rfl (q := 55) rfl ?_
        refine Go.istoreN X111 hx (hb hby d9_55) (l' := #[.val (.ref b), .val (.int 4), .val (.int t), .val (.int 2)]) rfl (q := 56) rfl ?_
        refine Go.iconst X111 hx (hb hby d9_56) (r := (3 : Int32)) rfl (q := 57) rfl ?_
        refine Go.iloadN X111 hx (hb hby d9_57) rfl (q := 58) rfl ?_
        refine Go.icmpNo X111 hx (hb hby d9_58) (by decide) (q := 61) rfl ?_
        refine Go.aloadN X111 hx (hb hby d9_61) rfl rfl (q := 62) rfl ?_
        refine Go.iconst X111 hx (hb hby d9_62) (r := (3 : Int32)) rfl (q := 63) rfl ?_
        refine Go.iloadN X111 hx (hb hby d9_63) rfl (q := 64) rfl ?_
        refine Go.callS X111 hx hZ hown (wd104 hw) (wd105 hw) (wd44 hw) (wd106 hw) (by decide) (cist l Z a0 hw b n (kb) ([(.int x0), (.int x1), (.int x2), (.int x3)]) ((3 : Int32)) t x3 h0 O0 Vb (by decide) hj3 rfl) e111 (by rw [hml]; rfl) (hb hby d9_64) (argsL := [(.ref b), (.int 3), (.int t)]) (rest := []) (lenOf pd9 rfl) rfl rfl (W := 0) (Nat.le_refl _) (by decide) ?_
        intro v115 T115 L115 X115 hQ115
        obtain ⟨rfl, N115q, e115⟩ := hQ115
        have N115 := Fr.app N111 N115q
        by_cases hc116 : (own_is x3 t) = (0 : Int32)
        · refine Go.ifYes X115 hx (hb hby d9_67) (Jvm.Free.XT.i0_eq_t hc116) (q := 74) (by decide) (by decide) ?_
          refine Go.iloadN X115 hx (hb hby d9_74) rfl (q := 75) rfl ?_
          exact Go.retI X115 hx hret hlk (Or.inl rfl) rfl (hb hby d9_75) e115 (by decide) (by decide) ⟨by rw [own_tb4, hc102, own_is1 hc104, own_is1 hc112, hc116] <;> rfl, N115, rfl⟩
        · refine Go.ifNo X115 hx (hb hby d9_67) (Jvm.Free.XT.i0_eq_f hc116) (q := 70) rfl ?_
          refine Go.iloadN X115 hx (hb hby d9_70) rfl (q := 71) rfl ?_
          refine Go.iconst X115 hx (hb hby d9_71) (r := (1 : Int32)) rfl (q := 72) rfl ?_
          refine Go.iadd X115 hx (hb hby d9_72) (r := (3 : Int32)) rfl (q := 73) rfl ?_
          refine Go.istoreN X115 hx (hb hby d9_73) (l' := #[.val (.ref b), .val (.int 4), .val (.int t), .val (.int 3)]) rfl (q := 74) rfl ?_
          refine Go.iloadN X115 hx (hb hby d9_74) rfl (q := 75) rfl ?_
          exact Go.retI X115 hx hret hlk (Or.inl rfl) rfl (hb hby d9_75) e115 (by decide) (by decide) ⟨by rw [own_tb4, hc102, own_is1 hc104, own_is1 hc112, own_is1 hc116] <;> rfl, N115, rfl⟩
  · refine Go.ifNo X101 hx (hb hby d9_13) (Jvm.Free.XT.i0_eq_f hc102) (q := 16) rfl ?_
    refine Go.iloadN X101 hx (hb hby d9_16) rfl (q := 17) rfl ?_
    refine Go.iconst X101 hx (hb hby d9_17) (r := (1 : Int32)) rfl (q := 18) rfl ?_
    refine Go.iadd X101 hx (hb hby d9_18) (r := (1 : Int32)) rfl (q := 19) rfl ?_
    refine Go.istoreN X101 hx (hb hby d9_19) (l' := #[.val (.ref b), .val (.int 4), .val (.int t), .val (.int 1)]) rfl (q := 20) rfl ?_
    refine Go.iconst X101 hx (hb hby d9_20) (r := (1 : Int32)) rfl (q := 21) rfl ?_
    refine Go.iloadN X101 hx (hb hby d9_21) rfl (q := 22) rfl ?_
    refine Go.icmpNo X101 hx (hb hby d9_22) (by decide) (q := 25) rfl ?_
    refine Go.aloadN X101 hx (hb hby d9_25) rfl rfl (q := 26) rfl ?_
    refine Go.iconst X101 hx (hb hby d9_26) (r := (1 : Int32)) rfl (q := 27) rfl ?_
    refine Go.iloadN X101 hx (hb hby d9_27) rfl (q := 28) rfl ?_
    refine Go.callS X101 hx hZ hown (wd104 hw) (wd105 hw) (wd44 hw) (wd106 hw) (by decide) (cist l Z a0 hw b n (kb) ([(.int x0), (.int x1), (.int x2), (.int x3)]) ((1 : Int32)) t x1 h0 O0 Vb (by decide) hj1 rfl) e101 (by rw [hml]; rfl) (hb hby d9_28) (argsL := [(.ref b), (.int 1), (.int t)]) (rest := []) (lenOf pd9 rfl) rfl rfl (W := 0) (Nat.le_refl _) (by decide) ?_
    intro v117 T117 L117 X117 hQ117
    obtain ⟨rfl, N117q, e117⟩ := hQ117
    have N117 := Fr.app N101 N117q
    by_cases hc118 : (own_is x1 t) = (0 : Int32)
    · refine Go.ifYes X117 hx (hb hby d9_31) (Jvm.Free.XT.i0_eq_t hc118) (q := 38) (by decide) (by decide) ?_
      refine Go.iconst X117 hx (hb hby d9_38) (r := (2 : Int32)) rfl (q := 39) rfl ?_
      refine Go.iloadN X117 hx (hb hby d9_39) rfl (q := 40) rfl ?_
      refine Go.icmpNo X117 hx (hb hby d9_40) (by decide) (q := 43) rfl ?_
      refine Go.aloadN X117 hx (hb hby d9_43) rfl rfl (q := 44) rfl ?_
      refine Go.iconst X117 hx (hb hby d9_44) (r := (2 : Int32)) rfl (q := 45) rfl ?_
      refine Go.iloadN X117 hx (hb hby d9_45) rfl (q := 46) rfl ?_
      refine Go.callS X117 hx hZ hown (wd104 hw) (wd105 hw) (wd44 hw) (wd106 hw) (by decide) (cist l Z a0 hw b n (kb) ([(.int x0), (.int x1), (.int x2), (.int x3)]) ((2 : Int32)) t x2 h0 O0 Vb (by decide) hj2 rfl) e117 (by rw [hml]; rfl) (hb hby d9_46) (argsL := [(.ref b), (.int 2), (.int t)]) (rest := []) (lenOf pd9 rfl) rfl rfl (W := 0) (Nat.le_refl _) (by decide) ?_
      intro v119 T119 L119 X119 hQ119
      obtain ⟨rfl, N119q, e119⟩ := hQ119
      have N119 := Fr.app N117 N119q
      by_cases hc120 : (own_is x2 t) = (0 : Int32)
      · refine Go.ifYes X119 hx (hb hby d9_49) (Jvm.Free.XT.i0_eq_t hc120) (q := 56) (by decide) (by decide) ?_
        refine Go.iconst X119 hx (hb hby d9_56) (r := (3 : Int32)) rfl (q := 57) rfl ?_
        refine Go.iloadN X119 hx (hb hby d9_57) rfl (q := 58) rfl ?_
        refine Go.icmpNo X119 hx (hb hby d9_58) (by decide) (q := 61) rfl ?_
        refine Go.aloadN X119 hx (hb hby d9_61) rfl rfl (q := 62) rfl ?_
        refine Go.iconst X119 hx (hb hby d9_62) (r := (3 : Int32)) rfl (q := 63) rfl ?_
        refine Go.iloadN X119 hx (hb hby d9_63) rfl (q := 64) rfl ?_
        refine Go.callS X119 hx hZ hown (wd104 hw) (wd105 hw) (wd44 hw) (wd106 hw) (by decide) (cist l Z a0 hw b n (kb) ([(.int x0), (.int x1), (.int x2), (.int x3)]) ((3 : Int32)) t x3 h0 O0 Vb (by decide) hj3 rfl) e119 (by rw [hml]; rfl) (hb hby d9_64) (argsL := [(.ref b), (.int 3), (.int t)]) (rest := []) (lenOf pd9 rfl) rfl rfl (W := 0) (Nat.le_refl _) (by decide) ?_
        intro v121 T121 L121 X121 hQ121
        obtain ⟨rfl, N121q, e121⟩ := hQ121
        have N121 := Fr.app N119 N121q
        by_cases hc122 : (own_is x3 t) = (0 : Int32)
        · refine Go.ifYes X121 hx (hb hby d9_67) (Jvm.Free.XT.i0_eq_t hc122) (q := 74) (by decide) (by decide) ?_
          refine Go.iloadN X121 hx (hb hby d9_74) rfl (q := 75) rfl ?_
          exact Go.retI X121 hx hret hlk (Or.inl rfl) rfl (hb hby d9_75) e121 (by decide) (by decide) ⟨by rw [own_tb4, own_is1 hc102, hc118, hc120, hc122] <;> rfl, N121, rfl⟩
        · refine Go.ifNo X121 hx (hb hby d9_67) (Jvm.Free.XT.i0_eq_f hc122) (q := 70) rfl ?_
          refine Go.iloadN X121 hx (hb hby d9_70) rfl (q := 71) rfl ?_
          refine Go.iconst X121 hx (hb hby d9_71) (r := (1 : Int32)) rfl (q := 72) rfl ?_
          refine Go.iadd X121 hx (hb hby d9_72) (r := (2 : Int32)) rfl (q := 73) rfl ?_
          refine Go.istoreN X121 hx (hb hby d9_73) (l' := #[.val (.ref b), .val (.int 4), .val (.int t), .val (.int 2)]) rfl (q := 74) rfl ?_
          refine Go.iloadN X121 hx (hb hby d9_74) rfl (q := 75) rfl ?_
          exact Go.retI X121 hx hret hlk (Or.inl rfl) rfl (hb hby d9_75) e121 (by decide) (by decide) ⟨by rw [own_tb4, own_is1 hc102, hc118, hc120, own_is1 hc122] <;> rfl, N121, rfl⟩
      · refine Go.ifNo X119 hx (hb hby d9_49) (Jvm.Free.XT.i0_eq_f hc120) (q := 52) rfl ?_
        refine Go.iloadN X119 hx (hb hby d9_52) rfl (q := 53) rfl ?_
        refine Go.iconst X119 hx (hb hby d9_53) (r := (1 : Int32)) rfl (q := 54) rfl ?_
        refine Go.iadd X119 hx (hb hby d9_54) (r := (2 : Int32)) rfl (q := 55) rfl ?_
        refine Go.istoreN X119 hx (hb hby d9_55) (l' := #[.val (.ref b), .val (.int 4), .val (.int t), .val (.int 2)]) rfl (q := 56) rfl ?_
        refine Go.iconst X119 hx (hb hby d9_56) (r := (3 : Int32)) rfl (q := 57) rfl ?_
        refine Go.iloadN X119 hx (hb hby d9_57) rfl (q := 58) rfl ?_
        refine Go.icmpNo X119 hx (hb hby d9_58) (by decide) (q := 61) rfl ?_
        refine Go.aloadN X119 hx (hb hby d9_61) rfl rfl (q := 62) rfl ?_
        refine Go.iconst X119 hx (hb hby d9_62) (r := (3 : Int32)) rfl (q := 63) rfl ?_
        refine Go.iloadN X119 hx (hb hby d9_63) rfl (q := 64) rfl ?_
        refine Go.callS X119 hx hZ hown (wd104 hw) (wd105 hw) (wd44 hw) (wd106 hw) (by decide) (cist l Z a0 hw b n (kb) ([(.int x0), (.int x1), (.int x2), (.int x3)]) ((3 : Int32)) t x3 h0 O0 Vb (by decide) hj3 rfl) e119 (by rw [hml]; rfl) (hb hby d9_64) (argsL := [(.ref b), (.int 3), (.int t)]) (rest := []) (lenOf pd9 rfl) rfl rfl (W := 0) (Nat.le_refl _) (by decide) ?_
        intro v123 T123 L123 X123 hQ123
        obtain ⟨rfl, N123q, e123⟩ := hQ123
        have N123 := Fr.app N119 N123q
        by_cases hc124 : (own_is x3 t) = (0 : Int32)
        · refine Go.ifYes X123 hx (hb hby d9_67) (Jvm.Free.XT.i0_eq_t hc124) (q := 74) (by decide) (by decide) ?_
          refine Go.iloadN X123 hx (hb hby d9_74) rfl (q := 75) rfl ?_
          exact Go.retI X123 hx hret hlk (Or.inl rfl) rfl (hb hby d9_75) e123 (by decide) (by decide) ⟨by rw [own_tb4, own_is1 hc102, hc118, own_is1 hc120, hc124] <;> rfl, N123, rfl⟩
        · refine Go.ifNo X123 hx (hb hby d9_67) (Jvm.Free.XT.i0_eq_f hc124) (q := 70) rfl ?_
          refine Go.iloadN X123 hx (hb hby d9_70) rfl (q := 71) rfl ?_
          refine Go.iconst X123 hx (hb hby d9_71) (r := (1 : Int32)) rfl (q := 72) rfl ?_
          refine Go.iadd X123 hx (hb hby d9_72) (r := (3 : Int32)) rfl (q := 73) rfl ?_
          refine Go.istoreN X123 hx (hb hby d9_73) (l' := #[.val (.ref b), .val (.int 4), .val (.int t), .val (.int 3)]) rfl (q := 74) rfl ?_
          refine Go.iloadN X123 hx (hb hby d9_74) rfl (q := 75) rfl ?_
          exact Go.retI X123 hx hret hlk (Or.inl rfl) rfl (hb hby d9_75) e123 (by decide) (by decide) ⟨by rw [own_tb4, own_is1 hc102, hc118, own_is1 hc120, own_is1 hc124] <;> rfl, N123, rfl⟩
    · refine Go.ifNo X117 hx (hb hby d9_31) (Jvm.Free.XT.i0_eq_f hc118) (q := 34) rfl ?_
      refine Go.iloadN X117 hx (hb hby d9_34) rfl (q := 35) rfl ?_
      refine Go.iconst X117 hx (hb hby d9_35) (r := (1 : Int32)) rfl (q := 36) rfl ?_
      refine Go.iadd X117 hx (hb hby d9_36) (r := (2 : Int32)) rfl (q := 37) rfl ?_
      refine Go.istoreN X117 hx (hb hby d9_37) (l' := #[.val (.ref b), .val (.int 4), .val (.int t), .val (.int 2)]) rfl (q := 38) rfl ?_
      refine Go.iconst X117 hx (hb hby d9_38) (r := (2 : Int32)) rfl (q := 39) rfl ?_
      refine Go.iloadN X117 hx (hb hby d9_39) rfl (q := 40) rfl ?_
      refine Go.icmpNo X117 hx (hb hby d9_40) (by decide) (q := 43) rfl ?_
      refine Go.aloadN X117 hx (hb hby d9_43) rfl rfl (q := 44) rfl ?_
      refine Go.iconst X117 hx (hb hby d9_44) (r := (2 : Int32)) rfl (q := 45) rfl ?_
      refine Go.iloadN X117 hx (hb hby d9_45) rfl (q := 46) rfl ?_
      refine Go.callS X117 hx hZ hown (wd104 hw) (wd105 hw) (wd44 hw) (wd106 hw) (by decide) (cist l Z a0 hw b n (kb) ([(.int x0), (.int x1), (.int x2), (.int x3)]) ((2 : Int32)) t x2 h0 O0 Vb (by decide) hj2 rfl) e117 (by rw [hml]; rfl) (hb hby d9_46) (argsL := [(.ref b), (.int 2), (.int t)]) (rest := []) (lenOf pd9 rfl) rfl rfl (W := 0) (Nat.le_refl _) (by decide) ?_
      intro v125 T125 L125 X125 hQ125
      obtain ⟨rfl, N125q, e125⟩ := hQ125
      have N125 := Fr.app N117 N125q
      by_cases hc126 : (own_is x2 t) = (0 : Int32)
      · refine Go.ifYes X125 hx (hb hby d9_49) (Jvm.Free.XT.i0_eq_t hc126) (q := 56) (by decide) (by decide) ?_
        refine Go.iconst X125 hx (hb hby d9_56) (r := (3 : Int32)) rfl (q := 57) rfl ?_
        refine Go.iloadN X125 hx (hb hby d9_57) rfl (q := 58) rfl ?_
        refine Go.icmpNo X125 hx (hb hby d9_58) (by decide) (q := 61) rfl ?_
        refine Go.aloadN X125 hx (hb hby d9_61) rfl rfl (q := 62) rfl ?_
        refine Go.iconst X125 hx (hb hby d9_62) (r := (3 : Int32)) rfl (q := 63) rfl ?_
        refine Go.iloadN X125 hx (hb hby d9_63) rfl (q := 64) rfl ?_
        refine Go.callS X125 hx hZ hown (wd104 hw) (wd105 hw) (wd44 hw) (wd106 hw) (by decide) (cist l Z a0 hw b n (kb) ([(.int x0), (.int x1), (.int x2), (.int x3)]) ((3 : Int32)) t x3 h0 O0 Vb (by decide) hj3 rfl) e125 (by rw [hml]; rfl) (hb hby d9_64) (argsL := [(.ref b), (.int 3), (.int t)]) (rest := []) (lenOf pd9 rfl) rfl rfl (W := 0) (Nat.le_refl _) (by decide) ?_
        intro v127 T127 L127 X127 hQ127
        obtain ⟨rfl, N127q, e127⟩ := hQ127
        have N127 := Fr.app N125 N127q
        by_cases hc128 : (own_is x3 t) = (0 : Int32)
        · refine Go.ifYes X127 hx (hb hby d9_67) (Jvm.Free.XT.i0_eq_t hc128) (q := 74) (by decide) (by decide) ?_
          refine Go.iloadN X127 hx (hb hby d9_74) rfl (q := 75) rfl ?_
          exact Go.retI X127 hx hret hlk (Or.inl rfl) rfl (hb hby d9_75) e127 (by decide) (by decide) ⟨by rw [own_tb4, own_is1 hc102, own_is1 hc118, hc126, hc128] <;> rfl, N127, rfl⟩
        · refine Go.ifNo X127 hx (hb hby d9_67) (Jvm.Free.XT.i0_eq_f hc128) (q := 70) rfl ?_
          refine Go.iloadN X127 hx (hb hby d9_70) rfl (q := 71) rfl ?_
          refine Go.iconst X127 hx (hb hby d9_71) (r := (1 : Int32)) rfl (q := 72) rfl ?_
          refine Go.iadd X127 hx (hb hby d9_72) (r := (3 : Int32)) rfl (q := 73) rfl ?_
          refine Go.istoreN X127 hx (hb hby d9_73) (l' := #[.val (.ref b), .val (.int 4), .val (.int t), .val (.int 3)]) rfl (q := 74) rfl ?_
          refine Go.iloadN X127 hx (hb hby d9_74) rfl (q := 75) rfl ?_
          exact Go.retI X127 hx hret hlk (Or.inl rfl) rfl (hb hby d9_75) e127 (by decide) (by decide) ⟨by rw [own_tb4, own_is1 hc102, own_is1 hc118, hc126, own_is1 hc128] <;> rfl, N127, rfl⟩
      · refine Go.ifNo X125 hx (hb hby d9_49) (Jvm.Free.XT.i0_eq_f hc126) (q := 52) rfl ?_
        refine Go.iloadN X125 hx (hb hby d9_52) rfl (q := 53) rfl ?_
        refine Go.iconst X125 hx (hb hby d9_53) (r := (1 : Int32)) rfl (q := 54) rfl ?_
        refine Go.iadd X125 hx (hb hby d9_54) (r := (3 : Int32)) rfl (q := 55) rfl ?_
        refine Go.istoreN X125 hx (hb hby d9_55) (l' := #[.val (.ref b), .val (.int 4), .val (.int t), .val (.int 3)]) rfl (q := 56) rfl ?_
        refine Go.iconst X125 hx (hb hby d9_56) (r := (3 : Int32)) rfl (q := 57) rfl ?_
        refine Go.iloadN X125 hx (hb hby d9_57) rfl (q := 58) rfl ?_
        refine Go.icmpNo X125 hx (hb hby d9_58) (by decide) (q := 61) rfl ?_
        refine Go.aloadN X125 hx (hb hby d9_61) rfl rfl (q := 62) rfl ?_
        refine Go.iconst X125 hx (hb hby d9_62) (r := (3 : Int32)) rfl (q := 63) rfl ?_
        refine Go.iloadN X125 hx (hb hby d9_63) rfl (q := 64) rfl ?_
        refine Go.callS X125 hx hZ hown (wd104 hw) (wd105 hw) (wd44 hw) (wd106 hw) (by decide) (cist l Z a0 hw b n (kb) ([(.int x0), (.int x1), (.int x2), (.int x3)]) ((3 : Int32)) t x3 h0 O0 Vb (by decide) hj3 rfl) e125 (by rw [hml]; rfl) (hb hby d9_64) (argsL := [(.ref b), (.int 3), (.int t)]) (rest := []) (lenOf pd9 rfl) rfl rfl (W := 0) (Nat.le_refl _) (by decide) ?_
        intro v129 T129 L129 X129 hQ129
        obtain ⟨rfl, N129q, e129⟩ := hQ129
        have N129 := Fr.app N125 N129q
        by_cases hc130 : (own_is x3 t) = (0 : Int32)
        · refine Go.ifYes X129 hx (hb hby d9_67) (Jvm.Free.XT.i0_eq_t hc130) (q := 74) (by decide) (by decide) ?_
          refine Go.iloadN X129 hx (hb hby d9_74) rfl (q := 75) rfl ?_
          exact Go.retI X129 hx hret hlk (Or.inl rfl) rfl (hb hby d9_75) e129 (by decide) (by decide) ⟨by rw [own_tb4, own_is1 hc102, own_is1 hc118, own_is1 hc126, hc130] <;> rfl, N129, rfl⟩
        · refine Go.ifNo X129 hx (hb hby d9_67) (Jvm.Free.XT.i0_eq_f hc130) (q := 70) rfl ?_
          refine Go.iloadN X129 hx (hb hby d9_70) rfl (q := 71) rfl ?_
          refine Go.iconst X129 hx (hb hby d9_71) (r := (1 : Int32)) rfl (q := 72) rfl ?_
          refine Go.iadd X129 hx (hb hby d9_72) (r := (4 : Int32)) rfl (q := 73) rfl ?_
          refine Go.istoreN X129 hx (hb hby d9_73) (l' := #[.val (.ref b), .val (.int 4), .val (.int t), .val (.int 4)]) rfl (q := 74) rfl ?_
          refine Go.iloadN X129 hx (hb hby d9_74) rfl (q := 75) rfl ?_
          exact Go.retI X129 hx hret hlk (Or.inl rfl) rfl (hb hby d9_75) e129 (by decide) (by decide) ⟨by rw [own_tb4, own_is1 hc102, own_is1 hc118, own_is1 hc126, own_is1 hc130] <;> rfl, N129, rfl⟩
def Q_clt_0 (Z : State) (b : Addr) (x0 x1 x2 x3 : Int32) (kb : ClassId) (n t : Int32) (h0 : Heap) (vR : Option Value) (hR : Heap) (LR : List Loc) : Prop := vR = some (.int (-1)) ∧ Fr Z.heap.size LR ∧ hR = h0
theorem clt_0 (l : Launch) (Z : State) (a0 : Array Value) (hw : ∀ d ∈ tables_1, d.before a0 Z = true) (b : Addr) (x0 x1 x2 x3 : Int32) (kb : ClassId) (n t : Int32) (h0 : Heap) (O0 : Ext Z.heap h0) (Vb : Arv Z h0 b kb .byte n [(.int x0), (.int x1), (.int x2), (.int x3)] (.int 0)) :
    Ctr l Z h0 (⟨xS4, "lt", "([BIB)I"⟩ : MethodName) k21 4 (some .int) [] ({ frames := 0, cells := 0, slots := 0, locals := 0 } : Room) #[(.ref b), (.int 0), (.int t)] (Q_clt_0 Z b x0 x1 x2 x3 kb n t h0) := by
  refine enter (plainFor_of_name pn6) ?_
  intro pp ee ss mm below meth cc s₁ hx hby hml hZ hown hnm hret hlk X0 e0 hs0
  replace hown : ss.vm.findClass xS4 = some mm.cls := hown
  refine Go.cast (congrArg s₁.setTop (ef_clt_0 mm b t)) ?_
  have N0 := Fr.nil Z.heap.size
  show Go pp ee below _ (s₁.setTop (mkF mm 0 #[.val (.ref b), .val (.int 0), .val (.int t), .unset] []))
  refine Go.iconst X0 hx (hb hby d21_0) (r := (-1 : Int32)) rfl (q := 1) rfl ?_
  refine Go.istoreN X0 hx (hb hby d21_1) (l' := #[.val (.ref b), .val (.int 0), .val (.int t), .val (.int (-1))]) rfl (q := 2) rfl ?_
  refine Go.iconst X0 hx (hb hby d21_2) (r := (0 : Int32)) rfl (q := 3) rfl ?_
  refine Go.iloadN X0 hx (hb hby d21_3) rfl (q := 4) rfl ?_
  refine Go.icmpYes X0 hx (hb hby d21_4) (by decide) (q := 18) (by decide) (by decide) ?_
  refine Go.iconst X0 hx (hb hby d21_18) (r := (1 : Int32)) rfl (q := 19) rfl ?_
  refine Go.iloadN X0 hx (hb hby d21_19) rfl (q := 20) rfl ?_
  refine Go.icmpYes X0 hx (hb hby d21_20) (by decide) (q := 34) (by decide) (by decide) ?_
  refine Go.iconst X0 hx (hb hby d21_34) (r := (2 : Int32)) rfl (q := 35) rfl ?_
  refine Go.iloadN X0 hx (hb hby d21_35) rfl (q := 36) rfl ?_
  refine Go.icmpYes X0 hx (hb hby d21_36) (by decide) (q := 50) (by decide) (by decide) ?_
  refine Go.iconst X0 hx (hb hby d21_50) (r := (3 : Int32)) rfl (q := 51) rfl ?_
  refine Go.iloadN X0 hx (hb hby d21_51) rfl (q := 52) rfl ?_
  refine Go.icmpYes X0 hx (hb hby d21_52) (by decide) (q := 66) (by decide) (by decide) ?_
  refine Go.iloadN X0 hx (hb hby d21_66) rfl (q := 67) rfl ?_
  exact Go.retI X0 hx hret hlk (Or.inl rfl) rfl (hb hby d21_67) e0 (by decide) (by decide) ⟨rfl, N0, rfl⟩
def Q_clt_1 (Z : State) (b : Addr) (x0 x1 x2 x3 : Int32) (kb : ClassId) (n t : Int32) (h0 : Heap) (vR : Option Value) (hR : Heap) (LR : List Loc) : Prop := vR = some (.int (own_lt1 x0 t)) ∧ Fr Z.heap.size LR ∧ hR = h0
theorem clt_1 (l : Launch) (Z : State) (a0 : Array Value) (hw : ∀ d ∈ tables_1, d.before a0 Z = true) (b : Addr) (x0 x1 x2 x3 : Int32) (kb : ClassId) (n t : Int32) (h0 : Heap) (O0 : Ext Z.heap h0) (Vb : Arv Z h0 b kb .byte n [(.int x0), (.int x1), (.int x2), (.int x3)] (.int 0)) (hj0 : (0 : Int32) < n) :
    Ctr l Z h0 (⟨xS4, "lt", "([BIB)I"⟩ : MethodName) k21 4 (some .int) [] ({ frames := 1, cells := 0, slots := 0, locals := 14 } : Room) #[(.ref b), (.int 1), (.int t)] (Q_clt_1 Z b x0 x1 x2 x3 kb n t h0) := by
  refine enter (plainFor_of_name pn6) ?_
  intro pp ee ss mm below meth cc s₁ hx hby hml hZ hown hnm hret hlk X0 e0 hs0
  replace hown : ss.vm.findClass xS4 = some mm.cls := hown
  refine Go.cast (congrArg s₁.setTop (ef_clt_1 mm b t)) ?_
  have N0 := Fr.nil Z.heap.size
  show Go pp ee below _ (s₁.setTop (mkF mm 0 #[.val (.ref b), .val (.int 1), .val (.int t), .unset] []))
  refine Go.iconst X0 hx (hb hby d21_0) (r := (-1 : Int32)) rfl (q := 1) rfl ?_
  refine Go.istoreN X0 hx (hb hby d21_1) (l' := #[.val (.ref b), .val (.int 1), .val (.int t), .val (.int (-1))]) rfl (q := 2) rfl ?_
  refine Go.iconst X0 hx (hb hby d21_2) (r := (0 : Int32)) rfl (q := 3) rfl ?_
  refine Go.iloadN X0 hx (hb hby d21_3) rfl (q := 4) rfl ?_
  refine Go.icmpNo X0 hx (hb hby d21_4) (by decide) (q := 7) rfl ?_
  refine Go.aloadN X0 hx (hb hby d21_7) rfl rfl (q := 8) rfl ?_
  refine Go.iconst X0 hx (hb hby d21_8) (r := (0 : Int32)) rfl (q := 9) rfl ?_
  refine Go.iloadN X0 hx (hb hby d21_9) rfl (q := 10) rfl ?_
  refine Go.callS X0 hx hZ hown (wd104 hw) (wd105 hw) (wd44 hw) (wd106 hw) (by decide) (cist l Z a0 hw b n (kb) ([(.int x0), (.int x1), (.int x2), (.int x3)]) ((0 : Int32)) t x0 h0 O0 Vb (by decide) hj0 rfl) e0 (by rw [hml]; rfl) (hb hby d21_10) (argsL := [(.ref b), (.int 0), (.int t)]) (rest := []) (lenOf pd9 rfl) rfl rfl (W := 0) (Nat.le_refl _) (by decide) ?_
  intro v101 T101 L101 X101 hQ101
  obtain ⟨rfl, N101q, e101⟩ := hQ101
  have N101 := Fr.app N0 N101q
  by_cases hc102 : (own_is x0 t) = (0 : Int32)
  · refine Go.ifYes X101 hx (hb hby d21_13) (Jvm.Free.XT.i0_eq_t hc102) (q := 18) (by decide) (by decide) ?_
    refine Go.iconst X101 hx (hb hby d21_18) (r := (1 : Int32)) rfl (q := 19) rfl ?_
    refine Go.iloadN X101 hx (hb hby d21_19) rfl (q := 20) rfl ?_
    refine Go.icmpYes X101 hx (hb hby d21_20) (by decide) (q := 34) (by decide) (by decide) ?_
    refine Go.iconst X101 hx (hb hby d21_34) (r := (2 : Int32)) rfl (q := 35) rfl ?_
    refine Go.iloadN X101 hx (hb hby d21_35) rfl (q := 36) rfl ?_
    refine Go.icmpYes X101 hx (hb hby d21_36) (by decide) (q := 50) (by decide) (by decide) ?_
    refine Go.iconst X101 hx (hb hby d21_50) (r := (3 : Int32)) rfl (q := 51) rfl ?_
    refine Go.iloadN X101 hx (hb hby d21_51) rfl (q := 52) rfl ?_
    refine Go.icmpYes X101 hx (hb hby d21_52) (by decide) (q := 66) (by decide) (by decide) ?_
    refine Go.iloadN X101 hx (hb hby d21_66) rfl (q := 67) rfl ?_
    exact Go.retI X101 hx hret hlk (Or.inl rfl) rfl (hb hby d21_67) e101 (by decide) (by decide) ⟨by rw [own_lt1, if_pos hc102] <;> rfl, N101, rfl⟩
  · refine Go.ifNo X101 hx (hb hby d21_13) (Jvm.Free.XT.i0_eq_f hc102) (q := 16) rfl ?_
    refine Go.iconst X101 hx (hb hby d21_16) (r := (0 : Int32)) rfl (q := 17) rfl ?_
    refine Go.istoreN X101 hx (hb hby d21_17) (l' := #[.val (.ref b), .val (.int 1), .val (.int t), .val (.int 0)]) rfl (q := 18) rfl ?_
    refine Go.iconst X101 hx (hb hby d21_18) (r := (1 : Int32)) rfl (q := 19) rfl ?_
    refine Go.iloadN X101 hx (hb hby d21_19) rfl (q := 20) rfl ?_
    refine Go.icmpYes X101 hx (hb hby d21_20) (by decide) (q := 34) (by decide) (by decide) ?_
    refine Go.iconst X101 hx (hb hby d21_34) (r := (2 : Int32)) rfl (q := 35) rfl ?_
    refine Go.iloadN X101 hx (hb hby d21_35) rfl (q := 36) rfl ?_
    refine Go.icmpYes X101 hx (hb hby d21_36) (by decide) (q := 50) (by decide) (by decide) ?_
    refine Go.iconst X101 hx (hb hby d21_50) (r := (3 : Int32)) rfl (q := 51) rfl ?_
    refine Go.iloadN X101 hx (hb hby d21_51) rfl (q := 52) rfl ?_
    refine Go.icmpYes X101 hx (hb hby d21_52) (by decide) (q := 66) (by decide) (by decide) ?_
    refine Go.iloadN X101 hx (hb hby d21_66) rfl (q := 67) rfl ?_
    exact Go.retI X101 hx hret hlk (Or.inl rfl) rfl (hb hby d21_67) e101 (by decide) (by decide) ⟨by rw [own_lt1, if_neg hc102] <;> rfl, N101, rfl⟩
def Q_clt_2 (Z : State) (b : Addr) (x0 x1 x2 x3 : Int32) (kb : ClassId) (n t : Int32) (h0 : Heap) (vR : Option Value) (hR : Heap) (LR : List Loc) : Prop := vR = some (.int (own_lt2 x0 x1 t)) ∧ Fr Z.heap.size LR ∧ hR = h0
theorem clt_2 (l : Launch) (Z : State) (a0 : Array Value) (hw : ∀ d ∈ tables_1, d.before a0 Z = true) (b : Addr) (x0 x1 x2 x3 : Int32) (kb : ClassId) (n t : Int32) (h0 : Heap) (O0 : Ext Z.heap h0) (Vb : Arv Z h0 b kb .byte n [(.int x0), (.int x1), (.int x2), (.int x3)] (.int 0)) (hj0 : (0 : Int32) < n) (hj1 : (1 : Int32) < n) :
    Ctr l Z h0 (⟨xS4, "lt", "([BIB)I"⟩ : MethodName) k21 4 (some .int) [] ({ frames := 1, cells := 0, slots := 0, locals := 14 } : Room) #[(.ref b), (.int 2), (.int t)] (Q_clt_2 Z b x0 x1 x2 x3 kb n t h0) := by
  refine enter (plainFor_of_name pn6) ?_
  intro pp ee ss mm below meth cc s₁ hx hby hml hZ hown hnm hret hlk X0 e0 hs0
  replace hown : ss.vm.findClass xS4 = some mm.cls := hown
  refine Go.cast (congrArg s₁.setTop (ef_clt_2 mm b t)) ?_
  have N0 := Fr.nil Z.heap.size
  show Go pp ee below _ (s₁.setTop (mkF mm 0 #[.val (.ref b), .val (.int 2), .val (.int t), .unset] []))
  refine Go.iconst X0 hx (hb hby d21_0) (r := (-1 : Int32)) rfl (q := 1) rfl ?_
  refine Go.istoreN X0 hx (hb hby d21_1) (l' := #[.val (.ref b), .val (.int 2), .val (.int t), .val (.int (-1))]) rfl (q := 2) rfl ?_
  refine Go.iconst X0 hx (hb hby d21_2) (r := (0 : Int32)) rfl (q := 3) rfl ?_
  refine Go.iloadN X0 hx (hb hby d21_3) rfl (q := 4) rfl ?_
  refine Go.icmpNo X0 hx (hb hby d21_4) (by decide) (q := 7) rfl ?_
  refine Go.aloadN X0 hx (hb hby d21_7) rfl rfl (q := 8) rfl ?_
  refine Go.iconst X0 hx (hb hby d21_8) (r := (0 : Int32)) rfl (q := 9) rfl ?_
  refine Go.iloadN X0 hx (hb hby d21_9) rfl (q := 10) rfl ?_
  refine Go.callS X0 hx hZ hown (wd104 hw) (wd105 hw) (wd44 hw) (wd106 hw) (by decide) (cist l Z a0 hw b n (kb) ([(.int x0), (.int x1), (.int x2), (.int x3)]) ((0 : Int32)) t x0 h0 O0 Vb (by decide) hj0 rfl) e0 (by rw [hml]; rfl) (hb hby d21_10) (argsL := [(.ref b), (.int 0), (.int t)]) (rest := []) (lenOf pd9 rfl) rfl rfl (W := 0) (Nat.le_refl _) (by decide) ?_
  intro v101 T101 L101 X101 hQ101
  obtain ⟨rfl, N101q, e101⟩ := hQ101
  have N101 := Fr.app N0 N101q
  by_cases hc102 : (own_is x0 t) = (0 : Int32)
  · refine Go.ifYes X101 hx (hb hby d21_13) (Jvm.Free.XT.i0_eq_t hc102) (q := 18) (by decide) (by decide) ?_
    refine Go.iconst X101 hx (hb hby d21_18) (r := (1 : Int32)) rfl (q := 19) rfl ?_
    refine Go.iloadN X101 hx (hb hby d21_19) rfl (q := 20) rfl ?_
    refine Go.icmpNo X101 hx (hb hby d21_20) (by decide) (q := 23) rfl ?_
    refine Go.aloadN X101 hx (hb hby d21_23) rfl rfl (q := 24) rfl ?_
    refine Go.iconst X101 hx (hb hby d21_24) (r := (1 : Int32)) rfl (q := 25) rfl ?_
    refine Go.iloadN X101 hx (hb hby d21_25) rfl (q := 26) rfl ?_
    refine Go.callS X101 hx hZ hown (wd104 hw) (wd105 hw) (wd44 hw) (wd106 hw) (by decide) (cist l Z a0 hw b n (kb) ([(.int x0), (.int x1), (.int x2), (.int x3)]) ((1 : Int32)) t x1 h0 O0 Vb (by decide) hj1 rfl) e101 (by rw [hml]; rfl) (hb hby d21_26) (argsL := [(.ref b), (.int 1), (.int t)]) (rest := []) (lenOf pd9 rfl) rfl rfl (W := 0) (Nat.le_refl _) (by decide) ?_
    intro v103 T103 L103 X103 hQ103
    obtain ⟨rfl, N103q, e103⟩ := hQ103
    have N103 := Fr.app N101 N103q
    by_cases hc104 : (own_is x1 t) = (0 : Int32)
    · refine Go.ifYes X103 hx (hb hby d21_29) (Jvm.Free.XT.i0_eq_t hc104) (q := 34) (by decide) (by decide) ?_
      refine Go.iconst X103 hx (hb hby d21_34) (r := (2 : Int32)) rfl (q := 35) rfl ?_
      refine Go.iloadN X103 hx (hb hby d21_35) rfl (q := 36) rfl ?_
      refine Go.icmpYes X103 hx (hb hby d21_36) (by decide) (q := 50) (by decide) (by decide) ?_
      refine Go.iconst X103 hx (hb hby d21_50) (r := (3 : Int32)) rfl (q := 51) rfl ?_
      refine Go.iloadN X103 hx (hb hby d21_51) rfl (q := 52) rfl ?_
      refine Go.icmpYes X103 hx (hb hby d21_52) (by decide) (q := 66) (by decide) (by decide) ?_
      refine Go.iloadN X103 hx (hb hby d21_66) rfl (q := 67) rfl ?_
      exact Go.retI X103 hx hret hlk (Or.inl rfl) rfl (hb hby d21_67) e103 (by decide) (by decide) ⟨by rw [own_lt2, if_pos hc104, own_lt1, if_pos hc102] <;> rfl, N103, rfl⟩
    · refine Go.ifNo X103 hx (hb hby d21_29) (Jvm.Free.XT.i0_eq_f hc104) (q := 32) rfl ?_
      refine Go.iconst X103 hx (hb hby d21_32) (r := (1 : Int32)) rfl (q := 33) rfl ?_
      refine Go.istoreN X103 hx (hb hby d21_33) (l' := #[.val (.ref b), .val (.int 2), .val (.int t), .val (.int 1)]) rfl (q := 34) rfl ?_
      refine Go.iconst X103 hx (hb hby d21_34) (r := (2 : Int32)) rfl (q := 35) rfl ?_
      refine Go.iloadN X103 hx (hb hby d21_35) rfl (q := 36) rfl ?_
      refine Go.icmpYes X103 hx (hb hby d21_36) (by decide) (q := 50) (by decide) (by decide) ?_
      refine Go.iconst X103 hx (hb hby d21_50) (r := (3 : Int32)) rfl (q := 51) rfl ?_
      refine Go.iloadN X103 hx (hb hby d21_51) rfl (q := 52) rfl ?_
      refine Go.icmpYes X103 hx (hb hby d21_52) (by decide) (q := 66) (by decide) (by decide) ?_
      refine Go.iloadN X103 hx (hb hby d21_66) rfl (q := 67) rfl ?_
      exact Go.retI X103 hx hret hlk (Or.inl rfl) rfl (hb hby d21_67) e103 (by decide) (by decide) ⟨by rw [own_lt2, if_neg hc104] <;> rfl, N103, rfl⟩
  · refine Go.ifNo X101 hx (hb hby d21_13) (Jvm.Free.XT.i0_eq_f hc102) (q := 16) rfl ?_
    refine Go.iconst X101 hx (hb hby d21_16) (r := (0 : Int32)) rfl (q := 17) rfl ?_
    refine Go.istoreN X101 hx (hb hby d21_17) (l' := #[.val (.ref b), .val (.int 2), .val (.int t), .val (.int 0)]) rfl (q := 18) rfl ?_
    refine Go.iconst X101 hx (hb hby d21_18) (r := (1 : Int32)) rfl (q := 19) rfl ?_
    refine Go.iloadN X101 hx (hb hby d21_19) rfl (q := 20) rfl ?_
    refine Go.icmpNo X101 hx (hb hby d21_20) (by decide) (q := 23) rfl ?_
    refine Go.aloadN X101 hx (hb hby d21_23) rfl rfl (q := 24) rfl ?_
    refine Go.iconst X101 hx (hb hby d21_24) (r := (1 : Int32)) rfl (q := 25) rfl ?_
    refine Go.iloadN X101 hx (hb hby d21_25) rfl (q := 26) rfl ?_
    refine Go.callS X101 hx hZ hown (wd104 hw) (wd105 hw) (wd44 hw) (wd106 hw) (by decide) (cist l Z a0 hw b n (kb) ([(.int x0), (.int x1), (.int x2), (.int x3)]) ((1 : Int32)) t x1 h0 O0 Vb (by decide) hj1 rfl) e101 (by rw [hml]; rfl) (hb hby d21_26) (argsL := [(.ref b), (.int 1), (.int t)]) (rest := []) (lenOf pd9 rfl) rfl rfl (W := 0) (Nat.le_refl _) (by decide) ?_
    intro v105 T105 L105 X105 hQ105
    obtain ⟨rfl, N105q, e105⟩ := hQ105
    have N105 := Fr.app N101 N105q
    by_cases hc106 : (own_is x1 t) = (0 : Int32)
    · refine Go.ifYes X105 hx (hb hby d21_29) (Jvm.Free.XT.i0_eq_t hc106) (q := 34) (by decide) (by decide) ?_
      refine Go.iconst X105 hx (hb hby d21_34) (r := (2 : Int32)) rfl (q := 35) rfl ?_
      refine Go.iloadN X105 hx (hb hby d21_35) rfl (q := 36) rfl ?_
      refine Go.icmpYes X105 hx (hb hby d21_36) (by decide) (q := 50) (by decide) (by decide) ?_
      refine Go.iconst X105 hx (hb hby d21_50) (r := (3 : Int32)) rfl (q := 51) rfl ?_
      refine Go.iloadN X105 hx (hb hby d21_51) rfl (q := 52) rfl ?_
      refine Go.icmpYes X105 hx (hb hby d21_52) (by decide) (q := 66) (by decide) (by decide) ?_
      refine Go.iloadN X105 hx (hb hby d21_66) rfl (q := 67) rfl ?_
      exact Go.retI X105 hx hret hlk (Or.inl rfl) rfl (hb hby d21_67) e105 (by decide) (by decide) ⟨by rw [own_lt2, if_pos hc106, own_lt1, if_neg hc102] <;> rfl, N105, rfl⟩
    · refine Go.ifNo X105 hx (hb hby d21_29) (Jvm.Free.XT.i0_eq_f hc106) (q := 32) rfl ?_
      refine Go.iconst X105 hx (hb hby d21_32) (r := (1 : Int32)) rfl (q := 33) rfl ?_
      refine Go.istoreN X105 hx (hb hby d21_33) (l' := #[.val (.ref b), .val (.int 2), .val (.int t), .val (.int 1)]) rfl (q := 34) rfl ?_
      refine Go.iconst X105 hx (hb hby d21_34) (r := (2 : Int32)) rfl (q := 35) rfl ?_
      refine Go.iloadN X105 hx (hb hby d21_35) rfl (q := 36) rfl ?_
      refine Go.icmpYes X105 hx (hb hby d21_36) (by decide) (q := 50) (by decide) (by decide) ?_
      refine Go.iconst X105 hx (hb hby d21_50) (r := (3 : Int32)) rfl (q := 51) rfl ?_
      refine Go.iloadN X105 hx (hb hby d21_51) rfl (q := 52) rfl ?_
      refine Go.icmpYes X105 hx (hb hby d21_52) (by decide) (q := 66) (by decide) (by decide) ?_
      refine Go.iloadN X105 hx (hb hby d21_66) rfl (q := 67) rfl ?_
      exact Go.retI X105 hx hret hlk (Or.inl rfl) rfl (hb hby d21_67) e105 (by decide) (by decide) ⟨by rw [own_lt2, if_neg hc106] <;> rfl, N105, rfl⟩
def Q_clt_3 (Z : State) (b : Addr) (x0 x1 x2 x3 : Int32) (kb : ClassId) (n t : Int32) (h0 : Heap) (vR : Option Value) (hR : Heap) (LR : List Loc) : Prop := vR = some (.int (own_lt3 x0 x1 x2 t)) ∧ Fr Z.heap.size LR ∧ hR = h0
theorem clt_3 (l : Launch) (Z : State) (a0 : Array Value) (hw : ∀ d ∈ tables_1, d.before a0 Z = true) (b : Addr) (x0 x1 x2 x3 : Int32) (kb : ClassId) (n t : Int32) (h0 : Heap) (O0 : Ext Z.heap h0) (Vb : Arv Z h0 b kb .byte n [(.int x0), (.int x1), (.int x2), (.int x3)] (.int 0)) (hj0 : (0 : Int32) < n) (hj1 : (1 : Int32) < n) (hj2 : (2 : Int32) < n) :
    Ctr l Z h0 (⟨xS4, "lt", "([BIB)I"⟩ : MethodName) k21 4 (some .int) [] ({ frames := 1, cells := 0, slots := 0, locals := 14 } : Room) #[(.ref b), (.int 3), (.int t)] (Q_clt_3 Z b x0 x1 x2 x3 kb n t h0) := by
  refine enter (plainFor_of_name pn6) ?_
  intro pp ee ss mm below meth cc s₁ hx hby hml hZ hown hnm hret hlk X0 e0 hs0
  replace hown : ss.vm.findClass xS4 = some mm.cls := hown
  refine Go.cast (congrArg s₁.setTop (ef_clt_3 mm b t)) ?_
  have N0 := Fr.nil Z.heap.size
  show Go pp ee below _ (s₁.setTop (mkF mm 0 #[.val (.ref b), .val (.int 3), .val (.int t), .unset] []))
  refine Go.iconst X0 hx (hb hby d21_0) (r := (-1 : Int32)) rfl (q := 1) rfl ?_
  refine Go.istoreN X0 hx (hb hby d21_1) (l' := #[.val (.ref b), .val (.int 3), .val (.int t), .val (.int (-1))]) rfl (q := 2) rfl ?_
  refine Go.iconst X0 hx (hb hby d21_2) (r := (0 : Int32)) rfl (q := 3) rfl ?_
  refine Go.iloadN X0 hx (hb hby d21_3) rfl (q := 4) rfl ?_
  refine Go.icmpNo X0 hx (hb hby d21_4) (by decide) (q := 7) rfl ?_
  refine Go.aloadN X0 hx (hb hby d21_7) rfl rfl (q := 8) rfl ?_
  refine Go.iconst X0 hx (hb hby d21_8) (r := (0 : Int32)) rfl (q := 9) rfl ?_
  refine Go.iloadN X0 hx (hb hby d21_9) rfl (q := 10) rfl ?_
  refine Go.callS X0 hx hZ hown (wd104 hw) (wd105 hw) (wd44 hw) (wd106 hw) (by decide) (cist l Z a0 hw b n (kb) ([(.int x0), (.int x1), (.int x2), (.int x3)]) ((0 : Int32)) t x0 h0 O0 Vb (by decide) hj0 rfl) e0 (by rw [hml]; rfl) (hb hby d21_10) (argsL := [(.ref b), (.int 0), (.int t)]) (rest := []) (lenOf pd9 rfl) rfl rfl (W := 0) (Nat.le_refl _) (by decide) ?_
  intro v101 T101 L101 X101 hQ101
  obtain ⟨rfl, N101q, e101⟩ := hQ101
  have N101 := Fr.app N0 N101q
  by_cases hc102 : (own_is x0 t) = (0 : Int32)
  · refine Go.ifYes X101 hx (hb hby d21_13) (Jvm.Free.XT.i0_eq_t hc102) (q := 18) (by decide) (by decide) ?_
    refine Go.iconst X101 hx (hb hby d21_18) (r := (1 : Int32)) rfl (q := 19) rfl ?_
    refine Go.iloadN X101 hx (hb hby d21_19) rfl (q := 20) rfl ?_
    refine Go.icmpNo X101 hx (hb hby d21_20) (by decide) (q := 23) rfl ?_
    refine Go.aloadN X101 hx (hb hby d21_23) rfl rfl (q := 24) rfl ?_
    refine Go.iconst X101 hx (hb hby d21_24) (r := (1 : Int32)) rfl (q := 25) rfl ?_
    refine Go.iloadN X101 hx (hb hby d21_25) rfl (q := 26) rfl ?_
    refine Go.callS X101 hx hZ hown (wd104 hw) (wd105 hw) (wd44 hw) (wd106 hw) (by decide) (cist l Z a0 hw b n (kb) ([(.int x0), (.int x1), (.int x2), (.int x3)]) ((1 : Int32)) t x1 h0 O0 Vb (by decide) hj1 rfl) e101 (by rw [hml]; rfl) (hb hby d21_26) (argsL := [(.ref b), (.int 1), (.int t)]) (rest := []) (lenOf pd9 rfl) rfl rfl (W := 0) (Nat.le_refl _) (by decide) ?_
    intro v103 T103 L103 X103 hQ103
    obtain ⟨rfl, N103q, e103⟩ := hQ103
    have N103 := Fr.app N101 N103q
    by_cases hc104 : (own_is x1 t) = (0 : Int32)
    · refine Go.ifYes X103 hx (hb hby d21_29) (Jvm.Free.XT.i0_eq_t hc104) (q := 34) (by decide) (by decide) ?_
      refine Go.iconst X103 hx (hb hby d21_34) (r := (2 : Int32)) rfl (q := 35) rfl ?_
      refine Go.iloadN X103 hx (hb hby d21_35) rfl (q := 36) rfl ?_
      refine Go.icmpNo X103 hx (hb hby d21_36) (by decide) (q := 39) rfl ?_
      refine Go.aloadN X103 hx (hb hby d21_39) rfl rfl (q := 40) rfl ?_
      refine Go.iconst X103 hx (hb hby d21_40) (r := (2 : Int32)) rfl (q := 41) rfl ?_
      refine Go.iloadN X103 hx (hb hby d21_41) rfl (q := 42) rfl ?_
      refine Go.callS X103 hx hZ hown (wd104 hw) (wd105 hw) (wd44 hw) (wd106 hw) (by decide) (cist l Z a0 hw b n (kb) ([(.int x0), (.int x1), (.int x2), (.int x3)]) ((2 : Int32)) t x2 h0 O0 Vb (by decide) hj2 rfl) e103 (by rw [hml]; rfl) (hb hby d21_42) (argsL := [(.ref b), (.int 2), (.int t)]) (rest := []) (lenOf pd9 rfl) rfl rfl (W := 0) (Nat.le_refl _) (by decide) ?_
      intro v105 T105 L105 X105 hQ105
      obtain ⟨rfl, N105q, e105⟩ := hQ105
      have N105 := Fr.app N103 N105q
      by_cases hc106 : (own_is x2 t) = (0 : Int32)
      · refine Go.ifYes X105 hx (hb hby d21_45) (Jvm.Free.XT.i0_eq_t hc106) (q := 50) (by decide) (by decide) ?_
        refine Go.iconst X105 hx (hb hby d21_50) (r := (3 : Int32)) rfl (q := 51) rfl ?_
        refine Go.iloadN X105 hx (hb hby d21_51) rfl (q := 52) rfl ?_
        refine Go.icmpYes X105 hx (hb hby d21_52) (by decide) (q := 66) (by decide) (by decide) ?_
        refine Go.iloadN X105 hx (hb hby d21_66) rfl (q := 67) rfl ?_
        exact Go.retI X105 hx hret hlk (Or.inl rfl) rfl (hb hby d21_67) e105 (by decide) (by decide) ⟨by rw [own_lt3, if_pos hc106, own_lt2, if_pos hc104, own_lt1, if_pos hc102] <;> rfl, N105, rfl⟩
      · refine Go.ifNo X105 hx (hb hby d21_45) (Jvm.Free.XT.i0_eq_f hc106) (q := 48) rfl ?_
        refine Go.iconst X105 hx (hb hby d21_48) (r := (2 : Int32)) rfl (q := 49) rfl ?_
        refine Go.istoreN X105 hx (hb hby d21_49) (l' := #[.val (.ref b), .val (.int 3), .val (.int t), .val (.int 2)]) rfl (q := 50) rfl ?_
        refine Go.iconst X105 hx (hb hby d21_50) (r := (3 : Int32)) rfl (q := 51) rfl ?_
        refine Go.iloadN X105 hx (hb hby d21_51) rfl (q := 52) rfl ?_
        refine Go.icmpYes X105 hx (hb hby d21_52) (by decide) (q := 66) (by decide) (by decide) ?_
        refine Go.iloadN X105 hx (hb hby d21_66) rfl (q := 67) rfl ?_
        exact Go.retI X105 hx hret hlk (Or.inl rfl) rfl (hb hby d21_67) e105 (by decide) (by decide) ⟨by rw [own_lt3, if_neg hc106] <;> rfl, N105, rfl⟩
    · refine Go.ifNo X103 hx (hb hby d21_29) (Jvm.Free.XT.i0_eq_f hc104) (q := 32) rfl ?_
      refine Go.iconst X103 hx (hb hby d21_32) (r := (1 : Int32)) rfl (q := 33) rfl ?_
      refine Go.istoreN X103 hx (hb hby d21_33) (l' := #[.val (.ref b), .val (.int 3), .val (.int t), .val (.int 1)]) rfl (q := 34) rfl ?_
      refine Go.iconst X103 hx (hb hby d21_34) (r := (2 : Int32)) rfl (q := 35) rfl ?_
      refine Go.iloadN X103 hx (hb hby d21_35) rfl (q := 36) rfl ?_
      refine Go.icmpNo X103 hx (hb hby d21_36) (by decide) (q := 39) rfl ?_
      refine Go.aloadN X103 hx (hb hby d21_39) rfl rfl (q := 40) rfl ?_
      refine Go.iconst X103 hx (hb hby d21_40) (r := (2 : Int32)) rfl (q := 41) rfl ?_
      refine Go.iloadN X103 hx (hb hby d21_41) rfl (q := 42) rfl ?_
      refine Go.callS X103 hx hZ hown (wd104 hw) (wd105 hw) (wd44 hw) (wd106 hw) (by decide) (cist l Z a0 hw b n (kb) ([(.int x0), (.int x1), (.int x2), (.int x3)]) ((2 : Int32)) t x2 h0 O0 Vb (by decide) hj2 rfl) e103 (by rw [hml]; rfl) (hb hby d21_42) (argsL := [(.ref b), (.int 2), (.int t)]) (rest := []) (lenOf pd9 rfl) rfl rfl (W := 0) (Nat.le_refl _) (by decide) ?_
      intro v107 T107 L107 X107 hQ107
      obtain ⟨rfl, N107q, e107⟩ := hQ107
      have N107 := Fr.app N103 N107q
      by_cases hc108 : (own_is x2 t) = (0 : Int32)
      · refine Go.ifYes X107 hx (hb hby d21_45) (Jvm.Free.XT.i0_eq_t hc108) (q := 50) (by decide) (by decide) ?_
        refine Go.iconst X107 hx (hb hby d21_50) (r := (3 : Int32)) rfl (q := 51) rfl ?_
        refine Go.iloadN X107 hx (hb hby d21_51) rfl (q := 52) rfl ?_
        refine Go.icmpYes X107 hx (hb hby d21_52) (by decide) (q := 66) (by decide) (by decide) ?_
        refine Go.iloadN X107 hx (hb hby d21_66) rfl (q := 67) rfl ?_
        exact Go.retI X107 hx hret hlk (Or.inl rfl) rfl (hb hby d21_67) e107 (by decide) (by decide) ⟨by rw [own_lt3, if_pos hc108, own_lt2, if_neg hc104] <;> rfl, N107, rfl⟩
      · refine Go.ifNo X107 hx (hb hby d21_45) (Jvm.Free.XT.i0_eq_f hc108) (q := 48) rfl ?_
        refine Go.iconst X107 hx (hb hby d21_48) (r := (2 : Int32)) rfl (q := 49) rfl ?_
        refine Go.istoreN X107 hx (hb hby d21_49) (l' := #[.val (.ref b), .val (.int 3), .val (.int t), .val (.int 2)]) rfl (q := 50) rfl ?_
        refine Go.iconst X107 hx (hb hby d21_50) (r := (3 : Int32)) rfl (q := 51) rfl ?_
        refine Go.iloadN X107 hx (hb hby d21_51) rfl (q := 52) rfl ?_
        refine Go.icmpYes X107 hx (hb hby d21_52) (by decide) (q := 66) (by decide) (by decide) ?_
        refine Go.iloadN X107 hx (hb hby d21_66) rfl (q := 67) rfl ?_
        exact Go.retI X107 hx hret hlk (Or.inl rfl) rfl (hb hby d21_67) e107 (by decide) (by decide) ⟨by rw [own_lt3, if_neg hc108] <;> rfl, N107, rfl⟩
  · refine Go.ifNo X101 hx (hb hby d21_13) (Jvm.Free.XT.i0_eq_f hc102) (q := 16) rfl ?_
    refine Go.iconst X101 hx (hb hby d21_16) (r := (0 : Int32)) rfl (q := 17) rfl ?_
    refine Go.istoreN X101 hx (hb hby d21_17) (l' := #[.val (.ref b), .val (.int 3), .val (.int t), .val (.int 0)]) rfl (q := 18) rfl ?_
    refine Go.iconst X101 hx (hb hby d21_18) (r := (1 : Int32)) rfl (q := 19) rfl ?_
    refine Go.iloadN X101 hx (hb hby d21_19) rfl (q := 20) rfl ?_
    refine Go.icmpNo X101 hx (hb hby d21_20) (by decide) (q := 23) rfl ?_
    refine Go.aloadN X101 hx (hb hby d21_23) rfl rfl (q := 24) rfl ?_
    refine Go.iconst X101 hx (hb hby d21_24) (r := (1 : Int32)) rfl (q := 25) rfl ?_
    refine Go.iloadN X101 hx (hb hby d21_25) rfl (q := 26) rfl ?_
    refine Go.callS X101 hx hZ hown (wd104 hw) (wd105 hw) (wd44 hw) (wd106 hw) (by decide) (cist l Z a0 hw b n (kb) ([(.int x0), (.int x1), (.int x2), (.int x3)]) ((1 : Int32)) t x1 h0 O0 Vb (by decide) hj1 rfl) e101 (by rw [hml]; rfl) (hb hby d21_26) (argsL := [(.ref b), (.int 1), (.int t)]) (rest := []) (lenOf pd9 rfl) rfl rfl (W := 0) (Nat.le_refl _) (by decide) ?_
    intro v109 T109 L109 X109 hQ109
    obtain ⟨rfl, N109q, e109⟩ := hQ109
    have N109 := Fr.app N101 N109q
    by_cases hc110 : (own_is x1 t) = (0 : Int32)
    · refine Go.ifYes X109 hx (hb hby d21_29) (Jvm.Free.XT.i0_eq_t hc110) (q := 34) (by decide) (by decide) ?_
      refine Go.iconst X109 hx (hb hby d21_34) (r := (2 : Int32)) rfl (q := 35) rfl ?_
      refine Go.iloadN X109 hx (hb hby d21_35) rfl (q := 36) rfl ?_
      refine Go.icmpNo X109 hx (hb hby d21_36) (by decide) (q := 39) rfl ?_
      refine Go.aloadN X109 hx (hb hby d21_39) rfl rfl (q := 40) rfl ?_
      refine Go.iconst X109 hx (hb hby d21_40) (r := (2 : Int32)) rfl (q := 41) rfl ?_
      refine Go.iloadN X109 hx (hb hby d21_41) rfl (q := 42) rfl ?_
      refine Go.callS X109 hx hZ hown (wd104 hw) (wd105 hw) (wd44 hw) (wd106 hw) (by decide) (cist l Z a0 hw b n (kb) ([(.int x0), (.int x1), (.int x2), (.int x3)]) ((2 : Int32)) t x2 h0 O0 Vb (by decide) hj2 rfl) e109 (by rw [hml]; rfl) (hb hby d21_42) (argsL := [(.ref b), (.int 2), (.int t)]) (rest := []) (lenOf pd9 rfl) rfl rfl (W := 0) (Nat.le_refl _) (by decide) ?_
      intro v111 T111 L111 X111 hQ111
      obtain ⟨rfl, N111q, e111⟩ := hQ111
      have N111 := Fr.app N109 N111q
      by_cases hc112 : (own_is x2 t) = (0 : Int32)
      · refine Go.ifYes X111 hx (hb hby d21_45) (Jvm.Free.XT.i0_eq_t hc112) (q := 50) (by decide) (by decide) ?_
        refine Go.iconst X111 hx (hb hby d21_50) (r := (3 : Int32)) rfl (q := 51) rfl ?_
        refine Go.iloadN X111 hx (hb hby d21_51) rfl (q := 52) rfl ?_
        refine Go.icmpYes X111 hx (hb hby d21_52) (by decide) (q := 66) (by decide) (by decide) ?_
        refine Go.iloadN X111 hx (hb hby d21_66) rfl (q := 67) rfl ?_
        exact Go.retI X111 hx hret hlk (Or.inl rfl) rfl (hb hby d21_67) e111 (by decide) (by decide) ⟨by rw [own_lt3, if_pos hc112, own_lt2, if_pos hc110, own_lt1, if_neg hc102] <;> rfl, N111, rfl⟩
      · refine Go.ifNo X111 hx (hb hby d21_45) (Jvm.Free.XT.i0_eq_f hc112) (q := 48) rfl ?_
        refine Go.iconst X111 hx (hb hby d21_48) (r := (2 : Int32)) rfl (q := 49) rfl ?_
        refine Go.istoreN X111 hx (hb hby d21_49) (l' := #[.val (.ref b), .val (.int 3), .val (.int t), .val (.int 2)]) rfl (q := 50) rfl ?_
        refine Go.iconst X111 hx (hb hby d21_50) (r := (3 : Int32)) rfl (q := 51) rfl ?_
        refine Go.iloadN X111 hx (hb hby d21_51) rfl (q := 52) rfl ?_
        refine Go.icmpYes X111 hx (hb hby d21_52) (by decide) (q := 66) (by decide) (by decide) ?_
        refine Go.iloadN X111 hx (hb hby d21_66) rfl (q := 67) rfl ?_
        exact Go.retI X111 hx hret hlk (Or.inl rfl) rfl (hb hby d21_67) e111 (by decide) (by decide) ⟨by rw [own_lt3, if_neg hc112] <;> rfl, N111, rfl⟩
    · refine Go.ifNo X109 hx (hb hby d21_29) (Jvm.Free.XT.i0_eq_f hc110) (q := 32) rfl ?_
      refine Go.iconst X109 hx (hb hby d21_32) (r := (1 : Int32)) rfl (q := 33) rfl ?_
      refine Go.istoreN X109 hx (hb hby d21_33) (l' := #[.val (.ref b), .val (.int 3), .val (.int t), .val (.int 1)]) rfl (q := 34) rfl ?_
      refine Go.iconst X109 hx (hb hby d21_34) (r := (2 : Int32)) rfl (q := 35) rfl ?_
      refine Go.iloadN X109 hx (hb hby d21_35) rfl (q := 36) rfl ?_
      refine Go.icmpNo X109 hx (hb hby d21_36) (by decide) (q := 39) rfl ?_
      refine Go.aloadN X109 hx (hb hby d21_39) rfl rfl (q := 40) rfl ?_
      refine Go.iconst X109 hx (hb hby d21_40) (r := (2 : Int32)) rfl (q := 41) rfl ?_
      refine Go.iloadN X109 hx (hb hby d21_41) rfl (q := 42) rfl ?_
      refine Go.callS X109 hx hZ hown (wd104 hw) (wd105 hw) (wd44 hw) (wd106 hw) (by decide) (cist l Z a0 hw b n (kb) ([(.int x0), (.int x1), (.int x2), (.int x3)]) ((2 : Int32)) t x2 h0 O0 Vb (by decide) hj2 rfl) e109 (by rw [hml]; rfl) (hb hby d21_42) (argsL := [(.ref b), (.int 2), (.int t)]) (rest := []) (lenOf pd9 rfl) rfl rfl (W := 0) (Nat.le_refl _) (by decide) ?_
      intro v113 T113 L113 X113 hQ113
      obtain ⟨rfl, N113q, e113⟩ := hQ113
      have N113 := Fr.app N109 N113q
      by_cases hc114 : (own_is x2 t) = (0 : Int32)
      · refine Go.ifYes X113 hx (hb hby d21_45) (Jvm.Free.XT.i0_eq_t hc114) (q := 50) (by decide) (by decide) ?_
        refine Go.iconst X113 hx (hb hby d21_50) (r := (3 : Int32)) rfl (q := 51) rfl ?_
        refine Go.iloadN X113 hx (hb hby d21_51) rfl (q := 52) rfl ?_
        refine Go.icmpYes X113 hx (hb hby d21_52) (by decide) (q := 66) (by decide) (by decide) ?_
        refine Go.iloadN X113 hx (hb hby d21_66) rfl (q := 67) rfl ?_
        exact Go.retI X113 hx hret hlk (Or.inl rfl) rfl (hb hby d21_67) e113 (by decide) (by decide) ⟨by rw [own_lt3, if_pos hc114, own_lt2, if_neg hc110] <;> rfl, N113, rfl⟩
      · refine Go.ifNo X113 hx (hb hby d21_45) (Jvm.Free.XT.i0_eq_f hc114) (q := 48) rfl ?_
        refine Go.iconst X113 hx (hb hby d21_48) (r := (2 : Int32)) rfl (q := 49) rfl ?_
        refine Go.istoreN X113 hx (hb hby d21_49) (l' := #[.val (.ref b), .val (.int 3), .val (.int t), .val (.int 2)]) rfl (q := 50) rfl ?_
        refine Go.iconst X113 hx (hb hby d21_50) (r := (3 : Int32)) rfl (q := 51) rfl ?_
        refine Go.iloadN X113 hx (hb hby d21_51) rfl (q := 52) rfl ?_
        refine Go.icmpYes X113 hx (hb hby d21_52) (by decide) (q := 66) (by decide) (by decide) ?_
        refine Go.iloadN X113 hx (hb hby d21_66) rfl (q := 67) rfl ?_
        exact Go.retI X113 hx hret hlk (Or.inl rfl) rfl (hb hby d21_67) e113 (by decide) (by decide) ⟨by rw [own_lt3, if_neg hc114] <;> rfl, N113, rfl⟩
def Q_cpick (Z : State) (sl dt i t : Int32) (h0 : Heap) (vR : Option Value) (hR : Heap) (LR : List Loc) : Prop := ∃ y : Int32, vR = some (.int y) ∧ Fr Z.heap.size LR ∧ hR = h0 ∧ (y.toInt8.toInt32) = y
theorem cpick (l : Launch) (Z : State) (a0 : Array Value) (hw : ∀ d ∈ tables_1, d.before a0 Z = true) (sl dt i t : Int32) (h0 : Heap) (O0 : Ext Z.heap h0) (ht : (t.toInt8.toInt32) = t) :
    Ctr l Z h0 (⟨xS4, "pick", "(IIIB)B"⟩ : MethodName) k10 4 (some .byte) [] ({ frames := 0, cells := 0, slots := 0, locals := 0 } : Room) #[(.int sl), (.int dt), (.int i), (.int t)] (Q_cpick Z sl dt i t h0) := by
  refine enter (plainFor_of_name pn6) ?_
  intro pp ee ss mm below meth cc s₁ hx hby hml hZ hown hnm hret hlk X0 e0 hs0
  replace hown : ss.vm.findClass xS4 = some mm.cls := hown
  refine Go.cast (congrArg s₁.setTop (ef_cpick mm sl dt i t)) ?_
  have N0 := Fr.nil Z.heap.size
  show Go pp ee below _ (s₁.setTop (mkF mm 0 #[.val (.int sl), .val (.int dt), .val (.int i), .val (.int t)] []))
  refine Go.iloadN X0 hx (hb hby d10_0) rfl (q := 1) rfl ?_
  refine Go.iloadN X0 hx (hb hby d10_1) rfl (q := 2) rfl ?_
  refine Go.ishr X0 hx (hb hby d10_2) rfl (q := 3) rfl ?_
  refine Go.iconst X0 hx (hb hby d10_3) (r := (1 : Int32)) rfl (q := 4) rfl ?_
  refine Go.iand X0 hx (hb hby d10_4) rfl (q := 5) rfl ?_
  by_cases hc101 : ((sl >>> (i &&& 31)) &&& (1 : Int32)) = (0 : Int32)
  · refine Go.ifYes X0 hx (hb hby d10_5) (Jvm.Free.XT.i0_eq_t hc101) (q := 10) (by decide) (by decide) ?_
    refine Go.iloadN X0 hx (hb hby d10_10) rfl (q := 11) rfl ?_
    refine Go.bipush X0 hx (hb hby d10_11) (r := (8 : Int32)) rfl (q := 13) rfl ?_
    refine Go.iloadN X0 hx (hb hby d10_13) rfl (q := 14) rfl ?_
    refine Go.imul X0 hx (hb hby d10_14) rfl (q := 15) rfl ?_
    refine Go.ishr X0 hx (hb hby d10_15) rfl (q := 16) rfl ?_
    refine Go.i2b X0 hx (hb hby d10_16) rfl (q := 17) rfl ?_
    exact Go.retI X0 hx hret hlk (by simp) (Jvm.Free.XT.narrow_b _) (hb hby d10_17) e0 (by decide) (by decide) ⟨((dt >>> (((8 : Int32) * i) &&& 31)).toInt8.toInt32), rfl, N0, rfl, bb _⟩
  · refine Go.ifNo X0 hx (hb hby d10_5) (Jvm.Free.XT.i0_eq_f hc101) (q := 8) rfl ?_
    refine Go.iloadN X0 hx (hb hby d10_8) rfl (q := 9) rfl ?_
    exact Go.retI X0 hx hret hlk (by simp) (by rw [← ht]; exact Jvm.Free.XT.narrow_b _) (hb hby d10_9) e0 (by decide) (by decide) ⟨t, rfl, N0, rfl, ht⟩
def Q_cokA (Z : State) (li : Addr) (i t : Int32) (b : Addr) (n : Int32) (kb : ClassId) (vs : List Value) (h0 : Heap) (vR : Option Value) (hR : Heap) (LR : List Loc) : Prop := vR = some (.int 1) ∧ Fr Z.heap.size LR ∧ hR = h0
theorem cokA (l : Launch) (Z : State) (a0 : Array Value) (hw : ∀ d ∈ tables_1, d.before a0 Z = true) (li : Addr) (i t : Int32) (b : Addr) (n : Int32) (kb : ClassId) (vs : List Value) (h0 : Heap) (O0 : Ext Z.heap h0) (Vb : Arv Z h0 b kb .byte n vs (.int 0)) (hi1 : ¬ (i < n)) :
    Ctr l Z h0 (⟨xS4, "ok", "(Ljava/util/List;[BIB)Z"⟩ : MethodName) k7 7 (some .boolean) [] ({ frames := 0, cells := 0, slots := 0, locals := 0 } : Room) #[(.ref li), (.ref b), (.int i), (.int t)] (Q_cokA Z li i t b n kb vs h0) := by
  refine enter (plainFor_of_name pn6) ?_
  intro pp ee ss mm below meth cc s₁ hx hby hml hZ hown hnm hret hlk X0 e0 hs0
  replace hown : ss.vm.findClass xS4 = some mm.cls := hown
  refine Go.cast (congrArg s₁.setTop (ef_cokA mm li b i t)) ?_
  have N0 := Fr.nil Z.heap.size
  show Go pp ee below _ (s₁.setTop (mkF mm 0 #[.val (.ref li), .val (.ref b), .val (.int i), .val (.int t), .unset, .unset, .unset] []))
  refine Go.iloadN X0 hx (hb hby d7_0) rfl (q := 1) rfl ?_
  refine Go.aloadN X0 hx (hb hby d7_1) rfl rfl (q := 2) rfl ?_
  refine Go.alen X0 hx hZ e0 Vb (hb hby d7_2) ?_
  refine Go.icmpYes X0 hx (hb hby d7_3) (Jvm.Free.XT.ii_ge_t hi1) (q := 13) (by decide) (by decide) ?_
  refine Go.iconst X0 hx (hb hby d7_13) (r := (1 : Int32)) rfl (q := 14) rfl ?_
  exact Go.retI X0 hx hret hlk (by simp) rfl (hb hby d7_14) e0 (by decide) (by decide) ⟨rfl, N0, rfl⟩
def Q_cok_0 (Z : State) (li : Addr) (kk n t : Int32) (b : Addr) (x0 x1 x2 x3 : Int32) (kb : ClassId) (h0 : Heap) (vR : Option Value) (hR : Heap) (LR : List Loc) : Prop := vR = some (.int 1) ∧ Fr Z.heap.size LR ∧ hR = h0
theorem cok_0 (l : Launch) (Z : State) (a0 : Array Value) (hw : ∀ d ∈ tables_1, d.before a0 Z = true) (li : Addr) (kk n t : Int32) (b : Addr) (x0 x1 x2 x3 : Int32) (kb : ClassId) (h0 : Heap) (O0 : Ext Z.heap h0) (Vb : Arv Z h0 b kb .byte n [(.int x0), (.int x1), (.int x2), (.int x3)] (.int 0)) (El : Exa Z h0 li xS0) (Fsz : Fld Z h0 li xS0 "size" "I" (.int kk)) (hj0 : (0 : Int32) < n) (hok : x0 = t ∨ OKI Z h0 li kk (0 : Int32) (0 : Int32) x0) :
    Ctr l Z h0 (⟨xS4, "ok", "(Ljava/util/List;[BIB)Z"⟩ : MethodName) k7 7 (some .boolean) [] ({ frames := 3, cells := 0, slots := 0, locals := 40 } : Room) #[(.ref li), (.ref b), (.int 0), (.int t)] (Q_cok_0 Z li kk n t b x0 x1 x2 x3 kb h0) := by
  refine enter (plainFor_of_name pn6) ?_
  intro pp ee ss mm below meth cc s₁ hx hby hml hZ hown hnm hret hlk X0 e0 hs0
  replace hown : ss.vm.findClass xS4 = some mm.cls := hown
  refine Go.cast (congrArg s₁.setTop (ef_cok_0 mm li b t)) ?_
  have N0 := Fr.nil Z.heap.size
  show Go pp ee below _ (s₁.setTop (mkF mm 0 #[.val (.ref li), .val (.ref b), .val (.int 0), .val (.int t), .unset, .unset, .unset] []))
  refine Go.iloadN X0 hx (hb hby d7_0) rfl (q := 1) rfl ?_
  refine Go.aloadN X0 hx (hb hby d7_1) rfl rfl (q := 2) rfl ?_
  refine Go.alen X0 hx hZ e0 Vb (hb hby d7_2) ?_
  refine Go.icmpNo X0 hx (hb hby d7_3) (Jvm.Free.XT.ii_ge_f hj0) (q := 6) rfl ?_
  refine Go.aloadN X0 hx (hb hby d7_6) rfl rfl (q := 7) rfl ?_
  refine Go.iloadN X0 hx (hb hby d7_7) rfl (q := 8) rfl ?_
  refine Go.bal X0 hx hZ e0 Vb ⟨by decide, hj0⟩ (v := (.int x0)) rfl (hb hby d7_8) ?_
  refine Go.iloadN X0 hx (hb hby d7_9) rfl (q := 10) rfl ?_
  by_cases hc101 : x0 = t
  · refine Go.icmpNo X0 hx (hb hby d7_10) (Jvm.Free.XT.ii_ne_f hc101) (q := 13) rfl ?_
    refine Go.iconst X0 hx (hb hby d7_13) (r := (1 : Int32)) rfl (q := 14) rfl ?_
    exact Go.retI X0 hx hret hlk (by simp) rfl (hb hby d7_14) e0 (by decide) (by decide) ⟨rfl, N0, rfl⟩
  · refine Go.icmpYes X0 hx (hb hby d7_10) (Jvm.Free.XT.ii_ne_t hc101) (q := 15) (by decide) (by decide) ?_
    obtain ⟨hr, len, vs, ⟨d, a, kd, ka, us, Fed, Vd, hg, hr0, hr10, Ea, Va⟩, ho0, ho1, hgx⟩ := hok.resolve_left hc101
    refine Go.aloadN X0 hx (hb hby d7_15) rfl rfl (q := 16) rfl ?_
    refine Go.iloadN X0 hx (hb hby d7_16) rfl (q := 17) rfl ?_
    refine Go.iloadN X0 hx (hb hby d7_17) rfl (q := 18) rfl ?_
    refine Go.callS X0 hx hZ hown (wd49 hw) (wd50 hw) (wd44 hw) (wd51 hw) (by decide) (ctb_0 l Z a0 hw b x0 x1 x2 x3 (kb) n t h0 O0 Vb) e0 (by rw [hml]; rfl) (hb hby d7_18) (argsL := [(.ref b), (.int 0), (.int t)]) (rest := []) (lenOf pd10 rfl) rfl rfl (W := 0) (Nat.le_refl _) (by decide) ?_
    intro v102 T102 L102 X102 hQ102
    obtain ⟨rfl, N102q, e102⟩ := hQ102
    have N102 := Fr.app N0 N102q
    refine Go.istore X102 hx (hb hby d7_21) (l' := #[.val (.ref li), .val (.ref b), .val (.int 0), .val (.int t), .val (.int 0), .unset, .unset]) rfl (q := 23) rfl ?_
    refine Go.iloadN X102 hx (hb hby d7_23) rfl (q := 24) rfl ?_
    refine Go.aloadN X102 hx (hb hby d7_24) rfl rfl (q := 25) rfl ?_
    refine Go.iloadN X102 hx (hb hby d7_25) rfl (q := 26) rfl ?_
    refine Go.iloadN X102 hx (hb hby d7_26) rfl (q := 27) rfl ?_
    refine Go.callS X102 hx hZ hown (wd107 hw) (wd108 hw) (wd44 hw) (wd109 hw) (by decide) (clt_0 l Z a0 hw b x0 x1 x2 x3 (kb) n t h0 O0 Vb) e102 (by rw [hml]; rfl) (hb hby d7_27) (argsL := [(.ref b), (.int 0), (.int t)]) (rest := [(.int 0)]) (lenOf pd10 rfl) rfl rfl (W := 1) (Nat.le_refl _) (by decide) ?_
    intro v103 T103 L103 X103 hQ103
    obtain ⟨rfl, N103q, e103⟩ := hQ103
    have N103 := Fr.app N102 N103q
    refine Go.isub X103 hx (hb hby d7_30) (r := (1 : Int32)) rfl (q := 31) rfl ?_
    refine Go.iconst X103 hx (hb hby d7_31) (r := (1 : Int32)) rfl (q := 32) rfl ?_
    refine Go.isub X103 hx (hb hby d7_32) (r := (0 : Int32)) rfl (q := 33) rfl ?_
    refine Go.istore X103 hx (hb hby d7_33) (l' := #[.val (.ref li), .val (.ref b), .val (.int 0), .val (.int t), .val (.int 0), .val (.int 0), .unset]) rfl (q := 35) rfl ?_
    refine Go.iload X103 hx (hb hby d7_35) rfl (q := 37) rfl ?_
    refine Go.aloadN X103 hx (hb hby d7_37) rfl rfl (q := 38) rfl ?_
    refine Go.face X103 hx hZ hown (wd31 hw) (wd32 hw) (wd33 hw) (wd34 hw) (wd35 hw) (wd36 hw) (wd37 hw) (wd38 hw) (wd7 hw) (wd39 hw) (by decide) (csize l Z a0 hw li kk h0 O0 Fsz) e103 El (by rw [hml]; rfl) (hb hby d7_38) (argsL := []) (rest := [(.int 0)]) (lenOf pd11 rfl) rfl rfl (W := 1) (Nat.le_refl _) (by decide) ?_
    intro v104 T104 L104 X104 hQ104
    obtain ⟨rfl, N104q, e104⟩ := hQ104
    have N104 := Fr.app N103 N104q
    refine Go.icmpYes X104 hx (hb hby d7_43) (Jvm.Free.XT.ii_lt_t hr) (q := 48) (by decide) (by decide) ?_
    refine Go.aloadN X104 hx (hb hby d7_48) rfl rfl (q := 49) rfl ?_
    refine Go.iload X104 hx (hb hby d7_49) rfl (q := 51) rfl ?_
    refine Go.face X104 hx hZ hown (wd110 hw) (wd111 hw) (wd112 hw) (wd113 hw) (wd114 hw) (wd115 hw) (wd116 hw) (wd38 hw) (wd7 hw) (wd117 hw) (by decide) (cget l Z a0 hw li ((0 : Int32)) a kk d (kd) (us) h0 O0 El Fsz Fed Vd hr0 hr10 hg hr) e104 El (by rw [hml]; rfl) (hb hby d7_51) (argsL := [(.int 0)]) (rest := []) (lenOf pd6 rfl) rfl rfl (W := 0) (Nat.le_refl _) (by decide) ?_
    intro v105 T105 L105 X105 hQ105
    obtain ⟨rfl, N105q, e105⟩ := hQ105
    have N105 := Fr.app N104 N105q
    refine Go.castY X105 hx hZ hown (wd131 hw) e105 (Ins.self Ea) (hb hby d7_56) (q := 59) rfl ?_
    intro T106 X106 e106
    refine Go.astore X106 hx (hb hby d7_59) rfl (l' := #[.val (.ref li), .val (.ref b), .val (.int 0), .val (.int t), .val (.int 0), .val (.int 0), .val (.ref a)]) rfl (q := 61) rfl ?_
    refine Go.aload X106 hx (hb hby d7_61) rfl rfl (q := 63) rfl ?_
    refine Go.ifnullNo X106 hx (hb hby d7_63) (q := 66) rfl ?_
    refine Go.iload X106 hx (hb hby d7_66) rfl (q := 68) rfl ?_
    refine Go.aload X106 hx (hb hby d7_68) rfl rfl (q := 70) rfl ?_
    refine Go.alen X106 hx hZ e106 Va (hb hby d7_70) ?_
    refine Go.icmpYes X106 hx (hb hby d7_71) (Jvm.Free.XT.ii_lt_t ho1) (q := 76) (by decide) (by decide) ?_
    refine Go.aload X106 hx (hb hby d7_76) rfl rfl (q := 78) rfl ?_
    refine Go.iload X106 hx (hb hby d7_78) rfl (q := 80) rfl ?_
    refine Go.bal X106 hx hZ e106 Va ⟨ho0, ho1⟩ (v := (.int x0)) hgx (hb hby d7_80) ?_
    refine Go.aloadN X106 hx (hb hby d7_81) rfl rfl (q := 82) rfl ?_
    refine Go.iloadN X106 hx (hb hby d7_82) rfl (q := 83) rfl ?_
    refine Go.bal X106 hx hZ e106 Vb ⟨by decide, hj0⟩ (v := (.int x0)) rfl (hb hby d7_83) ?_
    refine Go.icmpNo X106 hx (hb hby d7_84) (Jvm.Free.XT.ii_ne_f rfl) (q := 87) rfl ?_
    refine Go.iconst X106 hx (hb hby d7_87) (r := (1 : Int32)) rfl (q := 88) rfl ?_
    refine Go.goto X106 hx (hb hby d7_88) (q := 92) (by decide) (by decide) ?_
    exact Go.retI X106 hx hret hlk (by simp) rfl (hb hby d7_92) e106 (by decide) (by decide) ⟨rfl, N105, rfl⟩
def Q_cok_1 (Z : State) (li : Addr) (kk n t : Int32) (b : Addr) (x0 x1 x2 x3 : Int32) (kb : ClassId) (h0 : Heap) (vR : Option Value) (hR : Heap) (LR : List Loc) : Prop := vR = some (.int 1) ∧ Fr Z.heap.size LR ∧ hR = h0
theorem cok_1 (l : Launch) (Z : State) (a0 : Array Value) (hw : ∀ d ∈ tables_1, d.before a0 Z = true) (li : Addr) (kk n t : Int32) (b : Addr) (x0 x1 x2 x3 : Int32) (kb : ClassId) (h0 : Heap) (O0 : Ext Z.heap h0) (Vb : Arv Z h0 b kb .byte n [(.int x0), (.int x1), (.int x2), (.int x3)] (.int 0)) (El : Exa Z h0 li xS0) (Fsz : Fld Z h0 li xS0 "size" "I" (.int kk)) (hj0 : (0 : Int32) < n) (hj1 : (1 : Int32) < n) (hok : x1 = t ∨ OKI Z h0 li kk (own_tb1 x0 t) (((1 : Int32) - (own_lt1 x0 t)) - (1 : Int32)) x1) :
    Ctr l Z h0 (⟨xS4, "ok", "(Ljava/util/List;[BIB)Z"⟩ : MethodName) k7 7 (some .boolean) [] ({ frames := 3, cells := 0, slots := 0, locals := 40 } : Room) #[(.ref li), (.ref b), (.int 1), (.int t)] (Q_cok_1 Z li kk n t b x0 x1 x2 x3 kb h0) := by
  refine enter (plainFor_of_name pn6) ?_
  intro pp ee ss mm below meth cc s₁ hx hby hml hZ hown hnm hret hlk X0 e0 hs0
  replace hown : ss.vm.findClass xS4 = some mm.cls := hown
  refine Go.cast (congrArg s₁.setTop (ef_cok_1 mm li b t)) ?_
  have N0 := Fr.nil Z.heap.size
  show Go pp ee below _ (s₁.setTop (mkF mm 0 #[.val (.ref li), .val (.ref b), .val (.int 1), .val (.int t), .unset, .unset, .unset] []))
  refine Go.iloadN X0 hx (hb hby d7_0) rfl (q := 1) rfl ?_
  refine Go.aloadN X0 hx (hb hby d7_1) rfl rfl (q := 2) rfl ?_
  refine Go.alen X0 hx hZ e0 Vb (hb hby d7_2) ?_
  refine Go.icmpNo X0 hx (hb hby d7_3) (Jvm.Free.XT.ii_ge_f hj1) (q := 6) rfl ?_
  refine Go.aloadN X0 hx (hb hby d7_6) rfl rfl (q := 7) rfl ?_
  refine Go.iloadN X0 hx (hb hby d7_7) rfl (q := 8) rfl ?_
  refine Go.bal X0 hx hZ e0 Vb ⟨by decide, hj1⟩ (v := (.int x1)) rfl (hb hby d7_8) ?_
  refine Go.iloadN X0 hx (hb hby d7_9) rfl (q := 10) rfl ?_
  by_cases hc101 : x1 = t
  · refine Go.icmpNo X0 hx (hb hby d7_10) (Jvm.Free.XT.ii_ne_f hc101) (q := 13) rfl ?_
    refine Go.iconst X0 hx (hb hby d7_13) (r := (1 : Int32)) rfl (q := 14) rfl ?_
    exact Go.retI X0 hx hret hlk (by simp) rfl (hb hby d7_14) e0 (by decide) (by decide) ⟨rfl, N0, rfl⟩
  · refine Go.icmpYes X0 hx (hb hby d7_10) (Jvm.Free.XT.ii_ne_t hc101) (q := 15) (by decide) (by decide) ?_
    obtain ⟨hr, len, vs, ⟨d, a, kd, ka, us, Fed, Vd, hg, hr0, hr10, Ea, Va⟩, ho0, ho1, hgx⟩ := hok.resolve_left hc101
    refine Go.aloadN X0 hx (hb hby d7_15) rfl rfl (q := 16) rfl ?_
    refine Go.iloadN X0 hx (hb hby d7_16) rfl (q := 17) rfl ?_
    refine Go.iloadN X0 hx (hb hby d7_17) rfl (q := 18) rfl ?_
    refine Go.callS X0 hx hZ hown (wd49 hw) (wd50 hw) (wd44 hw) (wd51 hw) (by decide) (ctb_1 l Z a0 hw b x0 x1 x2 x3 (kb) n t h0 O0 Vb hj0) e0 (by rw [hml]; rfl) (hb hby d7_18) (argsL := [(.ref b), (.int 1), (.int t)]) (rest := []) (lenOf pd10 rfl) rfl rfl (W := 0) (Nat.le_refl _) (by decide) ?_
    intro v102 T102 L102 X102 hQ102
    obtain ⟨rfl, N102q, e102⟩ := hQ102
    have N102 := Fr.app N0 N102q
    refine Go.istore X102 hx (hb hby d7_21) (l' := #[.val (.ref li), .val (.ref b), .val (.int 1), .val (.int t), .val (.int (own_tb1 x0 t)), .unset, .unset]) rfl (q := 23) rfl ?_
    refine Go.iloadN X102 hx (hb hby d7_23) rfl (q := 24) rfl ?_
    refine Go.aloadN X102 hx (hb hby d7_24) rfl rfl (q := 25) rfl ?_
    refine Go.iloadN X102 hx (hb hby d7_25) rfl (q := 26) rfl ?_
    refine Go.iloadN X102 hx (hb hby d7_26) rfl (q := 27) rfl ?_
    refine Go.callS X102 hx hZ hown (wd107 hw) (wd108 hw) (wd44 hw) (wd109 hw) (by decide) (clt_1 l Z a0 hw b x0 x1 x2 x3 (kb) n t h0 O0 Vb hj0) e102 (by rw [hml]; rfl) (hb hby d7_27) (argsL := [(.ref b), (.int 1), (.int t)]) (rest := [(.int 1)]) (lenOf pd10 rfl) rfl rfl (W := 1) (Nat.le_refl _) (by decide) ?_
    intro v103 T103 L103 X103 hQ103
    obtain ⟨rfl, N103q, e103⟩ := hQ103
    have N103 := Fr.app N102 N103q
    refine Go.isub X103 hx (hb hby d7_30) rfl (q := 31) rfl ?_
    refine Go.iconst X103 hx (hb hby d7_31) (r := (1 : Int32)) rfl (q := 32) rfl ?_
    refine Go.isub X103 hx (hb hby d7_32) rfl (q := 33) rfl ?_
    refine Go.istore X103 hx (hb hby d7_33) (l' := #[.val (.ref li), .val (.ref b), .val (.int 1), .val (.int t), .val (.int (own_tb1 x0 t)), .val (.int (((1 : Int32) - (own_lt1 x0 t)) - (1 : Int32))), .unset]) rfl (q := 35) rfl ?_
    refine Go.iload X103 hx (hb hby d7_35) rfl (q := 37) rfl ?_
    refine Go.aloadN X103 hx (hb hby d7_37) rfl rfl (q := 38) rfl ?_
    refine Go.face X103 hx hZ hown (wd31 hw) (wd32 hw) (wd33 hw) (wd34 hw) (wd35 hw) (wd36 hw) (wd37 hw) (wd38 hw) (wd7 hw) (wd39 hw) (by decide) (csize l Z a0 hw li kk h0 O0 Fsz) e103 El (by rw [hml]; rfl) (hb hby d7_38) (argsL := []) (rest := [(.int (own_tb1 x0 t))]) (lenOf pd11 rfl) rfl rfl (W := 1) (Nat.le_refl _) (by decide) ?_
    intro v104 T104 L104 X104 hQ104
    obtain ⟨rfl, N104q, e104⟩ := hQ104
    have N104 := Fr.app N103 N104q
    refine Go.icmpYes X104 hx (hb hby d7_43) (Jvm.Free.XT.ii_lt_t hr) (q := 48) (by decide) (by decide) ?_
    refine Go.aloadN X104 hx (hb hby d7_48) rfl rfl (q := 49) rfl ?_
    refine Go.iload X104 hx (hb hby d7_49) rfl (q := 51) rfl ?_
    refine Go.face X104 hx hZ hown (wd110 hw) (wd111 hw) (wd112 hw) (wd113 hw) (wd114 hw) (wd115 hw) (wd116 hw) (wd38 hw) (wd7 hw) (wd117 hw) (by decide) (cget l Z a0 hw li ((own_tb1 x0 t)) a kk d (kd) (us) h0 O0 El Fsz Fed Vd hr0 hr10 hg hr) e104 El (by rw [hml]; rfl) (hb hby d7_51) (argsL := [(.int (own_tb1 x0 t))]) (rest := []) (lenOf pd6 rfl) rfl rfl (W := 0) (Nat.le_refl _) (by decide) ?_
    intro v105 T105 L105 X105 hQ105
    obtain ⟨rfl, N105q, e105⟩ := hQ105
    have N105 := Fr.app N104 N105q
    refine Go.castY X105 hx hZ hown (wd131 hw) e105 (Ins.self Ea) (hb hby d7_56) (q := 59) rfl ?_
    intro T106 X106 e106
    refine Go.astore X106 hx (hb hby d7_59) rfl (l' := #[.val (.ref li), .val (.ref b), .val (.int 1), .val (.int t), .val (.int (own_tb1 x0 t)), .val (.int (((1 : Int32) - (own_lt1 x0 t)) - (1 : Int32))), .val (.ref a)]) rfl (q := 61) rfl ?_
    refine Go.aload X106 hx (hb hby d7_61) rfl rfl (q := 63) rfl ?_
    refine Go.ifnullNo X106 hx (hb hby d7_63) (q := 66) rfl ?_
    refine Go.iload X106 hx (hb hby d7_66) rfl (q := 68) rfl ?_
    refine Go.aload X106 hx (hb hby d7_68) rfl rfl (q := 70) rfl ?_
    refine Go.alen X106 hx hZ e106 Va (hb hby d7_70) ?_
    refine Go.icmpYes X106 hx (hb hby d7_71) (Jvm.Free.XT.ii_lt_t ho1) (q := 76) (by decide) (by decide) ?_
    refine Go.aload X106 hx (hb hby d7_76) rfl rfl (q := 78) rfl ?_
    refine Go.iload X106 hx (hb hby d7_78) rfl (q := 80) rfl ?_
    refine Go.bal X106 hx hZ e106 Va ⟨ho0, ho1⟩ (v := (.int x1)) hgx (hb hby d7_80) ?_
    refine Go.aloadN X106 hx (hb hby d7_81) rfl rfl (q := 82) rfl ?_
    refine Go.iloadN X106 hx (hb hby d7_82) rfl (q := 83) rfl ?_
    refine Go.bal X106 hx hZ e106 Vb ⟨by decide, hj1⟩ (v := (.int x1)) rfl (hb hby d7_83) ?_
    refine Go.icmpNo X106 hx (hb hby d7_84) (Jvm.Free.XT.ii_ne_f rfl) (q := 87) rfl ?_
    refine Go.iconst X106 hx (hb hby d7_87) (r := (1 : Int32)) rfl (q := 88) rfl ?_
    refine Go.goto X106 hx (hb hby d7_88) (q := 92) (by decide) (by decide) ?_
    exact Go.retI X106 hx hret hlk (by simp) rfl (hb hby d7_92) e106 (by decide) (by decide) ⟨rfl, N105, rfl⟩
def Q_cok_2 (Z : State) (li : Addr) (kk n t : Int32) (b : Addr) (x0 x1 x2 x3 : Int32) (kb : ClassId) (h0 : Heap) (vR : Option Value) (hR : Heap) (LR : List Loc) : Prop := vR = some (.int 1) ∧ Fr Z.heap.size LR ∧ hR = h0
theorem cok_2 (l : Launch) (Z : State) (a0 : Array Value) (hw : ∀ d ∈ tables_1, d.before a0 Z = true) (li : Addr) (kk n t : Int32) (b : Addr) (x0 x1 x2 x3 : Int32) (kb : ClassId) (h0 : Heap) (O0 : Ext Z.heap h0) (Vb : Arv Z h0 b kb .byte n [(.int x0), (.int x1), (.int x2), (.int x3)] (.int 0)) (El : Exa Z h0 li xS0) (Fsz : Fld Z h0 li xS0 "size" "I" (.int kk)) (hj0 : (0 : Int32) < n) (hj1 : (1 : Int32) < n) (hj2 : (2 : Int32) < n) (hok : x2 = t ∨ OKI Z h0 li kk (own_tb2 x0 x1 t) (((2 : Int32) - (own_lt2 x0 x1 t)) - (1 : Int32)) x2) :
    Ctr l Z h0 (⟨xS4, "ok", "(Ljava/util/List;[BIB)Z"⟩ : MethodName) k7 7 (some .boolean) [] ({ frames := 3, cells := 0, slots := 0, locals := 40 } : Room) #[(.ref li), (.ref b), (.int 2), (.int t)] (Q_cok_2 Z li kk n t b x0 x1 x2 x3 kb h0) := by
  refine enter (plainFor_of_name pn6) ?_
  intro pp ee ss mm below meth cc s₁ hx hby hml hZ hown hnm hret hlk X0 e0 hs0
  replace hown : ss.vm.findClass xS4 = some mm.cls := hown
  refine Go.cast (congrArg s₁.setTop (ef_cok_2 mm li b t)) ?_
  have N0 := Fr.nil Z.heap.size
  show Go pp ee below _ (s₁.setTop (mkF mm 0 #[.val (.ref li), .val (.ref b), .val (.int 2), .val (.int t), .unset, .unset, .unset] []))
  refine Go.iloadN X0 hx (hb hby d7_0) rfl (q := 1) rfl ?_
  refine Go.aloadN X0 hx (hb hby d7_1) rfl rfl (q := 2) rfl ?_
  refine Go.alen X0 hx hZ e0 Vb (hb hby d7_2) ?_
  refine Go.icmpNo X0 hx (hb hby d7_3) (Jvm.Free.XT.ii_ge_f hj2) (q := 6) rfl ?_
  refine Go.aloadN X0 hx (hb hby d7_6) rfl rfl (q := 7) rfl ?_
  refine Go.iloadN X0 hx (hb hby d7_7) rfl (q := 8) rfl ?_
  refine Go.bal X0 hx hZ e0 Vb ⟨by decide, hj2⟩ (v := (.int x2)) rfl (hb hby d7_8) ?_
  refine Go.iloadN X0 hx (hb hby d7_9) rfl (q := 10) rfl ?_
  by_cases hc101 : x2 = t
  · refine Go.icmpNo X0 hx (hb hby d7_10) (Jvm.Free.XT.ii_ne_f hc101) (q := 13) rfl ?_
    refine Go.iconst X0 hx (hb hby d7_13) (r := (1 : Int32)) rfl (q := 14) rfl ?_
    exact Go.retI X0 hx hret hlk (by simp) rfl (hb hby d7_14) e0 (by decide) (by decide) ⟨rfl, N0, rfl⟩
  · refine Go.icmpYes X0 hx (hb hby d7_10) (Jvm.Free.XT.ii_ne_t hc101) (q := 15) (by decide) (by decide) ?_
    obtain ⟨hr, len, vs, ⟨d, a, kd, ka, us, Fed, Vd, hg, hr0, hr10, Ea, Va⟩, ho0, ho1, hgx⟩ := hok.resolve_left hc101
    refine Go.aloadN X0 hx (hb hby d7_15) rfl rfl (q := 16) rfl ?_
    refine Go.iloadN X0 hx (hb hby d7_16) rfl (q := 17) rfl ?_
    refine Go.iloadN X0 hx (hb hby d7_17) rfl (q := 18) rfl ?_
    refine Go.callS X0 hx hZ hown (wd49 hw) (wd50 hw) (wd44 hw) (wd51 hw) (by decide) (ctb_2 l Z a0 hw b x0 x1 x2 x3 (kb) n t h0 O0 Vb hj0 hj1) e0 (by rw [hml]; rfl) (hb hby d7_18) (argsL := [(.ref b), (.int 2), (.int t)]) (rest := []) (lenOf pd10 rfl) rfl rfl (W := 0) (Nat.le_refl _) (by decide) ?_
    intro v102 T102 L102 X102 hQ102
    obtain ⟨rfl, N102q, e102⟩ := hQ102
    have N102 := Fr.app N0 N102q
    refine Go.istore X102 hx (hb hby d7_21) (l' := #[.val (.ref li), .val (.ref b), .val (.int 2), .val (.int t), .val (.int (own_tb2 x0 x1 t)), .unset, .unset]) rfl (q := 23) rfl ?_
    refine Go.iloadN X102 hx (hb hby d7_23) rfl (q := 24) rfl ?_
    refine Go.aloadN X102 hx (hb hby d7_24) rfl rfl (q := 25) rfl ?_
    refine Go.iloadN X102 hx (hb hby d7_25) rfl (q := 26) rfl ?_
    refine Go.iloadN X102 hx (hb hby d7_26) rfl (q := 27) rfl ?_
    refine Go.callS X102 hx hZ hown (wd107 hw) (wd108 hw) (wd44 hw) (wd109 hw) (by decide) (clt_2 l Z a0 hw b x0 x1 x2 x3 (kb) n t h0 O0 Vb hj0 hj1) e102 (by rw [hml]; rfl) (hb hby d7_27) (argsL := [(.ref b), (.int 2), (.int t)]) (rest := [(.int 2)]) (lenOf pd10 rfl) rfl rfl (W := 1) (Nat.le_refl _) (by decide) ?_
    intro v103 T103 L103 X103 hQ103
    obtain ⟨rfl, N103q, e103⟩ := hQ103
    have N103 := Fr.app N102 N103q
    refine Go.isub X103 hx (hb hby d7_30) rfl (q := 31) rfl ?_
    refine Go.iconst X103 hx (hb hby d7_31) (r := (1 : Int32)) rfl (q := 32) rfl ?_
    refine Go.isub X103 hx (hb hby d7_32) rfl (q := 33) rfl ?_
    refine Go.istore X103 hx (hb hby d7_33) (l' := #[.val (.ref li), .val (.ref b), .val (.int 2), .val (.int t), .val (.int (own_tb2 x0 x1 t)), .val (.int (((2 : Int32) - (own_lt2 x0 x1 t)) - (1 : Int32))), .unset]) rfl (q := 35) rfl ?_
    refine Go.iload X103 hx (hb hby d7_35) rfl (q := 37) rfl ?_
    refine Go.aloadN X103 hx (hb hby d7_37) rfl rfl (q := 38) rfl ?_
    refine Go.face X103 hx hZ hown (wd31 hw) (wd32 hw) (wd33 hw) (wd34 hw) (wd35 hw) (wd36 hw) (wd37 hw) (wd38 hw) (wd7 hw) (wd39 hw) (by decide) (csize l Z a0 hw li kk h0 O0 Fsz) e103 El (by rw [hml]; rfl) (hb hby d7_38) (argsL := []) (rest := [(.int (own_tb2 x0 x1 t))]) (lenOf pd11 rfl) rfl rfl (W := 1) (Nat.le_refl _) (by decide) ?_
    intro v104 T104 L104 X104 hQ104
    obtain ⟨rfl, N104q, e104⟩ := hQ104
    have N104 := Fr.app N103 N104q
    refine Go.icmpYes X104 hx (hb hby d7_43) (Jvm.Free.XT.ii_lt_t hr) (q := 48) (by decide) (by decide) ?_
    refine Go.aloadN X104 hx (hb hby d7_48) rfl rfl (q := 49) rfl ?_
    refine Go.iload X104 hx (hb hby d7_49) rfl (q := 51) rfl ?_
    refine Go.face X104 hx hZ hown (wd110 hw) (wd111 hw) (wd112 hw) (wd113 hw) (wd114 hw) (wd115 hw) (wd116 hw) (wd38 hw) (wd7 hw) (wd117 hw) (by decide) (cget l Z a0 hw li ((own_tb2 x0 x1 t)) a kk d (kd) (us) h0 O0 El Fsz Fed Vd hr0 hr10 hg hr) e104 El (by rw [hml]; rfl) (hb hby d7_51) (argsL := [(.int (own_tb2 x0 x1 t))]) (rest := []) (lenOf pd6 rfl) rfl rfl (W := 0) (Nat.le_refl _) (by decide) ?_
    intro v105 T105 L105 X105 hQ105
    obtain ⟨rfl, N105q, e105⟩ := hQ105
    have N105 := Fr.app N104 N105q
    refine Go.castY X105 hx hZ hown (wd131 hw) e105 (Ins.self Ea) (hb hby d7_56) (q := 59) rfl ?_
    intro T106 X106 e106
    refine Go.astore X106 hx (hb hby d7_59) rfl (l' := #[.val (.ref li), .val (.ref b), .val (.int 2), .val (.int t), .val (.int (own_tb2 x0 x1 t)), .val (.int (((2 : Int32) - (own_lt2 x0 x1 t)) - (1 : Int32))), .val (.ref a)]) rfl (q := 61) rfl ?_
    refine Go.aload X106 hx (hb hby d7_61) rfl rfl (q := 63) rfl ?_
    refine Go.ifnullNo X106 hx (hb hby d7_63) (q := 66) rfl ?_
    refine Go.iload X106 hx (hb hby d7_66) rfl (q := 68) rfl ?_
    refine Go.aload X106 hx (hb hby d7_68) rfl rfl (q := 70) rfl ?_
    refine Go.alen X106 hx hZ e106 Va (hb hby d7_70) ?_
    refine Go.icmpYes X106 hx (hb hby d7_71) (Jvm.Free.XT.ii_lt_t ho1) (q := 76) (by decide) (by decide) ?_
    refine Go.aload X106 hx (hb hby d7_76) rfl rfl (q := 78) rfl ?_
    refine Go.iload X106 hx (hb hby d7_78) rfl (q := 80) rfl ?_
    refine Go.bal X106 hx hZ e106 Va ⟨ho0, ho1⟩ (v := (.int x2)) hgx (hb hby d7_80) ?_
    refine Go.aloadN X106 hx (hb hby d7_81) rfl rfl (q := 82) rfl ?_
    refine Go.iloadN X106 hx (hb hby d7_82) rfl (q := 83) rfl ?_
    refine Go.bal X106 hx hZ e106 Vb ⟨by decide, hj2⟩ (v := (.int x2)) rfl (hb hby d7_83) ?_
    refine Go.icmpNo X106 hx (hb hby d7_84) (Jvm.Free.XT.ii_ne_f rfl) (q := 87) rfl ?_
    refine Go.iconst X106 hx (hb hby d7_87) (r := (1 : Int32)) rfl (q := 88) rfl ?_
    refine Go.goto X106 hx (hb hby d7_88) (q := 92) (by decide) (by decide) ?_
    exact Go.retI X106 hx hret hlk (by simp) rfl (hb hby d7_92) e106 (by decide) (by decide) ⟨rfl, N105, rfl⟩
def Q_cok_3 (Z : State) (li : Addr) (kk n t : Int32) (b : Addr) (x0 x1 x2 x3 : Int32) (kb : ClassId) (h0 : Heap) (vR : Option Value) (hR : Heap) (LR : List Loc) : Prop := vR = some (.int 1) ∧ Fr Z.heap.size LR ∧ hR = h0
theorem cok_3 (l : Launch) (Z : State) (a0 : Array Value) (hw : ∀ d ∈ tables_1, d.before a0 Z = true) (li : Addr) (kk n t : Int32) (b : Addr) (x0 x1 x2 x3 : Int32) (kb : ClassId) (h0 : Heap) (O0 : Ext Z.heap h0) (Vb : Arv Z h0 b kb .byte n [(.int x0), (.int x1), (.int x2), (.int x3)] (.int 0)) (El : Exa Z h0 li xS0) (Fsz : Fld Z h0 li xS0 "size" "I" (.int kk)) (hj0 : (0 : Int32) < n) (hj1 : (1 : Int32) < n) (hj2 : (2 : Int32) < n) (hj3 : (3 : Int32) < n) (hok : x3 = t ∨ OKI Z h0 li kk (own_tb3 x0 x1 x2 t) (((3 : Int32) - (own_lt3 x0 x1 x2 t)) - (1 : Int32)) x3) :
    Ctr l Z h0 (⟨xS4, "ok", "(Ljava/util/List;[BIB)Z"⟩ : MethodName) k7 7 (some .boolean) [] ({ frames := 3, cells := 0, slots := 0, locals := 40 } : Room) #[(.ref li), (.ref b), (.int 3), (.int t)] (Q_cok_3 Z li kk n t b x0 x1 x2 x3 kb h0) := by
  refine enter (plainFor_of_name pn6) ?_
  intro pp ee ss mm below meth cc s₁ hx hby hml hZ hown hnm hret hlk X0 e0 hs0
  replace hown : ss.vm.findClass xS4 = some mm.cls := hown
  refine Go.cast (congrArg s₁.setTop (ef_cok_3 mm li b t)) ?_
  have N0 := Fr.nil Z.heap.size
  show Go pp ee below _ (s₁.setTop (mkF mm 0 #[.val (.ref li), .val (.ref b), .val (.int 3), .val (.int t), .unset, .unset, .unset] []))
  refine Go.iloadN X0 hx (hb hby d7_0) rfl (q := 1) rfl ?_
  refine Go.aloadN X0 hx (hb hby d7_1) rfl rfl (q := 2) rfl ?_
  refine Go.alen X0 hx hZ e0 Vb (hb hby d7_2) ?_
  refine Go.icmpNo X0 hx (hb hby d7_3) (Jvm.Free.XT.ii_ge_f hj3) (q := 6) rfl ?_
  refine Go.aloadN X0 hx (hb hby d7_6) rfl rfl (q := 7) rfl ?_
  refine Go.iloadN X0 hx (hb hby d7_7) rfl (q := 8) rfl ?_
  refine Go.bal X0 hx hZ e0 Vb ⟨by decide, hj3⟩ (v := (.int x3)) rfl (hb hby d7_8) ?_
  refine Go.iloadN X0 hx (hb hby d7_9) rfl (q := 10) rfl ?_
  by_cases hc101 : x3 = t
  · refine Go.icmpNo X0 hx (hb hby d7_10) (Jvm.Free.XT.ii_ne_f hc101) (q := 13) rfl ?_
    refine Go.iconst X0 hx (hb hby d7_13) (r := (1 : Int32)) rfl (q := 14) rfl ?_
    exact Go.retI X0 hx hret hlk (by simp) rfl (hb hby d7_14) e0 (by decide) (by decide) ⟨rfl, N0, rfl⟩
  · refine Go.icmpYes X0 hx (hb hby d7_10) (Jvm.Free.XT.ii_ne_t hc101) (q := 15) (by decide) (by decide) ?_
    obtain ⟨hr, len, vs, ⟨d, a, kd, ka, us, Fed, Vd, hg, hr0, hr10, Ea, Va⟩, ho0, ho1, hgx⟩ := hok.resolve_left hc101
    refine Go.aloadN X0 hx (hb hby d7_15) rfl rfl (q := 16) rfl ?_
    refine Go.iloadN X0 hx (hb hby d7_16) rfl (q := 17) rfl ?_
    refine Go.iloadN X0 hx (hb hby d7_17) rfl (q := 18) rfl ?_
    refine Go.callS X0 hx hZ hown (wd49 hw) (wd50 hw) (wd44 hw) (wd51 hw) (by decide) (ctb_3 l Z a0 hw b x0 x1 x2 x3 (kb) n t h0 O0 Vb hj0 hj1 hj2) e0 (by rw [hml]; rfl) (hb hby d7_18) (argsL := [(.ref b), (.int 3), (.int t)]) (rest := []) (lenOf pd10 rfl) rfl rfl (W := 0) (Nat.le_refl _) (by decide) ?_
    intro v102 T102 L102 X102 hQ102
    obtain ⟨rfl, N102q, e102⟩ := hQ102
    have N102 := Fr.app N0 N102q
    refine Go.istore X102 hx (hb hby d7_21) (l' := #[.val (.ref li), .val (.ref b), .val (.int 3), .val (.int t), .val (.int (own_tb3 x0 x1 x2 t)), .unset, .unset]) rfl (q := 23) rfl ?_
    refine Go.iloadN X102 hx (hb hby d7_23) rfl (q := 24) rfl ?_
    refine Go.aloadN X102 hx (hb hby d7_24) rfl rfl (q := 25) rfl ?_
    refine Go.iloadN X102 hx (hb hby d7_25) rfl (q := 26) rfl ?_
    refine Go.iloadN X102 hx (hb hby d7_26) rfl (q := 27) rfl ?_
    refine Go.callS X102 hx hZ hown (wd107 hw) (wd108 hw) (wd44 hw) (wd109 hw) (by decide) (clt_3 l Z a0 hw b x0 x1 x2 x3 (kb) n t h0 O0 Vb hj0 hj1 hj2) e102 (by rw [hml]; rfl) (hb hby d7_27) (argsL := [(.ref b), (.int 3), (.int t)]) (rest := [(.int 3)]) (lenOf pd10 rfl) rfl rfl (W := 1) (Nat.le_refl _) (by decide) ?_
    intro v103 T103 L103 X103 hQ103
    obtain ⟨rfl, N103q, e103⟩ := hQ103
    have N103 := Fr.app N102 N103q
    refine Go.isub X103 hx (hb hby d7_30) rfl (q := 31) rfl ?_
    refine Go.iconst X103 hx (hb hby d7_31) (r := (1 : Int32)) rfl (q := 32) rfl ?_
    refine Go.isub X103 hx (hb hby d7_32) rfl (q := 33) rfl ?_
    refine Go.istore X103 hx (hb hby d7_33) (l' := #[.val (.ref li), .val (.ref b), .val (.int 3), .val (.int t), .val (.int (own_tb3 x0 x1 x2 t)), .val (.int (((3 : Int32) - (own_lt3 x0 x1 x2 t)) - (1 : Int32))), .unset]) rfl (q := 35) rfl ?_
    refine Go.iload X103 hx (hb hby d7_35) rfl (q := 37) rfl ?_
    refine Go.aloadN X103 hx (hb hby d7_37) rfl rfl (q := 38) rfl ?_
    refine Go.face X103 hx hZ hown (wd31 hw) (wd32 hw) (wd33 hw) (wd34 hw) (wd35 hw) (wd36 hw) (wd37 hw) (wd38 hw) (wd7 hw) (wd39 hw) (by decide) (csize l Z a0 hw li kk h0 O0 Fsz) e103 El (by rw [hml]; rfl) (hb hby d7_38) (argsL := []) (rest := [(.int (own_tb3 x0 x1 x2 t))]) (lenOf pd11 rfl) rfl rfl (W := 1) (Nat.le_refl _) (by decide) ?_
    intro v104 T104 L104 X104 hQ104
    obtain ⟨rfl, N104q, e104⟩ := hQ104
    have N104 := Fr.app N103 N104q
    refine Go.icmpYes X104 hx (hb hby d7_43) (Jvm.Free.XT.ii_lt_t hr) (q := 48) (by decide) (by decide) ?_
    refine Go.aloadN X104 hx (hb hby d7_48) rfl rfl (q := 49) rfl ?_
    refine Go.iload X104 hx (hb hby d7_49) rfl (q := 51) rfl ?_
    refine Go.face X104 hx hZ hown (wd110 hw) (wd111 hw) (wd112 hw) (wd113 hw) (wd114 hw) (wd115 hw) (wd116 hw) (wd38 hw) (wd7 hw) (wd117 hw) (by decide) (cget l Z a0 hw li ((own_tb3 x0 x1 x2 t)) a kk d (kd) (us) h0 O0 El Fsz Fed Vd hr0 hr10 hg hr) e104 El (by rw [hml]; rfl) (hb hby d7_51) (argsL := [(.int (own_tb3 x0 x1 x2 t))]) (rest := []) (lenOf pd6 rfl) rfl rfl (W := 0) (Nat.le_refl _) (by decide) ?_
    intro v105 T105 L105 X105 hQ105
    obtain ⟨rfl, N105q, e105⟩ := hQ105
    have N105 := Fr.app N104 N105q
    refine Go.castY X105 hx hZ hown (wd131 hw) e105 (Ins.self Ea) (hb hby d7_56) (q := 59) rfl ?_
    intro T106 X106 e106
    refine Go.astore X106 hx (hb hby d7_59) rfl (l' := #[.val (.ref li), .val (.ref b), .val (.int 3), .val (.int t), .val (.int (own_tb3 x0 x1 x2 t)), .val (.int (((3 : Int32) - (own_lt3 x0 x1 x2 t)) - (1 : Int32))), .val (.ref a)]) rfl (q := 61) rfl ?_
    refine Go.aload X106 hx (hb hby d7_61) rfl rfl (q := 63) rfl ?_
    refine Go.ifnullNo X106 hx (hb hby d7_63) (q := 66) rfl ?_
    refine Go.iload X106 hx (hb hby d7_66) rfl (q := 68) rfl ?_
    refine Go.aload X106 hx (hb hby d7_68) rfl rfl (q := 70) rfl ?_
    refine Go.alen X106 hx hZ e106 Va (hb hby d7_70) ?_
    refine Go.icmpYes X106 hx (hb hby d7_71) (Jvm.Free.XT.ii_lt_t ho1) (q := 76) (by decide) (by decide) ?_
    refine Go.aload X106 hx (hb hby d7_76) rfl rfl (q := 78) rfl ?_
    refine Go.iload X106 hx (hb hby d7_78) rfl (q := 80) rfl ?_
    refine Go.bal X106 hx hZ e106 Va ⟨ho0, ho1⟩ (v := (.int x3)) hgx (hb hby d7_80) ?_
    refine Go.aloadN X106 hx (hb hby d7_81) rfl rfl (q := 82) rfl ?_
    refine Go.iloadN X106 hx (hb hby d7_82) rfl (q := 83) rfl ?_
    refine Go.bal X106 hx hZ e106 Vb ⟨by decide, hj3⟩ (v := (.int x3)) rfl (hb hby d7_83) ?_
    refine Go.icmpNo X106 hx (hb hby d7_84) (Jvm.Free.XT.ii_ne_f rfl) (q := 87) rfl ?_
    refine Go.iconst X106 hx (hb hby d7_87) (r := (1 : Int32)) rfl (q := 88) rfl ?_
    refine Go.goto X106 hx (hb hby d7_88) (q := 92) (by decide) (by decide) ?_
    exact Go.retI X106 hx hret hlk (by simp) rfl (hb hby d7_92) e106 (by decide) (by decide) ⟨rfl, N105, rfl⟩
def Q_clenof (Z : State) (li : Addr) (kk jj q : Int32) (h0 : Heap) (vR : Option Value) (hR : Heap) (LR : List Loc) : Prop := vR = some (.int q) ∧ Fr Z.heap.size LR ∧ hR = h0
theorem clenof (l : Launch) (Z : State) (a0 : Array Value) (hw : ∀ d ∈ tables_1, d.before a0 Z = true) (li : Addr) (kk jj q : Int32) (h0 : Heap) (O0 : Ext Z.heap h0) (El : Exa Z h0 li xS0) (Fsz : Fld Z h0 li xS0 "size" "I" (.int kk)) (hln : LENP Z h0 li kk jj q) :
    Ctr l Z h0 (⟨xS4, "lenOf", "(Ljava/util/List;I)I"⟩ : MethodName) k8 3 (some .int) [] ({ frames := 3, cells := 0, slots := 0, locals := 40 } : Room) #[(.ref li), (.int jj)] (Q_clenof Z li kk jj q h0) := by
  refine enter (plainFor_of_name pn6) ?_
  intro pp ee ss mm below meth cc s₁ hx hby hml hZ hown hnm hret hlk X0 e0 hs0
  replace hown : ss.vm.findClass xS4 = some mm.cls := hown
  refine Go.cast (congrArg s₁.setTop (ef_clenof mm li jj)) ?_
  have N0 := Fr.nil Z.heap.size
  show Go pp ee below _ (s₁.setTop (mkF mm 0 #[.val (.ref li), .val (.int jj), .unset] []))
  rcases hln with ⟨hr, rfl⟩ | ⟨hr, vs, d, a, kd, ka, us, Fed, Vd, hg, hr0, hr10, Ea, Va⟩
  · show Go pp ee below _ (s₁.setTop (mkF mm 0 #[.val (.ref li), .val (.int jj), .unset] []))
    refine Go.iloadN X0 hx (hb hby d8_0) rfl (q := 1) rfl ?_
    refine Go.aloadN X0 hx (hb hby d8_1) rfl rfl (q := 2) rfl ?_
    refine Go.face X0 hx hZ hown (wd31 hw) (wd32 hw) (wd33 hw) (wd34 hw) (wd35 hw) (wd36 hw) (wd37 hw) (wd38 hw) (wd7 hw) (wd39 hw) (by decide) (csize l Z a0 hw li kk h0 O0 Fsz) e0 El (by rw [hml]; rfl) (hb hby d8_2) (argsL := []) (rest := [(.int jj)]) (lenOf pd11 rfl) rfl rfl (W := 1) (Nat.le_refl _) (by decide) ?_
    intro v101 T101 L101 X101 hQ101
    obtain ⟨rfl, N101q, e101⟩ := hQ101
    have N101 := Fr.app N0 N101q
    refine Go.icmpNo X101 hx (hb hby d8_7) (Jvm.Free.XT.ii_lt_f hr) (q := 10) rfl ?_
    refine Go.iconst X101 hx (hb hby d8_10) (r := (0 : Int32)) rfl (q := 11) rfl ?_
    exact Go.retI X101 hx hret hlk (Or.inl rfl) rfl (hb hby d8_11) e101 (by decide) (by decide) ⟨rfl, N101, rfl⟩
  · show Go pp ee below _ (s₁.setTop (mkF mm 0 #[.val (.ref li), .val (.int jj), .unset] []))
    refine Go.iloadN X0 hx (hb hby d8_0) rfl (q := 1) rfl ?_
    refine Go.aloadN X0 hx (hb hby d8_1) rfl rfl (q := 2) rfl ?_
    refine Go.face X0 hx hZ hown (wd31 hw) (wd32 hw) (wd33 hw) (wd34 hw) (wd35 hw) (wd36 hw) (wd37 hw) (wd38 hw) (wd7 hw) (wd39 hw) (by decide) (csize l Z a0 hw li kk h0 O0 Fsz) e0 El (by rw [hml]; rfl) (hb hby d8_2) (argsL := []) (rest := [(.int jj)]) (lenOf pd11 rfl) rfl rfl (W := 1) (Nat.le_refl _) (by decide) ?_
    intro v102 T102 L102 X102 hQ102
    obtain ⟨rfl, N102q, e102⟩ := hQ102
    have N102 := Fr.app N0 N102q
    refine Go.icmpYes X102 hx (hb hby d8_7) (Jvm.Free.XT.ii_lt_t hr) (q := 12) (by decide) (by decide) ?_
    refine Go.aloadN X102 hx (hb hby d8_12) rfl rfl (q := 13) rfl ?_
    refine Go.iloadN X102 hx (hb hby d8_13) rfl (q := 14) rfl ?_
    refine Go.face X102 hx hZ hown (wd110 hw) (wd111 hw) (wd112 hw) (wd113 hw) (wd114 hw) (wd115 hw) (wd116 hw) (wd38 hw) (wd7 hw) (wd117 hw) (by decide) (cget l Z a0 hw li jj a kk d (kd) (us) h0 O0 El Fsz Fed Vd hr0 hr10 hg hr) e102 El (by rw [hml]; rfl) (hb hby d8_14) (argsL := [(.int jj)]) (rest := []) (lenOf pd6 rfl) rfl rfl (W := 0) (Nat.le_refl _) (by decide) ?_
    intro v103 T103 L103 X103 hQ103
    obtain ⟨rfl, N103q, e103⟩ := hQ103
    have N103 := Fr.app N102 N103q
    refine Go.castY X103 hx hZ hown (wd131 hw) e103 (Ins.self Ea) (hb hby d8_19) (q := 22) rfl ?_
    intro T104 X104 e104
    refine Go.astoreN X104 hx (hb hby d8_22) rfl (l' := #[.val (.ref li), .val (.int jj), .val (.ref a)]) rfl (q := 23) rfl ?_
    refine Go.aloadN X104 hx (hb hby d8_23) rfl rfl (q := 24) rfl ?_
    refine Go.ifnonnullYes X104 hx (hb hby d8_24) (q := 30) (by decide) (by decide) ?_
    refine Go.aloadN X104 hx (hb hby d8_30) rfl rfl (q := 31) rfl ?_
    refine Go.alen X104 hx hZ e104 Va (hb hby d8_31) ?_
    exact Go.retI X104 hx hret hlk (Or.inl rfl) rfl (hb hby d8_32) e104 (by decide) (by decide) ⟨rfl, N103, rfl⟩
def Q_crec_0 (Z : State) (b : Addr) (x0 x1 x2 x3 : Int32) (kb : ClassId) (t : Int32) (de : Addr) (h0 : Heap) (vR : Option Value) (hR : Heap) (LR : List Loc) : Prop := ∃ li : Addr, ∃ kk : Int32, ∃ q0 : Int32, ∃ q1 : Int32, ∃ q2 : Int32, ∃ q3 : Int32, vR = some (.ref li) ∧ Fr Z.heap.size LR ∧ Keep h0 hR [] ∧ h0.size ≤ li ∧ Exa Z hR li xS0 ∧ Fld Z hR li xS0 "size" "I" (.int kk) ∧ kk = (0 : Int32) ∧ (((q0 + q1) + q2) + q3) = (0 : Int32) ∧ LENP Z hR li kk (0 : Int32) q0 ∧ LENP Z hR li kk (1 : Int32) q1 ∧ LENP Z hR li kk (2 : Int32) q2 ∧ LENP Z hR li kk (3 : Int32) q3
theorem crec_0 (l : Launch) (Z : State) (a0 : Array Value) (hw : ∀ d ∈ tables_1, d.before a0 Z = true) (b : Addr) (x0 x1 x2 x3 : Int32) (kb : ClassId) (t : Int32) (de : Addr) (h0 : Heap) (O0 : Ext Z.heap h0) (Eb : Exa Z h0 b "[B") (Vb : Arv Z h0 b kb .byte (0 : Int32) [(.int x0), (.int x1), (.int x2), (.int x3)] (.int 0)) (SD : Sta Z Z.heap xS0 "DEFAULTCAPACITY_EMPTY_ELEMENTDATA" xS3 (.ref de)) (LD : Lng Z Z.heap de (0 : Int32)) :
    Ctr l Z h0 (⟨"com/example/cronopoly/cronopoly/cli/Utf8", "records", "([BB)Ljava/util/List;"⟩ : MethodName) k1 5 (some (.object "java/util/List")) [] ({ frames := 4, cells := 1, slots := 3, locals := 49 } : Room) #[(.ref b), (.int t)] (Q_crec_0 Z b x0 x1 x2 x3 kb t de h0) := by
  refine enter (plainFor_of_name pn7) ?_
  intro pp ee ss mm below meth cc s₁ hx hby hml hZ hown hnm hret hlk X0 e0 hs0
  replace hown : ss.vm.findClass "com/example/cronopoly/cronopoly/cli/Utf8" = some mm.cls := hown
  refine Go.cast (congrArg s₁.setTop (ef_crec_0 mm b t)) ?_
  have N0 := Fr.nil Z.heap.size
  have KP := Keep.refl h0 []
  show Go pp ee below _ (s₁.setTop (mkF mm 0 #[.val (.ref b), .val (.int t), .unset, .unset, .unset] []))
  refine Go.newO X0 hx hZ hown (wd5 hw) (wd6 hw) (wd7 hw) e0 (hb hby d1_0) (by decide) (by decide) (q := 3) rfl ?_
  intro b101 T101 h101 X101 e101 q101 E101 A101 D101 U101
  have ne_b_b101 : b ≠ b101 := ne_new Eb.lt (Nat.le_of_eq q101)
  have g_b101 : Z.heap.size ≤ b101 := Nat.le_trans O0.1 (Nat.le_of_eq q101)
  have z_b101 : h0.size ≤ b101 := Nat.le_trans KP.1 (Nat.le_of_eq q101)
  replace Eb := Eb.ext E101
  replace Vb := Vb.ext E101
  have OE101 := ext_trans O0 E101
  replace KP := KP.ext E101
  have F101_modCount : Fld Z h101 b101 xS5 "modCount" "I" (.int 0) := D101 (Or.inl (wd27 hw)) (ty := .int) (by decide)
  have F101_elementData : Fld Z h101 b101 xS0 "elementData" xS3 .null := D101 (Or.inl (wd30 hw)) (ty := (.array (.object xS2))) (by decide)
  have F101_size : Fld Z h101 b101 xS0 "size" "I" (.int 0) := D101 (Or.inl (wd41 hw)) (ty := .int) (by decide)
  clear D101
  refine Go.dup X101 hx (hb hby d1_3) rfl (q := 4) rfl ?_
  refine Go.init X101 hx hZ hown rfl (wd8 hw) (wd9 hw) (wd7 hw) (wd10 hw) (by decide) (cali l Z a0 hw b101 de h101 OE101 A101 g_b101 F101_elementData F101_size F101_modCount SD) e101 (by rw [hml]; rfl) (hb hby d1_4) (argsL := []) (rest := [(.ref b101)]) (lenOf pd0 rfl) rfl rfl (W := 1) (Nat.le_refl _) (by decide) ?_
  intro v102 T102 L102 X102 hQ102
  obtain ⟨h102, e102⟩ : ∃ z, T102.heap = z := ⟨_, rfl⟩
  rw [e102] at hQ102
  obtain ⟨rfl, N102q, K102, P102_0, P102_1, P102_2⟩ := hQ102
  have N102 := Fr.app N0 N102q
  replace Eb := Eb.keep K102
  replace Vb := Vb.keep K102 (ninS ne_b_b101 nin0)
  replace A101 := A101.keep K102
  have OK102 := ext_keep OE101 K102 (allS g_b101 all0)
  replace KP := KP.trans K102 (allS (Or.inr z_b101) all0)
  refine Go.astoreN X102 hx (hb hby d1_7) rfl (l' := #[.val (.ref b), .val (.int t), .val (.ref b101), .unset, .unset]) rfl (q := 8) rfl ?_
  refine Go.iconst X102 hx (hb hby d1_8) (r := (0 : Int32)) rfl (q := 9) rfl ?_
  refine Go.istoreN X102 hx (hb hby d1_9) (l' := #[.val (.ref b), .val (.int t), .val (.ref b101), .val (.int 0), .unset]) rfl (q := 10) rfl ?_
  refine Go.iloadN X102 hx (hb hby d1_10) rfl (q := 11) rfl ?_
  refine Go.aloadN X102 hx (hb hby d1_11) rfl rfl (q := 12) rfl ?_
  refine Go.alen X102 hx hZ e102 Vb (hb hby d1_12) ?_
  refine Go.icmpYes X102 hx (hb hby d1_13) (by decide) (q := 62) (by decide) (by decide) ?_
  refine Go.aloadN X102 hx (hb hby d1_62) rfl rfl (q := 63) rfl ?_
  exact Go.retA X102 hx hret hlk rfl rfl (hb hby d1_63) e102 (by decide) (by decide) ⟨b101, (0 : Int32), (0 : Int32), (0 : Int32), (0 : Int32), (0 : Int32), rfl, N102, KP, z_b101, A101, P102_1, rfl, (by decide), Or.inl ⟨by decide, rfl⟩, Or.inl ⟨by decide, rfl⟩, Or.inl ⟨by decide, rfl⟩, Or.inl ⟨by decide, rfl⟩⟩
def Q_crec_1 (Z : State) (b : Addr) (x0 x1 x2 x3 : Int32) (kb : ClassId) (t : Int32) (de : Addr) (h0 : Heap) (vR : Option Value) (hR : Heap) (LR : List Loc) : Prop := ∃ li : Addr, ∃ kk : Int32, ∃ q0 : Int32, ∃ q1 : Int32, ∃ q2 : Int32, ∃ q3 : Int32, vR = some (.ref li) ∧ Fr Z.heap.size LR ∧ Keep h0 hR [] ∧ h0.size ≤ li ∧ Exa Z hR li xS0 ∧ Fld Z hR li xS0 "size" "I" (.int kk) ∧ ((x0 = t → kk = ((own_tb1 x0 t) + (0 : Int32))) ∧ (¬ (x0 = t) → kk = ((own_tb1 x0 t) + (1 : Int32)))) ∧ (((q0 + q1) + q2) + q3) = ((1 : Int32) - (own_tb1 x0 t)) ∧ LENP Z hR li kk (0 : Int32) q0 ∧ LENP Z hR li kk (1 : Int32) q1 ∧ LENP Z hR li kk (2 : Int32) q2 ∧ LENP Z hR li kk (3 : Int32) q3 ∧ (x0 = t ∨ OKI Z hR li kk (0 : Int32) (0 : Int32) x0)
theorem crec_1 (l : Launch) (Z : State) (a0 : Array Value) (hw : ∀ d ∈ tables_1, d.before a0 Z = true) (b : Addr) (x0 x1 x2 x3 : Int32) (kb : ClassId) (t : Int32) (de : Addr) (h0 : Heap) (O0 : Ext Z.heap h0) (Eb : Exa Z h0 b "[B") (Vb : Arv Z h0 b kb .byte (1 : Int32) [(.int x0), (.int x1), (.int x2), (.int x3)] (.int 0)) (SD : Sta Z Z.heap xS0 "DEFAULTCAPACITY_EMPTY_ELEMENTDATA" xS3 (.ref de)) (LD : Lng Z Z.heap de (0 : Int32)) :
    Ctr l Z h0 (⟨"com/example/cronopoly/cronopoly/cli/Utf8", "records", "([BB)Ljava/util/List;"⟩ : MethodName) k1 5 (some (.object "java/util/List")) [] ({ frames := 5, cells := 3, slots := 14, locals := 69 } : Room) #[(.ref b), (.int t)] (Q_crec_1 Z b x0 x1 x2 x3 kb t de h0) := by
  refine enter (plainFor_of_name pn7) ?_
  intro pp ee ss mm below meth cc s₁ hx hby hml hZ hown hnm hret hlk X0 e0 hs0
  replace hown : ss.vm.findClass "com/example/cronopoly/cronopoly/cli/Utf8" = some mm.cls := hown
  refine Go.cast (congrArg s₁.setTop (ef_crec_1 mm b t)) ?_
  have N0 := Fr.nil Z.heap.size
  have KP := Keep.refl h0 []
  show Go pp ee below _ (s₁.setTop (mkF mm 0 #[.val (.ref b), .val (.int t), .unset, .unset, .unset] []))
  refine Go.newO X0 hx hZ hown (wd5 hw) (wd6 hw) (wd7 hw) e0 (hb hby d1_0) (by decide) (by decide) (q := 3) rfl ?_
  intro b101 T101 h101 X101 e101 q101 E101 A101 D101 U101
  have ne_b_b101 : b ≠ b101 := ne_new Eb.lt (Nat.le_of_eq q101)
  have g_b101 : Z.heap.size ≤ b101 := Nat.le_trans O0.1 (Nat.le_of_eq q101)
  have z_b101 : h0.size ≤ b101 := Nat.le_trans KP.1 (Nat.le_of_eq q101)
  replace Eb := Eb.ext E101
  replace Vb := Vb.ext E101
  have OE101 := ext_trans O0 E101
  replace KP := KP.ext E101
  have F101_modCount : Fld Z h101 b101 xS5 "modCount" "I" (.int 0) := D101 (Or.inl (wd27 hw)) (ty := .int) (by decide)
  have F101_elementData : Fld Z h101 b101 xS0 "elementData" xS3 .null := D101 (Or.inl (wd30 hw)) (ty := (.array (.object xS2))) (by decide)
  have F101_size : Fld Z h101 b101 xS0 "size" "I" (.int 0) := D101 (Or.inl (wd41 hw)) (ty := .int) (by decide)
  clear D101
  refine Go.dup X101 hx (hb hby d1_3) rfl (q := 4) rfl ?_
  refine Go.init X101 hx hZ hown rfl (wd8 hw) (wd9 hw) (wd7 hw) (wd10 hw) (by decide) (cali l Z a0 hw b101 de h101 OE101 A101 g_b101 F101_elementData F101_size F101_modCount SD) e101 (by rw [hml]; rfl) (hb hby d1_4) (argsL := []) (rest := [(.ref b101)]) (lenOf pd0 rfl) rfl rfl (W := 1) (Nat.le_refl _) (by decide) ?_
  intro v102 T102 L102 X102 hQ102
  obtain ⟨h102, e102⟩ : ∃ z, T102.heap = z := ⟨_, rfl⟩
  rw [e102] at hQ102
  obtain ⟨rfl, N102q, K102, P102_0, P102_1, P102_2⟩ := hQ102
  have N102 := Fr.app N0 N102q
  replace Eb := Eb.keep K102
  replace Vb := Vb.keep K102 (ninS ne_b_b101 nin0)
  replace A101 := A101.keep K102
  have OK102 := ext_keep OE101 K102 (allS g_b101 all0)
  replace KP := KP.trans K102 (allS (Or.inr z_b101) all0)
  refine Go.astoreN X102 hx (hb hby d1_7) rfl (l' := #[.val (.ref b), .val (.int t), .val (.ref b101), .unset, .unset]) rfl (q := 8) rfl ?_
  refine Go.iconst X102 hx (hb hby d1_8) (r := (0 : Int32)) rfl (q := 9) rfl ?_
  refine Go.istoreN X102 hx (hb hby d1_9) (l' := #[.val (.ref b), .val (.int t), .val (.ref b101), .val (.int 0), .unset]) rfl (q := 10) rfl ?_
  refine Go.iloadN X102 hx (hb hby d1_10) rfl (q := 11) rfl ?_
  refine Go.aloadN X102 hx (hb hby d1_11) rfl rfl (q := 12) rfl ?_
  refine Go.alen X102 hx hZ e102 Vb (hb hby d1_12) ?_
  refine Go.icmpNo X102 hx (hb hby d1_13) (by decide) (q := 16) rfl ?_
  refine Go.iloadN X102 hx (hb hby d1_16) rfl (q := 17) rfl ?_
  refine Go.istore X102 hx (hb hby d1_17) (l' := #[.val (.ref b), .val (.int t), .val (.ref b101), .val (.int 0), .val (.int 0)]) rfl (q := 19) rfl ?_
  refine Go.iload X102 hx (hb hby d1_19) rfl (q := 21) rfl ?_
  refine Go.aloadN X102 hx (hb hby d1_21) rfl rfl (q := 22) rfl ?_
  refine Go.alen X102 hx hZ e102 Vb (hb hby d1_22) ?_
  refine Go.icmpNo X102 hx (hb hby d1_23) (by decide) (q := 26) rfl ?_
  refine Go.aloadN X102 hx (hb hby d1_26) rfl rfl (q := 27) rfl ?_
  refine Go.iload X102 hx (hb hby d1_27) rfl (q := 29) rfl ?_
  refine Go.bal X102 hx hZ e102 Vb ⟨by decide, by decide⟩ (v := (.int x0)) rfl (hb hby d1_29) ?_
  refine Go.iloadN X102 hx (hb hby d1_30) rfl (q := 31) rfl ?_
  by_cases hc103 : x0 = t
  · refine Go.icmpYes X102 hx (hb hby d1_31) (Jvm.Free.XT.ii_eq_t hc103) (q := 40) (by decide) (by decide) ?_
    refine Go.aloadN X102 hx (hb hby d1_40) rfl rfl (q := 41) rfl ?_
    refine Go.aloadN X102 hx (hb hby d1_41) rfl rfl (q := 42) rfl ?_
    refine Go.iloadN X102 hx (hb hby d1_42) rfl (q := 43) rfl ?_
    refine Go.iload X102 hx (hb hby d1_43) rfl (q := 45) rfl ?_
    refine Go.callS X102 hx hZ hown (wd55 hw) (wd56 hw) (wd57 hw) (wd58 hw) (by decide) (ccr_0_0 l Z a0 hw b x0 x1 x2 x3 (kb) ((1 : Int32)) h102 OK102 Vb (by decide) (by decide) (by decide)) e102 (by rw [hml]; rfl) (hb hby d1_45) (argsL := [(.ref b), (.int 0), (.int 0)]) (rest := [(.ref b101)]) (lenOf pd8 rfl) rfl rfl (W := 1) (Nat.le_refl _) (by decide) ?_
    intro v104 T104 L104 X104 hQ104
    obtain ⟨h104, e104⟩ : ∃ z, T104.heap = z := ⟨_, rfl⟩
    rw [e104] at hQ104
    obtain ⟨b2_104, kc_104, rfl, N104q, K104, fr104_b2, P104_0, P104_1⟩ := hQ104
    have N104 := Fr.app N102 N104q
    have ne_b_b2_104 : b ≠ b2_104 := ne_new Eb.lt fr104_b2
    have ne_b101_b2_104 : b101 ≠ b2_104 := ne_new A101.lt fr104_b2
    have g_b2_104 : Z.heap.size ≤ b2_104 := Nat.le_trans OK102.1 fr104_b2
    have z_b2_104 : h0.size ≤ b2_104 := Nat.le_trans KP.1 fr104_b2
    replace Eb := Eb.keep K104
    replace Vb := Vb.keep K104 nin0
    replace A101 := A101.keep K104
    replace P102_0 := P102_0.keep K104 nin0
    replace P102_1 := P102_1.keep K104 nin0
    replace P102_2 := P102_2.keep K104 nin0
    have OK104 := ext_keep OK102 K104 all0
    replace KP := KP.trans K104 all0
    refine Go.face X104 hx hZ hown (wd73 hw) (wd74 hw) (wd75 hw) (wd76 hw) (wd77 hw) (wd78 hw) (wd79 hw) (wd38 hw) (wd7 hw) (wd80 hw) (by decide) (cadd_0 l Z a0 hw b101 b2_104 de ((0 : Int32)) h104 OK104 A101 g_b101 P102_0 P102_1 P102_2 P104_0 SD LD) e104 A101 (by rw [hml]; rfl) (hb hby d1_48) (argsL := [(.ref b2_104)]) (rest := []) (lenOf pd12 rfl) rfl rfl (W := 0) (Nat.le_refl _) (by decide) ?_
    intro v105 T105 L105 X105 hQ105
    obtain ⟨h105, e105⟩ : ∃ z, T105.heap = z := ⟨_, rfl⟩
    rw [e105] at hQ105
    obtain ⟨d_105, kd_105, rfl, N105q, K105, fr105_d, P105_0, P105_1, P105_2, P105_3, P105_4⟩ := hQ105
    have N105 := Fr.app N104 N105q
    have ne_b_d_105 : b ≠ d_105 := ne_new Eb.lt fr105_d
    have ne_b101_d_105 : b101 ≠ d_105 := ne_new A101.lt fr105_d
    have ne_b2_104_d_105 : b2_104 ≠ d_105 := ne_new P104_0.lt fr105_d
    have g_d_105 : Z.heap.size ≤ d_105 := Nat.le_trans OK104.1 fr105_d
    have z_d_105 : h0.size ≤ d_105 := Nat.le_trans KP.1 fr105_d
    replace Eb := Eb.keep K105
    replace Vb := Vb.keep K105 (ninS ne_b_b101 nin0)
    replace A101 := A101.keep K105
    replace P104_0 := P104_0.keep K105
    replace P104_1 := P104_1.keep K105 (ninS (Ne.symm ne_b101_b2_104) nin0)
    have OK105 := ext_keep OK104 K105 (allS g_b101 all0)
    replace KP := KP.trans K105 (allS (Or.inr z_b101) all0)
    refine Go.pop X105 hx (hb hby d1_53) rfl (q := 54) rfl ?_
    refine Go.iload X105 hx (hb hby d1_54) rfl (q := 56) rfl ?_
    refine Go.iconst X105 hx (hb hby d1_56) (r := (1 : Int32)) rfl (q := 57) rfl ?_
    refine Go.iadd X105 hx (hb hby d1_57) (r := (1 : Int32)) rfl (q := 58) rfl ?_
    refine Go.istoreN X105 hx (hb hby d1_58) (l' := #[.val (.ref b), .val (.int t), .val (.ref b101), .val (.int 1), .val (.int 0)]) rfl (q := 59) rfl ?_
    refine Go.goto X105 hx (hb hby d1_59) (q := 10) (by decide) (by decide) ?_
    refine Go.iloadN X105 hx (hb hby d1_10) rfl (q := 11) rfl ?_
    refine Go.aloadN X105 hx (hb hby d1_11) rfl rfl (q := 12) rfl ?_
    refine Go.alen X105 hx hZ e105 Vb (hb hby d1_12) ?_
    refine Go.icmpYes X105 hx (hb hby d1_13) (by decide) (q := 62) (by decide) (by decide) ?_
    refine Go.aloadN X105 hx (hb hby d1_62) rfl rfl (q := 63) rfl ?_
    have e106_0 := own_isT hc103
    exact Go.retA X105 hx hret hlk rfl rfl (hb hby d1_63) e105 (by decide) (by decide) ⟨b101, (1 : Int32), (0 : Int32), (0 : Int32), (0 : Int32), (0 : Int32), rfl, N105, KP, z_b101, A101, P105_1, ⟨fun _ => by rw [own_tb1, e106_0] <;> rfl, fun q => absurd hc103 q⟩, by rw [own_tb1, e106_0] <;> rfl, Or.inr ⟨by decide, _, ⟨d_105, b2_104, _, _, _, P105_0, P105_3, rfl, by decide, by decide, P104_0, P104_1⟩⟩, Or.inl ⟨by decide, rfl⟩, Or.inl ⟨by decide, rfl⟩, Or.inl ⟨by decide, rfl⟩, Or.inl hc103⟩
  · refine Go.icmpNo X102 hx (hb hby d1_31) (Jvm.Free.XT.ii_eq_f hc103) (q := 34) rfl ?_
    refine Go.iinc X102 hx (hb hby d1_34) rfl (r := (1 : Int32)) rfl (l' := #[.val (.ref b), .val (.int t), .val (.ref b101), .val (.int 0), .val (.int 1)]) rfl (q := 37) rfl ?_
    refine Go.goto X102 hx (hb hby d1_37) (q := 19) (by decide) (by decide) ?_
    refine Go.iload X102 hx (hb hby d1_19) rfl (q := 21) rfl ?_
    refine Go.aloadN X102 hx (hb hby d1_21) rfl rfl (q := 22) rfl ?_
    refine Go.alen X102 hx hZ e102 Vb (hb hby d1_22) ?_
    refine Go.icmpYes X102 hx (hb hby d1_23) (by decide) (q := 40) (by decide) (by decide) ?_
    refine Go.aloadN X102 hx (hb hby d1_40) rfl rfl (q := 41) rfl ?_
    refine Go.aloadN X102 hx (hb hby d1_41) rfl rfl (q := 42) rfl ?_
    refine Go.iloadN X102 hx (hb hby d1_42) rfl (q := 43) rfl ?_
    refine Go.iload X102 hx (hb hby d1_43) rfl (q := 45) rfl ?_
    refine Go.callS X102 hx hZ hown (wd55 hw) (wd56 hw) (wd57 hw) (wd58 hw) (by decide) (ccl_1 l Z a0 hw b x0 x1 x2 x3 (kb) h102 OK102 Eb Vb) e102 (by rw [hml]; rfl) (hb hby d1_45) (argsL := [(.ref b), (.int 0), (.int 1)]) (rest := [(.ref b101)]) (lenOf pd8 rfl) rfl rfl (W := 1) (Nat.le_refl _) (by decide) ?_
    intro v107 T107 L107 X107 hQ107
    obtain ⟨h107, e107⟩ : ∃ z, T107.heap = z := ⟨_, rfl⟩
    rw [e107] at hQ107
    obtain ⟨b2_107, kc_107, rfl, N107q, K107, fr107_b2, P107_0, P107_1⟩ := hQ107
    have N107 := Fr.app N102 N107q
    have ne_b_b2_107 : b ≠ b2_107 := ne_new Eb.lt fr107_b2
    have ne_b101_b2_107 : b101 ≠ b2_107 := ne_new A101.lt fr107_b2
    have g_b2_107 : Z.heap.size ≤ b2_107 := Nat.le_trans OK102.1 fr107_b2
    have z_b2_107 : h0.size ≤ b2_107 := Nat.le_trans KP.1 fr107_b2
    replace Eb := Eb.keep K107
    replace Vb := Vb.keep K107 nin0
    replace A101 := A101.keep K107
    replace P102_0 := P102_0.keep K107 nin0
    replace P102_1 := P102_1.keep K107 nin0
    replace P102_2 := P102_2.keep K107 nin0
    have OK107 := ext_keep OK102 K107 all0
    replace KP := KP.trans K107 all0
    refine Go.face X107 hx hZ hown (wd73 hw) (wd74 hw) (wd75 hw) (wd76 hw) (wd77 hw) (wd78 hw) (wd79 hw) (wd38 hw) (wd7 hw) (wd80 hw) (by decide) (cadd_0 l Z a0 hw b101 b2_107 de ((0 : Int32)) h107 OK107 A101 g_b101 P102_0 P102_1 P102_2 P107_0 SD LD) e107 A101 (by rw [hml]; rfl) (hb hby d1_48) (argsL := [(.ref b2_107)]) (rest := []) (lenOf pd12 rfl) rfl rfl (W := 0) (Nat.le_refl _) (by decide) ?_
    intro v108 T108 L108 X108 hQ108
    obtain ⟨h108, e108⟩ : ∃ z, T108.heap = z := ⟨_, rfl⟩
    rw [e108] at hQ108
    obtain ⟨d_108, kd_108, rfl, N108q, K108, fr108_d, P108_0, P108_1, P108_2, P108_3, P108_4⟩ := hQ108
    have N108 := Fr.app N107 N108q
    have ne_b_d_108 : b ≠ d_108 := ne_new Eb.lt fr108_d
    have ne_b101_d_108 : b101 ≠ d_108 := ne_new A101.lt fr108_d
    have ne_b2_107_d_108 : b2_107 ≠ d_108 := ne_new P107_0.lt fr108_d
    have g_d_108 : Z.heap.size ≤ d_108 := Nat.le_trans OK107.1 fr108_d
    have z_d_108 : h0.size ≤ d_108 := Nat.le_trans KP.1 fr108_d
    replace Eb := Eb.keep K108
    replace Vb := Vb.keep K108 (ninS ne_b_b101 nin0)
    replace A101 := A101.keep K108
    replace P107_0 := P107_0.keep K108
    replace P107_1 := P107_1.keep K108 (ninS (Ne.symm ne_b101_b2_107) nin0)
    have OK108 := ext_keep OK107 K108 (allS g_b101 all0)
    replace KP := KP.trans K108 (allS (Or.inr z_b101) all0)
    refine Go.pop X108 hx (hb hby d1_53) rfl (q := 54) rfl ?_
    refine Go.iload X108 hx (hb hby d1_54) rfl (q := 56) rfl ?_
    refine Go.iconst X108 hx (hb hby d1_56) (r := (1 : Int32)) rfl (q := 57) rfl ?_
    refine Go.iadd X108 hx (hb hby d1_57) (r := (2 : Int32)) rfl (q := 58) rfl ?_
    refine Go.istoreN X108 hx (hb hby d1_58) (l' := #[.val (.ref b), .val (.int t), .val (.ref b101), .val (.int 2), .val (.int 1)]) rfl (q := 59) rfl ?_
    refine Go.goto X108 hx (hb hby d1_59) (q := 10) (by decide) (by decide) ?_
    refine Go.iloadN X108 hx (hb hby d1_10) rfl (q := 11) rfl ?_
    refine Go.aloadN X108 hx (hb hby d1_11) rfl rfl (q := 12) rfl ?_
    refine Go.alen X108 hx hZ e108 Vb (hb hby d1_12) ?_
    refine Go.icmpYes X108 hx (hb hby d1_13) (by decide) (q := 62) (by decide) (by decide) ?_
    refine Go.aloadN X108 hx (hb hby d1_62) rfl rfl (q := 63) rfl ?_
    have e109_0 := own_isF hc103
    exact Go.retA X108 hx hret hlk rfl rfl (hb hby d1_63) e108 (by decide) (by decide) ⟨b101, (1 : Int32), (1 : Int32), (0 : Int32), (0 : Int32), (0 : Int32), rfl, N108, KP, z_b101, A101, P108_1, ⟨fun q => absurd q hc103, fun _ => by rw [own_tb1, e109_0] <;> rfl⟩, by rw [own_tb1, e109_0] <;> rfl, Or.inr ⟨by decide, _, ⟨d_108, b2_107, _, _, _, P108_0, P108_3, rfl, by decide, by decide, P107_0, P107_1⟩⟩, Or.inl ⟨by decide, rfl⟩, Or.inl ⟨by decide, rfl⟩, Or.inl ⟨by decide, rfl⟩, Or.inr ⟨by decide, (1 : Int32), _, ⟨d_108, b2_107, _, _, _, P108_0, P108_3, rfl, by decide, by decide, P107_0, P107_1⟩, by decide, by decide, rfl⟩⟩
def Q_crec_2 (Z : State) (b : Addr) (x0 x1 x2 x3 : Int32) (kb : ClassId) (t : Int32) (de : Addr) (h0 : Heap) (vR : Option Value) (hR : Heap) (LR : List Loc) : Prop := ∃ li : Addr, ∃ kk : Int32, ∃ q0 : Int32, ∃ q1 : Int32, ∃ q2 : Int32, ∃ q3 : Int32, vR = some (.ref li) ∧ Fr Z.heap.size LR ∧ Keep h0 hR [] ∧ h0.size ≤ li ∧ Exa Z hR li xS0 ∧ Fld Z hR li xS0 "size" "I" (.int kk) ∧ ((x1 = t → kk = ((own_tb2 x0 x1 t) + (0 : Int32))) ∧ (¬ (x1 = t) → kk = ((own_tb2 x0 x1 t) + (1 : Int32)))) ∧ (((q0 + q1) + q2) + q3) = ((2 : Int32) - (own_tb2 x0 x1 t)) ∧ LENP Z hR li kk (0 : Int32) q0 ∧ LENP Z hR li kk (1 : Int32) q1 ∧ LENP Z hR li kk (2 : Int32) q2 ∧ LENP Z hR li kk (3 : Int32) q3 ∧ (x0 = t ∨ OKI Z hR li kk (0 : Int32) (0 : Int32) x0) ∧ (x1 = t ∨ OKI Z hR li kk (own_tb1 x0 t) (((1 : Int32) - (own_lt1 x0 t)) - (1 : Int32)) x1)
theorem crec_2 (l : Launch) (Z : State) (a0 : Array Value) (hw : ∀ d ∈ tables_1, d.before a0 Z = true) (b : Addr) (x0 x1 x2 x3 : Int32) (kb : ClassId) (t : Int32) (de : Addr) (h0 : Heap) (O0 : Ext Z.heap h0) (Eb : Exa Z h0 b "[B") (Vb : Arv Z h0 b kb .byte (2 : Int32) [(.int x0), (.int x1), (.int x2), (.int x3)] (.int 0)) (SD : Sta Z Z.heap xS0 "DEFAULTCAPACITY_EMPTY_ELEMENTDATA" xS3 (.ref de)) (LD : Lng Z Z.heap de (0 : Int32)) :
    Ctr l Z h0 (⟨"com/example/cronopoly/cronopoly/cli/Utf8", "records", "([BB)Ljava/util/List;"⟩ : MethodName) k1 5 (some (.object "java/util/List")) [] ({ frames := 5, cells := 4, slots := 15, locals := 69 } : Room) #[(.ref b), (.int t)] (Q_crec_2 Z b x0 x1 x2 x3 kb t de h0) := by
  refine enter (plainFor_of_name pn7) ?_
  intro pp ee ss mm below meth cc s₁ hx hby hml hZ hown hnm hret hlk X0 e0 hs0
  replace hown : ss.vm.findClass "com/example/cronopoly/cronopoly/cli/Utf8" = some mm.cls := hown
  refine Go.cast (congrArg s₁.setTop (ef_crec_2 mm b t)) ?_
  have N0 := Fr.nil Z.heap.size
  have KP := Keep.refl h0 []
  show Go pp ee below _ (s₁.setTop (mkF mm 0 #[.val (.ref b), .val (.int t), .unset, .unset, .unset] []))
  refine Go.newO X0 hx hZ hown (wd5 hw) (wd6 hw) (wd7 hw) e0 (hb hby d1_0) (by decide) (by decide) (q := 3) rfl ?_
  intro b101 T101 h101 X101 e101 q101 E101 A101 D101 U101
  have ne_b_b101 : b ≠ b101 := ne_new Eb.lt (Nat.le_of_eq q101)
  have g_b101 : Z.heap.size ≤ b101 := Nat.le_trans O0.1 (Nat.le_of_eq q101)
  have z_b101 : h0.size ≤ b101 := Nat.le_trans KP.1 (Nat.le_of_eq q101)
  replace Eb := Eb.ext E101
  replace Vb := Vb.ext E101
  have OE101 := ext_trans O0 E101
  replace KP := KP.ext E101
  have F101_modCount : Fld Z h101 b101 xS5 "modCount" "I" (.int 0) := D101 (Or.inl (wd27 hw)) (ty := .int) (by decide)
  have F101_elementData : Fld Z h101 b101 xS0 "elementData" xS3 .null := D101 (Or.inl (wd30 hw)) (ty := (.array (.object xS2))) (by decide)
  have F101_size : Fld Z h101 b101 xS0 "size" "I" (.int 0) := D101 (Or.inl (wd41 hw)) (ty := .int) (by decide)
  clear D101
  refine Go.dup X101 hx (hb hby d1_3) rfl (q := 4) rfl ?_
  refine Go.init X101 hx hZ hown rfl (wd8 hw) (wd9 hw) (wd7 hw) (wd10 hw) (by decide) (cali l Z a0 hw b101 de h101 OE101 A101 g_b101 F101_elementData F101_size F101_modCount SD) e101 (by rw [hml]; rfl) (hb hby d1_4) (argsL := []) (rest := [(.ref b101)]) (lenOf pd0 rfl) rfl rfl (W := 1) (Nat.le_refl _) (by decide) ?_
  intro v102 T102 L102 X102 hQ102
  obtain ⟨h102, e102⟩ : ∃ z, T102.heap = z := ⟨_, rfl⟩
  rw [e102] at hQ102
  obtain ⟨rfl, N102q, K102, P102_0, P102_1, P102_2⟩ := hQ102
  have N102 := Fr.app N0 N102q
  replace Eb := Eb.keep K102
  replace Vb := Vb.keep K102 (ninS ne_b_b101 nin0)
  replace A101 := A101.keep K102
  have OK102 := ext_keep OE101 K102 (allS g_b101 all0)
  replace KP := KP.trans K102 (allS (Or.inr z_b101) all0)
  refine Go.astoreN X102 hx (hb hby d1_7) rfl (l' := #[.val (.ref b), .val (.int t), .val (.ref b101), .unset, .unset]) rfl (q := 8) rfl ?_
  refine Go.iconst X102 hx (hb hby d1_8) (r := (0 : Int32)) rfl (q := 9) rfl ?_
  refine Go.istoreN X102 hx (hb hby d1_9) (l' := #[.val (.ref b), .val (.int t), .val (.ref b101), .val (.int 0), .unset]) rfl (q := 10) rfl ?_
  refine Go.iloadN X102 hx (hb hby d1_10) rfl (q := 11) rfl ?_
  refine Go.aloadN X102 hx (hb hby d1_11) rfl rfl (q := 12) rfl ?_
  refine Go.alen X102 hx hZ e102 Vb (hb hby d1_12) ?_
  refine Go.icmpNo X102 hx (hb hby d1_13) (by decide) (q := 16) rfl ?_
  refine Go.iloadN X102 hx (hb hby d1_16) rfl (q := 17) rfl ?_
  refine Go.istore X102 hx (hb hby d1_17) (l' := #[.val (.ref b), .val (.int t), .val (.ref b101), .val (.int 0), .val (.int 0)]) rfl (q := 19) rfl ?_
  refine Go.iload X102 hx (hb hby d1_19) rfl (q := 21) rfl ?_
  refine Go.aloadN X102 hx (hb hby d1_21) rfl rfl (q := 22) rfl ?_
  refine Go.alen X102 hx hZ e102 Vb (hb hby d1_22) ?_
  refine Go.icmpNo X102 hx (hb hby d1_23) (by decide) (q := 26) rfl ?_
  refine Go.aloadN X102 hx (hb hby d1_26) rfl rfl (q := 27) rfl ?_
  refine Go.iload X102 hx (hb hby d1_27) rfl (q := 29) rfl ?_
  refine Go.bal X102 hx hZ e102 Vb ⟨by decide, by decide⟩ (v := (.int x0)) rfl (hb hby d1_29) ?_
  refine Go.iloadN X102 hx (hb hby d1_30) rfl (q := 31) rfl ?_
  by_cases hc103 : x0 = t
  · refine Go.icmpYes X102 hx (hb hby d1_31) (Jvm.Free.XT.ii_eq_t hc103) (q := 40) (by decide) (by decide) ?_
    refine Go.aloadN X102 hx (hb hby d1_40) rfl rfl (q := 41) rfl ?_
    refine Go.aloadN X102 hx (hb hby d1_41) rfl rfl (q := 42) rfl ?_
    refine Go.iloadN X102 hx (hb hby d1_42) rfl (q := 43) rfl ?_
    refine Go.iload X102 hx (hb hby d1_43) rfl (q := 45) rfl ?_
    refine Go.callS X102 hx hZ hown (wd55 hw) (wd56 hw) (wd57 hw) (wd58 hw) (by decide) (ccr_0_0 l Z a0 hw b x0 x1 x2 x3 (kb) ((2 : Int32)) h102 OK102 Vb (by decide) (by decide) (by decide)) e102 (by rw [hml]; rfl) (hb hby d1_45) (argsL := [(.ref b), (.int 0), (.int 0)]) (rest := [(.ref b101)]) (lenOf pd8 rfl) rfl rfl (W := 1) (Nat.le_refl _) (by decide) ?_
    intro v104 T104 L104 X104 hQ104
    obtain ⟨h104, e104⟩ : ∃ z, T104.heap = z := ⟨_, rfl⟩
    rw [e104] at hQ104
    obtain ⟨b2_104, kc_104, rfl, N104q, K104, fr104_b2, P104_0, P104_1⟩ := hQ104
    have N104 := Fr.app N102 N104q
    have ne_b_b2_104 : b ≠ b2_104 := ne_new Eb.lt fr104_b2
    have ne_b101_b2_104 : b101 ≠ b2_104 := ne_new A101.lt fr104_b2
    have g_b2_104 : Z.heap.size ≤ b2_104 := Nat.le_trans OK102.1 fr104_b2
    have z_b2_104 : h0.size ≤ b2_104 := Nat.le_trans KP.1 fr104_b2
    replace Eb := Eb.keep K104
    replace Vb := Vb.keep K104 nin0
    replace A101 := A101.keep K104
    replace P102_0 := P102_0.keep K104 nin0
    replace P102_1 := P102_1.keep K104 nin0
    replace P102_2 := P102_2.keep K104 nin0
    have OK104 := ext_keep OK102 K104 all0
    replace KP := KP.trans K104 all0
    refine Go.face X104 hx hZ hown (wd73 hw) (wd74 hw) (wd75 hw) (wd76 hw) (wd77 hw) (wd78 hw) (wd79 hw) (wd38 hw) (wd7 hw) (wd80 hw) (by decide) (cadd_0 l Z a0 hw b101 b2_104 de ((0 : Int32)) h104 OK104 A101 g_b101 P102_0 P102_1 P102_2 P104_0 SD LD) e104 A101 (by rw [hml]; rfl) (hb hby d1_48) (argsL := [(.ref b2_104)]) (rest := []) (lenOf pd12 rfl) rfl rfl (W := 0) (Nat.le_refl _) (by decide) ?_
    intro v105 T105 L105 X105 hQ105
    obtain ⟨h105, e105⟩ : ∃ z, T105.heap = z := ⟨_, rfl⟩
    rw [e105] at hQ105
    obtain ⟨d_105, kd_105, rfl, N105q, K105, fr105_d, P105_0, P105_1, P105_2, P105_3, P105_4⟩ := hQ105
    have N105 := Fr.app N104 N105q
    have ne_b_d_105 : b ≠ d_105 := ne_new Eb.lt fr105_d
    have ne_b101_d_105 : b101 ≠ d_105 := ne_new A101.lt fr105_d
    have ne_b2_104_d_105 : b2_104 ≠ d_105 := ne_new P104_0.lt fr105_d
    have g_d_105 : Z.heap.size ≤ d_105 := Nat.le_trans OK104.1 fr105_d
    have z_d_105 : h0.size ≤ d_105 := Nat.le_trans KP.1 fr105_d
    replace Eb := Eb.keep K105
    replace Vb := Vb.keep K105 (ninS ne_b_b101 nin0)
    replace A101 := A101.keep K105
    replace P104_0 := P104_0.keep K105
    replace P104_1 := P104_1.keep K105 (ninS (Ne.symm ne_b101_b2_104) nin0)
    have OK105 := ext_keep OK104 K105 (allS g_b101 all0)
    replace KP := KP.trans K105 (allS (Or.inr z_b101) all0)
    refine Go.pop X105 hx (hb hby d1_53) rfl (q := 54) rfl ?_
    refine Go.iload X105 hx (hb hby d1_54) rfl (q := 56) rfl ?_
    refine Go.iconst X105 hx (hb hby d1_56) (r := (1 : Int32)) rfl (q := 57) rfl ?_
    refine Go.iadd X105 hx (hb hby d1_57) (r := (1 : Int32)) rfl (q := 58) rfl ?_
    refine Go.istoreN X105 hx (hb hby d1_58) (l' := #[.val (.ref b), .val (.int t), .val (.ref b101), .val (.int 1), .val (.int 0)]) rfl (q := 59) rfl ?_
    refine Go.goto X105 hx (hb hby d1_59) (q := 10) (by decide) (by decide) ?_
    refine Go.iloadN X105 hx (hb hby d1_10) rfl (q := 11) rfl ?_
    refine Go.aloadN X105 hx (hb hby d1_11) rfl rfl (q := 12) rfl ?_
    refine Go.alen X105 hx hZ e105 Vb (hb hby d1_12) ?_
    refine Go.icmpNo X105 hx (hb hby d1_13) (by decide) (q := 16) rfl ?_
    refine Go.iloadN X105 hx (hb hby d1_16) rfl (q := 17) rfl ?_
    refine Go.istore X105 hx (hb hby d1_17) (l' := #[.val (.ref b), .val (.int t), .val (.ref b101), .val (.int 1), .val (.int 1)]) rfl (q := 19) rfl ?_
    refine Go.iload X105 hx (hb hby d1_19) rfl (q := 21) rfl ?_
    refine Go.aloadN X105 hx (hb hby d1_21) rfl rfl (q := 22) rfl ?_
    refine Go.alen X105 hx hZ e105 Vb (hb hby d1_22) ?_
    refine Go.icmpNo X105 hx (hb hby d1_23) (by decide) (q := 26) rfl ?_
    refine Go.aloadN X105 hx (hb hby d1_26) rfl rfl (q := 27) rfl ?_
    refine Go.iload X105 hx (hb hby d1_27) rfl (q := 29) rfl ?_
    refine Go.bal X105 hx hZ e105 Vb ⟨by decide, by decide⟩ (v := (.int x1)) rfl (hb hby d1_29) ?_
    refine Go.iloadN X105 hx (hb hby d1_30) rfl (q := 31) rfl ?_
    by_cases hc106 : x1 = t
    · refine Go.icmpYes X105 hx (hb hby d1_31) (Jvm.Free.XT.ii_eq_t hc106) (q := 40) (by decide) (by decide) ?_
      refine Go.aloadN X105 hx (hb hby d1_40) rfl rfl (q := 41) rfl ?_
      refine Go.aloadN X105 hx (hb hby d1_41) rfl rfl (q := 42) rfl ?_
      refine Go.iloadN X105 hx (hb hby d1_42) rfl (q := 43) rfl ?_
      refine Go.iload X105 hx (hb hby d1_43) rfl (q := 45) rfl ?_
      refine Go.callS X105 hx hZ hown (wd55 hw) (wd56 hw) (wd57 hw) (wd58 hw) (by decide) (ccr_1_1 l Z a0 hw b x0 x1 x2 x3 (kb) ((2 : Int32)) h105 OK105 Vb (by decide) (by decide)) e105 (by rw [hml]; rfl) (hb hby d1_45) (argsL := [(.ref b), (.int 1), (.int 1)]) (rest := [(.ref b101)]) (lenOf pd8 rfl) rfl rfl (W := 1) (Nat.le_refl _) (by decide) ?_
      intro v107 T107 L107 X107 hQ107
      obtain ⟨h107, e107⟩ : ∃ z, T107.heap = z := ⟨_, rfl⟩
      rw [e107] at hQ107
      obtain ⟨b2_107, kc_107, rfl, N107q, K107, fr107_b2, P107_0, P107_1⟩ := hQ107
      have N107 := Fr.app N105 N107q
      have ne_b_b2_107 : b ≠ b2_107 := ne_new Eb.lt fr107_b2
      have ne_b101_b2_107 : b101 ≠ b2_107 := ne_new A101.lt fr107_b2
      have ne_b2_104_b2_107 : b2_104 ≠ b2_107 := ne_new P104_0.lt fr107_b2
      have ne_d_105_b2_107 : d_105 ≠ b2_107 := ne_new P105_3.lt fr107_b2
      have g_b2_107 : Z.heap.size ≤ b2_107 := Nat.le_trans OK105.1 fr107_b2
      have z_b2_107 : h0.size ≤ b2_107 := Nat.le_trans KP.1 fr107_b2
      replace Eb := Eb.keep K107
      replace Vb := Vb.keep K107 nin0
      replace A101 := A101.keep K107
      replace P104_0 := P104_0.keep K107
      replace P104_1 := P104_1.keep K107 nin0
      replace P105_0 := P105_0.keep K107 nin0
      replace P105_1 := P105_1.keep K107 nin0
      replace P105_2 := P105_2.keep K107 nin0
      replace P105_3 := P105_3.keep K107 nin0
      have OK107 := ext_keep OK105 K107 all0
      replace KP := KP.trans K107 all0
      refine Go.face X107 hx hZ hown (wd73 hw) (wd74 hw) (wd75 hw) (wd76 hw) (wd77 hw) (wd78 hw) (wd79 hw) (wd38 hw) (wd7 hw) (wd80 hw) (by decide) (cadd_1 l Z a0 hw b101 b2_107 d_105 ((1 : Int32)) b2_104 (kd_105) h107 OK107 A101 g_b101 P105_0 P105_1 P105_2 P105_3 P107_0 g_d_105 ne_b101_d_105 P105_4) e107 A101 (by rw [hml]; rfl) (hb hby d1_48) (argsL := [(.ref b2_107)]) (rest := []) (lenOf pd12 rfl) rfl rfl (W := 0) (Nat.le_refl _) (by decide) ?_
      intro v108 T108 L108 X108 hQ108
      obtain ⟨h108, e108⟩ : ∃ z, T108.heap = z := ⟨_, rfl⟩
      rw [e108] at hQ108
      obtain ⟨rfl, N108q, K108, P108_0, P108_1, P108_2, P108_3⟩ := hQ108
      have N108 := Fr.app N107 N108q
      replace Eb := Eb.keep K108
      replace Vb := Vb.keep K108 (ninS ne_b_b101 (ninS ne_b_d_105 nin0))
      replace A101 := A101.keep K108
      replace P104_0 := P104_0.keep K108
      replace P104_1 := P104_1.keep K108 (ninS (Ne.symm ne_b101_b2_104) (ninS ne_b2_104_d_105 nin0))
      replace P107_0 := P107_0.keep K108
      replace P107_1 := P107_1.keep K108 (ninS (Ne.symm ne_b101_b2_107) (ninS (Ne.symm ne_d_105_b2_107) nin0))
      have OK108 := ext_keep OK107 K108 (allS g_b101 (allS g_d_105 all0))
      replace KP := KP.trans K108 (allS (Or.inr z_b101) (allS (Or.inr z_d_105) all0))
      refine Go.pop X108 hx (hb hby d1_53) rfl (q := 54) rfl ?_
      refine Go.iload X108 hx (hb hby d1_54) rfl (q := 56) rfl ?_
      refine Go.iconst X108 hx (hb hby d1_56) (r := (1 : Int32)) rfl (q := 57) rfl ?_
      refine Go.iadd X108 hx (hb hby d1_57) (r := (2 : Int32)) rfl (q := 58) rfl ?_
      refine Go.istoreN X108 hx (hb hby d1_58) (l' := #[.val (.ref b), .val (.int t), .val (.ref b101), .val (.int 2), .val (.int 1)]) rfl (q := 59) rfl ?_
      refine Go.goto X108 hx (hb hby d1_59) (q := 10) (by decide) (by decide) ?_
      refine Go.iloadN X108 hx (hb hby d1_10) rfl (q := 11) rfl ?_
      refine Go.aloadN X108 hx (hb hby d1_11) rfl rfl (q := 12) rfl ?_
      refine Go.alen X108 hx hZ e108 Vb (hb hby d1_12) ?_
      refine Go.icmpYes X108 hx (hb hby d1_13) (by decide) (q := 62) (by decide) (by decide) ?_
      refine Go.aloadN X108 hx (hb hby d1_62) rfl rfl (q := 63) rfl ?_
      have e109_0 := own_isT hc103
      have e109_1 := own_isT hc106
      exact Go.retA X108 hx hret hlk rfl rfl (hb hby d1_63) e108 (by decide) (by decide) ⟨b101, (2 : Int32), (0 : Int32), (0 : Int32), (0 : Int32), (0 : Int32), rfl, N108, KP, z_b101, A101, P108_1, ⟨fun _ => by rw [own_tb2, e109_0, e109_1] <;> rfl, fun q => absurd hc106 q⟩, by rw [own_tb2, e109_0, e109_1] <;> rfl, Or.inr ⟨by decide, _, ⟨d_105, b2_104, _, _, _, P108_0, P108_3, rfl, by decide, by decide, P104_0, P104_1⟩⟩, Or.inr ⟨by decide, _, ⟨d_105, b2_107, _, _, _, P108_0, P108_3, rfl, by decide, by decide, P107_0, P107_1⟩⟩, Or.inl ⟨by decide, rfl⟩, Or.inl ⟨by decide, rfl⟩, Or.inl hc103, Or.inl hc106⟩
    · refine Go.icmpNo X105 hx (hb hby d1_31) (Jvm.Free.XT.ii_eq_f hc106) (q := 34) rfl ?_
      refine Go.iinc X105 hx (hb hby d1_34) rfl (r := (2 : Int32)) rfl (l' := #[.val (.ref b), .val (.int t), .val (.ref b101), .val (.int 1), .val (.int 2)]) rfl (q := 37) rfl ?_
      refine Go.goto X105 hx (hb hby d1_37) (q := 19) (by decide) (by decide) ?_
      refine Go.iload X105 hx (hb hby d1_19) rfl (q := 21) rfl ?_
      refine Go.aloadN X105 hx (hb hby d1_21) rfl rfl (q := 22) rfl ?_
      refine Go.alen X105 hx hZ e105 Vb (hb hby d1_22) ?_
      refine Go.icmpYes X105 hx (hb hby d1_23) (by decide) (q := 40) (by decide) (by decide) ?_
      refine Go.aloadN X105 hx (hb hby d1_40) rfl rfl (q := 41) rfl ?_
      refine Go.aloadN X105 hx (hb hby d1_41) rfl rfl (q := 42) rfl ?_
      refine Go.iloadN X105 hx (hb hby d1_42) rfl (q := 43) rfl ?_
      refine Go.iload X105 hx (hb hby d1_43) rfl (q := 45) rfl ?_
      refine Go.callS X105 hx hZ hown (wd55 hw) (wd56 hw) (wd57 hw) (wd58 hw) (by decide) (ccr_1_2 l Z a0 hw b x0 x1 x2 x3 (kb) ((2 : Int32)) h105 OK105 Vb (by decide) (by decide)) e105 (by rw [hml]; rfl) (hb hby d1_45) (argsL := [(.ref b), (.int 1), (.int 2)]) (rest := [(.ref b101)]) (lenOf pd8 rfl) rfl rfl (W := 1) (Nat.le_refl _) (by decide) ?_
      intro v110 T110 L110 X110 hQ110
      obtain ⟨h110, e110⟩ : ∃ z, T110.heap = z := ⟨_, rfl⟩
      rw [e110] at hQ110
      obtain ⟨b2_110, kc_110, rfl, N110q, K110, fr110_b2, P110_0, P110_1⟩ := hQ110
      have N110 := Fr.app N105 N110q
      have ne_b_b2_110 : b ≠ b2_110 := ne_new Eb.lt fr110_b2
      have ne_b101_b2_110 : b101 ≠ b2_110 := ne_new A101.lt fr110_b2
      have ne_b2_104_b2_110 : b2_104 ≠ b2_110 := ne_new P104_0.lt fr110_b2
      have ne_d_105_b2_110 : d_105 ≠ b2_110 := ne_new P105_3.lt fr110_b2
      have g_b2_110 : Z.heap.size ≤ b2_110 := Nat.le_trans OK105.1 fr110_b2
      have z_b2_110 : h0.size ≤ b2_110 := Nat.le_trans KP.1 fr110_b2
      replace Eb := Eb.keep K110
      replace Vb := Vb.keep K110 nin0
      replace A101 := A101.keep K110
      replace P104_0 := P104_0.keep K110
      replace P104_1 := P104_1.keep K110 nin0
      replace P105_0 := P105_0.keep K110 nin0
      replace P105_1 := P105_1.keep K110 nin0
      replace P105_2 := P105_2.keep K110 nin0
      replace P105_3 := P105_3.keep K110 nin0
      have OK110 := ext_keep OK105 K110 all0
      replace KP := KP.trans K110 all0
      refine Go.face X110 hx hZ hown (wd73 hw) (wd74 hw) (wd75 hw) (wd76 hw) (wd77 hw) (wd78 hw) (wd79 hw) (wd38 hw) (wd7 hw) (wd80 hw) (by decide) (cadd_1 l Z a0 hw b101 b2_110 d_105 ((1 : Int32)) b2_104 (kd_105) h110 OK110 A101 g_b101 P105_0 P105_1 P105_2 P105_3 P110_0 g_d_105 ne_b101_d_105 P105_4) e110 A101 (by rw [hml]; rfl) (hb hby d1_48) (argsL := [(.ref b2_110)]) (rest := []) (lenOf pd12 rfl) rfl rfl (W := 0) (Nat.le_refl _) (by decide) ?_
      intro v111 T111 L111 X111 hQ111
      obtain ⟨h111, e111⟩ : ∃ z, T111.heap = z := ⟨_, rfl⟩
      rw [e111] at hQ111
      obtain ⟨rfl, N111q, K111, P111_0, P111_1, P111_2, P111_3⟩ := hQ111
      have N111 := Fr.app N110 N111q
      replace Eb := Eb.keep K111
      replace Vb := Vb.keep K111 (ninS ne_b_b101 (ninS ne_b_d_105 nin0))
      replace A101 := A101.keep K111
      replace P104_0 := P104_0.keep K111
      replace P104_1 := P104_1.keep K111 (ninS (Ne.symm ne_b101_b2_104) (ninS ne_b2_104_d_105 nin0))
      replace P110_0 := P110_0.keep K111
      replace P110_1 := P110_1.keep K111 (ninS (Ne.symm ne_b101_b2_110) (ninS (Ne.symm ne_d_105_b2_110) nin0))
      have OK111 := ext_keep OK110 K111 (allS g_b101 (allS g_d_105 all0))
      replace KP := KP.trans K111 (allS (Or.inr z_b101) (allS (Or.inr z_d_105) all0))
      refine Go.pop X111 hx (hb hby d1_53) rfl (q := 54) rfl ?_
      refine Go.iload X111 hx (hb hby d1_54) rfl (q := 56) rfl ?_
      refine Go.iconst X111 hx (hb hby d1_56) (r := (1 : Int32)) rfl (q := 57) rfl ?_
      refine Go.iadd X111 hx (hb hby d1_57) (r := (3 : Int32)) rfl (q := 58) rfl ?_
      refine Go.istoreN X111 hx (hb hby d1_58) (l' := #[.val (.ref b), .val (.int t), .val (.ref b101), .val (.int 3), .val (.int 2)]) rfl (q := 59) rfl ?_
      refine Go.goto X111 hx (hb hby d1_59) (q := 10) (by decide) (by decide) ?_
      refine Go.iloadN X111 hx (hb hby d1_10) rfl (q := 11) rfl ?_
      refine Go.aloadN X111 hx (hb hby d1_11) rfl rfl (q := 12) rfl ?_
      refine Go.alen X111 hx hZ e111 Vb (hb hby d1_12) ?_
      refine Go.icmpYes X111 hx (hb hby d1_13) (by decide) (q := 62) (by decide) (by decide) ?_
      refine Go.aloadN X111 hx (hb hby d1_62) rfl rfl (q := 63) rfl ?_
      have e112_0 := own_isT hc103
      have e112_1 := own_isF hc106
      exact Go.retA X111 hx hret hlk rfl rfl (hb hby d1_63) e111 (by decide) (by decide) ⟨b101, (2 : Int32), (0 : Int32), (1 : Int32), (0 : Int32), (0 : Int32), rfl, N111, KP, z_b101, A101, P111_1, ⟨fun q => absurd q hc106, fun _ => by rw [own_tb2, e112_0, e112_1] <;> rfl⟩, by rw [own_tb2, e112_0, e112_1] <;> rfl, Or.inr ⟨by decide, _, ⟨d_105, b2_104, _, _, _, P111_0, P111_3, rfl, by decide, by decide, P104_0, P104_1⟩⟩, Or.inr ⟨by decide, _, ⟨d_105, b2_110, _, _, _, P111_0, P111_3, rfl, by decide, by decide, P110_0, P110_1⟩⟩, Or.inl ⟨by decide, rfl⟩, Or.inl ⟨by decide, rfl⟩, Or.inl hc103, Or.inr (own_oki (by rw [own_tb1, e112_0] <;> rfl) (by rw [own_lt1, if_neg (own_is1n e112_0)] <;> rfl) (r := (1 : Int32)) (f := (0 : Int32)) ⟨by decide, (1 : Int32), _, ⟨d_105, b2_110, _, _, _, P111_0, P111_3, rfl, by decide, by decide, P110_0, P110_1⟩, by decide, by decide, rfl⟩)⟩
  · refine Go.icmpNo X102 hx (hb hby d1_31) (Jvm.Free.XT.ii_eq_f hc103) (q := 34) rfl ?_
    refine Go.iinc X102 hx (hb hby d1_34) rfl (r := (1 : Int32)) rfl (l' := #[.val (.ref b), .val (.int t), .val (.ref b101), .val (.int 0), .val (.int 1)]) rfl (q := 37) rfl ?_
    refine Go.goto X102 hx (hb hby d1_37) (q := 19) (by decide) (by decide) ?_
    refine Go.iload X102 hx (hb hby d1_19) rfl (q := 21) rfl ?_
    refine Go.aloadN X102 hx (hb hby d1_21) rfl rfl (q := 22) rfl ?_
    refine Go.alen X102 hx hZ e102 Vb (hb hby d1_22) ?_
    refine Go.icmpNo X102 hx (hb hby d1_23) (by decide) (q := 26) rfl ?_
    refine Go.aloadN X102 hx (hb hby d1_26) rfl rfl (q := 27) rfl ?_
    refine Go.iload X102 hx (hb hby d1_27) rfl (q := 29) rfl ?_
    refine Go.bal X102 hx hZ e102 Vb ⟨by decide, by decide⟩ (v := (.int x1)) rfl (hb hby d1_29) ?_
    refine Go.iloadN X102 hx (hb hby d1_30) rfl (q := 31) rfl ?_
    by_cases hc113 : x1 = t
    · refine Go.icmpYes X102 hx (hb hby d1_31) (Jvm.Free.XT.ii_eq_t hc113) (q := 40) (by decide) (by decide) ?_
      refine Go.aloadN X102 hx (hb hby d1_40) rfl rfl (q := 41) rfl ?_
      refine Go.aloadN X102 hx (hb hby d1_41) rfl rfl (q := 42) rfl ?_
      refine Go.iloadN X102 hx (hb hby d1_42) rfl (q := 43) rfl ?_
      refine Go.iload X102 hx (hb hby d1_43) rfl (q := 45) rfl ?_
      refine Go.callS X102 hx hZ hown (wd55 hw) (wd56 hw) (wd57 hw) (wd58 hw) (by decide) (ccr_0_1 l Z a0 hw b x0 x1 x2 x3 (kb) ((2 : Int32)) h102 OK102 Vb (by decide) (by decide) (by decide)) e102 (by rw [hml]; rfl) (hb hby d1_45) (argsL := [(.ref b), (.int 0), (.int 1)]) (rest := [(.ref b101)]) (lenOf pd8 rfl) rfl rfl (W := 1) (Nat.le_refl _) (by decide) ?_
      intro v114 T114 L114 X114 hQ114
      obtain ⟨h114, e114⟩ : ∃ z, T114.heap = z := ⟨_, rfl⟩
      rw [e114] at hQ114
      obtain ⟨b2_114, kc_114, rfl, N114q, K114, fr114_b2, P114_0, P114_1⟩ := hQ114
      have N114 := Fr.app N102 N114q
      have ne_b_b2_114 : b ≠ b2_114 := ne_new Eb.lt fr114_b2
      have ne_b101_b2_114 : b101 ≠ b2_114 := ne_new A101.lt fr114_b2
      have g_b2_114 : Z.heap.size ≤ b2_114 := Nat.le_trans OK102.1 fr114_b2
      have z_b2_114 : h0.size ≤ b2_114 := Nat.le_trans KP.1 fr114_b2
      replace Eb := Eb.keep K114
      replace Vb := Vb.keep K114 nin0
      replace A101 := A101.keep K114
      replace P102_0 := P102_0.keep K114 nin0
      replace P102_1 := P102_1.keep K114 nin0
      replace P102_2 := P102_2.keep K114 nin0
      have OK114 := ext_keep OK102 K114 all0
      replace KP := KP.trans K114 all0
      refine Go.face X114 hx hZ hown (wd73 hw) (wd74 hw) (wd75 hw) (wd76 hw) (wd77 hw) (wd78 hw) (wd79 hw) (wd38 hw) (wd7 hw) (wd80 hw) (by decide) (cadd_0 l Z a0 hw b101 b2_114 de ((0 : Int32)) h114 OK114 A101 g_b101 P102_0 P102_1 P102_2 P114_0 SD LD) e114 A101 (by rw [hml]; rfl) (hb hby d1_48) (argsL := [(.ref b2_114)]) (rest := []) (lenOf pd12 rfl) rfl rfl (W := 0) (Nat.le_refl _) (by decide) ?_
      intro v115 T115 L115 X115 hQ115
      obtain ⟨h115, e115⟩ : ∃ z, T115.heap = z := ⟨_, rfl⟩
      rw [e115] at hQ115
      obtain ⟨d_115, kd_115, rfl, N115q, K115, fr115_d, P115_0, P115_1, P115_2, P115_3, P115_4⟩ := hQ115
      have N115 := Fr.app N114 N115q
      have ne_b_d_115 : b ≠ d_115 := ne_new Eb.lt fr115_d
      have ne_b101_d_115 : b101 ≠ d_115 := ne_new A101.lt fr115_d
      have ne_b2_114_d_115 : b2_114 ≠ d_115 := ne_new P114_0.lt fr115_d
      have g_d_115 : Z.heap.size ≤ d_115 := Nat.le_trans OK114.1 fr115_d
      have z_d_115 : h0.size ≤ d_115 := Nat.le_trans KP.1 fr115_d
      replace Eb := Eb.keep K115
      replace Vb := Vb.keep K115 (ninS ne_b_b101 nin0)
      replace A101 := A101.keep K115
      replace P114_0 := P114_0.keep K115
      replace P114_1 := P114_1.keep K115 (ninS (Ne.symm ne_b101_b2_114) nin0)
      have OK115 := ext_keep OK114 K115 (allS g_b101 all0)
      replace KP := KP.trans K115 (allS (Or.inr z_b101) all0)
      refine Go.pop X115 hx (hb hby d1_53) rfl (q := 54) rfl ?_
      refine Go.iload X115 hx (hb hby d1_54) rfl (q := 56) rfl ?_
      refine Go.iconst X115 hx (hb hby d1_56) (r := (1 : Int32)) rfl (q := 57) rfl ?_
      refine Go.iadd X115 hx (hb hby d1_57) (r := (2 : Int32)) rfl (q := 58) rfl ?_
      refine Go.istoreN X115 hx (hb hby d1_58) (l' := #[.val (.ref b), .val (.int t), .val (.ref b101), .val (.int 2), .val (.int 1)]) rfl (q := 59) rfl ?_
      refine Go.goto X115 hx (hb hby d1_59) (q := 10) (by decide) (by decide) ?_
      refine Go.iloadN X115 hx (hb hby d1_10) rfl (q := 11) rfl ?_
      refine Go.aloadN X115 hx (hb hby d1_11) rfl rfl (q := 12) rfl ?_
      refine Go.alen X115 hx hZ e115 Vb (hb hby d1_12) ?_
      refine Go.icmpYes X115 hx (hb hby d1_13) (by decide) (q := 62) (by decide) (by decide) ?_
      refine Go.aloadN X115 hx (hb hby d1_62) rfl rfl (q := 63) rfl ?_
      have e116_0 := own_isF hc103
      have e116_1 := own_isT hc113
      exact Go.retA X115 hx hret hlk rfl rfl (hb hby d1_63) e115 (by decide) (by decide) ⟨b101, (1 : Int32), (1 : Int32), (0 : Int32), (0 : Int32), (0 : Int32), rfl, N115, KP, z_b101, A101, P115_1, ⟨fun _ => by rw [own_tb2, e116_0, e116_1] <;> rfl, fun q => absurd hc113 q⟩, by rw [own_tb2, e116_0, e116_1] <;> rfl, Or.inr ⟨by decide, _, ⟨d_115, b2_114, _, _, _, P115_0, P115_3, rfl, by decide, by decide, P114_0, P114_1⟩⟩, Or.inl ⟨by decide, rfl⟩, Or.inl ⟨by decide, rfl⟩, Or.inl ⟨by decide, rfl⟩, Or.inr ⟨by decide, (1 : Int32), _, ⟨d_115, b2_114, _, _, _, P115_0, P115_3, rfl, by decide, by decide, P114_0, P114_1⟩, by decide, by decide, rfl⟩, Or.inl hc113⟩
    · refine Go.icmpNo X102 hx (hb hby d1_31) (Jvm.Free.XT.ii_eq_f hc113) (q := 34) rfl ?_
      refine Go.iinc X102 hx (hb hby d1_34) rfl (r := (2 : Int32)) rfl (l' := #[.val (.ref b), .val (.int t), .val (.ref b101), .val (.int 0), .val (.int 2)]) rfl (q := 37) rfl ?_
      refine Go.goto X102 hx (hb hby d1_37) (q := 19) (by decide) (by decide) ?_
      refine Go.iload X102 hx (hb hby d1_19) rfl (q := 21) rfl ?_
      refine Go.aloadN X102 hx (hb hby d1_21) rfl rfl (q := 22) rfl ?_
      refine Go.alen X102 hx hZ e102 Vb (hb hby d1_22) ?_
      refine Go.icmpYes X102 hx (hb hby d1_23) (by decide) (q := 40) (by decide) (by decide) ?_
      refine Go.aloadN X102 hx (hb hby d1_40) rfl rfl (q := 41) rfl ?_
      refine Go.aloadN X102 hx (hb hby d1_41) rfl rfl (q := 42) rfl ?_
      refine Go.iloadN X102 hx (hb hby d1_42) rfl (q := 43) rfl ?_
      refine Go.iload X102 hx (hb hby d1_43) rfl (q := 45) rfl ?_
      refine Go.callS X102 hx hZ hown (wd55 hw) (wd56 hw) (wd57 hw) (wd58 hw) (by decide) (ccl_2 l Z a0 hw b x0 x1 x2 x3 (kb) h102 OK102 Eb Vb) e102 (by rw [hml]; rfl) (hb hby d1_45) (argsL := [(.ref b), (.int 0), (.int 2)]) (rest := [(.ref b101)]) (lenOf pd8 rfl) rfl rfl (W := 1) (Nat.le_refl _) (by decide) ?_
      intro v117 T117 L117 X117 hQ117
      obtain ⟨h117, e117⟩ : ∃ z, T117.heap = z := ⟨_, rfl⟩
      rw [e117] at hQ117
      obtain ⟨b2_117, kc_117, rfl, N117q, K117, fr117_b2, P117_0, P117_1⟩ := hQ117
      have N117 := Fr.app N102 N117q
      have ne_b_b2_117 : b ≠ b2_117 := ne_new Eb.lt fr117_b2
      have ne_b101_b2_117 : b101 ≠ b2_117 := ne_new A101.lt fr117_b2
      have g_b2_117 : Z.heap.size ≤ b2_117 := Nat.le_trans OK102.1 fr117_b2
      have z_b2_117 : h0.size ≤ b2_117 := Nat.le_trans KP.1 fr117_b2
      replace Eb := Eb.keep K117
      replace Vb := Vb.keep K117 nin0
      replace A101 := A101.keep K117
      replace P102_0 := P102_0.keep K117 nin0
      replace P102_1 := P102_1.keep K117 nin0
      replace P102_2 := P102_2.keep K117 nin0
      have OK117 := ext_keep OK102 K117 all0
      replace KP := KP.trans K117 all0
      refine Go.face X117 hx hZ hown (wd73 hw) (wd74 hw) (wd75 hw) (wd76 hw) (wd77 hw) (wd78 hw) (wd79 hw) (wd38 hw) (wd7 hw) (wd80 hw) (by decide) (cadd_0 l Z a0 hw b101 b2_117 de ((0 : Int32)) h117 OK117 A101 g_b101 P102_0 P102_1 P102_2 P117_0 SD LD) e117 A101 (by rw [hml]; rfl) (hb hby d1_48) (argsL := [(.ref b2_117)]) (rest := []) (lenOf pd12 rfl) rfl rfl (W := 0) (Nat.le_refl _) (by decide) ?_
      intro v118 T118 L118 X118 hQ118
      obtain ⟨h118, e118⟩ : ∃ z, T118.heap = z := ⟨_, rfl⟩
      rw [e118] at hQ118
      obtain ⟨d_118, kd_118, rfl, N118q, K118, fr118_d, P118_0, P118_1, P118_2, P118_3, P118_4⟩ := hQ118
      have N118 := Fr.app N117 N118q
      have ne_b_d_118 : b ≠ d_118 := ne_new Eb.lt fr118_d
      have ne_b101_d_118 : b101 ≠ d_118 := ne_new A101.lt fr118_d
      have ne_b2_117_d_118 : b2_117 ≠ d_118 := ne_new P117_0.lt fr118_d
      have g_d_118 : Z.heap.size ≤ d_118 := Nat.le_trans OK117.1 fr118_d
      have z_d_118 : h0.size ≤ d_118 := Nat.le_trans KP.1 fr118_d
      replace Eb := Eb.keep K118
      replace Vb := Vb.keep K118 (ninS ne_b_b101 nin0)
      replace A101 := A101.keep K118
      replace P117_0 := P117_0.keep K118
      replace P117_1 := P117_1.keep K118 (ninS (Ne.symm ne_b101_b2_117) nin0)
      have OK118 := ext_keep OK117 K118 (allS g_b101 all0)
      replace KP := KP.trans K118 (allS (Or.inr z_b101) all0)
      refine Go.pop X118 hx (hb hby d1_53) rfl (q := 54) rfl ?_
      refine Go.iload X118 hx (hb hby d1_54) rfl (q := 56) rfl ?_
      refine Go.iconst X118 hx (hb hby d1_56) (r := (1 : Int32)) rfl (q := 57) rfl ?_
      refine Go.iadd X118 hx (hb hby d1_57) (r := (3 : Int32)) rfl (q := 58) rfl ?_
      refine Go.istoreN X118 hx (hb hby d1_58) (l' := #[.val (.ref b), .val (.int t), .val (.ref b101), .val (.int 3), .val (.int 2)]) rfl (q := 59) rfl ?_
      refine Go.goto X118 hx (hb hby d1_59) (q := 10) (by decide) (by decide) ?_
      refine Go.iloadN X118 hx (hb hby d1_10) rfl (q := 11) rfl ?_
      refine Go.aloadN X118 hx (hb hby d1_11) rfl rfl (q := 12) rfl ?_
      refine Go.alen X118 hx hZ e118 Vb (hb hby d1_12) ?_
      refine Go.icmpYes X118 hx (hb hby d1_13) (by decide) (q := 62) (by decide) (by decide) ?_
      refine Go.aloadN X118 hx (hb hby d1_62) rfl rfl (q := 63) rfl ?_
      have e119_0 := own_isF hc103
      have e119_1 := own_isF hc113
      exact Go.retA X118 hx hret hlk rfl rfl (hb hby d1_63) e118 (by decide) (by decide) ⟨b101, (1 : Int32), (2 : Int32), (0 : Int32), (0 : Int32), (0 : Int32), rfl, N118, KP, z_b101, A101, P118_1, ⟨fun q => absurd q hc113, fun _ => by rw [own_tb2, e119_0, e119_1] <;> rfl⟩, by rw [own_tb2, e119_0, e119_1] <;> rfl, Or.inr ⟨by decide, _, ⟨d_118, b2_117, _, _, _, P118_0, P118_3, rfl, by decide, by decide, P117_0, P117_1⟩⟩, Or.inl ⟨by decide, rfl⟩, Or.inl ⟨by decide, rfl⟩, Or.inl ⟨by decide, rfl⟩, Or.inr ⟨by decide, (2 : Int32), _, ⟨d_118, b2_117, _, _, _, P118_0, P118_3, rfl, by decide, by decide, P117_0, P117_1⟩, by decide, by decide, rfl⟩, Or.inr (own_oki (by rw [own_tb1, e119_0] <;> rfl) (by rw [own_lt1, if_pos e119_0] <;> rfl) (r := (0 : Int32)) (f := (1 : Int32)) ⟨by decide, (2 : Int32), _, ⟨d_118, b2_117, _, _, _, P118_0, P118_3, rfl, by decide, by decide, P117_0, P117_1⟩, by decide, by decide, rfl⟩)⟩
def Q_crec_3 (Z : State) (b : Addr) (x0 x1 x2 x3 : Int32) (kb : ClassId) (t : Int32) (de : Addr) (h0 : Heap) (vR : Option Value) (hR : Heap) (LR : List Loc) : Prop := ∃ li : Addr, ∃ kk : Int32, ∃ q0 : Int32, ∃ q1 : Int32, ∃ q2 : Int32, ∃ q3 : Int32, vR = some (.ref li) ∧ Fr Z.heap.size LR ∧ Keep h0 hR [] ∧ h0.size ≤ li ∧ Exa Z hR li xS0 ∧ Fld Z hR li xS0 "size" "I" (.int kk) ∧ ((x2 = t → kk = ((own_tb3 x0 x1 x2 t) + (0 : Int32))) ∧ (¬ (x2 = t) → kk = ((own_tb3 x0 x1 x2 t) + (1 : Int32)))) ∧ (((q0 + q1) + q2) + q3) = ((3 : Int32) - (own_tb3 x0 x1 x2 t)) ∧ LENP Z hR li kk (0 : Int32) q0 ∧ LENP Z hR li kk (1 : Int32) q1 ∧ LENP Z hR li kk (2 : Int32) q2 ∧ LENP Z hR li kk (3 : Int32) q3 ∧ (x0 = t ∨ OKI Z hR li kk (0 : Int32) (0 : Int32) x0) ∧ (x1 = t ∨ OKI Z hR li kk (own_tb1 x0 t) (((1 : Int32) - (own_lt1 x0 t)) - (1 : Int32)) x1) ∧ (x2 = t ∨ OKI Z hR li kk (own_tb2 x0 x1 t) (((2 : Int32) - (own_lt2 x0 x1 t)) - (1 : Int32)) x2)
theorem crec_3 (l : Launch) (Z : State) (a0 : Array Value) (hw : ∀ d ∈ tables_1, d.before a0 Z = true) (b : Addr) (x0 x1 x2 x3 : Int32) (kb : ClassId) (t : Int32) (de : Addr) (h0 : Heap) (O0 : Ext Z.heap h0) (Eb : Exa Z h0 b "[B") (Vb : Arv Z h0 b kb .byte (3 : Int32) [(.int x0), (.int x1), (.int x2), (.int x3)] (.int 0)) (SD : Sta Z Z.heap xS0 "DEFAULTCAPACITY_EMPTY_ELEMENTDATA" xS3 (.ref de)) (LD : Lng Z Z.heap de (0 : Int32)) :
    Ctr l Z h0 (⟨"com/example/cronopoly/cronopoly/cli/Utf8", "records", "([BB)Ljava/util/List;"⟩ : MethodName) k1 5 (some (.object "java/util/List")) [] ({ frames := 5, cells := 5, slots := 16, locals := 69 } : Room) #[(.ref b), (.int t)] (Q_crec_3 Z b x0 x1 x2 x3 kb t de h0) := by
  refine enter (plainFor_of_name pn7) ?_
  intro pp ee ss mm below meth cc s₁ hx hby hml hZ hown hnm hret hlk X0 e0 hs0
  replace hown : ss.vm.findClass "com/example/cronopoly/cronopoly/cli/Utf8" = some mm.cls := hown
  refine Go.cast (congrArg s₁.setTop (ef_crec_3 mm b t)) ?_
  have N0 := Fr.nil Z.heap.size
  have KP := Keep.refl h0 []
  show Go pp ee below _ (s₁.setTop (mkF mm 0 #[.val (.ref b), .val (.int t), .unset, .unset, .unset] []))
  refine Go.newO X0 hx hZ hown (wd5 hw) (wd6 hw) (wd7 hw) e0 (hb hby d1_0) (by decide) (by decide) (q := 3) rfl ?_
  intro b101 T101 h101 X101 e101 q101 E101 A101 D101 U101
  have ne_b_b101 : b ≠ b101 := ne_new Eb.lt (Nat.le_of_eq q101)
  have g_b101 : Z.heap.size ≤ b101 := Nat.le_trans O0.1 (Nat.le_of_eq q101)
  have z_b101 : h0.size ≤ b101 := Nat.le_trans KP.1 (Nat.le_of_eq q101)
  replace Eb := Eb.ext E101
  replace Vb := Vb.ext E101
  have OE101 := ext_trans O0 E101
  replace KP := KP.ext E101
  have F101_modCount : Fld Z h101 b101 xS5 "modCount" "I" (.int 0) := D101 (Or.inl (wd27 hw)) (ty := .int) (by decide)
  have F101_elementData : Fld Z h101 b101 xS0 "elementData" xS3 .null := D101 (Or.inl (wd30 hw)) (ty := (.array (.object xS2))) (by decide)
  have F101_size : Fld Z h101 b101 xS0 "size" "I" (.int 0) := D101 (Or.inl (wd41 hw)) (ty := .int) (by decide)
  clear D101
  refine Go.dup X101 hx (hb hby d1_3) rfl (q := 4) rfl ?_
  refine Go.init X101 hx hZ hown rfl (wd8 hw) (wd9 hw) (wd7 hw) (wd10 hw) (by decide) (cali l Z a0 hw b101 de h101 OE101 A101 g_b101 F101_elementData F101_size F101_modCount SD) e101 (by rw [hml]; rfl) (hb hby d1_4) (argsL := []) (rest := [(.ref b101)]) (lenOf pd0 rfl) rfl rfl (W := 1) (Nat.le_refl _) (by decide) ?_
  intro v102 T102 L102 X102 hQ102
  obtain ⟨h102, e102⟩ : ∃ z, T102.heap = z := ⟨_, rfl⟩
  rw [e102] at hQ102
  obtain ⟨rfl, N102q, K102, P102_0, P102_1, P102_2⟩ := hQ102
  have N102 := Fr.app N0 N102q
  replace Eb := Eb.keep K102
  replace Vb := Vb.keep K102 (ninS ne_b_b101 nin0)
  replace A101 := A101.keep K102
  have OK102 := ext_keep OE101 K102 (allS g_b101 all0)
  replace KP := KP.trans K102 (allS (Or.inr z_b101) all0)
  refine Go.astoreN X102 hx (hb hby d1_7) rfl (l' := #[.val (.ref b), .val (.int t), .val (.ref b101), .unset, .unset]) rfl (q := 8) rfl ?_
  refine Go.iconst X102 hx (hb hby d1_8) (r := (0 : Int32)) rfl (q := 9) rfl ?_
  refine Go.istoreN X102 hx (hb hby d1_9) (l' := #[.val (.ref b), .val (.int t), .val (.ref b101), .val (.int 0), .unset]) rfl (q := 10) rfl ?_
  refine Go.iloadN X102 hx (hb hby d1_10) rfl (q := 11) rfl ?_
  refine Go.aloadN X102 hx (hb hby d1_11) rfl rfl (q := 12) rfl ?_
  refine Go.alen X102 hx hZ e102 Vb (hb hby d1_12) ?_
  refine Go.icmpNo X102 hx (hb hby d1_13) (by decide) (q := 16) rfl ?_
  refine Go.iloadN X102 hx (hb hby d1_16) rfl (q := 17) rfl ?_
  refine Go.istore X102 hx (hb hby d1_17) (l' := #[.val (.ref b), .val (.int t), .val (.ref b101), .val (.int 0), .val (.int 0)]) rfl (q := 19) rfl ?_
  refine Go.iload X102 hx (hb hby d1_19) rfl (q := 21) rfl ?_
  refine Go.aloadN X102 hx (hb hby d1_21) rfl rfl (q := 22) rfl ?_
  refine Go.alen X102 hx hZ e102 Vb (hb hby d1_22) ?_
  refine Go.icmpNo X102 hx (hb hby d1_23) (by decide) (q := 26) rfl ?_
  refine Go.aloadN X102 hx (hb hby d1_26) rfl rfl (q := 27) rfl ?_
  refine Go.iload X102 hx (hb hby d1_27) rfl (q := 29) rfl ?_
  refine Go.bal X102 hx hZ e102 Vb ⟨by decide, by decide⟩ (v := (.int x0)) rfl (hb hby d1_29) ?_
  refine Go.iloadN X102 hx (hb hby d1_30) rfl (q := 31) rfl ?_
  by_cases hc103 : x0 = t
  · refine Go.icmpYes X102 hx (hb hby d1_31) (Jvm.Free.XT.ii_eq_t hc103) (q := 40) (by decide) (by decide) ?_
    refine Go.aloadN X102 hx (hb hby d1_40) rfl rfl (q := 41) rfl ?_
    refine Go.aloadN X102 hx (hb hby d1_41) rfl rfl (q := 42) rfl ?_
    refine Go.iloadN X102 hx (hb hby d1_42) rfl (q := 43) rfl ?_
    refine Go.iload X102 hx (hb hby d1_43) rfl (q := 45) rfl ?_
    refine Go.callS X102 hx hZ hown (wd55 hw) (wd56 hw) (wd57 hw) (wd58 hw) (by decide) (ccr_0_0 l Z a0 hw b x0 x1 x2 x3 (kb) ((3 : Int32)) h102 OK102 Vb (by decide) (by decide) (by decide)) e102 (by rw [hml]; rfl) (hb hby d1_45) (argsL := [(.ref b), (.int 0), (.int 0)]) (rest := [(.ref b101)]) (lenOf pd8 rfl) rfl rfl (W := 1) (Nat.le_refl _) (by decide) ?_
    intro v104 T104 L104 X104 hQ104
    obtain ⟨h104, e104⟩ : ∃ z, T104.heap = z := ⟨_, rfl⟩
    rw [e104] at hQ104
    obtain ⟨b2_104, kc_104, rfl, N104q, K104, fr104_b2, P104_0, P104_1⟩ := hQ104
    have N104 := Fr.app N102 N104q
    have ne_b_b2_104 : b ≠ b2_104 := ne_new Eb.lt fr104_b2
    have ne_b101_b2_104 : b101 ≠ b2_104 := ne_new A101.lt fr104_b2
    have g_b2_104 : Z.heap.size ≤ b2_104 := Nat.le_trans OK102.1 fr104_b2
    have z_b2_104 : h0.size ≤ b2_104 := Nat.le_trans KP.1 fr104_b2
    replace Eb := Eb.keep K104
    replace Vb := Vb.keep K104 nin0
    replace A101 := A101.keep K104
    replace P102_0 := P102_0.keep K104 nin0
    replace P102_1 := P102_1.keep K104 nin0
    replace P102_2 := P102_2.keep K104 nin0
    have OK104 := ext_keep OK102 K104 all0
    replace KP := KP.trans K104 all0
    refine Go.face X104 hx hZ hown (wd73 hw) (wd74 hw) (wd75 hw) (wd76 hw) (wd77 hw) (wd78 hw) (wd79 hw) (wd38 hw) (wd7 hw) (wd80 hw) (by decide) (cadd_0 l Z a0 hw b101 b2_104 de ((0 : Int32)) h104 OK104 A101 g_b101 P102_0 P102_1 P102_2 P104_0 SD LD) e104 A101 (by rw [hml]; rfl) (hb hby d1_48) (argsL := [(.ref b2_104)]) (rest := []) (lenOf pd12 rfl) rfl rfl (W := 0) (Nat.le_refl _) (by decide) ?_
    intro v105 T105 L105 X105 hQ105
    obtain ⟨h105, e105⟩ : ∃ z, T105.heap = z := ⟨_, rfl⟩
    rw [e105] at hQ105
    obtain ⟨d_105, kd_105, rfl, N105q, K105, fr105_d, P105_0, P105_1, P105_2, P105_3, P105_4⟩ := hQ105
    have N105 := Fr.app N104 N105q
    have ne_b_d_105 : b ≠ d_105 := ne_new Eb.lt fr105_d
    have ne_b101_d_105 : b101 ≠ d_105 := ne_new A101.lt fr105_d
    have ne_b2_104_d_105 : b2_104 ≠ d_105 := ne_new P104_0.lt fr105_d
    have g_d_105 : Z.heap.size ≤ d_105 := Nat.le_trans OK104.1 fr105_d
    have z_d_105 : h0.size ≤ d_105 := Nat.le_trans KP.1 fr105_d
    replace Eb := Eb.keep K105
    replace Vb := Vb.keep K105 (ninS ne_b_b101 nin0)
    replace A101 := A101.keep K105
    replace P104_0 := P104_0.keep K105
    replace P104_1 := P104_1.keep K105 (ninS (Ne.symm ne_b101_b2_104) nin0)
    have OK105 := ext_keep OK104 K105 (allS g_b101 all0)
    replace KP := KP.trans K105 (allS (Or.inr z_b101) all0)
    refine Go.pop X105 hx (hb hby d1_53) rfl (q := 54) rfl ?_
    refine Go.iload X105 hx (hb hby d1_54) rfl (q := 56) rfl ?_
    refine Go.iconst X105 hx (hb hby d1_56) (r := (1 : Int32)) rfl (q := 57) rfl ?_
    refine Go.iadd X105 hx (hb hby d1_57) (r := (1 : Int32)) rfl (q := 58) rfl ?_
    refine Go.istoreN X105 hx (hb hby d1_58) (l' := #[.val (.ref b), .val (.int t), .val (.ref b101), .val (.int 1), .val (.int 0)]) rfl (q := 59) rfl ?_
    refine Go.goto X105 hx (hb hby d1_59) (q := 10) (by decide) (by decide) ?_
    refine Go.iloadN X105 hx (hb hby d1_10) rfl (q := 11) rfl ?_
    refine Go.aloadN X105 hx (hb hby d1_11) rfl rfl (q := 12) rfl ?_
    refine Go.alen X105 hx hZ e105 Vb (hb hby d1_12) ?_
    refine Go.icmpNo X105 hx (hb hby d1_13) (by decide) (q := 16) rfl ?_
    refine Go.iloadN X105 hx (hb hby d1_16) rfl (q := 17) rfl ?_
    refine Go.istore X105 hx (hb hby d1_17) (l' := #[.val (.ref b), .val (.int t), .val (.ref b101), .val (.int 1), .val (.int 1)]) rfl (q := 19) rfl ?_
    refine Go.iload X105 hx (hb hby d1_19) rfl (q := 21) rfl ?_
    refine Go.aloadN X105 hx (hb hby d1_21) rfl rfl (q := 22) rfl ?_
    refine Go.alen X105 hx hZ e105 Vb (hb hby d1_22) ?_
    refine Go.icmpNo X105 hx (hb hby d1_23) (by decide) (q := 26) rfl ?_
    refine Go.aloadN X105 hx (hb hby d1_26) rfl rfl (q := 27) rfl ?_
    refine Go.iload X105 hx (hb hby d1_27) rfl (q := 29) rfl ?_
    refine Go.bal X105 hx hZ e105 Vb ⟨by decide, by decide⟩ (v := (.int x1)) rfl (hb hby d1_29) ?_
    refine Go.iloadN X105 hx (hb hby d1_30) rfl (q := 31) rfl ?_
    by_cases hc106 : x1 = t
    · refine Go.icmpYes X105 hx (hb hby d1_31) (Jvm.Free.XT.ii_eq_t hc106) (q := 40) (by decide) (by decide) ?_
      refine Go.aloadN X105 hx (hb hby d1_40) rfl rfl (q := 41) rfl ?_
      refine Go.aloadN X105 hx (hb hby d1_41) rfl rfl (q := 42) rfl ?_
      refine Go.iloadN X105 hx (hb hby d1_42) rfl (q := 43) rfl ?_
      refine Go.iload X105 hx (hb hby d1_43) rfl (q := 45) rfl ?_
      refine Go.callS X105 hx hZ hown (wd55 hw) (wd56 hw) (wd57 hw) (wd58 hw) (by decide) (ccr_1_1 l Z a0 hw b x0 x1 x2 x3 (kb) ((3 : Int32)) h105 OK105 Vb (by decide) (by decide)) e105 (by rw [hml]; rfl) (hb hby d1_45) (argsL := [(.ref b), (.int 1), (.int 1)]) (rest := [(.ref b101)]) (lenOf pd8 rfl) rfl rfl (W := 1) (Nat.le_refl _) (by decide) ?_
      intro v107 T107 L107 X107 hQ107
      obtain ⟨h107, e107⟩ : ∃ z, T107.heap = z := ⟨_, rfl⟩
      rw [e107] at hQ107
      obtain ⟨b2_107, kc_107, rfl, N107q, K107, fr107_b2, P107_0, P107_1⟩ := hQ107
      have N107 := Fr.app N105 N107q
      have ne_b_b2_107 : b ≠ b2_107 := ne_new Eb.lt fr107_b2
      have ne_b101_b2_107 : b101 ≠ b2_107 := ne_new A101.lt fr107_b2
      have ne_b2_104_b2_107 : b2_104 ≠ b2_107 := ne_new P104_0.lt fr107_b2
      have ne_d_105_b2_107 : d_105 ≠ b2_107 := ne_new P105_3.lt fr107_b2
      have g_b2_107 : Z.heap.size ≤ b2_107 := Nat.le_trans OK105.1 fr107_b2
      have z_b2_107 : h0.size ≤ b2_107 := Nat.le_trans KP.1 fr107_b2
      replace Eb := Eb.keep K107
      replace Vb := Vb.keep K107 nin0
      replace A101 := A101.keep K107
      replace P104_0 := P104_0.keep K107
      replace P104_1 := P104_1.keep K107 nin0
      replace P105_0 := P105_0.keep K107 nin0
      replace P105_1 := P105_1.keep K107 nin0
      replace P105_2 := P105_2.keep K107 nin0
      replace P105_3 := P105_3.keep K107 nin0
      have OK107 := ext_keep OK105 K107 all0
      replace KP := KP.trans K107 all0
      refine Go.face X107 hx hZ hown (wd73 hw) (wd74 hw) (wd75 hw) (wd76 hw) (wd77 hw) (wd78 hw) (wd79 hw) (wd38 hw) (wd7 hw) (wd80 hw) (by decide) (cadd_1 l Z a0 hw b101 b2_107 d_105 ((1 : Int32)) b2_104 (kd_105) h107 OK107 A101 g_b101 P105_0 P105_1 P105_2 P105_3 P107_0 g_d_105 ne_b101_d_105 P105_4) e107 A101 (by rw [hml]; rfl) (hb hby d1_48) (argsL := [(.ref b2_107)]) (rest := []) (lenOf pd12 rfl) rfl rfl (W := 0) (Nat.le_refl _) (by decide) ?_
      intro v108 T108 L108 X108 hQ108
      obtain ⟨h108, e108⟩ : ∃ z, T108.heap = z := ⟨_, rfl⟩
      rw [e108] at hQ108
      obtain ⟨rfl, N108q, K108, P108_0, P108_1, P108_2, P108_3⟩ := hQ108
      have N108 := Fr.app N107 N108q
      replace Eb := Eb.keep K108
      replace Vb := Vb.keep K108 (ninS ne_b_b101 (ninS ne_b_d_105 nin0))
      replace A101 := A101.keep K108
      replace P104_0 := P104_0.keep K108
      replace P104_1 := P104_1.keep K108 (ninS (Ne.symm ne_b101_b2_104) (ninS ne_b2_104_d_105 nin0))
      replace P107_0 := P107_0.keep K108
      replace P107_1 := P107_1.keep K108 (ninS (Ne.symm ne_b101_b2_107) (ninS (Ne.symm ne_d_105_b2_107) nin0))
      have OK108 := ext_keep OK107 K108 (allS g_b101 (allS g_d_105 all0))
      replace KP := KP.trans K108 (allS (Or.inr z_b101) (allS (Or.inr z_d_105) all0))
      refine Go.pop X108 hx (hb hby d1_53) rfl (q := 54) rfl ?_
      refine Go.iload X108 hx (hb hby d1_54) rfl (q := 56) rfl ?_
      refine Go.iconst X108 hx (hb hby d1_56) (r := (1 : Int32)) rfl (q := 57) rfl ?_
      refine Go.iadd X108 hx (hb hby d1_57) (r := (2 : Int32)) rfl (q := 58) rfl ?_
      refine Go.istoreN X108 hx (hb hby d1_58) (l' := #[.val (.ref b), .val (.int t), .val (.ref b101), .val (.int 2), .val (.int 1)]) rfl (q := 59) rfl ?_
      refine Go.goto X108 hx (hb hby d1_59) (q := 10) (by decide) (by decide) ?_
      refine Go.iloadN X108 hx (hb hby d1_10) rfl (q := 11) rfl ?_
      refine Go.aloadN X108 hx (hb hby d1_11) rfl rfl (q := 12) rfl ?_
      refine Go.alen X108 hx hZ e108 Vb (hb hby d1_12) ?_
      refine Go.icmpNo X108 hx (hb hby d1_13) (by decide) (q := 16) rfl ?_
      refine Go.iloadN X108 hx (hb hby d1_16) rfl (q := 17) rfl ?_
      refine Go.istore X108 hx (hb hby d1_17) (l' := #[.val (.ref b), .val (.int t), .val (.ref b101), .val (.int 2), .val (.int 2)]) rfl (q := 19) rfl ?_
      refine Go.iload X108 hx (hb hby d1_19) rfl (q := 21) rfl ?_
      refine Go.aloadN X108 hx (hb hby d1_21) rfl rfl (q := 22) rfl ?_
      refine Go.alen X108 hx hZ e108 Vb (hb hby d1_22) ?_
      refine Go.icmpNo X108 hx (hb hby d1_23) (by decide) (q := 26) rfl ?_
      refine Go.aloadN X108 hx (hb hby d1_26) rfl rfl (q := 27) rfl ?_
      refine Go.iload X108 hx (hb hby d1_27) rfl (q := 29) rfl ?_
      refine Go.bal X108 hx hZ e108 Vb ⟨by decide, by decide⟩ (v := (.int x2)) rfl (hb hby d1_29) ?_
      refine Go.iloadN X108 hx (hb hby d1_30) rfl (q := 31) rfl ?_
      by_cases hc109 : x2 = t
      · refine Go.icmpYes X108 hx (hb hby d1_31) (Jvm.Free.XT.ii_eq_t hc109) (q := 40) (by decide) (by decide) ?_
        refine Go.aloadN X108 hx (hb hby d1_40) rfl rfl (q := 41) rfl ?_
        refine Go.aloadN X108 hx (hb hby d1_41) rfl rfl (q := 42) rfl ?_
        refine Go.iloadN X108 hx (hb hby d1_42) rfl (q := 43) rfl ?_
        refine Go.iload X108 hx (hb hby d1_43) rfl (q := 45) rfl ?_
        refine Go.callS X108 hx hZ hown (wd55 hw) (wd56 hw) (wd57 hw) (wd58 hw) (by decide) (ccr_2_2 l Z a0 hw b x0 x1 x2 x3 (kb) ((3 : Int32)) h108 OK108 Vb (by decide) (by decide)) e108 (by rw [hml]; rfl) (hb hby d1_45) (argsL := [(.ref b), (.int 2), (.int 2)]) (rest := [(.ref b101)]) (lenOf pd8 rfl) rfl rfl (W := 1) (Nat.le_refl _) (by decide) ?_
        intro v110 T110 L110 X110 hQ110
        obtain ⟨h110, e110⟩ : ∃ z, T110.heap = z := ⟨_, rfl⟩
        rw [e110] at hQ110
        obtain ⟨b2_110, kc_110, rfl, N110q, K110, fr110_b2, P110_0, P110_1⟩ := hQ110
        have N110 := Fr.app N108 N110q
        have ne_b_b2_110 : b ≠ b2_110 := ne_new Eb.lt fr110_b2
        have ne_b101_b2_110 : b101 ≠ b2_110 := ne_new A101.lt fr110_b2
        have ne_b2_104_b2_110 : b2_104 ≠ b2_110 := ne_new P104_0.lt fr110_b2
        have ne_b2_107_b2_110 : b2_107 ≠ b2_110 := ne_new P107_0.lt fr110_b2
        have ne_d_105_b2_110 : d_105 ≠ b2_110 := ne_new P108_3.lt fr110_b2
        have g_b2_110 : Z.heap.size ≤ b2_110 := Nat.le_trans OK108.1 fr110_b2
        have z_b2_110 : h0.size ≤ b2_110 := Nat.le_trans KP.1 fr110_b2
        replace Eb := Eb.keep K110
        replace Vb := Vb.keep K110 nin0
        replace A101 := A101.keep K110
        replace P104_0 := P104_0.keep K110
        replace P104_1 := P104_1.keep K110 nin0
        replace P107_0 := P107_0.keep K110
        replace P107_1 := P107_1.keep K110 nin0
        replace P108_0 := P108_0.keep K110 nin0
        replace P108_1 := P108_1.keep K110 nin0
        replace P108_2 := P108_2.keep K110 nin0
        replace P108_3 := P108_3.keep K110 nin0
        have OK110 := ext_keep OK108 K110 all0
        replace KP := KP.trans K110 all0
        refine Go.face X110 hx hZ hown (wd73 hw) (wd74 hw) (wd75 hw) (wd76 hw) (wd77 hw) (wd78 hw) (wd79 hw) (wd38 hw) (wd7 hw) (wd80 hw) (by decide) (cadd_2 l Z a0 hw b101 b2_110 d_105 ((2 : Int32)) b2_104 b2_107 (kd_105) h110 OK110 A101 g_b101 P108_0 P108_1 P108_2 P108_3 P110_0 g_d_105 ne_b101_d_105 P105_4) e110 A101 (by rw [hml]; rfl) (hb hby d1_48) (argsL := [(.ref b2_110)]) (rest := []) (lenOf pd12 rfl) rfl rfl (W := 0) (Nat.le_refl _) (by decide) ?_
        intro v111 T111 L111 X111 hQ111
        obtain ⟨h111, e111⟩ : ∃ z, T111.heap = z := ⟨_, rfl⟩
        rw [e111] at hQ111
        obtain ⟨rfl, N111q, K111, P111_0, P111_1, P111_2, P111_3⟩ := hQ111
        have N111 := Fr.app N110 N111q
        replace Eb := Eb.keep K111
        replace Vb := Vb.keep K111 (ninS ne_b_b101 (ninS ne_b_d_105 nin0))
        replace A101 := A101.keep K111
        replace P104_0 := P104_0.keep K111
        replace P104_1 := P104_1.keep K111 (ninS (Ne.symm ne_b101_b2_104) (ninS ne_b2_104_d_105 nin0))
        replace P107_0 := P107_0.keep K111
        replace P107_1 := P107_1.keep K111 (ninS (Ne.symm ne_b101_b2_107) (ninS (Ne.symm ne_d_105_b2_107) nin0))
        replace P110_0 := P110_0.keep K111
        replace P110_1 := P110_1.keep K111 (ninS (Ne.symm ne_b101_b2_110) (ninS (Ne.symm ne_d_105_b2_110) nin0))
        have OK111 := ext_keep OK110 K111 (allS g_b101 (allS g_d_105 all0))
        replace KP := KP.trans K111 (allS (Or.inr z_b101) (allS (Or.inr z_d_105) all0))
        refine Go.pop X111 hx (hb hby d1_53) rfl (q := 54) rfl ?_
        refine Go.iload X111 hx (hb hby d1_54) rfl (q := 56) rfl ?_
        refine Go.iconst X111 hx (hb hby d1_56) (r := (1 : Int32)) rfl (q := 57) rfl ?_
        refine Go.iadd X111 hx (hb hby d1_57) (r := (3 : Int32)) rfl (q := 58) rfl ?_
        refine Go.istoreN X111 hx (hb hby d1_58) (l' := #[.val (.ref b), .val (.int t), .val (.ref b101), .val (.int 3), .val (.int 2)]) rfl (q := 59) rfl ?_
        refine Go.goto X111 hx (hb hby d1_59) (q := 10) (by decide) (by decide) ?_
        refine Go.iloadN X111 hx (hb hby d1_10) rfl (q := 11) rfl ?_
        refine Go.aloadN X111 hx (hb hby d1_11) rfl rfl (q := 12) rfl ?_
        refine Go.alen X111 hx hZ e111 Vb (hb hby d1_12) ?_
        refine Go.icmpYes X111 hx (hb hby d1_13) (by decide) (q := 62) (by decide) (by decide) ?_
        refine Go.aloadN X111 hx (hb hby d1_62) rfl rfl (q := 63) rfl ?_
        have e112_0 := own_isT hc103
        have e112_1 := own_isT hc106
        have e112_2 := own_isT hc109
        exact Go.retA X111 hx hret hlk rfl rfl (hb hby d1_63) e111 (by decide) (by decide) ⟨b101, (3 : Int32), (0 : Int32), (0 : Int32), (0 : Int32), (0 : Int32), rfl, N111, KP, z_b101, A101, P111_1, ⟨fun _ => by rw [own_tb3, e112_0, e112_1, e112_2] <;> rfl, fun q => absurd hc109 q⟩, by rw [own_tb3, e112_0, e112_1, e112_2] <;> rfl, Or.inr ⟨by decide, _, ⟨d_105, b2_104, _, _, _, P111_0, P111_3, rfl, by decide, by decide, P104_0, P104_1⟩⟩, Or.inr ⟨by decide, _, ⟨d_105, b2_107, _, _, _, P111_0, P111_3, rfl, by decide, by decide, P107_0, P107_1⟩⟩, Or.inr ⟨by decide, _, ⟨d_105, b2_110, _, _, _, P111_0, P111_3, rfl, by decide, by decide, P110_0, P110_1⟩⟩, Or.inl ⟨by decide, rfl⟩, Or.inl hc103, Or.inl hc106, Or.inl hc109⟩
      · refine Go.icmpNo X108 hx (hb hby d1_31) (Jvm.Free.XT.ii_eq_f hc109) (q := 34) rfl ?_
        refine Go.iinc X108 hx (hb hby d1_34) rfl (r := (3 : Int32)) rfl (l' := #[.val (.ref b), .val (.int t), .val (.ref b101), .val (.int 2), .val (.int 3)]) rfl (q := 37) rfl ?_
        refine Go.goto X108 hx (hb hby d1_37) (q := 19) (by decide) (by decide) ?_
        refine Go.iload X108 hx (hb hby d1_19) rfl (q := 21) rfl ?_
        refine Go.aloadN X108 hx (hb hby d1_21) rfl rfl (q := 22) rfl ?_
        refine Go.alen X108 hx hZ e108 Vb (hb hby d1_22) ?_
        refine Go.icmpYes X108 hx (hb hby d1_23) (by decide) (q := 40) (by decide) (by decide) ?_
        refine Go.aloadN X108 hx (hb hby d1_40) rfl rfl (q := 41) rfl ?_
        refine Go.aloadN X108 hx (hb hby d1_41) rfl rfl (q := 42) rfl ?_
        refine Go.iloadN X108 hx (hb hby d1_42) rfl (q := 43) rfl ?_
        refine Go.iload X108 hx (hb hby d1_43) rfl (q := 45) rfl ?_
        refine Go.callS X108 hx hZ hown (wd55 hw) (wd56 hw) (wd57 hw) (wd58 hw) (by decide) (ccr_2_3 l Z a0 hw b x0 x1 x2 x3 (kb) ((3 : Int32)) h108 OK108 Vb (by decide) (by decide)) e108 (by rw [hml]; rfl) (hb hby d1_45) (argsL := [(.ref b), (.int 2), (.int 3)]) (rest := [(.ref b101)]) (lenOf pd8 rfl) rfl rfl (W := 1) (Nat.le_refl _) (by decide) ?_
        intro v113 T113 L113 X113 hQ113
        obtain ⟨h113, e113⟩ : ∃ z, T113.heap = z := ⟨_, rfl⟩
        rw [e113] at hQ113
        obtain ⟨b2_113, kc_113, rfl, N113q, K113, fr113_b2, P113_0, P113_1⟩ := hQ113
        have N113 := Fr.app N108 N113q
        have ne_b_b2_113 : b ≠ b2_113 := ne_new Eb.lt fr113_b2
        have ne_b101_b2_113 : b101 ≠ b2_113 := ne_new A101.lt fr113_b2
        have ne_b2_104_b2_113 : b2_104 ≠ b2_113 := ne_new P104_0.lt fr113_b2
        have ne_b2_107_b2_113 : b2_107 ≠ b2_113 := ne_new P107_0.lt fr113_b2
        have ne_d_105_b2_113 : d_105 ≠ b2_113 := ne_new P108_3.lt fr113_b2
        have g_b2_113 : Z.heap.size ≤ b2_113 := Nat.le_trans OK108.1 fr113_b2
        have z_b2_113 : h0.size ≤ b2_113 := Nat.le_trans KP.1 fr113_b2
        replace Eb := Eb.keep K113
        replace Vb := Vb.keep K113 nin0
        replace A101 := A101.keep K113
        replace P104_0 := P104_0.keep K113
        replace P104_1 := P104_1.keep K113 nin0
        replace P107_0 := P107_0.keep K113
        replace P107_1 := P107_1.keep K113 nin0
        replace P108_0 := P108_0.keep K113 nin0
        replace P108_1 := P108_1.keep K113 nin0
        replace P108_2 := P108_2.keep K113 nin0
        replace P108_3 := P108_3.keep K113 nin0
        have OK113 := ext_keep OK108 K113 all0
        replace KP := KP.trans K113 all0
        refine Go.face X113 hx hZ hown (wd73 hw) (wd74 hw) (wd75 hw) (wd76 hw) (wd77 hw) (wd78 hw) (wd79 hw) (wd38 hw) (wd7 hw) (wd80 hw) (by decide) (cadd_2 l Z a0 hw b101 b2_113 d_105 ((2 : Int32)) b2_104 b2_107 (kd_105) h113 OK113 A101 g_b101 P108_0 P108_1 P108_2 P108_3 P113_0 g_d_105 ne_b101_d_105 P105_4) e113 A101 (by rw [hml]; rfl) (hb hby d1_48) (argsL := [(.ref b2_113)]) (rest := []) (lenOf pd12 rfl) rfl rfl (W := 0) (Nat.le_refl _) (by decide) ?_
        intro v114 T114 L114 X114 hQ114
        obtain ⟨h114, e114⟩ : ∃ z, T114.heap = z := ⟨_, rfl⟩
        rw [e114] at hQ114
        obtain ⟨rfl, N114q, K114, P114_0, P114_1, P114_2, P114_3⟩ := hQ114
        have N114 := Fr.app N113 N114q
        replace Eb := Eb.keep K114
        replace Vb := Vb.keep K114 (ninS ne_b_b101 (ninS ne_b_d_105 nin0))
        replace A101 := A101.keep K114
        replace P104_0 := P104_0.keep K114
        replace P104_1 := P104_1.keep K114 (ninS (Ne.symm ne_b101_b2_104) (ninS ne_b2_104_d_105 nin0))
        replace P107_0 := P107_0.keep K114
        replace P107_1 := P107_1.keep K114 (ninS (Ne.symm ne_b101_b2_107) (ninS (Ne.symm ne_d_105_b2_107) nin0))
        replace P113_0 := P113_0.keep K114
        replace P113_1 := P113_1.keep K114 (ninS (Ne.symm ne_b101_b2_113) (ninS (Ne.symm ne_d_105_b2_113) nin0))
        have OK114 := ext_keep OK113 K114 (allS g_b101 (allS g_d_105 all0))
        replace KP := KP.trans K114 (allS (Or.inr z_b101) (allS (Or.inr z_d_105) all0))
        refine Go.pop X114 hx (hb hby d1_53) rfl (q := 54) rfl ?_
        refine Go.iload X114 hx (hb hby d1_54) rfl (q := 56) rfl ?_
        refine Go.iconst X114 hx (hb hby d1_56) (r := (1 : Int32)) rfl (q := 57) rfl ?_
        refine Go.iadd X114 hx (hb hby d1_57) (r := (4 : Int32)) rfl (q := 58) rfl ?_
        refine Go.istoreN X114 hx (hb hby d1_58) (l' := #[.val (.ref b), .val (.int t), .val (.ref b101), .val (.int 4), .val (.int 3)]) rfl (q := 59) rfl ?_
        refine Go.goto X114 hx (hb hby d1_59) (q := 10) (by decide) (by decide) ?_
        refine Go.iloadN X114 hx (hb hby d1_10) rfl (q := 11) rfl ?_
        refine Go.aloadN X114 hx (hb hby d1_11) rfl rfl (q := 12) rfl ?_
        refine Go.alen X114 hx hZ e114 Vb (hb hby d1_12) ?_
        refine Go.icmpYes X114 hx (hb hby d1_13) (by decide) (q := 62) (by decide) (by decide) ?_
        refine Go.aloadN X114 hx (hb hby d1_62) rfl rfl (q := 63) rfl ?_
        have e115_0 := own_isT hc103
        have e115_1 := own_isT hc106
        have e115_2 := own_isF hc109
        exact Go.retA X114 hx hret hlk rfl rfl (hb hby d1_63) e114 (by decide) (by decide) ⟨b101, (3 : Int32), (0 : Int32), (0 : Int32), (1 : Int32), (0 : Int32), rfl, N114, KP, z_b101, A101, P114_1, ⟨fun q => absurd q hc109, fun _ => by rw [own_tb3, e115_0, e115_1, e115_2] <;> rfl⟩, by rw [own_tb3, e115_0, e115_1, e115_2] <;> rfl, Or.inr ⟨by decide, _, ⟨d_105, b2_104, _, _, _, P114_0, P114_3, rfl, by decide, by decide, P104_0, P104_1⟩⟩, Or.inr ⟨by decide, _, ⟨d_105, b2_107, _, _, _, P114_0, P114_3, rfl, by decide, by decide, P107_0, P107_1⟩⟩, Or.inr ⟨by decide, _, ⟨d_105, b2_113, _, _, _, P114_0, P114_3, rfl, by decide, by decide, P113_0, P113_1⟩⟩, Or.inl ⟨by decide, rfl⟩, Or.inl hc103, Or.inl hc106, Or.inr (own_oki (by rw [own_tb2, e115_0, e115_1] <;> rfl) (by rw [own_lt2, if_neg (own_is1n e115_1)] <;> rfl) (r := (2 : Int32)) (f := (0 : Int32)) ⟨by decide, (1 : Int32), _, ⟨d_105, b2_113, _, _, _, P114_0, P114_3, rfl, by decide, by decide, P113_0, P113_1⟩, by decide, by decide, rfl⟩)⟩
    · refine Go.icmpNo X105 hx (hb hby d1_31) (Jvm.Free.XT.ii_eq_f hc106) (q := 34) rfl ?_
      refine Go.iinc X105 hx (hb hby d1_34) rfl (r := (2 : Int32)) rfl (l' := #[.val (.ref b), .val (.int t), .val (.ref b101), .val (.int 1), .val (.int 2)]) rfl (q := 37) rfl ?_
      refine Go.goto X105 hx (hb hby d1_37) (q := 19) (by decide) (by decide) ?_
      refine Go.iload X105 hx (hb hby d1_19) rfl (q := 21) rfl ?_
      refine Go.aloadN X105 hx (hb hby d1_21) rfl rfl (q := 22) rfl ?_
      refine Go.alen X105 hx hZ e105 Vb (hb hby d1_22) ?_
      refine Go.icmpNo X105 hx (hb hby d1_23) (by decide) (q := 26) rfl ?_
      refine Go.aloadN X105 hx (hb hby d1_26) rfl rfl (q := 27) rfl ?_
      refine Go.iload X105 hx (hb hby d1_27) rfl (q := 29) rfl ?_
      refine Go.bal X105 hx hZ e105 Vb ⟨by decide, by decide⟩ (v := (.int x2)) rfl (hb hby d1_29) ?_
      refine Go.iloadN X105 hx (hb hby d1_30) rfl (q := 31) rfl ?_
      by_cases hc116 : x2 = t
      · refine Go.icmpYes X105 hx (hb hby d1_31) (Jvm.Free.XT.ii_eq_t hc116) (q := 40) (by decide) (by decide) ?_
        refine Go.aloadN X105 hx (hb hby d1_40) rfl rfl (q := 41) rfl ?_
        refine Go.aloadN X105 hx (hb hby d1_41) rfl rfl (q := 42) rfl ?_
        refine Go.iloadN X105 hx (hb hby d1_42) rfl (q := 43) rfl ?_
        refine Go.iload X105 hx (hb hby d1_43) rfl (q := 45) rfl ?_
        refine Go.callS X105 hx hZ hown (wd55 hw) (wd56 hw) (wd57 hw) (wd58 hw) (by decide) (ccr_1_2 l Z a0 hw b x0 x1 x2 x3 (kb) ((3 : Int32)) h105 OK105 Vb (by decide) (by decide)) e105 (by rw [hml]; rfl) (hb hby d1_45) (argsL := [(.ref b), (.int 1), (.int 2)]) (rest := [(.ref b101)]) (lenOf pd8 rfl) rfl rfl (W := 1) (Nat.le_refl _) (by decide) ?_
        intro v117 T117 L117 X117 hQ117
        obtain ⟨h117, e117⟩ : ∃ z, T117.heap = z := ⟨_, rfl⟩
        rw [e117] at hQ117
        obtain ⟨b2_117, kc_117, rfl, N117q, K117, fr117_b2, P117_0, P117_1⟩ := hQ117
        have N117 := Fr.app N105 N117q
        have ne_b_b2_117 : b ≠ b2_117 := ne_new Eb.lt fr117_b2
        have ne_b101_b2_117 : b101 ≠ b2_117 := ne_new A101.lt fr117_b2
        have ne_b2_104_b2_117 : b2_104 ≠ b2_117 := ne_new P104_0.lt fr117_b2
        have ne_d_105_b2_117 : d_105 ≠ b2_117 := ne_new P105_3.lt fr117_b2
        have g_b2_117 : Z.heap.size ≤ b2_117 := Nat.le_trans OK105.1 fr117_b2
        have z_b2_117 : h0.size ≤ b2_117 := Nat.le_trans KP.1 fr117_b2
        replace Eb := Eb.keep K117
        replace Vb := Vb.keep K117 nin0
        replace A101 := A101.keep K117
        replace P104_0 := P104_0.keep K117
        replace P104_1 := P104_1.keep K117 nin0
        replace P105_0 := P105_0.keep K117 nin0
        replace P105_1 := P105_1.keep K117 nin0
        replace P105_2 := P105_2.keep K117 nin0
        replace P105_3 := P105_3.keep K117 nin0
        have OK117 := ext_keep OK105 K117 all0
        replace KP := KP.trans K117 all0
        refine Go.face X117 hx hZ hown (wd73 hw) (wd74 hw) (wd75 hw) (wd76 hw) (wd77 hw) (wd78 hw) (wd79 hw) (wd38 hw) (wd7 hw) (wd80 hw) (by decide) (cadd_1 l Z a0 hw b101 b2_117 d_105 ((1 : Int32)) b2_104 (kd_105) h117 OK117 A101 g_b101 P105_0 P105_1 P105_2 P105_3 P117_0 g_d_105 ne_b101_d_105 P105_4) e117 A101 (by rw [hml]; rfl) (hb hby d1_48) (argsL := [(.ref b2_117)]) (rest := []) (lenOf pd12 rfl) rfl rfl (W := 0) (Nat.le_refl _) (by decide) ?_
        intro v118 T118 L118 X118 hQ118
        obtain ⟨h118, e118⟩ : ∃ z, T118.heap = z := ⟨_, rfl⟩
        rw [e118] at hQ118
        obtain ⟨rfl, N118q, K118, P118_0, P118_1, P118_2, P118_3⟩ := hQ118
        have N118 := Fr.app N117 N118q
        replace Eb := Eb.keep K118
        replace Vb := Vb.keep K118 (ninS ne_b_b101 (ninS ne_b_d_105 nin0))
        replace A101 := A101.keep K118
        replace P104_0 := P104_0.keep K118
        replace P104_1 := P104_1.keep K118 (ninS (Ne.symm ne_b101_b2_104) (ninS ne_b2_104_d_105 nin0))
        replace P117_0 := P117_0.keep K118
        replace P117_1 := P117_1.keep K118 (ninS (Ne.symm ne_b101_b2_117) (ninS (Ne.symm ne_d_105_b2_117) nin0))
        have OK118 := ext_keep OK117 K118 (allS g_b101 (allS g_d_105 all0))
        replace KP := KP.trans K118 (allS (Or.inr z_b101) (allS (Or.inr z_d_105) all0))
        refine Go.pop X118 hx (hb hby d1_53) rfl (q := 54) rfl ?_
        refine Go.iload X118 hx (hb hby d1_54) rfl (q := 56) rfl ?_
        refine Go.iconst X118 hx (hb hby d1_56) (r := (1 : Int32)) rfl (q := 57) rfl ?_
        refine Go.iadd X118 hx (hb hby d1_57) (r := (3 : Int32)) rfl (q := 58) rfl ?_
        refine Go.istoreN X118 hx (hb hby d1_58) (l' := #[.val (.ref b), .val (.int t), .val (.ref b101), .val (.int 3), .val (.int 2)]) rfl (q := 59) rfl ?_
        refine Go.goto X118 hx (hb hby d1_59) (q := 10) (by decide) (by decide) ?_
        refine Go.iloadN X118 hx (hb hby d1_10) rfl (q := 11) rfl ?_
        refine Go.aloadN X118 hx (hb hby d1_11) rfl rfl (q := 12) rfl ?_
        refine Go.alen X118 hx hZ e118 Vb (hb hby d1_12) ?_
        refine Go.icmpYes X118 hx (hb hby d1_13) (by decide) (q := 62) (by decide) (by decide) ?_
        refine Go.aloadN X118 hx (hb hby d1_62) rfl rfl (q := 63) rfl ?_
        have e119_0 := own_isT hc103
        have e119_1 := own_isF hc106
        have e119_2 := own_isT hc116
        exact Go.retA X118 hx hret hlk rfl rfl (hb hby d1_63) e118 (by decide) (by decide) ⟨b101, (2 : Int32), (0 : Int32), (1 : Int32), (0 : Int32), (0 : Int32), rfl, N118, KP, z_b101, A101, P118_1, ⟨fun _ => by rw [own_tb3, e119_0, e119_1, e119_2] <;> rfl, fun q => absurd hc116 q⟩, by rw [own_tb3, e119_0, e119_1, e119_2] <;> rfl, Or.inr ⟨by decide, _, ⟨d_105, b2_104, _, _, _, P118_0, P118_3, rfl, by decide, by decide, P104_0, P104_1⟩⟩, Or.inr ⟨by decide, _, ⟨d_105, b2_117, _, _, _, P118_0, P118_3, rfl, by decide, by decide, P117_0, P117_1⟩⟩, Or.inl ⟨by decide, rfl⟩, Or.inl ⟨by decide, rfl⟩, Or.inl hc103, Or.inr (own_oki (by rw [own_tb1, e119_0] <;> rfl) (by rw [own_lt1, if_neg (own_is1n e119_0)] <;> rfl) (r := (1 : Int32)) (f := (0 : Int32)) ⟨by decide, (1 : Int32), _, ⟨d_105, b2_117, _, _, _, P118_0, P118_3, rfl, by decide, by decide, P117_0, P117_1⟩, by decide, by decide, rfl⟩), Or.inl hc116⟩
      · refine Go.icmpNo X105 hx (hb hby d1_31) (Jvm.Free.XT.ii_eq_f hc116) (q := 34) rfl ?_
        refine Go.iinc X105 hx (hb hby d1_34) rfl (r := (3 : Int32)) rfl (l' := #[.val (.ref b), .val (.int t), .val (.ref b101), .val (.int 1), .val (.int 3)]) rfl (q := 37) rfl ?_
        refine Go.goto X105 hx (hb hby d1_37) (q := 19) (by decide) (by decide) ?_
        refine Go.iload X105 hx (hb hby d1_19) rfl (q := 21) rfl ?_
        refine Go.aloadN X105 hx (hb hby d1_21) rfl rfl (q := 22) rfl ?_
        refine Go.alen X105 hx hZ e105 Vb (hb hby d1_22) ?_
        refine Go.icmpYes X105 hx (hb hby d1_23) (by decide) (q := 40) (by decide) (by decide) ?_
        refine Go.aloadN X105 hx (hb hby d1_40) rfl rfl (q := 41) rfl ?_
        refine Go.aloadN X105 hx (hb hby d1_41) rfl rfl (q := 42) rfl ?_
        refine Go.iloadN X105 hx (hb hby d1_42) rfl (q := 43) rfl ?_
        refine Go.iload X105 hx (hb hby d1_43) rfl (q := 45) rfl ?_
        refine Go.callS X105 hx hZ hown (wd55 hw) (wd56 hw) (wd57 hw) (wd58 hw) (by decide) (ccr_1_3 l Z a0 hw b x0 x1 x2 x3 (kb) ((3 : Int32)) h105 OK105 Vb (by decide) (by decide)) e105 (by rw [hml]; rfl) (hb hby d1_45) (argsL := [(.ref b), (.int 1), (.int 3)]) (rest := [(.ref b101)]) (lenOf pd8 rfl) rfl rfl (W := 1) (Nat.le_refl _) (by decide) ?_
        intro v120 T120 L120 X120 hQ120
        obtain ⟨h120, e120⟩ : ∃ z, T120.heap = z := ⟨_, rfl⟩
        rw [e120] at hQ120
        obtain ⟨b2_120, kc_120, rfl, N120q, K120, fr120_b2, P120_0, P120_1⟩ := hQ120
        have N120 := Fr.app N105 N120q
        have ne_b_b2_120 : b ≠ b2_120 := ne_new Eb.lt fr120_b2
        have ne_b101_b2_120 : b101 ≠ b2_120 := ne_new A101.lt fr120_b2
        have ne_b2_104_b2_120 : b2_104 ≠ b2_120 := ne_new P104_0.lt fr120_b2
        have ne_d_105_b2_120 : d_105 ≠ b2_120 := ne_new P105_3.lt fr120_b2
        have g_b2_120 : Z.heap.size ≤ b2_120 := Nat.le_trans OK105.1 fr120_b2
        have z_b2_120 : h0.size ≤ b2_120 := Nat.le_trans KP.1 fr120_b2
        replace Eb := Eb.keep K120
        replace Vb := Vb.keep K120 nin0
        replace A101 := A101.keep K120
        replace P104_0 := P104_0.keep K120
        replace P104_1 := P104_1.keep K120 nin0
        replace P105_0 := P105_0.keep K120 nin0
        replace P105_1 := P105_1.keep K120 nin0
        replace P105_2 := P105_2.keep K120 nin0
        replace P105_3 := P105_3.keep K120 nin0
        have OK120 := ext_keep OK105 K120 all0
        replace KP := KP.trans K120 all0
        refine Go.face X120 hx hZ hown (wd73 hw) (wd74 hw) (wd75 hw) (wd76 hw) (wd77 hw) (wd78 hw) (wd79 hw) (wd38 hw) (wd7 hw) (wd80 hw) (by decide) (cadd_1 l Z a0 hw b101 b2_120 d_105 ((1 : Int32)) b2_104 (kd_105) h120 OK120 A101 g_b101 P105_0 P105_1 P105_2 P105_3 P120_0 g_d_105 ne_b101_d_105 P105_4) e120 A101 (by rw [hml]; rfl) (hb hby d1_48) (argsL := [(.ref b2_120)]) (rest := []) (lenOf pd12 rfl) rfl rfl (W := 0) (Nat.le_refl _) (by decide) ?_
        intro v121 T121 L121 X121 hQ121
        obtain ⟨h121, e121⟩ : ∃ z, T121.heap = z := ⟨_, rfl⟩
        rw [e121] at hQ121
        obtain ⟨rfl, N121q, K121, P121_0, P121_1, P121_2, P121_3⟩ := hQ121
        have N121 := Fr.app N120 N121q
        replace Eb := Eb.keep K121
        replace Vb := Vb.keep K121 (ninS ne_b_b101 (ninS ne_b_d_105 nin0))
        replace A101 := A101.keep K121
        replace P104_0 := P104_0.keep K121
        replace P104_1 := P104_1.keep K121 (ninS (Ne.symm ne_b101_b2_104) (ninS ne_b2_104_d_105 nin0))
        replace P120_0 := P120_0.keep K121
        replace P120_1 := P120_1.keep K121 (ninS (Ne.symm ne_b101_b2_120) (ninS (Ne.symm ne_d_105_b2_120) nin0))
        have OK121 := ext_keep OK120 K121 (allS g_b101 (allS g_d_105 all0))
        replace KP := KP.trans K121 (allS (Or.inr z_b101) (allS (Or.inr z_d_105) all0))
        refine Go.pop X121 hx (hb hby d1_53) rfl (q := 54) rfl ?_
        refine Go.iload X121 hx (hb hby d1_54) rfl (q := 56) rfl ?_
        refine Go.iconst X121 hx (hb hby d1_56) (r := (1 : Int32)) rfl (q := 57) rfl ?_
        refine Go.iadd X121 hx (hb hby d1_57) (r := (4 : Int32)) rfl (q := 58) rfl ?_
        refine Go.istoreN X121 hx (hb hby d1_58) (l' := #[.val (.ref b), .val (.int t), .val (.ref b101), .val (.int 4), .val (.int 3)]) rfl (q := 59) rfl ?_
        refine Go.goto X121 hx (hb hby d1_59) (q := 10) (by decide) (by decide) ?_
        refine Go.iloadN X121 hx (hb hby d1_10) rfl (q := 11) rfl ?_
        refine Go.aloadN X121 hx (hb hby d1_11) rfl rfl (q := 12) rfl ?_
        refine Go.alen X121 hx hZ e121 Vb (hb hby d1_12) ?_
        refine Go.icmpYes X121 hx (hb hby d1_13) (by decide) (q := 62) (by decide) (by decide) ?_
        refine Go.aloadN X121 hx (hb hby d1_62) rfl rfl (q := 63) rfl ?_
        have e122_0 := own_isT hc103
        have e122_1 := own_isF hc106
        have e122_2 := own_isF hc116
        exact Go.retA X121 hx hret hlk rfl rfl (hb hby d1_63) e121 (by decide) (by decide) ⟨b101, (2 : Int32), (0 : Int32), (2 : Int32), (0 : Int32), (0 : Int32), rfl, N121, KP, z_b101, A101, P121_1, ⟨fun q => absurd q hc116, fun _ => by rw [own_tb3, e122_0, e122_1, e122_2] <;> rfl⟩, by rw [own_tb3, e122_0, e122_1, e122_2] <;> rfl, Or.inr ⟨by decide, _, ⟨d_105, b2_104, _, _, _, P121_0, P121_3, rfl, by decide, by decide, P104_0, P104_1⟩⟩, Or.inr ⟨by decide, _, ⟨d_105, b2_120, _, _, _, P121_0, P121_3, rfl, by decide, by decide, P120_0, P120_1⟩⟩, Or.inl ⟨by decide, rfl⟩, Or.inl ⟨by decide, rfl⟩, Or.inl hc103, Or.inr (own_oki (by rw [own_tb1, e122_0] <;> rfl) (by rw [own_lt1, if_neg (own_is1n e122_0)] <;> rfl) (r := (1 : Int32)) (f := (0 : Int32)) ⟨by decide, (2 : Int32), _, ⟨d_105, b2_120, _, _, _, P121_0, P121_3, rfl, by decide, by decide, P120_0, P120_1⟩, by decide, by decide, rfl⟩), Or.inr (own_oki (by rw [own_tb2, e122_0, e122_1] <;> rfl) (by rw [own_lt2, if_pos e122_1, own_lt1, if_neg (own_is1n e122_0)] <;> rfl) (r := (1 : Int32)) (f := (1 : Int32)) ⟨by decide, (2 : Int32), _, ⟨d_105, b2_120, _, _, _, P121_0, P121_3, rfl, by decide, by decide, P120_0, P120_1⟩, by decide, by decide, rfl⟩)⟩
  · refine Go.icmpNo X102 hx (hb hby d1_31) (Jvm.Free.XT.ii_eq_f hc103) (q := 34) rfl ?_
    refine Go.iinc X102 hx (hb hby d1_34) rfl (r := (1 : Int32)) rfl (l' := #[.val (.ref b), .val (.int t), .val (.ref b101), .val (.int 0), .val (.int 1)]) rfl (q := 37) rfl ?_
    refine Go.goto X102 hx (hb hby d1_37) (q := 19) (by decide) (by decide) ?_
    refine Go.iload X102 hx (hb hby d1_19) rfl (q := 21) rfl ?_
    refine Go.aloadN X102 hx (hb hby d1_21) rfl rfl (q := 22) rfl ?_
    refine Go.alen X102 hx hZ e102 Vb (hb hby d1_22) ?_
    refine Go.icmpNo X102 hx (hb hby d1_23) (by decide) (q := 26) rfl ?_
    refine Go.aloadN X102 hx (hb hby d1_26) rfl rfl (q := 27) rfl ?_
    refine Go.iload X102 hx (hb hby d1_27) rfl (q := 29) rfl ?_
    refine Go.bal X102 hx hZ e102 Vb ⟨by decide, by decide⟩ (v := (.int x1)) rfl (hb hby d1_29) ?_
    refine Go.iloadN X102 hx (hb hby d1_30) rfl (q := 31) rfl ?_
    by_cases hc123 : x1 = t
    · refine Go.icmpYes X102 hx (hb hby d1_31) (Jvm.Free.XT.ii_eq_t hc123) (q := 40) (by decide) (by decide) ?_
      refine Go.aloadN X102 hx (hb hby d1_40) rfl rfl (q := 41) rfl ?_
      refine Go.aloadN X102 hx (hb hby d1_41) rfl rfl (q := 42) rfl ?_
      refine Go.iloadN X102 hx (hb hby d1_42) rfl (q := 43) rfl ?_
      refine Go.iload X102 hx (hb hby d1_43) rfl (q := 45) rfl ?_
      refine Go.callS X102 hx hZ hown (wd55 hw) (wd56 hw) (wd57 hw) (wd58 hw) (by decide) (ccr_0_1 l Z a0 hw b x0 x1 x2 x3 (kb) ((3 : Int32)) h102 OK102 Vb (by decide) (by decide) (by decide)) e102 (by rw [hml]; rfl) (hb hby d1_45) (argsL := [(.ref b), (.int 0), (.int 1)]) (rest := [(.ref b101)]) (lenOf pd8 rfl) rfl rfl (W := 1) (Nat.le_refl _) (by decide) ?_
      intro v124 T124 L124 X124 hQ124
      obtain ⟨h124, e124⟩ : ∃ z, T124.heap = z := ⟨_, rfl⟩
      rw [e124] at hQ124
      obtain ⟨b2_124, kc_124, rfl, N124q, K124, fr124_b2, P124_0, P124_1⟩ := hQ124
      have N124 := Fr.app N102 N124q
      have ne_b_b2_124 : b ≠ b2_124 := ne_new Eb.lt fr124_b2
      have ne_b101_b2_124 : b101 ≠ b2_124 := ne_new A101.lt fr124_b2
      have g_b2_124 : Z.heap.size ≤ b2_124 := Nat.le_trans OK102.1 fr124_b2
      have z_b2_124 : h0.size ≤ b2_124 := Nat.le_trans KP.1 fr124_b2
      replace Eb := Eb.keep K124
      replace Vb := Vb.keep K124 nin0
      replace A101 := A101.keep K124
      replace P102_0 := P102_0.keep K124 nin0
      replace P102_1 := P102_1.keep K124 nin0
      replace P102_2 := P102_2.keep K124 nin0
      have OK124 := ext_keep OK102 K124 all0
      replace KP := KP.trans K124 all0
      refine Go.face X124 hx hZ hown (wd73 hw) (wd74 hw) (wd75 hw) (wd76 hw) (wd77 hw) (wd78 hw) (wd79 hw) (wd38 hw) (wd7 hw) (wd80 hw) (by decide) (cadd_0 l Z a0 hw b101 b2_124 de ((0 : Int32)) h124 OK124 A101 g_b101 P102_0 P102_1 P102_2 P124_0 SD LD) e124 A101 (by rw [hml]; rfl) (hb hby d1_48) (argsL := [(.ref b2_124)]) (rest := []) (lenOf pd12 rfl) rfl rfl (W := 0) (Nat.le_refl _) (by decide) ?_
      intro v125 T125 L125 X125 hQ125
      obtain ⟨h125, e125⟩ : ∃ z, T125.heap = z := ⟨_, rfl⟩
      rw [e125] at hQ125
      obtain ⟨d_125, kd_125, rfl, N125q, K125, fr125_d, P125_0, P125_1, P125_2, P125_3, P125_4⟩ := hQ125
      have N125 := Fr.app N124 N125q
      have ne_b_d_125 : b ≠ d_125 := ne_new Eb.lt fr125_d
      have ne_b101_d_125 : b101 ≠ d_125 := ne_new A101.lt fr125_d
      have ne_b2_124_d_125 : b2_124 ≠ d_125 := ne_new P124_0.lt fr125_d
      have g_d_125 : Z.heap.size ≤ d_125 := Nat.le_trans OK124.1 fr125_d
      have z_d_125 : h0.size ≤ d_125 := Nat.le_trans KP.1 fr125_d
      replace Eb := Eb.keep K125
      replace Vb := Vb.keep K125 (ninS ne_b_b101 nin0)
      replace A101 := A101.keep K125
      replace P124_0 := P124_0.keep K125
      replace P124_1 := P124_1.keep K125 (ninS (Ne.symm ne_b101_b2_124) nin0)
      have OK125 := ext_keep OK124 K125 (allS g_b101 all0)
      replace KP := KP.trans K125 (allS (Or.inr z_b101) all0)
      refine Go.pop X125 hx (hb hby d1_53) rfl (q := 54) rfl ?_
      refine Go.iload X125 hx (hb hby d1_54) rfl (q := 56) rfl ?_
      refine Go.iconst X125 hx (hb hby d1_56) (r := (1 : Int32)) rfl (q := 57) rfl ?_
      refine Go.iadd X125 hx (hb hby d1_57) (r := (2 : Int32)) rfl (q := 58) rfl ?_
      refine Go.istoreN X125 hx (hb hby d1_58) (l' := #[.val (.ref b), .val (.int t), .val (.ref b101), .val (.int 2), .val (.int 1)]) rfl (q := 59) rfl ?_
      refine Go.goto X125 hx (hb hby d1_59) (q := 10) (by decide) (by decide) ?_
      refine Go.iloadN X125 hx (hb hby d1_10) rfl (q := 11) rfl ?_
      refine Go.aloadN X125 hx (hb hby d1_11) rfl rfl (q := 12) rfl ?_
      refine Go.alen X125 hx hZ e125 Vb (hb hby d1_12) ?_
      refine Go.icmpNo X125 hx (hb hby d1_13) (by decide) (q := 16) rfl ?_
      refine Go.iloadN X125 hx (hb hby d1_16) rfl (q := 17) rfl ?_
      refine Go.istore X125 hx (hb hby d1_17) (l' := #[.val (.ref b), .val (.int t), .val (.ref b101), .val (.int 2), .val (.int 2)]) rfl (q := 19) rfl ?_
      refine Go.iload X125 hx (hb hby d1_19) rfl (q := 21) rfl ?_
      refine Go.aloadN X125 hx (hb hby d1_21) rfl rfl (q := 22) rfl ?_
      refine Go.alen X125 hx hZ e125 Vb (hb hby d1_22) ?_
      refine Go.icmpNo X125 hx (hb hby d1_23) (by decide) (q := 26) rfl ?_
      refine Go.aloadN X125 hx (hb hby d1_26) rfl rfl (q := 27) rfl ?_
      refine Go.iload X125 hx (hb hby d1_27) rfl (q := 29) rfl ?_
      refine Go.bal X125 hx hZ e125 Vb ⟨by decide, by decide⟩ (v := (.int x2)) rfl (hb hby d1_29) ?_
      refine Go.iloadN X125 hx (hb hby d1_30) rfl (q := 31) rfl ?_
      by_cases hc126 : x2 = t
      · refine Go.icmpYes X125 hx (hb hby d1_31) (Jvm.Free.XT.ii_eq_t hc126) (q := 40) (by decide) (by decide) ?_
        refine Go.aloadN X125 hx (hb hby d1_40) rfl rfl (q := 41) rfl ?_
        refine Go.aloadN X125 hx (hb hby d1_41) rfl rfl (q := 42) rfl ?_
        refine Go.iloadN X125 hx (hb hby d1_42) rfl (q := 43) rfl ?_
        refine Go.iload X125 hx (hb hby d1_43) rfl (q := 45) rfl ?_
        refine Go.callS X125 hx hZ hown (wd55 hw) (wd56 hw) (wd57 hw) (wd58 hw) (by decide) (ccr_2_2 l Z a0 hw b x0 x1 x2 x3 (kb) ((3 : Int32)) h125 OK125 Vb (by decide) (by decide)) e125 (by rw [hml]; rfl) (hb hby d1_45) (argsL := [(.ref b), (.int 2), (.int 2)]) (rest := [(.ref b101)]) (lenOf pd8 rfl) rfl rfl (W := 1) (Nat.le_refl _) (by decide) ?_
        intro v127 T127 L127 X127 hQ127
        obtain ⟨h127, e127⟩ : ∃ z, T127.heap = z := ⟨_, rfl⟩
        rw [e127] at hQ127
        obtain ⟨b2_127, kc_127, rfl, N127q, K127, fr127_b2, P127_0, P127_1⟩ := hQ127
        have N127 := Fr.app N125 N127q
        have ne_b_b2_127 : b ≠ b2_127 := ne_new Eb.lt fr127_b2
        have ne_b101_b2_127 : b101 ≠ b2_127 := ne_new A101.lt fr127_b2
        have ne_b2_124_b2_127 : b2_124 ≠ b2_127 := ne_new P124_0.lt fr127_b2
        have ne_d_125_b2_127 : d_125 ≠ b2_127 := ne_new P125_3.lt fr127_b2
        have g_b2_127 : Z.heap.size ≤ b2_127 := Nat.le_trans OK125.1 fr127_b2
        have z_b2_127 : h0.size ≤ b2_127 := Nat.le_trans KP.1 fr127_b2
        replace Eb := Eb.keep K127
        replace Vb := Vb.keep K127 nin0
        replace A101 := A101.keep K127
        replace P124_0 := P124_0.keep K127
        replace P124_1 := P124_1.keep K127 nin0
        replace P125_0 := P125_0.keep K127 nin0
        replace P125_1 := P125_1.keep K127 nin0
        replace P125_2 := P125_2.keep K127 nin0
        replace P125_3 := P125_3.keep K127 nin0
        have OK127 := ext_keep OK125 K127 all0
        replace KP := KP.trans K127 all0
        refine Go.face X127 hx hZ hown (wd73 hw) (wd74 hw) (wd75 hw) (wd76 hw) (wd77 hw) (wd78 hw) (wd79 hw) (wd38 hw) (wd7 hw) (wd80 hw) (by decide) (cadd_1 l Z a0 hw b101 b2_127 d_125 ((1 : Int32)) b2_124 (kd_125) h127 OK127 A101 g_b101 P125_0 P125_1 P125_2 P125_3 P127_0 g_d_125 ne_b101_d_125 P125_4) e127 A101 (by rw [hml]; rfl) (hb hby d1_48) (argsL := [(.ref b2_127)]) (rest := []) (lenOf pd12 rfl) rfl rfl (W := 0) (Nat.le_refl _) (by decide) ?_
        intro v128 T128 L128 X128 hQ128
        obtain ⟨h128, e128⟩ : ∃ z, T128.heap = z := ⟨_, rfl⟩
        rw [e128] at hQ128
        obtain ⟨rfl, N128q, K128, P128_0, P128_1, P128_2, P128_3⟩ := hQ128
        have N128 := Fr.app N127 N128q
        replace Eb := Eb.keep K128
        replace Vb := Vb.keep K128 (ninS ne_b_b101 (ninS ne_b_d_125 nin0))
        replace A101 := A101.keep K128
        replace P124_0 := P124_0.keep K128
        replace P124_1 := P124_1.keep K128 (ninS (Ne.symm ne_b101_b2_124) (ninS ne_b2_124_d_125 nin0))
        replace P127_0 := P127_0.keep K128
        replace P127_1 := P127_1.keep K128 (ninS (Ne.symm ne_b101_b2_127) (ninS (Ne.symm ne_d_125_b2_127) nin0))
        have OK128 := ext_keep OK127 K128 (allS g_b101 (allS g_d_125 all0))
        replace KP := KP.trans K128 (allS (Or.inr z_b101) (allS (Or.inr z_d_125) all0))
        refine Go.pop X128 hx (hb hby d1_53) rfl (q := 54) rfl ?_
        refine Go.iload X128 hx (hb hby d1_54) rfl (q := 56) rfl ?_
        refine Go.iconst X128 hx (hb hby d1_56) (r := (1 : Int32)) rfl (q := 57) rfl ?_
        refine Go.iadd X128 hx (hb hby d1_57) (r := (3 : Int32)) rfl (q := 58) rfl ?_
        refine Go.istoreN X128 hx (hb hby d1_58) (l' := #[.val (.ref b), .val (.int t), .val (.ref b101), .val (.int 3), .val (.int 2)]) rfl (q := 59) rfl ?_
        refine Go.goto X128 hx (hb hby d1_59) (q := 10) (by decide) (by decide) ?_
        refine Go.iloadN X128 hx (hb hby d1_10) rfl (q := 11) rfl ?_
        refine Go.aloadN X128 hx (hb hby d1_11) rfl rfl (q := 12) rfl ?_
        refine Go.alen X128 hx hZ e128 Vb (hb hby d1_12) ?_
        refine Go.icmpYes X128 hx (hb hby d1_13) (by decide) (q := 62) (by decide) (by decide) ?_
        refine Go.aloadN X128 hx (hb hby d1_62) rfl rfl (q := 63) rfl ?_
        have e129_0 := own_isF hc103
        have e129_1 := own_isT hc123
        have e129_2 := own_isT hc126
        exact Go.retA X128 hx hret hlk rfl rfl (hb hby d1_63) e128 (by decide) (by decide) ⟨b101, (2 : Int32), (1 : Int32), (0 : Int32), (0 : Int32), (0 : Int32), rfl, N128, KP, z_b101, A101, P128_1, ⟨fun _ => by rw [own_tb3, e129_0, e129_1, e129_2] <;> rfl, fun q => absurd hc126 q⟩, by rw [own_tb3, e129_0, e129_1, e129_2] <;> rfl, Or.inr ⟨by decide, _, ⟨d_125, b2_124, _, _, _, P128_0, P128_3, rfl, by decide, by decide, P124_0, P124_1⟩⟩, Or.inr ⟨by decide, _, ⟨d_125, b2_127, _, _, _, P128_0, P128_3, rfl, by decide, by decide, P127_0, P127_1⟩⟩, Or.inl ⟨by decide, rfl⟩, Or.inl ⟨by decide, rfl⟩, Or.inr ⟨by decide, (1 : Int32), _, ⟨d_125, b2_124, _, _, _, P128_0, P128_3, rfl, by decide, by decide, P124_0, P124_1⟩, by decide, by decide, rfl⟩, Or.inl hc123, Or.inl hc126⟩
      · refine Go.icmpNo X125 hx (hb hby d1_31) (Jvm.Free.XT.ii_eq_f hc126) (q := 34) rfl ?_
        refine Go.iinc X125 hx (hb hby d1_34) rfl (r := (3 : Int32)) rfl (l' := #[.val (.ref b), .val (.int t), .val (.ref b101), .val (.int 2), .val (.int 3)]) rfl (q := 37) rfl ?_
        refine Go.goto X125 hx (hb hby d1_37) (q := 19) (by decide) (by decide) ?_
        refine Go.iload X125 hx (hb hby d1_19) rfl (q := 21) rfl ?_
        refine Go.aloadN X125 hx (hb hby d1_21) rfl rfl (q := 22) rfl ?_
        refine Go.alen X125 hx hZ e125 Vb (hb hby d1_22) ?_
        refine Go.icmpYes X125 hx (hb hby d1_23) (by decide) (q := 40) (by decide) (by decide) ?_
        refine Go.aloadN X125 hx (hb hby d1_40) rfl rfl (q := 41) rfl ?_
        refine Go.aloadN X125 hx (hb hby d1_41) rfl rfl (q := 42) rfl ?_
        refine Go.iloadN X125 hx (hb hby d1_42) rfl (q := 43) rfl ?_
        refine Go.iload X125 hx (hb hby d1_43) rfl (q := 45) rfl ?_
        refine Go.callS X125 hx hZ hown (wd55 hw) (wd56 hw) (wd57 hw) (wd58 hw) (by decide) (ccr_2_3 l Z a0 hw b x0 x1 x2 x3 (kb) ((3 : Int32)) h125 OK125 Vb (by decide) (by decide)) e125 (by rw [hml]; rfl) (hb hby d1_45) (argsL := [(.ref b), (.int 2), (.int 3)]) (rest := [(.ref b101)]) (lenOf pd8 rfl) rfl rfl (W := 1) (Nat.le_refl _) (by decide) ?_
        intro v130 T130 L130 X130 hQ130
        obtain ⟨h130, e130⟩ : ∃ z, T130.heap = z := ⟨_, rfl⟩
        rw [e130] at hQ130
        obtain ⟨b2_130, kc_130, rfl, N130q, K130, fr130_b2, P130_0, P130_1⟩ := hQ130
        have N130 := Fr.app N125 N130q
        have ne_b_b2_130 : b ≠ b2_130 := ne_new Eb.lt fr130_b2
        have ne_b101_b2_130 : b101 ≠ b2_130 := ne_new A101.lt fr130_b2
        have ne_b2_124_b2_130 : b2_124 ≠ b2_130 := ne_new P124_0.lt fr130_b2
        have ne_d_125_b2_130 : d_125 ≠ b2_130 := ne_new P125_3.lt fr130_b2
        have g_b2_130 : Z.heap.size ≤ b2_130 := Nat.le_trans OK125.1 fr130_b2
        have z_b2_130 : h0.size ≤ b2_130 := Nat.le_trans KP.1 fr130_b2
        replace Eb := Eb.keep K130
        replace Vb := Vb.keep K130 nin0
        replace A101 := A101.keep K130
        replace P124_0 := P124_0.keep K130
        replace P124_1 := P124_1.keep K130 nin0
        replace P125_0 := P125_0.keep K130 nin0
        replace P125_1 := P125_1.keep K130 nin0
        replace P125_2 := P125_2.keep K130 nin0
        replace P125_3 := P125_3.keep K130 nin0
        have OK130 := ext_keep OK125 K130 all0
        replace KP := KP.trans K130 all0
        refine Go.face X130 hx hZ hown (wd73 hw) (wd74 hw) (wd75 hw) (wd76 hw) (wd77 hw) (wd78 hw) (wd79 hw) (wd38 hw) (wd7 hw) (wd80 hw) (by decide) (cadd_1 l Z a0 hw b101 b2_130 d_125 ((1 : Int32)) b2_124 (kd_125) h130 OK130 A101 g_b101 P125_0 P125_1 P125_2 P125_3 P130_0 g_d_125 ne_b101_d_125 P125_4) e130 A101 (by rw [hml]; rfl) (hb hby d1_48) (argsL := [(.ref b2_130)]) (rest := []) (lenOf pd12 rfl) rfl rfl (W := 0) (Nat.le_refl _) (by decide) ?_
        intro v131 T131 L131 X131 hQ131
        obtain ⟨h131, e131⟩ : ∃ z, T131.heap = z := ⟨_, rfl⟩
        rw [e131] at hQ131
        obtain ⟨rfl, N131q, K131, P131_0, P131_1, P131_2, P131_3⟩ := hQ131
        have N131 := Fr.app N130 N131q
        replace Eb := Eb.keep K131
        replace Vb := Vb.keep K131 (ninS ne_b_b101 (ninS ne_b_d_125 nin0))
        replace A101 := A101.keep K131
        replace P124_0 := P124_0.keep K131
        replace P124_1 := P124_1.keep K131 (ninS (Ne.symm ne_b101_b2_124) (ninS ne_b2_124_d_125 nin0))
        replace P130_0 := P130_0.keep K131
        replace P130_1 := P130_1.keep K131 (ninS (Ne.symm ne_b101_b2_130) (ninS (Ne.symm ne_d_125_b2_130) nin0))
        have OK131 := ext_keep OK130 K131 (allS g_b101 (allS g_d_125 all0))
        replace KP := KP.trans K131 (allS (Or.inr z_b101) (allS (Or.inr z_d_125) all0))
        refine Go.pop X131 hx (hb hby d1_53) rfl (q := 54) rfl ?_
        refine Go.iload X131 hx (hb hby d1_54) rfl (q := 56) rfl ?_
        refine Go.iconst X131 hx (hb hby d1_56) (r := (1 : Int32)) rfl (q := 57) rfl ?_
        refine Go.iadd X131 hx (hb hby d1_57) (r := (4 : Int32)) rfl (q := 58) rfl ?_
        refine Go.istoreN X131 hx (hb hby d1_58) (l' := #[.val (.ref b), .val (.int t), .val (.ref b101), .val (.int 4), .val (.int 3)]) rfl (q := 59) rfl ?_
        refine Go.goto X131 hx (hb hby d1_59) (q := 10) (by decide) (by decide) ?_
        refine Go.iloadN X131 hx (hb hby d1_10) rfl (q := 11) rfl ?_
        refine Go.aloadN X131 hx (hb hby d1_11) rfl rfl (q := 12) rfl ?_
        refine Go.alen X131 hx hZ e131 Vb (hb hby d1_12) ?_
        refine Go.icmpYes X131 hx (hb hby d1_13) (by decide) (q := 62) (by decide) (by decide) ?_
        refine Go.aloadN X131 hx (hb hby d1_62) rfl rfl (q := 63) rfl ?_
        have e132_0 := own_isF hc103
        have e132_1 := own_isT hc123
        have e132_2 := own_isF hc126
        exact Go.retA X131 hx hret hlk rfl rfl (hb hby d1_63) e131 (by decide) (by decide) ⟨b101, (2 : Int32), (1 : Int32), (1 : Int32), (0 : Int32), (0 : Int32), rfl, N131, KP, z_b101, A101, P131_1, ⟨fun q => absurd q hc126, fun _ => by rw [own_tb3, e132_0, e132_1, e132_2] <;> rfl⟩, by rw [own_tb3, e132_0, e132_1, e132_2] <;> rfl, Or.inr ⟨by decide, _, ⟨d_125, b2_124, _, _, _, P131_0, P131_3, rfl, by decide, by decide, P124_0, P124_1⟩⟩, Or.inr ⟨by decide, _, ⟨d_125, b2_130, _, _, _, P131_0, P131_3, rfl, by decide, by decide, P130_0, P130_1⟩⟩, Or.inl ⟨by decide, rfl⟩, Or.inl ⟨by decide, rfl⟩, Or.inr ⟨by decide, (1 : Int32), _, ⟨d_125, b2_124, _, _, _, P131_0, P131_3, rfl, by decide, by decide, P124_0, P124_1⟩, by decide, by decide, rfl⟩, Or.inl hc123, Or.inr (own_oki (by rw [own_tb2, e132_0, e132_1] <;> rfl) (by rw [own_lt2, if_neg (own_is1n e132_1)] <;> rfl) (r := (1 : Int32)) (f := (0 : Int32)) ⟨by decide, (1 : Int32), _, ⟨d_125, b2_130, _, _, _, P131_0, P131_3, rfl, by decide, by decide, P130_0, P130_1⟩, by decide, by decide, rfl⟩)⟩
    · refine Go.icmpNo X102 hx (hb hby d1_31) (Jvm.Free.XT.ii_eq_f hc123) (q := 34) rfl ?_
      refine Go.iinc X102 hx (hb hby d1_34) rfl (r := (2 : Int32)) rfl (l' := #[.val (.ref b), .val (.int t), .val (.ref b101), .val (.int 0), .val (.int 2)]) rfl (q := 37) rfl ?_
      refine Go.goto X102 hx (hb hby d1_37) (q := 19) (by decide) (by decide) ?_
      refine Go.iload X102 hx (hb hby d1_19) rfl (q := 21) rfl ?_
      refine Go.aloadN X102 hx (hb hby d1_21) rfl rfl (q := 22) rfl ?_
      refine Go.alen X102 hx hZ e102 Vb (hb hby d1_22) ?_
      refine Go.icmpNo X102 hx (hb hby d1_23) (by decide) (q := 26) rfl ?_
      refine Go.aloadN X102 hx (hb hby d1_26) rfl rfl (q := 27) rfl ?_
      refine Go.iload X102 hx (hb hby d1_27) rfl (q := 29) rfl ?_
      refine Go.bal X102 hx hZ e102 Vb ⟨by decide, by decide⟩ (v := (.int x2)) rfl (hb hby d1_29) ?_
      refine Go.iloadN X102 hx (hb hby d1_30) rfl (q := 31) rfl ?_
      by_cases hc133 : x2 = t
      · refine Go.icmpYes X102 hx (hb hby d1_31) (Jvm.Free.XT.ii_eq_t hc133) (q := 40) (by decide) (by decide) ?_
        refine Go.aloadN X102 hx (hb hby d1_40) rfl rfl (q := 41) rfl ?_
        refine Go.aloadN X102 hx (hb hby d1_41) rfl rfl (q := 42) rfl ?_
        refine Go.iloadN X102 hx (hb hby d1_42) rfl (q := 43) rfl ?_
        refine Go.iload X102 hx (hb hby d1_43) rfl (q := 45) rfl ?_
        refine Go.callS X102 hx hZ hown (wd55 hw) (wd56 hw) (wd57 hw) (wd58 hw) (by decide) (ccr_0_2 l Z a0 hw b x0 x1 x2 x3 (kb) ((3 : Int32)) h102 OK102 Vb (by decide) (by decide) (by decide)) e102 (by rw [hml]; rfl) (hb hby d1_45) (argsL := [(.ref b), (.int 0), (.int 2)]) (rest := [(.ref b101)]) (lenOf pd8 rfl) rfl rfl (W := 1) (Nat.le_refl _) (by decide) ?_
        intro v134 T134 L134 X134 hQ134
        obtain ⟨h134, e134⟩ : ∃ z, T134.heap = z := ⟨_, rfl⟩
        rw [e134] at hQ134
        obtain ⟨b2_134, kc_134, rfl, N134q, K134, fr134_b2, P134_0, P134_1⟩ := hQ134
        have N134 := Fr.app N102 N134q
        have ne_b_b2_134 : b ≠ b2_134 := ne_new Eb.lt fr134_b2
        have ne_b101_b2_134 : b101 ≠ b2_134 := ne_new A101.lt fr134_b2
        have g_b2_134 : Z.heap.size ≤ b2_134 := Nat.le_trans OK102.1 fr134_b2
        have z_b2_134 : h0.size ≤ b2_134 := Nat.le_trans KP.1 fr134_b2
        replace Eb := Eb.keep K134
        replace Vb := Vb.keep K134 nin0
        replace A101 := A101.keep K134
        replace P102_0 := P102_0.keep K134 nin0
        replace P102_1 := P102_1.keep K134 nin0
        replace P102_2 := P102_2.keep K134 nin0
        have OK134 := ext_keep OK102 K134 all0
        replace KP := KP.trans K134 all0
        refine Go.face X134 hx hZ hown (wd73 hw) (wd74 hw) (wd75 hw) (wd76 hw) (wd77 hw) (wd78 hw) (wd79 hw) (wd38 hw) (wd7 hw) (wd80 hw) (by decide) (cadd_0 l Z a0 hw b101 b2_134 de ((0 : Int32)) h134 OK134 A101 g_b101 P102_0 P102_1 P102_2 P134_0 SD LD) e134 A101 (by rw [hml]; rfl) (hb hby d1_48) (argsL := [(.ref b2_134)]) (rest := []) (lenOf pd12 rfl) rfl rfl (W := 0) (Nat.le_refl _) (by decide) ?_
        intro v135 T135 L135 X135 hQ135
        obtain ⟨h135, e135⟩ : ∃ z, T135.heap = z := ⟨_, rfl⟩
        rw [e135] at hQ135
        obtain ⟨d_135, kd_135, rfl, N135q, K135, fr135_d, P135_0, P135_1, P135_2, P135_3, P135_4⟩ := hQ135
        have N135 := Fr.app N134 N135q
        have ne_b_d_135 : b ≠ d_135 := ne_new Eb.lt fr135_d
        have ne_b101_d_135 : b101 ≠ d_135 := ne_new A101.lt fr135_d
        have ne_b2_134_d_135 : b2_134 ≠ d_135 := ne_new P134_0.lt fr135_d
        have g_d_135 : Z.heap.size ≤ d_135 := Nat.le_trans OK134.1 fr135_d
        have z_d_135 : h0.size ≤ d_135 := Nat.le_trans KP.1 fr135_d
        replace Eb := Eb.keep K135
        replace Vb := Vb.keep K135 (ninS ne_b_b101 nin0)
        replace A101 := A101.keep K135
        replace P134_0 := P134_0.keep K135
        replace P134_1 := P134_1.keep K135 (ninS (Ne.symm ne_b101_b2_134) nin0)
        have OK135 := ext_keep OK134 K135 (allS g_b101 all0)
        replace KP := KP.trans K135 (allS (Or.inr z_b101) all0)
        refine Go.pop X135 hx (hb hby d1_53) rfl (q := 54) rfl ?_
        refine Go.iload X135 hx (hb hby d1_54) rfl (q := 56) rfl ?_
        refine Go.iconst X135 hx (hb hby d1_56) (r := (1 : Int32)) rfl (q := 57) rfl ?_
        refine Go.iadd X135 hx (hb hby d1_57) (r := (3 : Int32)) rfl (q := 58) rfl ?_
        refine Go.istoreN X135 hx (hb hby d1_58) (l' := #[.val (.ref b), .val (.int t), .val (.ref b101), .val (.int 3), .val (.int 2)]) rfl (q := 59) rfl ?_
        refine Go.goto X135 hx (hb hby d1_59) (q := 10) (by decide) (by decide) ?_
        refine Go.iloadN X135 hx (hb hby d1_10) rfl (q := 11) rfl ?_
        refine Go.aloadN X135 hx (hb hby d1_11) rfl rfl (q := 12) rfl ?_
        refine Go.alen X135 hx hZ e135 Vb (hb hby d1_12) ?_
        refine Go.icmpYes X135 hx (hb hby d1_13) (by decide) (q := 62) (by decide) (by decide) ?_
        refine Go.aloadN X135 hx (hb hby d1_62) rfl rfl (q := 63) rfl ?_
        have e136_0 := own_isF hc103
        have e136_1 := own_isF hc123
        have e136_2 := own_isT hc133
        exact Go.retA X135 hx hret hlk rfl rfl (hb hby d1_63) e135 (by decide) (by decide) ⟨b101, (1 : Int32), (2 : Int32), (0 : Int32), (0 : Int32), (0 : Int32), rfl, N135, KP, z_b101, A101, P135_1, ⟨fun _ => by rw [own_tb3, e136_0, e136_1, e136_2] <;> rfl, fun q => absurd hc133 q⟩, by rw [own_tb3, e136_0, e136_1, e136_2] <;> rfl, Or.inr ⟨by decide, _, ⟨d_135, b2_134, _, _, _, P135_0, P135_3, rfl, by decide, by decide, P134_0, P134_1⟩⟩, Or.inl ⟨by decide, rfl⟩, Or.inl ⟨by decide, rfl⟩, Or.inl ⟨by decide, rfl⟩, Or.inr ⟨by decide, (2 : Int32), _, ⟨d_135, b2_134, _, _, _, P135_0, P135_3, rfl, by decide, by decide, P134_0, P134_1⟩, by decide, by decide, rfl⟩, Or.inr (own_oki (by rw [own_tb1, e136_0] <;> rfl) (by rw [own_lt1, if_pos e136_0] <;> rfl) (r := (0 : Int32)) (f := (1 : Int32)) ⟨by decide, (2 : Int32), _, ⟨d_135, b2_134, _, _, _, P135_0, P135_3, rfl, by decide, by decide, P134_0, P134_1⟩, by decide, by decide, rfl⟩), Or.inl hc133⟩
      · refine Go.icmpNo X102 hx (hb hby d1_31) (Jvm.Free.XT.ii_eq_f hc133) (q := 34) rfl ?_
        refine Go.iinc X102 hx (hb hby d1_34) rfl (r := (3 : Int32)) rfl (l' := #[.val (.ref b), .val (.int t), .val (.ref b101), .val (.int 0), .val (.int 3)]) rfl (q := 37) rfl ?_
        refine Go.goto X102 hx (hb hby d1_37) (q := 19) (by decide) (by decide) ?_
        refine Go.iload X102 hx (hb hby d1_19) rfl (q := 21) rfl ?_
        refine Go.aloadN X102 hx (hb hby d1_21) rfl rfl (q := 22) rfl ?_
        refine Go.alen X102 hx hZ e102 Vb (hb hby d1_22) ?_
        refine Go.icmpYes X102 hx (hb hby d1_23) (by decide) (q := 40) (by decide) (by decide) ?_
        refine Go.aloadN X102 hx (hb hby d1_40) rfl rfl (q := 41) rfl ?_
        refine Go.aloadN X102 hx (hb hby d1_41) rfl rfl (q := 42) rfl ?_
        refine Go.iloadN X102 hx (hb hby d1_42) rfl (q := 43) rfl ?_
        refine Go.iload X102 hx (hb hby d1_43) rfl (q := 45) rfl ?_
        refine Go.callS X102 hx hZ hown (wd55 hw) (wd56 hw) (wd57 hw) (wd58 hw) (by decide) (ccl_3 l Z a0 hw b x0 x1 x2 x3 (kb) h102 OK102 Eb Vb) e102 (by rw [hml]; rfl) (hb hby d1_45) (argsL := [(.ref b), (.int 0), (.int 3)]) (rest := [(.ref b101)]) (lenOf pd8 rfl) rfl rfl (W := 1) (Nat.le_refl _) (by decide) ?_
        intro v137 T137 L137 X137 hQ137
        obtain ⟨h137, e137⟩ : ∃ z, T137.heap = z := ⟨_, rfl⟩
        rw [e137] at hQ137
        obtain ⟨b2_137, kc_137, rfl, N137q, K137, fr137_b2, P137_0, P137_1⟩ := hQ137
        have N137 := Fr.app N102 N137q
        have ne_b_b2_137 : b ≠ b2_137 := ne_new Eb.lt fr137_b2
        have ne_b101_b2_137 : b101 ≠ b2_137 := ne_new A101.lt fr137_b2
        have g_b2_137 : Z.heap.size ≤ b2_137 := Nat.le_trans OK102.1 fr137_b2
        have z_b2_137 : h0.size ≤ b2_137 := Nat.le_trans KP.1 fr137_b2
        replace Eb := Eb.keep K137
        replace Vb := Vb.keep K137 nin0
        replace A101 := A101.keep K137
        replace P102_0 := P102_0.keep K137 nin0
        replace P102_1 := P102_1.keep K137 nin0
        replace P102_2 := P102_2.keep K137 nin0
        have OK137 := ext_keep OK102 K137 all0
        replace KP := KP.trans K137 all0
        refine Go.face X137 hx hZ hown (wd73 hw) (wd74 hw) (wd75 hw) (wd76 hw) (wd77 hw) (wd78 hw) (wd79 hw) (wd38 hw) (wd7 hw) (wd80 hw) (by decide) (cadd_0 l Z a0 hw b101 b2_137 de ((0 : Int32)) h137 OK137 A101 g_b101 P102_0 P102_1 P102_2 P137_0 SD LD) e137 A101 (by rw [hml]; rfl) (hb hby d1_48) (argsL := [(.ref b2_137)]) (rest := []) (lenOf pd12 rfl) rfl rfl (W := 0) (Nat.le_refl _) (by decide) ?_
        intro v138 T138 L138 X138 hQ138
        obtain ⟨h138, e138⟩ : ∃ z, T138.heap = z := ⟨_, rfl⟩
        rw [e138] at hQ138
        obtain ⟨d_138, kd_138, rfl, N138q, K138, fr138_d, P138_0, P138_1, P138_2, P138_3, P138_4⟩ := hQ138
        have N138 := Fr.app N137 N138q
        have ne_b_d_138 : b ≠ d_138 := ne_new Eb.lt fr138_d
        have ne_b101_d_138 : b101 ≠ d_138 := ne_new A101.lt fr138_d
        have ne_b2_137_d_138 : b2_137 ≠ d_138 := ne_new P137_0.lt fr138_d
        have g_d_138 : Z.heap.size ≤ d_138 := Nat.le_trans OK137.1 fr138_d
        have z_d_138 : h0.size ≤ d_138 := Nat.le_trans KP.1 fr138_d
        replace Eb := Eb.keep K138
        replace Vb := Vb.keep K138 (ninS ne_b_b101 nin0)
        replace A101 := A101.keep K138
        replace P137_0 := P137_0.keep K138
        replace P137_1 := P137_1.keep K138 (ninS (Ne.symm ne_b101_b2_137) nin0)
        have OK138 := ext_keep OK137 K138 (allS g_b101 all0)
        replace KP := KP.trans K138 (allS (Or.inr z_b101) all0)
        refine Go.pop X138 hx (hb hby d1_53) rfl (q := 54) rfl ?_
        refine Go.iload X138 hx (hb hby d1_54) rfl (q := 56) rfl ?_
        refine Go.iconst X138 hx (hb hby d1_56) (r := (1 : Int32)) rfl (q := 57) rfl ?_
        refine Go.iadd X138 hx (hb hby d1_57) (r := (4 : Int32)) rfl (q := 58) rfl ?_
        refine Go.istoreN X138 hx (hb hby d1_58) (l' := #[.val (.ref b), .val (.int t), .val (.ref b101), .val (.int 4), .val (.int 3)]) rfl (q := 59) rfl ?_
        refine Go.goto X138 hx (hb hby d1_59) (q := 10) (by decide) (by decide) ?_
        refine Go.iloadN X138 hx (hb hby d1_10) rfl (q := 11) rfl ?_
        refine Go.aloadN X138 hx (hb hby d1_11) rfl rfl (q := 12) rfl ?_
        refine Go.alen X138 hx hZ e138 Vb (hb hby d1_12) ?_
        refine Go.icmpYes X138 hx (hb hby d1_13) (by decide) (q := 62) (by decide) (by decide) ?_
        refine Go.aloadN X138 hx (hb hby d1_62) rfl rfl (q := 63) rfl ?_
        have e139_0 := own_isF hc103
        have e139_1 := own_isF hc123
        have e139_2 := own_isF hc133
        exact Go.retA X138 hx hret hlk rfl rfl (hb hby d1_63) e138 (by decide) (by decide) ⟨b101, (1 : Int32), (3 : Int32), (0 : Int32), (0 : Int32), (0 : Int32), rfl, N138, KP, z_b101, A101, P138_1, ⟨fun q => absurd q hc133, fun _ => by rw [own_tb3, e139_0, e139_1, e139_2] <;> rfl⟩, by rw [own_tb3, e139_0, e139_1, e139_2] <;> rfl, Or.inr ⟨by decide, _, ⟨d_138, b2_137, _, _, _, P138_0, P138_3, rfl, by decide, by decide, P137_0, P137_1⟩⟩, Or.inl ⟨by decide, rfl⟩, Or.inl ⟨by decide, rfl⟩, Or.inl ⟨by decide, rfl⟩, Or.inr ⟨by decide, (3 : Int32), _, ⟨d_138, b2_137, _, _, _, P138_0, P138_3, rfl, by decide, by decide, P137_0, P137_1⟩, by decide, by decide, rfl⟩, Or.inr (own_oki (by rw [own_tb1, e139_0] <;> rfl) (by rw [own_lt1, if_pos e139_0] <;> rfl) (r := (0 : Int32)) (f := (1 : Int32)) ⟨by decide, (3 : Int32), _, ⟨d_138, b2_137, _, _, _, P138_0, P138_3, rfl, by decide, by decide, P137_0, P137_1⟩, by decide, by decide, rfl⟩), Or.inr (own_oki (by rw [own_tb2, e139_0, e139_1] <;> rfl) (by rw [own_lt2, if_pos e139_1, own_lt1, if_pos e139_0] <;> rfl) (r := (0 : Int32)) (f := (2 : Int32)) ⟨by decide, (3 : Int32), _, ⟨d_138, b2_137, _, _, _, P138_0, P138_3, rfl, by decide, by decide, P137_0, P137_1⟩, by decide, by decide, rfl⟩)⟩
def Q_crec_4 (Z : State) (b : Addr) (x0 x1 x2 x3 : Int32) (kb : ClassId) (t : Int32) (de : Addr) (h0 : Heap) (vR : Option Value) (hR : Heap) (LR : List Loc) : Prop := ∃ li : Addr, ∃ kk : Int32, ∃ q0 : Int32, ∃ q1 : Int32, ∃ q2 : Int32, ∃ q3 : Int32, vR = some (.ref li) ∧ Fr Z.heap.size LR ∧ Keep h0 hR [] ∧ h0.size ≤ li ∧ Exa Z hR li xS0 ∧ Fld Z hR li xS0 "size" "I" (.int kk) ∧ ((x3 = t → kk = ((own_tb4 x0 x1 x2 x3 t) + (0 : Int32))) ∧ (¬ (x3 = t) → kk = ((own_tb4 x0 x1 x2 x3 t) + (1 : Int32)))) ∧ (((q0 + q1) + q2) + q3) = ((4 : Int32) - (own_tb4 x0 x1 x2 x3 t)) ∧ LENP Z hR li kk (0 : Int32) q0 ∧ LENP Z hR li kk (1 : Int32) q1 ∧ LENP Z hR li kk (2 : Int32) q2 ∧ LENP Z hR li kk (3 : Int32) q3 ∧ (x0 = t ∨ OKI Z hR li kk (0 : Int32) (0 : Int32) x0) ∧ (x1 = t ∨ OKI Z hR li kk (own_tb1 x0 t) (((1 : Int32) - (own_lt1 x0 t)) - (1 : Int32)) x1) ∧ (x2 = t ∨ OKI Z hR li kk (own_tb2 x0 x1 t) (((2 : Int32) - (own_lt2 x0 x1 t)) - (1 : Int32)) x2) ∧ (x3 = t ∨ OKI Z hR li kk (own_tb3 x0 x1 x2 t) (((3 : Int32) - (own_lt3 x0 x1 x2 t)) - (1 : Int32)) x3)
theorem crec_4 (l : Launch) (Z : State) (a0 : Array Value) (hw : ∀ d ∈ tables_1, d.before a0 Z = true) (b : Addr) (x0 x1 x2 x3 : Int32) (kb : ClassId) (t : Int32) (de : Addr) (h0 : Heap) (O0 : Ext Z.heap h0) (Eb : Exa Z h0 b "[B") (Vb : Arv Z h0 b kb .byte (4 : Int32) [(.int x0), (.int x1), (.int x2), (.int x3)] (.int 0)) (SD : Sta Z Z.heap xS0 "DEFAULTCAPACITY_EMPTY_ELEMENTDATA" xS3 (.ref de)) (LD : Lng Z Z.heap de (0 : Int32)) :
    Ctr l Z h0 (⟨"com/example/cronopoly/cronopoly/cli/Utf8", "records", "([BB)Ljava/util/List;"⟩ : MethodName) k1 5 (some (.object "java/util/List")) [] ({ frames := 5, cells := 6, slots := 17, locals := 69 } : Room) #[(.ref b), (.int t)] (Q_crec_4 Z b x0 x1 x2 x3 kb t de h0) := by
  refine enter (plainFor_of_name pn7) ?_
  intro pp ee ss mm below meth cc s₁ hx hby hml hZ hown hnm hret hlk X0 e0 hs0
  replace hown : ss.vm.findClass "com/example/cronopoly/cronopoly/cli/Utf8" = some mm.cls := hown
  refine Go.cast (congrArg s₁.setTop (ef_crec_4 mm b t)) ?_
  have N0 := Fr.nil Z.heap.size
  have KP := Keep.refl h0 []
  show Go pp ee below _ (s₁.setTop (mkF mm 0 #[.val (.ref b), .val (.int t), .unset, .unset, .unset] []))
  refine Go.newO X0 hx hZ hown (wd5 hw) (wd6 hw) (wd7 hw) e0 (hb hby d1_0) (by decide) (by decide) (q := 3) rfl ?_
  intro b101 T101 h101 X101 e101 q101 E101 A101 D101 U101
  have ne_b_b101 : b ≠ b101 := ne_new Eb.lt (Nat.le_of_eq q101)
  have g_b101 : Z.heap.size ≤ b101 := Nat.le_trans O0.1 (Nat.le_of_eq q101)
  have z_b101 : h0.size ≤ b101 := Nat.le_trans KP.1 (Nat.le_of_eq q101)
  replace Eb := Eb.ext E101
  replace Vb := Vb.ext E101
  have OE101 := ext_trans O0 E101
  replace KP := KP.ext E101
  have F101_modCount : Fld Z h101 b101 xS5 "modCount" "I" (.int 0) := D101 (Or.inl (wd27 hw)) (ty := .int) (by decide)
  have F101_elementData : Fld Z h101 b101 xS0 "elementData" xS3 .null := D101 (Or.inl (wd30 hw)) (ty := (.array (.object xS2))) (by decide)
  have F101_size : Fld Z h101 b101 xS0 "size" "I" (.int 0) := D101 (Or.inl (wd41 hw)) (ty := .int) (by decide)
  clear D101
  refine Go.dup X101 hx (hb hby d1_3) rfl (q := 4) rfl ?_
  refine Go.init X101 hx hZ hown rfl (wd8 hw) (wd9 hw) (wd7 hw) (wd10 hw) (by decide) (cali l Z a0 hw b101 de h101 OE101 A101 g_b101 F101_elementData F101_size F101_modCount SD) e101 (by rw [hml]; rfl) (hb hby d1_4) (argsL := []) (rest := [(.ref b101)]) (lenOf pd0 rfl) rfl rfl (W := 1) (Nat.le_refl _) (by decide) ?_
  intro v102 T102 L102 X102 hQ102
  obtain ⟨h102, e102⟩ : ∃ z, T102.heap = z := ⟨_, rfl⟩
  rw [e102] at hQ102
  obtain ⟨rfl, N102q, K102, P102_0, P102_1, P102_2⟩ := hQ102
  have N102 := Fr.app N0 N102q
  replace Eb := Eb.keep K102
  replace Vb := Vb.keep K102 (ninS ne_b_b101 nin0)
  replace A101 := A101.keep K102
  have OK102 := ext_keep OE101 K102 (allS g_b101 all0)
  replace KP := KP.trans K102 (allS (Or.inr z_b101) all0)
  refine Go.astoreN X102 hx (hb hby d1_7) rfl (l' := #[.val (.ref b), .val (.int t), .val (.ref b101), .unset, .unset]) rfl (q := 8) rfl ?_
  refine Go.iconst X102 hx (hb hby d1_8) (r := (0 : Int32)) rfl (q := 9) rfl ?_
  refine Go.istoreN X102 hx (hb hby d1_9) (l' := #[.val (.ref b), .val (.int t), .val (.ref b101), .val (.int 0), .unset]) rfl (q := 10) rfl ?_
  refine Go.iloadN X102 hx (hb hby d1_10) rfl (q := 11) rfl ?_
  refine Go.aloadN X102 hx (hb hby d1_11) rfl rfl (q := 12) rfl ?_
  refine Go.alen X102 hx hZ e102 Vb (hb hby d1_12) ?_
  refine Go.icmpNo X102 hx (hb hby d1_13) (by decide) (q := 16) rfl ?_
  refine Go.iloadN X102 hx (hb hby d1_16) rfl (q := 17) rfl ?_
  refine Go.istore X102 hx (hb hby d1_17) (l' := #[.val (.ref b), .val (.int t), .val (.ref b101), .val (.int 0), .val (.int 0)]) rfl (q := 19) rfl ?_
  refine Go.iload X102 hx (hb hby d1_19) rfl (q := 21) rfl ?_
  refine Go.aloadN X102 hx (hb hby d1_21) rfl rfl (q := 22) rfl ?_
  refine Go.alen X102 hx hZ e102 Vb (hb hby d1_22) ?_
  refine Go.icmpNo X102 hx (hb hby d1_23) (by decide) (q := 26) rfl ?_
  refine Go.aloadN X102 hx (hb hby d1_26) rfl rfl (q := 27) rfl ?_
  refine Go.iload X102 hx (hb hby d1_27) rfl (q := 29) rfl ?_
  refine Go.bal X102 hx hZ e102 Vb ⟨by decide, by decide⟩ (v := (.int x0)) rfl (hb hby d1_29) ?_
  refine Go.iloadN X102 hx (hb hby d1_30) rfl (q := 31) rfl ?_
  by_cases hc103 : x0 = t
  · refine Go.icmpYes X102 hx (hb hby d1_31) (Jvm.Free.XT.ii_eq_t hc103) (q := 40) (by decide) (by decide) ?_
    refine Go.aloadN X102 hx (hb hby d1_40) rfl rfl (q := 41) rfl ?_
    refine Go.aloadN X102 hx (hb hby d1_41) rfl rfl (q := 42) rfl ?_
    refine Go.iloadN X102 hx (hb hby d1_42) rfl (q := 43) rfl ?_
    refine Go.iload X102 hx (hb hby d1_43) rfl (q := 45) rfl ?_
    refine Go.callS X102 hx hZ hown (wd55 hw) (wd56 hw) (wd57 hw) (wd58 hw) (by decide) (ccr_0_0 l Z a0 hw b x0 x1 x2 x3 (kb) ((4 : Int32)) h102 OK102 Vb (by decide) (by decide) (by decide)) e102 (by rw [hml]; rfl) (hb hby d1_45) (argsL := [(.ref b), (.int 0), (.int 0)]) (rest := [(.ref b101)]) (lenOf pd8 rfl) rfl rfl (W := 1) (Nat.le_refl _) (by decide) ?_
    intro v104 T104 L104 X104 hQ104
    obtain ⟨h104, e104⟩ : ∃ z, T104.heap = z := ⟨_, rfl⟩
    rw [e104] at hQ104
    obtain ⟨b2_104, kc_104, rfl, N104q, K104, fr104_b2, P104_0, P104_1⟩ := hQ104
    have N104 := Fr.app N102 N104q
    have ne_b_b2_104 : b ≠ b2_104 := ne_new Eb.lt fr104_b2
    have ne_b101_b2_104 : b101 ≠ b2_104 := ne_new A101.lt fr104_b2
    have g_b2_104 : Z.heap.size ≤ b2_104 := Nat.le_trans OK102.1 fr104_b2
    have z_b2_104 : h0.size ≤ b2_104 := Nat.le_trans KP.1 fr104_b2
    replace Eb := Eb.keep K104
    replace Vb := Vb.keep K104 nin0
    replace A101 := A101.keep K104
    replace P102_0 := P102_0.keep K104 nin0
    replace P102_1 := P102_1.keep K104 nin0
    replace P102_2 := P102_2.keep K104 nin0
    have OK104 := ext_keep OK102 K104 all0
    replace KP := KP.trans K104 all0
    refine Go.face X104 hx hZ hown (wd73 hw) (wd74 hw) (wd75 hw) (wd76 hw) (wd77 hw) (wd78 hw) (wd79 hw) (wd38 hw) (wd7 hw) (wd80 hw) (by decide) (cadd_0 l Z a0 hw b101 b2_104 de ((0 : Int32)) h104 OK104 A101 g_b101 P102_0 P102_1 P102_2 P104_0 SD LD) e104 A101 (by rw [hml]; rfl) (hb hby d1_48) (argsL := [(.ref b2_104)]) (rest := []) (lenOf pd12 rfl) rfl rfl (W := 0) (Nat.le_refl _) (by decide) ?_
    intro v105 T105 L105 X105 hQ105
    obtain ⟨h105, e105⟩ : ∃ z, T105.heap = z := ⟨_, rfl⟩
    rw [e105] at hQ105
    obtain ⟨d_105, kd_105, rfl, N105q, K105, fr105_d, P105_0, P105_1, P105_2, P105_3, P105_4⟩ := hQ105
    have N105 := Fr.app N104 N105q
    have ne_b_d_105 : b ≠ d_105 := ne_new Eb.lt fr105_d
    have ne_b101_d_105 : b101 ≠ d_105 := ne_new A101.lt fr105_d
    have ne_b2_104_d_105 : b2_104 ≠ d_105 := ne_new P104_0.lt fr105_d
    have g_d_105 : Z.heap.size ≤ d_105 := Nat.le_trans OK104.1 fr105_d
    have z_d_105 : h0.size ≤ d_105 := Nat.le_trans KP.1 fr105_d
    replace Eb := Eb.keep K105
    replace Vb := Vb.keep K105 (ninS ne_b_b101 nin0)
    replace A101 := A101.keep K105
    replace P104_0 := P104_0.keep K105
    replace P104_1 := P104_1.keep K105 (ninS (Ne.symm ne_b101_b2_104) nin0)
    have OK105 := ext_keep OK104 K105 (allS g_b101 all0)
    replace KP := KP.trans K105 (allS (Or.inr z_b101) all0)
    refine Go.pop X105 hx (hb hby d1_53) rfl (q := 54) rfl ?_
    refine Go.iload X105 hx (hb hby d1_54) rfl (q := 56) rfl ?_
    refine Go.iconst X105 hx (hb hby d1_56) (r := (1 : Int32)) rfl (q := 57) rfl ?_
    refine Go.iadd X105 hx (hb hby d1_57) (r := (1 : Int32)) rfl (q := 58) rfl ?_
    refine Go.istoreN X105 hx (hb hby d1_58) (l' := #[.val (.ref b), .val (.int t), .val (.ref b101), .val (.int 1), .val (.int 0)]) rfl (q := 59) rfl ?_
    refine Go.goto X105 hx (hb hby d1_59) (q := 10) (by decide) (by decide) ?_
    refine Go.iloadN X105 hx (hb hby d1_10) rfl (q := 11) rfl ?_
    refine Go.aloadN X105 hx (hb hby d1_11) rfl rfl (q := 12) rfl ?_
    refine Go.alen X105 hx hZ e105 Vb (hb hby d1_12) ?_
    refine Go.icmpNo X105 hx (hb hby d1_13) (by decide) (q := 16) rfl ?_
    refine Go.iloadN X105 hx (hb hby d1_16) rfl (q := 17) rfl ?_
    refine Go.istore X105 hx (hb hby d1_17) (l' := #[.val (.ref b), .val (.int t), .val (.ref b101), .val (.int 1), .val (.int 1)]) rfl (q := 19) rfl ?_
    refine Go.iload X105 hx (hb hby d1_19) rfl (q := 21) rfl ?_
    refine Go.aloadN X105 hx (hb hby d1_21) rfl rfl (q := 22) rfl ?_
    refine Go.alen X105 hx hZ e105 Vb (hb hby d1_22) ?_
    refine Go.icmpNo X105 hx (hb hby d1_23) (by decide) (q := 26) rfl ?_
    refine Go.aloadN X105 hx (hb hby d1_26) rfl rfl (q := 27) rfl ?_
    refine Go.iload X105 hx (hb hby d1_27) rfl (q := 29) rfl ?_
    refine Go.bal X105 hx hZ e105 Vb ⟨by decide, by decide⟩ (v := (.int x1)) rfl (hb hby d1_29) ?_
    refine Go.iloadN X105 hx (hb hby d1_30) rfl (q := 31) rfl ?_
    by_cases hc106 : x1 = t
    · refine Go.icmpYes X105 hx (hb hby d1_31) (Jvm.Free.XT.ii_eq_t hc106) (q := 40) (by decide) (by decide) ?_
      refine Go.aloadN X105 hx (hb hby d1_40) rfl rfl (q := 41) rfl ?_
      refine Go.aloadN X105 hx (hb hby d1_41) rfl rfl (q := 42) rfl ?_
      refine Go.iloadN X105 hx (hb hby d1_42) rfl (q := 43) rfl ?_
      refine Go.iload X105 hx (hb hby d1_43) rfl (q := 45) rfl ?_
      refine Go.callS X105 hx hZ hown (wd55 hw) (wd56 hw) (wd57 hw) (wd58 hw) (by decide) (ccr_1_1 l Z a0 hw b x0 x1 x2 x3 (kb) ((4 : Int32)) h105 OK105 Vb (by decide) (by decide)) e105 (by rw [hml]; rfl) (hb hby d1_45) (argsL := [(.ref b), (.int 1), (.int 1)]) (rest := [(.ref b101)]) (lenOf pd8 rfl) rfl rfl (W := 1) (Nat.le_refl _) (by decide) ?_
      intro v107 T107 L107 X107 hQ107
      obtain ⟨h107, e107⟩ : ∃ z, T107.heap = z := ⟨_, rfl⟩
      rw [e107] at hQ107
      obtain ⟨b2_107, kc_107, rfl, N107q, K107, fr107_b2, P107_0, P107_1⟩ := hQ107
      have N107 := Fr.app N105 N107q
      have ne_b_b2_107 : b ≠ b2_107 := ne_new Eb.lt fr107_b2
      have ne_b101_b2_107 : b101 ≠ b2_107 := ne_new A101.lt fr107_b2
      have ne_b2_104_b2_107 : b2_104 ≠ b2_107 := ne_new P104_0.lt fr107_b2
      have ne_d_105_b2_107 : d_105 ≠ b2_107 := ne_new P105_3.lt fr107_b2
      have g_b2_107 : Z.heap.size ≤ b2_107 := Nat.le_trans OK105.1 fr107_b2
      have z_b2_107 : h0.size ≤ b2_107 := Nat.le_trans KP.1 fr107_b2
      replace Eb := Eb.keep K107
      replace Vb := Vb.keep K107 nin0
      replace A101 := A101.keep K107
      replace P104_0 := P104_0.keep K107
      replace P104_1 := P104_1.keep K107 nin0
      replace P105_0 := P105_0.keep K107 nin0
      replace P105_1 := P105_1.keep K107 nin0
      replace P105_2 := P105_2.keep K107 nin0
      replace P105_3 := P105_3.keep K107 nin0
      have OK107 := ext_keep OK105 K107 all0
      replace KP := KP.trans K107 all0
      refine Go.face X107 hx hZ hown (wd73 hw) (wd74 hw) (wd75 hw) (wd76 hw) (wd77 hw) (wd78 hw) (wd79 hw) (wd38 hw) (wd7 hw) (wd80 hw) (by decide) (cadd_1 l Z a0 hw b101 b2_107 d_105 ((1 : Int32)) b2_104 (kd_105) h107 OK107 A101 g_b101 P105_0 P105_1 P105_2 P105_3 P107_0 g_d_105 ne_b101_d_105 P105_4) e107 A101 (by rw [hml]; rfl) (hb hby d1_48) (argsL := [(.ref b2_107)]) (rest := []) (lenOf pd12 rfl) rfl rfl (W := 0) (Nat.le_refl _) (by decide) ?_
      intro v108 T108 L108 X108 hQ108
      obtain ⟨h108, e108⟩ : ∃ z, T108.heap = z := ⟨_, rfl⟩
      rw [e108] at hQ108
      obtain ⟨rfl, N108q, K108, P108_0, P108_1, P108_2, P108_3⟩ := hQ108
      have N108 := Fr.app N107 N108q
      replace Eb := Eb.keep K108
      replace Vb := Vb.keep K108 (ninS ne_b_b101 (ninS ne_b_d_105 nin0))
      replace A101 := A101.keep K108
      replace P104_0 := P104_0.keep K108
      replace P104_1 := P104_1.keep K108 (ninS (Ne.symm ne_b101_b2_104) (ninS ne_b2_104_d_105 nin0))
      replace P107_0 := P107_0.keep K108
      replace P107_1 := P107_1.keep K108 (ninS (Ne.symm ne_b101_b2_107) (ninS (Ne.symm ne_d_105_b2_107) nin0))
      have OK108 := ext_keep OK107 K108 (allS g_b101 (allS g_d_105 all0))
      replace KP := KP.trans K108 (allS (Or.inr z_b101) (allS (Or.inr z_d_105) all0))
      refine Go.pop X108 hx (hb hby d1_53) rfl (q := 54) rfl ?_
      refine Go.iload X108 hx (hb hby d1_54) rfl (q := 56) rfl ?_
      refine Go.iconst X108 hx (hb hby d1_56) (r := (1 : Int32)) rfl (q := 57) rfl ?_
      refine Go.iadd X108 hx (hb hby d1_57) (r := (2 : Int32)) rfl (q := 58) rfl ?_
      refine Go.istoreN X108 hx (hb hby d1_58) (l' := #[.val (.ref b), .val (.int t), .val (.ref b101), .val (.int 2), .val (.int 1)]) rfl (q := 59) rfl ?_
      refine Go.goto X108 hx (hb hby d1_59) (q := 10) (by decide) (by decide) ?_
      refine Go.iloadN X108 hx (hb hby d1_10) rfl (q := 11) rfl ?_
      refine Go.aloadN X108 hx (hb hby d1_11) rfl rfl (q := 12) rfl ?_
      refine Go.alen X108 hx hZ e108 Vb (hb hby d1_12) ?_
      refine Go.icmpNo X108 hx (hb hby d1_13) (by decide) (q := 16) rfl ?_
      refine Go.iloadN X108 hx (hb hby d1_16) rfl (q := 17) rfl ?_
      refine Go.istore X108 hx (hb hby d1_17) (l' := #[.val (.ref b), .val (.int t), .val (.ref b101), .val (.int 2), .val (.int 2)]) rfl (q := 19) rfl ?_
      refine Go.iload X108 hx (hb hby d1_19) rfl (q := 21) rfl ?_
      refine Go.aloadN X108 hx (hb hby d1_21) rfl rfl (q := 22) rfl ?_
      refine Go.alen X108 hx hZ e108 Vb (hb hby d1_22) ?_
      refine Go.icmpNo X108 hx (hb hby d1_23) (by decide) (q := 26) rfl ?_
      refine Go.aloadN X108 hx (hb hby d1_26) rfl rfl (q := 27) rfl ?_
      refine Go.iload X108 hx (hb hby d1_27) rfl (q := 29) rfl ?_
      refine Go.bal X108 hx hZ e108 Vb ⟨by decide, by decide⟩ (v := (.int x2)) rfl (hb hby d1_29) ?_
      refine Go.iloadN X108 hx (hb hby d1_30) rfl (q := 31) rfl ?_
      by_cases hc109 : x2 = t
      · refine Go.icmpYes X108 hx (hb hby d1_31) (Jvm.Free.XT.ii_eq_t hc109) (q := 40) (by decide) (by decide) ?_
        refine Go.aloadN X108 hx (hb hby d1_40) rfl rfl (q := 41) rfl ?_
        refine Go.aloadN X108 hx (hb hby d1_41) rfl rfl (q := 42) rfl ?_
        refine Go.iloadN X108 hx (hb hby d1_42) rfl (q := 43) rfl ?_
        refine Go.iload X108 hx (hb hby d1_43) rfl (q := 45) rfl ?_
        refine Go.callS X108 hx hZ hown (wd55 hw) (wd56 hw) (wd57 hw) (wd58 hw) (by decide) (ccr_2_2 l Z a0 hw b x0 x1 x2 x3 (kb) ((4 : Int32)) h108 OK108 Vb (by decide) (by decide)) e108 (by rw [hml]; rfl) (hb hby d1_45) (argsL := [(.ref b), (.int 2), (.int 2)]) (rest := [(.ref b101)]) (lenOf pd8 rfl) rfl rfl (W := 1) (Nat.le_refl _) (by decide) ?_
        intro v110 T110 L110 X110 hQ110
        obtain ⟨h110, e110⟩ : ∃ z, T110.heap = z := ⟨_, rfl⟩
        rw [e110] at hQ110
        obtain ⟨b2_110, kc_110, rfl, N110q, K110, fr110_b2, P110_0, P110_1⟩ := hQ110
        have N110 := Fr.app N108 N110q
        have ne_b_b2_110 : b ≠ b2_110 := ne_new Eb.lt fr110_b2
        have ne_b101_b2_110 : b101 ≠ b2_110 := ne_new A101.lt fr110_b2
        have ne_b2_104_b2_110 : b2_104 ≠ b2_110 := ne_new P104_0.lt fr110_b2
        have ne_b2_107_b2_110 : b2_107 ≠ b2_110 := ne_new P107_0.lt fr110_b2
        have ne_d_105_b2_110 : d_105 ≠ b2_110 := ne_new P108_3.lt fr110_b2
        have g_b2_110 : Z.heap.size ≤ b2_110 := Nat.le_trans OK108.1 fr110_b2
        have z_b2_110 : h0.size ≤ b2_110 := Nat.le_trans KP.1 fr110_b2
        replace Eb := Eb.keep K110
        replace Vb := Vb.keep K110 nin0
        replace A101 := A101.keep K110
        replace P104_0 := P104_0.keep K110
        replace P104_1 := P104_1.keep K110 nin0
        replace P107_0 := P107_0.keep K110
        replace P107_1 := P107_1.keep K110 nin0
        replace P108_0 := P108_0.keep K110 nin0
        replace P108_1 := P108_1.keep K110 nin0
        replace P108_2 := P108_2.keep K110 nin0
        replace P108_3 := P108_3.keep K110 nin0
        have OK110 := ext_keep OK108 K110 all0
        replace KP := KP.trans K110 all0
        refine Go.face X110 hx hZ hown (wd73 hw) (wd74 hw) (wd75 hw) (wd76 hw) (wd77 hw) (wd78 hw) (wd79 hw) (wd38 hw) (wd7 hw) (wd80 hw) (by decide) (cadd_2 l Z a0 hw b101 b2_110 d_105 ((2 : Int32)) b2_104 b2_107 (kd_105) h110 OK110 A101 g_b101 P108_0 P108_1 P108_2 P108_3 P110_0 g_d_105 ne_b101_d_105 P105_4) e110 A101 (by rw [hml]; rfl) (hb hby d1_48) (argsL := [(.ref b2_110)]) (rest := []) (lenOf pd12 rfl) rfl rfl (W := 0) (Nat.le_refl _) (by decide) ?_
        intro v111 T111 L111 X111 hQ111
        obtain ⟨h111, e111⟩ : ∃ z, T111.heap = z := ⟨_, rfl⟩
        rw [e111] at hQ111
        obtain ⟨rfl, N111q, K111, P111_0, P111_1, P111_2, P111_3⟩ := hQ111
        have N111 := Fr.app N110 N111q
        replace Eb := Eb.keep K111
        replace Vb := Vb.keep K111 (ninS ne_b_b101 (ninS ne_b_d_105 nin0))
        replace A101 := A101.keep K111
        replace P104_0 := P104_0.keep K111
        replace P104_1 := P104_1.keep K111 (ninS (Ne.symm ne_b101_b2_104) (ninS ne_b2_104_d_105 nin0))
        replace P107_0 := P107_0.keep K111
        replace P107_1 := P107_1.keep K111 (ninS (Ne.symm ne_b101_b2_107) (ninS (Ne.symm ne_d_105_b2_107) nin0))
        replace P110_0 := P110_0.keep K111
        replace P110_1 := P110_1.keep K111 (ninS (Ne.symm ne_b101_b2_110) (ninS (Ne.symm ne_d_105_b2_110) nin0))
        have OK111 := ext_keep OK110 K111 (allS g_b101 (allS g_d_105 all0))
        replace KP := KP.trans K111 (allS (Or.inr z_b101) (allS (Or.inr z_d_105) all0))
        refine Go.pop X111 hx (hb hby d1_53) rfl (q := 54) rfl ?_
        refine Go.iload X111 hx (hb hby d1_54) rfl (q := 56) rfl ?_
        refine Go.iconst X111 hx (hb hby d1_56) (r := (1 : Int32)) rfl (q := 57) rfl ?_
        refine Go.iadd X111 hx (hb hby d1_57) (r := (3 : Int32)) rfl (q := 58) rfl ?_
        refine Go.istoreN X111 hx (hb hby d1_58) (l' := #[.val (.ref b), .val (.int t), .val (.ref b101), .val (.int 3), .val (.int 2)]) rfl (q := 59) rfl ?_
        refine Go.goto X111 hx (hb hby d1_59) (q := 10) (by decide) (by decide) ?_
        refine Go.iloadN X111 hx (hb hby d1_10) rfl (q := 11) rfl ?_
        refine Go.aloadN X111 hx (hb hby d1_11) rfl rfl (q := 12) rfl ?_
        refine Go.alen X111 hx hZ e111 Vb (hb hby d1_12) ?_
        refine Go.icmpNo X111 hx (hb hby d1_13) (by decide) (q := 16) rfl ?_
        refine Go.iloadN X111 hx (hb hby d1_16) rfl (q := 17) rfl ?_
        refine Go.istore X111 hx (hb hby d1_17) (l' := #[.val (.ref b), .val (.int t), .val (.ref b101), .val (.int 3), .val (.int 3)]) rfl (q := 19) rfl ?_
        refine Go.iload X111 hx (hb hby d1_19) rfl (q := 21) rfl ?_
        refine Go.aloadN X111 hx (hb hby d1_21) rfl rfl (q := 22) rfl ?_
        refine Go.alen X111 hx hZ e111 Vb (hb hby d1_22) ?_
        refine Go.icmpNo X111 hx (hb hby d1_23) (by decide) (q := 26) rfl ?_
        refine Go.aloadN X111 hx (hb hby d1_26) rfl rfl (q := 27) rfl ?_
        refine Go.iload X111 hx (hb hby d1_27) rfl (q := 29) rfl ?_
        refine Go.bal X111 hx hZ e111 Vb ⟨by decide, by decide⟩ (v := (.int x3)) rfl (hb hby d1_29) ?_
        refine Go.iloadN X111 hx (hb hby d1_30) rfl (q := 31) rfl ?_
        by_cases hc112 : x3 = t
        · refine Go.icmpYes X111 hx (hb hby d1_31) (Jvm.Free.XT.ii_eq_t hc112) (q := 40) (by decide) (by decide) ?_
          refine Go.aloadN X111 hx (hb hby d1_40) rfl rfl (q := 41) rfl ?_
          refine Go.aloadN X111 hx (hb hby d1_41) rfl rfl (q := 42) rfl ?_
          refine Go.iloadN X111 hx (hb hby d1_42) rfl (q := 43) rfl ?_
          refine Go.iload X111 hx (hb hby d1_43) rfl (q := 45) rfl ?_
          refine Go.callS X111 hx hZ hown (wd55 hw) (wd56 hw) (wd57 hw) (wd58 hw) (by decide) (ccr_3_3 l Z a0 hw b x0 x1 x2 x3 (kb) ((4 : Int32)) h111 OK111 Vb (by decide) (by decide)) e111 (by rw [hml]; rfl) (hb hby d1_45) (argsL := [(.ref b), (.int 3), (.int 3)]) (rest := [(.ref b101)]) (lenOf pd8 rfl) rfl rfl (W := 1) (Nat.le_refl _) (by decide) ?_
          intro v113 T113 L113 X113 hQ113
          obtain ⟨h113, e113⟩ : ∃ z, T113.heap = z := ⟨_, rfl⟩
          rw [e113] at hQ113
          obtain ⟨b2_113, kc_113, rfl, N113q, K113, fr113_b2, P113_0, P113_1⟩ := hQ113
          have N113 := Fr.app N111 N113q
          have ne_b_b2_113 : b ≠ b2_113 := ne_new Eb.lt fr113_b2
          have ne_b101_b2_113 : b101 ≠ b2_113 := ne_new A101.lt fr113_b2
          have ne_b2_104_b2_113 : b2_104 ≠ b2_113 := ne_new P104_0.lt fr113_b2
          have ne_b2_107_b2_113 : b2_107 ≠ b2_113 := ne_new P107_0.lt fr113_b2
          have ne_b2_110_b2_113 : b2_110 ≠ b2_113 := ne_new P110_0.lt fr113_b2
          have ne_d_105_b2_113 : d_105 ≠ b2_113 := ne_new P111_3.lt fr113_b2
          have g_b2_113 : Z.heap.size ≤ b2_113 := Nat.le_trans OK111.1 fr113_b2
          have z_b2_113 : h0.size ≤ b2_113 := Nat.le_trans KP.1 fr113_b2
          replace Eb := Eb.keep K113
          replace Vb := Vb.keep K113 nin0
          replace A101 := A101.keep K113
          replace P104_0 := P104_0.keep K113
          replace P104_1 := P104_1.keep K113 nin0
          replace P107_0 := P107_0.keep K113
          replace P107_1 := P107_1.keep K113 nin0
          replace P110_0 := P110_0.keep K113
          replace P110_1 := P110_1.keep K113 nin0
          replace P111_0 := P111_0.keep K113 nin0
          replace P111_1 := P111_1.keep K113 nin0
          replace P111_2 := P111_2.keep K113 nin0
          replace P111_3 := P111_3.keep K113 nin0
          have OK113 := ext_keep OK111 K113 all0
          replace KP := KP.trans K113 all0
          refine Go.face X113 hx hZ hown (wd73 hw) (wd74 hw) (wd75 hw) (wd76 hw) (wd77 hw) (wd78 hw) (wd79 hw) (wd38 hw) (wd7 hw) (wd80 hw) (by decide) (cadd_3 l Z a0 hw b101 b2_113 d_105 ((3 : Int32)) b2_104 b2_107 b2_110 (kd_105) h113 OK113 A101 g_b101 P111_0 P111_1 P111_2 P111_3 P113_0 g_d_105 ne_b101_d_105 P105_4) e113 A101 (by rw [hml]; rfl) (hb hby d1_48) (argsL := [(.ref b2_113)]) (rest := []) (lenOf pd12 rfl) rfl rfl (W := 0) (Nat.le_refl _) (by decide) ?_
          intro v114 T114 L114 X114 hQ114
          obtain ⟨h114, e114⟩ : ∃ z, T114.heap = z := ⟨_, rfl⟩
          rw [e114] at hQ114
          obtain ⟨rfl, N114q, K114, P114_0, P114_1, P114_2, P114_3⟩ := hQ114
          have N114 := Fr.app N113 N114q
          replace Eb := Eb.keep K114
          replace Vb := Vb.keep K114 (ninS ne_b_b101 (ninS ne_b_d_105 nin0))
          replace A101 := A101.keep K114
          replace P104_0 := P104_0.keep K114
          replace P104_1 := P104_1.keep K114 (ninS (Ne.symm ne_b101_b2_104) (ninS ne_b2_104_d_105 nin0))
          replace P107_0 := P107_0.keep K114
          replace P107_1 := P107_1.keep K114 (ninS (Ne.symm ne_b101_b2_107) (ninS (Ne.symm ne_d_105_b2_107) nin0))
          replace P110_0 := P110_0.keep K114
          replace P110_1 := P110_1.keep K114 (ninS (Ne.symm ne_b101_b2_110) (ninS (Ne.symm ne_d_105_b2_110) nin0))
          replace P113_0 := P113_0.keep K114
          replace P113_1 := P113_1.keep K114 (ninS (Ne.symm ne_b101_b2_113) (ninS (Ne.symm ne_d_105_b2_113) nin0))
          have OK114 := ext_keep OK113 K114 (allS g_b101 (allS g_d_105 all0))
          replace KP := KP.trans K114 (allS (Or.inr z_b101) (allS (Or.inr z_d_105) all0))
          refine Go.pop X114 hx (hb hby d1_53) rfl (q := 54) rfl ?_
          refine Go.iload X114 hx (hb hby d1_54) rfl (q := 56) rfl ?_
          refine Go.iconst X114 hx (hb hby d1_56) (r := (1 : Int32)) rfl (q := 57) rfl ?_
          refine Go.iadd X114 hx (hb hby d1_57) (r := (4 : Int32)) rfl (q := 58) rfl ?_
          refine Go.istoreN X114 hx (hb hby d1_58) (l' := #[.val (.ref b), .val (.int t), .val (.ref b101), .val (.int 4), .val (.int 3)]) rfl (q := 59) rfl ?_
          refine Go.goto X114 hx (hb hby d1_59) (q := 10) (by decide) (by decide) ?_
          refine Go.iloadN X114 hx (hb hby d1_10) rfl (q := 11) rfl ?_
          refine Go.aloadN X114 hx (hb hby d1_11) rfl rfl (q := 12) rfl ?_
          refine Go.alen X114 hx hZ e114 Vb (hb hby d1_12) ?_
          refine Go.icmpYes X114 hx (hb hby d1_13) (by decide) (q := 62) (by decide) (by decide) ?_
          refine Go.aloadN X114 hx (hb hby d1_62) rfl rfl (q := 63) rfl ?_
          have e115_0 := own_isT hc103
          have e115_1 := own_isT hc106
          have e115_2 := own_isT hc109
          have e115_3 := own_isT hc112
          exact Go.retA X114 hx hret hlk rfl rfl (hb hby d1_63) e114 (by decide) (by decide) ⟨b101, (4 : Int32), (0 : Int32), (0 : Int32), (0 : Int32), (0 : Int32), rfl, N114, KP, z_b101, A101, P114_1, ⟨fun _ => by rw [own_tb4, e115_0, e115_1, e115_2, e115_3] <;> rfl, fun q => absurd hc112 q⟩, by rw [own_tb4, e115_0, e115_1, e115_2, e115_3] <;> rfl, Or.inr ⟨by decide, _, ⟨d_105, b2_104, _, _, _, P114_0, P114_3, rfl, by decide, by decide, P104_0, P104_1⟩⟩, Or.inr ⟨by decide, _, ⟨d_105, b2_107, _, _, _, P114_0, P114_3, rfl, by decide, by decide, P107_0, P107_1⟩⟩, Or.inr ⟨by decide, _, ⟨d_105, b2_110, _, _, _, P114_0, P114_3, rfl, by decide, by decide, P110_0, P110_1⟩⟩, Or.inr ⟨by decide, _, ⟨d_105, b2_113, _, _, _, P114_0, P114_3, rfl, by decide, by decide, P113_0, P113_1⟩⟩, Or.inl hc103, Or.inl hc106, Or.inl hc109, Or.inl hc112⟩
        · refine Go.icmpNo X111 hx (hb hby d1_31) (Jvm.Free.XT.ii_eq_f hc112) (q := 34) rfl ?_
          refine Go.iinc X111 hx (hb hby d1_34) rfl (r := (4 : Int32)) rfl (l' := #[.val (.ref b), .val (.int t), .val (.ref b101), .val (.int 3), .val (.int 4)]) rfl (q := 37) rfl ?_
          refine Go.goto X111 hx (hb hby d1_37) (q := 19) (by decide) (by decide) ?_
          refine Go.iload X111 hx (hb hby d1_19) rfl (q := 21) rfl ?_
          refine Go.aloadN X111 hx (hb hby d1_21) rfl rfl (q := 22) rfl ?_
          refine Go.alen X111 hx hZ e111 Vb (hb hby d1_22) ?_
          refine Go.icmpYes X111 hx (hb hby d1_23) (by decide) (q := 40) (by decide) (by decide) ?_
          refine Go.aloadN X111 hx (hb hby d1_40) rfl rfl (q := 41) rfl ?_
          refine Go.aloadN X111 hx (hb hby d1_41) rfl rfl (q := 42) rfl ?_
          refine Go.iloadN X111 hx (hb hby d1_42) rfl (q := 43) rfl ?_
          refine Go.iload X111 hx (hb hby d1_43) rfl (q := 45) rfl ?_
          refine Go.callS X111 hx hZ hown (wd55 hw) (wd56 hw) (wd57 hw) (wd58 hw) (by decide) (ccr_3_4 l Z a0 hw b x0 x1 x2 x3 (kb) ((4 : Int32)) h111 OK111 Vb (by decide) (by decide)) e111 (by rw [hml]; rfl) (hb hby d1_45) (argsL := [(.ref b), (.int 3), (.int 4)]) (rest := [(.ref b101)]) (lenOf pd8 rfl) rfl rfl (W := 1) (Nat.le_refl _) (by decide) ?_
          intro v116 T116 L116 X116 hQ116
          obtain ⟨h116, e116⟩ : ∃ z, T116.heap = z := ⟨_, rfl⟩
          rw [e116] at hQ116
          obtain ⟨b2_116, kc_116, rfl, N116q, K116, fr116_b2, P116_0, P116_1⟩ := hQ116
          have N116 := Fr.app N111 N116q
          have ne_b_b2_116 : b ≠ b2_116 := ne_new Eb.lt fr116_b2
          have ne_b101_b2_116 : b101 ≠ b2_116 := ne_new A101.lt fr116_b2
          have ne_b2_104_b2_116 : b2_104 ≠ b2_116 := ne_new P104_0.lt fr116_b2
          have ne_b2_107_b2_116 : b2_107 ≠ b2_116 := ne_new P107_0.lt fr116_b2
          have ne_b2_110_b2_116 : b2_110 ≠ b2_116 := ne_new P110_0.lt fr116_b2
          have ne_d_105_b2_116 : d_105 ≠ b2_116 := ne_new P111_3.lt fr116_b2
          have g_b2_116 : Z.heap.size ≤ b2_116 := Nat.le_trans OK111.1 fr116_b2
          have z_b2_116 : h0.size ≤ b2_116 := Nat.le_trans KP.1 fr116_b2
          replace Eb := Eb.keep K116
          replace Vb := Vb.keep K116 nin0
          replace A101 := A101.keep K116
          replace P104_0 := P104_0.keep K116
          replace P104_1 := P104_1.keep K116 nin0
          replace P107_0 := P107_0.keep K116
          replace P107_1 := P107_1.keep K116 nin0
          replace P110_0 := P110_0.keep K116
          replace P110_1 := P110_1.keep K116 nin0
          replace P111_0 := P111_0.keep K116 nin0
          replace P111_1 := P111_1.keep K116 nin0
          replace P111_2 := P111_2.keep K116 nin0
          replace P111_3 := P111_3.keep K116 nin0
          have OK116 := ext_keep OK111 K116 all0
          replace KP := KP.trans K116 all0
          refine Go.face X116 hx hZ hown (wd73 hw) (wd74 hw) (wd75 hw) (wd76 hw) (wd77 hw) (wd78 hw) (wd79 hw) (wd38 hw) (wd7 hw) (wd80 hw) (by decide) (cadd_3 l Z a0 hw b101 b2_116 d_105 ((3 : Int32)) b2_104 b2_107 b2_110 (kd_105) h116 OK116 A101 g_b101 P111_0 P111_1 P111_2 P111_3 P116_0 g_d_105 ne_b101_d_105 P105_4) e116 A101 (by rw [hml]; rfl) (hb hby d1_48) (argsL := [(.ref b2_116)]) (rest := []) (lenOf pd12 rfl) rfl rfl (W := 0) (Nat.le_refl _) (by decide) ?_
          intro v117 T117 L117 X117 hQ117
          obtain ⟨h117, e117⟩ : ∃ z, T117.heap = z := ⟨_, rfl⟩
          rw [e117] at hQ117
          obtain ⟨rfl, N117q, K117, P117_0, P117_1, P117_2, P117_3⟩ := hQ117
          have N117 := Fr.app N116 N117q
          replace Eb := Eb.keep K117
          replace Vb := Vb.keep K117 (ninS ne_b_b101 (ninS ne_b_d_105 nin0))
          replace A101 := A101.keep K117
          replace P104_0 := P104_0.keep K117
          replace P104_1 := P104_1.keep K117 (ninS (Ne.symm ne_b101_b2_104) (ninS ne_b2_104_d_105 nin0))
          replace P107_0 := P107_0.keep K117
          replace P107_1 := P107_1.keep K117 (ninS (Ne.symm ne_b101_b2_107) (ninS (Ne.symm ne_d_105_b2_107) nin0))
          replace P110_0 := P110_0.keep K117
          replace P110_1 := P110_1.keep K117 (ninS (Ne.symm ne_b101_b2_110) (ninS (Ne.symm ne_d_105_b2_110) nin0))
          replace P116_0 := P116_0.keep K117
          replace P116_1 := P116_1.keep K117 (ninS (Ne.symm ne_b101_b2_116) (ninS (Ne.symm ne_d_105_b2_116) nin0))
          have OK117 := ext_keep OK116 K117 (allS g_b101 (allS g_d_105 all0))
          replace KP := KP.trans K117 (allS (Or.inr z_b101) (allS (Or.inr z_d_105) all0))
          refine Go.pop X117 hx (hb hby d1_53) rfl (q := 54) rfl ?_
          refine Go.iload X117 hx (hb hby d1_54) rfl (q := 56) rfl ?_
          refine Go.iconst X117 hx (hb hby d1_56) (r := (1 : Int32)) rfl (q := 57) rfl ?_
          refine Go.iadd X117 hx (hb hby d1_57) (r := (5 : Int32)) rfl (q := 58) rfl ?_
          refine Go.istoreN X117 hx (hb hby d1_58) (l' := #[.val (.ref b), .val (.int t), .val (.ref b101), .val (.int 5), .val (.int 4)]) rfl (q := 59) rfl ?_
          refine Go.goto X117 hx (hb hby d1_59) (q := 10) (by decide) (by decide) ?_
          refine Go.iloadN X117 hx (hb hby d1_10) rfl (q := 11) rfl ?_
          refine Go.aloadN X117 hx (hb hby d1_11) rfl rfl (q := 12) rfl ?_
          refine Go.alen X117 hx hZ e117 Vb (hb hby d1_12) ?_
          refine Go.icmpYes X117 hx (hb hby d1_13) (by decide) (q := 62) (by decide) (by decide) ?_
          refine Go.aloadN X117 hx (hb hby d1_62) rfl rfl (q := 63) rfl ?_
          have e118_0 := own_isT hc103
          have e118_1 := own_isT hc106
          have e118_2 := own_isT hc109
          have e118_3 := own_isF hc112
          exact Go.retA X117 hx hret hlk rfl rfl (hb hby d1_63) e117 (by decide) (by decide) ⟨b101, (4 : Int32), (0 : Int32), (0 : Int32), (0 : Int32), (1 : Int32), rfl, N117, KP, z_b101, A101, P117_1, ⟨fun q => absurd q hc112, fun _ => by rw [own_tb4, e118_0, e118_1, e118_2, e118_3] <;> rfl⟩, by rw [own_tb4, e118_0, e118_1, e118_2, e118_3] <;> rfl, Or.inr ⟨by decide, _, ⟨d_105, b2_104, _, _, _, P117_0, P117_3, rfl, by decide, by decide, P104_0, P104_1⟩⟩, Or.inr ⟨by decide, _, ⟨d_105, b2_107, _, _, _, P117_0, P117_3, rfl, by decide, by decide, P107_0, P107_1⟩⟩, Or.inr ⟨by decide, _, ⟨d_105, b2_110, _, _, _, P117_0, P117_3, rfl, by decide, by decide, P110_0, P110_1⟩⟩, Or.inr ⟨by decide, _, ⟨d_105, b2_116, _, _, _, P117_0, P117_3, rfl, by decide, by decide, P116_0, P116_1⟩⟩, Or.inl hc103, Or.inl hc106, Or.inl hc109, Or.inr (own_oki (by rw [own_tb3, e118_0, e118_1, e118_2] <;> rfl) (by rw [own_lt3, if_neg (own_is1n e118_2)] <;> rfl) (r := (3 : Int32)) (f := (0 : Int32)) ⟨by decide, (1 : Int32), _, ⟨d_105, b2_116, _, _, _, P117_0, P117_3, rfl, by decide, by decide, P116_0, P116_1⟩, by decide, by decide, rfl⟩)⟩
      · refine Go.icmpNo X108 hx (hb hby d1_31) (Jvm.Free.XT.ii_eq_f hc109) (q := 34) rfl ?_
        refine Go.iinc X108 hx (hb hby d1_34) rfl (r := (3 : Int32)) rfl (l' := #[.val (.ref b), .val (.int t), .val (.ref b101), .val (.int 2), .val (.int 3)]) rfl (q := 37) rfl ?_
        refine Go.goto X108 hx (hb hby d1_37) (q := 19) (by decide) (by decide) ?_
        refine Go.iload X108 hx (hb hby d1_19) rfl (q := 21) rfl ?_
        refine Go.aloadN X108 hx (hb hby d1_21) rfl rfl (q := 22) rfl ?_
        refine Go.alen X108 hx hZ e108 Vb (hb hby d1_22) ?_
        refine Go.icmpNo X108 hx (hb hby d1_23) (by decide) (q := 26) rfl ?_
        refine Go.aloadN X108 hx (hb hby d1_26) rfl rfl (q := 27) rfl ?_
        refine Go.iload X108 hx (hb hby d1_27) rfl (q := 29) rfl ?_
        refine Go.bal X108 hx hZ e108 Vb ⟨by decide, by decide⟩ (v := (.int x3)) rfl (hb hby d1_29) ?_
        refine Go.iloadN X108 hx (hb hby d1_30) rfl (q := 31) rfl ?_
        by_cases hc119 : x3 = t
        · refine Go.icmpYes X108 hx (hb hby d1_31) (Jvm.Free.XT.ii_eq_t hc119) (q := 40) (by decide) (by decide) ?_
          refine Go.aloadN X108 hx (hb hby d1_40) rfl rfl (q := 41) rfl ?_
          refine Go.aloadN X108 hx (hb hby d1_41) rfl rfl (q := 42) rfl ?_
          refine Go.iloadN X108 hx (hb hby d1_42) rfl (q := 43) rfl ?_
          refine Go.iload X108 hx (hb hby d1_43) rfl (q := 45) rfl ?_
          refine Go.callS X108 hx hZ hown (wd55 hw) (wd56 hw) (wd57 hw) (wd58 hw) (by decide) (ccr_2_3 l Z a0 hw b x0 x1 x2 x3 (kb) ((4 : Int32)) h108 OK108 Vb (by decide) (by decide)) e108 (by rw [hml]; rfl) (hb hby d1_45) (argsL := [(.ref b), (.int 2), (.int 3)]) (rest := [(.ref b101)]) (lenOf pd8 rfl) rfl rfl (W := 1) (Nat.le_refl _) (by decide) ?_
          intro v120 T120 L120 X120 hQ120
          obtain ⟨h120, e120⟩ : ∃ z, T120.heap = z := ⟨_, rfl⟩
          rw [e120] at hQ120
          obtain ⟨b2_120, kc_120, rfl, N120q, K120, fr120_b2, P120_0, P120_1⟩ := hQ120
          have N120 := Fr.app N108 N120q
          have ne_b_b2_120 : b ≠ b2_120 := ne_new Eb.lt fr120_b2
          have ne_b101_b2_120 : b101 ≠ b2_120 := ne_new A101.lt fr120_b2
          have ne_b2_104_b2_120 : b2_104 ≠ b2_120 := ne_new P104_0.lt fr120_b2
          have ne_b2_107_b2_120 : b2_107 ≠ b2_120 := ne_new P107_0.lt fr120_b2
          have ne_d_105_b2_120 : d_105 ≠ b2_120 := ne_new P108_3.lt fr120_b2
          have g_b2_120 : Z.heap.size ≤ b2_120 := Nat.le_trans OK108.1 fr120_b2
          have z_b2_120 : h0.size ≤ b2_120 := Nat.le_trans KP.1 fr120_b2
          replace Eb := Eb.keep K120
          replace Vb := Vb.keep K120 nin0
          replace A101 := A101.keep K120
          replace P104_0 := P104_0.keep K120
          replace P104_1 := P104_1.keep K120 nin0
          replace P107_0 := P107_0.keep K120
          replace P107_1 := P107_1.keep K120 nin0
          replace P108_0 := P108_0.keep K120 nin0
          replace P108_1 := P108_1.keep K120 nin0
          replace P108_2 := P108_2.keep K120 nin0
          replace P108_3 := P108_3.keep K120 nin0
          have OK120 := ext_keep OK108 K120 all0
          replace KP := KP.trans K120 all0
          refine Go.face X120 hx hZ hown (wd73 hw) (wd74 hw) (wd75 hw) (wd76 hw) (wd77 hw) (wd78 hw) (wd79 hw) (wd38 hw) (wd7 hw) (wd80 hw) (by decide) (cadd_2 l Z a0 hw b101 b2_120 d_105 ((2 : Int32)) b2_104 b2_107 (kd_105) h120 OK120 A101 g_b101 P108_0 P108_1 P108_2 P108_3 P120_0 g_d_105 ne_b101_d_105 P105_4) e120 A101 (by rw [hml]; rfl) (hb hby d1_48) (argsL := [(.ref b2_120)]) (rest := []) (lenOf pd12 rfl) rfl rfl (W := 0) (Nat.le_refl _) (by decide) ?_
          intro v121 T121 L121 X121 hQ121
          obtain ⟨h121, e121⟩ : ∃ z, T121.heap = z := ⟨_, rfl⟩
          rw [e121] at hQ121
          obtain ⟨rfl, N121q, K121, P121_0, P121_1, P121_2, P121_3⟩ := hQ121
          have N121 := Fr.app N120 N121q
          replace Eb := Eb.keep K121
          replace Vb := Vb.keep K121 (ninS ne_b_b101 (ninS ne_b_d_105 nin0))
          replace A101 := A101.keep K121
          replace P104_0 := P104_0.keep K121
          replace P104_1 := P104_1.keep K121 (ninS (Ne.symm ne_b101_b2_104) (ninS ne_b2_104_d_105 nin0))
          replace P107_0 := P107_0.keep K121
          replace P107_1 := P107_1.keep K121 (ninS (Ne.symm ne_b101_b2_107) (ninS (Ne.symm ne_d_105_b2_107) nin0))
          replace P120_0 := P120_0.keep K121
          replace P120_1 := P120_1.keep K121 (ninS (Ne.symm ne_b101_b2_120) (ninS (Ne.symm ne_d_105_b2_120) nin0))
          have OK121 := ext_keep OK120 K121 (allS g_b101 (allS g_d_105 all0))
          replace KP := KP.trans K121 (allS (Or.inr z_b101) (allS (Or.inr z_d_105) all0))
          refine Go.pop X121 hx (hb hby d1_53) rfl (q := 54) rfl ?_
          refine Go.iload X121 hx (hb hby d1_54) rfl (q := 56) rfl ?_
          refine Go.iconst X121 hx (hb hby d1_56) (r := (1 : Int32)) rfl (q := 57) rfl ?_
          refine Go.iadd X121 hx (hb hby d1_57) (r := (4 : Int32)) rfl (q := 58) rfl ?_
          refine Go.istoreN X121 hx (hb hby d1_58) (l' := #[.val (.ref b), .val (.int t), .val (.ref b101), .val (.int 4), .val (.int 3)]) rfl (q := 59) rfl ?_
          refine Go.goto X121 hx (hb hby d1_59) (q := 10) (by decide) (by decide) ?_
          refine Go.iloadN X121 hx (hb hby d1_10) rfl (q := 11) rfl ?_
          refine Go.aloadN X121 hx (hb hby d1_11) rfl rfl (q := 12) rfl ?_
          refine Go.alen X121 hx hZ e121 Vb (hb hby d1_12) ?_
          refine Go.icmpYes X121 hx (hb hby d1_13) (by decide) (q := 62) (by decide) (by decide) ?_
          refine Go.aloadN X121 hx (hb hby d1_62) rfl rfl (q := 63) rfl ?_
          have e122_0 := own_isT hc103
          have e122_1 := own_isT hc106
          have e122_2 := own_isF hc109
          have e122_3 := own_isT hc119
          exact Go.retA X121 hx hret hlk rfl rfl (hb hby d1_63) e121 (by decide) (by decide) ⟨b101, (3 : Int32), (0 : Int32), (0 : Int32), (1 : Int32), (0 : Int32), rfl, N121, KP, z_b101, A101, P121_1, ⟨fun _ => by rw [own_tb4, e122_0, e122_1, e122_2, e122_3] <;> rfl, fun q => absurd hc119 q⟩, by rw [own_tb4, e122_0, e122_1, e122_2, e122_3] <;> rfl, Or.inr ⟨by decide, _, ⟨d_105, b2_104, _, _, _, P121_0, P121_3, rfl, by decide, by decide, P104_0, P104_1⟩⟩, Or.inr ⟨by decide, _, ⟨d_105, b2_107, _, _, _, P121_0, P121_3, rfl, by decide, by decide, P107_0, P107_1⟩⟩, Or.inr ⟨by decide, _, ⟨d_105, b2_120, _, _, _, P121_0, P121_3, rfl, by decide, by decide, P120_0, P120_1⟩⟩, Or.inl ⟨by decide, rfl⟩, Or.inl hc103, Or.inl hc106, Or.inr (own_oki (by rw [own_tb2, e122_0, e122_1] <;> rfl) (by rw [own_lt2, if_neg (own_is1n e122_1)] <;> rfl) (r := (2 : Int32)) (f := (0 : Int32)) ⟨by decide, (1 : Int32), _, ⟨d_105, b2_120, _, _, _, P121_0, P121_3, rfl, by decide, by decide, P120_0, P120_1⟩, by decide, by decide, rfl⟩), Or.inl hc119⟩
        · refine Go.icmpNo X108 hx (hb hby d1_31) (Jvm.Free.XT.ii_eq_f hc119) (q := 34) rfl ?_
          refine Go.iinc X108 hx (hb hby d1_34) rfl (r := (4 : Int32)) rfl (l' := #[.val (.ref b), .val (.int t), .val (.ref b101), .val (.int 2), .val (.int 4)]) rfl (q := 37) rfl ?_
          refine Go.goto X108 hx (hb hby d1_37) (q := 19) (by decide) (by decide) ?_
          refine Go.iload X108 hx (hb hby d1_19) rfl (q := 21) rfl ?_
          refine Go.aloadN X108 hx (hb hby d1_21) rfl rfl (q := 22) rfl ?_
          refine Go.alen X108 hx hZ e108 Vb (hb hby d1_22) ?_
          refine Go.icmpYes X108 hx (hb hby d1_23) (by decide) (q := 40) (by decide) (by decide) ?_
          refine Go.aloadN X108 hx (hb hby d1_40) rfl rfl (q := 41) rfl ?_
          refine Go.aloadN X108 hx (hb hby d1_41) rfl rfl (q := 42) rfl ?_
          refine Go.iloadN X108 hx (hb hby d1_42) rfl (q := 43) rfl ?_
          refine Go.iload X108 hx (hb hby d1_43) rfl (q := 45) rfl ?_
          refine Go.callS X108 hx hZ hown (wd55 hw) (wd56 hw) (wd57 hw) (wd58 hw) (by decide) (ccr_2_4 l Z a0 hw b x0 x1 x2 x3 (kb) ((4 : Int32)) h108 OK108 Vb (by decide) (by decide)) e108 (by rw [hml]; rfl) (hb hby d1_45) (argsL := [(.ref b), (.int 2), (.int 4)]) (rest := [(.ref b101)]) (lenOf pd8 rfl) rfl rfl (W := 1) (Nat.le_refl _) (by decide) ?_
          intro v123 T123 L123 X123 hQ123
          obtain ⟨h123, e123⟩ : ∃ z, T123.heap = z := ⟨_, rfl⟩
          rw [e123] at hQ123
          obtain ⟨b2_123, kc_123, rfl, N123q, K123, fr123_b2, P123_0, P123_1⟩ := hQ123
          have N123 := Fr.app N108 N123q
          have ne_b_b2_123 : b ≠ b2_123 := ne_new Eb.lt fr123_b2
          have ne_b101_b2_123 : b101 ≠ b2_123 := ne_new A101.lt fr123_b2
          have ne_b2_104_b2_123 : b2_104 ≠ b2_123 := ne_new P104_0.lt fr123_b2
          have ne_b2_107_b2_123 : b2_107 ≠ b2_123 := ne_new P107_0.lt fr123_b2
          have ne_d_105_b2_123 : d_105 ≠ b2_123 := ne_new P108_3.lt fr123_b2
          have g_b2_123 : Z.heap.size ≤ b2_123 := Nat.le_trans OK108.1 fr123_b2
          have z_b2_123 : h0.size ≤ b2_123 := Nat.le_trans KP.1 fr123_b2
          replace Eb := Eb.keep K123
          replace Vb := Vb.keep K123 nin0
          replace A101 := A101.keep K123
          replace P104_0 := P104_0.keep K123
          replace P104_1 := P104_1.keep K123 nin0
          replace P107_0 := P107_0.keep K123
          replace P107_1 := P107_1.keep K123 nin0
          replace P108_0 := P108_0.keep K123 nin0
          replace P108_1 := P108_1.keep K123 nin0
          replace P108_2 := P108_2.keep K123 nin0
          replace P108_3 := P108_3.keep K123 nin0
          have OK123 := ext_keep OK108 K123 all0
          replace KP := KP.trans K123 all0
          refine Go.face X123 hx hZ hown (wd73 hw) (wd74 hw) (wd75 hw) (wd76 hw) (wd77 hw) (wd78 hw) (wd79 hw) (wd38 hw) (wd7 hw) (wd80 hw) (by decide) (cadd_2 l Z a0 hw b101 b2_123 d_105 ((2 : Int32)) b2_104 b2_107 (kd_105) h123 OK123 A101 g_b101 P108_0 P108_1 P108_2 P108_3 P123_0 g_d_105 ne_b101_d_105 P105_4) e123 A101 (by rw [hml]; rfl) (hb hby d1_48) (argsL := [(.ref b2_123)]) (rest := []) (lenOf pd12 rfl) rfl rfl (W := 0) (Nat.le_refl _) (by decide) ?_
          intro v124 T124 L124 X124 hQ124
          obtain ⟨h124, e124⟩ : ∃ z, T124.heap = z := ⟨_, rfl⟩
          rw [e124] at hQ124
          obtain ⟨rfl, N124q, K124, P124_0, P124_1, P124_2, P124_3⟩ := hQ124
          have N124 := Fr.app N123 N124q
          replace Eb := Eb.keep K124
          replace Vb := Vb.keep K124 (ninS ne_b_b101 (ninS ne_b_d_105 nin0))
          replace A101 := A101.keep K124
          replace P104_0 := P104_0.keep K124
          replace P104_1 := P104_1.keep K124 (ninS (Ne.symm ne_b101_b2_104) (ninS ne_b2_104_d_105 nin0))
          replace P107_0 := P107_0.keep K124
          replace P107_1 := P107_1.keep K124 (ninS (Ne.symm ne_b101_b2_107) (ninS (Ne.symm ne_d_105_b2_107) nin0))
          replace P123_0 := P123_0.keep K124
          replace P123_1 := P123_1.keep K124 (ninS (Ne.symm ne_b101_b2_123) (ninS (Ne.symm ne_d_105_b2_123) nin0))
          have OK124 := ext_keep OK123 K124 (allS g_b101 (allS g_d_105 all0))
          replace KP := KP.trans K124 (allS (Or.inr z_b101) (allS (Or.inr z_d_105) all0))
          refine Go.pop X124 hx (hb hby d1_53) rfl (q := 54) rfl ?_
          refine Go.iload X124 hx (hb hby d1_54) rfl (q := 56) rfl ?_
          refine Go.iconst X124 hx (hb hby d1_56) (r := (1 : Int32)) rfl (q := 57) rfl ?_
          refine Go.iadd X124 hx (hb hby d1_57) (r := (5 : Int32)) rfl (q := 58) rfl ?_
          refine Go.istoreN X124 hx (hb hby d1_58) (l' := #[.val (.ref b), .val (.int t), .val (.ref b101), .val (.int 5), .val (.int 4)]) rfl (q := 59) rfl ?_
          refine Go.goto X124 hx (hb hby d1_59) (q := 10) (by decide) (by decide) ?_
          refine Go.iloadN X124 hx (hb hby d1_10) rfl (q := 11) rfl ?_
          refine Go.aloadN X124 hx (hb hby d1_11) rfl rfl (q := 12) rfl ?_
          refine Go.alen X124 hx hZ e124 Vb (hb hby d1_12) ?_
          refine Go.icmpYes X124 hx (hb hby d1_13) (by decide) (q := 62) (by decide) (by decide) ?_
          refine Go.aloadN X124 hx (hb hby d1_62) rfl rfl (q := 63) rfl ?_
          have e125_0 := own_isT hc103
          have e125_1 := own_isT hc106
          have e125_2 := own_isF hc109
          have e125_3 := own_isF hc119
          exact Go.retA X124 hx hret hlk rfl rfl (hb hby d1_63) e124 (by decide) (by decide) ⟨b101, (3 : Int32), (0 : Int32), (0 : Int32), (2 : Int32), (0 : Int32), rfl, N124, KP, z_b101, A101, P124_1, ⟨fun q => absurd q hc119, fun _ => by rw [own_tb4, e125_0, e125_1, e125_2, e125_3] <;> rfl⟩, by rw [own_tb4, e125_0, e125_1, e125_2, e125_3] <;> rfl, Or.inr ⟨by decide, _, ⟨d_105, b2_104, _, _, _, P124_0, P124_3, rfl, by decide, by decide, P104_0, P104_1⟩⟩, Or.inr ⟨by decide, _, ⟨d_105, b2_107, _, _, _, P124_0, P124_3, rfl, by decide, by decide, P107_0, P107_1⟩⟩, Or.inr ⟨by decide, _, ⟨d_105, b2_123, _, _, _, P124_0, P124_3, rfl, by decide, by decide, P123_0, P123_1⟩⟩, Or.inl ⟨by decide, rfl⟩, Or.inl hc103, Or.inl hc106, Or.inr (own_oki (by rw [own_tb2, e125_0, e125_1] <;> rfl) (by rw [own_lt2, if_neg (own_is1n e125_1)] <;> rfl) (r := (2 : Int32)) (f := (0 : Int32)) ⟨by decide, (2 : Int32), _, ⟨d_105, b2_123, _, _, _, P124_0, P124_3, rfl, by decide, by decide, P123_0, P123_1⟩, by decide, by decide, rfl⟩), Or.inr (own_oki (by rw [own_tb3, e125_0, e125_1, e125_2] <;> rfl) (by rw [own_lt3, if_pos e125_2, own_lt2, if_neg (own_is1n e125_1)] <;> rfl) (r := (2 : Int32)) (f := (1 : Int32)) ⟨by decide, (2 : Int32), _, ⟨d_105, b2_123, _, _, _, P124_0, P124_3, rfl, by decide, by decide, P123_0, P123_1⟩, by decide, by decide, rfl⟩)⟩
    · refine Go.icmpNo X105 hx (hb hby d1_31) (Jvm.Free.XT.ii_eq_f hc106) (q := 34) rfl ?_
      refine Go.iinc X105 hx (hb hby d1_34) rfl (r := (2 : Int32)) rfl (l' := #[.val (.ref b), .val (.int t), .val (.ref b101), .val (.int 1), .val (.int 2)]) rfl (q := 37) rfl ?_
      refine Go.goto X105 hx (hb hby d1_37) (q := 19) (by decide) (by decide) ?_
      refine Go.iload X105 hx (hb hby d1_19) rfl (q := 21) rfl ?_
      refine Go.aloadN X105 hx (hb hby d1_21) rfl rfl (q := 22) rfl ?_
      refine Go.alen X105 hx hZ e105 Vb (hb hby d1_22) ?_
      refine Go.icmpNo X105 hx (hb hby d1_23) (by decide) (q := 26) rfl ?_
      refine Go.aloadN X105 hx (hb hby d1_26) rfl rfl (q := 27) rfl ?_
      refine Go.iload X105 hx (hb hby d1_27) rfl (q := 29) rfl ?_
      refine Go.bal X105 hx hZ e105 Vb ⟨by decide, by decide⟩ (v := (.int x2)) rfl (hb hby d1_29) ?_
      refine Go.iloadN X105 hx (hb hby d1_30) rfl (q := 31) rfl ?_
      by_cases hc126 : x2 = t
      · refine Go.icmpYes X105 hx (hb hby d1_31) (Jvm.Free.XT.ii_eq_t hc126) (q := 40) (by decide) (by decide) ?_
        refine Go.aloadN X105 hx (hb hby d1_40) rfl rfl (q := 41) rfl ?_
        refine Go.aloadN X105 hx (hb hby d1_41) rfl rfl (q := 42) rfl ?_
        refine Go.iloadN X105 hx (hb hby d1_42) rfl (q := 43) rfl ?_
        refine Go.iload X105 hx (hb hby d1_43) rfl (q := 45) rfl ?_
        refine Go.callS X105 hx hZ hown (wd55 hw) (wd56 hw) (wd57 hw) (wd58 hw) (by decide) (ccr_1_2 l Z a0 hw b x0 x1 x2 x3 (kb) ((4 : Int32)) h105 OK105 Vb (by decide) (by decide)) e105 (by rw [hml]; rfl) (hb hby d1_45) (argsL := [(.ref b), (.int 1), (.int 2)]) (rest := [(.ref b101)]) (lenOf pd8 rfl) rfl rfl (W := 1) (Nat.le_refl _) (by decide) ?_
        intro v127 T127 L127 X127 hQ127
        obtain ⟨h127, e127⟩ : ∃ z, T127.heap = z := ⟨_, rfl⟩
        rw [e127] at hQ127
        obtain ⟨b2_127, kc_127, rfl, N127q, K127, fr127_b2, P127_0, P127_1⟩ := hQ127
        have N127 := Fr.app N105 N127q
        have ne_b_b2_127 : b ≠ b2_127 := ne_new Eb.lt fr127_b2
        have ne_b101_b2_127 : b101 ≠ b2_127 := ne_new A101.lt fr127_b2
        have ne_b2_104_b2_127 : b2_104 ≠ b2_127 := ne_new P104_0.lt fr127_b2
        have ne_d_105_b2_127 : d_105 ≠ b2_127 := ne_new P105_3.lt fr127_b2
        have g_b2_127 : Z.heap.size ≤ b2_127 := Nat.le_trans OK105.1 fr127_b2
        have z_b2_127 : h0.size ≤ b2_127 := Nat.le_trans KP.1 fr127_b2
        replace Eb := Eb.keep K127
        replace Vb := Vb.keep K127 nin0
        replace A101 := A101.keep K127
        replace P104_0 := P104_0.keep K127
        replace P104_1 := P104_1.keep K127 nin0
        replace P105_0 := P105_0.keep K127 nin0
        replace P105_1 := P105_1.keep K127 nin0
        replace P105_2 := P105_2.keep K127 nin0
        replace P105_3 := P105_3.keep K127 nin0
        have OK127 := ext_keep OK105 K127 all0
        replace KP := KP.trans K127 all0
        refine Go.face X127 hx hZ hown (wd73 hw) (wd74 hw) (wd75 hw) (wd76 hw) (wd77 hw) (wd78 hw) (wd79 hw) (wd38 hw) (wd7 hw) (wd80 hw) (by decide) (cadd_1 l Z a0 hw b101 b2_127 d_105 ((1 : Int32)) b2_104 (kd_105) h127 OK127 A101 g_b101 P105_0 P105_1 P105_2 P105_3 P127_0 g_d_105 ne_b101_d_105 P105_4) e127 A101 (by rw [hml]; rfl) (hb hby d1_48) (argsL := [(.ref b2_127)]) (rest := []) (lenOf pd12 rfl) rfl rfl (W := 0) (Nat.le_refl _) (by decide) ?_
        intro v128 T128 L128 X128 hQ128
        obtain ⟨h128, e128⟩ : ∃ z, T128.heap = z := ⟨_, rfl⟩
        rw [e128] at hQ128
        obtain ⟨rfl, N128q, K128, P128_0, P128_1, P128_2, P128_3⟩ := hQ128
        have N128 := Fr.app N127 N128q
        replace Eb := Eb.keep K128
        replace Vb := Vb.keep K128 (ninS ne_b_b101 (ninS ne_b_d_105 nin0))
        replace A101 := A101.keep K128
        replace P104_0 := P104_0.keep K128
        replace P104_1 := P104_1.keep K128 (ninS (Ne.symm ne_b101_b2_104) (ninS ne_b2_104_d_105 nin0))
        replace P127_0 := P127_0.keep K128
        replace P127_1 := P127_1.keep K128 (ninS (Ne.symm ne_b101_b2_127) (ninS (Ne.symm ne_d_105_b2_127) nin0))
        have OK128 := ext_keep OK127 K128 (allS g_b101 (allS g_d_105 all0))
        replace KP := KP.trans K128 (allS (Or.inr z_b101) (allS (Or.inr z_d_105) all0))
        refine Go.pop X128 hx (hb hby d1_53) rfl (q := 54) rfl ?_
        refine Go.iload X128 hx (hb hby d1_54) rfl (q := 56) rfl ?_
        refine Go.iconst X128 hx (hb hby d1_56) (r := (1 : Int32)) rfl (q := 57) rfl ?_
        refine Go.iadd X128 hx (hb hby d1_57) (r := (3 : Int32)) rfl (q := 58) rfl ?_
        refine Go.istoreN X128 hx (hb hby d1_58) (l' := #[.val (.ref b), .val (.int t), .val (.ref b101), .val (.int 3), .val (.int 2)]) rfl (q := 59) rfl ?_
        refine Go.goto X128 hx (hb hby d1_59) (q := 10) (by decide) (by decide) ?_
        refine Go.iloadN X128 hx (hb hby d1_10) rfl (q := 11) rfl ?_
        refine Go.aloadN X128 hx (hb hby d1_11) rfl rfl (q := 12) rfl ?_
        refine Go.alen X128 hx hZ e128 Vb (hb hby d1_12) ?_
        refine Go.icmpNo X128 hx (hb hby d1_13) (by decide) (q := 16) rfl ?_
        refine Go.iloadN X128 hx (hb hby d1_16) rfl (q := 17) rfl ?_
        refine Go.istore X128 hx (hb hby d1_17) (l' := #[.val (.ref b), .val (.int t), .val (.ref b101), .val (.int 3), .val (.int 3)]) rfl (q := 19) rfl ?_
        refine Go.iload X128 hx (hb hby d1_19) rfl (q := 21) rfl ?_
        refine Go.aloadN X128 hx (hb hby d1_21) rfl rfl (q := 22) rfl ?_
        refine Go.alen X128 hx hZ e128 Vb (hb hby d1_22) ?_
        refine Go.icmpNo X128 hx (hb hby d1_23) (by decide) (q := 26) rfl ?_
        refine Go.aloadN X128 hx (hb hby d1_26) rfl rfl (q := 27) rfl ?_
        refine Go.iload X128 hx (hb hby d1_27) rfl (q := 29) rfl ?_
        refine Go.bal X128 hx hZ e128 Vb ⟨by decide, by decide⟩ (v := (.int x3)) rfl (hb hby d1_29) ?_
        refine Go.iloadN X128 hx (hb hby d1_30) rfl (q := 31) rfl ?_
        by_cases hc129 : x3 = t
        · refine Go.icmpYes X128 hx (hb hby d1_31) (Jvm.Free.XT.ii_eq_t hc129) (q := 40) (by decide) (by decide) ?_
          refine Go.aloadN X128 hx (hb hby d1_40) rfl rfl (q := 41) rfl ?_
          refine Go.aloadN X128 hx (hb hby d1_41) rfl rfl (q := 42) rfl ?_
          refine Go.iloadN X128 hx (hb hby d1_42) rfl (q := 43) rfl ?_
          refine Go.iload X128 hx (hb hby d1_43) rfl (q := 45) rfl ?_
          refine Go.callS X128 hx hZ hown (wd55 hw) (wd56 hw) (wd57 hw) (wd58 hw) (by decide) (ccr_3_3 l Z a0 hw b x0 x1 x2 x3 (kb) ((4 : Int32)) h128 OK128 Vb (by decide) (by decide)) e128 (by rw [hml]; rfl) (hb hby d1_45) (argsL := [(.ref b), (.int 3), (.int 3)]) (rest := [(.ref b101)]) (lenOf pd8 rfl) rfl rfl (W := 1) (Nat.le_refl _) (by decide) ?_
          intro v130 T130 L130 X130 hQ130
          obtain ⟨h130, e130⟩ : ∃ z, T130.heap = z := ⟨_, rfl⟩
          rw [e130] at hQ130
          obtain ⟨b2_130, kc_130, rfl, N130q, K130, fr130_b2, P130_0, P130_1⟩ := hQ130
          have N130 := Fr.app N128 N130q
          have ne_b_b2_130 : b ≠ b2_130 := ne_new Eb.lt fr130_b2
          have ne_b101_b2_130 : b101 ≠ b2_130 := ne_new A101.lt fr130_b2
          have ne_b2_104_b2_130 : b2_104 ≠ b2_130 := ne_new P104_0.lt fr130_b2
          have ne_b2_127_b2_130 : b2_127 ≠ b2_130 := ne_new P127_0.lt fr130_b2
          have ne_d_105_b2_130 : d_105 ≠ b2_130 := ne_new P128_3.lt fr130_b2
          have g_b2_130 : Z.heap.size ≤ b2_130 := Nat.le_trans OK128.1 fr130_b2
          have z_b2_130 : h0.size ≤ b2_130 := Nat.le_trans KP.1 fr130_b2
          replace Eb := Eb.keep K130
          replace Vb := Vb.keep K130 nin0
          replace A101 := A101.keep K130
          replace P104_0 := P104_0.keep K130
          replace P104_1 := P104_1.keep K130 nin0
          replace P127_0 := P127_0.keep K130
          replace P127_1 := P127_1.keep K130 nin0
          replace P128_0 := P128_0.keep K130 nin0
          replace P128_1 := P128_1.keep K130 nin0
          replace P128_2 := P128_2.keep K130 nin0
          replace P128_3 := P128_3.keep K130 nin0
          have OK130 := ext_keep OK128 K130 all0
          replace KP := KP.trans K130 all0
          refine Go.face X130 hx hZ hown (wd73 hw) (wd74 hw) (wd75 hw) (wd76 hw) (wd77 hw) (wd78 hw) (wd79 hw) (wd38 hw) (wd7 hw) (wd80 hw) (by decide) (cadd_2 l Z a0 hw b101 b2_130 d_105 ((2 : Int32)) b2_104 b2_127 (kd_105) h130 OK130 A101 g_b101 P128_0 P128_1 P128_2 P128_3 P130_0 g_d_105 ne_b101_d_105 P105_4) e130 A101 (by rw [hml]; rfl) (hb hby d1_48) (argsL := [(.ref b2_130)]) (rest := []) (lenOf pd12 rfl) rfl rfl (W := 0) (Nat.le_refl _) (by decide) ?_
          intro v131 T131 L131 X131 hQ131
          obtain ⟨h131, e131⟩ : ∃ z, T131.heap = z := ⟨_, rfl⟩
          rw [e131] at hQ131
          obtain ⟨rfl, N131q, K131, P131_0, P131_1, P131_2, P131_3⟩ := hQ131
          have N131 := Fr.app N130 N131q
          replace Eb := Eb.keep K131
          replace Vb := Vb.keep K131 (ninS ne_b_b101 (ninS ne_b_d_105 nin0))
          replace A101 := A101.keep K131
          replace P104_0 := P104_0.keep K131
          replace P104_1 := P104_1.keep K131 (ninS (Ne.symm ne_b101_b2_104) (ninS ne_b2_104_d_105 nin0))
          replace P127_0 := P127_0.keep K131
          replace P127_1 := P127_1.keep K131 (ninS (Ne.symm ne_b101_b2_127) (ninS (Ne.symm ne_d_105_b2_127) nin0))
          replace P130_0 := P130_0.keep K131
          replace P130_1 := P130_1.keep K131 (ninS (Ne.symm ne_b101_b2_130) (ninS (Ne.symm ne_d_105_b2_130) nin0))
          have OK131 := ext_keep OK130 K131 (allS g_b101 (allS g_d_105 all0))
          replace KP := KP.trans K131 (allS (Or.inr z_b101) (allS (Or.inr z_d_105) all0))
          refine Go.pop X131 hx (hb hby d1_53) rfl (q := 54) rfl ?_
          refine Go.iload X131 hx (hb hby d1_54) rfl (q := 56) rfl ?_
          refine Go.iconst X131 hx (hb hby d1_56) (r := (1 : Int32)) rfl (q := 57) rfl ?_
          refine Go.iadd X131 hx (hb hby d1_57) (r := (4 : Int32)) rfl (q := 58) rfl ?_
          refine Go.istoreN X131 hx (hb hby d1_58) (l' := #[.val (.ref b), .val (.int t), .val (.ref b101), .val (.int 4), .val (.int 3)]) rfl (q := 59) rfl ?_
          refine Go.goto X131 hx (hb hby d1_59) (q := 10) (by decide) (by decide) ?_
          refine Go.iloadN X131 hx (hb hby d1_10) rfl (q := 11) rfl ?_
          refine Go.aloadN X131 hx (hb hby d1_11) rfl rfl (q := 12) rfl ?_
          refine Go.alen X131 hx hZ e131 Vb (hb hby d1_12) ?_
          refine Go.icmpYes X131 hx (hb hby d1_13) (by decide) (q := 62) (by decide) (by decide) ?_
          refine Go.aloadN X131 hx (hb hby d1_62) rfl rfl (q := 63) rfl ?_
          have e132_0 := own_isT hc103
          have e132_1 := own_isF hc106
          have e132_2 := own_isT hc126
          have e132_3 := own_isT hc129
          exact Go.retA X131 hx hret hlk rfl rfl (hb hby d1_63) e131 (by decide) (by decide) ⟨b101, (3 : Int32), (0 : Int32), (1 : Int32), (0 : Int32), (0 : Int32), rfl, N131, KP, z_b101, A101, P131_1, ⟨fun _ => by rw [own_tb4, e132_0, e132_1, e132_2, e132_3] <;> rfl, fun q => absurd hc129 q⟩, by rw [own_tb4, e132_0, e132_1, e132_2, e132_3] <;> rfl, Or.inr ⟨by decide, _, ⟨d_105, b2_104, _, _, _, P131_0, P131_3, rfl, by decide, by decide, P104_0, P104_1⟩⟩, Or.inr ⟨by decide, _, ⟨d_105, b2_127, _, _, _, P131_0, P131_3, rfl, by decide, by decide, P127_0, P127_1⟩⟩, Or.inr ⟨by decide, _, ⟨d_105, b2_130, _, _, _, P131_0, P131_3, rfl, by decide, by decide, P130_0, P130_1⟩⟩, Or.inl ⟨by decide, rfl⟩, Or.inl hc103, Or.inr (own_oki (by rw [own_tb1, e132_0] <;> rfl) (by rw [own_lt1, if_neg (own_is1n e132_0)] <;> rfl) (r := (1 : Int32)) (f := (0 : Int32)) ⟨by decide, (1 : Int32), _, ⟨d_105, b2_127, _, _, _, P131_0, P131_3, rfl, by decide, by decide, P127_0, P127_1⟩, by decide, by decide, rfl⟩), Or.inl hc126, Or.inl hc129⟩
        · refine Go.icmpNo X128 hx (hb hby d1_31) (Jvm.Free.XT.ii_eq_f hc129) (q := 34) rfl ?_
          refine Go.iinc X128 hx (hb hby d1_34) rfl (r := (4 : Int32)) rfl (l' := #[.val (.ref b), .val (.int t), .val (.ref b101), .val (.int 3), .val (.int 4)]) rfl (q := 37) rfl ?_
          refine Go.goto X128 hx (hb hby d1_37) (q := 19) (by decide) (by decide) ?_
          refine Go.iload X128 hx (hb hby d1_19) rfl (q := 21) rfl ?_
          refine Go.aloadN X128 hx (hb hby d1_21) rfl rfl (q := 22) rfl ?_
          refine Go.alen X128 hx hZ e128 Vb (hb hby d1_22) ?_
          refine Go.icmpYes X128 hx (hb hby d1_23) (by decide) (q := 40) (by decide) (by decide) ?_
          refine Go.aloadN X128 hx (hb hby d1_40) rfl rfl (q := 41) rfl ?_
          refine Go.aloadN X128 hx (hb hby d1_41) rfl rfl (q := 42) rfl ?_
          refine Go.iloadN X128 hx (hb hby d1_42) rfl (q := 43) rfl ?_
          refine Go.iload X128 hx (hb hby d1_43) rfl (q := 45) rfl ?_
          refine Go.callS X128 hx hZ hown (wd55 hw) (wd56 hw) (wd57 hw) (wd58 hw) (by decide) (ccr_3_4 l Z a0 hw b x0 x1 x2 x3 (kb) ((4 : Int32)) h128 OK128 Vb (by decide) (by decide)) e128 (by rw [hml]; rfl) (hb hby d1_45) (argsL := [(.ref b), (.int 3), (.int 4)]) (rest := [(.ref b101)]) (lenOf pd8 rfl) rfl rfl (W := 1) (Nat.le_refl _) (by decide) ?_
          intro v133 T133 L133 X133 hQ133
          obtain ⟨h133, e133⟩ : ∃ z, T133.heap = z := ⟨_, rfl⟩
          rw [e133] at hQ133
          obtain ⟨b2_133, kc_133, rfl, N133q, K133, fr133_b2, P133_0, P133_1⟩ := hQ133
          have N133 := Fr.app N128 N133q
          have ne_b_b2_133 : b ≠ b2_133 := ne_new Eb.lt fr133_b2
          have ne_b101_b2_133 : b101 ≠ b2_133 := ne_new A101.lt fr133_b2
          have ne_b2_104_b2_133 : b2_104 ≠ b2_133 := ne_new P104_0.lt fr133_b2
          have ne_b2_127_b2_133 : b2_127 ≠ b2_133 := ne_new P127_0.lt fr133_b2
          have ne_d_105_b2_133 : d_105 ≠ b2_133 := ne_new P128_3.lt fr133_b2
          have g_b2_133 : Z.heap.size ≤ b2_133 := Nat.le_trans OK128.1 fr133_b2
          have z_b2_133 : h0.size ≤ b2_133 := Nat.le_trans KP.1 fr133_b2
          replace Eb := Eb.keep K133
          replace Vb := Vb.keep K133 nin0
          replace A101 := A101.keep K133
          replace P104_0 := P104_0.keep K133
          replace P104_1 := P104_1.keep K133 nin0
          replace P127_0 := P127_0.keep K133
          replace P127_1 := P127_1.keep K133 nin0
          replace P128_0 := P128_0.keep K133 nin0
          replace P128_1 := P128_1.keep K133 nin0
          replace P128_2 := P128_2.keep K133 nin0
          replace P128_3 := P128_3.keep K133 nin0
          have OK133 := ext_keep OK128 K133 all0
          replace KP := KP.trans K133 all0
          refine Go.face X133 hx hZ hown (wd73 hw) (wd74 hw) (wd75 hw) (wd76 hw) (wd77 hw) (wd78 hw) (wd79 hw) (wd38 hw) (wd7 hw) (wd80 hw) (by decide) (cadd_2 l Z a0 hw b101 b2_133 d_105 ((2 : Int32)) b2_104 b2_127 (kd_105) h133 OK133 A101 g_b101 P128_0 P128_1 P128_2 P128_3 P133_0 g_d_105 ne_b101_d_105 P105_4) e133 A101 (by rw [hml]; rfl) (hb hby d1_48) (argsL := [(.ref b2_133)]) (rest := []) (lenOf pd12 rfl) rfl rfl (W := 0) (Nat.le_refl _) (by decide) ?_
          intro v134 T134 L134 X134 hQ134
          obtain ⟨h134, e134⟩ : ∃ z, T134.heap = z := ⟨_, rfl⟩
          rw [e134] at hQ134
          obtain ⟨rfl, N134q, K134, P134_0, P134_1, P134_2, P134_3⟩ := hQ134
          have N134 := Fr.app N133 N134q
          replace Eb := Eb.keep K134
          replace Vb := Vb.keep K134 (ninS ne_b_b101 (ninS ne_b_d_105 nin0))
          replace A101 := A101.keep K134
          replace P104_0 := P104_0.keep K134
          replace P104_1 := P104_1.keep K134 (ninS (Ne.symm ne_b101_b2_104) (ninS ne_b2_104_d_105 nin0))
          replace P127_0 := P127_0.keep K134
          replace P127_1 := P127_1.keep K134 (ninS (Ne.symm ne_b101_b2_127) (ninS (Ne.symm ne_d_105_b2_127) nin0))
          replace P133_0 := P133_0.keep K134
          replace P133_1 := P133_1.keep K134 (ninS (Ne.symm ne_b101_b2_133) (ninS (Ne.symm ne_d_105_b2_133) nin0))
          have OK134 := ext_keep OK133 K134 (allS g_b101 (allS g_d_105 all0))
          replace KP := KP.trans K134 (allS (Or.inr z_b101) (allS (Or.inr z_d_105) all0))
          refine Go.pop X134 hx (hb hby d1_53) rfl (q := 54) rfl ?_
          refine Go.iload X134 hx (hb hby d1_54) rfl (q := 56) rfl ?_
          refine Go.iconst X134 hx (hb hby d1_56) (r := (1 : Int32)) rfl (q := 57) rfl ?_
          refine Go.iadd X134 hx (hb hby d1_57) (r := (5 : Int32)) rfl (q := 58) rfl ?_
          refine Go.istoreN X134 hx (hb hby d1_58) (l' := #[.val (.ref b), .val (.int t), .val (.ref b101), .val (.int 5), .val (.int 4)]) rfl (q := 59) rfl ?_
          refine Go.goto X134 hx (hb hby d1_59) (q := 10) (by decide) (by decide) ?_
          refine Go.iloadN X134 hx (hb hby d1_10) rfl (q := 11) rfl ?_
          refine Go.aloadN X134 hx (hb hby d1_11) rfl rfl (q := 12) rfl ?_
          refine Go.alen X134 hx hZ e134 Vb (hb hby d1_12) ?_
          refine Go.icmpYes X134 hx (hb hby d1_13) (by decide) (q := 62) (by decide) (by decide) ?_
          refine Go.aloadN X134 hx (hb hby d1_62) rfl rfl (q := 63) rfl ?_
          have e135_0 := own_isT hc103
          have e135_1 := own_isF hc106
          have e135_2 := own_isT hc126
          have e135_3 := own_isF hc129
          exact Go.retA X134 hx hret hlk rfl rfl (hb hby d1_63) e134 (by decide) (by decide) ⟨b101, (3 : Int32), (0 : Int32), (1 : Int32), (1 : Int32), (0 : Int32), rfl, N134, KP, z_b101, A101, P134_1, ⟨fun q => absurd q hc129, fun _ => by rw [own_tb4, e135_0, e135_1, e135_2, e135_3] <;> rfl⟩, by rw [own_tb4, e135_0, e135_1, e135_2, e135_3] <;> rfl, Or.inr ⟨by decide, _, ⟨d_105, b2_104, _, _, _, P134_0, P134_3, rfl, by decide, by decide, P104_0, P104_1⟩⟩, Or.inr ⟨by decide, _, ⟨d_105, b2_127, _, _, _, P134_0, P134_3, rfl, by decide, by decide, P127_0, P127_1⟩⟩, Or.inr ⟨by decide, _, ⟨d_105, b2_133, _, _, _, P134_0, P134_3, rfl, by decide, by decide, P133_0, P133_1⟩⟩, Or.inl ⟨by decide, rfl⟩, Or.inl hc103, Or.inr (own_oki (by rw [own_tb1, e135_0] <;> rfl) (by rw [own_lt1, if_neg (own_is1n e135_0)] <;> rfl) (r := (1 : Int32)) (f := (0 : Int32)) ⟨by decide, (1 : Int32), _, ⟨d_105, b2_127, _, _, _, P134_0, P134_3, rfl, by decide, by decide, P127_0, P127_1⟩, by decide, by decide, rfl⟩), Or.inl hc126, Or.inr (own_oki (by rw [own_tb3, e135_0, e135_1, e135_2] <;> rfl) (by rw [own_lt3, if_neg (own_is1n e135_2)] <;> rfl) (r := (2 : Int32)) (f := (0 : Int32)) ⟨by decide, (1 : Int32), _, ⟨d_105, b2_133, _, _, _, P134_0, P134_3, rfl, by decide, by decide, P133_0, P133_1⟩, by decide, by decide, rfl⟩)⟩
      · refine Go.icmpNo X105 hx (hb hby d1_31) (Jvm.Free.XT.ii_eq_f hc126) (q := 34) rfl ?_
        refine Go.iinc X105 hx (hb hby d1_34) rfl (r := (3 : Int32)) rfl (l' := #[.val (.ref b), .val (.int t), .val (.ref b101), .val (.int 1), .val (.int 3)]) rfl (q := 37) rfl ?_
        refine Go.goto X105 hx (hb hby d1_37) (q := 19) (by decide) (by decide) ?_
        refine Go.iload X105 hx (hb hby d1_19) rfl (q := 21) rfl ?_
        refine Go.aloadN X105 hx (hb hby d1_21) rfl rfl (q := 22) rfl ?_
        refine Go.alen X105 hx hZ e105 Vb (hb hby d1_22) ?_
        refine Go.icmpNo X105 hx (hb hby d1_23) (by decide) (q := 26) rfl ?_
        refine Go.aloadN X105 hx (hb hby d1_26) rfl rfl (q := 27) rfl ?_
        refine Go.iload X105 hx (hb hby d1_27) rfl (q := 29) rfl ?_
        refine Go.bal X105 hx hZ e105 Vb ⟨by decide, by decide⟩ (v := (.int x3)) rfl (hb hby d1_29) ?_
        refine Go.iloadN X105 hx (hb hby d1_30) rfl (q := 31) rfl ?_
        by_cases hc136 : x3 = t
        · refine Go.icmpYes X105 hx (hb hby d1_31) (Jvm.Free.XT.ii_eq_t hc136) (q := 40) (by decide) (by decide) ?_
          refine Go.aloadN X105 hx (hb hby d1_40) rfl rfl (q := 41) rfl ?_
          refine Go.aloadN X105 hx (hb hby d1_41) rfl rfl (q := 42) rfl ?_
          refine Go.iloadN X105 hx (hb hby d1_42) rfl (q := 43) rfl ?_
          refine Go.iload X105 hx (hb hby d1_43) rfl (q := 45) rfl ?_
          refine Go.callS X105 hx hZ hown (wd55 hw) (wd56 hw) (wd57 hw) (wd58 hw) (by decide) (ccr_1_3 l Z a0 hw b x0 x1 x2 x3 (kb) ((4 : Int32)) h105 OK105 Vb (by decide) (by decide)) e105 (by rw [hml]; rfl) (hb hby d1_45) (argsL := [(.ref b), (.int 1), (.int 3)]) (rest := [(.ref b101)]) (lenOf pd8 rfl) rfl rfl (W := 1) (Nat.le_refl _) (by decide) ?_
          intro v137 T137 L137 X137 hQ137
          obtain ⟨h137, e137⟩ : ∃ z, T137.heap = z := ⟨_, rfl⟩
          rw [e137] at hQ137
          obtain ⟨b2_137, kc_137, rfl, N137q, K137, fr137_b2, P137_0, P137_1⟩ := hQ137
          have N137 := Fr.app N105 N137q
          have ne_b_b2_137 : b ≠ b2_137 := ne_new Eb.lt fr137_b2
          have ne_b101_b2_137 : b101 ≠ b2_137 := ne_new A101.lt fr137_b2
          have ne_b2_104_b2_137 : b2_104 ≠ b2_137 := ne_new P104_0.lt fr137_b2
          have ne_d_105_b2_137 : d_105 ≠ b2_137 := ne_new P105_3.lt fr137_b2
          have g_b2_137 : Z.heap.size ≤ b2_137 := Nat.le_trans OK105.1 fr137_b2
          have z_b2_137 : h0.size ≤ b2_137 := Nat.le_trans KP.1 fr137_b2
          replace Eb := Eb.keep K137
          replace Vb := Vb.keep K137 nin0
          replace A101 := A101.keep K137
          replace P104_0 := P104_0.keep K137
          replace P104_1 := P104_1.keep K137 nin0
          replace P105_0 := P105_0.keep K137 nin0
          replace P105_1 := P105_1.keep K137 nin0
          replace P105_2 := P105_2.keep K137 nin0
          replace P105_3 := P105_3.keep K137 nin0
          have OK137 := ext_keep OK105 K137 all0
          replace KP := KP.trans K137 all0
          refine Go.face X137 hx hZ hown (wd73 hw) (wd74 hw) (wd75 hw) (wd76 hw) (wd77 hw) (wd78 hw) (wd79 hw) (wd38 hw) (wd7 hw) (wd80 hw) (by decide) (cadd_1 l Z a0 hw b101 b2_137 d_105 ((1 : Int32)) b2_104 (kd_105) h137 OK137 A101 g_b101 P105_0 P105_1 P105_2 P105_3 P137_0 g_d_105 ne_b101_d_105 P105_4) e137 A101 (by rw [hml]; rfl) (hb hby d1_48) (argsL := [(.ref b2_137)]) (rest := []) (lenOf pd12 rfl) rfl rfl (W := 0) (Nat.le_refl _) (by decide) ?_
          intro v138 T138 L138 X138 hQ138
          obtain ⟨h138, e138⟩ : ∃ z, T138.heap = z := ⟨_, rfl⟩
          rw [e138] at hQ138
          obtain ⟨rfl, N138q, K138, P138_0, P138_1, P138_2, P138_3⟩ := hQ138
          have N138 := Fr.app N137 N138q
          replace Eb := Eb.keep K138
          replace Vb := Vb.keep K138 (ninS ne_b_b101 (ninS ne_b_d_105 nin0))
          replace A101 := A101.keep K138
          replace P104_0 := P104_0.keep K138
          replace P104_1 := P104_1.keep K138 (ninS (Ne.symm ne_b101_b2_104) (ninS ne_b2_104_d_105 nin0))
          replace P137_0 := P137_0.keep K138
          replace P137_1 := P137_1.keep K138 (ninS (Ne.symm ne_b101_b2_137) (ninS (Ne.symm ne_d_105_b2_137) nin0))
          have OK138 := ext_keep OK137 K138 (allS g_b101 (allS g_d_105 all0))
          replace KP := KP.trans K138 (allS (Or.inr z_b101) (allS (Or.inr z_d_105) all0))
          refine Go.pop X138 hx (hb hby d1_53) rfl (q := 54) rfl ?_
          refine Go.iload X138 hx (hb hby d1_54) rfl (q := 56) rfl ?_
          refine Go.iconst X138 hx (hb hby d1_56) (r := (1 : Int32)) rfl (q := 57) rfl ?_
          refine Go.iadd X138 hx (hb hby d1_57) (r := (4 : Int32)) rfl (q := 58) rfl ?_
          refine Go.istoreN X138 hx (hb hby d1_58) (l' := #[.val (.ref b), .val (.int t), .val (.ref b101), .val (.int 4), .val (.int 3)]) rfl (q := 59) rfl ?_
          refine Go.goto X138 hx (hb hby d1_59) (q := 10) (by decide) (by decide) ?_
          refine Go.iloadN X138 hx (hb hby d1_10) rfl (q := 11) rfl ?_
          refine Go.aloadN X138 hx (hb hby d1_11) rfl rfl (q := 12) rfl ?_
          refine Go.alen X138 hx hZ e138 Vb (hb hby d1_12) ?_
          refine Go.icmpYes X138 hx (hb hby d1_13) (by decide) (q := 62) (by decide) (by decide) ?_
          refine Go.aloadN X138 hx (hb hby d1_62) rfl rfl (q := 63) rfl ?_
          have e139_0 := own_isT hc103
          have e139_1 := own_isF hc106
          have e139_2 := own_isF hc126
          have e139_3 := own_isT hc136
          exact Go.retA X138 hx hret hlk rfl rfl (hb hby d1_63) e138 (by decide) (by decide) ⟨b101, (2 : Int32), (0 : Int32), (2 : Int32), (0 : Int32), (0 : Int32), rfl, N138, KP, z_b101, A101, P138_1, ⟨fun _ => by rw [own_tb4, e139_0, e139_1, e139_2, e139_3] <;> rfl, fun q => absurd hc136 q⟩, by rw [own_tb4, e139_0, e139_1, e139_2, e139_3] <;> rfl, Or.inr ⟨by decide, _, ⟨d_105, b2_104, _, _, _, P138_0, P138_3, rfl, by decide, by decide, P104_0, P104_1⟩⟩, Or.inr ⟨by decide, _, ⟨d_105, b2_137, _, _, _, P138_0, P138_3, rfl, by decide, by decide, P137_0, P137_1⟩⟩, Or.inl ⟨by decide, rfl⟩, Or.inl ⟨by decide, rfl⟩, Or.inl hc103, Or.inr (own_oki (by rw [own_tb1, e139_0] <;> rfl) (by rw [own_lt1, if_neg (own_is1n e139_0)] <;> rfl) (r := (1 : Int32)) (f := (0 : Int32)) ⟨by decide, (2 : Int32), _, ⟨d_105, b2_137, _, _, _, P138_0, P138_3, rfl, by decide, by decide, P137_0, P137_1⟩, by decide, by decide, rfl⟩), Or.inr (own_oki (by rw [own_tb2, e139_0, e139_1] <;> rfl) (by rw [own_lt2, if_pos e139_1, own_lt1, if_neg (own_is1n e139_0)] <;> rfl) (r := (1 : Int32)) (f := (1 : Int32)) ⟨by decide, (2 : Int32), _, ⟨d_105, b2_137, _, _, _, P138_0, P138_3, rfl, by decide, by decide, P137_0, P137_1⟩, by decide, by decide, rfl⟩), Or.inl hc136⟩
        · refine Go.icmpNo X105 hx (hb hby d1_31) (Jvm.Free.XT.ii_eq_f hc136) (q := 34) rfl ?_
          refine Go.iinc X105 hx (hb hby d1_34) rfl (r := (4 : Int32)) rfl (l' := #[.val (.ref b), .val (.int t), .val (.ref b101), .val (.int 1), .val (.int 4)]) rfl (q := 37) rfl ?_
          refine Go.goto X105 hx (hb hby d1_37) (q := 19) (by decide) (by decide) ?_
          refine Go.iload X105 hx (hb hby d1_19) rfl (q := 21) rfl ?_
          refine Go.aloadN X105 hx (hb hby d1_21) rfl rfl (q := 22) rfl ?_
          refine Go.alen X105 hx hZ e105 Vb (hb hby d1_22) ?_
          refine Go.icmpYes X105 hx (hb hby d1_23) (by decide) (q := 40) (by decide) (by decide) ?_
          refine Go.aloadN X105 hx (hb hby d1_40) rfl rfl (q := 41) rfl ?_
          refine Go.aloadN X105 hx (hb hby d1_41) rfl rfl (q := 42) rfl ?_
          refine Go.iloadN X105 hx (hb hby d1_42) rfl (q := 43) rfl ?_
          refine Go.iload X105 hx (hb hby d1_43) rfl (q := 45) rfl ?_
          refine Go.callS X105 hx hZ hown (wd55 hw) (wd56 hw) (wd57 hw) (wd58 hw) (by decide) (ccr_1_4 l Z a0 hw b x0 x1 x2 x3 (kb) ((4 : Int32)) h105 OK105 Vb (by decide) (by decide)) e105 (by rw [hml]; rfl) (hb hby d1_45) (argsL := [(.ref b), (.int 1), (.int 4)]) (rest := [(.ref b101)]) (lenOf pd8 rfl) rfl rfl (W := 1) (Nat.le_refl _) (by decide) ?_
          intro v140 T140 L140 X140 hQ140
          obtain ⟨h140, e140⟩ : ∃ z, T140.heap = z := ⟨_, rfl⟩
          rw [e140] at hQ140
          obtain ⟨b2_140, kc_140, rfl, N140q, K140, fr140_b2, P140_0, P140_1⟩ := hQ140
          have N140 := Fr.app N105 N140q
          have ne_b_b2_140 : b ≠ b2_140 := ne_new Eb.lt fr140_b2
          have ne_b101_b2_140 : b101 ≠ b2_140 := ne_new A101.lt fr140_b2
          have ne_b2_104_b2_140 : b2_104 ≠ b2_140 := ne_new P104_0.lt fr140_b2
          have ne_d_105_b2_140 : d_105 ≠ b2_140 := ne_new P105_3.lt fr140_b2
          have g_b2_140 : Z.heap.size ≤ b2_140 := Nat.le_trans OK105.1 fr140_b2
          have z_b2_140 : h0.size ≤ b2_140 := Nat.le_trans KP.1 fr140_b2
          replace Eb := Eb.keep K140
          replace Vb := Vb.keep K140 nin0
          replace A101 := A101.keep K140
          replace P104_0 := P104_0.keep K140
          replace P104_1 := P104_1.keep K140 nin0
          replace P105_0 := P105_0.keep K140 nin0
          replace P105_1 := P105_1.keep K140 nin0
          replace P105_2 := P105_2.keep K140 nin0
          replace P105_3 := P105_3.keep K140 nin0
          have OK140 := ext_keep OK105 K140 all0
          replace KP := KP.trans K140 all0
          refine Go.face X140 hx hZ hown (wd73 hw) (wd74 hw) (wd75 hw) (wd76 hw) (wd77 hw) (wd78 hw) (wd79 hw) (wd38 hw) (wd7 hw) (wd80 hw) (by decide) (cadd_1 l Z a0 hw b101 b2_140 d_105 ((1 : Int32)) b2_104 (kd_105) h140 OK140 A101 g_b101 P105_0 P105_1 P105_2 P105_3 P140_0 g_d_105 ne_b101_d_105 P105_4) e140 A101 (by rw [hml]; rfl) (hb hby d1_48) (argsL := [(.ref b2_140)]) (rest := []) (lenOf pd12 rfl) rfl rfl (W := 0) (Nat.le_refl _) (by decide) ?_
          intro v141 T141 L141 X141 hQ141
          obtain ⟨h141, e141⟩ : ∃ z, T141.heap = z := ⟨_, rfl⟩
          rw [e141] at hQ141
          obtain ⟨rfl, N141q, K141, P141_0, P141_1, P141_2, P141_3⟩ := hQ141
          have N141 := Fr.app N140 N141q
          replace Eb := Eb.keep K141
          replace Vb := Vb.keep K141 (ninS ne_b_b101 (ninS ne_b_d_105 nin0))
          replace A101 := A101.keep K141
          replace P104_0 := P104_0.keep K141
          replace P104_1 := P104_1.keep K141 (ninS (Ne.symm ne_b101_b2_104) (ninS ne_b2_104_d_105 nin0))
          replace P140_0 := P140_0.keep K141
          replace P140_1 := P140_1.keep K141 (ninS (Ne.symm ne_b101_b2_140) (ninS (Ne.symm ne_d_105_b2_140) nin0))
          have OK141 := ext_keep OK140 K141 (allS g_b101 (allS g_d_105 all0))
          replace KP := KP.trans K141 (allS (Or.inr z_b101) (allS (Or.inr z_d_105) all0))
          refine Go.pop X141 hx (hb hby d1_53) rfl (q := 54) rfl ?_
          refine Go.iload X141 hx (hb hby d1_54) rfl (q := 56) rfl ?_
          refine Go.iconst X141 hx (hb hby d1_56) (r := (1 : Int32)) rfl (q := 57) rfl ?_
          refine Go.iadd X141 hx (hb hby d1_57) (r := (5 : Int32)) rfl (q := 58) rfl ?_
          refine Go.istoreN X141 hx (hb hby d1_58) (l' := #[.val (.ref b), .val (.int t), .val (.ref b101), .val (.int 5), .val (.int 4)]) rfl (q := 59) rfl ?_
          refine Go.goto X141 hx (hb hby d1_59) (q := 10) (by decide) (by decide) ?_
          refine Go.iloadN X141 hx (hb hby d1_10) rfl (q := 11) rfl ?_
          refine Go.aloadN X141 hx (hb hby d1_11) rfl rfl (q := 12) rfl ?_
          refine Go.alen X141 hx hZ e141 Vb (hb hby d1_12) ?_
          refine Go.icmpYes X141 hx (hb hby d1_13) (by decide) (q := 62) (by decide) (by decide) ?_
          refine Go.aloadN X141 hx (hb hby d1_62) rfl rfl (q := 63) rfl ?_
          have e142_0 := own_isT hc103
          have e142_1 := own_isF hc106
          have e142_2 := own_isF hc126
          have e142_3 := own_isF hc136
          exact Go.retA X141 hx hret hlk rfl rfl (hb hby d1_63) e141 (by decide) (by decide) ⟨b101, (2 : Int32), (0 : Int32), (3 : Int32), (0 : Int32), (0 : Int32), rfl, N141, KP, z_b101, A101, P141_1, ⟨fun q => absurd q hc136, fun _ => by rw [own_tb4, e142_0, e142_1, e142_2, e142_3] <;> rfl⟩, by rw [own_tb4, e142_0, e142_1, e142_2, e142_3] <;> rfl, Or.inr ⟨by decide, _, ⟨d_105, b2_104, _, _, _, P141_0, P141_3, rfl, by decide, by decide, P104_0, P104_1⟩⟩, Or.inr ⟨by decide, _, ⟨d_105, b2_140, _, _, _, P141_0, P141_3, rfl, by decide, by decide, P140_0, P140_1⟩⟩, Or.inl ⟨by decide, rfl⟩, Or.inl ⟨by decide, rfl⟩, Or.inl hc103, Or.inr (own_oki (by rw [own_tb1, e142_0] <;> rfl) (by rw [own_lt1, if_neg (own_is1n e142_0)] <;> rfl) (r := (1 : Int32)) (f := (0 : Int32)) ⟨by decide, (3 : Int32), _, ⟨d_105, b2_140, _, _, _, P141_0, P141_3, rfl, by decide, by decide, P140_0, P140_1⟩, by decide, by decide, rfl⟩), Or.inr (own_oki (by rw [own_tb2, e142_0, e142_1] <;> rfl) (by rw [own_lt2, if_pos e142_1, own_lt1, if_neg (own_is1n e142_0)] <;> rfl) (r := (1 : Int32)) (f := (1 : Int32)) ⟨by decide, (3 : Int32), _, ⟨d_105, b2_140, _, _, _, P141_0, P141_3, rfl, by decide, by decide, P140_0, P140_1⟩, by decide, by decide, rfl⟩), Or.inr (own_oki (by rw [own_tb3, e142_0, e142_1, e142_2] <;> rfl) (by rw [own_lt3, if_pos e142_2, own_lt2, if_pos e142_1, own_lt1, if_neg (own_is1n e142_0)] <;> rfl) (r := (1 : Int32)) (f := (2 : Int32)) ⟨by decide, (3 : Int32), _, ⟨d_105, b2_140, _, _, _, P141_0, P141_3, rfl, by decide, by decide, P140_0, P140_1⟩, by decide, by decide, rfl⟩)⟩
  · refine Go.icmpNo X102 hx (hb hby d1_31) (Jvm.Free.XT.ii_eq_f hc103) (q := 34) rfl ?_
    refine Go.iinc X102 hx (hb hby d1_34) rfl (r := (1 : Int32)) rfl (l' := #[.val (.ref b), .val (.int t), .val (.ref b101), .val (.int 0), .val (.int 1)]) rfl (q := 37) rfl ?_
    refine Go.goto X102 hx (hb hby d1_37) (q := 19) (by decide) (by decide) ?_
    refine Go.iload X102 hx (hb hby d1_19) rfl (q := 21) rfl ?_
    refine Go.aloadN X102 hx (hb hby d1_21) rfl rfl (q := 22) rfl ?_
    refine Go.alen X102 hx hZ e102 Vb (hb hby d1_22) ?_
    refine Go.icmpNo X102 hx (hb hby d1_23) (by decide) (q := 26) rfl ?_
    refine Go.aloadN X102 hx (hb hby d1_26) rfl rfl (q := 27) rfl ?_
    refine Go.iload X102 hx (hb hby d1_27) rfl (q := 29) rfl ?_
    refine Go.bal X102 hx hZ e102 Vb ⟨by decide, by decide⟩ (v := (.int x1)) rfl (hb hby d1_29) ?_
    refine Go.iloadN X102 hx (hb hby d1_30) rfl (q := 31) rfl ?_
    by_cases hc143 : x1 = t
    · refine Go.icmpYes X102 hx (hb hby d1_31) (Jvm.Free.XT.ii_eq_t hc143) (q := 40) (by decide) (by decide) ?_
      refine Go.aloadN X102 hx (hb hby d1_40) rfl rfl (q := 41) rfl ?_
      refine Go.aloadN X102 hx (hb hby d1_41) rfl rfl (q := 42) rfl ?_
      refine Go.iloadN X102 hx (hb hby d1_42) rfl (q := 43) rfl ?_
      refine Go.iload X102 hx (hb hby d1_43) rfl (q := 45) rfl ?_
      refine Go.callS X102 hx hZ hown (wd55 hw) (wd56 hw) (wd57 hw) (wd58 hw) (by decide) (ccr_0_1 l Z a0 hw b x0 x1 x2 x3 (kb) ((4 : Int32)) h102 OK102 Vb (by decide) (by decide) (by decide)) e102 (by rw [hml]; rfl) (hb hby d1_45) (argsL := [(.ref b), (.int 0), (.int 1)]) (rest := [(.ref b101)]) (lenOf pd8 rfl) rfl rfl (W := 1) (Nat.le_refl _) (by decide) ?_
      intro v144 T144 L144 X144 hQ144
      obtain ⟨h144, e144⟩ : ∃ z, T144.heap = z := ⟨_, rfl⟩
      rw [e144] at hQ144
      obtain ⟨b2_144, kc_144, rfl, N144q, K144, fr144_b2, P144_0, P144_1⟩ := hQ144
      have N144 := Fr.app N102 N144q
      have ne_b_b2_144 : b ≠ b2_144 := ne_new Eb.lt fr144_b2
      have ne_b101_b2_144 : b101 ≠ b2_144 := ne_new A101.lt fr144_b2
      have g_b2_144 : Z.heap.size ≤ b2_144 := Nat.le_trans OK102.1 fr144_b2
      have z_b2_144 : h0.size ≤ b2_144 := Nat.le_trans KP.1 fr144_b2
      replace Eb := Eb.keep K144
      replace Vb := Vb.keep K144 nin0
      replace A101 := A101.keep K144
      replace P102_0 := P102_0.keep K144 nin0
      replace P102_1 := P102_1.keep K144 nin0
      replace P102_2 := P102_2.keep K144 nin0
      have OK144 := ext_keep OK102 K144 all0
      replace KP := KP.trans K144 all0
      refine Go.face X144 hx hZ hown (wd73 hw) (wd74 hw) (wd75 hw) (wd76 hw) (wd77 hw) (wd78 hw) (wd79 hw) (wd38 hw) (wd7 hw) (wd80 hw) (by decide) (cadd_0 l Z a0 hw b101 b2_144 de ((0 : Int32)) h144 OK144 A101 g_b101 P102_0 P102_1 P102_2 P144_0 SD LD) e144 A101 (by rw [hml]; rfl) (hb hby d1_48) (argsL := [(.ref b2_144)]) (rest := []) (lenOf pd12 rfl) rfl rfl (W := 0) (Nat.le_refl _) (by decide) ?_
      intro v145 T145 L145 X145 hQ145
      obtain ⟨h145, e145⟩ : ∃ z, T145.heap = z := ⟨_, rfl⟩
      rw [e145] at hQ145
      obtain ⟨d_145, kd_145, rfl, N145q, K145, fr145_d, P145_0, P145_1, P145_2, P145_3, P145_4⟩ := hQ145
      have N145 := Fr.app N144 N145q
      have ne_b_d_145 : b ≠ d_145 := ne_new Eb.lt fr145_d
      have ne_b101_d_145 : b101 ≠ d_145 := ne_new A101.lt fr145_d
      have ne_b2_144_d_145 : b2_144 ≠ d_145 := ne_new P144_0.lt fr145_d
      have g_d_145 : Z.heap.size ≤ d_145 := Nat.le_trans OK144.1 fr145_d
      have z_d_145 : h0.size ≤ d_145 := Nat.le_trans KP.1 fr145_d
      replace Eb := Eb.keep K145
      replace Vb := Vb.keep K145 (ninS ne_b_b101 nin0)
      replace A101 := A101.keep K145
      replace P144_0 := P144_0.keep K145
      replace P144_1 := P144_1.keep K145 (ninS (Ne.symm ne_b101_b2_144) nin0)
      have OK145 := ext_keep OK144 K145 (allS g_b101 all0)
      replace KP := KP.trans K145 (allS (Or.inr z_b101) all0)
      refine Go.pop X145 hx (hb hby d1_53) rfl (q := 54) rfl ?_
      refine Go.iload X145 hx (hb hby d1_54) rfl (q := 56) rfl ?_
      refine Go.iconst X145 hx (hb hby d1_56) (r := (1 : Int32)) rfl (q := 57) rfl ?_
      refine Go.iadd X145 hx (hb hby d1_57) (r := (2 : Int32)) rfl (q := 58) rfl ?_
      refine Go.istoreN X145 hx (hb hby d1_58) (l' := #[.val (.ref b), .val (.int t), .val (.ref b101), .val (.int 2), .val (.int 1)]) rfl (q := 59) rfl ?_
      refine Go.goto X145 hx (hb hby d1_59) (q := 10) (by decide) (by decide) ?_
      refine Go.iloadN X145 hx (hb hby d1_10) rfl (q := 11) rfl ?_
      refine Go.aloadN X145 hx (hb hby d1_11) rfl rfl (q := 12) rfl ?_
      refine Go.alen X145 hx hZ e145 Vb (hb hby d1_12) ?_
      refine Go.icmpNo X145 hx (hb hby d1_13) (by decide) (q := 16) rfl ?_
      refine Go.iloadN X145 hx (hb hby d1_16) rfl (q := 17) rfl ?_
      refine Go.istore X145 hx (hb hby d1_17) (l' := #[.val (.ref b), .val (.int t), .val (.ref b101), .val (.int 2), .val (.int 2)]) rfl (q := 19) rfl ?_
      refine Go.iload X145 hx (hb hby d1_19) rfl (q := 21) rfl ?_
      refine Go.aloadN X145 hx (hb hby d1_21) rfl rfl (q := 22) rfl ?_
      refine Go.alen X145 hx hZ e145 Vb (hb hby d1_22) ?_
      refine Go.icmpNo X145 hx (hb hby d1_23) (by decide) (q := 26) rfl ?_
      refine Go.aloadN X145 hx (hb hby d1_26) rfl rfl (q := 27) rfl ?_
      refine Go.iload X145 hx (hb hby d1_27) rfl (q := 29) rfl ?_
      refine Go.bal X145 hx hZ e145 Vb ⟨by decide, by decide⟩ (v := (.int x2)) rfl (hb hby d1_29) ?_
      refine Go.iloadN X145 hx (hb hby d1_30) rfl (q := 31) rfl ?_
      by_cases hc146 : x2 = t
      · refine Go.icmpYes X145 hx (hb hby d1_31) (Jvm.Free.XT.ii_eq_t hc146) (q := 40) (by decide) (by decide) ?_
        refine Go.aloadN X145 hx (hb hby d1_40) rfl rfl (q := 41) rfl ?_
        refine Go.aloadN X145 hx (hb hby d1_41) rfl rfl (q := 42) rfl ?_
        refine Go.iloadN X145 hx (hb hby d1_42) rfl (q := 43) rfl ?_
        refine Go.iload X145 hx (hb hby d1_43) rfl (q := 45) rfl ?_
        refine Go.callS X145 hx hZ hown (wd55 hw) (wd56 hw) (wd57 hw) (wd58 hw) (by decide) (ccr_2_2 l Z a0 hw b x0 x1 x2 x3 (kb) ((4 : Int32)) h145 OK145 Vb (by decide) (by decide)) e145 (by rw [hml]; rfl) (hb hby d1_45) (argsL := [(.ref b), (.int 2), (.int 2)]) (rest := [(.ref b101)]) (lenOf pd8 rfl) rfl rfl (W := 1) (Nat.le_refl _) (by decide) ?_
        intro v147 T147 L147 X147 hQ147
        obtain ⟨h147, e147⟩ : ∃ z, T147.heap = z := ⟨_, rfl⟩
        rw [e147] at hQ147
        obtain ⟨b2_147, kc_147, rfl, N147q, K147, fr147_b2, P147_0, P147_1⟩ := hQ147
        have N147 := Fr.app N145 N147q
        have ne_b_b2_147 : b ≠ b2_147 := ne_new Eb.lt fr147_b2
        have ne_b101_b2_147 : b101 ≠ b2_147 := ne_new A101.lt fr147_b2
        have ne_b2_144_b2_147 : b2_144 ≠ b2_147 := ne_new P144_0.lt fr147_b2
        have ne_d_145_b2_147 : d_145 ≠ b2_147 := ne_new P145_3.lt fr147_b2
        have g_b2_147 : Z.heap.size ≤ b2_147 := Nat.le_trans OK145.1 fr147_b2
        have z_b2_147 : h0.size ≤ b2_147 := Nat.le_trans KP.1 fr147_b2
        replace Eb := Eb.keep K147
        replace Vb := Vb.keep K147 nin0
        replace A101 := A101.keep K147
        replace P144_0 := P144_0.keep K147
        replace P144_1 := P144_1.keep K147 nin0
        replace P145_0 := P145_0.keep K147 nin0
        replace P145_1 := P145_1.keep K147 nin0
        replace P145_2 := P145_2.keep K147 nin0
        replace P145_3 := P145_3.keep K147 nin0
        have OK147 := ext_keep OK145 K147 all0
        replace KP := KP.trans K147 all0
        refine Go.face X147 hx hZ hown (wd73 hw) (wd74 hw) (wd75 hw) (wd76 hw) (wd77 hw) (wd78 hw) (wd79 hw) (wd38 hw) (wd7 hw) (wd80 hw) (by decide) (cadd_1 l Z a0 hw b101 b2_147 d_145 ((1 : Int32)) b2_144 (kd_145) h147 OK147 A101 g_b101 P145_0 P145_1 P145_2 P145_3 P147_0 g_d_145 ne_b101_d_145 P145_4) e147 A101 (by rw [hml]; rfl) (hb hby d1_48) (argsL := [(.ref b2_147)]) (rest := []) (lenOf pd12 rfl) rfl rfl (W := 0) (Nat.le_refl _) (by decide) ?_
        intro v148 T148 L148 X148 hQ148
        obtain ⟨h148, e148⟩ : ∃ z, T148.heap = z := ⟨_, rfl⟩
        rw [e148] at hQ148
        obtain ⟨rfl, N148q, K148, P148_0, P148_1, P148_2, P148_3⟩ := hQ148
        have N148 := Fr.app N147 N148q
        replace Eb := Eb.keep K148
        replace Vb := Vb.keep K148 (ninS ne_b_b101 (ninS ne_b_d_145 nin0))
        replace A101 := A101.keep K148
        replace P144_0 := P144_0.keep K148
        replace P144_1 := P144_1.keep K148 (ninS (Ne.symm ne_b101_b2_144) (ninS ne_b2_144_d_145 nin0))
        replace P147_0 := P147_0.keep K148
        replace P147_1 := P147_1.keep K148 (ninS (Ne.symm ne_b101_b2_147) (ninS (Ne.symm ne_d_145_b2_147) nin0))
        have OK148 := ext_keep OK147 K148 (allS g_b101 (allS g_d_145 all0))
        replace KP := KP.trans K148 (allS (Or.inr z_b101) (allS (Or.inr z_d_145) all0))
        refine Go.pop X148 hx (hb hby d1_53) rfl (q := 54) rfl ?_
        refine Go.iload X148 hx (hb hby d1_54) rfl (q := 56) rfl ?_
        refine Go.iconst X148 hx (hb hby d1_56) (r := (1 : Int32)) rfl (q := 57) rfl ?_
        refine Go.iadd X148 hx (hb hby d1_57) (r := (3 : Int32)) rfl (q := 58) rfl ?_
        refine Go.istoreN X148 hx (hb hby d1_58) (l' := #[.val (.ref b), .val (.int t), .val (.ref b101), .val (.int 3), .val (.int 2)]) rfl (q := 59) rfl ?_
        refine Go.goto X148 hx (hb hby d1_59) (q := 10) (by decide) (by decide) ?_
        refine Go.iloadN X148 hx (hb hby d1_10) rfl (q := 11) rfl ?_
        refine Go.aloadN X148 hx (hb hby d1_11) rfl rfl (q := 12) rfl ?_
        refine Go.alen X148 hx hZ e148 Vb (hb hby d1_12) ?_
        refine Go.icmpNo X148 hx (hb hby d1_13) (by decide) (q := 16) rfl ?_
        refine Go.iloadN X148 hx (hb hby d1_16) rfl (q := 17) rfl ?_
        refine Go.istore X148 hx (hb hby d1_17) (l' := #[.val (.ref b), .val (.int t), .val (.ref b101), .val (.int 3), .val (.int 3)]) rfl (q := 19) rfl ?_
        refine Go.iload X148 hx (hb hby d1_19) rfl (q := 21) rfl ?_
        refine Go.aloadN X148 hx (hb hby d1_21) rfl rfl (q := 22) rfl ?_
        refine Go.alen X148 hx hZ e148 Vb (hb hby d1_22) ?_
        refine Go.icmpNo X148 hx (hb hby d1_23) (by decide) (q := 26) rfl ?_
        refine Go.aloadN X148 hx (hb hby d1_26) rfl rfl (q := 27) rfl ?_
        refine Go.iload X148 hx (hb hby d1_27) rfl (q := 29) rfl ?_
        refine Go.bal X148 hx hZ e148 Vb ⟨by decide, by decide⟩ (v := (.int x3)) rfl (hb hby d1_29) ?_
        refine Go.iloadN X148 hx (hb hby d1_30) rfl (q := 31) rfl ?_
        by_cases hc149 : x3 = t
        · refine Go.icmpYes X148 hx (hb hby d1_31) (Jvm.Free.XT.ii_eq_t hc149) (q := 40) (by decide) (by decide) ?_
          refine Go.aloadN X148 hx (hb hby d1_40) rfl rfl (q := 41) rfl ?_
          refine Go.aloadN X148 hx (hb hby d1_41) rfl rfl (q := 42) rfl ?_
          refine Go.iloadN X148 hx (hb hby d1_42) rfl (q := 43) rfl ?_
          refine Go.iload X148 hx (hb hby d1_43) rfl (q := 45) rfl ?_
          refine Go.callS X148 hx hZ hown (wd55 hw) (wd56 hw) (wd57 hw) (wd58 hw) (by decide) (ccr_3_3 l Z a0 hw b x0 x1 x2 x3 (kb) ((4 : Int32)) h148 OK148 Vb (by decide) (by decide)) e148 (by rw [hml]; rfl) (hb hby d1_45) (argsL := [(.ref b), (.int 3), (.int 3)]) (rest := [(.ref b101)]) (lenOf pd8 rfl) rfl rfl (W := 1) (Nat.le_refl _) (by decide) ?_
          intro v150 T150 L150 X150 hQ150
          obtain ⟨h150, e150⟩ : ∃ z, T150.heap = z := ⟨_, rfl⟩
          rw [e150] at hQ150
          obtain ⟨b2_150, kc_150, rfl, N150q, K150, fr150_b2, P150_0, P150_1⟩ := hQ150
          have N150 := Fr.app N148 N150q
          have ne_b_b2_150 : b ≠ b2_150 := ne_new Eb.lt fr150_b2
          have ne_b101_b2_150 : b101 ≠ b2_150 := ne_new A101.lt fr150_b2
          have ne_b2_144_b2_150 : b2_144 ≠ b2_150 := ne_new P144_0.lt fr150_b2
          have ne_b2_147_b2_150 : b2_147 ≠ b2_150 := ne_new P147_0.lt fr150_b2
          have ne_d_145_b2_150 : d_145 ≠ b2_150 := ne_new P148_3.lt fr150_b2
          have g_b2_150 : Z.heap.size ≤ b2_150 := Nat.le_trans OK148.1 fr150_b2
          have z_b2_150 : h0.size ≤ b2_150 := Nat.le_trans KP.1 fr150_b2
          replace Eb := Eb.keep K150
          replace Vb := Vb.keep K150 nin0
          replace A101 := A101.keep K150
          replace P144_0 := P144_0.keep K150
          replace P144_1 := P144_1.keep K150 nin0
          replace P147_0 := P147_0.keep K150
          replace P147_1 := P147_1.keep K150 nin0
          replace P148_0 := P148_0.keep K150 nin0
          replace P148_1 := P148_1.keep K150 nin0
          replace P148_2 := P148_2.keep K150 nin0
          replace P148_3 := P148_3.keep K150 nin0
          have OK150 := ext_keep OK148 K150 all0
          replace KP := KP.trans K150 all0
          refine Go.face X150 hx hZ hown (wd73 hw) (wd74 hw) (wd75 hw) (wd76 hw) (wd77 hw) (wd78 hw) (wd79 hw) (wd38 hw) (wd7 hw) (wd80 hw) (by decide) (cadd_2 l Z a0 hw b101 b2_150 d_145 ((2 : Int32)) b2_144 b2_147 (kd_145) h150 OK150 A101 g_b101 P148_0 P148_1 P148_2 P148_3 P150_0 g_d_145 ne_b101_d_145 P145_4) e150 A101 (by rw [hml]; rfl) (hb hby d1_48) (argsL := [(.ref b2_150)]) (rest := []) (lenOf pd12 rfl) rfl rfl (W := 0) (Nat.le_refl _) (by decide) ?_
          intro v151 T151 L151 X151 hQ151
          obtain ⟨h151, e151⟩ : ∃ z, T151.heap = z := ⟨_, rfl⟩
          rw [e151] at hQ151
          obtain ⟨rfl, N151q, K151, P151_0, P151_1, P151_2, P151_3⟩ := hQ151
          have N151 := Fr.app N150 N151q
          replace Eb := Eb.keep K151
          replace Vb := Vb.keep K151 (ninS ne_b_b101 (ninS ne_b_d_145 nin0))
          replace A101 := A101.keep K151
          replace P144_0 := P144_0.keep K151
          replace P144_1 := P144_1.keep K151 (ninS (Ne.symm ne_b101_b2_144) (ninS ne_b2_144_d_145 nin0))
          replace P147_0 := P147_0.keep K151
          replace P147_1 := P147_1.keep K151 (ninS (Ne.symm ne_b101_b2_147) (ninS (Ne.symm ne_d_145_b2_147) nin0))
          replace P150_0 := P150_0.keep K151
          replace P150_1 := P150_1.keep K151 (ninS (Ne.symm ne_b101_b2_150) (ninS (Ne.symm ne_d_145_b2_150) nin0))
          have OK151 := ext_keep OK150 K151 (allS g_b101 (allS g_d_145 all0))
          replace KP := KP.trans K151 (allS (Or.inr z_b101) (allS (Or.inr z_d_145) all0))
          refine Go.pop X151 hx (hb hby d1_53) rfl (q := 54) rfl ?_
          refine Go.iload X151 hx (hb hby d1_54) rfl (q := 56) rfl ?_
          refine Go.iconst X151 hx (hb hby d1_56) (r := (1 : Int32)) rfl (q := 57) rfl ?_
          refine Go.iadd X151 hx (hb hby d1_57) (r := (4 : Int32)) rfl (q := 58) rfl ?_
          refine Go.istoreN X151 hx (hb hby d1_58) (l' := #[.val (.ref b), .val (.int t), .val (.ref b101), .val (.int 4), .val (.int 3)]) rfl (q := 59) rfl ?_
          refine Go.goto X151 hx (hb hby d1_59) (q := 10) (by decide) (by decide) ?_
          refine Go.iloadN X151 hx (hb hby d1_10) rfl (q := 11) rfl ?_
          refine Go.aloadN X151 hx (hb hby d1_11) rfl rfl (q := 12) rfl ?_
          refine Go.alen X151 hx hZ e151 Vb (hb hby d1_12) ?_
          refine Go.icmpYes X151 hx (hb hby d1_13) (by decide) (q := 62) (by decide) (by decide) ?_
          refine Go.aloadN X151 hx (hb hby d1_62) rfl rfl (q := 63) rfl ?_
          have e152_0 := own_isF hc103
          have e152_1 := own_isT hc143
          have e152_2 := own_isT hc146
          have e152_3 := own_isT hc149
          exact Go.retA X151 hx hret hlk rfl rfl (hb hby d1_63) e151 (by decide) (by decide) ⟨b101, (3 : Int32), (1 : Int32), (0 : Int32), (0 : Int32), (0 : Int32), rfl, N151, KP, z_b101, A101, P151_1, ⟨fun _ => by rw [own_tb4, e152_0, e152_1, e152_2, e152_3] <;> rfl, fun q => absurd hc149 q⟩, by rw [own_tb4, e152_0, e152_1, e152_2, e152_3] <;> rfl, Or.inr ⟨by decide, _, ⟨d_145, b2_144, _, _, _, P151_0, P151_3, rfl, by decide, by decide, P144_0, P144_1⟩⟩, Or.inr ⟨by decide, _, ⟨d_145, b2_147, _, _, _, P151_0, P151_3, rfl, by decide, by decide, P147_0, P147_1⟩⟩, Or.inr ⟨by decide, _, ⟨d_145, b2_150, _, _, _, P151_0, P151_3, rfl, by decide, by decide, P150_0, P150_1⟩⟩, Or.inl ⟨by decide, rfl⟩, Or.inr ⟨by decide, (1 : Int32), _, ⟨d_145, b2_144, _, _, _, P151_0, P151_3, rfl, by decide, by decide, P144_0, P144_1⟩, by decide, by decide, rfl⟩, Or.inl hc143, Or.inl hc146, Or.inl hc149⟩
        · refine Go.icmpNo X148 hx (hb hby d1_31) (Jvm.Free.XT.ii_eq_f hc149) (q := 34) rfl ?_
          refine Go.iinc X148 hx (hb hby d1_34) rfl (r := (4 : Int32)) rfl (l' := #[.val (.ref b), .val (.int t), .val (.ref b101), .val (.int 3), .val (.int 4)]) rfl (q := 37) rfl ?_
          refine Go.goto X148 hx (hb hby d1_37) (q := 19) (by decide) (by decide) ?_
          refine Go.iload X148 hx (hb hby d1_19) rfl (q := 21) rfl ?_
          refine Go.aloadN X148 hx (hb hby d1_21) rfl rfl (q := 22) rfl ?_
          refine Go.alen X148 hx hZ e148 Vb (hb hby d1_22) ?_
          refine Go.icmpYes X148 hx (hb hby d1_23) (by decide) (q := 40) (by decide) (by decide) ?_
          refine Go.aloadN X148 hx (hb hby d1_40) rfl rfl (q := 41) rfl ?_
          refine Go.aloadN X148 hx (hb hby d1_41) rfl rfl (q := 42) rfl ?_
          refine Go.iloadN X148 hx (hb hby d1_42) rfl (q := 43) rfl ?_
          refine Go.iload X148 hx (hb hby d1_43) rfl (q := 45) rfl ?_
          refine Go.callS X148 hx hZ hown (wd55 hw) (wd56 hw) (wd57 hw) (wd58 hw) (by decide) (ccr_3_4 l Z a0 hw b x0 x1 x2 x3 (kb) ((4 : Int32)) h148 OK148 Vb (by decide) (by decide)) e148 (by rw [hml]; rfl) (hb hby d1_45) (argsL := [(.ref b), (.int 3), (.int 4)]) (rest := [(.ref b101)]) (lenOf pd8 rfl) rfl rfl (W := 1) (Nat.le_refl _) (by decide) ?_
          intro v153 T153 L153 X153 hQ153
          obtain ⟨h153, e153⟩ : ∃ z, T153.heap = z := ⟨_, rfl⟩
          rw [e153] at hQ153
          obtain ⟨b2_153, kc_153, rfl, N153q, K153, fr153_b2, P153_0, P153_1⟩ := hQ153
          have N153 := Fr.app N148 N153q
          have ne_b_b2_153 : b ≠ b2_153 := ne_new Eb.lt fr153_b2
          have ne_b101_b2_153 : b101 ≠ b2_153 := ne_new A101.lt fr153_b2
          have ne_b2_144_b2_153 : b2_144 ≠ b2_153 := ne_new P144_0.lt fr153_b2
          have ne_b2_147_b2_153 : b2_147 ≠ b2_153 := ne_new P147_0.lt fr153_b2
          have ne_d_145_b2_153 : d_145 ≠ b2_153 := ne_new P148_3.lt fr153_b2
          have g_b2_153 : Z.heap.size ≤ b2_153 := Nat.le_trans OK148.1 fr153_b2
          have z_b2_153 : h0.size ≤ b2_153 := Nat.le_trans KP.1 fr153_b2
          replace Eb := Eb.keep K153
          replace Vb := Vb.keep K153 nin0
          replace A101 := A101.keep K153
          replace P144_0 := P144_0.keep K153
          replace P144_1 := P144_1.keep K153 nin0
          replace P147_0 := P147_0.keep K153
          replace P147_1 := P147_1.keep K153 nin0
          replace P148_0 := P148_0.keep K153 nin0
          replace P148_1 := P148_1.keep K153 nin0
          replace P148_2 := P148_2.keep K153 nin0
          replace P148_3 := P148_3.keep K153 nin0
          have OK153 := ext_keep OK148 K153 all0
          replace KP := KP.trans K153 all0
          refine Go.face X153 hx hZ hown (wd73 hw) (wd74 hw) (wd75 hw) (wd76 hw) (wd77 hw) (wd78 hw) (wd79 hw) (wd38 hw) (wd7 hw) (wd80 hw) (by decide) (cadd_2 l Z a0 hw b101 b2_153 d_145 ((2 : Int32)) b2_144 b2_147 (kd_145) h153 OK153 A101 g_b101 P148_0 P148_1 P148_2 P148_3 P153_0 g_d_145 ne_b101_d_145 P145_4) e153 A101 (by rw [hml]; rfl) (hb hby d1_48) (argsL := [(.ref b2_153)]) (rest := []) (lenOf pd12 rfl) rfl rfl (W := 0) (Nat.le_refl _) (by decide) ?_
          intro v154 T154 L154 X154 hQ154
          obtain ⟨h154, e154⟩ : ∃ z, T154.heap = z := ⟨_, rfl⟩
          rw [e154] at hQ154
          obtain ⟨rfl, N154q, K154, P154_0, P154_1, P154_2, P154_3⟩ := hQ154
          have N154 := Fr.app N153 N154q
          replace Eb := Eb.keep K154
          replace Vb := Vb.keep K154 (ninS ne_b_b101 (ninS ne_b_d_145 nin0))
          replace A101 := A101.keep K154
          replace P144_0 := P144_0.keep K154
          replace P144_1 := P144_1.keep K154 (ninS (Ne.symm ne_b101_b2_144) (ninS ne_b2_144_d_145 nin0))
          replace P147_0 := P147_0.keep K154
          replace P147_1 := P147_1.keep K154 (ninS (Ne.symm ne_b101_b2_147) (ninS (Ne.symm ne_d_145_b2_147) nin0))
          replace P153_0 := P153_0.keep K154
          replace P153_1 := P153_1.keep K154 (ninS (Ne.symm ne_b101_b2_153) (ninS (Ne.symm ne_d_145_b2_153) nin0))
          have OK154 := ext_keep OK153 K154 (allS g_b101 (allS g_d_145 all0))
          replace KP := KP.trans K154 (allS (Or.inr z_b101) (allS (Or.inr z_d_145) all0))
          refine Go.pop X154 hx (hb hby d1_53) rfl (q := 54) rfl ?_
          refine Go.iload X154 hx (hb hby d1_54) rfl (q := 56) rfl ?_
          refine Go.iconst X154 hx (hb hby d1_56) (r := (1 : Int32)) rfl (q := 57) rfl ?_
          refine Go.iadd X154 hx (hb hby d1_57) (r := (5 : Int32)) rfl (q := 58) rfl ?_
          refine Go.istoreN X154 hx (hb hby d1_58) (l' := #[.val (.ref b), .val (.int t), .val (.ref b101), .val (.int 5), .val (.int 4)]) rfl (q := 59) rfl ?_
          refine Go.goto X154 hx (hb hby d1_59) (q := 10) (by decide) (by decide) ?_
          refine Go.iloadN X154 hx (hb hby d1_10) rfl (q := 11) rfl ?_
          refine Go.aloadN X154 hx (hb hby d1_11) rfl rfl (q := 12) rfl ?_
          refine Go.alen X154 hx hZ e154 Vb (hb hby d1_12) ?_
          refine Go.icmpYes X154 hx (hb hby d1_13) (by decide) (q := 62) (by decide) (by decide) ?_
          refine Go.aloadN X154 hx (hb hby d1_62) rfl rfl (q := 63) rfl ?_
          have e155_0 := own_isF hc103
          have e155_1 := own_isT hc143
          have e155_2 := own_isT hc146
          have e155_3 := own_isF hc149
          exact Go.retA X154 hx hret hlk rfl rfl (hb hby d1_63) e154 (by decide) (by decide) ⟨b101, (3 : Int32), (1 : Int32), (0 : Int32), (1 : Int32), (0 : Int32), rfl, N154, KP, z_b101, A101, P154_1, ⟨fun q => absurd q hc149, fun _ => by rw [own_tb4, e155_0, e155_1, e155_2, e155_3] <;> rfl⟩, by rw [own_tb4, e155_0, e155_1, e155_2, e155_3] <;> rfl, Or.inr ⟨by decide, _, ⟨d_145, b2_144, _, _, _, P154_0, P154_3, rfl, by decide, by decide, P144_0, P144_1⟩⟩, Or.inr ⟨by decide, _, ⟨d_145, b2_147, _, _, _, P154_0, P154_3, rfl, by decide, by decide, P147_0, P147_1⟩⟩, Or.inr ⟨by decide, _, ⟨d_145, b2_153, _, _, _, P154_0, P154_3, rfl, by decide, by decide, P153_0, P153_1⟩⟩, Or.inl ⟨by decide, rfl⟩, Or.inr ⟨by decide, (1 : Int32), _, ⟨d_145, b2_144, _, _, _, P154_0, P154_3, rfl, by decide, by decide, P144_0, P144_1⟩, by decide, by decide, rfl⟩, Or.inl hc143, Or.inl hc146, Or.inr (own_oki (by rw [own_tb3, e155_0, e155_1, e155_2] <;> rfl) (by rw [own_lt3, if_neg (own_is1n e155_2)] <;> rfl) (r := (2 : Int32)) (f := (0 : Int32)) ⟨by decide, (1 : Int32), _, ⟨d_145, b2_153, _, _, _, P154_0, P154_3, rfl, by decide, by decide, P153_0, P153_1⟩, by decide, by decide, rfl⟩)⟩
      · refine Go.icmpNo X145 hx (hb hby d1_31) (Jvm.Free.XT.ii_eq_f hc146) (q := 34) rfl ?_
        refine Go.iinc X145 hx (hb hby d1_34) rfl (r := (3 : Int32)) rfl (l' := #[.val (.ref b), .val (.int t), .val (.ref b101), .val (.int 2), .val (.int 3)]) rfl (q := 37) rfl ?_
        refine Go.goto X145 hx (hb hby d1_37) (q := 19) (by decide) (by decide) ?_
        refine Go.iload X145 hx (hb hby d1_19) rfl (q := 21) rfl ?_
        refine Go.aloadN X145 hx (hb hby d1_21) rfl rfl (q := 22) rfl ?_
        refine Go.alen X145 hx hZ e145 Vb (hb hby d1_22) ?_
        refine Go.icmpNo X145 hx (hb hby d1_23) (by decide) (q := 26) rfl ?_
        refine Go.aloadN X145 hx (hb hby d1_26) rfl rfl (q := 27) rfl ?_
        refine Go.iload X145 hx (hb hby d1_27) rfl (q := 29) rfl ?_
        refine Go.bal X145 hx hZ e145 Vb ⟨by decide, by decide⟩ (v := (.int x3)) rfl (hb hby d1_29) ?_
        refine Go.iloadN X145 hx (hb hby d1_30) rfl (q := 31) rfl ?_
        by_cases hc156 : x3 = t
        · refine Go.icmpYes X145 hx (hb hby d1_31) (Jvm.Free.XT.ii_eq_t hc156) (q := 40) (by decide) (by decide) ?_
          refine Go.aloadN X145 hx (hb hby d1_40) rfl rfl (q := 41) rfl ?_
          refine Go.aloadN X145 hx (hb hby d1_41) rfl rfl (q := 42) rfl ?_
          refine Go.iloadN X145 hx (hb hby d1_42) rfl (q := 43) rfl ?_
          refine Go.iload X145 hx (hb hby d1_43) rfl (q := 45) rfl ?_
          refine Go.callS X145 hx hZ hown (wd55 hw) (wd56 hw) (wd57 hw) (wd58 hw) (by decide) (ccr_2_3 l Z a0 hw b x0 x1 x2 x3 (kb) ((4 : Int32)) h145 OK145 Vb (by decide) (by decide)) e145 (by rw [hml]; rfl) (hb hby d1_45) (argsL := [(.ref b), (.int 2), (.int 3)]) (rest := [(.ref b101)]) (lenOf pd8 rfl) rfl rfl (W := 1) (Nat.le_refl _) (by decide) ?_
          intro v157 T157 L157 X157 hQ157
          obtain ⟨h157, e157⟩ : ∃ z, T157.heap = z := ⟨_, rfl⟩
          rw [e157] at hQ157
          obtain ⟨b2_157, kc_157, rfl, N157q, K157, fr157_b2, P157_0, P157_1⟩ := hQ157
          have N157 := Fr.app N145 N157q
          have ne_b_b2_157 : b ≠ b2_157 := ne_new Eb.lt fr157_b2
          have ne_b101_b2_157 : b101 ≠ b2_157 := ne_new A101.lt fr157_b2
          have ne_b2_144_b2_157 : b2_144 ≠ b2_157 := ne_new P144_0.lt fr157_b2
          have ne_d_145_b2_157 : d_145 ≠ b2_157 := ne_new P145_3.lt fr157_b2
          have g_b2_157 : Z.heap.size ≤ b2_157 := Nat.le_trans OK145.1 fr157_b2
          have z_b2_157 : h0.size ≤ b2_157 := Nat.le_trans KP.1 fr157_b2
          replace Eb := Eb.keep K157
          replace Vb := Vb.keep K157 nin0
          replace A101 := A101.keep K157
          replace P144_0 := P144_0.keep K157
          replace P144_1 := P144_1.keep K157 nin0
          replace P145_0 := P145_0.keep K157 nin0
          replace P145_1 := P145_1.keep K157 nin0
          replace P145_2 := P145_2.keep K157 nin0
          replace P145_3 := P145_3.keep K157 nin0
          have OK157 := ext_keep OK145 K157 all0
          replace KP := KP.trans K157 all0
          refine Go.face X157 hx hZ hown (wd73 hw) (wd74 hw) (wd75 hw) (wd76 hw) (wd77 hw) (wd78 hw) (wd79 hw) (wd38 hw) (wd7 hw) (wd80 hw) (by decide) (cadd_1 l Z a0 hw b101 b2_157 d_145 ((1 : Int32)) b2_144 (kd_145) h157 OK157 A101 g_b101 P145_0 P145_1 P145_2 P145_3 P157_0 g_d_145 ne_b101_d_145 P145_4) e157 A101 (by rw [hml]; rfl) (hb hby d1_48) (argsL := [(.ref b2_157)]) (rest := []) (lenOf pd12 rfl) rfl rfl (W := 0) (Nat.le_refl _) (by decide) ?_
          intro v158 T158 L158 X158 hQ158
          obtain ⟨h158, e158⟩ : ∃ z, T158.heap = z := ⟨_, rfl⟩
          rw [e158] at hQ158
          obtain ⟨rfl, N158q, K158, P158_0, P158_1, P158_2, P158_3⟩ := hQ158
          have N158 := Fr.app N157 N158q
          replace Eb := Eb.keep K158
          replace Vb := Vb.keep K158 (ninS ne_b_b101 (ninS ne_b_d_145 nin0))
          replace A101 := A101.keep K158
          replace P144_0 := P144_0.keep K158
          replace P144_1 := P144_1.keep K158 (ninS (Ne.symm ne_b101_b2_144) (ninS ne_b2_144_d_145 nin0))
          replace P157_0 := P157_0.keep K158
          replace P157_1 := P157_1.keep K158 (ninS (Ne.symm ne_b101_b2_157) (ninS (Ne.symm ne_d_145_b2_157) nin0))
          have OK158 := ext_keep OK157 K158 (allS g_b101 (allS g_d_145 all0))
          replace KP := KP.trans K158 (allS (Or.inr z_b101) (allS (Or.inr z_d_145) all0))
          refine Go.pop X158 hx (hb hby d1_53) rfl (q := 54) rfl ?_
          refine Go.iload X158 hx (hb hby d1_54) rfl (q := 56) rfl ?_
          refine Go.iconst X158 hx (hb hby d1_56) (r := (1 : Int32)) rfl (q := 57) rfl ?_
          refine Go.iadd X158 hx (hb hby d1_57) (r := (4 : Int32)) rfl (q := 58) rfl ?_
          refine Go.istoreN X158 hx (hb hby d1_58) (l' := #[.val (.ref b), .val (.int t), .val (.ref b101), .val (.int 4), .val (.int 3)]) rfl (q := 59) rfl ?_
          refine Go.goto X158 hx (hb hby d1_59) (q := 10) (by decide) (by decide) ?_
          refine Go.iloadN X158 hx (hb hby d1_10) rfl (q := 11) rfl ?_
          refine Go.aloadN X158 hx (hb hby d1_11) rfl rfl (q := 12) rfl ?_
          refine Go.alen X158 hx hZ e158 Vb (hb hby d1_12) ?_
          refine Go.icmpYes X158 hx (hb hby d1_13) (by decide) (q := 62) (by decide) (by decide) ?_
          refine Go.aloadN X158 hx (hb hby d1_62) rfl rfl (q := 63) rfl ?_
          have e159_0 := own_isF hc103
          have e159_1 := own_isT hc143
          have e159_2 := own_isF hc146
          have e159_3 := own_isT hc156
          exact Go.retA X158 hx hret hlk rfl rfl (hb hby d1_63) e158 (by decide) (by decide) ⟨b101, (2 : Int32), (1 : Int32), (1 : Int32), (0 : Int32), (0 : Int32), rfl, N158, KP, z_b101, A101, P158_1, ⟨fun _ => by rw [own_tb4, e159_0, e159_1, e159_2, e159_3] <;> rfl, fun q => absurd hc156 q⟩, by rw [own_tb4, e159_0, e159_1, e159_2, e159_3] <;> rfl, Or.inr ⟨by decide, _, ⟨d_145, b2_144, _, _, _, P158_0, P158_3, rfl, by decide, by decide, P144_0, P144_1⟩⟩, Or.inr ⟨by decide, _, ⟨d_145, b2_157, _, _, _, P158_0, P158_3, rfl, by decide, by decide, P157_0, P157_1⟩⟩, Or.inl ⟨by decide, rfl⟩, Or.inl ⟨by decide, rfl⟩, Or.inr ⟨by decide, (1 : Int32), _, ⟨d_145, b2_144, _, _, _, P158_0, P158_3, rfl, by decide, by decide, P144_0, P144_1⟩, by decide, by decide, rfl⟩, Or.inl hc143, Or.inr (own_oki (by rw [own_tb2, e159_0, e159_1] <;> rfl) (by rw [own_lt2, if_neg (own_is1n e159_1)] <;> rfl) (r := (1 : Int32)) (f := (0 : Int32)) ⟨by decide, (1 : Int32), _, ⟨d_145, b2_157, _, _, _, P158_0, P158_3, rfl, by decide, by decide, P157_0, P157_1⟩, by decide, by decide, rfl⟩), Or.inl hc156⟩
        · refine Go.icmpNo X145 hx (hb hby d1_31) (Jvm.Free.XT.ii_eq_f hc156) (q := 34) rfl ?_
          refine Go.iinc X145 hx (hb hby d1_34) rfl (r := (4 : Int32)) rfl (l' := #[.val (.ref b), .val (.int t), .val (.ref b101), .val (.int 2), .val (.int 4)]) rfl (q := 37) rfl ?_
          refine Go.goto X145 hx (hb hby d1_37) (q := 19) (by decide) (by decide) ?_
          refine Go.iload X145 hx (hb hby d1_19) rfl (q := 21) rfl ?_
          refine Go.aloadN X145 hx (hb hby d1_21) rfl rfl (q := 22) rfl ?_
          refine Go.alen X145 hx hZ e145 Vb (hb hby d1_22) ?_
          refine Go.icmpYes X145 hx (hb hby d1_23) (by decide) (q := 40) (by decide) (by decide) ?_
          refine Go.aloadN X145 hx (hb hby d1_40) rfl rfl (q := 41) rfl ?_
          refine Go.aloadN X145 hx (hb hby d1_41) rfl rfl (q := 42) rfl ?_
          refine Go.iloadN X145 hx (hb hby d1_42) rfl (q := 43) rfl ?_
          refine Go.iload X145 hx (hb hby d1_43) rfl (q := 45) rfl ?_
          refine Go.callS X145 hx hZ hown (wd55 hw) (wd56 hw) (wd57 hw) (wd58 hw) (by decide) (ccr_2_4 l Z a0 hw b x0 x1 x2 x3 (kb) ((4 : Int32)) h145 OK145 Vb (by decide) (by decide)) e145 (by rw [hml]; rfl) (hb hby d1_45) (argsL := [(.ref b), (.int 2), (.int 4)]) (rest := [(.ref b101)]) (lenOf pd8 rfl) rfl rfl (W := 1) (Nat.le_refl _) (by decide) ?_
          intro v160 T160 L160 X160 hQ160
          obtain ⟨h160, e160⟩ : ∃ z, T160.heap = z := ⟨_, rfl⟩
          rw [e160] at hQ160
          obtain ⟨b2_160, kc_160, rfl, N160q, K160, fr160_b2, P160_0, P160_1⟩ := hQ160
          have N160 := Fr.app N145 N160q
          have ne_b_b2_160 : b ≠ b2_160 := ne_new Eb.lt fr160_b2
          have ne_b101_b2_160 : b101 ≠ b2_160 := ne_new A101.lt fr160_b2
          have ne_b2_144_b2_160 : b2_144 ≠ b2_160 := ne_new P144_0.lt fr160_b2
          have ne_d_145_b2_160 : d_145 ≠ b2_160 := ne_new P145_3.lt fr160_b2
          have g_b2_160 : Z.heap.size ≤ b2_160 := Nat.le_trans OK145.1 fr160_b2
          have z_b2_160 : h0.size ≤ b2_160 := Nat.le_trans KP.1 fr160_b2
          replace Eb := Eb.keep K160
          replace Vb := Vb.keep K160 nin0
          replace A101 := A101.keep K160
          replace P144_0 := P144_0.keep K160
          replace P144_1 := P144_1.keep K160 nin0
          replace P145_0 := P145_0.keep K160 nin0
          replace P145_1 := P145_1.keep K160 nin0
          replace P145_2 := P145_2.keep K160 nin0
          replace P145_3 := P145_3.keep K160 nin0
          have OK160 := ext_keep OK145 K160 all0
          replace KP := KP.trans K160 all0
          refine Go.face X160 hx hZ hown (wd73 hw) (wd74 hw) (wd75 hw) (wd76 hw) (wd77 hw) (wd78 hw) (wd79 hw) (wd38 hw) (wd7 hw) (wd80 hw) (by decide) (cadd_1 l Z a0 hw b101 b2_160 d_145 ((1 : Int32)) b2_144 (kd_145) h160 OK160 A101 g_b101 P145_0 P145_1 P145_2 P145_3 P160_0 g_d_145 ne_b101_d_145 P145_4) e160 A101 (by rw [hml]; rfl) (hb hby d1_48) (argsL := [(.ref b2_160)]) (rest := []) (lenOf pd12 rfl) rfl rfl (W := 0) (Nat.le_refl _) (by decide) ?_
          intro v161 T161 L161 X161 hQ161
          obtain ⟨h161, e161⟩ : ∃ z, T161.heap = z := ⟨_, rfl⟩
          rw [e161] at hQ161
          obtain ⟨rfl, N161q, K161, P161_0, P161_1, P161_2, P161_3⟩ := hQ161
          have N161 := Fr.app N160 N161q
          replace Eb := Eb.keep K161
          replace Vb := Vb.keep K161 (ninS ne_b_b101 (ninS ne_b_d_145 nin0))
          replace A101 := A101.keep K161
          replace P144_0 := P144_0.keep K161
          replace P144_1 := P144_1.keep K161 (ninS (Ne.symm ne_b101_b2_144) (ninS ne_b2_144_d_145 nin0))
          replace P160_0 := P160_0.keep K161
          replace P160_1 := P160_1.keep K161 (ninS (Ne.symm ne_b101_b2_160) (ninS (Ne.symm ne_d_145_b2_160) nin0))
          have OK161 := ext_keep OK160 K161 (allS g_b101 (allS g_d_145 all0))
          replace KP := KP.trans K161 (allS (Or.inr z_b101) (allS (Or.inr z_d_145) all0))
          refine Go.pop X161 hx (hb hby d1_53) rfl (q := 54) rfl ?_
          refine Go.iload X161 hx (hb hby d1_54) rfl (q := 56) rfl ?_
          refine Go.iconst X161 hx (hb hby d1_56) (r := (1 : Int32)) rfl (q := 57) rfl ?_
          refine Go.iadd X161 hx (hb hby d1_57) (r := (5 : Int32)) rfl (q := 58) rfl ?_
          refine Go.istoreN X161 hx (hb hby d1_58) (l' := #[.val (.ref b), .val (.int t), .val (.ref b101), .val (.int 5), .val (.int 4)]) rfl (q := 59) rfl ?_
          refine Go.goto X161 hx (hb hby d1_59) (q := 10) (by decide) (by decide) ?_
          refine Go.iloadN X161 hx (hb hby d1_10) rfl (q := 11) rfl ?_
          refine Go.aloadN X161 hx (hb hby d1_11) rfl rfl (q := 12) rfl ?_
          refine Go.alen X161 hx hZ e161 Vb (hb hby d1_12) ?_
          refine Go.icmpYes X161 hx (hb hby d1_13) (by decide) (q := 62) (by decide) (by decide) ?_
          refine Go.aloadN X161 hx (hb hby d1_62) rfl rfl (q := 63) rfl ?_
          have e162_0 := own_isF hc103
          have e162_1 := own_isT hc143
          have e162_2 := own_isF hc146
          have e162_3 := own_isF hc156
          exact Go.retA X161 hx hret hlk rfl rfl (hb hby d1_63) e161 (by decide) (by decide) ⟨b101, (2 : Int32), (1 : Int32), (2 : Int32), (0 : Int32), (0 : Int32), rfl, N161, KP, z_b101, A101, P161_1, ⟨fun q => absurd q hc156, fun _ => by rw [own_tb4, e162_0, e162_1, e162_2, e162_3] <;> rfl⟩, by rw [own_tb4, e162_0, e162_1, e162_2, e162_3] <;> rfl, Or.inr ⟨by decide, _, ⟨d_145, b2_144, _, _, _, P161_0, P161_3, rfl, by decide, by decide, P144_0, P144_1⟩⟩, Or.inr ⟨by decide, _, ⟨d_145, b2_160, _, _, _, P161_0, P161_3, rfl, by decide, by decide, P160_0, P160_1⟩⟩, Or.inl ⟨by decide, rfl⟩, Or.inl ⟨by decide, rfl⟩, Or.inr ⟨by decide, (1 : Int32), _, ⟨d_145, b2_144, _, _, _, P161_0, P161_3, rfl, by decide, by decide, P144_0, P144_1⟩, by decide, by decide, rfl⟩, Or.inl hc143, Or.inr (own_oki (by rw [own_tb2, e162_0, e162_1] <;> rfl) (by rw [own_lt2, if_neg (own_is1n e162_1)] <;> rfl) (r := (1 : Int32)) (f := (0 : Int32)) ⟨by decide, (2 : Int32), _, ⟨d_145, b2_160, _, _, _, P161_0, P161_3, rfl, by decide, by decide, P160_0, P160_1⟩, by decide, by decide, rfl⟩), Or.inr (own_oki (by rw [own_tb3, e162_0, e162_1, e162_2] <;> rfl) (by rw [own_lt3, if_pos e162_2, own_lt2, if_neg (own_is1n e162_1)] <;> rfl) (r := (1 : Int32)) (f := (1 : Int32)) ⟨by decide, (2 : Int32), _, ⟨d_145, b2_160, _, _, _, P161_0, P161_3, rfl, by decide, by decide, P160_0, P160_1⟩, by decide, by decide, rfl⟩)⟩
    · refine Go.icmpNo X102 hx (hb hby d1_31) (Jvm.Free.XT.ii_eq_f hc143) (q := 34) rfl ?_
      refine Go.iinc X102 hx (hb hby d1_34) rfl (r := (2 : Int32)) rfl (l' := #[.val (.ref b), .val (.int t), .val (.ref b101), .val (.int 0), .val (.int 2)]) rfl (q := 37) rfl ?_
      refine Go.goto X102 hx (hb hby d1_37) (q := 19) (by decide) (by decide) ?_
      refine Go.iload X102 hx (hb hby d1_19) rfl (q := 21) rfl ?_
      refine Go.aloadN X102 hx (hb hby d1_21) rfl rfl (q := 22) rfl ?_
      refine Go.alen X102 hx hZ e102 Vb (hb hby d1_22) ?_
      refine Go.icmpNo X102 hx (hb hby d1_23) (by decide) (q := 26) rfl ?_
      refine Go.aloadN X102 hx (hb hby d1_26) rfl rfl (q := 27) rfl ?_
      refine Go.iload X102 hx (hb hby d1_27) rfl (q := 29) rfl ?_
      refine Go.bal X102 hx hZ e102 Vb ⟨by decide, by decide⟩ (v := (.int x2)) rfl (hb hby d1_29) ?_
      refine Go.iloadN X102 hx (hb hby d1_30) rfl (q := 31) rfl ?_
      by_cases hc163 : x2 = t
      · refine Go.icmpYes X102 hx (hb hby d1_31) (Jvm.Free.XT.ii_eq_t hc163) (q := 40) (by decide) (by decide) ?_
        refine Go.aloadN X102 hx (hb hby d1_40) rfl rfl (q := 41) rfl ?_
        refine Go.aloadN X102 hx (hb hby d1_41) rfl rfl (q := 42) rfl ?_
        refine Go.iloadN X102 hx (hb hby d1_42) rfl (q := 43) rfl ?_
        refine Go.iload X102 hx (hb hby d1_43) rfl (q := 45) rfl ?_
        refine Go.callS X102 hx hZ hown (wd55 hw) (wd56 hw) (wd57 hw) (wd58 hw) (by decide) (ccr_0_2 l Z a0 hw b x0 x1 x2 x3 (kb) ((4 : Int32)) h102 OK102 Vb (by decide) (by decide) (by decide)) e102 (by rw [hml]; rfl) (hb hby d1_45) (argsL := [(.ref b), (.int 0), (.int 2)]) (rest := [(.ref b101)]) (lenOf pd8 rfl) rfl rfl (W := 1) (Nat.le_refl _) (by decide) ?_
        intro v164 T164 L164 X164 hQ164
        obtain ⟨h164, e164⟩ : ∃ z, T164.heap = z := ⟨_, rfl⟩
        rw [e164] at hQ164
        obtain ⟨b2_164, kc_164, rfl, N164q, K164, fr164_b2, P164_0, P164_1⟩ := hQ164
        have N164 := Fr.app N102 N164q
        have ne_b_b2_164 : b ≠ b2_164 := ne_new Eb.lt fr164_b2
        have ne_b101_b2_164 : b101 ≠ b2_164 := ne_new A101.lt fr164_b2
        have g_b2_164 : Z.heap.size ≤ b2_164 := Nat.le_trans OK102.1 fr164_b2
        have z_b2_164 : h0.size ≤ b2_164 := Nat.le_trans KP.1 fr164_b2
        replace Eb := Eb.keep K164
        replace Vb := Vb.keep K164 nin0
        replace A101 := A101.keep K164
        replace P102_0 := P102_0.keep K164 nin0
        replace P102_1 := P102_1.keep K164 nin0
        replace P102_2 := P102_2.keep K164 nin0
        have OK164 := ext_keep OK102 K164 all0
        replace KP := KP.trans K164 all0
        refine Go.face X164 hx hZ hown (wd73 hw) (wd74 hw) (wd75 hw) (wd76 hw) (wd77 hw) (wd78 hw) (wd79 hw) (wd38 hw) (wd7 hw) (wd80 hw) (by decide) (cadd_0 l Z a0 hw b101 b2_164 de ((0 : Int32)) h164 OK164 A101 g_b101 P102_0 P102_1 P102_2 P164_0 SD LD) e164 A101 (by rw [hml]; rfl) (hb hby d1_48) (argsL := [(.ref b2_164)]) (rest := []) (lenOf pd12 rfl) rfl rfl (W := 0) (Nat.le_refl _) (by decide) ?_
        intro v165 T165 L165 X165 hQ165
        obtain ⟨h165, e165⟩ : ∃ z, T165.heap = z := ⟨_, rfl⟩
        rw [e165] at hQ165
        obtain ⟨d_165, kd_165, rfl, N165q, K165, fr165_d, P165_0, P165_1, P165_2, P165_3, P165_4⟩ := hQ165
        have N165 := Fr.app N164 N165q
        have ne_b_d_165 : b ≠ d_165 := ne_new Eb.lt fr165_d
        have ne_b101_d_165 : b101 ≠ d_165 := ne_new A101.lt fr165_d
        have ne_b2_164_d_165 : b2_164 ≠ d_165 := ne_new P164_0.lt fr165_d
        have g_d_165 : Z.heap.size ≤ d_165 := Nat.le_trans OK164.1 fr165_d
        have z_d_165 : h0.size ≤ d_165 := Nat.le_trans KP.1 fr165_d
        replace Eb := Eb.keep K165
        replace Vb := Vb.keep K165 (ninS ne_b_b101 nin0)
        replace A101 := A101.keep K165
        replace P164_0 := P164_0.keep K165
        replace P164_1 := P164_1.keep K165 (ninS (Ne.symm ne_b101_b2_164) nin0)
        have OK165 := ext_keep OK164 K165 (allS g_b101 all0)
        replace KP := KP.trans K165 (allS (Or.inr z_b101) all0)
        refine Go.pop X165 hx (hb hby d1_53) rfl (q := 54) rfl ?_
        refine Go.iload X165 hx (hb hby d1_54) rfl (q := 56) rfl ?_
        refine Go.iconst X165 hx (hb hby d1_56) (r := (1 : Int32)) rfl (q := 57) rfl ?_
        refine Go.iadd X165 hx (hb hby d1_57) (r := (3 : Int32)) rfl (q := 58) rfl ?_
        refine Go.istoreN X165 hx (hb hby d1_58) (l' := #[.val (.ref b), .val (.int t), .val (.ref b101), .val (.int 3), .val (.int 2)]) rfl (q := 59) rfl ?_
        refine Go.goto X165 hx (hb hby d1_59) (q := 10) (by decide) (by decide) ?_
        refine Go.iloadN X165 hx (hb hby d1_10) rfl (q := 11) rfl ?_
        refine Go.aloadN X165 hx (hb hby d1_11) rfl rfl (q := 12) rfl ?_
        refine Go.alen X165 hx hZ e165 Vb (hb hby d1_12) ?_
        refine Go.icmpNo X165 hx (hb hby d1_13) (by decide) (q := 16) rfl ?_
        refine Go.iloadN X165 hx (hb hby d1_16) rfl (q := 17) rfl ?_
        refine Go.istore X165 hx (hb hby d1_17) (l' := #[.val (.ref b), .val (.int t), .val (.ref b101), .val (.int 3), .val (.int 3)]) rfl (q := 19) rfl ?_
        refine Go.iload X165 hx (hb hby d1_19) rfl (q := 21) rfl ?_
        refine Go.aloadN X165 hx (hb hby d1_21) rfl rfl (q := 22) rfl ?_
        refine Go.alen X165 hx hZ e165 Vb (hb hby d1_22) ?_
        refine Go.icmpNo X165 hx (hb hby d1_23) (by decide) (q := 26) rfl ?_
        refine Go.aloadN X165 hx (hb hby d1_26) rfl rfl (q := 27) rfl ?_
        refine Go.iload X165 hx (hb hby d1_27) rfl (q := 29) rfl ?_
        refine Go.bal X165 hx hZ e165 Vb ⟨by decide, by decide⟩ (v := (.int x3)) rfl (hb hby d1_29) ?_
        refine Go.iloadN X165 hx (hb hby d1_30) rfl (q := 31) rfl ?_
        by_cases hc166 : x3 = t
        · refine Go.icmpYes X165 hx (hb hby d1_31) (Jvm.Free.XT.ii_eq_t hc166) (q := 40) (by decide) (by decide) ?_
          refine Go.aloadN X165 hx (hb hby d1_40) rfl rfl (q := 41) rfl ?_
          refine Go.aloadN X165 hx (hb hby d1_41) rfl rfl (q := 42) rfl ?_
          refine Go.iloadN X165 hx (hb hby d1_42) rfl (q := 43) rfl ?_
          refine Go.iload X165 hx (hb hby d1_43) rfl (q := 45) rfl ?_
          refine Go.callS X165 hx hZ hown (wd55 hw) (wd56 hw) (wd57 hw) (wd58 hw) (by decide) (ccr_3_3 l Z a0 hw b x0 x1 x2 x3 (kb) ((4 : Int32)) h165 OK165 Vb (by decide) (by decide)) e165 (by rw [hml]; rfl) (hb hby d1_45) (argsL := [(.ref b), (.int 3), (.int 3)]) (rest := [(.ref b101)]) (lenOf pd8 rfl) rfl rfl (W := 1) (Nat.le_refl _) (by decide) ?_
          intro v167 T167 L167 X167 hQ167
          obtain ⟨h167, e167⟩ : ∃ z, T167.heap = z := ⟨_, rfl⟩
          rw [e167] at hQ167
          obtain ⟨b2_167, kc_167, rfl, N167q, K167, fr167_b2, P167_0, P167_1⟩ := hQ167
          have N167 := Fr.app N165 N167q
          have ne_b_b2_167 : b ≠ b2_167 := ne_new Eb.lt fr167_b2
          have ne_b101_b2_167 : b101 ≠ b2_167 := ne_new A101.lt fr167_b2
          have ne_b2_164_b2_167 : b2_164 ≠ b2_167 := ne_new P164_0.lt fr167_b2
          have ne_d_165_b2_167 : d_165 ≠ b2_167 := ne_new P165_3.lt fr167_b2
          have g_b2_167 : Z.heap.size ≤ b2_167 := Nat.le_trans OK165.1 fr167_b2
          have z_b2_167 : h0.size ≤ b2_167 := Nat.le_trans KP.1 fr167_b2
          replace Eb := Eb.keep K167
          replace Vb := Vb.keep K167 nin0
          replace A101 := A101.keep K167
          replace P164_0 := P164_0.keep K167
          replace P164_1 := P164_1.keep K167 nin0
          replace P165_0 := P165_0.keep K167 nin0
          replace P165_1 := P165_1.keep K167 nin0
          replace P165_2 := P165_2.keep K167 nin0
          replace P165_3 := P165_3.keep K167 nin0
          have OK167 := ext_keep OK165 K167 all0
          replace KP := KP.trans K167 all0
          refine Go.face X167 hx hZ hown (wd73 hw) (wd74 hw) (wd75 hw) (wd76 hw) (wd77 hw) (wd78 hw) (wd79 hw) (wd38 hw) (wd7 hw) (wd80 hw) (by decide) (cadd_1 l Z a0 hw b101 b2_167 d_165 ((1 : Int32)) b2_164 (kd_165) h167 OK167 A101 g_b101 P165_0 P165_1 P165_2 P165_3 P167_0 g_d_165 ne_b101_d_165 P165_4) e167 A101 (by rw [hml]; rfl) (hb hby d1_48) (argsL := [(.ref b2_167)]) (rest := []) (lenOf pd12 rfl) rfl rfl (W := 0) (Nat.le_refl _) (by decide) ?_
          intro v168 T168 L168 X168 hQ168
          obtain ⟨h168, e168⟩ : ∃ z, T168.heap = z := ⟨_, rfl⟩
          rw [e168] at hQ168
          obtain ⟨rfl, N168q, K168, P168_0, P168_1, P168_2, P168_3⟩ := hQ168
          have N168 := Fr.app N167 N168q
          replace Eb := Eb.keep K168
          replace Vb := Vb.keep K168 (ninS ne_b_b101 (ninS ne_b_d_165 nin0))
          replace A101 := A101.keep K168
          replace P164_0 := P164_0.keep K168
          replace P164_1 := P164_1.keep K168 (ninS (Ne.symm ne_b101_b2_164) (ninS ne_b2_164_d_165 nin0))
          replace P167_0 := P167_0.keep K168
          replace P167_1 := P167_1.keep K168 (ninS (Ne.symm ne_b101_b2_167) (ninS (Ne.symm ne_d_165_b2_167) nin0))
          have OK168 := ext_keep OK167 K168 (allS g_b101 (allS g_d_165 all0))
          replace KP := KP.trans K168 (allS (Or.inr z_b101) (allS (Or.inr z_d_165) all0))
          refine Go.pop X168 hx (hb hby d1_53) rfl (q := 54) rfl ?_
          refine Go.iload X168 hx (hb hby d1_54) rfl (q := 56) rfl ?_
          refine Go.iconst X168 hx (hb hby d1_56) (r := (1 : Int32)) rfl (q := 57) rfl ?_
          refine Go.iadd X168 hx (hb hby d1_57) (r := (4 : Int32)) rfl (q := 58) rfl ?_
          refine Go.istoreN X168 hx (hb hby d1_58) (l' := #[.val (.ref b), .val (.int t), .val (.ref b101), .val (.int 4), .val (.int 3)]) rfl (q := 59) rfl ?_
          refine Go.goto X168 hx (hb hby d1_59) (q := 10) (by decide) (by decide) ?_
          refine Go.iloadN X168 hx (hb hby d1_10) rfl (q := 11) rfl ?_
          refine Go.aloadN X168 hx (hb hby d1_11) rfl rfl (q := 12) rfl ?_
          refine Go.alen X168 hx hZ e168 Vb (hb hby d1_12) ?_
          refine Go.icmpYes X168 hx (hb hby d1_13) (by decide) (q := 62) (by decide) (by decide) ?_
          refine Go.aloadN X168 hx (hb hby d1_62) rfl rfl (q := 63) rfl ?_
          have e169_0 := own_isF hc103
          have e169_1 := own_isF hc143
          have e169_2 := own_isT hc163
          have e169_3 := own_isT hc166
          exact Go.retA X168 hx hret hlk rfl rfl (hb hby d1_63) e168 (by decide) (by decide) ⟨b101, (2 : Int32), (2 : Int32), (0 : Int32), (0 : Int32), (0 : Int32), rfl, N168, KP, z_b101, A101, P168_1, ⟨fun _ => by rw [own_tb4, e169_0, e169_1, e169_2, e169_3] <;> rfl, fun q => absurd hc166 q⟩, by rw [own_tb4, e169_0, e169_1, e169_2, e169_3] <;> rfl, Or.inr ⟨by decide, _, ⟨d_165, b2_164, _, _, _, P168_0, P168_3, rfl, by decide, by decide, P164_0, P164_1⟩⟩, Or.inr ⟨by decide, _, ⟨d_165, b2_167, _, _, _, P168_0, P168_3, rfl, by decide, by decide, P167_0, P167_1⟩⟩, Or.inl ⟨by decide, rfl⟩, Or.inl ⟨by decide, rfl⟩, Or.inr ⟨by decide, (2 : Int32), _, ⟨d_165, b2_164, _, _, _, P168_0, P168_3, rfl, by decide, by decide, P164_0, P164_1⟩, by decide, by decide, rfl⟩, Or.inr (own_oki (by rw [own_tb1, e169_0] <;> rfl) (by rw [own_lt1, if_pos e169_0] <;> rfl) (r := (0 : Int32)) (f := (1 : Int32)) ⟨by decide, (2 : Int32), _, ⟨d_165, b2_164, _, _, _, P168_0, P168_3, rfl, by decide, by decide, P164_0, P164_1⟩, by decide, by decide, rfl⟩), Or.inl hc163, Or.inl hc166⟩
        · refine Go.icmpNo X165 hx (hb hby d1_31) (Jvm.Free.XT.ii_eq_f hc166) (q := 34) rfl ?_
          refine Go.iinc X165 hx (hb hby d1_34) rfl (r := (4 : Int32)) rfl (l' := #[.val (.ref b), .val (.int t), .val (.ref b101), .val (.int 3), .val (.int 4)]) rfl (q := 37) rfl ?_
          refine Go.goto X165 hx (hb hby d1_37) (q := 19) (by decide) (by decide) ?_
          refine Go.iload X165 hx (hb hby d1_19) rfl (q := 21) rfl ?_
          refine Go.aloadN X165 hx (hb hby d1_21) rfl rfl (q := 22) rfl ?_
          refine Go.alen X165 hx hZ e165 Vb (hb hby d1_22) ?_
          refine Go.icmpYes X165 hx (hb hby d1_23) (by decide) (q := 40) (by decide) (by decide) ?_
          refine Go.aloadN X165 hx (hb hby d1_40) rfl rfl (q := 41) rfl ?_
          refine Go.aloadN X165 hx (hb hby d1_41) rfl rfl (q := 42) rfl ?_
          refine Go.iloadN X165 hx (hb hby d1_42) rfl (q := 43) rfl ?_
          refine Go.iload X165 hx (hb hby d1_43) rfl (q := 45) rfl ?_
          refine Go.callS X165 hx hZ hown (wd55 hw) (wd56 hw) (wd57 hw) (wd58 hw) (by decide) (ccr_3_4 l Z a0 hw b x0 x1 x2 x3 (kb) ((4 : Int32)) h165 OK165 Vb (by decide) (by decide)) e165 (by rw [hml]; rfl) (hb hby d1_45) (argsL := [(.ref b), (.int 3), (.int 4)]) (rest := [(.ref b101)]) (lenOf pd8 rfl) rfl rfl (W := 1) (Nat.le_refl _) (by decide) ?_
          intro v170 T170 L170 X170 hQ170
          obtain ⟨h170, e170⟩ : ∃ z, T170.heap = z := ⟨_, rfl⟩
          rw [e170] at hQ170
          obtain ⟨b2_170, kc_170, rfl, N170q, K170, fr170_b2, P170_0, P170_1⟩ := hQ170
          have N170 := Fr.app N165 N170q
          have ne_b_b2_170 : b ≠ b2_170 := ne_new Eb.lt fr170_b2
          have ne_b101_b2_170 : b101 ≠ b2_170 := ne_new A101.lt fr170_b2
          have ne_b2_164_b2_170 : b2_164 ≠ b2_170 := ne_new P164_0.lt fr170_b2
          have ne_d_165_b2_170 : d_165 ≠ b2_170 := ne_new P165_3.lt fr170_b2
          have g_b2_170 : Z.heap.size ≤ b2_170 := Nat.le_trans OK165.1 fr170_b2
          have z_b2_170 : h0.size ≤ b2_170 := Nat.le_trans KP.1 fr170_b2
          replace Eb := Eb.keep K170
          replace Vb := Vb.keep K170 nin0
          replace A101 := A101.keep K170
          replace P164_0 := P164_0.keep K170
          replace P164_1 := P164_1.keep K170 nin0
          replace P165_0 := P165_0.keep K170 nin0
          replace P165_1 := P165_1.keep K170 nin0
          replace P165_2 := P165_2.keep K170 nin0
          replace P165_3 := P165_3.keep K170 nin0
          have OK170 := ext_keep OK165 K170 all0
          replace KP := KP.trans K170 all0
          refine Go.face X170 hx hZ hown (wd73 hw) (wd74 hw) (wd75 hw) (wd76 hw) (wd77 hw) (wd78 hw) (wd79 hw) (wd38 hw) (wd7 hw) (wd80 hw) (by decide) (cadd_1 l Z a0 hw b101 b2_170 d_165 ((1 : Int32)) b2_164 (kd_165) h170 OK170 A101 g_b101 P165_0 P165_1 P165_2 P165_3 P170_0 g_d_165 ne_b101_d_165 P165_4) e170 A101 (by rw [hml]; rfl) (hb hby d1_48) (argsL := [(.ref b2_170)]) (rest := []) (lenOf pd12 rfl) rfl rfl (W := 0) (Nat.le_refl _) (by decide) ?_
          intro v171 T171 L171 X171 hQ171
          obtain ⟨h171, e171⟩ : ∃ z, T171.heap = z := ⟨_, rfl⟩
          rw [e171] at hQ171
          obtain ⟨rfl, N171q, K171, P171_0, P171_1, P171_2, P171_3⟩ := hQ171
          have N171 := Fr.app N170 N171q
          replace Eb := Eb.keep K171
          replace Vb := Vb.keep K171 (ninS ne_b_b101 (ninS ne_b_d_165 nin0))
          replace A101 := A101.keep K171
          replace P164_0 := P164_0.keep K171
          replace P164_1 := P164_1.keep K171 (ninS (Ne.symm ne_b101_b2_164) (ninS ne_b2_164_d_165 nin0))
          replace P170_0 := P170_0.keep K171
          replace P170_1 := P170_1.keep K171 (ninS (Ne.symm ne_b101_b2_170) (ninS (Ne.symm ne_d_165_b2_170) nin0))
          have OK171 := ext_keep OK170 K171 (allS g_b101 (allS g_d_165 all0))
          replace KP := KP.trans K171 (allS (Or.inr z_b101) (allS (Or.inr z_d_165) all0))
          refine Go.pop X171 hx (hb hby d1_53) rfl (q := 54) rfl ?_
          refine Go.iload X171 hx (hb hby d1_54) rfl (q := 56) rfl ?_
          refine Go.iconst X171 hx (hb hby d1_56) (r := (1 : Int32)) rfl (q := 57) rfl ?_
          refine Go.iadd X171 hx (hb hby d1_57) (r := (5 : Int32)) rfl (q := 58) rfl ?_
          refine Go.istoreN X171 hx (hb hby d1_58) (l' := #[.val (.ref b), .val (.int t), .val (.ref b101), .val (.int 5), .val (.int 4)]) rfl (q := 59) rfl ?_
          refine Go.goto X171 hx (hb hby d1_59) (q := 10) (by decide) (by decide) ?_
          refine Go.iloadN X171 hx (hb hby d1_10) rfl (q := 11) rfl ?_
          refine Go.aloadN X171 hx (hb hby d1_11) rfl rfl (q := 12) rfl ?_
          refine Go.alen X171 hx hZ e171 Vb (hb hby d1_12) ?_
          refine Go.icmpYes X171 hx (hb hby d1_13) (by decide) (q := 62) (by decide) (by decide) ?_
          refine Go.aloadN X171 hx (hb hby d1_62) rfl rfl (q := 63) rfl ?_
          have e172_0 := own_isF hc103
          have e172_1 := own_isF hc143
          have e172_2 := own_isT hc163
          have e172_3 := own_isF hc166
          exact Go.retA X171 hx hret hlk rfl rfl (hb hby d1_63) e171 (by decide) (by decide) ⟨b101, (2 : Int32), (2 : Int32), (1 : Int32), (0 : Int32), (0 : Int32), rfl, N171, KP, z_b101, A101, P171_1, ⟨fun q => absurd q hc166, fun _ => by rw [own_tb4, e172_0, e172_1, e172_2, e172_3] <;> rfl⟩, by rw [own_tb4, e172_0, e172_1, e172_2, e172_3] <;> rfl, Or.inr ⟨by decide, _, ⟨d_165, b2_164, _, _, _, P171_0, P171_3, rfl, by decide, by decide, P164_0, P164_1⟩⟩, Or.inr ⟨by decide, _, ⟨d_165, b2_170, _, _, _, P171_0, P171_3, rfl, by decide, by decide, P170_0, P170_1⟩⟩, Or.inl ⟨by decide, rfl⟩, Or.inl ⟨by decide, rfl⟩, Or.inr ⟨by decide, (2 : Int32), _, ⟨d_165, b2_164, _, _, _, P171_0, P171_3, rfl, by decide, by decide, P164_0, P164_1⟩, by decide, by decide, rfl⟩, Or.inr (own_oki (by rw [own_tb1, e172_0] <;> rfl) (by rw [own_lt1, if_pos e172_0] <;> rfl) (r := (0 : Int32)) (f := (1 : Int32)) ⟨by decide, (2 : Int32), _, ⟨d_165, b2_164, _, _, _, P171_0, P171_3, rfl, by decide, by decide, P164_0, P164_1⟩, by decide, by decide, rfl⟩), Or.inl hc163, Or.inr (own_oki (by rw [own_tb3, e172_0, e172_1, e172_2] <;> rfl) (by rw [own_lt3, if_neg (own_is1n e172_2)] <;> rfl) (r := (1 : Int32)) (f := (0 : Int32)) ⟨by decide, (1 : Int32), _, ⟨d_165, b2_170, _, _, _, P171_0, P171_3, rfl, by decide, by decide, P170_0, P170_1⟩, by decide, by decide, rfl⟩)⟩
      · refine Go.icmpNo X102 hx (hb hby d1_31) (Jvm.Free.XT.ii_eq_f hc163) (q := 34) rfl ?_
        refine Go.iinc X102 hx (hb hby d1_34) rfl (r := (3 : Int32)) rfl (l' := #[.val (.ref b), .val (.int t), .val (.ref b101), .val (.int 0), .val (.int 3)]) rfl (q := 37) rfl ?_
        refine Go.goto X102 hx (hb hby d1_37) (q := 19) (by decide) (by decide) ?_
        refine Go.iload X102 hx (hb hby d1_19) rfl (q := 21) rfl ?_
        refine Go.aloadN X102 hx (hb hby d1_21) rfl rfl (q := 22) rfl ?_
        refine Go.alen X102 hx hZ e102 Vb (hb hby d1_22) ?_
        refine Go.icmpNo X102 hx (hb hby d1_23) (by decide) (q := 26) rfl ?_
        refine Go.aloadN X102 hx (hb hby d1_26) rfl rfl (q := 27) rfl ?_
        refine Go.iload X102 hx (hb hby d1_27) rfl (q := 29) rfl ?_
        refine Go.bal X102 hx hZ e102 Vb ⟨by decide, by decide⟩ (v := (.int x3)) rfl (hb hby d1_29) ?_
        refine Go.iloadN X102 hx (hb hby d1_30) rfl (q := 31) rfl ?_
        by_cases hc173 : x3 = t
        · refine Go.icmpYes X102 hx (hb hby d1_31) (Jvm.Free.XT.ii_eq_t hc173) (q := 40) (by decide) (by decide) ?_
          refine Go.aloadN X102 hx (hb hby d1_40) rfl rfl (q := 41) rfl ?_
          refine Go.aloadN X102 hx (hb hby d1_41) rfl rfl (q := 42) rfl ?_
          refine Go.iloadN X102 hx (hb hby d1_42) rfl (q := 43) rfl ?_
          refine Go.iload X102 hx (hb hby d1_43) rfl (q := 45) rfl ?_
          refine Go.callS X102 hx hZ hown (wd55 hw) (wd56 hw) (wd57 hw) (wd58 hw) (by decide) (ccr_0_3 l Z a0 hw b x0 x1 x2 x3 (kb) ((4 : Int32)) h102 OK102 Vb (by decide) (by decide) (by decide)) e102 (by rw [hml]; rfl) (hb hby d1_45) (argsL := [(.ref b), (.int 0), (.int 3)]) (rest := [(.ref b101)]) (lenOf pd8 rfl) rfl rfl (W := 1) (Nat.le_refl _) (by decide) ?_
          intro v174 T174 L174 X174 hQ174
          obtain ⟨h174, e174⟩ : ∃ z, T174.heap = z := ⟨_, rfl⟩
          rw [e174] at hQ174
          obtain ⟨b2_174, kc_174, rfl, N174q, K174, fr174_b2, P174_0, P174_1⟩ := hQ174
          have N174 := Fr.app N102 N174q
          have ne_b_b2_174 : b ≠ b2_174 := ne_new Eb.lt fr174_b2
          have ne_b101_b2_174 : b101 ≠ b2_174 := ne_new A101.lt fr174_b2
          have g_b2_174 : Z.heap.size ≤ b2_174 := Nat.le_trans OK102.1 fr174_b2
          have z_b2_174 : h0.size ≤ b2_174 := Nat.le_trans KP.1 fr174_b2
          replace Eb := Eb.keep K174
          replace Vb := Vb.keep K174 nin0
          replace A101 := A101.keep K174
          replace P102_0 := P102_0.keep K174 nin0
          replace P102_1 := P102_1.keep K174 nin0
          replace P102_2 := P102_2.keep K174 nin0
          have OK174 := ext_keep OK102 K174 all0
          replace KP := KP.trans K174 all0
          refine Go.face X174 hx hZ hown (wd73 hw) (wd74 hw) (wd75 hw) (wd76 hw) (wd77 hw) (wd78 hw) (wd79 hw) (wd38 hw) (wd7 hw) (wd80 hw) (by decide) (cadd_0 l Z a0 hw b101 b2_174 de ((0 : Int32)) h174 OK174 A101 g_b101 P102_0 P102_1 P102_2 P174_0 SD LD) e174 A101 (by rw [hml]; rfl) (hb hby d1_48) (argsL := [(.ref b2_174)]) (rest := []) (lenOf pd12 rfl) rfl rfl (W := 0) (Nat.le_refl _) (by decide) ?_
          intro v175 T175 L175 X175 hQ175
          obtain ⟨h175, e175⟩ : ∃ z, T175.heap = z := ⟨_, rfl⟩
          rw [e175] at hQ175
          obtain ⟨d_175, kd_175, rfl, N175q, K175, fr175_d, P175_0, P175_1, P175_2, P175_3, P175_4⟩ := hQ175
          have N175 := Fr.app N174 N175q
          have ne_b_d_175 : b ≠ d_175 := ne_new Eb.lt fr175_d
          have ne_b101_d_175 : b101 ≠ d_175 := ne_new A101.lt fr175_d
          have ne_b2_174_d_175 : b2_174 ≠ d_175 := ne_new P174_0.lt fr175_d
          have g_d_175 : Z.heap.size ≤ d_175 := Nat.le_trans OK174.1 fr175_d
          have z_d_175 : h0.size ≤ d_175 := Nat.le_trans KP.1 fr175_d
          replace Eb := Eb.keep K175
          replace Vb := Vb.keep K175 (ninS ne_b_b101 nin0)
          replace A101 := A101.keep K175
          replace P174_0 := P174_0.keep K175
          replace P174_1 := P174_1.keep K175 (ninS (Ne.symm ne_b101_b2_174) nin0)
          have OK175 := ext_keep OK174 K175 (allS g_b101 all0)
          replace KP := KP.trans K175 (allS (Or.inr z_b101) all0)
          refine Go.pop X175 hx (hb hby d1_53) rfl (q := 54) rfl ?_
          refine Go.iload X175 hx (hb hby d1_54) rfl (q := 56) rfl ?_
          refine Go.iconst X175 hx (hb hby d1_56) (r := (1 : Int32)) rfl (q := 57) rfl ?_
          refine Go.iadd X175 hx (hb hby d1_57) (r := (4 : Int32)) rfl (q := 58) rfl ?_
          refine Go.istoreN X175 hx (hb hby d1_58) (l' := #[.val (.ref b), .val (.int t), .val (.ref b101), .val (.int 4), .val (.int 3)]) rfl (q := 59) rfl ?_
          refine Go.goto X175 hx (hb hby d1_59) (q := 10) (by decide) (by decide) ?_
          refine Go.iloadN X175 hx (hb hby d1_10) rfl (q := 11) rfl ?_
          refine Go.aloadN X175 hx (hb hby d1_11) rfl rfl (q := 12) rfl ?_
          refine Go.alen X175 hx hZ e175 Vb (hb hby d1_12) ?_
          refine Go.icmpYes X175 hx (hb hby d1_13) (by decide) (q := 62) (by decide) (by decide) ?_
          refine Go.aloadN X175 hx (hb hby d1_62) rfl rfl (q := 63) rfl ?_
          have e176_0 := own_isF hc103
          have e176_1 := own_isF hc143
          have e176_2 := own_isF hc163
          have e176_3 := own_isT hc173
          exact Go.retA X175 hx hret hlk rfl rfl (hb hby d1_63) e175 (by decide) (by decide) ⟨b101, (1 : Int32), (3 : Int32), (0 : Int32), (0 : Int32), (0 : Int32), rfl, N175, KP, z_b101, A101, P175_1, ⟨fun _ => by rw [own_tb4, e176_0, e176_1, e176_2, e176_3] <;> rfl, fun q => absurd hc173 q⟩, by rw [own_tb4, e176_0, e176_1, e176_2, e176_3] <;> rfl, Or.inr ⟨by decide, _, ⟨d_175, b2_174, _, _, _, P175_0, P175_3, rfl, by decide, by decide, P174_0, P174_1⟩⟩, Or.inl ⟨by decide, rfl⟩, Or.inl ⟨by decide, rfl⟩, Or.inl ⟨by decide, rfl⟩, Or.inr ⟨by decide, (3 : Int32), _, ⟨d_175, b2_174, _, _, _, P175_0, P175_3, rfl, by decide, by decide, P174_0, P174_1⟩, by decide, by decide, rfl⟩, Or.inr (own_oki (by rw [own_tb1, e176_0] <;> rfl) (by rw [own_lt1, if_pos e176_0] <;> rfl) (r := (0 : Int32)) (f := (1 : Int32)) ⟨by decide, (3 : Int32), _, ⟨d_175, b2_174, _, _, _, P175_0, P175_3, rfl, by decide, by decide, P174_0, P174_1⟩, by decide, by decide, rfl⟩), Or.inr (own_oki (by rw [own_tb2, e176_0, e176_1] <;> rfl) (by rw [own_lt2, if_pos e176_1, own_lt1, if_pos e176_0] <;> rfl) (r := (0 : Int32)) (f := (2 : Int32)) ⟨by decide, (3 : Int32), _, ⟨d_175, b2_174, _, _, _, P175_0, P175_3, rfl, by decide, by decide, P174_0, P174_1⟩, by decide, by decide, rfl⟩), Or.inl hc173⟩
        · refine Go.icmpNo X102 hx (hb hby d1_31) (Jvm.Free.XT.ii_eq_f hc173) (q := 34) rfl ?_
          refine Go.iinc X102 hx (hb hby d1_34) rfl (r := (4 : Int32)) rfl (l' := #[.val (.ref b), .val (.int t), .val (.ref b101), .val (.int 0), .val (.int 4)]) rfl (q := 37) rfl ?_
          refine Go.goto X102 hx (hb hby d1_37) (q := 19) (by decide) (by decide) ?_
          refine Go.iload X102 hx (hb hby d1_19) rfl (q := 21) rfl ?_
          refine Go.aloadN X102 hx (hb hby d1_21) rfl rfl (q := 22) rfl ?_
          refine Go.alen X102 hx hZ e102 Vb (hb hby d1_22) ?_
          refine Go.icmpYes X102 hx (hb hby d1_23) (by decide) (q := 40) (by decide) (by decide) ?_
          refine Go.aloadN X102 hx (hb hby d1_40) rfl rfl (q := 41) rfl ?_
          refine Go.aloadN X102 hx (hb hby d1_41) rfl rfl (q := 42) rfl ?_
          refine Go.iloadN X102 hx (hb hby d1_42) rfl (q := 43) rfl ?_
          refine Go.iload X102 hx (hb hby d1_43) rfl (q := 45) rfl ?_
          refine Go.callS X102 hx hZ hown (wd55 hw) (wd56 hw) (wd57 hw) (wd58 hw) (by decide) (ccl_4 l Z a0 hw b x0 x1 x2 x3 (kb) h102 OK102 Eb Vb) e102 (by rw [hml]; rfl) (hb hby d1_45) (argsL := [(.ref b), (.int 0), (.int 4)]) (rest := [(.ref b101)]) (lenOf pd8 rfl) rfl rfl (W := 1) (Nat.le_refl _) (by decide) ?_
          intro v177 T177 L177 X177 hQ177
          obtain ⟨h177, e177⟩ : ∃ z, T177.heap = z := ⟨_, rfl⟩
          rw [e177] at hQ177
          obtain ⟨b2_177, kc_177, rfl, N177q, K177, fr177_b2, P177_0, P177_1⟩ := hQ177
          have N177 := Fr.app N102 N177q
          have ne_b_b2_177 : b ≠ b2_177 := ne_new Eb.lt fr177_b2
          have ne_b101_b2_177 : b101 ≠ b2_177 := ne_new A101.lt fr177_b2
          have g_b2_177 : Z.heap.size ≤ b2_177 := Nat.le_trans OK102.1 fr177_b2
          have z_b2_177 : h0.size ≤ b2_177 := Nat.le_trans KP.1 fr177_b2
          replace Eb := Eb.keep K177
          replace Vb := Vb.keep K177 nin0
          replace A101 := A101.keep K177
          replace P102_0 := P102_0.keep K177 nin0
          replace P102_1 := P102_1.keep K177 nin0
          replace P102_2 := P102_2.keep K177 nin0
          have OK177 := ext_keep OK102 K177 all0
          replace KP := KP.trans K177 all0
          refine Go.face X177 hx hZ hown (wd73 hw) (wd74 hw) (wd75 hw) (wd76 hw) (wd77 hw) (wd78 hw) (wd79 hw) (wd38 hw) (wd7 hw) (wd80 hw) (by decide) (cadd_0 l Z a0 hw b101 b2_177 de ((0 : Int32)) h177 OK177 A101 g_b101 P102_0 P102_1 P102_2 P177_0 SD LD) e177 A101 (by rw [hml]; rfl) (hb hby d1_48) (argsL := [(.ref b2_177)]) (rest := []) (lenOf pd12 rfl) rfl rfl (W := 0) (Nat.le_refl _) (by decide) ?_
          intro v178 T178 L178 X178 hQ178
          obtain ⟨h178, e178⟩ : ∃ z, T178.heap = z := ⟨_, rfl⟩
          rw [e178] at hQ178
          obtain ⟨d_178, kd_178, rfl, N178q, K178, fr178_d, P178_0, P178_1, P178_2, P178_3, P178_4⟩ := hQ178
          have N178 := Fr.app N177 N178q
          have ne_b_d_178 : b ≠ d_178 := ne_new Eb.lt fr178_d
          have ne_b101_d_178 : b101 ≠ d_178 := ne_new A101.lt fr178_d
          have ne_b2_177_d_178 : b2_177 ≠ d_178 := ne_new P177_0.lt fr178_d
          have g_d_178 : Z.heap.size ≤ d_178 := Nat.le_trans OK177.1 fr178_d
          have z_d_178 : h0.size ≤ d_178 := Nat.le_trans KP.1 fr178_d
          replace Eb := Eb.keep K178
          replace Vb := Vb.keep K178 (ninS ne_b_b101 nin0)
          replace A101 := A101.keep K178
          replace P177_0 := P177_0.keep K178
          replace P177_1 := P177_1.keep K178 (ninS (Ne.symm ne_b101_b2_177) nin0)
          have OK178 := ext_keep OK177 K178 (allS g_b101 all0)
          replace KP := KP.trans K178 (allS (Or.inr z_b101) all0)
          refine Go.pop X178 hx (hb hby d1_53) rfl (q := 54) rfl ?_
          refine Go.iload X178 hx (hb hby d1_54) rfl (q := 56) rfl ?_
          refine Go.iconst X178 hx (hb hby d1_56) (r := (1 : Int32)) rfl (q := 57) rfl ?_
          refine Go.iadd X178 hx (hb hby d1_57) (r := (5 : Int32)) rfl (q := 58) rfl ?_
          refine Go.istoreN X178 hx (hb hby d1_58) (l' := #[.val (.ref b), .val (.int t), .val (.ref b101), .val (.int 5), .val (.int 4)]) rfl (q := 59) rfl ?_
          refine Go.goto X178 hx (hb hby d1_59) (q := 10) (by decide) (by decide) ?_
          refine Go.iloadN X178 hx (hb hby d1_10) rfl (q := 11) rfl ?_
          refine Go.aloadN X178 hx (hb hby d1_11) rfl rfl (q := 12) rfl ?_
          refine Go.alen X178 hx hZ e178 Vb (hb hby d1_12) ?_
          refine Go.icmpYes X178 hx (hb hby d1_13) (by decide) (q := 62) (by decide) (by decide) ?_
          refine Go.aloadN X178 hx (hb hby d1_62) rfl rfl (q := 63) rfl ?_
          have e179_0 := own_isF hc103
          have e179_1 := own_isF hc143
          have e179_2 := own_isF hc163
          have e179_3 := own_isF hc173
          exact Go.retA X178 hx hret hlk rfl rfl (hb hby d1_63) e178 (by decide) (by decide) ⟨b101, (1 : Int32), (4 : Int32), (0 : Int32), (0 : Int32), (0 : Int32), rfl, N178, KP, z_b101, A101, P178_1, ⟨fun q => absurd q hc173, fun _ => by rw [own_tb4, e179_0, e179_1, e179_2, e179_3] <;> rfl⟩, by rw [own_tb4, e179_0, e179_1, e179_2, e179_3] <;> rfl, Or.inr ⟨by decide, _, ⟨d_178, b2_177, _, _, _, P178_0, P178_3, rfl, by decide, by decide, P177_0, P177_1⟩⟩, Or.inl ⟨by decide, rfl⟩, Or.inl ⟨by decide, rfl⟩, Or.inl ⟨by decide, rfl⟩, Or.inr ⟨by decide, (4 : Int32), _, ⟨d_178, b2_177, _, _, _, P178_0, P178_3, rfl, by decide, by decide, P177_0, P177_1⟩, by decide, by decide, rfl⟩, Or.inr (own_oki (by rw [own_tb1, e179_0] <;> rfl) (by rw [own_lt1, if_pos e179_0] <;> rfl) (r := (0 : Int32)) (f := (1 : Int32)) ⟨by decide, (4 : Int32), _, ⟨d_178, b2_177, _, _, _, P178_0, P178_3, rfl, by decide, by decide, P177_0, P177_1⟩, by decide, by decide, rfl⟩), Or.inr (own_oki (by rw [own_tb2, e179_0, e179_1] <;> rfl) (by rw [own_lt2, if_pos e179_1, own_lt1, if_pos e179_0] <;> rfl) (r := (0 : Int32)) (f := (2 : Int32)) ⟨by decide, (4 : Int32), _, ⟨d_178, b2_177, _, _, _, P178_0, P178_3, rfl, by decide, by decide, P177_0, P177_1⟩, by decide, by decide, rfl⟩), Or.inr (own_oki (by rw [own_tb3, e179_0, e179_1, e179_2] <;> rfl) (by rw [own_lt3, if_pos e179_2, own_lt2, if_pos e179_1, own_lt1, if_pos e179_0] <;> rfl) (r := (0 : Int32)) (f := (3 : Int32)) ⟨by decide, (4 : Int32), _, ⟨d_178, b2_177, _, _, _, P178_0, P178_3, rfl, by decide, by decide, P177_0, P177_1⟩, by decide, by decide, rfl⟩)⟩
def Q_law0 (Z : State) (le sl da te : Int32) (de : Addr) (h0 : Heap) (vR : Option Value) (hR : Heap) (LR : List Loc) : Prop := vR = some (.int 1) ∧ Fr Z.heap.size LR
theorem law0 (l : Launch) (Z : State) (a0 : Array Value) (hw : ∀ d ∈ tables_1, d.before a0 Z = true) (le sl da te : Int32) (de : Addr) (h0 : Heap) (O0 : Ext Z.heap h0) (SD : Sta Z Z.heap xS0 "DEFAULTCAPACITY_EMPTY_ELEMENTDATA" xS3 (.ref de)) (LD : Lng Z Z.heap de (0 : Int32)) :
    Ctr l Z h0 x code maxLocals ret tables_1 room_1 #[(.int le), (.int sl), (.int da), (.int te)] (Q_law0 Z le sl da te de h0) := by
  refine enter (plainFor_of_name pn6) ?_
  intro pp ee ss mm below meth cc s₁ hx hby hml hZ hown hnm hret hlk X0 e0 hs0
  replace hown : ss.vm.findClass xS4 = some mm.cls := hown
  refine Go.cast (congrArg s₁.setTop (ef_law0 mm le sl da te)) ?_
  have N0 := Fr.nil Z.heap.size
  show Go pp ee below _ (s₁.setTop (mkF mm 0 #[.val (.int le), .val (.int sl), .val (.int da), .val (.int te), .unset, .unset, .unset, .unset, .unset, .unset] []))
  refine Go.iloadN X0 hx (hb hby at_0) rfl (q := 1) rfl ?_
  refine Go.bipush X0 hx (hb hby at_1) (r := (7 : Int32)) rfl (q := 3) rfl ?_
  refine Go.iand X0 hx (hb hby at_3) rfl (q := 4) rfl ?_
  refine Go.iconst X0 hx (hb hby at_4) (r := (5 : Int32)) rfl (q := 5) rfl ?_
  refine Go.irem X0 hx (hb hby at_5) (by decide) rfl (q := 6) rfl ?_
  have hk := own_rem5 le
  generalize ((le &&& (7 : Int32)) % (5 : Int32)) = k at hk ⊢
  rcases hk with rfl | rfl | rfl | rfl | rfl
  · show Go pp ee below _ (s₁.setTop (mkF mm 6 #[.val (.int le), .val (.int sl), .val (.int da), .val (.int te), .unset, .unset, .unset, .unset, .unset, .unset] [(.int 0)]))
    refine Go.istore X0 hx (hb hby at_6) (l' := #[.val (.int le), .val (.int sl), .val (.int da), .val (.int te), .val (.int 0), .unset, .unset, .unset, .unset, .unset]) rfl (q := 8) rfl ?_
    refine Go.iloadN X0 hx (hb hby at_8) rfl (q := 9) rfl ?_
    refine Go.i2b X0 hx (hb hby at_9) rfl (q := 10) rfl ?_
    have ht : ((te.toInt8.toInt32).toInt8.toInt32) = (te.toInt8.toInt32) := bb te
    generalize (te.toInt8.toInt32) = t at ht ⊢
    show Go pp ee below _ (s₁.setTop (mkF mm 10 #[.val (.int le), .val (.int sl), .val (.int da), .val (.int te), .val (.int 0), .unset, .unset, .unset, .unset, .unset] [(.int t)]))
    refine Go.istore X0 hx (hb hby at_10) (l' := #[.val (.int le), .val (.int sl), .val (.int da), .val (.int te), .val (.int 0), .val (.int t), .unset, .unset, .unset, .unset]) rfl (q := 12) rfl ?_
    refine Go.iload X0 hx (hb hby at_12) rfl (q := 14) rfl ?_
    refine Go.newP X0 hx hZ (hb hby at_14) (wd0 hw) e0 (by decide) (cap := 0) (by decide) (by decide) (by decide) (by decide) (ad := "[B") rfl (q := 16) rfl ?_
    intro b101 T101 h101 k101 X101 e101 q101 E101 V101 B101
    have g_b101 : Z.heap.size ≤ b101 := Nat.le_trans O0.1 (Nat.le_of_eq q101)
    have OE101 := ext_trans O0 E101
    replace V101 : Arv Z h101 b101 k101 .byte (0 : Int32) [] (.int 0) := V101
    refine Go.astore X101 hx (hb hby at_16) rfl (l' := #[.val (.int le), .val (.int sl), .val (.int da), .val (.int te), .val (.int 0), .val (.int t), .val (.ref b101), .unset, .unset, .unset]) rfl (q := 18) rfl ?_
    refine Go.iconst X101 hx (hb hby at_18) (r := (0 : Int32)) rfl (q := 19) rfl ?_
    refine Go.iload X101 hx (hb hby at_19) rfl (q := 21) rfl ?_
    refine Go.icmpYes X101 hx (hb hby at_21) (by decide) (q := 36) (by decide) (by decide) ?_
    refine Go.iconst X101 hx (hb hby at_36) (r := (1 : Int32)) rfl (q := 37) rfl ?_
    refine Go.iload X101 hx (hb hby at_37) rfl (q := 39) rfl ?_
    refine Go.icmpYes X101 hx (hb hby at_39) (by decide) (q := 54) (by decide) (by decide) ?_
    refine Go.iconst X101 hx (hb hby at_54) (r := (2 : Int32)) rfl (q := 55) rfl ?_
    refine Go.iload X101 hx (hb hby at_55) rfl (q := 57) rfl ?_
    refine Go.icmpYes X101 hx (hb hby at_57) (by decide) (q := 72) (by decide) (by decide) ?_
    refine Go.iconst X101 hx (hb hby at_72) (r := (3 : Int32)) rfl (q := 73) rfl ?_
    refine Go.iload X101 hx (hb hby at_73) rfl (q := 75) rfl ?_
    refine Go.icmpYes X101 hx (hb hby at_75) (by decide) (q := 90) (by decide) (by decide) ?_
    replace V101 : Arv Z h101 b101 k101 .byte (0 : Int32) [(.int 0), (.int 0), (.int 0), (.int 0)] (.int 0) := V101.pad (pad_rep [] (.int (0 : Int32)) 4)
    refine Go.aload X101 hx (hb hby at_90) rfl rfl (q := 92) rfl ?_
    refine Go.iload X101 hx (hb hby at_92) rfl (q := 94) rfl ?_
    refine Go.callS X101 hx hZ hown (wd1 hw) (wd2 hw) (wd3 hw) (wd4 hw) (by decide) (crec_0 l Z a0 hw b101 ((0 : Int32)) ((0 : Int32)) ((0 : Int32)) ((0 : Int32)) (k101) t de h101 OE101 B101 V101 SD LD) e101 (by rw [hml]; rfl) (hb hby at_94) (argsL := [(.ref b101), (.int t)]) (rest := []) (lenOf pd13 rfl) rfl rfl (W := 0) (Nat.le_refl _) (by decide) ?_
    intro v102 T102 L102 X102 hQ102
    obtain ⟨h102, e102⟩ : ∃ z, T102.heap = z := ⟨_, rfl⟩
    rw [e102] at hQ102
    obtain ⟨li_102, kk_102, q0_102, q1_102, q2_102, q3_102, rfl, N102q, K102, fr102_li, P102_0, P102_1, P102_2, P102_3, P102_4, P102_5, P102_6, P102_7⟩ := hQ102
    have N102 := Fr.app N0 N102q
    have ne_b101_li_102 : b101 ≠ li_102 := ne_new B101.lt fr102_li
    have g_li_102 : Z.heap.size ≤ li_102 := Nat.le_trans OE101.1 fr102_li
    replace B101 := B101.keep K102
    replace V101 := V101.keep K102 nin0
    have OK102 := ext_keep OE101 K102 all0
    refine Go.astore X102 hx (hb hby at_97) rfl (l' := #[.val (.int le), .val (.int sl), .val (.int da), .val (.int te), .val (.int 0), .val (.int t), .val (.ref b101), .val (.ref li_102), .unset, .unset]) rfl (q := 99) rfl ?_
    refine Go.aload X102 hx (hb hby at_99) rfl rfl (q := 101) rfl ?_
    refine Go.ifnonnullYes X102 hx (hb hby at_101) (q := 106) (by decide) (by decide) ?_
    refine Go.iload X102 hx (hb hby at_106) rfl (q := 108) rfl ?_
    refine Go.ifNo X102 hx (hb hby at_108) (by decide) (q := 111) rfl ?_
    refine Go.iconst X102 hx (hb hby at_111) (r := (0 : Int32)) rfl (q := 112) rfl ?_
    refine Go.goto X102 hx (hb hby at_112) (q := 142) (by decide) (by decide) ?_
    refine Go.istore X102 hx (hb hby at_142) (l' := #[.val (.int le), .val (.int sl), .val (.int da), .val (.int te), .val (.int 0), .val (.int t), .val (.ref b101), .val (.ref li_102), .val (.int 0), .unset]) rfl (q := 144) rfl ?_
    refine Go.aload X102 hx (hb hby at_144) rfl rfl (q := 146) rfl ?_
    refine Go.face X102 hx hZ hown (wd31 hw) (wd32 hw) (wd33 hw) (wd34 hw) (wd35 hw) (wd36 hw) (wd37 hw) (wd38 hw) (wd7 hw) (wd39 hw) (by decide) (csize l Z a0 hw li_102 kk_102 h102 OK102 P102_1) e102 P102_0 (by rw [hml]; rfl) (hb hby at_146) (argsL := []) (rest := []) (lenOf pd11 rfl) rfl rfl (W := 0) (Nat.le_refl _) (by decide) ?_
    intro v103 T103 L103 X103 hQ103
    obtain ⟨rfl, N103q, e103⟩ := hQ103
    have N103 := Fr.app N102 N103q
    refine Go.iload X103 hx (hb hby at_151) rfl (q := 153) rfl ?_
    refine Go.icmpYes X103 hx (hb hby at_153) (Jvm.Free.XT.ii_eq_t P102_2) (q := 158) (by decide) (by decide) ?_
    refine Go.aload X103 hx (hb hby at_158) rfl rfl (q := 160) rfl ?_
    refine Go.aload X103 hx (hb hby at_160) rfl rfl (q := 162) rfl ?_
    refine Go.iconst X103 hx (hb hby at_162) (r := (0 : Int32)) rfl (q := 163) rfl ?_
    refine Go.iload X103 hx (hb hby at_163) rfl (q := 165) rfl ?_
    refine Go.callS X103 hx hZ hown (wd42 hw) (wd43 hw) (wd44 hw) (wd45 hw) (by decide) (cokA l Z a0 hw li_102 ((0 : Int32)) t b101 ((0 : Int32)) (k101) ([(.int 0), (.int 0), (.int 0), (.int 0)]) h102 OK102 V101 (by decide)) e103 (by rw [hml]; rfl) (hb hby at_165) (argsL := [(.ref li_102), (.ref b101), (.int 0), (.int t)]) (rest := []) (lenOf pd14 rfl) rfl rfl (W := 0) (Nat.le_refl _) (by decide) ?_
    intro v104 T104 L104 X104 hQ104
    obtain ⟨rfl, N104q, e104⟩ := hQ104
    have N104 := Fr.app N103 N104q
    refine Go.ifNo X104 hx (hb hby at_168) (by decide) (q := 171) rfl ?_
    refine Go.aload X104 hx (hb hby at_171) rfl rfl (q := 173) rfl ?_
    refine Go.aload X104 hx (hb hby at_173) rfl rfl (q := 175) rfl ?_
    refine Go.iconst X104 hx (hb hby at_175) (r := (1 : Int32)) rfl (q := 176) rfl ?_
    refine Go.iload X104 hx (hb hby at_176) rfl (q := 178) rfl ?_
    refine Go.callS X104 hx hZ hown (wd42 hw) (wd43 hw) (wd44 hw) (wd45 hw) (by decide) (cokA l Z a0 hw li_102 ((1 : Int32)) t b101 ((0 : Int32)) (k101) ([(.int 0), (.int 0), (.int 0), (.int 0)]) h102 OK102 V101 (by decide)) e104 (by rw [hml]; rfl) (hb hby at_178) (argsL := [(.ref li_102), (.ref b101), (.int 1), (.int t)]) (rest := []) (lenOf pd14 rfl) rfl rfl (W := 0) (Nat.le_refl _) (by decide) ?_
    intro v105 T105 L105 X105 hQ105
    obtain ⟨rfl, N105q, e105⟩ := hQ105
    have N105 := Fr.app N104 N105q
    refine Go.ifNo X105 hx (hb hby at_181) (by decide) (q := 184) rfl ?_
    refine Go.aload X105 hx (hb hby at_184) rfl rfl (q := 186) rfl ?_
    refine Go.aload X105 hx (hb hby at_186) rfl rfl (q := 188) rfl ?_
    refine Go.iconst X105 hx (hb hby at_188) (r := (2 : Int32)) rfl (q := 189) rfl ?_
    refine Go.iload X105 hx (hb hby at_189) rfl (q := 191) rfl ?_
    refine Go.callS X105 hx hZ hown (wd42 hw) (wd43 hw) (wd44 hw) (wd45 hw) (by decide) (cokA l Z a0 hw li_102 ((2 : Int32)) t b101 ((0 : Int32)) (k101) ([(.int 0), (.int 0), (.int 0), (.int 0)]) h102 OK102 V101 (by decide)) e105 (by rw [hml]; rfl) (hb hby at_191) (argsL := [(.ref li_102), (.ref b101), (.int 2), (.int t)]) (rest := []) (lenOf pd14 rfl) rfl rfl (W := 0) (Nat.le_refl _) (by decide) ?_
    intro v106 T106 L106 X106 hQ106
    obtain ⟨rfl, N106q, e106⟩ := hQ106
    have N106 := Fr.app N105 N106q
    refine Go.ifNo X106 hx (hb hby at_194) (by decide) (q := 197) rfl ?_
    refine Go.aload X106 hx (hb hby at_197) rfl rfl (q := 199) rfl ?_
    refine Go.aload X106 hx (hb hby at_199) rfl rfl (q := 201) rfl ?_
    refine Go.iconst X106 hx (hb hby at_201) (r := (3 : Int32)) rfl (q := 202) rfl ?_
    refine Go.iload X106 hx (hb hby at_202) rfl (q := 204) rfl ?_
    refine Go.callS X106 hx hZ hown (wd42 hw) (wd43 hw) (wd44 hw) (wd45 hw) (by decide) (cokA l Z a0 hw li_102 ((3 : Int32)) t b101 ((0 : Int32)) (k101) ([(.int 0), (.int 0), (.int 0), (.int 0)]) h102 OK102 V101 (by decide)) e106 (by rw [hml]; rfl) (hb hby at_204) (argsL := [(.ref li_102), (.ref b101), (.int 3), (.int t)]) (rest := []) (lenOf pd14 rfl) rfl rfl (W := 0) (Nat.le_refl _) (by decide) ?_
    intro v107 T107 L107 X107 hQ107
    obtain ⟨rfl, N107q, e107⟩ := hQ107
    have N107 := Fr.app N106 N107q
    refine Go.ifYes X107 hx (hb hby at_207) (by decide) (q := 212) (by decide) (by decide) ?_
    refine Go.aload X107 hx (hb hby at_212) rfl rfl (q := 214) rfl ?_
    refine Go.iconst X107 hx (hb hby at_214) (r := (0 : Int32)) rfl (q := 215) rfl ?_
    refine Go.callS X107 hx hZ hown (wd46 hw) (wd47 hw) (wd44 hw) (wd48 hw) (by decide) (clenof l Z a0 hw li_102 kk_102 ((0 : Int32)) q0_102 h102 OK102 P102_0 P102_1 P102_4) e107 (by rw [hml]; rfl) (hb hby at_215) (argsL := [(.ref li_102), (.int 0)]) (rest := []) (lenOf pd15 rfl) rfl rfl (W := 0) (Nat.le_refl _) (by decide) ?_
    intro v108 T108 L108 X108 hQ108
    obtain ⟨rfl, N108q, e108⟩ := hQ108
    have N108 := Fr.app N107 N108q
    refine Go.aload X108 hx (hb hby at_218) rfl rfl (q := 220) rfl ?_
    refine Go.iconst X108 hx (hb hby at_220) (r := (1 : Int32)) rfl (q := 221) rfl ?_
    refine Go.callS X108 hx hZ hown (wd46 hw) (wd47 hw) (wd44 hw) (wd48 hw) (by decide) (clenof l Z a0 hw li_102 kk_102 ((1 : Int32)) q1_102 h102 OK102 P102_0 P102_1 P102_5) e108 (by rw [hml]; rfl) (hb hby at_221) (argsL := [(.ref li_102), (.int 1)]) (rest := [(.int q0_102)]) (lenOf pd15 rfl) rfl rfl (W := 1) (Nat.le_refl _) (by decide) ?_
    intro v109 T109 L109 X109 hQ109
    obtain ⟨rfl, N109q, e109⟩ := hQ109
    have N109 := Fr.app N108 N109q
    refine Go.iadd X109 hx (hb hby at_224) rfl (q := 225) rfl ?_
    refine Go.aload X109 hx (hb hby at_225) rfl rfl (q := 227) rfl ?_
    refine Go.iconst X109 hx (hb hby at_227) (r := (2 : Int32)) rfl (q := 228) rfl ?_
    refine Go.callS X109 hx hZ hown (wd46 hw) (wd47 hw) (wd44 hw) (wd48 hw) (by decide) (clenof l Z a0 hw li_102 kk_102 ((2 : Int32)) q2_102 h102 OK102 P102_0 P102_1 P102_6) e109 (by rw [hml]; rfl) (hb hby at_228) (argsL := [(.ref li_102), (.int 2)]) (rest := [(.int (q0_102 + q1_102))]) (lenOf pd15 rfl) rfl rfl (W := 1) (Nat.le_refl _) (by decide) ?_
    intro v110 T110 L110 X110 hQ110
    obtain ⟨rfl, N110q, e110⟩ := hQ110
    have N110 := Fr.app N109 N110q
    refine Go.iadd X110 hx (hb hby at_231) rfl (q := 232) rfl ?_
    refine Go.aload X110 hx (hb hby at_232) rfl rfl (q := 234) rfl ?_
    refine Go.iconst X110 hx (hb hby at_234) (r := (3 : Int32)) rfl (q := 235) rfl ?_
    refine Go.callS X110 hx hZ hown (wd46 hw) (wd47 hw) (wd44 hw) (wd48 hw) (by decide) (clenof l Z a0 hw li_102 kk_102 ((3 : Int32)) q3_102 h102 OK102 P102_0 P102_1 P102_7) e110 (by rw [hml]; rfl) (hb hby at_235) (argsL := [(.ref li_102), (.int 3)]) (rest := [(.int ((q0_102 + q1_102) + q2_102))]) (lenOf pd15 rfl) rfl rfl (W := 1) (Nat.le_refl _) (by decide) ?_
    intro v111 T111 L111 X111 hQ111
    obtain ⟨rfl, N111q, e111⟩ := hQ111
    have N111 := Fr.app N110 N111q
    refine Go.iadd X111 hx (hb hby at_238) rfl (q := 239) rfl ?_
    refine Go.istore X111 hx (hb hby at_239) (l' := #[.val (.int le), .val (.int sl), .val (.int da), .val (.int te), .val (.int 0), .val (.int t), .val (.ref b101), .val (.ref li_102), .val (.int 0), .val (.int (((q0_102 + q1_102) + q2_102) + q3_102))]) rfl (q := 241) rfl ?_
    refine Go.iload X111 hx (hb hby at_241) rfl (q := 243) rfl ?_
    refine Go.iload X111 hx (hb hby at_243) rfl (q := 245) rfl ?_
    refine Go.aload X111 hx (hb hby at_245) rfl rfl (q := 247) rfl ?_
    refine Go.iload X111 hx (hb hby at_247) rfl (q := 249) rfl ?_
    refine Go.iload X111 hx (hb hby at_249) rfl (q := 251) rfl ?_
    refine Go.callS X111 hx hZ hown (wd49 hw) (wd50 hw) (wd44 hw) (wd51 hw) (by decide) (ctb_0 l Z a0 hw b101 ((0 : Int32)) ((0 : Int32)) ((0 : Int32)) ((0 : Int32)) (k101) ((0 : Int32)) t h102 OK102 V101) e111 (by rw [hml]; rfl) (hb hby at_251) (argsL := [(.ref b101), (.int 0), (.int t)]) (rest := [(.int 0), (.int (((q0_102 + q1_102) + q2_102) + q3_102))]) (lenOf pd10 rfl) rfl rfl (W := 2) (Nat.le_refl _) (by decide) ?_
    intro v112 T112 L112 X112 hQ112
    obtain ⟨rfl, N112q, e112⟩ := hQ112
    have N112 := Fr.app N111 N112q
    refine Go.isub X112 hx (hb hby at_254) (r := (0 : Int32)) rfl (q := 255) rfl ?_
    refine Go.icmpNo X112 hx (hb hby at_255) (Jvm.Free.XT.ii_ne_f P102_3) (q := 258) rfl ?_
    refine Go.iconst X112 hx (hb hby at_258) (r := (1 : Int32)) rfl (q := 259) rfl ?_
    refine Go.goto X112 hx (hb hby at_259) (q := 263) (by decide) (by decide) ?_
    exact Go.retI X112 hx hret hlk (by simp) rfl (hb hby at_263) e112 (by decide) (by decide) ⟨rfl, N112⟩
  · show Go pp ee below _ (s₁.setTop (mkF mm 6 #[.val (.int le), .val (.int sl), .val (.int da), .val (.int te), .unset, .unset, .unset, .unset, .unset, .unset] [(.int 1)]))
    refine Go.istore X0 hx (hb hby at_6) (l' := #[.val (.int le), .val (.int sl), .val (.int da), .val (.int te), .val (.int 1), .unset, .unset, .unset, .unset, .unset]) rfl (q := 8) rfl ?_
    refine Go.iloadN X0 hx (hb hby at_8) rfl (q := 9) rfl ?_
    refine Go.i2b X0 hx (hb hby at_9) rfl (q := 10) rfl ?_
    have ht : ((te.toInt8.toInt32).toInt8.toInt32) = (te.toInt8.toInt32) := bb te
    generalize (te.toInt8.toInt32) = t at ht ⊢
    show Go pp ee below _ (s₁.setTop (mkF mm 10 #[.val (.int le), .val (.int sl), .val (.int da), .val (.int te), .val (.int 1), .unset, .unset, .unset, .unset, .unset] [(.int t)]))
    refine Go.istore X0 hx (hb hby at_10) (l' := #[.val (.int le), .val (.int sl), .val (.int da), .val (.int te), .val (.int 1), .val (.int t), .unset, .unset, .unset, .unset]) rfl (q := 12) rfl ?_
    refine Go.iload X0 hx (hb hby at_12) rfl (q := 14) rfl ?_
    refine Go.newP X0 hx hZ (hb hby at_14) (wd0 hw) e0 (by decide) (cap := 1) (by decide) (by decide) (by decide) (by decide) (ad := "[B") rfl (q := 16) rfl ?_
    intro b113 T113 h113 k113 X113 e113 q113 E113 V113 B113
    have g_b113 : Z.heap.size ≤ b113 := Nat.le_trans O0.1 (Nat.le_of_eq q113)
    have OE113 := ext_trans O0 E113
    replace V113 : Arv Z h113 b113 k113 .byte (1 : Int32) [(.int 0)] (.int 0) := V113.pad (pad_rep [] (.int 0) 1)
    refine Go.astore X113 hx (hb hby at_16) rfl (l' := #[.val (.int le), .val (.int sl), .val (.int da), .val (.int te), .val (.int 1), .val (.int t), .val (.ref b113), .unset, .unset, .unset]) rfl (q := 18) rfl ?_
    refine Go.iconst X113 hx (hb hby at_18) (r := (0 : Int32)) rfl (q := 19) rfl ?_
    refine Go.iload X113 hx (hb hby at_19) rfl (q := 21) rfl ?_
    refine Go.icmpNo X113 hx (hb hby at_21) (by decide) (q := 24) rfl ?_
    refine Go.aload X113 hx (hb hby at_24) rfl rfl (q := 26) rfl ?_
    refine Go.iconst X113 hx (hb hby at_26) (r := (0 : Int32)) rfl (q := 27) rfl ?_
    refine Go.iloadN X113 hx (hb hby at_27) rfl (q := 28) rfl ?_
    refine Go.iloadN X113 hx (hb hby at_28) rfl (q := 29) rfl ?_
    refine Go.iconst X113 hx (hb hby at_29) (r := (0 : Int32)) rfl (q := 30) rfl ?_
    refine Go.iload X113 hx (hb hby at_30) rfl (q := 32) rfl ?_
    refine Go.callS X113 hx hZ hown (wd52 hw) (wd53 hw) (wd44 hw) (wd54 hw) (by decide) (cpick l Z a0 hw sl da ((0 : Int32)) t h113 OE113 ht) e113 (by rw [hml]; rfl) (hb hby at_32) (argsL := [(.int sl), (.int da), (.int 0), (.int t)]) (rest := [(.int 0), (.ref b113)]) (lenOf pd16 rfl) rfl rfl (W := 2) (Nat.le_refl _) (by decide) ?_
    intro v114 T114 L114 X114 hQ114
    obtain ⟨y_114, rfl, N114q, e114, P114_0⟩ := hQ114
    have N114 := Fr.app N0 N114q
    refine Go.bst X114 hx hZ e114 V113 ⟨by decide, by decide⟩ (i := 0) rfl (Nat.le_of_ble_eq_true rfl) (hb hby at_35) ?_
    intro T115 h115 X115 e115 W115 V115
    rw [P114_0] at V115
    replace V115 : Arv Z h115 b113 k113 .byte (1 : Int32) [(.int y_114)] (.int 0) := V115
    have N115 := Fr.snoc X115 N114 g_b113
    replace B113 := B113.wr W115
    have OW115 := ext_wr OE113 W115 g_b113
    refine Go.iconst X115 hx (hb hby at_36) (r := (1 : Int32)) rfl (q := 37) rfl ?_
    refine Go.iload X115 hx (hb hby at_37) rfl (q := 39) rfl ?_
    refine Go.icmpYes X115 hx (hb hby at_39) (by decide) (q := 54) (by decide) (by decide) ?_
    refine Go.iconst X115 hx (hb hby at_54) (r := (2 : Int32)) rfl (q := 55) rfl ?_
    refine Go.iload X115 hx (hb hby at_55) rfl (q := 57) rfl ?_
    refine Go.icmpYes X115 hx (hb hby at_57) (by decide) (q := 72) (by decide) (by decide) ?_
    refine Go.iconst X115 hx (hb hby at_72) (r := (3 : Int32)) rfl (q := 73) rfl ?_
    refine Go.iload X115 hx (hb hby at_73) rfl (q := 75) rfl ?_
    refine Go.icmpYes X115 hx (hb hby at_75) (by decide) (q := 90) (by decide) (by decide) ?_
    replace V115 : Arv Z h115 b113 k113 .byte (1 : Int32) [(.int y_114), (.int 0), (.int 0), (.int 0)] (.int 0) := V115.pad (pad_rep [(.int y_114)] (.int (0 : Int32)) 3)
    refine Go.aload X115 hx (hb hby at_90) rfl rfl (q := 92) rfl ?_
    refine Go.iload X115 hx (hb hby at_92) rfl (q := 94) rfl ?_
    refine Go.callS X115 hx hZ hown (wd1 hw) (wd2 hw) (wd3 hw) (wd4 hw) (by decide) (crec_1 l Z a0 hw b113 y_114 ((0 : Int32)) ((0 : Int32)) ((0 : Int32)) (k113) t de h115 OW115 B113 V115 SD LD) e115 (by rw [hml]; rfl) (hb hby at_94) (argsL := [(.ref b113), (.int t)]) (rest := []) (lenOf pd13 rfl) rfl rfl (W := 0) (Nat.le_refl _) (by decide) ?_
    intro v116 T116 L116 X116 hQ116
    obtain ⟨h116, e116⟩ : ∃ z, T116.heap = z := ⟨_, rfl⟩
    rw [e116] at hQ116
    obtain ⟨li_116, kk_116, q0_116, q1_116, q2_116, q3_116, rfl, N116q, K116, fr116_li, P116_0, P116_1, P116_2, P116_3, P116_4, P116_5, P116_6, P116_7, P116_8⟩ := hQ116
    have N116 := Fr.app N115 N116q
    have ne_b113_li_116 : b113 ≠ li_116 := ne_new B113.lt fr116_li
    have g_li_116 : Z.heap.size ≤ li_116 := Nat.le_trans OW115.1 fr116_li
    replace B113 := B113.keep K116
    replace V115 := V115.keep K116 nin0
    have OK116 := ext_keep OW115 K116 all0
    refine Go.astore X116 hx (hb hby at_97) rfl (l' := #[.val (.int le), .val (.int sl), .val (.int da), .val (.int te), .val (.int 1), .val (.int t), .val (.ref b113), .val (.ref li_116), .unset, .unset]) rfl (q := 99) rfl ?_
    refine Go.aload X116 hx (hb hby at_99) rfl rfl (q := 101) rfl ?_
    refine Go.ifnonnullYes X116 hx (hb hby at_101) (q := 106) (by decide) (by decide) ?_
    refine Go.iload X116 hx (hb hby at_106) rfl (q := 108) rfl ?_
    refine Go.ifYes X116 hx (hb hby at_108) (by decide) (q := 115) (by decide) (by decide) ?_
    refine Go.aload X116 hx (hb hby at_115) rfl rfl (q := 117) rfl ?_
    refine Go.iload X116 hx (hb hby at_117) rfl (q := 119) rfl ?_
    refine Go.iload X116 hx (hb hby at_119) rfl (q := 121) rfl ?_
    refine Go.callS X116 hx hZ hown (wd49 hw) (wd50 hw) (wd44 hw) (wd51 hw) (by decide) (ctb_1 l Z a0 hw b113 y_114 ((0 : Int32)) ((0 : Int32)) ((0 : Int32)) (k113) ((1 : Int32)) t h116 OK116 V115 (by decide)) e116 (by rw [hml]; rfl) (hb hby at_121) (argsL := [(.ref b113), (.int 1), (.int t)]) (rest := []) (lenOf pd10 rfl) rfl rfl (W := 0) (Nat.le_refl _) (by decide) ?_
    intro v117 T117 L117 X117 hQ117
    obtain ⟨rfl, N117q, e117⟩ := hQ117
    have N117 := Fr.app N116 N117q
    have J142_118 : ∀ (ex : Int32), kk_116 = ex → Go pp ee below (KK ss (Q_law0 Z le sl da te de h0) room_1.cells room_1.slots) (T117.setTop (mkF mm 142 #[.val (.int le), .val (.int sl), .val (.int da), .val (.int te), .val (.int 1), .val (.int t), .val (.ref b113), .val (.ref li_116), .unset, .unset] [(.int ex)])) := by
      intro ex hkk
      refine Go.istore X117 hx (hb hby at_142) (l' := #[.val (.int le), .val (.int sl), .val (.int da), .val (.int te), .val (.int 1), .val (.int t), .val (.ref b113), .val (.ref li_116), .val (.int ex), .unset]) rfl (q := 144) rfl ?_
      refine Go.aload X117 hx (hb hby at_144) rfl rfl (q := 146) rfl ?_
      refine Go.face X117 hx hZ hown (wd31 hw) (wd32 hw) (wd33 hw) (wd34 hw) (wd35 hw) (wd36 hw) (wd37 hw) (wd38 hw) (wd7 hw) (wd39 hw) (by decide) (csize l Z a0 hw li_116 kk_116 h116 OK116 P116_1) e117 P116_0 (by rw [hml]; rfl) (hb hby at_146) (argsL := []) (rest := []) (lenOf pd11 rfl) rfl rfl (W := 0) (Nat.le_refl _) (by decide) ?_
      intro v119 T119 L119 X119 hQ119
      obtain ⟨rfl, N119q, e119⟩ := hQ119
      have N119 := Fr.app N117 N119q
      refine Go.iload X119 hx (hb hby at_151) rfl (q := 153) rfl ?_
      refine Go.icmpYes X119 hx (hb hby at_153) (Jvm.Free.XT.ii_eq_t hkk) (q := 158) (by decide) (by decide) ?_
      refine Go.aload X119 hx (hb hby at_158) rfl rfl (q := 160) rfl ?_
      refine Go.aload X119 hx (hb hby at_160) rfl rfl (q := 162) rfl ?_
      refine Go.iconst X119 hx (hb hby at_162) (r := (0 : Int32)) rfl (q := 163) rfl ?_
      refine Go.iload X119 hx (hb hby at_163) rfl (q := 165) rfl ?_
      refine Go.callS X119 hx hZ hown (wd42 hw) (wd43 hw) (wd44 hw) (wd45 hw) (by decide) (cok_0 l Z a0 hw li_116 kk_116 ((1 : Int32)) t b113 y_114 ((0 : Int32)) ((0 : Int32)) ((0 : Int32)) (k113) h116 OK116 V115 P116_0 P116_1 (by decide) P116_8) e119 (by rw [hml]; rfl) (hb hby at_165) (argsL := [(.ref li_116), (.ref b113), (.int 0), (.int t)]) (rest := []) (lenOf pd14 rfl) rfl rfl (W := 0) (Nat.le_refl _) (by decide) ?_
      intro v120 T120 L120 X120 hQ120
      obtain ⟨rfl, N120q, e120⟩ := hQ120
      have N120 := Fr.app N119 N120q
      refine Go.ifNo X120 hx (hb hby at_168) (by decide) (q := 171) rfl ?_
      refine Go.aload X120 hx (hb hby at_171) rfl rfl (q := 173) rfl ?_
      refine Go.aload X120 hx (hb hby at_173) rfl rfl (q := 175) rfl ?_
      refine Go.iconst X120 hx (hb hby at_175) (r := (1 : Int32)) rfl (q := 176) rfl ?_
      refine Go.iload X120 hx (hb hby at_176) rfl (q := 178) rfl ?_
      refine Go.callS X120 hx hZ hown (wd42 hw) (wd43 hw) (wd44 hw) (wd45 hw) (by decide) (cokA l Z a0 hw li_116 ((1 : Int32)) t b113 ((1 : Int32)) (k113) ([(.int y_114), (.int 0), (.int 0), (.int 0)]) h116 OK116 V115 (by decide)) e120 (by rw [hml]; rfl) (hb hby at_178) (argsL := [(.ref li_116), (.ref b113), (.int 1), (.int t)]) (rest := []) (lenOf pd14 rfl) rfl rfl (W := 0) (Nat.le_refl _) (by decide) ?_
      intro v121 T121 L121 X121 hQ121
      obtain ⟨rfl, N121q, e121⟩ := hQ121
      have N121 := Fr.app N120 N121q
      refine Go.ifNo X121 hx (hb hby at_181) (by decide) (q := 184) rfl ?_
      refine Go.aload X121 hx (hb hby at_184) rfl rfl (q := 186) rfl ?_
      refine Go.aload X121 hx (hb hby at_186) rfl rfl (q := 188) rfl ?_
      refine Go.iconst X121 hx (hb hby at_188) (r := (2 : Int32)) rfl (q := 189) rfl ?_
      refine Go.iload X121 hx (hb hby at_189) rfl (q := 191) rfl ?_
      refine Go.callS X121 hx hZ hown (wd42 hw) (wd43 hw) (wd44 hw) (wd45 hw) (by decide) (cokA l Z a0 hw li_116 ((2 : Int32)) t b113 ((1 : Int32)) (k113) ([(.int y_114), (.int 0), (.int 0), (.int 0)]) h116 OK116 V115 (by decide)) e121 (by rw [hml]; rfl) (hb hby at_191) (argsL := [(.ref li_116), (.ref b113), (.int 2), (.int t)]) (rest := []) (lenOf pd14 rfl) rfl rfl (W := 0) (Nat.le_refl _) (by decide) ?_
      intro v122 T122 L122 X122 hQ122
      obtain ⟨rfl, N122q, e122⟩ := hQ122
      have N122 := Fr.app N121 N122q
      refine Go.ifNo X122 hx (hb hby at_194) (by decide) (q := 197) rfl ?_
      refine Go.aload X122 hx (hb hby at_197) rfl rfl (q := 199) rfl ?_
      refine Go.aload X122 hx (hb hby at_199) rfl rfl (q := 201) rfl ?_
      refine Go.iconst X122 hx (hb hby at_201) (r := (3 : Int32)) rfl (q := 202) rfl ?_
      refine Go.iload X122 hx (hb hby at_202) rfl (q := 204) rfl ?_
      refine Go.callS X122 hx hZ hown (wd42 hw) (wd43 hw) (wd44 hw) (wd45 hw) (by decide) (cokA l Z a0 hw li_116 ((3 : Int32)) t b113 ((1 : Int32)) (k113) ([(.int y_114), (.int 0), (.int 0), (.int 0)]) h116 OK116 V115 (by decide)) e122 (by rw [hml]; rfl) (hb hby at_204) (argsL := [(.ref li_116), (.ref b113), (.int 3), (.int t)]) (rest := []) (lenOf pd14 rfl) rfl rfl (W := 0) (Nat.le_refl _) (by decide) ?_
      intro v123 T123 L123 X123 hQ123
      obtain ⟨rfl, N123q, e123⟩ := hQ123
      have N123 := Fr.app N122 N123q
      refine Go.ifYes X123 hx (hb hby at_207) (by decide) (q := 212) (by decide) (by decide) ?_
      refine Go.aload X123 hx (hb hby at_212) rfl rfl (q := 214) rfl ?_
      refine Go.iconst X123 hx (hb hby at_214) (r := (0 : Int32)) rfl (q := 215) rfl ?_
      refine Go.callS X123 hx hZ hown (wd46 hw) (wd47 hw) (wd44 hw) (wd48 hw) (by decide) (clenof l Z a0 hw li_116 kk_116 ((0 : Int32)) q0_116 h116 OK116 P116_0 P116_1 P116_4) e123 (by rw [hml]; rfl) (hb hby at_215) (argsL := [(.ref li_116), (.int 0)]) (rest := []) (lenOf pd15 rfl) rfl rfl (W := 0) (Nat.le_refl _) (by decide) ?_
      intro v124 T124 L124 X124 hQ124
      obtain ⟨rfl, N124q, e124⟩ := hQ124
      have N124 := Fr.app N123 N124q
      refine Go.aload X124 hx (hb hby at_218) rfl rfl (q := 220) rfl ?_
      refine Go.iconst X124 hx (hb hby at_220) (r := (1 : Int32)) rfl (q := 221) rfl ?_
      refine Go.callS X124 hx hZ hown (wd46 hw) (wd47 hw) (wd44 hw) (wd48 hw) (by decide) (clenof l Z a0 hw li_116 kk_116 ((1 : Int32)) q1_116 h116 OK116 P116_0 P116_1 P116_5) e124 (by rw [hml]; rfl) (hb hby at_221) (argsL := [(.ref li_116), (.int 1)]) (rest := [(.int q0_116)]) (lenOf pd15 rfl) rfl rfl (W := 1) (Nat.le_refl _) (by decide) ?_
      intro v125 T125 L125 X125 hQ125
      obtain ⟨rfl, N125q, e125⟩ := hQ125
      have N125 := Fr.app N124 N125q
      refine Go.iadd X125 hx (hb hby at_224) rfl (q := 225) rfl ?_
      refine Go.aload X125 hx (hb hby at_225) rfl rfl (q := 227) rfl ?_
      refine Go.iconst X125 hx (hb hby at_227) (r := (2 : Int32)) rfl (q := 228) rfl ?_
      refine Go.callS X125 hx hZ hown (wd46 hw) (wd47 hw) (wd44 hw) (wd48 hw) (by decide) (clenof l Z a0 hw li_116 kk_116 ((2 : Int32)) q2_116 h116 OK116 P116_0 P116_1 P116_6) e125 (by rw [hml]; rfl) (hb hby at_228) (argsL := [(.ref li_116), (.int 2)]) (rest := [(.int (q0_116 + q1_116))]) (lenOf pd15 rfl) rfl rfl (W := 1) (Nat.le_refl _) (by decide) ?_
      intro v126 T126 L126 X126 hQ126
      obtain ⟨rfl, N126q, e126⟩ := hQ126
      have N126 := Fr.app N125 N126q
      refine Go.iadd X126 hx (hb hby at_231) rfl (q := 232) rfl ?_
      refine Go.aload X126 hx (hb hby at_232) rfl rfl (q := 234) rfl ?_
      refine Go.iconst X126 hx (hb hby at_234) (r := (3 : Int32)) rfl (q := 235) rfl ?_
      refine Go.callS X126 hx hZ hown (wd46 hw) (wd47 hw) (wd44 hw) (wd48 hw) (by decide) (clenof l Z a0 hw li_116 kk_116 ((3 : Int32)) q3_116 h116 OK116 P116_0 P116_1 P116_7) e126 (by rw [hml]; rfl) (hb hby at_235) (argsL := [(.ref li_116), (.int 3)]) (rest := [(.int ((q0_116 + q1_116) + q2_116))]) (lenOf pd15 rfl) rfl rfl (W := 1) (Nat.le_refl _) (by decide) ?_
      intro v127 T127 L127 X127 hQ127
      obtain ⟨rfl, N127q, e127⟩ := hQ127
      have N127 := Fr.app N126 N127q
      refine Go.iadd X127 hx (hb hby at_238) rfl (q := 239) rfl ?_
      refine Go.istore X127 hx (hb hby at_239) (l' := #[.val (.int le), .val (.int sl), .val (.int da), .val (.int te), .val (.int 1), .val (.int t), .val (.ref b113), .val (.ref li_116), .val (.int ex), .val (.int (((q0_116 + q1_116) + q2_116) + q3_116))]) rfl (q := 241) rfl ?_
      refine Go.iload X127 hx (hb hby at_241) rfl (q := 243) rfl ?_
      refine Go.iload X127 hx (hb hby at_243) rfl (q := 245) rfl ?_
      refine Go.aload X127 hx (hb hby at_245) rfl rfl (q := 247) rfl ?_
      refine Go.iload X127 hx (hb hby at_247) rfl (q := 249) rfl ?_
      refine Go.iload X127 hx (hb hby at_249) rfl (q := 251) rfl ?_
      refine Go.callS X127 hx hZ hown (wd49 hw) (wd50 hw) (wd44 hw) (wd51 hw) (by decide) (ctb_1 l Z a0 hw b113 y_114 ((0 : Int32)) ((0 : Int32)) ((0 : Int32)) (k113) ((1 : Int32)) t h116 OK116 V115 (by decide)) e127 (by rw [hml]; rfl) (hb hby at_251) (argsL := [(.ref b113), (.int 1), (.int t)]) (rest := [(.int 1), (.int (((q0_116 + q1_116) + q2_116) + q3_116))]) (lenOf pd10 rfl) rfl rfl (W := 2) (Nat.le_refl _) (by decide) ?_
      intro v128 T128 L128 X128 hQ128
      obtain ⟨rfl, N128q, e128⟩ := hQ128
      have N128 := Fr.app N127 N128q
      refine Go.isub X128 hx (hb hby at_254) rfl (q := 255) rfl ?_
      refine Go.icmpNo X128 hx (hb hby at_255) (Jvm.Free.XT.ii_ne_f P116_3) (q := 258) rfl ?_
      refine Go.iconst X128 hx (hb hby at_258) (r := (1 : Int32)) rfl (q := 259) rfl ?_
      refine Go.goto X128 hx (hb hby at_259) (q := 263) (by decide) (by decide) ?_
      exact Go.retI X128 hx hret hlk (by simp) rfl (hb hby at_263) e128 (by decide) (by decide) ⟨rfl, N128⟩
    refine Go.aload X117 hx (hb hby at_124) rfl rfl (q := 126) rfl ?_
    refine Go.iload X117 hx (hb hby at_126) rfl (q := 128) rfl ?_
    refine Go.iconst X117 hx (hb hby at_128) (r := (1 : Int32)) rfl (q := 129) rfl ?_
    refine Go.isub X117 hx (hb hby at_129) (r := (0 : Int32)) rfl (q := 130) rfl ?_
    refine Go.bal X117 hx hZ e117 V115 ⟨by decide, by decide⟩ (v := (.int y_114)) rfl (hb hby at_130) ?_
    refine Go.iload X117 hx (hb hby at_131) rfl (q := 133) rfl ?_
    by_cases hc129 : y_114 = t
    · refine Go.icmpNo X117 hx (hb hby at_133) (Jvm.Free.XT.ii_ne_f hc129) (q := 136) rfl ?_
      refine Go.iconst X117 hx (hb hby at_136) (r := (0 : Int32)) rfl (q := 137) rfl ?_
      refine Go.goto X117 hx (hb hby at_137) (q := 141) (by decide) (by decide) ?_
      refine Go.iadd X117 hx (hb hby at_141) rfl (q := 142) rfl ?_
      exact J142_118 _ (P116_2.1 hc129)
    · refine Go.icmpYes X117 hx (hb hby at_133) (Jvm.Free.XT.ii_ne_t hc129) (q := 140) (by decide) (by decide) ?_
      refine Go.iconst X117 hx (hb hby at_140) (r := (1 : Int32)) rfl (q := 141) rfl ?_
      refine Go.iadd X117 hx (hb hby at_141) rfl (q := 142) rfl ?_
      exact J142_118 _ (P116_2.2 hc129)
  · show Go pp ee below _ (s₁.setTop (mkF mm 6 #[.val (.int le), .val (.int sl), .val (.int da), .val (.int te), .unset, .unset, .unset, .unset, .unset, .unset] [(.int 2)]))
    refine Go.istore X0 hx (hb hby at_6) (l' := #[.val (.int le), .val (.int sl), .val (.int da), .val (.int te), .val (.int 2), .unset, .unset, .unset, .unset, .unset]) rfl (q := 8) rfl ?_
    refine Go.iloadN X0 hx (hb hby at_8) rfl (q := 9) rfl ?_
    refine Go.i2b X0 hx (hb hby at_9) rfl (q := 10) rfl ?_
    have ht : ((te.toInt8.toInt32).toInt8.toInt32) = (te.toInt8.toInt32) := bb te
    generalize (te.toInt8.toInt32) = t at ht ⊢
    show Go pp ee below _ (s₁.setTop (mkF mm 10 #[.val (.int le), .val (.int sl), .val (.int da), .val (.int te), .val (.int 2), .unset, .unset, .unset, .unset, .unset] [(.int t)]))
    refine Go.istore X0 hx (hb hby at_10) (l' := #[.val (.int le), .val (.int sl), .val (.int da), .val (.int te), .val (.int 2), .val (.int t), .unset, .unset, .unset, .unset]) rfl (q := 12) rfl ?_
    refine Go.iload X0 hx (hb hby at_12) rfl (q := 14) rfl ?_
    refine Go.newP X0 hx hZ (hb hby at_14) (wd0 hw) e0 (by decide) (cap := 2) (by decide) (by decide) (by decide) (by decide) (ad := "[B") rfl (q := 16) rfl ?_
    intro b130 T130 h130 k130 X130 e130 q130 E130 V130 B130
    have g_b130 : Z.heap.size ≤ b130 := Nat.le_trans O0.1 (Nat.le_of_eq q130)
    have OE130 := ext_trans O0 E130
    replace V130 : Arv Z h130 b130 k130 .byte (2 : Int32) [(.int 0), (.int 0)] (.int 0) := V130.pad (pad_rep [] (.int 0) 2)
    refine Go.astore X130 hx (hb hby at_16) rfl (l' := #[.val (.int le), .val (.int sl), .val (.int da), .val (.int te), .val (.int 2), .val (.int t), .val (.ref b130), .unset, .unset, .unset]) rfl (q := 18) rfl ?_
    refine Go.iconst X130 hx (hb hby at_18) (r := (0 : Int32)) rfl (q := 19) rfl ?_
    refine Go.iload X130 hx (hb hby at_19) rfl (q := 21) rfl ?_
    refine Go.icmpNo X130 hx (hb hby at_21) (by decide) (q := 24) rfl ?_
    refine Go.aload X130 hx (hb hby at_24) rfl rfl (q := 26) rfl ?_
    refine Go.iconst X130 hx (hb hby at_26) (r := (0 : Int32)) rfl (q := 27) rfl ?_
    refine Go.iloadN X130 hx (hb hby at_27) rfl (q := 28) rfl ?_
    refine Go.iloadN X130 hx (hb hby at_28) rfl (q := 29) rfl ?_
    refine Go.iconst X130 hx (hb hby at_29) (r := (0 : Int32)) rfl (q := 30) rfl ?_
    refine Go.iload X130 hx (hb hby at_30) rfl (q := 32) rfl ?_
    refine Go.callS X130 hx hZ hown (wd52 hw) (wd53 hw) (wd44 hw) (wd54 hw) (by decide) (cpick l Z a0 hw sl da ((0 : Int32)) t h130 OE130 ht) e130 (by rw [hml]; rfl) (hb hby at_32) (argsL := [(.int sl), (.int da), (.int 0), (.int t)]) (rest := [(.int 0), (.ref b130)]) (lenOf pd16 rfl) rfl rfl (W := 2) (Nat.le_refl _) (by decide) ?_
    intro v131 T131 L131 X131 hQ131
    obtain ⟨y_131, rfl, N131q, e131, P131_0⟩ := hQ131
    have N131 := Fr.app N0 N131q
    refine Go.bst X131 hx hZ e131 V130 ⟨by decide, by decide⟩ (i := 0) rfl (Nat.le_of_ble_eq_true rfl) (hb hby at_35) ?_
    intro T132 h132 X132 e132 W132 V132
    rw [P131_0] at V132
    replace V132 : Arv Z h132 b130 k130 .byte (2 : Int32) [(.int y_131), (.int 0)] (.int 0) := V132
    have N132 := Fr.snoc X132 N131 g_b130
    replace B130 := B130.wr W132
    have OW132 := ext_wr OE130 W132 g_b130
    refine Go.iconst X132 hx (hb hby at_36) (r := (1 : Int32)) rfl (q := 37) rfl ?_
    refine Go.iload X132 hx (hb hby at_37) rfl (q := 39) rfl ?_
    refine Go.icmpNo X132 hx (hb hby at_39) (by decide) (q := 42) rfl ?_
    refine Go.aload X132 hx (hb hby at_42) rfl rfl (q := 44) rfl ?_
    refine Go.iconst X132 hx (hb hby at_44) (r := (1 : Int32)) rfl (q := 45) rfl ?_
    refine Go.iloadN X132 hx (hb hby at_45) rfl (q := 46) rfl ?_
    refine Go.iloadN X132 hx (hb hby at_46) rfl (q := 47) rfl ?_
    refine Go.iconst X132 hx (hb hby at_47) (r := (1 : Int32)) rfl (q := 48) rfl ?_
    refine Go.iload X132 hx (hb hby at_48) rfl (q := 50) rfl ?_
    refine Go.callS X132 hx hZ hown (wd52 hw) (wd53 hw) (wd44 hw) (wd54 hw) (by decide) (cpick l Z a0 hw sl da ((1 : Int32)) t h132 OW132 ht) e132 (by rw [hml]; rfl) (hb hby at_50) (argsL := [(.int sl), (.int da), (.int 1), (.int t)]) (rest := [(.int 1), (.ref b130)]) (lenOf pd16 rfl) rfl rfl (W := 2) (Nat.le_refl _) (by decide) ?_
    intro v133 T133 L133 X133 hQ133
    obtain ⟨y_133, rfl, N133q, e133, P133_0⟩ := hQ133
    have N133 := Fr.app N132 N133q
    refine Go.bst X133 hx hZ e133 V132 ⟨by decide, by decide⟩ (i := 1) rfl (Nat.le_of_ble_eq_true rfl) (hb hby at_53) ?_
    intro T134 h134 X134 e134 W134 V134
    rw [P133_0] at V134
    replace V134 : Arv Z h134 b130 k130 .byte (2 : Int32) [(.int y_131), (.int y_133)] (.int 0) := V134
    have N134 := Fr.snoc X134 N133 g_b130
    replace B130 := B130.wr W134
    have OW134 := ext_wr OW132 W134 g_b130
    refine Go.iconst X134 hx (hb hby at_54) (r := (2 : Int32)) rfl (q := 55) rfl ?_
    refine Go.iload X134 hx (hb hby at_55) rfl (q := 57) rfl ?_
    refine Go.icmpYes X134 hx (hb hby at_57) (by decide) (q := 72) (by decide) (by decide) ?_
    refine Go.iconst X134 hx (hb hby at_72) (r := (3 : Int32)) rfl (q := 73) rfl ?_
    refine Go.iload X134 hx (hb hby at_73) rfl (q := 75) rfl ?_
    refine Go.icmpYes X134 hx (hb hby at_75) (by decide) (q := 90) (by decide) (by decide) ?_
    replace V134 : Arv Z h134 b130 k130 .byte (2 : Int32) [(.int y_131), (.int y_133), (.int 0), (.int 0)] (.int 0) := V134.pad (pad_rep [(.int y_131), (.int y_133)] (.int (0 : Int32)) 2)
    refine Go.aload X134 hx (hb hby at_90) rfl rfl (q := 92) rfl ?_
    refine Go.iload X134 hx (hb hby at_92) rfl (q := 94) rfl ?_
    refine Go.callS X134 hx hZ hown (wd1 hw) (wd2 hw) (wd3 hw) (wd4 hw) (by decide) (crec_2 l Z a0 hw b130 y_131 y_133 ((0 : Int32)) ((0 : Int32)) (k130) t de h134 OW134 B130 V134 SD LD) e134 (by rw [hml]; rfl) (hb hby at_94) (argsL := [(.ref b130), (.int t)]) (rest := []) (lenOf pd13 rfl) rfl rfl (W := 0) (Nat.le_refl _) (by decide) ?_
    intro v135 T135 L135 X135 hQ135
    obtain ⟨h135, e135⟩ : ∃ z, T135.heap = z := ⟨_, rfl⟩
    rw [e135] at hQ135
    obtain ⟨li_135, kk_135, q0_135, q1_135, q2_135, q3_135, rfl, N135q, K135, fr135_li, P135_0, P135_1, P135_2, P135_3, P135_4, P135_5, P135_6, P135_7, P135_8, P135_9⟩ := hQ135
    have N135 := Fr.app N134 N135q
    have ne_b130_li_135 : b130 ≠ li_135 := ne_new B130.lt fr135_li
    have g_li_135 : Z.heap.size ≤ li_135 := Nat.le_trans OW134.1 fr135_li
    replace B130 := B130.keep K135
    replace V134 := V134.keep K135 nin0
    have OK135 := ext_keep OW134 K135 all0
    refine Go.astore X135 hx (hb hby at_97) rfl (l' := #[.val (.int le), .val (.int sl), .val (.int da), .val (.int te), .val (.int 2), .val (.int t), .val (.ref b130), .val (.ref li_135), .unset, .unset]) rfl (q := 99) rfl ?_
    refine Go.aload X135 hx (hb hby at_99) rfl rfl (q := 101) rfl ?_
    refine Go.ifnonnullYes X135 hx (hb hby at_101) (q := 106) (by decide) (by decide) ?_
    refine Go.iload X135 hx (hb hby at_106) rfl (q := 108) rfl ?_
    refine Go.ifYes X135 hx (hb hby at_108) (by decide) (q := 115) (by decide) (by decide) ?_
    refine Go.aload X135 hx (hb hby at_115) rfl rfl (q := 117) rfl ?_
    refine Go.iload X135 hx (hb hby at_117) rfl (q := 119) rfl ?_
    refine Go.iload X135 hx (hb hby at_119) rfl (q := 121) rfl ?_
    refine Go.callS X135 hx hZ hown (wd49 hw) (wd50 hw) (wd44 hw) (wd51 hw) (by decide) (ctb_2 l Z a0 hw b130 y_131 y_133 ((0 : Int32)) ((0 : Int32)) (k130) ((2 : Int32)) t h135 OK135 V134 (by decide) (by decide)) e135 (by rw [hml]; rfl) (hb hby at_121) (argsL := [(.ref b130), (.int 2), (.int t)]) (rest := []) (lenOf pd10 rfl) rfl rfl (W := 0) (Nat.le_refl _) (by decide) ?_
    intro v136 T136 L136 X136 hQ136
    obtain ⟨rfl, N136q, e136⟩ := hQ136
    have N136 := Fr.app N135 N136q
    have J142_137 : ∀ (ex : Int32), kk_135 = ex → Go pp ee below (KK ss (Q_law0 Z le sl da te de h0) room_1.cells room_1.slots) (T136.setTop (mkF mm 142 #[.val (.int le), .val (.int sl), .val (.int da), .val (.int te), .val (.int 2), .val (.int t), .val (.ref b130), .val (.ref li_135), .unset, .unset] [(.int ex)])) := by
      intro ex hkk
      refine Go.istore X136 hx (hb hby at_142) (l' := #[.val (.int le), .val (.int sl), .val (.int da), .val (.int te), .val (.int 2), .val (.int t), .val (.ref b130), .val (.ref li_135), .val (.int ex), .unset]) rfl (q := 144) rfl ?_
      refine Go.aload X136 hx (hb hby at_144) rfl rfl (q := 146) rfl ?_
      refine Go.face X136 hx hZ hown (wd31 hw) (wd32 hw) (wd33 hw) (wd34 hw) (wd35 hw) (wd36 hw) (wd37 hw) (wd38 hw) (wd7 hw) (wd39 hw) (by decide) (csize l Z a0 hw li_135 kk_135 h135 OK135 P135_1) e136 P135_0 (by rw [hml]; rfl) (hb hby at_146) (argsL := []) (rest := []) (lenOf pd11 rfl) rfl rfl (W := 0) (Nat.le_refl _) (by decide) ?_
      intro v138 T138 L138 X138 hQ138
      obtain ⟨rfl, N138q, e138⟩ := hQ138
      have N138 := Fr.app N136 N138q
      refine Go.iload X138 hx (hb hby at_151) rfl (q := 153) rfl ?_
      refine Go.icmpYes X138 hx (hb hby at_153) (Jvm.Free.XT.ii_eq_t hkk) (q := 158) (by decide) (by decide) ?_
      refine Go.aload X138 hx (hb hby at_158) rfl rfl (q := 160) rfl ?_
      refine Go.aload X138 hx (hb hby at_160) rfl rfl (q := 162) rfl ?_
      refine Go.iconst X138 hx (hb hby at_162) (r := (0 : Int32)) rfl (q := 163) rfl ?_
      refine Go.iload X138 hx (hb hby at_163) rfl (q := 165) rfl ?_
      refine Go.callS X138 hx hZ hown (wd42 hw) (wd43 hw) (wd44 hw) (wd45 hw) (by decide) (cok_0 l Z a0 hw li_135 kk_135 ((2 : Int32)) t b130 y_131 y_133 ((0 : Int32)) ((0 : Int32)) (k130) h135 OK135 V134 P135_0 P135_1 (by decide) P135_8) e138 (by rw [hml]; rfl) (hb hby at_165) (argsL := [(.ref li_135), (.ref b130), (.int 0), (.int t)]) (rest := []) (lenOf pd14 rfl) rfl rfl (W := 0) (Nat.le_refl _) (by decide) ?_
      intro v139 T139 L139 X139 hQ139
      obtain ⟨rfl, N139q, e139⟩ := hQ139
      have N139 := Fr.app N138 N139q
      refine Go.ifNo X139 hx (hb hby at_168) (by decide) (q := 171) rfl ?_
      refine Go.aload X139 hx (hb hby at_171) rfl rfl (q := 173) rfl ?_
      refine Go.aload X139 hx (hb hby at_173) rfl rfl (q := 175) rfl ?_
      refine Go.iconst X139 hx (hb hby at_175) (r := (1 : Int32)) rfl (q := 176) rfl ?_
      refine Go.iload X139 hx (hb hby at_176) rfl (q := 178) rfl ?_
      refine Go.callS X139 hx hZ hown (wd42 hw) (wd43 hw) (wd44 hw) (wd45 hw) (by decide) (cok_1 l Z a0 hw li_135 kk_135 ((2 : Int32)) t b130 y_131 y_133 ((0 : Int32)) ((0 : Int32)) (k130) h135 OK135 V134 P135_0 P135_1 (by decide) (by decide) P135_9) e139 (by rw [hml]; rfl) (hb hby at_178) (argsL := [(.ref li_135), (.ref b130), (.int 1), (.int t)]) (rest := []) (lenOf pd14 rfl) rfl rfl (W := 0) (Nat.le_refl _) (by decide) ?_
      intro v140 T140 L140 X140 hQ140
      obtain ⟨rfl, N140q, e140⟩ := hQ140
      have N140 := Fr.app N139 N140q
      refine Go.ifNo X140 hx (hb hby at_181) (by decide) (q := 184) rfl ?_
      refine Go.aload X140 hx (hb hby at_184) rfl rfl (q := 186) rfl ?_
      refine Go.aload X140 hx (hb hby at_186) rfl rfl (q := 188) rfl ?_
      refine Go.iconst X140 hx (hb hby at_188) (r := (2 : Int32)) rfl (q := 189) rfl ?_
      refine Go.iload X140 hx (hb hby at_189) rfl (q := 191) rfl ?_
      refine Go.callS X140 hx hZ hown (wd42 hw) (wd43 hw) (wd44 hw) (wd45 hw) (by decide) (cokA l Z a0 hw li_135 ((2 : Int32)) t b130 ((2 : Int32)) (k130) ([(.int y_131), (.int y_133), (.int 0), (.int 0)]) h135 OK135 V134 (by decide)) e140 (by rw [hml]; rfl) (hb hby at_191) (argsL := [(.ref li_135), (.ref b130), (.int 2), (.int t)]) (rest := []) (lenOf pd14 rfl) rfl rfl (W := 0) (Nat.le_refl _) (by decide) ?_
      intro v141 T141 L141 X141 hQ141
      obtain ⟨rfl, N141q, e141⟩ := hQ141
      have N141 := Fr.app N140 N141q
      refine Go.ifNo X141 hx (hb hby at_194) (by decide) (q := 197) rfl ?_
      refine Go.aload X141 hx (hb hby at_197) rfl rfl (q := 199) rfl ?_
      refine Go.aload X141 hx (hb hby at_199) rfl rfl (q := 201) rfl ?_
      refine Go.iconst X141 hx (hb hby at_201) (r := (3 : Int32)) rfl (q := 202) rfl ?_
      refine Go.iload X141 hx (hb hby at_202) rfl (q := 204) rfl ?_
      refine Go.callS X141 hx hZ hown (wd42 hw) (wd43 hw) (wd44 hw) (wd45 hw) (by decide) (cokA l Z a0 hw li_135 ((3 : Int32)) t b130 ((2 : Int32)) (k130) ([(.int y_131), (.int y_133), (.int 0), (.int 0)]) h135 OK135 V134 (by decide)) e141 (by rw [hml]; rfl) (hb hby at_204) (argsL := [(.ref li_135), (.ref b130), (.int 3), (.int t)]) (rest := []) (lenOf pd14 rfl) rfl rfl (W := 0) (Nat.le_refl _) (by decide) ?_
      intro v142 T142 L142 X142 hQ142
      obtain ⟨rfl, N142q, e142⟩ := hQ142
      have N142 := Fr.app N141 N142q
      refine Go.ifYes X142 hx (hb hby at_207) (by decide) (q := 212) (by decide) (by decide) ?_
      refine Go.aload X142 hx (hb hby at_212) rfl rfl (q := 214) rfl ?_
      refine Go.iconst X142 hx (hb hby at_214) (r := (0 : Int32)) rfl (q := 215) rfl ?_
      refine Go.callS X142 hx hZ hown (wd46 hw) (wd47 hw) (wd44 hw) (wd48 hw) (by decide) (clenof l Z a0 hw li_135 kk_135 ((0 : Int32)) q0_135 h135 OK135 P135_0 P135_1 P135_4) e142 (by rw [hml]; rfl) (hb hby at_215) (argsL := [(.ref li_135), (.int 0)]) (rest := []) (lenOf pd15 rfl) rfl rfl (W := 0) (Nat.le_refl _) (by decide) ?_
      intro v143 T143 L143 X143 hQ143
      obtain ⟨rfl, N143q, e143⟩ := hQ143
      have N143 := Fr.app N142 N143q
      refine Go.aload X143 hx (hb hby at_218) rfl rfl (q := 220) rfl ?_
      refine Go.iconst X143 hx (hb hby at_220) (r := (1 : Int32)) rfl (q := 221) rfl ?_
      refine Go.callS X143 hx hZ hown (wd46 hw) (wd47 hw) (wd44 hw) (wd48 hw) (by decide) (clenof l Z a0 hw li_135 kk_135 ((1 : Int32)) q1_135 h135 OK135 P135_0 P135_1 P135_5) e143 (by rw [hml]; rfl) (hb hby at_221) (argsL := [(.ref li_135), (.int 1)]) (rest := [(.int q0_135)]) (lenOf pd15 rfl) rfl rfl (W := 1) (Nat.le_refl _) (by decide) ?_
      intro v144 T144 L144 X144 hQ144
      obtain ⟨rfl, N144q, e144⟩ := hQ144
      have N144 := Fr.app N143 N144q
      refine Go.iadd X144 hx (hb hby at_224) rfl (q := 225) rfl ?_
      refine Go.aload X144 hx (hb hby at_225) rfl rfl (q := 227) rfl ?_
      refine Go.iconst X144 hx (hb hby at_227) (r := (2 : Int32)) rfl (q := 228) rfl ?_
      refine Go.callS X144 hx hZ hown (wd46 hw) (wd47 hw) (wd44 hw) (wd48 hw) (by decide) (clenof l Z a0 hw li_135 kk_135 ((2 : Int32)) q2_135 h135 OK135 P135_0 P135_1 P135_6) e144 (by rw [hml]; rfl) (hb hby at_228) (argsL := [(.ref li_135), (.int 2)]) (rest := [(.int (q0_135 + q1_135))]) (lenOf pd15 rfl) rfl rfl (W := 1) (Nat.le_refl _) (by decide) ?_
      intro v145 T145 L145 X145 hQ145
      obtain ⟨rfl, N145q, e145⟩ := hQ145
      have N145 := Fr.app N144 N145q
      refine Go.iadd X145 hx (hb hby at_231) rfl (q := 232) rfl ?_
      refine Go.aload X145 hx (hb hby at_232) rfl rfl (q := 234) rfl ?_
      refine Go.iconst X145 hx (hb hby at_234) (r := (3 : Int32)) rfl (q := 235) rfl ?_
      refine Go.callS X145 hx hZ hown (wd46 hw) (wd47 hw) (wd44 hw) (wd48 hw) (by decide) (clenof l Z a0 hw li_135 kk_135 ((3 : Int32)) q3_135 h135 OK135 P135_0 P135_1 P135_7) e145 (by rw [hml]; rfl) (hb hby at_235) (argsL := [(.ref li_135), (.int 3)]) (rest := [(.int ((q0_135 + q1_135) + q2_135))]) (lenOf pd15 rfl) rfl rfl (W := 1) (Nat.le_refl _) (by decide) ?_
      intro v146 T146 L146 X146 hQ146
      obtain ⟨rfl, N146q, e146⟩ := hQ146
      have N146 := Fr.app N145 N146q
      refine Go.iadd X146 hx (hb hby at_238) rfl (q := 239) rfl ?_
      refine Go.istore X146 hx (hb hby at_239) (l' := #[.val (.int le), .val (.int sl), .val (.int da), .val (.int te), .val (.int 2), .val (.int t), .val (.ref b130), .val (.ref li_135), .val (.int ex), .val (.int (((q0_135 + q1_135) + q2_135) + q3_135))]) rfl (q := 241) rfl ?_
      refine Go.iload X146 hx (hb hby at_241) rfl (q := 243) rfl ?_
      refine Go.iload X146 hx (hb hby at_243) rfl (q := 245) rfl ?_
      refine Go.aload X146 hx (hb hby at_245) rfl rfl (q := 247) rfl ?_
      refine Go.iload X146 hx (hb hby at_247) rfl (q := 249) rfl ?_
      refine Go.iload X146 hx (hb hby at_249) rfl (q := 251) rfl ?_
      refine Go.callS X146 hx hZ hown (wd49 hw) (wd50 hw) (wd44 hw) (wd51 hw) (by decide) (ctb_2 l Z a0 hw b130 y_131 y_133 ((0 : Int32)) ((0 : Int32)) (k130) ((2 : Int32)) t h135 OK135 V134 (by decide) (by decide)) e146 (by rw [hml]; rfl) (hb hby at_251) (argsL := [(.ref b130), (.int 2), (.int t)]) (rest := [(.int 2), (.int (((q0_135 + q1_135) + q2_135) + q3_135))]) (lenOf pd10 rfl) rfl rfl (W := 2) (Nat.le_refl _) (by decide) ?_
      intro v147 T147 L147 X147 hQ147
      obtain ⟨rfl, N147q, e147⟩ := hQ147
      have N147 := Fr.app N146 N147q
      refine Go.isub X147 hx (hb hby at_254) rfl (q := 255) rfl ?_
      refine Go.icmpNo X147 hx (hb hby at_255) (Jvm.Free.XT.ii_ne_f P135_3) (q := 258) rfl ?_
      refine Go.iconst X147 hx (hb hby at_258) (r := (1 : Int32)) rfl (q := 259) rfl ?_
      refine Go.goto X147 hx (hb hby at_259) (q := 263) (by decide) (by decide) ?_
      exact Go.retI X147 hx hret hlk (by simp) rfl (hb hby at_263) e147 (by decide) (by decide) ⟨rfl, N147⟩
    refine Go.aload X136 hx (hb hby at_124) rfl rfl (q := 126) rfl ?_
    refine Go.iload X136 hx (hb hby at_126) rfl (q := 128) rfl ?_
    refine Go.iconst X136 hx (hb hby at_128) (r := (1 : Int32)) rfl (q := 129) rfl ?_
    refine Go.isub X136 hx (hb hby at_129) (r := (1 : Int32)) rfl (q := 130) rfl ?_
    refine Go.bal X136 hx hZ e136 V134 ⟨by decide, by decide⟩ (v := (.int y_133)) rfl (hb hby at_130) ?_
    refine Go.iload X136 hx (hb hby at_131) rfl (q := 133) rfl ?_
    by_cases hc148 : y_133 = t
    · refine Go.icmpNo X136 hx (hb hby at_133) (Jvm.Free.XT.ii_ne_f hc148) (q := 136) rfl ?_
      refine Go.iconst X136 hx (hb hby at_136) (r := (0 : Int32)) rfl (q := 137) rfl ?_
      refine Go.goto X136 hx (hb hby at_137) (q := 141) (by decide) (by decide) ?_
      refine Go.iadd X136 hx (hb hby at_141) rfl (q := 142) rfl ?_
      exact J142_137 _ (P135_2.1 hc148)
    · refine Go.icmpYes X136 hx (hb hby at_133) (Jvm.Free.XT.ii_ne_t hc148) (q := 140) (by decide) (by decide) ?_
      refine Go.iconst X136 hx (hb hby at_140) (r := (1 : Int32)) rfl (q := 141) rfl ?_
      refine Go.iadd X136 hx (hb hby at_141) rfl (q := 142) rfl ?_
      exact J142_137 _ (P135_2.2 hc148)
  · show Go pp ee below _ (s₁.setTop (mkF mm 6 #[.val (.int le), .val (.int sl), .val (.int da), .val (.int te), .unset, .unset, .unset, .unset, .unset, .unset] [(.int 3)]))
    refine Go.istore X0 hx (hb hby at_6) (l' := #[.val (.int le), .val (.int sl), .val (.int da), .val (.int te), .val (.int 3), .unset, .unset, .unset, .unset, .unset]) rfl (q := 8) rfl ?_
    refine Go.iloadN X0 hx (hb hby at_8) rfl (q := 9) rfl ?_
    refine Go.i2b X0 hx (hb hby at_9) rfl (q := 10) rfl ?_
    have ht : ((te.toInt8.toInt32).toInt8.toInt32) = (te.toInt8.toInt32) := bb te
    generalize (te.toInt8.toInt32) = t at ht ⊢
    show Go pp ee below _ (s₁.setTop (mkF mm 10 #[.val (.int le), .val (.int sl), .val (.int da), .val (.int te), .val (.int 3), .unset, .unset, .unset, .unset, .unset] [(.int t)]))
    refine Go.istore X0 hx (hb hby at_10) (l' := #[.val (.int le), .val (.int sl), .val (.int da), .val (.int te), .val (.int 3), .val (.int t), .unset, .unset, .unset, .unset]) rfl (q := 12) rfl ?_
    refine Go.iload X0 hx (hb hby at_12) rfl (q := 14) rfl ?_
    refine Go.newP X0 hx hZ (hb hby at_14) (wd0 hw) e0 (by decide) (cap := 3) (by decide) (by decide) (by decide) (by decide) (ad := "[B") rfl (q := 16) rfl ?_
    intro b149 T149 h149 k149 X149 e149 q149 E149 V149 B149
    have g_b149 : Z.heap.size ≤ b149 := Nat.le_trans O0.1 (Nat.le_of_eq q149)
    have OE149 := ext_trans O0 E149
    replace V149 : Arv Z h149 b149 k149 .byte (3 : Int32) [(.int 0), (.int 0), (.int 0)] (.int 0) := V149.pad (pad_rep [] (.int 0) 3)
    refine Go.astore X149 hx (hb hby at_16) rfl (l' := #[.val (.int le), .val (.int sl), .val (.int da), .val (.int te), .val (.int 3), .val (.int t), .val (.ref b149), .unset, .unset, .unset]) rfl (q := 18) rfl ?_
    refine Go.iconst X149 hx (hb hby at_18) (r := (0 : Int32)) rfl (q := 19) rfl ?_
    refine Go.iload X149 hx (hb hby at_19) rfl (q := 21) rfl ?_
    refine Go.icmpNo X149 hx (hb hby at_21) (by decide) (q := 24) rfl ?_
    refine Go.aload X149 hx (hb hby at_24) rfl rfl (q := 26) rfl ?_
    refine Go.iconst X149 hx (hb hby at_26) (r := (0 : Int32)) rfl (q := 27) rfl ?_
    refine Go.iloadN X149 hx (hb hby at_27) rfl (q := 28) rfl ?_
    refine Go.iloadN X149 hx (hb hby at_28) rfl (q := 29) rfl ?_
    refine Go.iconst X149 hx (hb hby at_29) (r := (0 : Int32)) rfl (q := 30) rfl ?_
    refine Go.iload X149 hx (hb hby at_30) rfl (q := 32) rfl ?_
    refine Go.callS X149 hx hZ hown (wd52 hw) (wd53 hw) (wd44 hw) (wd54 hw) (by decide) (cpick l Z a0 hw sl da ((0 : Int32)) t h149 OE149 ht) e149 (by rw [hml]; rfl) (hb hby at_32) (argsL := [(.int sl), (.int da), (.int 0), (.int t)]) (rest := [(.int 0), (.ref b149)]) (lenOf pd16 rfl) rfl rfl (W := 2) (Nat.le_refl _) (by decide) ?_
    intro v150 T150 L150 X150 hQ150
    obtain ⟨y_150, rfl, N150q, e150, P150_0⟩ := hQ150
    have N150 := Fr.app N0 N150q
    refine Go.bst X150 hx hZ e150 V149 ⟨by decide, by decide⟩ (i := 0) rfl (Nat.le_of_ble_eq_true rfl) (hb hby at_35) ?_
    intro T151 h151 X151 e151 W151 V151
    rw [P150_0] at V151
    replace V151 : Arv Z h151 b149 k149 .byte (3 : Int32) [(.int y_150), (.int 0), (.int 0)] (.int 0) := V151
    have N151 := Fr.snoc X151 N150 g_b149
    replace B149 := B149.wr W151
    have OW151 := ext_wr OE149 W151 g_b149
    refine Go.iconst X151 hx (hb hby at_36) (r := (1 : Int32)) rfl (q := 37) rfl ?_
    refine Go.iload X151 hx (hb hby at_37) rfl (q := 39) rfl ?_
    refine Go.icmpNo X151 hx (hb hby at_39) (by decide) (q := 42) rfl ?_
    refine Go.aload X151 hx (hb hby at_42) rfl rfl (q := 44) rfl ?_
    refine Go.iconst X151 hx (hb hby at_44) (r := (1 : Int32)) rfl (q := 45) rfl ?_
    refine Go.iloadN X151 hx (hb hby at_45) rfl (q := 46) rfl ?_
    refine Go.iloadN X151 hx (hb hby at_46) rfl (q := 47) rfl ?_
    refine Go.iconst X151 hx (hb hby at_47) (r := (1 : Int32)) rfl (q := 48) rfl ?_
    refine Go.iload X151 hx (hb hby at_48) rfl (q := 50) rfl ?_
    refine Go.callS X151 hx hZ hown (wd52 hw) (wd53 hw) (wd44 hw) (wd54 hw) (by decide) (cpick l Z a0 hw sl da ((1 : Int32)) t h151 OW151 ht) e151 (by rw [hml]; rfl) (hb hby at_50) (argsL := [(.int sl), (.int da), (.int 1), (.int t)]) (rest := [(.int 1), (.ref b149)]) (lenOf pd16 rfl) rfl rfl (W := 2) (Nat.le_refl _) (by decide) ?_
    intro v152 T152 L152 X152 hQ152
    obtain ⟨y_152, rfl, N152q, e152, P152_0⟩ := hQ152
    have N152 := Fr.app N151 N152q
    refine Go.bst X152 hx hZ e152 V151 ⟨by decide, by decide⟩ (i := 1) rfl (Nat.le_of_ble_eq_true rfl) (hb hby at_53) ?_
    intro T153 h153 X153 e153 W153 V153
    rw [P152_0] at V153
    replace V153 : Arv Z h153 b149 k149 .byte (3 : Int32) [(.int y_150), (.int y_152), (.int 0)] (.int 0) := V153
    have N153 := Fr.snoc X153 N152 g_b149
    replace B149 := B149.wr W153
    have OW153 := ext_wr OW151 W153 g_b149
    refine Go.iconst X153 hx (hb hby at_54) (r := (2 : Int32)) rfl (q := 55) rfl ?_
    refine Go.iload X153 hx (hb hby at_55) rfl (q := 57) rfl ?_
    refine Go.icmpNo X153 hx (hb hby at_57) (by decide) (q := 60) rfl ?_
    refine Go.aload X153 hx (hb hby at_60) rfl rfl (q := 62) rfl ?_
    refine Go.iconst X153 hx (hb hby at_62) (r := (2 : Int32)) rfl (q := 63) rfl ?_
    refine Go.iloadN X153 hx (hb hby at_63) rfl (q := 64) rfl ?_
    refine Go.iloadN X153 hx (hb hby at_64) rfl (q := 65) rfl ?_
    refine Go.iconst X153 hx (hb hby at_65) (r := (2 : Int32)) rfl (q := 66) rfl ?_
    refine Go.iload X153 hx (hb hby at_66) rfl (q := 68) rfl ?_
    refine Go.callS X153 hx hZ hown (wd52 hw) (wd53 hw) (wd44 hw) (wd54 hw) (by decide) (cpick l Z a0 hw sl da ((2 : Int32)) t h153 OW153 ht) e153 (by rw [hml]; rfl) (hb hby at_68) (argsL := [(.int sl), (.int da), (.int 2), (.int t)]) (rest := [(.int 2), (.ref b149)]) (lenOf pd16 rfl) rfl rfl (W := 2) (Nat.le_refl _) (by decide) ?_
    intro v154 T154 L154 X154 hQ154
    obtain ⟨y_154, rfl, N154q, e154, P154_0⟩ := hQ154
    have N154 := Fr.app N153 N154q
    refine Go.bst X154 hx hZ e154 V153 ⟨by decide, by decide⟩ (i := 2) rfl (Nat.le_of_ble_eq_true rfl) (hb hby at_71) ?_
    intro T155 h155 X155 e155 W155 V155
    rw [P154_0] at V155
    replace V155 : Arv Z h155 b149 k149 .byte (3 : Int32) [(.int y_150), (.int y_152), (.int y_154)] (.int 0) := V155
    have N155 := Fr.snoc X155 N154 g_b149
    replace B149 := B149.wr W155
    have OW155 := ext_wr OW153 W155 g_b149
    refine Go.iconst X155 hx (hb hby at_72) (r := (3 : Int32)) rfl (q := 73) rfl ?_
    refine Go.iload X155 hx (hb hby at_73) rfl (q := 75) rfl ?_
    refine Go.icmpYes X155 hx (hb hby at_75) (by decide) (q := 90) (by decide) (by decide) ?_
    replace V155 : Arv Z h155 b149 k149 .byte (3 : Int32) [(.int y_150), (.int y_152), (.int y_154), (.int 0)] (.int 0) := V155.pad (pad_rep [(.int y_150), (.int y_152), (.int y_154)] (.int (0 : Int32)) 1)
    refine Go.aload X155 hx (hb hby at_90) rfl rfl (q := 92) rfl ?_
    refine Go.iload X155 hx (hb hby at_92) rfl (q := 94) rfl ?_
    refine Go.callS X155 hx hZ hown (wd1 hw) (wd2 hw) (wd3 hw) (wd4 hw) (by decide) (crec_3 l Z a0 hw b149 y_150 y_152 y_154 ((0 : Int32)) (k149) t de h155 OW155 B149 V155 SD LD) e155 (by rw [hml]; rfl) (hb hby at_94) (argsL := [(.ref b149), (.int t)]) (rest := []) (lenOf pd13 rfl) rfl rfl (W := 0) (Nat.le_refl _) (by decide) ?_
    intro v156 T156 L156 X156 hQ156
    obtain ⟨h156, e156⟩ : ∃ z, T156.heap = z := ⟨_, rfl⟩
    rw [e156] at hQ156
    obtain ⟨li_156, kk_156, q0_156, q1_156, q2_156, q3_156, rfl, N156q, K156, fr156_li, P156_0, P156_1, P156_2, P156_3, P156_4, P156_5, P156_6, P156_7, P156_8, P156_9, P156_10⟩ := hQ156
    have N156 := Fr.app N155 N156q
    have ne_b149_li_156 : b149 ≠ li_156 := ne_new B149.lt fr156_li
    have g_li_156 : Z.heap.size ≤ li_156 := Nat.le_trans OW155.1 fr156_li
    replace B149 := B149.keep K156
    replace V155 := V155.keep K156 nin0
    have OK156 := ext_keep OW155 K156 all0
    refine Go.astore X156 hx (hb hby at_97) rfl (l' := #[.val (.int le), .val (.int sl), .val (.int da), .val (.int te), .val (.int 3), .val (.int t), .val (.ref b149), .val (.ref li_156), .unset, .unset]) rfl (q := 99) rfl ?_
    refine Go.aload X156 hx (hb hby at_99) rfl rfl (q := 101) rfl ?_
    refine Go.ifnonnullYes X156 hx (hb hby at_101) (q := 106) (by decide) (by decide) ?_
    refine Go.iload X156 hx (hb hby at_106) rfl (q := 108) rfl ?_
    refine Go.ifYes X156 hx (hb hby at_108) (by decide) (q := 115) (by decide) (by decide) ?_
    refine Go.aload X156 hx (hb hby at_115) rfl rfl (q := 117) rfl ?_
    refine Go.iload X156 hx (hb hby at_117) rfl (q := 119) rfl ?_
    refine Go.iload X156 hx (hb hby at_119) rfl (q := 121) rfl ?_
    refine Go.callS X156 hx hZ hown (wd49 hw) (wd50 hw) (wd44 hw) (wd51 hw) (by decide) (ctb_3 l Z a0 hw b149 y_150 y_152 y_154 ((0 : Int32)) (k149) ((3 : Int32)) t h156 OK156 V155 (by decide) (by decide) (by decide)) e156 (by rw [hml]; rfl) (hb hby at_121) (argsL := [(.ref b149), (.int 3), (.int t)]) (rest := []) (lenOf pd10 rfl) rfl rfl (W := 0) (Nat.le_refl _) (by decide) ?_
    intro v157 T157 L157 X157 hQ157
    obtain ⟨rfl, N157q, e157⟩ := hQ157
    have N157 := Fr.app N156 N157q
    have J142_158 : ∀ (ex : Int32), kk_156 = ex → Go pp ee below (KK ss (Q_law0 Z le sl da te de h0) room_1.cells room_1.slots) (T157.setTop (mkF mm 142 #[.val (.int le), .val (.int sl), .val (.int da), .val (.int te), .val (.int 3), .val (.int t), .val (.ref b149), .val (.ref li_156), .unset, .unset] [(.int ex)])) := by
      intro ex hkk
      refine Go.istore X157 hx (hb hby at_142) (l' := #[.val (.int le), .val (.int sl), .val (.int da), .val (.int te), .val (.int 3), .val (.int t), .val (.ref b149), .val (.ref li_156), .val (.int ex), .unset]) rfl (q := 144) rfl ?_
      refine Go.aload X157 hx (hb hby at_144) rfl rfl (q := 146) rfl ?_
      refine Go.face X157 hx hZ hown (wd31 hw) (wd32 hw) (wd33 hw) (wd34 hw) (wd35 hw) (wd36 hw) (wd37 hw) (wd38 hw) (wd7 hw) (wd39 hw) (by decide) (csize l Z a0 hw li_156 kk_156 h156 OK156 P156_1) e157 P156_0 (by rw [hml]; rfl) (hb hby at_146) (argsL := []) (rest := []) (lenOf pd11 rfl) rfl rfl (W := 0) (Nat.le_refl _) (by decide) ?_
      intro v159 T159 L159 X159 hQ159
      obtain ⟨rfl, N159q, e159⟩ := hQ159
      have N159 := Fr.app N157 N159q
      refine Go.iload X159 hx (hb hby at_151) rfl (q := 153) rfl ?_
      refine Go.icmpYes X159 hx (hb hby at_153) (Jvm.Free.XT.ii_eq_t hkk) (q := 158) (by decide) (by decide) ?_
      refine Go.aload X159 hx (hb hby at_158) rfl rfl (q := 160) rfl ?_
      refine Go.aload X159 hx (hb hby at_160) rfl rfl (q := 162) rfl ?_
      refine Go.iconst X159 hx (hb hby at_162) (r := (0 : Int32)) rfl (q := 163) rfl ?_
      refine Go.iload X159 hx (hb hby at_163) rfl (q := 165) rfl ?_
      refine Go.callS X159 hx hZ hown (wd42 hw) (wd43 hw) (wd44 hw) (wd45 hw) (by decide) (cok_0 l Z a0 hw li_156 kk_156 ((3 : Int32)) t b149 y_150 y_152 y_154 ((0 : Int32)) (k149) h156 OK156 V155 P156_0 P156_1 (by decide) P156_8) e159 (by rw [hml]; rfl) (hb hby at_165) (argsL := [(.ref li_156), (.ref b149), (.int 0), (.int t)]) (rest := []) (lenOf pd14 rfl) rfl rfl (W := 0) (Nat.le_refl _) (by decide) ?_
      intro v160 T160 L160 X160 hQ160
      obtain ⟨rfl, N160q, e160⟩ := hQ160
      have N160 := Fr.app N159 N160q
      refine Go.ifNo X160 hx (hb hby at_168) (by decide) (q := 171) rfl ?_
      refine Go.aload X160 hx (hb hby at_171) rfl rfl (q := 173) rfl ?_
      refine Go.aload X160 hx (hb hby at_173) rfl rfl (q := 175) rfl ?_
      refine Go.iconst X160 hx (hb hby at_175) (r := (1 : Int32)) rfl (q := 176) rfl ?_
      refine Go.iload X160 hx (hb hby at_176) rfl (q := 178) rfl ?_
      refine Go.callS X160 hx hZ hown (wd42 hw) (wd43 hw) (wd44 hw) (wd45 hw) (by decide) (cok_1 l Z a0 hw li_156 kk_156 ((3 : Int32)) t b149 y_150 y_152 y_154 ((0 : Int32)) (k149) h156 OK156 V155 P156_0 P156_1 (by decide) (by decide) P156_9) e160 (by rw [hml]; rfl) (hb hby at_178) (argsL := [(.ref li_156), (.ref b149), (.int 1), (.int t)]) (rest := []) (lenOf pd14 rfl) rfl rfl (W := 0) (Nat.le_refl _) (by decide) ?_
      intro v161 T161 L161 X161 hQ161
      obtain ⟨rfl, N161q, e161⟩ := hQ161
      have N161 := Fr.app N160 N161q
      refine Go.ifNo X161 hx (hb hby at_181) (by decide) (q := 184) rfl ?_
      refine Go.aload X161 hx (hb hby at_184) rfl rfl (q := 186) rfl ?_
      refine Go.aload X161 hx (hb hby at_186) rfl rfl (q := 188) rfl ?_
      refine Go.iconst X161 hx (hb hby at_188) (r := (2 : Int32)) rfl (q := 189) rfl ?_
      refine Go.iload X161 hx (hb hby at_189) rfl (q := 191) rfl ?_
      refine Go.callS X161 hx hZ hown (wd42 hw) (wd43 hw) (wd44 hw) (wd45 hw) (by decide) (cok_2 l Z a0 hw li_156 kk_156 ((3 : Int32)) t b149 y_150 y_152 y_154 ((0 : Int32)) (k149) h156 OK156 V155 P156_0 P156_1 (by decide) (by decide) (by decide) P156_10) e161 (by rw [hml]; rfl) (hb hby at_191) (argsL := [(.ref li_156), (.ref b149), (.int 2), (.int t)]) (rest := []) (lenOf pd14 rfl) rfl rfl (W := 0) (Nat.le_refl _) (by decide) ?_
      intro v162 T162 L162 X162 hQ162
      obtain ⟨rfl, N162q, e162⟩ := hQ162
      have N162 := Fr.app N161 N162q
      refine Go.ifNo X162 hx (hb hby at_194) (by decide) (q := 197) rfl ?_
      refine Go.aload X162 hx (hb hby at_197) rfl rfl (q := 199) rfl ?_
      refine Go.aload X162 hx (hb hby at_199) rfl rfl (q := 201) rfl ?_
      refine Go.iconst X162 hx (hb hby at_201) (r := (3 : Int32)) rfl (q := 202) rfl ?_
      refine Go.iload X162 hx (hb hby at_202) rfl (q := 204) rfl ?_
      refine Go.callS X162 hx hZ hown (wd42 hw) (wd43 hw) (wd44 hw) (wd45 hw) (by decide) (cokA l Z a0 hw li_156 ((3 : Int32)) t b149 ((3 : Int32)) (k149) ([(.int y_150), (.int y_152), (.int y_154), (.int 0)]) h156 OK156 V155 (by decide)) e162 (by rw [hml]; rfl) (hb hby at_204) (argsL := [(.ref li_156), (.ref b149), (.int 3), (.int t)]) (rest := []) (lenOf pd14 rfl) rfl rfl (W := 0) (Nat.le_refl _) (by decide) ?_
      intro v163 T163 L163 X163 hQ163
      obtain ⟨rfl, N163q, e163⟩ := hQ163
      have N163 := Fr.app N162 N163q
      refine Go.ifYes X163 hx (hb hby at_207) (by decide) (q := 212) (by decide) (by decide) ?_
      refine Go.aload X163 hx (hb hby at_212) rfl rfl (q := 214) rfl ?_
      refine Go.iconst X163 hx (hb hby at_214) (r := (0 : Int32)) rfl (q := 215) rfl ?_
      refine Go.callS X163 hx hZ hown (wd46 hw) (wd47 hw) (wd44 hw) (wd48 hw) (by decide) (clenof l Z a0 hw li_156 kk_156 ((0 : Int32)) q0_156 h156 OK156 P156_0 P156_1 P156_4) e163 (by rw [hml]; rfl) (hb hby at_215) (argsL := [(.ref li_156), (.int 0)]) (rest := []) (lenOf pd15 rfl) rfl rfl (W := 0) (Nat.le_refl _) (by decide) ?_
      intro v164 T164 L164 X164 hQ164
      obtain ⟨rfl, N164q, e164⟩ := hQ164
      have N164 := Fr.app N163 N164q
      refine Go.aload X164 hx (hb hby at_218) rfl rfl (q := 220) rfl ?_
      refine Go.iconst X164 hx (hb hby at_220) (r := (1 : Int32)) rfl (q := 221) rfl ?_
      refine Go.callS X164 hx hZ hown (wd46 hw) (wd47 hw) (wd44 hw) (wd48 hw) (by decide) (clenof l Z a0 hw li_156 kk_156 ((1 : Int32)) q1_156 h156 OK156 P156_0 P156_1 P156_5) e164 (by rw [hml]; rfl) (hb hby at_221) (argsL := [(.ref li_156), (.int 1)]) (rest := [(.int q0_156)]) (lenOf pd15 rfl) rfl rfl (W := 1) (Nat.le_refl _) (by decide) ?_
      intro v165 T165 L165 X165 hQ165
      obtain ⟨rfl, N165q, e165⟩ := hQ165
      have N165 := Fr.app N164 N165q
      refine Go.iadd X165 hx (hb hby at_224) rfl (q := 225) rfl ?_
      refine Go.aload X165 hx (hb hby at_225) rfl rfl (q := 227) rfl ?_
      refine Go.iconst X165 hx (hb hby at_227) (r := (2 : Int32)) rfl (q := 228) rfl ?_
      refine Go.callS X165 hx hZ hown (wd46 hw) (wd47 hw) (wd44 hw) (wd48 hw) (by decide) (clenof l Z a0 hw li_156 kk_156 ((2 : Int32)) q2_156 h156 OK156 P156_0 P156_1 P156_6) e165 (by rw [hml]; rfl) (hb hby at_228) (argsL := [(.ref li_156), (.int 2)]) (rest := [(.int (q0_156 + q1_156))]) (lenOf pd15 rfl) rfl rfl (W := 1) (Nat.le_refl _) (by decide) ?_
      intro v166 T166 L166 X166 hQ166
      obtain ⟨rfl, N166q, e166⟩ := hQ166
      have N166 := Fr.app N165 N166q
      refine Go.iadd X166 hx (hb hby at_231) rfl (q := 232) rfl ?_
      refine Go.aload X166 hx (hb hby at_232) rfl rfl (q := 234) rfl ?_
      refine Go.iconst X166 hx (hb hby at_234) (r := (3 : Int32)) rfl (q := 235) rfl ?_
      refine Go.callS X166 hx hZ hown (wd46 hw) (wd47 hw) (wd44 hw) (wd48 hw) (by decide) (clenof l Z a0 hw li_156 kk_156 ((3 : Int32)) q3_156 h156 OK156 P156_0 P156_1 P156_7) e166 (by rw [hml]; rfl) (hb hby at_235) (argsL := [(.ref li_156), (.int 3)]) (rest := [(.int ((q0_156 + q1_156) + q2_156))]) (lenOf pd15 rfl) rfl rfl (W := 1) (Nat.le_refl _) (by decide) ?_
      intro v167 T167 L167 X167 hQ167
      obtain ⟨rfl, N167q, e167⟩ := hQ167
      have N167 := Fr.app N166 N167q
      refine Go.iadd X167 hx (hb hby at_238) rfl (q := 239) rfl ?_
      refine Go.istore X167 hx (hb hby at_239) (l' := #[.val (.int le), .val (.int sl), .val (.int da), .val (.int te), .val (.int 3), .val (.int t), .val (.ref b149), .val (.ref li_156), .val (.int ex), .val (.int (((q0_156 + q1_156) + q2_156) + q3_156))]) rfl (q := 241) rfl ?_
      refine Go.iload X167 hx (hb hby at_241) rfl (q := 243) rfl ?_
      refine Go.iload X167 hx (hb hby at_243) rfl (q := 245) rfl ?_
      refine Go.aload X167 hx (hb hby at_245) rfl rfl (q := 247) rfl ?_
      refine Go.iload X167 hx (hb hby at_247) rfl (q := 249) rfl ?_
      refine Go.iload X167 hx (hb hby at_249) rfl (q := 251) rfl ?_
      refine Go.callS X167 hx hZ hown (wd49 hw) (wd50 hw) (wd44 hw) (wd51 hw) (by decide) (ctb_3 l Z a0 hw b149 y_150 y_152 y_154 ((0 : Int32)) (k149) ((3 : Int32)) t h156 OK156 V155 (by decide) (by decide) (by decide)) e167 (by rw [hml]; rfl) (hb hby at_251) (argsL := [(.ref b149), (.int 3), (.int t)]) (rest := [(.int 3), (.int (((q0_156 + q1_156) + q2_156) + q3_156))]) (lenOf pd10 rfl) rfl rfl (W := 2) (Nat.le_refl _) (by decide) ?_
      intro v168 T168 L168 X168 hQ168
      obtain ⟨rfl, N168q, e168⟩ := hQ168
      have N168 := Fr.app N167 N168q
      refine Go.isub X168 hx (hb hby at_254) rfl (q := 255) rfl ?_
      refine Go.icmpNo X168 hx (hb hby at_255) (Jvm.Free.XT.ii_ne_f P156_3) (q := 258) rfl ?_
      refine Go.iconst X168 hx (hb hby at_258) (r := (1 : Int32)) rfl (q := 259) rfl ?_
      refine Go.goto X168 hx (hb hby at_259) (q := 263) (by decide) (by decide) ?_
      exact Go.retI X168 hx hret hlk (by simp) rfl (hb hby at_263) e168 (by decide) (by decide) ⟨rfl, N168⟩
    refine Go.aload X157 hx (hb hby at_124) rfl rfl (q := 126) rfl ?_
    refine Go.iload X157 hx (hb hby at_126) rfl (q := 128) rfl ?_
    refine Go.iconst X157 hx (hb hby at_128) (r := (1 : Int32)) rfl (q := 129) rfl ?_
    refine Go.isub X157 hx (hb hby at_129) (r := (2 : Int32)) rfl (q := 130) rfl ?_
    refine Go.bal X157 hx hZ e157 V155 ⟨by decide, by decide⟩ (v := (.int y_154)) rfl (hb hby at_130) ?_
    refine Go.iload X157 hx (hb hby at_131) rfl (q := 133) rfl ?_
    by_cases hc169 : y_154 = t
    · refine Go.icmpNo X157 hx (hb hby at_133) (Jvm.Free.XT.ii_ne_f hc169) (q := 136) rfl ?_
      refine Go.iconst X157 hx (hb hby at_136) (r := (0 : Int32)) rfl (q := 137) rfl ?_
      refine Go.goto X157 hx (hb hby at_137) (q := 141) (by decide) (by decide) ?_
      refine Go.iadd X157 hx (hb hby at_141) rfl (q := 142) rfl ?_
      exact J142_158 _ (P156_2.1 hc169)
    · refine Go.icmpYes X157 hx (hb hby at_133) (Jvm.Free.XT.ii_ne_t hc169) (q := 140) (by decide) (by decide) ?_
      refine Go.iconst X157 hx (hb hby at_140) (r := (1 : Int32)) rfl (q := 141) rfl ?_
      refine Go.iadd X157 hx (hb hby at_141) rfl (q := 142) rfl ?_
      exact J142_158 _ (P156_2.2 hc169)
  · show Go pp ee below _ (s₁.setTop (mkF mm 6 #[.val (.int le), .val (.int sl), .val (.int da), .val (.int te), .unset, .unset, .unset, .unset, .unset, .unset] [(.int 4)]))
    refine Go.istore X0 hx (hb hby at_6) (l' := #[.val (.int le), .val (.int sl), .val (.int da), .val (.int te), .val (.int 4), .unset, .unset, .unset, .unset, .unset]) rfl (q := 8) rfl ?_
    refine Go.iloadN X0 hx (hb hby at_8) rfl (q := 9) rfl ?_
    refine Go.i2b X0 hx (hb hby at_9) rfl (q := 10) rfl ?_
    have ht : ((te.toInt8.toInt32).toInt8.toInt32) = (te.toInt8.toInt32) := bb te
    generalize (te.toInt8.toInt32) = t at ht ⊢
    show Go pp ee below _ (s₁.setTop (mkF mm 10 #[.val (.int le), .val (.int sl), .val (.int da), .val (.int te), .val (.int 4), .unset, .unset, .unset, .unset, .unset] [(.int t)]))
    refine Go.istore X0 hx (hb hby at_10) (l' := #[.val (.int le), .val (.int sl), .val (.int da), .val (.int te), .val (.int 4), .val (.int t), .unset, .unset, .unset, .unset]) rfl (q := 12) rfl ?_
    refine Go.iload X0 hx (hb hby at_12) rfl (q := 14) rfl ?_
    refine Go.newP X0 hx hZ (hb hby at_14) (wd0 hw) e0 (by decide) (cap := 4) (by decide) (by decide) (by decide) (by decide) (ad := "[B") rfl (q := 16) rfl ?_
    intro b170 T170 h170 k170 X170 e170 q170 E170 V170 B170
    have g_b170 : Z.heap.size ≤ b170 := Nat.le_trans O0.1 (Nat.le_of_eq q170)
    have OE170 := ext_trans O0 E170
    replace V170 : Arv Z h170 b170 k170 .byte (4 : Int32) [(.int 0), (.int 0), (.int 0), (.int 0)] (.int 0) := V170.pad (pad_rep [] (.int 0) 4)
    refine Go.astore X170 hx (hb hby at_16) rfl (l' := #[.val (.int le), .val (.int sl), .val (.int da), .val (.int te), .val (.int 4), .val (.int t), .val (.ref b170), .unset, .unset, .unset]) rfl (q := 18) rfl ?_
    refine Go.iconst X170 hx (hb hby at_18) (r := (0 : Int32)) rfl (q := 19) rfl ?_
    refine Go.iload X170 hx (hb hby at_19) rfl (q := 21) rfl ?_
    refine Go.icmpNo X170 hx (hb hby at_21) (by decide) (q := 24) rfl ?_
    refine Go.aload X170 hx (hb hby at_24) rfl rfl (q := 26) rfl ?_
    refine Go.iconst X170 hx (hb hby at_26) (r := (0 : Int32)) rfl (q := 27) rfl ?_
    refine Go.iloadN X170 hx (hb hby at_27) rfl (q := 28) rfl ?_
    refine Go.iloadN X170 hx (hb hby at_28) rfl (q := 29) rfl ?_
    refine Go.iconst X170 hx (hb hby at_29) (r := (0 : Int32)) rfl (q := 30) rfl ?_
    refine Go.iload X170 hx (hb hby at_30) rfl (q := 32) rfl ?_
    refine Go.callS X170 hx hZ hown (wd52 hw) (wd53 hw) (wd44 hw) (wd54 hw) (by decide) (cpick l Z a0 hw sl da ((0 : Int32)) t h170 OE170 ht) e170 (by rw [hml]; rfl) (hb hby at_32) (argsL := [(.int sl), (.int da), (.int 0), (.int t)]) (rest := [(.int 0), (.ref b170)]) (lenOf pd16 rfl) rfl rfl (W := 2) (Nat.le_refl _) (by decide) ?_
    intro v171 T171 L171 X171 hQ171
    obtain ⟨y_171, rfl, N171q, e171, P171_0⟩ := hQ171
    have N171 := Fr.app N0 N171q
    refine Go.bst X171 hx hZ e171 V170 ⟨by decide, by decide⟩ (i := 0) rfl (Nat.le_of_ble_eq_true rfl) (hb hby at_35) ?_
    intro T172 h172 X172 e172 W172 V172
    rw [P171_0] at V172
    replace V172 : Arv Z h172 b170 k170 .byte (4 : Int32) [(.int y_171), (.int 0), (.int 0), (.int 0)] (.int 0) := V172
    have N172 := Fr.snoc X172 N171 g_b170
    replace B170 := B170.wr W172
    have OW172 := ext_wr OE170 W172 g_b170
    refine Go.iconst X172 hx (hb hby at_36) (r := (1 : Int32)) rfl (q := 37) rfl ?_
    refine Go.iload X172 hx (hb hby at_37) rfl (q := 39) rfl ?_
    refine Go.icmpNo X172 hx (hb hby at_39) (by decide) (q := 42) rfl ?_
    refine Go.aload X172 hx (hb hby at_42) rfl rfl (q := 44) rfl ?_
    refine Go.iconst X172 hx (hb hby at_44) (r := (1 : Int32)) rfl (q := 45) rfl ?_
    refine Go.iloadN X172 hx (hb hby at_45) rfl (q := 46) rfl ?_
    refine Go.iloadN X172 hx (hb hby at_46) rfl (q := 47) rfl ?_
    refine Go.iconst X172 hx (hb hby at_47) (r := (1 : Int32)) rfl (q := 48) rfl ?_
    refine Go.iload X172 hx (hb hby at_48) rfl (q := 50) rfl ?_
    refine Go.callS X172 hx hZ hown (wd52 hw) (wd53 hw) (wd44 hw) (wd54 hw) (by decide) (cpick l Z a0 hw sl da ((1 : Int32)) t h172 OW172 ht) e172 (by rw [hml]; rfl) (hb hby at_50) (argsL := [(.int sl), (.int da), (.int 1), (.int t)]) (rest := [(.int 1), (.ref b170)]) (lenOf pd16 rfl) rfl rfl (W := 2) (Nat.le_refl _) (by decide) ?_
    intro v173 T173 L173 X173 hQ173
    obtain ⟨y_173, rfl, N173q, e173, P173_0⟩ := hQ173
    have N173 := Fr.app N172 N173q
    refine Go.bst X173 hx hZ e173 V172 ⟨by decide, by decide⟩ (i := 1) rfl (Nat.le_of_ble_eq_true rfl) (hb hby at_53) ?_
    intro T174 h174 X174 e174 W174 V174
    rw [P173_0] at V174
    replace V174 : Arv Z h174 b170 k170 .byte (4 : Int32) [(.int y_171), (.int y_173), (.int 0), (.int 0)] (.int 0) := V174
    have N174 := Fr.snoc X174 N173 g_b170
    replace B170 := B170.wr W174
    have OW174 := ext_wr OW172 W174 g_b170
    refine Go.iconst X174 hx (hb hby at_54) (r := (2 : Int32)) rfl (q := 55) rfl ?_
    refine Go.iload X174 hx (hb hby at_55) rfl (q := 57) rfl ?_
    refine Go.icmpNo X174 hx (hb hby at_57) (by decide) (q := 60) rfl ?_
    refine Go.aload X174 hx (hb hby at_60) rfl rfl (q := 62) rfl ?_
    refine Go.iconst X174 hx (hb hby at_62) (r := (2 : Int32)) rfl (q := 63) rfl ?_
    refine Go.iloadN X174 hx (hb hby at_63) rfl (q := 64) rfl ?_
    refine Go.iloadN X174 hx (hb hby at_64) rfl (q := 65) rfl ?_
    refine Go.iconst X174 hx (hb hby at_65) (r := (2 : Int32)) rfl (q := 66) rfl ?_
    refine Go.iload X174 hx (hb hby at_66) rfl (q := 68) rfl ?_
    refine Go.callS X174 hx hZ hown (wd52 hw) (wd53 hw) (wd44 hw) (wd54 hw) (by decide) (cpick l Z a0 hw sl da ((2 : Int32)) t h174 OW174 ht) e174 (by rw [hml]; rfl) (hb hby at_68) (argsL := [(.int sl), (.int da), (.int 2), (.int t)]) (rest := [(.int 2), (.ref b170)]) (lenOf pd16 rfl) rfl rfl (W := 2) (Nat.le_refl _) (by decide) ?_
    intro v175 T175 L175 X175 hQ175
    obtain ⟨y_175, rfl, N175q, e175, P175_0⟩ := hQ175
    have N175 := Fr.app N174 N175q
    refine Go.bst X175 hx hZ e175 V174 ⟨by decide, by decide⟩ (i := 2) rfl (Nat.le_of_ble_eq_true rfl) (hb hby at_71) ?_
    intro T176 h176 X176 e176 W176 V176
    rw [P175_0] at V176
    replace V176 : Arv Z h176 b170 k170 .byte (4 : Int32) [(.int y_171), (.int y_173), (.int y_175), (.int 0)] (.int 0) := V176
    have N176 := Fr.snoc X176 N175 g_b170
    replace B170 := B170.wr W176
    have OW176 := ext_wr OW174 W176 g_b170
    refine Go.iconst X176 hx (hb hby at_72) (r := (3 : Int32)) rfl (q := 73) rfl ?_
    refine Go.iload X176 hx (hb hby at_73) rfl (q := 75) rfl ?_
    refine Go.icmpNo X176 hx (hb hby at_75) (by decide) (q := 78) rfl ?_
    refine Go.aload X176 hx (hb hby at_78) rfl rfl (q := 80) rfl ?_
    refine Go.iconst X176 hx (hb hby at_80) (r := (3 : Int32)) rfl (q := 81) rfl ?_
    refine Go.iloadN X176 hx (hb hby at_81) rfl (q := 82) rfl ?_
    refine Go.iloadN X176 hx (hb hby at_82) rfl (q := 83) rfl ?_
    refine Go.iconst X176 hx (hb hby at_83) (r := (3 : Int32)) rfl (q := 84) rfl ?_
    refine Go.iload X176 hx (hb hby at_84) rfl (q := 86) rfl ?_
    refine Go.callS X176 hx hZ hown (wd52 hw) (wd53 hw) (wd44 hw) (wd54 hw) (by decide) (cpick l Z a0 hw sl da ((3 : Int32)) t h176 OW176 ht) e176 (by rw [hml]; rfl) (hb hby at_86) (argsL := [(.int sl), (.int da), (.int 3), (.int t)]) (rest := [(.int 3), (.ref b170)]) (lenOf pd16 rfl) rfl rfl (W := 2) (Nat.le_refl _) (by decide) ?_
    intro v177 T177 L177 X177 hQ177
    obtain ⟨y_177, rfl, N177q, e177, P177_0⟩ := hQ177
    have N177 := Fr.app N176 N177q
    refine Go.bst X177 hx hZ e177 V176 ⟨by decide, by decide⟩ (i := 3) rfl (Nat.le_of_ble_eq_true rfl) (hb hby at_89) ?_
    intro T178 h178 X178 e178 W178 V178
    rw [P177_0] at V178
    replace V178 : Arv Z h178 b170 k170 .byte (4 : Int32) [(.int y_171), (.int y_173), (.int y_175), (.int y_177)] (.int 0) := V178
    have N178 := Fr.snoc X178 N177 g_b170
    replace B170 := B170.wr W178
    have OW178 := ext_wr OW176 W178 g_b170
    refine Go.aload X178 hx (hb hby at_90) rfl rfl (q := 92) rfl ?_
    refine Go.iload X178 hx (hb hby at_92) rfl (q := 94) rfl ?_
    refine Go.callS X178 hx hZ hown (wd1 hw) (wd2 hw) (wd3 hw) (wd4 hw) (by decide) (crec_4 l Z a0 hw b170 y_171 y_173 y_175 y_177 (k170) t de h178 OW178 B170 V178 SD LD) e178 (by rw [hml]; rfl) (hb hby at_94) (argsL := [(.ref b170), (.int t)]) (rest := []) (lenOf pd13 rfl) rfl rfl (W := 0) (Nat.le_refl _) (by decide) ?_
    intro v179 T179 L179 X179 hQ179
    obtain ⟨h179, e179⟩ : ∃ z, T179.heap = z := ⟨_, rfl⟩
    rw [e179] at hQ179
    obtain ⟨li_179, kk_179, q0_179, q1_179, q2_179, q3_179, rfl, N179q, K179, fr179_li, P179_0, P179_1, P179_2, P179_3, P179_4, P179_5, P179_6, P179_7, P179_8, P179_9, P179_10, P179_11⟩ := hQ179
    have N179 := Fr.app N178 N179q
    have ne_b170_li_179 : b170 ≠ li_179 := ne_new B170.lt fr179_li
    have g_li_179 : Z.heap.size ≤ li_179 := Nat.le_trans OW178.1 fr179_li
    replace B170 := B170.keep K179
    replace V178 := V178.keep K179 nin0
    have OK179 := ext_keep OW178 K179 all0
    refine Go.astore X179 hx (hb hby at_97) rfl (l' := #[.val (.int le), .val (.int sl), .val (.int da), .val (.int te), .val (.int 4), .val (.int t), .val (.ref b170), .val (.ref li_179), .unset, .unset]) rfl (q := 99) rfl ?_
    refine Go.aload X179 hx (hb hby at_99) rfl rfl (q := 101) rfl ?_
    refine Go.ifnonnullYes X179 hx (hb hby at_101) (q := 106) (by decide) (by decide) ?_
    refine Go.iload X179 hx (hb hby at_106) rfl (q := 108) rfl ?_
    refine Go.ifYes X179 hx (hb hby at_108) (by decide) (q := 115) (by decide) (by decide) ?_
    refine Go.aload X179 hx (hb hby at_115) rfl rfl (q := 117) rfl ?_
    refine Go.iload X179 hx (hb hby at_117) rfl (q := 119) rfl ?_
    refine Go.iload X179 hx (hb hby at_119) rfl (q := 121) rfl ?_
    refine Go.callS X179 hx hZ hown (wd49 hw) (wd50 hw) (wd44 hw) (wd51 hw) (by decide) (ctb_4 l Z a0 hw b170 y_171 y_173 y_175 y_177 (k170) ((4 : Int32)) t h179 OK179 V178 (by decide) (by decide) (by decide) (by decide)) e179 (by rw [hml]; rfl) (hb hby at_121) (argsL := [(.ref b170), (.int 4), (.int t)]) (rest := []) (lenOf pd10 rfl) rfl rfl (W := 0) (Nat.le_refl _) (by decide) ?_
    intro v180 T180 L180 X180 hQ180
    obtain ⟨rfl, N180q, e180⟩ := hQ180
    have N180 := Fr.app N179 N180q
    have J142_181 : ∀ (ex : Int32), kk_179 = ex → Go pp ee below (KK ss (Q_law0 Z le sl da te de h0) room_1.cells room_1.slots) (T180.setTop (mkF mm 142 #[.val (.int le), .val (.int sl), .val (.int da), .val (.int te), .val (.int 4), .val (.int t), .val (.ref b170), .val (.ref li_179), .unset, .unset] [(.int ex)])) := by
      intro ex hkk
      refine Go.istore X180 hx (hb hby at_142) (l' := #[.val (.int le), .val (.int sl), .val (.int da), .val (.int te), .val (.int 4), .val (.int t), .val (.ref b170), .val (.ref li_179), .val (.int ex), .unset]) rfl (q := 144) rfl ?_
      refine Go.aload X180 hx (hb hby at_144) rfl rfl (q := 146) rfl ?_
      refine Go.face X180 hx hZ hown (wd31 hw) (wd32 hw) (wd33 hw) (wd34 hw) (wd35 hw) (wd36 hw) (wd37 hw) (wd38 hw) (wd7 hw) (wd39 hw) (by decide) (csize l Z a0 hw li_179 kk_179 h179 OK179 P179_1) e180 P179_0 (by rw [hml]; rfl) (hb hby at_146) (argsL := []) (rest := []) (lenOf pd11 rfl) rfl rfl (W := 0) (Nat.le_refl _) (by decide) ?_
      intro v182 T182 L182 X182 hQ182
      obtain ⟨rfl, N182q, e182⟩ := hQ182
      have N182 := Fr.app N180 N182q
      refine Go.iload X182 hx (hb hby at_151) rfl (q := 153) rfl ?_
      refine Go.icmpYes X182 hx (hb hby at_153) (Jvm.Free.XT.ii_eq_t hkk) (q := 158) (by decide) (by decide) ?_
      refine Go.aload X182 hx (hb hby at_158) rfl rfl (q := 160) rfl ?_
      refine Go.aload X182 hx (hb hby at_160) rfl rfl (q := 162) rfl ?_
      refine Go.iconst X182 hx (hb hby at_162) (r := (0 : Int32)) rfl (q := 163) rfl ?_
      refine Go.iload X182 hx (hb hby at_163) rfl (q := 165) rfl ?_
      refine Go.callS X182 hx hZ hown (wd42 hw) (wd43 hw) (wd44 hw) (wd45 hw) (by decide) (cok_0 l Z a0 hw li_179 kk_179 ((4 : Int32)) t b170 y_171 y_173 y_175 y_177 (k170) h179 OK179 V178 P179_0 P179_1 (by decide) P179_8) e182 (by rw [hml]; rfl) (hb hby at_165) (argsL := [(.ref li_179), (.ref b170), (.int 0), (.int t)]) (rest := []) (lenOf pd14 rfl) rfl rfl (W := 0) (Nat.le_refl _) (by decide) ?_
      intro v183 T183 L183 X183 hQ183
      obtain ⟨rfl, N183q, e183⟩ := hQ183
      have N183 := Fr.app N182 N183q
      refine Go.ifNo X183 hx (hb hby at_168) (by decide) (q := 171) rfl ?_
      refine Go.aload X183 hx (hb hby at_171) rfl rfl (q := 173) rfl ?_
      refine Go.aload X183 hx (hb hby at_173) rfl rfl (q := 175) rfl ?_
      refine Go.iconst X183 hx (hb hby at_175) (r := (1 : Int32)) rfl (q := 176) rfl ?_
      refine Go.iload X183 hx (hb hby at_176) rfl (q := 178) rfl ?_
      refine Go.callS X183 hx hZ hown (wd42 hw) (wd43 hw) (wd44 hw) (wd45 hw) (by decide) (cok_1 l Z a0 hw li_179 kk_179 ((4 : Int32)) t b170 y_171 y_173 y_175 y_177 (k170) h179 OK179 V178 P179_0 P179_1 (by decide) (by decide) P179_9) e183 (by rw [hml]; rfl) (hb hby at_178) (argsL := [(.ref li_179), (.ref b170), (.int 1), (.int t)]) (rest := []) (lenOf pd14 rfl) rfl rfl (W := 0) (Nat.le_refl _) (by decide) ?_
      intro v184 T184 L184 X184 hQ184
      obtain ⟨rfl, N184q, e184⟩ := hQ184
      have N184 := Fr.app N183 N184q
      refine Go.ifNo X184 hx (hb hby at_181) (by decide) (q := 184) rfl ?_
      refine Go.aload X184 hx (hb hby at_184) rfl rfl (q := 186) rfl ?_
      refine Go.aload X184 hx (hb hby at_186) rfl rfl (q := 188) rfl ?_
      refine Go.iconst X184 hx (hb hby at_188) (r := (2 : Int32)) rfl (q := 189) rfl ?_
      refine Go.iload X184 hx (hb hby at_189) rfl (q := 191) rfl ?_
      refine Go.callS X184 hx hZ hown (wd42 hw) (wd43 hw) (wd44 hw) (wd45 hw) (by decide) (cok_2 l Z a0 hw li_179 kk_179 ((4 : Int32)) t b170 y_171 y_173 y_175 y_177 (k170) h179 OK179 V178 P179_0 P179_1 (by decide) (by decide) (by decide) P179_10) e184 (by rw [hml]; rfl) (hb hby at_191) (argsL := [(.ref li_179), (.ref b170), (.int 2), (.int t)]) (rest := []) (lenOf pd14 rfl) rfl rfl (W := 0) (Nat.le_refl _) (by decide) ?_
      intro v185 T185 L185 X185 hQ185
      obtain ⟨rfl, N185q, e185⟩ := hQ185
      have N185 := Fr.app N184 N185q
      refine Go.ifNo X185 hx (hb hby at_194) (by decide) (q := 197) rfl ?_
      refine Go.aload X185 hx (hb hby at_197) rfl rfl (q := 199) rfl ?_
      refine Go.aload X185 hx (hb hby at_199) rfl rfl (q := 201) rfl ?_
      refine Go.iconst X185 hx (hb hby at_201) (r := (3 : Int32)) rfl (q := 202) rfl ?_
      refine Go.iload X185 hx (hb hby at_202) rfl (q := 204) rfl ?_
      refine Go.callS X185 hx hZ hown (wd42 hw) (wd43 hw) (wd44 hw) (wd45 hw) (by decide) (cok_3 l Z a0 hw li_179 kk_179 ((4 : Int32)) t b170 y_171 y_173 y_175 y_177 (k170) h179 OK179 V178 P179_0 P179_1 (by decide) (by decide) (by decide) (by decide) P179_11) e185 (by rw [hml]; rfl) (hb hby at_204) (argsL := [(.ref li_179), (.ref b170), (.int 3), (.int t)]) (rest := []) (lenOf pd14 rfl) rfl rfl (W := 0) (Nat.le_refl _) (by decide) ?_
      intro v186 T186 L186 X186 hQ186
      obtain ⟨rfl, N186q, e186⟩ := hQ186
      have N186 := Fr.app N185 N186q
      refine Go.ifYes X186 hx (hb hby at_207) (by decide) (q := 212) (by decide) (by decide) ?_
      refine Go.aload X186 hx (hb hby at_212) rfl rfl (q := 214) rfl ?_
      refine Go.iconst X186 hx (hb hby at_214) (r := (0 : Int32)) rfl (q := 215) rfl ?_
      refine Go.callS X186 hx hZ hown (wd46 hw) (wd47 hw) (wd44 hw) (wd48 hw) (by decide) (clenof l Z a0 hw li_179 kk_179 ((0 : Int32)) q0_179 h179 OK179 P179_0 P179_1 P179_4) e186 (by rw [hml]; rfl) (hb hby at_215) (argsL := [(.ref li_179), (.int 0)]) (rest := []) (lenOf pd15 rfl) rfl rfl (W := 0) (Nat.le_refl _) (by decide) ?_
      intro v187 T187 L187 X187 hQ187
      obtain ⟨rfl, N187q, e187⟩ := hQ187
      have N187 := Fr.app N186 N187q
      refine Go.aload X187 hx (hb hby at_218) rfl rfl (q := 220) rfl ?_
      refine Go.iconst X187 hx (hb hby at_220) (r := (1 : Int32)) rfl (q := 221) rfl ?_
      refine Go.callS X187 hx hZ hown (wd46 hw) (wd47 hw) (wd44 hw) (wd48 hw) (by decide) (clenof l Z a0 hw li_179 kk_179 ((1 : Int32)) q1_179 h179 OK179 P179_0 P179_1 P179_5) e187 (by rw [hml]; rfl) (hb hby at_221) (argsL := [(.ref li_179), (.int 1)]) (rest := [(.int q0_179)]) (lenOf pd15 rfl) rfl rfl (W := 1) (Nat.le_refl _) (by decide) ?_
      intro v188 T188 L188 X188 hQ188
      obtain ⟨rfl, N188q, e188⟩ := hQ188
      have N188 := Fr.app N187 N188q
      refine Go.iadd X188 hx (hb hby at_224) rfl (q := 225) rfl ?_
      refine Go.aload X188 hx (hb hby at_225) rfl rfl (q := 227) rfl ?_
      refine Go.iconst X188 hx (hb hby at_227) (r := (2 : Int32)) rfl (q := 228) rfl ?_
      refine Go.callS X188 hx hZ hown (wd46 hw) (wd47 hw) (wd44 hw) (wd48 hw) (by decide) (clenof l Z a0 hw li_179 kk_179 ((2 : Int32)) q2_179 h179 OK179 P179_0 P179_1 P179_6) e188 (by rw [hml]; rfl) (hb hby at_228) (argsL := [(.ref li_179), (.int 2)]) (rest := [(.int (q0_179 + q1_179))]) (lenOf pd15 rfl) rfl rfl (W := 1) (Nat.le_refl _) (by decide) ?_
      intro v189 T189 L189 X189 hQ189
      obtain ⟨rfl, N189q, e189⟩ := hQ189
      have N189 := Fr.app N188 N189q
      refine Go.iadd X189 hx (hb hby at_231) rfl (q := 232) rfl ?_
      refine Go.aload X189 hx (hb hby at_232) rfl rfl (q := 234) rfl ?_
      refine Go.iconst X189 hx (hb hby at_234) (r := (3 : Int32)) rfl (q := 235) rfl ?_
      refine Go.callS X189 hx hZ hown (wd46 hw) (wd47 hw) (wd44 hw) (wd48 hw) (by decide) (clenof l Z a0 hw li_179 kk_179 ((3 : Int32)) q3_179 h179 OK179 P179_0 P179_1 P179_7) e189 (by rw [hml]; rfl) (hb hby at_235) (argsL := [(.ref li_179), (.int 3)]) (rest := [(.int ((q0_179 + q1_179) + q2_179))]) (lenOf pd15 rfl) rfl rfl (W := 1) (Nat.le_refl _) (by decide) ?_
      intro v190 T190 L190 X190 hQ190
      obtain ⟨rfl, N190q, e190⟩ := hQ190
      have N190 := Fr.app N189 N190q
      refine Go.iadd X190 hx (hb hby at_238) rfl (q := 239) rfl ?_
      refine Go.istore X190 hx (hb hby at_239) (l' := #[.val (.int le), .val (.int sl), .val (.int da), .val (.int te), .val (.int 4), .val (.int t), .val (.ref b170), .val (.ref li_179), .val (.int ex), .val (.int (((q0_179 + q1_179) + q2_179) + q3_179))]) rfl (q := 241) rfl ?_
      refine Go.iload X190 hx (hb hby at_241) rfl (q := 243) rfl ?_
      refine Go.iload X190 hx (hb hby at_243) rfl (q := 245) rfl ?_
      refine Go.aload X190 hx (hb hby at_245) rfl rfl (q := 247) rfl ?_
      refine Go.iload X190 hx (hb hby at_247) rfl (q := 249) rfl ?_
      refine Go.iload X190 hx (hb hby at_249) rfl (q := 251) rfl ?_
      refine Go.callS X190 hx hZ hown (wd49 hw) (wd50 hw) (wd44 hw) (wd51 hw) (by decide) (ctb_4 l Z a0 hw b170 y_171 y_173 y_175 y_177 (k170) ((4 : Int32)) t h179 OK179 V178 (by decide) (by decide) (by decide) (by decide)) e190 (by rw [hml]; rfl) (hb hby at_251) (argsL := [(.ref b170), (.int 4), (.int t)]) (rest := [(.int 4), (.int (((q0_179 + q1_179) + q2_179) + q3_179))]) (lenOf pd10 rfl) rfl rfl (W := 2) (Nat.le_refl _) (by decide) ?_
      intro v191 T191 L191 X191 hQ191
      obtain ⟨rfl, N191q, e191⟩ := hQ191
      have N191 := Fr.app N190 N191q
      refine Go.isub X191 hx (hb hby at_254) rfl (q := 255) rfl ?_
      refine Go.icmpNo X191 hx (hb hby at_255) (Jvm.Free.XT.ii_ne_f P179_3) (q := 258) rfl ?_
      refine Go.iconst X191 hx (hb hby at_258) (r := (1 : Int32)) rfl (q := 259) rfl ?_
      refine Go.goto X191 hx (hb hby at_259) (q := 263) (by decide) (by decide) ?_
      exact Go.retI X191 hx hret hlk (by simp) rfl (hb hby at_263) e191 (by decide) (by decide) ⟨rfl, N191⟩
    refine Go.aload X180 hx (hb hby at_124) rfl rfl (q := 126) rfl ?_
    refine Go.iload X180 hx (hb hby at_126) rfl (q := 128) rfl ?_
    refine Go.iconst X180 hx (hb hby at_128) (r := (1 : Int32)) rfl (q := 129) rfl ?_
    refine Go.isub X180 hx (hb hby at_129) (r := (3 : Int32)) rfl (q := 130) rfl ?_
    refine Go.bal X180 hx hZ e180 V178 ⟨by decide, by decide⟩ (v := (.int y_177)) rfl (hb hby at_130) ?_
    refine Go.iload X180 hx (hb hby at_131) rfl (q := 133) rfl ?_
    by_cases hc192 : y_177 = t
    · refine Go.icmpNo X180 hx (hb hby at_133) (Jvm.Free.XT.ii_ne_f hc192) (q := 136) rfl ?_
      refine Go.iconst X180 hx (hb hby at_136) (r := (0 : Int32)) rfl (q := 137) rfl ?_
      refine Go.goto X180 hx (hb hby at_137) (q := 141) (by decide) (by decide) ?_
      refine Go.iadd X180 hx (hb hby at_141) rfl (q := 142) rfl ?_
      exact J142_181 _ (P179_2.1 hc192)
    · refine Go.icmpYes X180 hx (hb hby at_133) (Jvm.Free.XT.ii_ne_t hc192) (q := 140) (by decide) (by decide) ?_
      refine Go.iconst X180 hx (hb hby at_140) (r := (1 : Int32)) rfl (q := 141) rfl ?_
      refine Go.iadd X180 hx (hb hby at_141) rfl (q := 142) rfl ?_
      exact J142_181 _ (P179_2.2 hc192)
theorem comes_1 {Post : Tables → Env → Array Value → State → Outcome → State → Prop} (hpost : ∀ tb e args s v u, (limb_1_1.after args s (.returned v) u = true ∧ limb_1_2.after args s (.returned v) u = true ∧ True) → FrameEnd s (.returned v) u (Jvm.fieldLocs frame_1_writes args s ++ Jvm.arrayLocs frame_1_arrays args s ++ Jvm.staticLocs frame_1_statics s) 24 128 → Post tb e args s (.returned v) u) :
    ArmFor flags0 classFile x code maxLocals ret World_1 tables_1 room_1 Calls_1 rest_1 Pre_1 Post := by
  intro l hfl _ _ p e ha hc hk s m args below hf hA hF happ hP
  obtain ⟨hcalls, hrest, hpre⟩ := hP
  obtain ⟨-, -, -, hnamed, -, -, -, hat⟩ := (Spec.applies_iff hf).mp happ
  obtain ⟨hg, hn⟩ := and_e (Cond.before_iff.mp (show (Jvm.Cond.and given_1 narrow_1).before args s = true from hpre))
  obtain ⟨ga1, gb1⟩ := and_e hg
  obtain ⟨ga2, gb2⟩ := and_e gb1
  obtain ⟨ga3, gb3⟩ := and_e gb2
  obtain ⟨ga4, gb4⟩ := and_e gb3
  obtain ⟨w0, w1, w2, w3, rfl⟩ : ∃ w0 w1 w2 w3 : Value, args = #[w0, w1, w2, w3] := by
    have hs : args.size = 4 := by simpa [Cond.value, given_1] using ga1
    obtain ⟨L⟩ := args
    match L, hs with
    | [w0, w1, w2, w3], _ => exact ⟨w0, w1, w2, w3, rfl⟩
  have hw := fun d (hd : d ∈ tables_1) => atoms_spec (ws := Jvm.Cond.code x code maxLocals ret :: tables_1) hat d (List.mem_cons_of_mem _ hd)
  have hfit : Fit s := fun {y c} hc i hi => by
    obtain ⟨ha, rfl⟩ := Array.getElem?_eq_some_iff.mp hc
    have q := List.all_eq_true.mp ((Array.all_eq_true_iff_forall_mem.mp hF) _ (Array.getElem_mem ha)) i (List.mem_range.mpr hi)
    simpa [Array.getElem?_eq_getElem hi] using q
  obtain ⟨hsets, hown0⟩ := atoms_of _ (rest_1_c_eq ▸ (show rest_1_c.before _ s = true from hrest))
  have hr0 := Cond.before_iff.mp hown0
  obtain ⟨i0, ei0⟩ := is_v ga2
  obtain rfl : w0 = (.int i0) := Option.some.inj ei0
  obtain ⟨i1, ei1⟩ := is_v ga3
  obtain rfl : w1 = (.int i1) := Option.some.inj ei1
  obtain ⟨i2, ei2⟩ := is_v ga4
  obtain rfl : w2 = (.int i2) := Option.some.inj ei2
  obtain ⟨i3, ei3⟩ := is_v gb4
  obtain rfl : w3 = (.int i3) := Option.some.inj ei3
  obtain ⟨de, ede, SD, EDE⟩ := sta_exa (Cond.before_iff.mp (hsets _ (List.mem_of_getElem? (i := 7) rfl))) (wd7 hw) (hsets _ (List.mem_of_getElem? (i := 2) rfl))
  obtain ⟨clD, AD⟩ := Arr.start ede (Cond.before_iff.mp (hsets _ (List.mem_of_getElem? (i := 6) rfl)))
  obtain ⟨zD, nD⟩ := IntBox.length_fwd (hsets _ (List.mem_of_getElem? (i := 8) rfl)) ede AD.1 AD.2.1 AD.2.2
  have LD := Lng.of AD zD nD (by decide)
  obtain ⟨n, o, h1, h2, h3, _, L, rfl, ⟨rfl, N⟩, hq⟩ := law0 l s _ hw i0 i1 i2 i3 de s.heap ⟨Nat.le_refl _, fun _ _ q => q⟩ SD LD p e ha hc hk s m _ below hf ((Spec.applies_iff_loose hf).mp happ).1 ⟨rfl, State.Warmed39.refl s, rfl⟩ trivial
  refine ⟨n, _, h1, h2, h3, hpost _ _ _ _ _ _ ⟨Cond.after_iff.mpr rfl, Cond.after_iff.mpr (eq_i res_at (Term.int_eval (1)) rfl), trivial⟩ ⟨hq.1, hq.2.1, (hq.2.2.sift fun y hy => Or.inr (N y hy)).mono (by decide) (by decide)⟩⟩
theorem main_1_1 : Claimed_1_1 := comes_1 fun _ _ _ _ _ _ h hF => ⟨h.1, hF⟩
theorem main_1_2 : Claimed_1_2 := comes_1 fun _ _ _ _ _ _ h hF => ⟨h.2.1, hF⟩
end Jvm.Pilot.@@N@@
namespace Jvm.Pilot.@@N@@
open Jvm Jvm.ClassFile Sem Op Lib Jvm.Free Jvm.Stand Jvm.Pilot.@@N@@.Jvm.D
/-! MADE BY PROGRAM (witnessworld.py) out of the Statement's table words and the real class files: 23 classes; the members and pool entries that the words name. The judged class is class 1, her method 1. -/
namespace start1
open Jvm.ClassFile
def u (s : String) : CpInfo := .utf8 (stringToUtf16 s)
/-- a pool by its gaps: so many unusable entries, then the entry; so many at the end -/
def gap : Nat → List CpInfo → List CpInfo
  | 0, r => r
  | n + 1, r => .unusable :: gap n r
def poolList (es : List (Nat × CpInfo)) (last : Nat) : List CpInfo := es.foldr (fun e r => gap e.1 (e.2 :: r)) (gap last [])
def pool (es : List (Nat × CpInfo)) (last : Nat) : Array CpInfo := ⟨poolList es last⟩
def fileOf (pool : Array CpInfo) (this : Nat) (attrs : Array Attribute := #[]) (ms : Array MethodInfo := #[]) (fl : Nat := 33) (sup : Nat := 0) (ifs : Array Nat := #[]) (fds : Array FieldInfo := #[]) : ClassFile where
  minorVersion := 0
  majorVersion := 65
  constantPool := pool
  accessFlags := fl
  thisClass := this
  superClass := sup
  interfaces := ifs
  fields := fds
  methods := ms
  attributes := attrs
def plain (name : String) (sup : Option ClassId) : Class where
  name := name
  kind := .ordinary
  loader := none
  accessFlags := 33
  super := sup
  interfaces := #[]
  cf := none
  fields := #[]
  methods := #[]
  instanceTypes := #[]
  staticTypes := #[]
  resolved := #[]
  callSites := []
  init := .initialized
  statics := none
  mirror := none

def pool0 : Array CpInfo := pool [(5, u "<init>"), (0, u "()V"), (1, .class_ 10), (1, u "java/lang/Object"), (85, u "clone"), (0, u "()Ljava/lang/Object;")] 26

def k0c0 : Code := { maxStack := 0, maxLocals := 1, code := object_method_1_code, exceptionTable := #[], attributes := #[] }
def k0m0 : Method := { name := "<init>", desc := "()V", sig := { parameters := [], returnType := none }, accessFlags := 1, code := some k0c0 }
def k0m1 : Method := { name := "clone", desc := "()Ljava/lang/Object;", sig := { parameters := [], returnType := some (.object "java/lang/Object") }, accessFlags := 260, code := none }
/-- java/lang/Object -/
def k0 : Class := { plain "java/lang/Object" none with
  accessFlags := 33
  interfaces := #[]
  cf := some (fileOf pool0 8 #[] #[{ accessFlags := 1, nameIndex := 5, descriptorIndex := 6, attributes := #[] }, { accessFlags := 260, nameIndex := 96, descriptorIndex := 97, attributes := #[] }] 33 0 #[] #[])
  fields := #[]
  methods := #[k0m0, k0m1]
  instanceTypes := #[]
  staticTypes := #[]
  resolved := Array.replicate 124 none
  statics := none }

def pool1 : Array CpInfo := pool [(2, .class_ 4), (1, u "java/lang/Object"), (0, u "<init>"), (0, u "()V"), (0, .methodref 8 9), (0, .class_ 10), (0, .nameAndType 11 12), (0, u "com/example/cronopoly/cronopoly/cli/Utf8RecordsPinLaw"), (0, u "pick"), (0, u "(IIIB)B"), (0, .methodref 14 15), (0, .class_ 16), (0, .nameAndType 17 18), (0, u "com/example/cronopoly/cronopoly/cli/Utf8"), (0, u "records"), (0, u "([BB)Ljava/util/List;"), (0, .methodref 8 20), (0, .nameAndType 21 22), (0, u "tb"), (0, u "([BIB)I"), (0, .interfaceMethodref 24 25), (0, .class_ 26), (0, .nameAndType 27 28), (0, u "java/util/List"), (0, u "size"), (0, u "()I"), (0, .methodref 8 30), (0, .nameAndType 31 32), (0, u "ok"), (0, u "(Ljava/util/List;[BIB)Z"), (0, .methodref 8 34), (0, .nameAndType 35 36), (0, u "lenOf"), (0, u "(Ljava/util/List;I)I"), (0, .methodref 8 38), (0, .nameAndType 39 40), (0, u "isT"), (0, u "([BIB)Z"), (0, .methodref 8 42), (0, .nameAndType 43 22), (0, u "lt"), (0, .interfaceMethodref 24 45), (0, .nameAndType 46 47), (0, u "get"), (0, u "(I)Ljava/lang/Object;"), (0, .class_ 49), (0, u "[B"), (2, u "law"), (0, u "(IIII)Z")] 6

def k1m0 : Method := { name := "<init>", desc := "()V", sig := { parameters := [], returnType := none }, accessFlags := 2, code := none }
def k1c1 : Code := { maxStack := 6, maxLocals := 10, code := code, exceptionTable := #[], attributes := #[] }
def k1m1 : Method := { name := "law", desc := "(IIII)Z", sig := { parameters := [.int, .int, .int, .int], returnType := some .boolean }, accessFlags := 9, code := some k1c1 }
def k1c2 : Code := { maxStack := 3, maxLocals := 4, code := method_3_code, exceptionTable := #[], attributes := #[] }
def k1m2 : Method := { name := "pick", desc := "(IIIB)B", sig := { parameters := [.int, .int, .int, .byte], returnType := some .byte }, accessFlags := 10, code := some k1c2 }
def k1c3 : Code := { maxStack := 2, maxLocals := 3, code := method_4_code, exceptionTable := #[], attributes := #[] }
def k1m3 : Method := { name := "isT", desc := "([BIB)Z", sig := { parameters := [(.array .byte), .int, .byte], returnType := some .boolean }, accessFlags := 10, code := some k1c3 }
def k1c4 : Code := { maxStack := 3, maxLocals := 4, code := method_5_code, exceptionTable := #[], attributes := #[] }
def k1m4 : Method := { name := "tb", desc := "([BIB)I", sig := { parameters := [(.array .byte), .int, .byte], returnType := some .int }, accessFlags := 10, code := some k1c4 }
def k1c5 : Code := { maxStack := 3, maxLocals := 4, code := method_6_code, exceptionTable := #[], attributes := #[] }
def k1m5 : Method := { name := "lt", desc := "([BIB)I", sig := { parameters := [(.array .byte), .int, .byte], returnType := some .int }, accessFlags := 10, code := some k1c5 }
def k1c6 : Code := { maxStack := 4, maxLocals := 7, code := method_7_code, exceptionTable := #[], attributes := #[] }
def k1m6 : Method := { name := "ok", desc := "(Ljava/util/List;[BIB)Z", sig := { parameters := [(.object "java/util/List"), (.array .byte), .int, .byte], returnType := some .boolean }, accessFlags := 10, code := some k1c6 }
def k1c7 : Code := { maxStack := 2, maxLocals := 3, code := method_8_code, exceptionTable := #[], attributes := #[] }
def k1m7 : Method := { name := "lenOf", desc := "(Ljava/util/List;I)I", sig := { parameters := [(.object "java/util/List"), .int], returnType := some .int }, accessFlags := 10, code := some k1c7 }
/-- com/example/cronopoly/cronopoly/cli/Utf8RecordsPinLaw -/
def k1 : Class := { plain "com/example/cronopoly/cronopoly/cli/Utf8RecordsPinLaw" (some 0) with
  accessFlags := 49
  interfaces := #[]
  cf := some (fileOf pool1 8 #[] #[{ accessFlags := 2, nameIndex := 5, descriptorIndex := 6, attributes := #[] }, { accessFlags := 9, nameIndex := 52, descriptorIndex := 53, attributes := #[] }, { accessFlags := 10, nameIndex := 11, descriptorIndex := 12, attributes := #[] }, { accessFlags := 10, nameIndex := 39, descriptorIndex := 40, attributes := #[] }, { accessFlags := 10, nameIndex := 21, descriptorIndex := 22, attributes := #[] }, { accessFlags := 10, nameIndex := 43, descriptorIndex := 22, attributes := #[] }, { accessFlags := 10, nameIndex := 31, descriptorIndex := 32, attributes := #[] }, { accessFlags := 10, nameIndex := 35, descriptorIndex := 36, attributes := #[] }] 49 2 #[] #[])
  fields := #[]
  methods := #[k1m0, k1m1, k1m2, k1m3, k1m4, k1m5, k1m6, k1m7]
  instanceTypes := #[]
  staticTypes := #[]
  resolved := Array.replicate 60 none
  statics := none }

def pool2 : Array CpInfo := pool [(2, .class_ 4), (0, .nameAndType 5 6), (0, u "java/lang/Object"), (0, u "<init>"), (0, u "()V"), (0, .class_ 8), (0, u "java/util/ArrayList"), (0, .methodref 7 3), (0, .methodref 11 12), (0, .class_ 13), (0, .nameAndType 14 15), (0, u "java/util/Arrays"), (0, u "copyOfRange"), (0, u "([BII)[B"), (0, .interfaceMethodref 17 18), (0, .class_ 19), (0, .nameAndType 20 21), (0, u "java/util/List"), (0, u "add"), (0, u "(Ljava/lang/Object;)Z"), (39, .class_ 62), (0, u "com/example/cronopoly/cronopoly/cli/Utf8"), (2, u "records"), (0, u "([BB)Ljava/util/List;")] 6

def k2m0 : Method := { name := "<init>", desc := "()V", sig := { parameters := [], returnType := none }, accessFlags := 2, code := none }
def k2c1 : Code := { maxStack := 4, maxLocals := 5, code := prog_29_method_2_code, exceptionTable := #[], attributes := #[] }
def k2m1 : Method := { name := "records", desc := "([BB)Ljava/util/List;", sig := { parameters := [(.array .byte), .byte], returnType := some (.object "java/util/List") }, accessFlags := 8, code := some k2c1 }
/-- com/example/cronopoly/cronopoly/cli/Utf8 -/
def k2 : Class := { plain "com/example/cronopoly/cronopoly/cli/Utf8" (some 0) with
  accessFlags := 48
  interfaces := #[]
  cf := some (fileOf pool2 61 #[] #[{ accessFlags := 2, nameIndex := 5, descriptorIndex := 6, attributes := #[] }, { accessFlags := 8, nameIndex := 65, descriptorIndex := 66, attributes := #[] }] 48 2 #[] #[])
  fields := #[]
  methods := #[k2m0, k2m1]
  instanceTypes := #[]
  staticTypes := #[]
  resolved := Array.replicate 73 none
  statics := none }

def pool3 : Array CpInfo := pool [(8, .class_ 10), (1, u "java/lang/Iterable"), (24, .class_ 36), (0, u "java/lang/Object")] 25

/-- java/lang/Iterable -/
def k3 : Class := { plain "java/lang/Iterable" (some 0) with
  accessFlags := 1537
  interfaces := #[]
  cf := some (fileOf pool3 8 #[] #[] 1537 35 #[] #[])
  fields := #[]
  methods := #[]
  instanceTypes := #[]
  staticTypes := #[]
  resolved := Array.replicate 62 none
  statics := none }

def pool4 : Array CpInfo := pool [(10, .class_ 12), (1, u "java/util/Collection"), (47, .class_ 61), (0, u "java/lang/Object"), (0, .class_ 63), (0, u "java/lang/Iterable")] 51

/-- java/util/Collection -/
def k4 : Class := { plain "java/util/Collection" (some 0) with
  accessFlags := 1537
  interfaces := #[3]
  cf := some (fileOf pool4 10 #[] #[] 1537 60 #[62] #[])
  fields := #[]
  methods := #[]
  instanceTypes := #[]
  staticTypes := #[]
  resolved := Array.replicate 115 none
  statics := none }

def pool5 : Array CpInfo := pool [(1, .methodref 2 3), (0, .class_ 4), (0, .nameAndType 5 6), (0, u "java/lang/Object"), (0, u "<init>"), (0, u "()V"), (1, .class_ 10), (1, u "java/util/AbstractCollection"), (66, .class_ 78), (0, u "java/util/Collection")] 81

def k5c0 : Code := { maxStack := 1, maxLocals := 1, code := jdk_22_method_1_code, exceptionTable := #[], attributes := #[] }
def k5m0 : Method := { name := "<init>", desc := "()V", sig := { parameters := [], returnType := none }, accessFlags := 4, code := some k5c0 }
/-- java/util/AbstractCollection -/
def k5 : Class := { plain "java/util/AbstractCollection" (some 0) with
  accessFlags := 1057
  interfaces := #[4]
  cf := some (fileOf pool5 8 #[] #[{ accessFlags := 4, nameIndex := 5, descriptorIndex := 6, attributes := #[] }] 1057 2 #[77] #[])
  fields := #[]
  methods := #[k5m0]
  instanceTypes := #[]
  staticTypes := #[]
  resolved := Array.replicate 160 none
  statics := none }

def pool6 : Array CpInfo := pool [(8, .class_ 10), (1, u "java/util/SequencedCollection"), (15, .class_ 27), (0, u "java/lang/Object"), (0, .class_ 29), (0, u "java/util/Collection")] 27

/-- java/util/SequencedCollection -/
def k6 : Class := { plain "java/util/SequencedCollection" (some 0) with
  accessFlags := 1537
  interfaces := #[4]
  cf := some (fileOf pool6 8 #[] #[] 1537 26 #[28] #[])
  fields := #[]
  methods := #[]
  instanceTypes := #[]
  staticTypes := #[]
  resolved := Array.replicate 57 none
  statics := none }

def pool7 : Array CpInfo := pool [(8, .class_ 10), (1, u "java/util/List"), (49, u "add"), (3, u "(Ljava/lang/Object;)Z"), (10, u "get"), (0, u "(I)Ljava/lang/Object;"), (2, u "size"), (0, u "()I"), (22, .class_ 104), (0, u "java/lang/Object"), (15, .class_ 121), (0, u "java/util/SequencedCollection")] 129

def k7m0 : Method := { name := "size", desc := "()I", sig := { parameters := [], returnType := some .int }, accessFlags := 1025, code := none }
def k7m1 : Method := { name := "add", desc := "(Ljava/lang/Object;)Z", sig := { parameters := [(.object "java/lang/Object")], returnType := some .boolean }, accessFlags := 1025, code := none }
def k7m2 : Method := { name := "get", desc := "(I)Ljava/lang/Object;", sig := { parameters := [.int], returnType := some (.object "java/lang/Object") }, accessFlags := 1025, code := none }
/-- java/util/List -/
def k7 : Class := { plain "java/util/List" (some 0) with
  accessFlags := 1537
  interfaces := #[6]
  cf := some (fileOf pool7 8 #[] #[{ accessFlags := 1025, nameIndex := 79, descriptorIndex := 80, attributes := #[] }, { accessFlags := 1025, nameIndex := 60, descriptorIndex := 64, attributes := #[] }, { accessFlags := 1025, nameIndex := 75, descriptorIndex := 76, attributes := #[] }] 1537 103 #[120] #[])
  fields := #[]
  methods := #[k7m0, k7m1, k7m2]
  instanceTypes := #[]
  staticTypes := #[]
  resolved := Array.replicate 251 none
  statics := none }

def pool8 : Array CpInfo := pool [(1, .methodref 2 3), (0, .class_ 4), (0, .nameAndType 5 6), (0, u "java/util/AbstractCollection"), (0, u "<init>"), (0, u "()V"), (0, .fieldref 8 9), (0, .class_ 10), (0, .nameAndType 11 12), (0, u "java/util/AbstractList"), (0, u "modCount"), (0, u "I"), (64, .class_ 78), (0, u "java/util/AbstractList$Itr"), (3, .class_ 83), (0, u "java/util/AbstractList$ListItr"), (9, .class_ 94), (0, u "java/util/AbstractList$RandomAccessSubList"), (3, .class_ 99), (0, u "java/util/AbstractList$SubList"), (33, .class_ 134), (0, u "java/util/List"), (73, .class_ 209), (0, u "java/util/AbstractList$SubList$1"), (0, .class_ 211), (0, u "java/util/AbstractList$RandomAccessSpliterator")] 6

def k8c0 : Code := { maxStack := 2, maxLocals := 1, code := jdk_39_method_1_code, exceptionTable := #[], attributes := #[] }
def k8m0 : Method := { name := "<init>", desc := "()V", sig := { parameters := [], returnType := none }, accessFlags := 4, code := some k8c0 }
/-- java/util/AbstractList -/
def k8 : Class := { plain "java/util/AbstractList" (some 5) with
  accessFlags := 1057
  interfaces := #[7]
  cf := some (fileOf pool8 8 #[.nestMembers #[93, 98, 208, 210, 82, 77]] #[{ accessFlags := 4, nameIndex := 5, descriptorIndex := 6, attributes := #[] }] 1057 2 #[133] #[{ accessFlags := 132, nameIndex := 11, descriptorIndex := 12, attributes := #[] }])
  fields := #[{ name := "modCount", type := .int, accessFlags := 132, slot := 0, constantValue := 0 }]
  methods := #[k8m0]
  instanceTypes := #[.int]
  staticTypes := #[]
  resolved := Array.replicate 218 none
  statics := none }

def pool9 : Array CpInfo := pool [(1, .class_ 2), (0, u "java/util/RandomAccess"), (0, .class_ 4), (0, u "java/lang/Object")] 2

/-- java/util/RandomAccess -/
def k9 : Class := { plain "java/util/RandomAccess" (some 0) with
  accessFlags := 1537
  interfaces := #[]
  cf := some (fileOf pool9 1 #[] #[] 1537 3 #[] #[])
  fields := #[]
  methods := #[]
  instanceTypes := #[]
  staticTypes := #[]
  resolved := Array.replicate 7 none
  statics := none }

def pool10 : Array CpInfo := pool [(1, .class_ 2), (0, u "java/lang/Cloneable"), (0, .class_ 4), (0, u "java/lang/Object")] 2

/-- java/lang/Cloneable -/
def k10 : Class := { plain "java/lang/Cloneable" (some 0) with
  accessFlags := 1537
  interfaces := #[]
  cf := some (fileOf pool10 1 #[] #[] 1537 3 #[] #[])
  fields := #[]
  methods := #[]
  instanceTypes := #[]
  staticTypes := #[]
  resolved := Array.replicate 7 none
  statics := none }

def pool11 : Array CpInfo := pool [(1, .class_ 2), (0, u "java/io/Serializable"), (0, .class_ 4), (0, u "java/lang/Object")] 2

/-- java/io/Serializable -/
def k11 : Class := { plain "java/io/Serializable" (some 0) with
  accessFlags := 1537
  interfaces := #[]
  cf := some (fileOf pool11 1 #[] #[] 1537 3 #[] #[])
  fields := #[]
  methods := #[]
  instanceTypes := #[]
  staticTypes := #[]
  resolved := Array.replicate 7 none
  statics := none }

def pool12 : Array CpInfo := pool [(1, .methodref 2 3), (0, .class_ 4), (0, .nameAndType 5 6), (0, u "java/util/AbstractList"), (0, u "<init>"), (0, u "()V"), (0, .class_ 8), (0, u "java/lang/Object"), (0, .fieldref 10 11), (0, .class_ 12), (0, .nameAndType 13 14), (0, u "java/util/ArrayList"), (0, u "elementData"), (0, u "[Ljava/lang/Object;"), (2, u "EMPTY_ELEMENTDATA"), (21, .fieldref 10 40), (0, .nameAndType 41 14), (0, u "DEFAULTCAPACITY_EMPTY_ELEMENTDATA"), (5, u "()[Ljava/lang/Object;"), (0, .fieldref 10 49), (0, .nameAndType 50 51), (0, u "size"), (0, u "I"), (11, .fieldref 10 64), (0, .nameAndType 65 51), (0, u "modCount"), (3, .methodref 10 70), (0, .nameAndType 71 72), (0, u "grow"), (0, u "(I)[Ljava/lang/Object;"), (6, .methodref 80 81), (0, .class_ 82), (0, .nameAndType 83 84), (0, u "java/lang/Math"), (0, u "max"), (0, u "(II)I"), (11, u "(Ljava/lang/Object;)Z"), (21, .methodref 119 120), (0, .class_ 121), (0, .nameAndType 122 84), (0, u "java/util/Objects"), (0, u "checkIndex"), (0, .methodref 10 124), (0, .nameAndType 13 125), (0, u "(I)Ljava/lang/Object;"), (3, .methodref 10 130), (0, .nameAndType 71 47), (0, .methodref 10 132), (0, .nameAndType 133 134), (0, u "add"), (0, u "(Ljava/lang/Object;[Ljava/lang/Object;I)V"), (13, .class_ 149), (0, u "java/util/List"), (36, u "()I"), (75, .class_ 263), (0, u "java/util/ArrayList$ListItr"), (3, .class_ 268), (0, u "java/util/ArrayList$Itr"), (7, .class_ 277), (0, u "java/util/ArrayList$SubList"), (12, .class_ 291), (0, u "java/util/ArrayList$ArrayListSpliterator"), (37, .class_ 330), (0, u "java/util/RandomAccess"), (0, .class_ 332), (0, u "java/lang/Cloneable"), (0, .class_ 334), (0, u "java/io/Serializable"), (0, u "serialVersionUID"), (0, u "J"), (3, u "DEFAULT_CAPACITY"), (40, u "get"), (118, .class_ 501), (0, u "java/util/ArrayList$SubList$2"), (0, .class_ 503), (0, u "java/util/ArrayList$SubList$1")] 5

def k12c0 : Code := { maxStack := 2, maxLocals := 1, code := jdk_38_method_2_code, exceptionTable := #[], attributes := #[] }
def k12m0 : Method := { name := "<init>", desc := "()V", sig := { parameters := [], returnType := none }, accessFlags := 1, code := some k12c0 }
def k12c1 : Code := { maxStack := 4, maxLocals := 4, code := jdk_38_method_6_code, exceptionTable := #[], attributes := #[] }
def k12m1 : Method := { name := "grow", desc := "(I)[Ljava/lang/Object;", sig := { parameters := [.int], returnType := some (.array (.object "java/lang/Object")) }, accessFlags := 2, code := some k12c1 }
def k12c2 : Code := { maxStack := 3, maxLocals := 1, code := jdk_38_method_7_code, exceptionTable := #[], attributes := #[] }
def k12m2 : Method := { name := "grow", desc := "()[Ljava/lang/Object;", sig := { parameters := [], returnType := some (.array (.object "java/lang/Object")) }, accessFlags := 2, code := some k12c2 }
def k12c3 : Code := { maxStack := 1, maxLocals := 1, code := jdk_38_method_8_code, exceptionTable := #[], attributes := #[] }
def k12m3 : Method := { name := "size", desc := "()I", sig := { parameters := [], returnType := some .int }, accessFlags := 1, code := some k12c3 }
def k12c4 : Code := { maxStack := 2, maxLocals := 2, code := jdk_38_method_18_code, exceptionTable := #[], attributes := #[] }
def k12m4 : Method := { name := "elementData", desc := "(I)Ljava/lang/Object;", sig := { parameters := [.int], returnType := some (.object "java/lang/Object") }, accessFlags := 0, code := some k12c4 }
def k12c5 : Code := { maxStack := 2, maxLocals := 2, code := jdk_38_method_20_code, exceptionTable := #[], attributes := #[] }
def k12m5 : Method := { name := "get", desc := "(I)Ljava/lang/Object;", sig := { parameters := [.int], returnType := some (.object "java/lang/Object") }, accessFlags := 1, code := some k12c5 }
def k12c6 : Code := { maxStack := 3, maxLocals := 4, code := jdk_38_method_24_code, exceptionTable := #[], attributes := #[] }
def k12m6 : Method := { name := "add", desc := "(Ljava/lang/Object;[Ljava/lang/Object;I)V", sig := { parameters := [(.object "java/lang/Object"), (.array (.object "java/lang/Object")), .int], returnType := none }, accessFlags := 2, code := some k12c6 }
def k12c7 : Code := { maxStack := 4, maxLocals := 2, code := jdk_38_method_25_code, exceptionTable := #[], attributes := #[] }
def k12m7 : Method := { name := "add", desc := "(Ljava/lang/Object;)Z", sig := { parameters := [(.object "java/lang/Object")], returnType := some .boolean }, accessFlags := 1, code := some k12c7 }
/-- java/util/ArrayList -/
def k12 : Class := { plain "java/util/ArrayList" (some 8) with
  accessFlags := 33
  interfaces := #[7, 9, 10, 11]
  cf := some (fileOf pool12 10 #[.nestMembers #[290, 276, 500, 502, 262, 267]] #[{ accessFlags := 1, nameIndex := 5, descriptorIndex := 6, attributes := #[] }, { accessFlags := 2, nameIndex := 71, descriptorIndex := 72, attributes := #[] }, { accessFlags := 2, nameIndex := 71, descriptorIndex := 47, attributes := #[] }, { accessFlags := 1, nameIndex := 50, descriptorIndex := 186, attributes := #[] }, { accessFlags := 0, nameIndex := 13, descriptorIndex := 125, attributes := #[] }, { accessFlags := 1, nameIndex := 381, descriptorIndex := 125, attributes := #[] }, { accessFlags := 2, nameIndex := 133, descriptorIndex := 134, attributes := #[] }, { accessFlags := 1, nameIndex := 133, descriptorIndex := 96, attributes := #[] }] 33 2 #[148, 329, 331, 333] #[{ accessFlags := 26, nameIndex := 335, descriptorIndex := 336, attributes := #[] }, { accessFlags := 26, nameIndex := 340, descriptorIndex := 51, attributes := #[] }, { accessFlags := 26, nameIndex := 17, descriptorIndex := 14, attributes := #[] }, { accessFlags := 26, nameIndex := 41, descriptorIndex := 14, attributes := #[] }, { accessFlags := 128, nameIndex := 13, descriptorIndex := 14, attributes := #[] }, { accessFlags := 2, nameIndex := 50, descriptorIndex := 51, attributes := #[] }])
  fields := #[{ name := "serialVersionUID", type := .long, accessFlags := 26, slot := 0, constantValue := 0 }, { name := "DEFAULT_CAPACITY", type := .int, accessFlags := 26, slot := 1, constantValue := 0 }, { name := "EMPTY_ELEMENTDATA", type := (.array (.object "java/lang/Object")), accessFlags := 26, slot := 2, constantValue := 0 }, { name := "DEFAULTCAPACITY_EMPTY_ELEMENTDATA", type := (.array (.object "java/lang/Object")), accessFlags := 26, slot := 3, constantValue := 0 }, { name := "elementData", type := (.array (.object "java/lang/Object")), accessFlags := 128, slot := 1, constantValue := 0 }, { name := "size", type := .int, accessFlags := 2, slot := 2, constantValue := 0 }]
  methods := #[k12m0, k12m1, k12m2, k12m3, k12m4, k12m5, k12m6, k12m7]
  instanceTypes := #[.int, (.array (.object "java/lang/Object")), .int]
  staticTypes := #[.long, .int, (.array (.object "java/lang/Object")), (.array (.object "java/lang/Object"))]
  resolved := Array.replicate 509 none
  statics := some 0 }

def pool13 : Array CpInfo := pool [(2, .class_ 4), (1, u "java/lang/Object"), (0, u "<init>"), (0, u "()V"), (7, .class_ 16), (1, u "java/util/Arrays"), (57, .class_ 76), (1, u "java/util/Arrays$NaturalOrder"), (32, u "()Ljava/lang/Object;"), (3, .class_ 115), (1, u "java/util/Arrays$LegacyMergeSort"), (1, u "Z"), (10, .nameAndType 129 109), (0, u "clone"), (9, u "copyOfRange"), (10, .methodref 151 152), (0, .class_ 153), (0, .nameAndType 154 155), (0, u "java/lang/System"), (0, u "arraycopy"), (0, u "(Ljava/lang/Object;ILjava/lang/Object;II)V"), (148, .methodref 305 306), (0, .class_ 307), (0, .nameAndType 308 309), (0, u "java/lang/Math"), (0, u "min"), (0, u "(II)I"), (0, .methodref 311 128), (0, .class_ 312), (0, u "[B"), (26, .methodref 14 340), (0, .nameAndType 341 342), (0, u "copyOfRangeByte"), (0, u "([BII)[B"), (0, .methodref 14 344), (0, .nameAndType 345 346), (0, u "checkLength"), (0, u "(II)V"), (28, .class_ 376), (0, u "java/util/Arrays$ArrayList"), (68, u "$assertionsDisabled"), (269, u "MIN_ARRAY_SORT_GRAN"), (0, u "I"), (2, u "INSERTIONSORT_THRESHOLD"), (255, .class_ 976), (0, u "java/util/Arrays$ArrayItr")] 52

def k13m0 : Method := { name := "<init>", desc := "()V", sig := { parameters := [], returnType := none }, accessFlags := 2, code := none }
def k13c1 : Code := { maxStack := 4, maxLocals := 2, code := jdk_65_method_131_code, exceptionTable := #[], attributes := #[] }
def k13m1 : Method := { name := "checkLength", desc := "(II)V", sig := { parameters := [.int, .int], returnType := none }, accessFlags := 10, code := some k13c1 }
def k13c2 : Code := { maxStack := 3, maxLocals := 3, code := jdk_65_method_132_code, exceptionTable := #[], attributes := #[] }
def k13m2 : Method := { name := "copyOfRange", desc := "([BII)[B", sig := { parameters := [(.array .byte), .int, .int], returnType := some (.array .byte) }, accessFlags := 9, code := some k13c2 }
def k13c3 : Code := { maxStack := 6, maxLocals := 5, code := jdk_65_method_133_code, exceptionTable := #[], attributes := #[] }
def k13m3 : Method := { name := "copyOfRangeByte", desc := "([BII)[B", sig := { parameters := [(.array .byte), .int, .int], returnType := some (.array .byte) }, accessFlags := 10, code := some k13c3 }
/-- java/util/Arrays -/
def k13 : Class := { plain "java/util/Arrays" (some 0) with
  accessFlags := 49
  interfaces := #[]
  cf := some (fileOf pool13 14 #[.nestMembers #[975, 375, 113, 74]] #[{ accessFlags := 2, nameIndex := 5, descriptorIndex := 6, attributes := #[] }, { accessFlags := 10, nameIndex := 345, descriptorIndex := 346, attributes := #[] }, { accessFlags := 9, nameIndex := 139, descriptorIndex := 342, attributes := #[] }, { accessFlags := 10, nameIndex := 341, descriptorIndex := 342, attributes := #[] }] 49 2 #[] #[{ accessFlags := 26, nameIndex := 715, descriptorIndex := 716, attributes := #[] }, { accessFlags := 26, nameIndex := 719, descriptorIndex := 716, attributes := #[] }, { accessFlags := 4120, nameIndex := 445, descriptorIndex := 117, attributes := #[] }])
  fields := #[{ name := "MIN_ARRAY_SORT_GRAN", type := .int, accessFlags := 26, slot := 0, constantValue := 0 }, { name := "INSERTIONSORT_THRESHOLD", type := .int, accessFlags := 26, slot := 1, constantValue := 0 }, { name := "$assertionsDisabled", type := .boolean, accessFlags := 4120, slot := 2, constantValue := 0 }]
  methods := #[k13m0, k13m1, k13m2, k13m3]
  instanceTypes := #[]
  staticTypes := #[.int, .int, .boolean]
  resolved := Array.replicate 1029 none
  statics := none }

def pool14 : Array CpInfo := pool [(1, .class_ 2), (0, u "java/lang/Math"), (1, .class_ 6), (1, u "java/lang/Object"), (0, u "<init>"), (0, u "()V"), (89, .class_ 100), (1, u "java/lang/Math$RandomNumberGeneratorHolder"), (71, u "negativeZeroFloatBits"), (0, u "J"), (2, u "negativeZeroDoubleBits"), (21, u "max"), (2, u "min"), (43, u "$assertionsDisabled"), (0, u "Z"), (88, u "(II)I"), (2, u "twoToTheDoubleScaleDown"), (0, u "D"), (4, u "twoToTheDoubleScaleUp"), (9, u "E"), (3, u "PI"), (2, u "TAU"), (2, u "DEGREES_TO_RADIANS"), (0, u "RADIANS_TO_DEGREES")] 94

def k14m0 : Method := { name := "<init>", desc := "()V", sig := { parameters := [], returnType := none }, accessFlags := 2, code := none }
def k14c1 : Code := { maxStack := 2, maxLocals := 2, code := jdk_29_method_65_code, exceptionTable := #[], attributes := #[] }
def k14m1 : Method := { name := "max", desc := "(II)I", sig := { parameters := [.int, .int], returnType := some .int }, accessFlags := 9, code := some k14c1 }
def k14c2 : Code := { maxStack := 2, maxLocals := 2, code := jdk_29_method_69_code, exceptionTable := #[], attributes := #[] }
def k14m2 : Method := { name := "min", desc := "(II)I", sig := { parameters := [.int, .int], returnType := some .int }, accessFlags := 9, code := some k14c2 }
/-- java/lang/Math -/
def k14 : Class := { plain "java/lang/Math" (some 0) with
  accessFlags := 49
  interfaces := #[]
  cf := some (fileOf pool14 1 #[.nestMembers #[98]] #[{ accessFlags := 2, nameIndex := 7, descriptorIndex := 8, attributes := #[] }, { accessFlags := 9, nameIndex := 198, descriptorIndex := 335, attributes := #[] }, { accessFlags := 9, nameIndex := 201, descriptorIndex := 335, attributes := #[] }] 49 4 #[] #[{ accessFlags := 25, nameIndex := 354, descriptorIndex := 339, attributes := #[] }, { accessFlags := 25, nameIndex := 358, descriptorIndex := 339, attributes := #[] }, { accessFlags := 25, nameIndex := 361, descriptorIndex := 339, attributes := #[] }, { accessFlags := 26, nameIndex := 364, descriptorIndex := 339, attributes := #[] }, { accessFlags := 26, nameIndex := 365, descriptorIndex := 339, attributes := #[] }, { accessFlags := 26, nameIndex := 172, descriptorIndex := 173, attributes := #[] }, { accessFlags := 26, nameIndex := 176, descriptorIndex := 173, attributes := #[] }, { accessFlags := 8, nameIndex := 344, descriptorIndex := 339, attributes := #[] }, { accessFlags := 8, nameIndex := 338, descriptorIndex := 339, attributes := #[] }, { accessFlags := 4120, nameIndex := 245, descriptorIndex := 246, attributes := #[] }])
  fields := #[{ name := "E", type := .double, accessFlags := 25, slot := 0, constantValue := 0 }, { name := "PI", type := .double, accessFlags := 25, slot := 1, constantValue := 0 }, { name := "TAU", type := .double, accessFlags := 25, slot := 2, constantValue := 0 }, { name := "DEGREES_TO_RADIANS", type := .double, accessFlags := 26, slot := 3, constantValue := 0 }, { name := "RADIANS_TO_DEGREES", type := .double, accessFlags := 26, slot := 4, constantValue := 0 }, { name := "negativeZeroFloatBits", type := .long, accessFlags := 26, slot := 5, constantValue := 0 }, { name := "negativeZeroDoubleBits", type := .long, accessFlags := 26, slot := 6, constantValue := 0 }, { name := "twoToTheDoubleScaleUp", type := .double, accessFlags := 8, slot := 7, constantValue := 0 }, { name := "twoToTheDoubleScaleDown", type := .double, accessFlags := 8, slot := 8, constantValue := 0 }, { name := "$assertionsDisabled", type := .boolean, accessFlags := 4120, slot := 9, constantValue := 0 }]
  methods := #[k14m0, k14m1, k14m2]
  instanceTypes := #[]
  staticTypes := #[.double, .double, .double, .double, .double, .long, .long, .double, .double, .boolean]
  resolved := Array.replicate 460 none
  statics := none }

def pool15 : Array CpInfo := pool [(2, .class_ 4), (1, u "java/lang/Object"), (0, u "<init>"), (0, u "()V"), (1, .class_ 10), (1, u "java/lang/System"), (0, u "allowSecurityManager"), (0, u "I"), (16, u "cons"), (0, u "Ljava/io/Console;"), (77, .class_ 110), (1, u "java/lang/System$CallersHolder"), (43, u "initialErrStream"), (0, u "Ljava/io/PrintStream;"), (19, u "security"), (0, u "Ljava/lang/SecurityManager;"), (31, .class_ 209), (0, u "java/lang/System$1"), (7, u "props"), (0, u "Ljava/util/Properties;"), (2, u "lineSeparator"), (0, u "Ljava/lang/String;"), (96, .class_ 321), (1, u "java/lang/System$LoggerFinder"), (5, .class_ 328), (0, u "java/lang/System$Logger"), (67, u "err"), (2, u "out"), (91, u "notSupportedJnuEncoding"), (15, u "in"), (17, u "initialIn"), (0, u "Ljava/io/InputStream;"), (35, u "bootLayer"), (0, u "Ljava/lang/ModuleLayer;"), (99, .class_ 664), (0, u "java/lang/System$2"), (9, u "NEVER"), (2, u "MAYBE"), (49, u "arraycopy"), (0, u "(Ljava/lang/Object;ILjava/lang/Object;II)V"), (72, .class_ 802), (0, u "java/lang/System$Logger$Level")] 31

def k15m0 : Method := { name := "<init>", desc := "()V", sig := { parameters := [], returnType := none }, accessFlags := 2, code := none }
def k15m1 : Method := { name := "arraycopy", desc := "(Ljava/lang/Object;ILjava/lang/Object;II)V", sig := { parameters := [(.object "java/lang/Object"), .int, (.object "java/lang/Object"), .int, .int], returnType := none }, accessFlags := 265, code := none }
/-- java/lang/System -/
def k15 : Class := { plain "java/lang/System" (some 0) with
  accessFlags := 49
  interfaces := #[]
  cf := some (fileOf pool15 8 #[.nestMembers #[319, 327, 801, 108, 663, 208]] #[{ accessFlags := 2, nameIndex := 5, descriptorIndex := 6, attributes := #[] }, { accessFlags := 265, nameIndex := 727, descriptorIndex := 728, attributes := #[] }] 49 2 #[] #[{ accessFlags := 25, nameIndex := 507, descriptorIndex := 526, attributes := #[] }, { accessFlags := 25, nameIndex := 399, descriptorIndex := 155, attributes := #[] }, { accessFlags := 25, nameIndex := 396, descriptorIndex := 155, attributes := #[] }, { accessFlags := 10, nameIndex := 525, descriptorIndex := 526, attributes := #[] }, { accessFlags := 26, nameIndex := 674, descriptorIndex := 12, attributes := #[] }, { accessFlags := 26, nameIndex := 677, descriptorIndex := 12, attributes := #[] }, { accessFlags := 10, nameIndex := 11, descriptorIndex := 12, attributes := #[] }, { accessFlags := 74, nameIndex := 175, descriptorIndex := 176, attributes := #[] }, { accessFlags := 10, nameIndex := 491, descriptorIndex := 222, attributes := #[] }, { accessFlags := 74, nameIndex := 29, descriptorIndex := 30, attributes := #[] }, { accessFlags := 74, nameIndex := 154, descriptorIndex := 155, attributes := #[] }, { accessFlags := 10, nameIndex := 217, descriptorIndex := 218, attributes := #[] }, { accessFlags := 10, nameIndex := 221, descriptorIndex := 222, attributes := #[] }, { accessFlags := 8, nameIndex := 562, descriptorIndex := 563, attributes := #[] }])
  fields := #[{ name := "in", type := (.object "java/io/InputStream"), accessFlags := 25, slot := 0, constantValue := 0 }, { name := "out", type := (.object "java/io/PrintStream"), accessFlags := 25, slot := 1, constantValue := 0 }, { name := "err", type := (.object "java/io/PrintStream"), accessFlags := 25, slot := 2, constantValue := 0 }, { name := "initialIn", type := (.object "java/io/InputStream"), accessFlags := 10, slot := 3, constantValue := 0 }, { name := "NEVER", type := .int, accessFlags := 26, slot := 4, constantValue := 0 }, { name := "MAYBE", type := .int, accessFlags := 26, slot := 5, constantValue := 0 }, { name := "allowSecurityManager", type := .int, accessFlags := 10, slot := 6, constantValue := 0 }, { name := "security", type := (.object "java/lang/SecurityManager"), accessFlags := 74, slot := 7, constantValue := 0 }, { name := "notSupportedJnuEncoding", type := (.object "java/lang/String"), accessFlags := 10, slot := 8, constantValue := 0 }, { name := "cons", type := (.object "java/io/Console"), accessFlags := 74, slot := 9, constantValue := 0 }, { name := "initialErrStream", type := (.object "java/io/PrintStream"), accessFlags := 74, slot := 10, constantValue := 0 }, { name := "props", type := (.object "java/util/Properties"), accessFlags := 10, slot := 11, constantValue := 0 }, { name := "lineSeparator", type := (.object "java/lang/String"), accessFlags := 10, slot := 12, constantValue := 0 }, { name := "bootLayer", type := (.object "java/lang/ModuleLayer"), accessFlags := 8, slot := 13, constantValue := 0 }]
  methods := #[k15m0, k15m1]
  instanceTypes := #[]
  staticTypes := #[(.object "java/io/InputStream"), (.object "java/io/PrintStream"), (.object "java/io/PrintStream"), (.object "java/io/InputStream"), .int, .int, .int, (.object "java/lang/SecurityManager"), (.object "java/lang/String"), (.object "java/io/Console"), (.object "java/io/PrintStream"), (.object "java/util/Properties"), (.object "java/lang/String"), (.object "java/lang/ModuleLayer")]
  resolved := Array.replicate 834 none
  statics := none }

def pool16 : Array CpInfo := pool [(2, .class_ 4), (1, u "java/lang/Object"), (0, u "<init>"), (0, u "()V"), (35, .class_ 44), (1, u "java/util/Objects"), (60, .methodref 106 107), (0, .class_ 108), (0, .nameAndType 109 110), (0, u "jdk/internal/util/Preconditions"), (0, u "checkIndex"), (0, u "(IILjava/util/function/BiFunction;)I"), (60, u "(II)I")] 12

def k16m0 : Method := { name := "<init>", desc := "()V", sig := { parameters := [], returnType := none }, accessFlags := 2, code := none }
def k16c1 : Code := { maxStack := 3, maxLocals := 2, code := jdk_31_method_17_code, exceptionTable := #[], attributes := #[] }
def k16m1 : Method := { name := "checkIndex", desc := "(II)I", sig := { parameters := [.int, .int], returnType := some .int }, accessFlags := 9, code := some k16c1 }
/-- java/util/Objects -/
def k16 : Class := { plain "java/util/Objects" (some 0) with
  accessFlags := 49
  interfaces := #[]
  cf := some (fileOf pool16 42 #[] #[{ accessFlags := 2, nameIndex := 5, descriptorIndex := 6, attributes := #[] }, { accessFlags := 9, nameIndex := 109, descriptorIndex := 171, attributes := #[] }] 49 2 #[] #[])
  fields := #[]
  methods := #[k16m0, k16m1]
  instanceTypes := #[]
  staticTypes := #[]
  resolved := Array.replicate 184 none
  statics := none }

def pool17 : Array CpInfo := pool [(2, .class_ 4), (1, u "java/lang/Object"), (0, u "<init>"), (0, u "()V"), (17, .class_ 26), (1, u "jdk/internal/util/Preconditions"), (6, u "checkIndex"), (21, .class_ 56), (0, u "jdk/internal/util/Preconditions$4"), (57, .class_ 115), (0, u "jdk/internal/util/Preconditions$1"), (7, u "SIOOBE_FORMATTER"), (0, u "Ljava/util/function/BiFunction;"), (0, .class_ 126), (0, u "jdk/internal/util/Preconditions$2"), (3, u "AIOOBE_FORMATTER"), (0, .class_ 132), (0, u "jdk/internal/util/Preconditions$3"), (3, u "IOOBE_FORMATTER"), (41, u "(IILjava/util/function/BiFunction;)I")] 15

def k17m0 : Method := { name := "<init>", desc := "()V", sig := { parameters := [], returnType := none }, accessFlags := 1, code := none }
def k17c1 : Code := { maxStack := 3, maxLocals := 3, code := jdk_41_method_11_code, exceptionTable := #[], attributes := #[] }
def k17m1 : Method := { name := "checkIndex", desc := "(IILjava/util/function/BiFunction;)I", sig := { parameters := [.int, .int, (.object "java/util/function/BiFunction")], returnType := some .int }, accessFlags := 9, code := some k17c1 }
/-- jdk/internal/util/Preconditions -/
def k17 : Class := { plain "jdk/internal/util/Preconditions" (some 0) with
  accessFlags := 33
  interfaces := #[]
  cf := some (fileOf pool17 24 #[.nestMembers #[55, 131, 125, 114]] #[{ accessFlags := 1, nameIndex := 5, descriptorIndex := 6, attributes := #[] }, { accessFlags := 9, nameIndex := 33, descriptorIndex := 178, attributes := #[] }] 33 2 #[] #[{ accessFlags := 25, nameIndex := 123, descriptorIndex := 124, attributes := #[] }, { accessFlags := 25, nameIndex := 130, descriptorIndex := 124, attributes := #[] }, { accessFlags := 25, nameIndex := 136, descriptorIndex := 124, attributes := #[] }])
  fields := #[{ name := "SIOOBE_FORMATTER", type := (.object "java/util/function/BiFunction"), accessFlags := 25, slot := 0, constantValue := 0 }, { name := "AIOOBE_FORMATTER", type := (.object "java/util/function/BiFunction"), accessFlags := 25, slot := 1, constantValue := 0 }, { name := "IOOBE_FORMATTER", type := (.object "java/util/function/BiFunction"), accessFlags := 25, slot := 2, constantValue := 0 }]
  methods := #[k17m0, k17m1]
  instanceTypes := #[]
  staticTypes := #[(.object "java/util/function/BiFunction"), (.object "java/util/function/BiFunction"), (.object "java/util/function/BiFunction")]
  resolved := Array.replicate 194 none
  statics := none }

/-- the primitive byte -/
def k18 : Class := { plain "byte" none with kind := .primitive 'B', accessFlags := 0x411 }
/-- [B -/
def k19 : Class := { plain "[B" (some 0) with kind := .array 18 .byte, interfaces := #[10, 11], accessFlags := 1041 }

/-- the primitive int -/
def k20 : Class := { plain "int" none with kind := .primitive 'I', accessFlags := 0x411 }
/-- [I -/
def k21 : Class := { plain "[I" (some 0) with kind := .array 20 .int, interfaces := #[10, 11], accessFlags := 1041 }

/-- [Ljava/lang/Object; -/
def k22 : Class := { plain "[Ljava/lang/Object;" (some 0) with kind := .array 0 (.object "java/lang/Object"), interfaces := #[10, 11], accessFlags := 1041 }

def heap : Heap := #[{ cls := 12, slots := #[.long 0, .int 0, .ref 1, .ref 2], vm := .statics 12 },
  { cls := 22, slots := #[], vm := .none },
  { cls := 22, slots := #[], vm := .none }]
def classes : Array Class := #[k0, k1, k2, k3, k4, k5, k6, k7, k8, k9, k10, k11, k12, k13, k14, k15, k16, k17, k18, k19, k20, k21, k22]
def interned : List (Array UInt16 × Addr) := []
def slotsUsed : Nat := 4
def theMethod : MethodId := ⟨1, 1⟩
def args0 : Array Value := #[.int 4, .int 5, .int 6, .int 7]
def aboutOver (below : List Frame) : State where
  vm := { classes := classes, interned := interned.toArray }
  heap := heap
  slotsUsed := slotsUsed
  threads := #[{ frames := .invoking theMethod args0 :: below }]
def below0 : List Frame := [.native { method := ⟨0, 0⟩, args := #[] }]
def about1 : State := aboutOver below0
def p0 : Program := .bare "" "" ""
def e0 : Env := launch0.env 0 0 0
theorem w_frames : about1.frames = Frame.invoking theMethod args0 :: below0 := rfl
set_option maxRecDepth 65536 in
theorem w_args : argsFit about1.vm theMethod args0 = true := by decide +kernel
set_option maxRecDepth 65536 in
theorem w_heap : heapFits about1 = true := by decide +kernel
set_option maxRecDepth 65536 in
theorem w_runnable : about1.curStatus? = some .runnable := by decide +kernel
set_option maxRecDepth 65536 in
theorem w_alone : about1.alone = true := by decide +kernel
set_option maxRecDepth 65536 in
theorem w_named : about1.methodNamed? x = some theMethod := by decide +kernel
set_option maxRecDepth 65536 in
theorem w_hears : about1.hears theMethod below0 = true := by decide +kernel
set_option maxRecDepth 65536 in
theorem w_ripe : about1.ripe theMethod args0 below0 = true := by decide +kernel
theorem w_running : about1.status = .running := rfl
set_option maxRecDepth 65536 in
theorem w_room : about1.hasRoom e0.platform room_1 = true :=
  launch0.hasRoom_least _ room_1 (by decide +kernel) (by decide +kernel) (by decide +kernel) (by decide +kernel) (by decide +kernel) (by decide +kernel)
theorem allAtoms_all (ts : List Jvm.Cond) (a : Array Jvm.Value) (st : Jvm.State) : (allAtoms ts).before a st = ts.all (fun c => c.before a st) := by
  induction ts with
  | nil => rfl
  | cons c t ih =>
    show (Jvm.Cond.and c (allAtoms t)).before a st = _
    rw [Jvm.Cond.before_and, ih, List.all_cons]
def words1 : List Jvm.Cond := Jvm.Cond.code x code maxLocals ret :: tables_1
/-- a 'code' word, met by the world's own term for the bytes: nothing is compared byte by byte -/
theorem code_word {y : MethodName} {bytes : ByteArray} {mx : Nat} {rt : Option FieldType} {a : Array Value} {s : State} {m : MethodId} {meth : Method} {c : Code} (h1 : s.methodNamed? y = some m) (h2 : s.vm.method? m = some meth) (h3 : meth.code = some c) (h4 : c.code = bytes)
    (h5 : (c.maxLocals == mx && c.exceptionTable.isEmpty && decide (c.maxStack ≤ mostOperands) && decide (meth.sig.returnType = rt) && !meth.locks && decide (parseMethodDescriptor y.desc = some meth.sig)) = true) : (Jvm.Cond.code y bytes mx rt).before a s = true := by
  simp only [Bool.and_eq_true, beq_iff_eq, Bool.not_eq_true', decide_eq_true_eq] at h5
  obtain ⟨⟨⟨⟨⟨g1, g2⟩, g3⟩, g4⟩, g5⟩, g6⟩ := h5
  simp [Cond.before, Cond.holds, Cond.value, h1, h2, h3, h4, g1, g2, g3, g4, g5, g6]
def isCode : Jvm.Cond → Bool
  | .code _ _ _ _ => true
  | _ => false
theorem all_split {L : List Jvm.Cond} {P : Jvm.Cond → Bool} (h1 : L.all (fun c => isCode c || P c) = true) (h2 : ∀ c ∈ L.filter isCode, P c = true) : L.all P = true := by
  refine List.all_eq_true.mpr fun c hc => ?_
  have h := List.all_eq_true.mp h1 c hc
  rcases Bool.eq_false_or_eq_true (isCode c) with hi | hi
  · exact h2 c (List.mem_filter.mpr ⟨hc, hi⟩)
  · simpa [hi] using h
set_option maxRecDepth 65536 in
theorem w_c0 : (Jvm.Cond.code x code maxLocals ret).before args0 about1 = true := code_word (m := ⟨1, 1⟩) (meth := k1m1) (c := k1c1) (by decide +kernel) rfl rfl rfl (by decide +kernel)
set_option maxRecDepth 65536 in
theorem w_c1 : (Jvm.Cond.code ({ cls := "com/example/cronopoly/cronopoly/cli/Utf8", name := "records", desc := "([BB)Ljava/util/List;" } : Jvm.MethodName) prog_29_method_2_code (5 : Nat) (Option.some (Jvm.ClassFile.FieldType.object "java/util/List"))).before args0 about1 = true := code_word (m := ⟨2, 1⟩) (meth := k2m1) (c := k2c1) (by decide +kernel) rfl rfl rfl (by decide +kernel)
set_option maxRecDepth 65536 in
theorem w_c2 : (Jvm.Cond.code ({ cls := "java/util/ArrayList", name := "<init>", desc := "()V" } : Jvm.MethodName) jdk_38_method_2_code (1 : Nat) (Option.none : Option Jvm.ClassFile.FieldType)).before args0 about1 = true := code_word (m := ⟨12, 0⟩) (meth := k12m0) (c := k12c0) (by decide +kernel) rfl rfl rfl (by decide +kernel)
set_option maxRecDepth 65536 in
theorem w_c3 : (Jvm.Cond.code ({ cls := "java/util/AbstractList", name := "<init>", desc := "()V" } : Jvm.MethodName) jdk_39_method_1_code (1 : Nat) (Option.none : Option Jvm.ClassFile.FieldType)).before args0 about1 = true := code_word (m := ⟨8, 0⟩) (meth := k8m0) (c := k8c0) (by decide +kernel) rfl rfl rfl (by decide +kernel)
set_option maxRecDepth 65536 in
theorem w_c4 : (Jvm.Cond.code ({ cls := "java/util/AbstractCollection", name := "<init>", desc := "()V" } : Jvm.MethodName) jdk_22_method_1_code (1 : Nat) (Option.none : Option Jvm.ClassFile.FieldType)).before args0 about1 = true := code_word (m := ⟨5, 0⟩) (meth := k5m0) (c := k5c0) (by decide +kernel) rfl rfl rfl (by decide +kernel)
set_option maxRecDepth 65536 in
theorem w_c5 : (Jvm.Cond.code ({ cls := "java/lang/Object", name := "<init>", desc := "()V" } : Jvm.MethodName) object_method_1_code (1 : Nat) (Option.none : Option Jvm.ClassFile.FieldType)).before args0 about1 = true := code_word (m := ⟨0, 0⟩) (meth := k0m0) (c := k0c0) (by decide +kernel) rfl rfl rfl (by decide +kernel)
set_option maxRecDepth 65536 in
theorem w_c6 : (Jvm.Cond.code ({ cls := "java/util/ArrayList", name := "size", desc := "()I" } : Jvm.MethodName) jdk_38_method_8_code (1 : Nat) (Option.some Jvm.ClassFile.FieldType.int)).before args0 about1 = true := code_word (m := ⟨12, 3⟩) (meth := k12m3) (c := k12c3) (by decide +kernel) rfl rfl rfl (by decide +kernel)
set_option maxRecDepth 65536 in
theorem w_c7 : (Jvm.Cond.code ({ cls := "com/example/cronopoly/cronopoly/cli/Utf8RecordsPinLaw", name := "ok", desc := "(Ljava/util/List;[BIB)Z" } : Jvm.MethodName) method_7_code (7 : Nat) (Option.some Jvm.ClassFile.FieldType.boolean)).before args0 about1 = true := code_word (m := ⟨1, 6⟩) (meth := k1m6) (c := k1c6) (by decide +kernel) rfl rfl rfl (by decide +kernel)
set_option maxRecDepth 65536 in
theorem w_c8 : (Jvm.Cond.code ({ cls := "com/example/cronopoly/cronopoly/cli/Utf8RecordsPinLaw", name := "lenOf", desc := "(Ljava/util/List;I)I" } : Jvm.MethodName) method_8_code (3 : Nat) (Option.some Jvm.ClassFile.FieldType.int)).before args0 about1 = true := code_word (m := ⟨1, 7⟩) (meth := k1m7) (c := k1c7) (by decide +kernel) rfl rfl rfl (by decide +kernel)
set_option maxRecDepth 65536 in
theorem w_c9 : (Jvm.Cond.code ({ cls := "com/example/cronopoly/cronopoly/cli/Utf8RecordsPinLaw", name := "tb", desc := "([BIB)I" } : Jvm.MethodName) method_5_code (4 : Nat) (Option.some Jvm.ClassFile.FieldType.int)).before args0 about1 = true := code_word (m := ⟨1, 4⟩) (meth := k1m4) (c := k1c4) (by decide +kernel) rfl rfl rfl (by decide +kernel)
set_option maxRecDepth 65536 in
theorem w_c10 : (Jvm.Cond.code ({ cls := "com/example/cronopoly/cronopoly/cli/Utf8RecordsPinLaw", name := "pick", desc := "(IIIB)B" } : Jvm.MethodName) method_3_code (4 : Nat) (Option.some Jvm.ClassFile.FieldType.byte)).before args0 about1 = true := code_word (m := ⟨1, 2⟩) (meth := k1m2) (c := k1c2) (by decide +kernel) rfl rfl rfl (by decide +kernel)
set_option maxRecDepth 65536 in
theorem w_c11 : (Jvm.Cond.code ({ cls := "java/util/Arrays", name := "copyOfRange", desc := "([BII)[B" } : Jvm.MethodName) jdk_65_method_132_code (3 : Nat) (Option.some (Jvm.ClassFile.FieldType.array Jvm.ClassFile.FieldType.byte))).before args0 about1 = true := code_word (m := ⟨13, 2⟩) (meth := k13m2) (c := k13c2) (by decide +kernel) rfl rfl rfl (by decide +kernel)
set_option maxRecDepth 65536 in
theorem w_c12 : (Jvm.Cond.code ({ cls := "java/util/Arrays", name := "copyOfRangeByte", desc := "([BII)[B" } : Jvm.MethodName) jdk_65_method_133_code (5 : Nat) (Option.some (Jvm.ClassFile.FieldType.array Jvm.ClassFile.FieldType.byte))).before args0 about1 = true := code_word (m := ⟨13, 3⟩) (meth := k13m3) (c := k13c3) (by decide +kernel) rfl rfl rfl (by decide +kernel)
set_option maxRecDepth 65536 in
theorem w_c13 : (Jvm.Cond.code ({ cls := "java/util/Arrays", name := "checkLength", desc := "(II)V" } : Jvm.MethodName) jdk_65_method_131_code (2 : Nat) (Option.none : Option Jvm.ClassFile.FieldType)).before args0 about1 = true := code_word (m := ⟨13, 1⟩) (meth := k13m1) (c := k13c1) (by decide +kernel) rfl rfl rfl (by decide +kernel)
set_option maxRecDepth 65536 in
theorem w_c14 : (Jvm.Cond.code ({ cls := "java/lang/Math", name := "min", desc := "(II)I" } : Jvm.MethodName) jdk_29_method_69_code (2 : Nat) (Option.some Jvm.ClassFile.FieldType.int)).before args0 about1 = true := code_word (m := ⟨14, 2⟩) (meth := k14m2) (c := k14c2) (by decide +kernel) rfl rfl rfl (by decide +kernel)
set_option maxRecDepth 65536 in
theorem w_c15 : (Jvm.Cond.code ({ cls := "java/util/ArrayList", name := "add", desc := "(Ljava/lang/Object;)Z" } : Jvm.MethodName) jdk_38_method_25_code (2 : Nat) (Option.some Jvm.ClassFile.FieldType.boolean)).before args0 about1 = true := code_word (m := ⟨12, 7⟩) (meth := k12m7) (c := k12c7) (by decide +kernel) rfl rfl rfl (by decide +kernel)
set_option maxRecDepth 65536 in
theorem w_c16 : (Jvm.Cond.code ({ cls := "java/util/ArrayList", name := "add", desc := "(Ljava/lang/Object;[Ljava/lang/Object;I)V" } : Jvm.MethodName) jdk_38_method_24_code (4 : Nat) (Option.none : Option Jvm.ClassFile.FieldType)).before args0 about1 = true := code_word (m := ⟨12, 6⟩) (meth := k12m6) (c := k12c6) (by decide +kernel) rfl rfl rfl (by decide +kernel)
set_option maxRecDepth 65536 in
theorem w_c17 : (Jvm.Cond.code ({ cls := "java/util/ArrayList", name := "grow", desc := "()[Ljava/lang/Object;" } : Jvm.MethodName) jdk_38_method_7_code (1 : Nat) (Option.some (Jvm.ClassFile.FieldType.array (Jvm.ClassFile.FieldType.object "java/lang/Object")))).before args0 about1 = true := code_word (m := ⟨12, 2⟩) (meth := k12m2) (c := k12c2) (by decide +kernel) rfl rfl rfl (by decide +kernel)
set_option maxRecDepth 65536 in
theorem w_c18 : (Jvm.Cond.code ({ cls := "java/util/ArrayList", name := "grow", desc := "(I)[Ljava/lang/Object;" } : Jvm.MethodName) jdk_38_method_6_code (4 : Nat) (Option.some (Jvm.ClassFile.FieldType.array (Jvm.ClassFile.FieldType.object "java/lang/Object")))).before args0 about1 = true := code_word (m := ⟨12, 1⟩) (meth := k12m1) (c := k12c1) (by decide +kernel) rfl rfl rfl (by decide +kernel)
set_option maxRecDepth 65536 in
theorem w_c19 : (Jvm.Cond.code ({ cls := "java/lang/Math", name := "max", desc := "(II)I" } : Jvm.MethodName) jdk_29_method_65_code (2 : Nat) (Option.some Jvm.ClassFile.FieldType.int)).before args0 about1 = true := code_word (m := ⟨14, 1⟩) (meth := k14m1) (c := k14c1) (by decide +kernel) rfl rfl rfl (by decide +kernel)
set_option maxRecDepth 65536 in
theorem w_c20 : (Jvm.Cond.code ({ cls := "com/example/cronopoly/cronopoly/cli/Utf8RecordsPinLaw", name := "isT", desc := "([BIB)Z" } : Jvm.MethodName) method_4_code (3 : Nat) (Option.some Jvm.ClassFile.FieldType.boolean)).before args0 about1 = true := code_word (m := ⟨1, 3⟩) (meth := k1m3) (c := k1c3) (by decide +kernel) rfl rfl rfl (by decide +kernel)
set_option maxRecDepth 65536 in
theorem w_c21 : (Jvm.Cond.code ({ cls := "com/example/cronopoly/cronopoly/cli/Utf8RecordsPinLaw", name := "lt", desc := "([BIB)I" } : Jvm.MethodName) method_6_code (4 : Nat) (Option.some Jvm.ClassFile.FieldType.int)).before args0 about1 = true := code_word (m := ⟨1, 5⟩) (meth := k1m5) (c := k1c5) (by decide +kernel) rfl rfl rfl (by decide +kernel)
set_option maxRecDepth 65536 in
theorem w_c22 : (Jvm.Cond.code ({ cls := "java/util/ArrayList", name := "get", desc := "(I)Ljava/lang/Object;" } : Jvm.MethodName) jdk_38_method_20_code (2 : Nat) (Option.some (Jvm.ClassFile.FieldType.object "java/lang/Object"))).before args0 about1 = true := code_word (m := ⟨12, 5⟩) (meth := k12m5) (c := k12c5) (by decide +kernel) rfl rfl rfl (by decide +kernel)
set_option maxRecDepth 65536 in
theorem w_c23 : (Jvm.Cond.code ({ cls := "java/util/Objects", name := "checkIndex", desc := "(II)I" } : Jvm.MethodName) jdk_31_method_17_code (2 : Nat) (Option.some Jvm.ClassFile.FieldType.int)).before args0 about1 = true := code_word (m := ⟨16, 1⟩) (meth := k16m1) (c := k16c1) (by decide +kernel) rfl rfl rfl (by decide +kernel)
set_option maxRecDepth 65536 in
theorem w_c24 : (Jvm.Cond.code ({ cls := "jdk/internal/util/Preconditions", name := "checkIndex", desc := "(IILjava/util/function/BiFunction;)I" } : Jvm.MethodName) jdk_41_method_11_code (3 : Nat) (Option.some Jvm.ClassFile.FieldType.int)).before args0 about1 = true := code_word (m := ⟨17, 1⟩) (meth := k17m1) (c := k17c1) (by decide +kernel) rfl rfl rfl (by decide +kernel)
set_option maxRecDepth 65536 in
theorem w_c25 : (Jvm.Cond.code ({ cls := "java/util/ArrayList", name := "elementData", desc := "(I)Ljava/lang/Object;" } : Jvm.MethodName) jdk_38_method_18_code (2 : Nat) (Option.some (Jvm.ClassFile.FieldType.object "java/lang/Object"))).before args0 about1 = true := code_word (m := ⟨12, 4⟩) (meth := k12m4) (c := k12c4) (by decide +kernel) rfl rfl rfl (by decide +kernel)
def codes1 : List Jvm.Cond := [Jvm.Cond.code x code maxLocals ret, Jvm.Cond.code ({ cls := "com/example/cronopoly/cronopoly/cli/Utf8", name := "records", desc := "([BB)Ljava/util/List;" } : Jvm.MethodName) prog_29_method_2_code (5 : Nat) (Option.some (Jvm.ClassFile.FieldType.object "java/util/List")), Jvm.Cond.code ({ cls := "java/util/ArrayList", name := "<init>", desc := "()V" } : Jvm.MethodName) jdk_38_method_2_code (1 : Nat) (Option.none : Option Jvm.ClassFile.FieldType), Jvm.Cond.code ({ cls := "java/util/AbstractList", name := "<init>", desc := "()V" } : Jvm.MethodName) jdk_39_method_1_code (1 : Nat) (Option.none : Option Jvm.ClassFile.FieldType), Jvm.Cond.code ({ cls := "java/util/AbstractCollection", name := "<init>", desc := "()V" } : Jvm.MethodName) jdk_22_method_1_code (1 : Nat) (Option.none : Option Jvm.ClassFile.FieldType), Jvm.Cond.code ({ cls := "java/lang/Object", name := "<init>", desc := "()V" } : Jvm.MethodName) object_method_1_code (1 : Nat) (Option.none : Option Jvm.ClassFile.FieldType), Jvm.Cond.code ({ cls := "java/util/ArrayList", name := "size", desc := "()I" } : Jvm.MethodName) jdk_38_method_8_code (1 : Nat) (Option.some Jvm.ClassFile.FieldType.int), Jvm.Cond.code ({ cls := "com/example/cronopoly/cronopoly/cli/Utf8RecordsPinLaw", name := "ok", desc := "(Ljava/util/List;[BIB)Z" } : Jvm.MethodName) method_7_code (7 : Nat) (Option.some Jvm.ClassFile.FieldType.boolean), Jvm.Cond.code ({ cls := "com/example/cronopoly/cronopoly/cli/Utf8RecordsPinLaw", name := "lenOf", desc := "(Ljava/util/List;I)I" } : Jvm.MethodName) method_8_code (3 : Nat) (Option.some Jvm.ClassFile.FieldType.int), Jvm.Cond.code ({ cls := "com/example/cronopoly/cronopoly/cli/Utf8RecordsPinLaw", name := "tb", desc := "([BIB)I" } : Jvm.MethodName) method_5_code (4 : Nat) (Option.some Jvm.ClassFile.FieldType.int), Jvm.Cond.code ({ cls := "com/example/cronopoly/cronopoly/cli/Utf8RecordsPinLaw", name := "pick", desc := "(IIIB)B" } : Jvm.MethodName) method_3_code (4 : Nat) (Option.some Jvm.ClassFile.FieldType.byte), Jvm.Cond.code ({ cls := "java/util/Arrays", name := "copyOfRange", desc := "([BII)[B" } : Jvm.MethodName) jdk_65_method_132_code (3 : Nat) (Option.some (Jvm.ClassFile.FieldType.array Jvm.ClassFile.FieldType.byte)), Jvm.Cond.code ({ cls := "java/util/Arrays", name := "copyOfRangeByte", desc := "([BII)[B" } : Jvm.MethodName) jdk_65_method_133_code (5 : Nat) (Option.some (Jvm.ClassFile.FieldType.array Jvm.ClassFile.FieldType.byte)), Jvm.Cond.code ({ cls := "java/util/Arrays", name := "checkLength", desc := "(II)V" } : Jvm.MethodName) jdk_65_method_131_code (2 : Nat) (Option.none : Option Jvm.ClassFile.FieldType), Jvm.Cond.code ({ cls := "java/lang/Math", name := "min", desc := "(II)I" } : Jvm.MethodName) jdk_29_method_69_code (2 : Nat) (Option.some Jvm.ClassFile.FieldType.int), Jvm.Cond.code ({ cls := "java/util/ArrayList", name := "add", desc := "(Ljava/lang/Object;)Z" } : Jvm.MethodName) jdk_38_method_25_code (2 : Nat) (Option.some Jvm.ClassFile.FieldType.boolean), Jvm.Cond.code ({ cls := "java/util/ArrayList", name := "add", desc := "(Ljava/lang/Object;[Ljava/lang/Object;I)V" } : Jvm.MethodName) jdk_38_method_24_code (4 : Nat) (Option.none : Option Jvm.ClassFile.FieldType), Jvm.Cond.code ({ cls := "java/util/ArrayList", name := "grow", desc := "()[Ljava/lang/Object;" } : Jvm.MethodName) jdk_38_method_7_code (1 : Nat) (Option.some (Jvm.ClassFile.FieldType.array (Jvm.ClassFile.FieldType.object "java/lang/Object"))), Jvm.Cond.code ({ cls := "java/util/ArrayList", name := "grow", desc := "(I)[Ljava/lang/Object;" } : Jvm.MethodName) jdk_38_method_6_code (4 : Nat) (Option.some (Jvm.ClassFile.FieldType.array (Jvm.ClassFile.FieldType.object "java/lang/Object"))), Jvm.Cond.code ({ cls := "java/lang/Math", name := "max", desc := "(II)I" } : Jvm.MethodName) jdk_29_method_65_code (2 : Nat) (Option.some Jvm.ClassFile.FieldType.int), Jvm.Cond.code ({ cls := "com/example/cronopoly/cronopoly/cli/Utf8RecordsPinLaw", name := "isT", desc := "([BIB)Z" } : Jvm.MethodName) method_4_code (3 : Nat) (Option.some Jvm.ClassFile.FieldType.boolean), Jvm.Cond.code ({ cls := "com/example/cronopoly/cronopoly/cli/Utf8RecordsPinLaw", name := "lt", desc := "([BIB)I" } : Jvm.MethodName) method_6_code (4 : Nat) (Option.some Jvm.ClassFile.FieldType.int), Jvm.Cond.code ({ cls := "java/util/ArrayList", name := "get", desc := "(I)Ljava/lang/Object;" } : Jvm.MethodName) jdk_38_method_20_code (2 : Nat) (Option.some (Jvm.ClassFile.FieldType.object "java/lang/Object")), Jvm.Cond.code ({ cls := "java/util/Objects", name := "checkIndex", desc := "(II)I" } : Jvm.MethodName) jdk_31_method_17_code (2 : Nat) (Option.some Jvm.ClassFile.FieldType.int), Jvm.Cond.code ({ cls := "jdk/internal/util/Preconditions", name := "checkIndex", desc := "(IILjava/util/function/BiFunction;)I" } : Jvm.MethodName) jdk_41_method_11_code (3 : Nat) (Option.some Jvm.ClassFile.FieldType.int), Jvm.Cond.code ({ cls := "java/util/ArrayList", name := "elementData", desc := "(I)Ljava/lang/Object;" } : Jvm.MethodName) jdk_38_method_18_code (2 : Nat) (Option.some (Jvm.ClassFile.FieldType.object "java/lang/Object"))]
set_option maxRecDepth 65536 in
theorem codes_eq : words1.filter isCode = codes1 := rfl
theorem w_codes : ∀ c ∈ words1.filter isCode, c.before args0 about1 = true := by
  rw [codes_eq]
  intro c hc
  simp only [codes1, List.mem_cons, List.not_mem_nil, or_false] at hc
  rcases hc with rfl | rfl | rfl | rfl | rfl | rfl | rfl | rfl | rfl | rfl | rfl | rfl | rfl | rfl | rfl | rfl | rfl | rfl | rfl | rfl | rfl | rfl | rfl | rfl | rfl | rfl
  · exact w_c0
  · exact w_c1
  · exact w_c2
  · exact w_c3
  · exact w_c4
  · exact w_c5
  · exact w_c6
  · exact w_c7
  · exact w_c8
  · exact w_c9
  · exact w_c10
  · exact w_c11
  · exact w_c12
  · exact w_c13
  · exact w_c14
  · exact w_c15
  · exact w_c16
  · exact w_c17
  · exact w_c18
  · exact w_c19
  · exact w_c20
  · exact w_c21
  · exact w_c22
  · exact w_c23
  · exact w_c24
  · exact w_c25
set_option maxRecDepth 65536 in
theorem w_t1 : (words1.take 24).all (fun c => isCode c || c.before args0 about1) = true := by decide +kernel
set_option maxRecDepth 65536 in
theorem w_t2 : ((words1.drop 24).take 24).all (fun c => isCode c || c.before args0 about1) = true := by decide +kernel
set_option maxRecDepth 65536 in
theorem w_t3 : (((words1.drop 24).drop 24).take 24).all (fun c => isCode c || c.before args0 about1) = true := by decide +kernel
set_option maxRecDepth 65536 in
theorem w_t4 : ((((words1.drop 24).drop 24).drop 24).take 24).all (fun c => isCode c || c.before args0 about1) = true := by decide +kernel
set_option maxRecDepth 65536 in
theorem w_t5 : (((((words1.drop 24).drop 24).drop 24).drop 24).take 24).all (fun c => isCode c || c.before args0 about1) = true := by decide +kernel
set_option maxRecDepth 65536 in
theorem w_t6 : (((((words1.drop 24).drop 24).drop 24).drop 24).drop 24).all (fun c => isCode c || c.before args0 about1) = true := by decide +kernel
theorem w_tables : (allAtoms (Jvm.Cond.code x code maxLocals ret :: tables_1)).before args0 about1 = true := by
  rw [allAtoms_all]
  show words1.all (fun c => c.before args0 about1) = true
  refine all_split ?_ w_codes
  rw [← List.take_append_drop 24 words1, List.all_append, w_t1, ← List.take_append_drop 24 (words1.drop 24), List.all_append, w_t2, ← List.take_append_drop 24 ((words1.drop 24).drop 24), List.all_append, w_t3, ← List.take_append_drop 24 (((words1.drop 24).drop 24).drop 24), List.all_append, w_t4, ← List.take_append_drop 24 ((((words1.drop 24).drop 24).drop 24).drop 24), List.all_append, w_t5, w_t6]
  rfl
set_option maxRecDepth 65536 in
theorem w_rest : rest_1_c.before args0 about1 = true := by decide +kernel
set_option maxRecDepth 65536 in
theorem w_case : (Jvm.Cond.and given_1 narrow_1).before args0 about1 = true := by decide +kernel
theorem w_applies : (headSpec (Jvm.Cond.code x code maxLocals ret :: tables_1) room_1).applies x e0.platform about1 = true :=
  (Spec.applies_iff w_frames).mpr ⟨w_running, w_runnable, w_alone, w_named, w_hears, w_ripe, w_room, w_tables⟩
theorem atStart : AtStart classFile x code maxLocals ret World_1 tables_1 room_1 Calls_1 rest_1 Pre_1 launch0 p0 e0 about1 theMethod args0 below0 :=
  ⟨lists_1, trivial, launch0.admits_env _ _ _, launch0.least_env, fairChoices_fair.cas, fairChoices_fair.clock, w_frames, w_args, w_heap, w_applies, trivial, w_rest, w_case⟩
end start1
theorem witness_1 : WitnessClaimed_1 := ⟨start1.p0, start1.e0, start1.about1, start1.theMethod, start1.args0, start1.below0, start1.atStart⟩
end Jvm.Pilot.@@N@@
