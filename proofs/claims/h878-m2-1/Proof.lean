import JvmDerived
import JvmDerived.Pilot.@@N@@Statement
import JvmDerived.Pilot.@@N@@Code
set_option linter.unusedVariables false
set_option linter.unusedSimpArgs false
set_option maxRecDepth 65536
set_option maxHeartbeats 40000000
namespace Jvm.RoadKit
open Sem ClassFile Op Lib Jvm.Stand Jvm.Free Jvm.LawKit
section Own
variable {p : Program} {l : Launch} {e : Env} {R : Room} {s : State} {m : MethodId} {args : Array Value} {below : List Frame} {meth : Method} {c : Code} {T T' : State} {locs : List Loc} {cells slots : Nat} {Z : State} {a0 : Array Value} {h h' h0 : Heap} {K : State → Outcome → Prop} {pc : Nat} {Ls : Array Slot} {rest : List Value} {Q : Option Value → Heap → List Loc → Prop} {k n : Nat} {a b : Addr} {ws : List Addr} {sl : Nat} {v : Value}
/-- from T the run comes to its end, and K holds there -/
def Go (p : Program) (e : Env) (below : List Frame) (K : State → Outcome → Prop) (T : State) : Prop := ∃ U o, Steps p.tables e below T U ∧ U.status = .running ∧ Ended U below o ∧ K U o
theorem Go.by (st : ∀ t, Steps p.tables e below T' t → Steps p.tables e below T t) (g : Go p e below K T') : Go p e below K T := by
  obtain ⟨U, o, q, r⟩ := g; exact ⟨U, o, st _ q, r⟩
theorem Go.on (st : Steps p.tables e below T T') (g : Go p e below K T') : Go p e below K T := by
  obtain ⟨U, o, q, r⟩ := g; exact ⟨U, o, st.trans q, r⟩
theorem Go.cast {T'' : State} (q : T = T'') (g : Go p e below K T'') : Go p e below K T := q ▸ g
def KK (s : State) (Q : Option Value → Heap → List Loc → Prop) (k n : Nat) : State → Outcome → Prop := fun U o => ∃ v L, o = .returned v ∧ Q v U.heap L ∧ FrameEnd s o U L k n
abbrev Ctr (l : Launch) (Z : State) (h0 : Heap) (y : MethodName) (bytes : ByteArray) (maxL : Nat) (ret : Option FieldType) (ws : List Cond) (rm : Room) (as' : Array Value) (Q : Option Value → Heap → List Loc → Prop) : Prop :=
  MetFree l y (head1 (Cond.code y bytes maxL ret :: ws) rm) (fun a U => a = as' ∧ Z.Warmed39 U.vm ∧ U.heap = h0) (fun _ _ _ _ _ => True) (fun _ U o U' => ∃ v L, o = .returned v ∧ Q v U'.heap L ∧ FrameEnd U o U' L rm.cells rm.slots)
theorem enter {y : MethodName} {bytes : ByteArray} {maxL : Nat} {ret : Option FieldType} {ws : List Cond} {rm : Room} {as' : Array Value} (hp : plainFor y = true)
    (H : ∀ (p : Program) (e : Env) (s : State) (m : MethodId) (below : List Frame) (meth : Method) (c : Code) (s₁ : State), p.tables.exec = Jvm.exec → c.code = bytes → c.maxLocals = maxL → Z.Warmed39 s.vm → s.vm.findClass y.cls = some m.cls → meth.name = y.name → meth.sig.returnType = ret → meth.locks = false →
      Stand p l e rm s m as' below meth c s₁ [] 0 0 → s₁.heap = h0 → s.heap = h0 → Go p e below (KK s Q rm.cells rm.slots) (s₁.setTop (entryFrame m as' maxL))) : Ctr l Z h0 y bytes maxL ret ws rm as' Q := by
  refine MetFree.of_bodySF hp hisR ?_
  intro p e s m args below meth c s₁ Bd hml0 hP hK
  obtain ⟨rfl, hZ, hh⟩ := hP
  exact H p e s m below meth c s₁ Bd.exec Bd.bytes hml0 hZ (findClass_of_methodNamed Bd.named) (name_of_methodNamed Bd.named Bd.method).1 Bd.returns Bd.notSynchronized (Stand.of_body Bd) (by rw [← hh, Bd.state]; rfl) hh
/-! returns -/
theorem Go.ret {w : Value} {t : FieldType} {i : Instr} (X : Stand p l e R s m args below meth c T locs cells slots) (hx : p.tables.exec = Jvm.exec) (hret : meth.sig.returnType = some t) (hlk : meth.locks = false) (hn : narrow t w = w)
    (hi : (i = .ireturn ∧ (t = .int ∨ t = .boolean ∨ t = .byte ∨ t = .char ∨ t = .short) ∧ ∃ z, w = .int z) ∨ (i = .lreturn ∧ t = .long ∧ ∃ z, w = .long z) ∨ (i = .dreturn ∧ t = .double ∧ ∃ z, w = .double z) ∨ (i = .freturn ∧ t = .float ∧ ∃ z, w = .float z) ∨ (i = .areturn ∧ t.isReference = true ∧ w.isRef = true))
    (hd : decode c.code pc = .ok (i, 1)) (eT : T.heap = h) (hk : cells ≤ k) (hs : slots ≤ n) (hQ : Q (some w) h locs) : Go p e below (KK s Q k n) (T.setTop (mkF m pc Ls (w :: rest))) := by
  obtain ⟨fs, hr, hrun, hended, hW, hsame⟩ := X.leave (v := some w) (fun h => by rw [hret] at h; cases h) hlk
  subst eT
  exact ⟨_, _, retOut X hx hret hn hi hd hr, hrun, hended, _, _, rfl, hQ, ⟨_, rfl⟩, hW, hsame.mono hk hs⟩
theorem Go.retI {z : Int32} {t : FieldType} (X : Stand p l e R s m args below meth c T locs cells slots) (hx : p.tables.exec = Jvm.exec) (hret : meth.sig.returnType = some t) (hlk : meth.locks = false) (ht : t = .int ∨ t = .boolean ∨ t = .byte ∨ t = .char ∨ t = .short) (hn : narrow t (.int z) = .int z)
    (hd : decode c.code pc = .ok (.ireturn, 1)) (eT : T.heap = h) (hk : cells ≤ k) (hs : slots ≤ n) (hQ : Q (some (.int z)) h locs) : Go p e below (KK s Q k n) (T.setTop (mkF m pc Ls (.int z :: rest))) :=
  Go.ret X hx hret hlk hn (Or.inl ⟨rfl, ht, z, rfl⟩) hd eT hk hs hQ
theorem Go.retJ {z : Int64} (X : Stand p l e R s m args below meth c T locs cells slots) (hx : p.tables.exec = Jvm.exec) (hret : meth.sig.returnType = some .long) (hlk : meth.locks = false)
    (hd : decode c.code pc = .ok (.lreturn, 1)) (eT : T.heap = h) (hk : cells ≤ k) (hs : slots ≤ n) (hQ : Q (some (.long z)) h locs) : Go p e below (KK s Q k n) (T.setTop (mkF m pc Ls (.long z :: rest))) :=
  Go.ret X hx hret hlk rfl (Or.inr (Or.inl ⟨rfl, rfl, z, rfl⟩)) hd eT hk hs hQ
theorem nar_ref {t : FieldType} {w : Value} (hw : w.isRef = true) : narrow t w = w := by cases w <;> first | (simp [Value.isRef] at hw; done) | (cases t <;> rfl)
theorem fits_any {C : String} {w : Value} (hw : w.isRef = true) : fits (.object C) w = true := by cases w <;> first | (simp [Value.isRef] at hw; done) | rfl
theorem Go.retA {w : Value} {t : FieldType} (X : Stand p l e R s m args below meth c T locs cells slots) (hx : p.tables.exec = Jvm.exec) (hret : meth.sig.returnType = some t) (hlk : meth.locks = false) (ht : t.isReference = true) (hw : w.isRef = true)
    (hd : decode c.code pc = .ok (.areturn, 1)) (eT : T.heap = h) (hk : cells ≤ k) (hs : slots ≤ n) (hQ : Q (some w) h locs) : Go p e below (KK s Q k n) (T.setTop (mkF m pc Ls (w :: rest))) :=
  Go.ret X hx hret hlk (nar_ref hw) (Or.inr (Or.inr (Or.inr (Or.inr ⟨rfl, ht, hw⟩)))) hd eT hk hs hQ
theorem Go.retV (X : Stand p l e R s m args below meth c T locs cells slots) (hx : p.tables.exec = Jvm.exec) (hret : meth.sig.returnType = none) (hlk : meth.locks = false)
    (hd : decode c.code pc = .ok (.return_, 1)) (eT : T.heap = h) (hk : cells ≤ k) (hs : slots ≤ n) (hQ : Q none h locs) : Go p e below (KK s Q k n) (T.setTop (mkF m pc Ls [])) := by
  obtain ⟨fs, hr, hrun, hended, hW, hsame⟩ := X.leave (v := none) (fun _ => rfl) hlk
  subst eT
  exact ⟨_, _, X.returnOut hx hret hd hr, hrun, hended, _, _, rfl, hQ, ⟨_, rfl⟩, hW, hsame.mono hk hs⟩
/-! the old cells -/
theorem ext_trans {h1 h2 h3 : Heap} (E : Ext h1 h2) (F : Ext h2 h3) : Ext h1 h3 := ⟨Nat.le_trans E.1 F.1, fun a c q => F.2 a c (E.2 a c q)⟩
theorem ext_wr {h1 h2 h3 : Heap} (E : Ext h1 h2) (W : Wr h2 h3 a sl v) (g : h1.size ≤ a) : Ext h1 h3 := by
  obtain ⟨cell, q1, q2, q3, rfl⟩ := W
  refine ⟨by simpa using E.1, fun x c q => ?_⟩
  have hx : x < h1.size := (Array.getElem?_eq_some_iff.mp q).1
  rw [Array.getElem?_setIfInBounds_ne (Nat.ne_of_gt (Nat.lt_of_lt_of_le hx g))]
  exact E.2 x c q
theorem ext_keep {h1 h2 h3 : Heap} (E : Ext h1 h2) (F : Keep h2 h3 ws) (g : ∀ x ∈ ws, h1.size ≤ x) : Ext h1 h3 := by
  refine ⟨Nat.le_trans E.1 F.1, fun x c q => F.2.1 x c (E.2 x c q) fun z => ?_⟩
  exact absurd (Array.getElem?_eq_some_iff.mp q).1 (Nat.not_lt.mpr (g x z))
theorem ne_new (q : a < h.size) (r : h.size ≤ b) : a ≠ b := Nat.ne_of_lt (Nat.lt_of_lt_of_le q r)
/-! calls -/
theorem Go.callS {own : String} {index : Nat} {y : MethodName} {bytes : ByteArray} {maxL : Nat} {ret : Option FieldType} {rm : Room} {as' : Array Value} {argsL S : List Value} (X : Stand p l e R s m args below meth c T locs cells slots) (hx : p.tables.exec = Jvm.exec) (hZ : Z.Warmed39 s.vm) (hown : s.vm.findClass own = some m.cls)
    (w1 : (Cond.methodLink own index y).before a0 Z = true) (w2 : (Cond.static y).before a0 Z = true) (w3 : (Cond.initialized y.cls).before a0 Z = true) (w4 : (Cond.code y bytes maxL ret).before a0 Z = true)
    (hy : y.cls ≠ "java/lang/invoke/MethodHandle" ∧ y.cls ≠ "java/lang/invoke/VarHandle") {Q : Option Value → Heap → List Loc → Prop} (hM : Ctr l Z h y bytes maxL ret [] rm as' Q) (eT : T.heap = h) (hsz : Ls.size = c.maxLocals)
    (hd : decode c.code pc = .ok (.invokestatic index, 3)) (hlen : ∀ sig, parseMethodDescriptor y.desc = some sig → argsL.length = sig.parameters.length) (hst : S = argsL.reverse ++ rest) (has : argsL.toArray = as')
    {W : Nat} (hW : 2 * 0 + (rest.map fun v => v.category).sum ≤ W) (hf : rm.frames + 1 ≤ R.frames) (hl : W + (maxL + 11) + rm.locals ≤ R.locals) (hc : cells + rm.cells ≤ R.cells) (hs : slots + rm.slots ≤ R.slots)
    (g : ∀ (v : Option Value) (T' : State) (L : List Loc), Stand p l e R s m args below meth c T' (locs ++ L) (cells + rm.cells) (slots + rm.slots) → Q v T'.heap L → Go p e below K (T'.setTop (mkF m (pc + 3) Ls (v.toList ++ rest)))) : Go p e below K (T.setTop (mkF m pc Ls S)) := by
  obtain ⟨v, _, ⟨T', L', k', n'⟩, -, X', ⟨Lc, hQ, l', y', z'⟩, st⟩ := Jvm.LawKit.callS X hx (y := y) hown (mvT hZ w1) (mvT hZ w2) (mvT hZ w3) (mvT hZ w4) hy (backOf (W := W) hM hZ w4 w3 hf hl) (g := mkF m pc Ls S) rfl hsz (argsL := argsL) (rest := rest) hlen hst hW hd (fun _ _ => ⟨has, eT, hc, hs⟩)
  dsimp only [Pt.U, Pt.locs, Pt.cells, Pt.slots] at X' l' y' z' st hQ
  subst l' y' z'
  exact Go.by st (g v T' Lc X' hQ)
theorem Go.init {own : String} {index : Nat} {y : MethodName} {bytes : ByteArray} {maxL : Nat} {rm : Room} {as' : Array Value} {argsL S : List Value} (X : Stand p l e R s m args below meth c T locs cells slots) (hx : p.tables.exec = Jvm.exec) (hZ : Z.Warmed39 s.vm) (hown : s.vm.findClass own = some m.cls) (hy1 : y.name = "<init>")
    (w1 : (Cond.methodLink own index y).before a0 Z = true) (w2 : (Cond.instanceMethod y).before a0 Z = true) (w3 : (Cond.initialized y.cls).before a0 Z = true) (w4 : (Cond.code y bytes maxL none).before a0 Z = true)
    (hy : y.cls ≠ "java/lang/invoke/MethodHandle" ∧ y.cls ≠ "java/lang/invoke/VarHandle") {Q : Option Value → Heap → List Loc → Prop} (hM : Ctr l Z h y bytes maxL none [] rm as' Q) (eT : T.heap = h) (hsz : Ls.size = c.maxLocals)
    (hd : decode c.code pc = .ok (.invokespecial index, 3)) (hlen : ∀ sig, parseMethodDescriptor y.desc = some sig → argsL.length = sig.parameters.length) (hst : S = argsL.reverse ++ .ref a :: rest) (has : (Value.ref a :: argsL).toArray = as')
    {W : Nat} (hW : 2 * 0 + (rest.map fun v => v.category).sum ≤ W) (hf : rm.frames + 1 ≤ R.frames) (hl : W + (maxL + 11) + rm.locals ≤ R.locals) (hc : cells + rm.cells ≤ R.cells) (hs : slots + rm.slots ≤ R.slots)
    (g : ∀ (v : Option Value) (T' : State) (L : List Loc), Stand p l e R s m args below meth c T' (locs ++ L) (cells + rm.cells) (slots + rm.slots) → Q v T'.heap L → Go p e below K (T'.setTop (mkF m (pc + 3) Ls (v.toList ++ rest)))) : Go p e below K (T.setTop (mkF m pc Ls S)) := by
  obtain ⟨v, _, ⟨T', L', k', n'⟩, -, X', ⟨Lc, hQ, l', y', z'⟩, st⟩ := X.specialBack hx (y := y) hy1 hown (mvT hZ w1) (mvT hZ w2) (mvT hZ w4) hy (backOf (W := W) hM hZ w4 w3 hf hl) (g := mkF m pc Ls S) rfl hsz (Steps.refl _) (a := a) (argsL := argsL) (rest := rest) hlen hst hW hd (fun _ _ => ⟨has, eT, hc, hs⟩)
  dsimp only [Pt.U, Pt.locs, Pt.cells, Pt.slots] at X' l' y' z' st hQ
  subst l' y' z'
  exact Go.on st (g v T' Lc X' hQ)
theorem Go.virt {own C : String} {index : Nat} {y z : MethodName} {bytes : ByteArray} {maxL : Nat} {ret : Option FieldType} {rm : Room} {as' : Array Value} {argsL S : List Value} (X : Stand p l e R s m args below meth c T locs cells slots) (hx : p.tables.exec = Jvm.exec) (hZ : Z.Warmed39 s.vm) (hown : s.vm.findClass own = some m.cls)
    (w1 : (Cond.methodLink own index y).before a0 Z = true) (w2 : (Cond.declares y).before a0 Z = true) (hnf : NotFace s y) (w5 : (Cond.selects C y z).before a0 Z = true) (w6 : (Cond.instanceMethod z).before a0 Z = true) (w3 : (Cond.initialized z.cls).before a0 Z = true) (w4 : (Cond.code z bytes maxL ret).before a0 Z = true)
    (hy : y.cls ≠ "java/lang/invoke/MethodHandle" ∧ y.cls ≠ "java/lang/invoke/VarHandle") {Q : Option Value → Heap → List Loc → Prop} (hM : Ctr l Z h z bytes maxL ret [] rm as' Q) (eT : T.heap = h) (E : Exa Z h a C) (hsz : Ls.size = c.maxLocals)
    (hd : decode c.code pc = .ok (.invokevirtual index, 3)) (hlen : ∀ sig, parseMethodDescriptor y.desc = some sig → argsL.length = sig.parameters.length) (hst : S = argsL.reverse ++ .ref a :: rest) (has : (Value.ref a :: argsL).toArray = as')
    {W : Nat} (hW : 2 * 0 + (rest.map fun v => v.category).sum ≤ W) (hf : rm.frames + 1 ≤ R.frames) (hl : W + (maxL + 11) + rm.locals ≤ R.locals) (hc : cells + rm.cells ≤ R.cells) (hs : slots + rm.slots ≤ R.slots)
    (g : ∀ (v : Option Value) (T' : State) (L : List Loc), Stand p l e R s m args below meth c T' (locs ++ L) (cells + rm.cells) (slots + rm.slots) → Q v T'.heap L → Go p e below K (T'.setTop (mkF m (pc + 3) Ls (v.toList ++ rest)))) : Go p e below K (T.setTop (mkF m pc Ls S)) := by
  obtain ⟨cq, kq, q1, q2, q3⟩ := isOf hZ eT E
  obtain ⟨v, _, ⟨T', L', k', n'⟩, -, X', ⟨Lc, hQ, l', y', z'⟩, st⟩ := X.virtualBack hx (y := y) (z := z) hown (mvT hZ w1) (mvT hZ w2) hnf (mvT hZ w5) (mvT hZ w6) hy (backOf (W := W) hM hZ w4 w3 hf hl) q1 q3 (g := mkF m pc Ls S) rfl hsz (Steps.refl _) (argsL := argsL) (rest := rest) hlen hst hW hd (fun _ _ => ⟨has, eT, hc, hs⟩)
  dsimp only [Pt.U, Pt.locs, Pt.cells, Pt.slots] at X' l' y' z' st hQ
  subst l' y' z'
  exact Go.on st (g v T' Lc X' hQ)
theorem Go.face {own C : String} {index count : Nat} {y z : MethodName} {bytes : ByteArray} {maxL : Nat} {ret : Option FieldType} {rm : Room} {as' : Array Value} {argsL S : List Value} (X : Stand p l e R s m args below meth c T locs cells slots) (hx : p.tables.exec = Jvm.exec) (hZ : Z.Warmed39 s.vm) (hown : s.vm.findClass own = some m.cls)
    (w1 : (Cond.methodLink own index y).before a0 Z = true) (w2 : (Cond.declares y).before a0 Z = true) (w7 : (Cond.interfaceMethod y.cls y.cls y.name y.desc).before a0 Z = true) (w5 : (Cond.selects C y z).before a0 Z = true) (w6 : (Cond.instanceMethod z).before a0 Z = true) (w8 : (Cond.publicMethod z).before a0 Z = true) (w9 : (Cond.unhidden C y.name y.desc).before a0 Z = true) (w10 : (Cond.castable C y.cls).before a0 Z = true) (w3 : (Cond.initialized z.cls).before a0 Z = true) (w4 : (Cond.code z bytes maxL ret).before a0 Z = true)
    (hy : y.cls ≠ "java/lang/invoke/MethodHandle" ∧ y.cls ≠ "java/lang/invoke/VarHandle") {Q : Option Value → Heap → List Loc → Prop} (hM : Ctr l Z h z bytes maxL ret [] rm as' Q) (eT : T.heap = h) (E : Exa Z h a C) (hsz : Ls.size = c.maxLocals)
    (hd : decode c.code pc = .ok (.invokeinterface index count, 5)) (hlen : ∀ sig, parseMethodDescriptor y.desc = some sig → argsL.length = sig.parameters.length) (hst : S = argsL.reverse ++ .ref a :: rest) (has : (Value.ref a :: argsL).toArray = as')
    {W : Nat} (hW : 2 * 0 + (rest.map fun v => v.category).sum ≤ W) (hf : rm.frames + 1 ≤ R.frames) (hl : W + (maxL + 11) + rm.locals ≤ R.locals) (hc : cells + rm.cells ≤ R.cells) (hs : slots + rm.slots ≤ R.slots)
    (g : ∀ (v : Option Value) (T' : State) (L : List Loc), Stand p l e R s m args below meth c T' (locs ++ L) (cells + rm.cells) (slots + rm.slots) → Q v T'.heap L → Go p e below K (T'.setTop (mkF m (pc + 5) Ls (v.toList ++ rest)))) : Go p e below K (T.setTop (mkF m pc Ls S)) := by
  obtain ⟨cq, kq, q1, q2, q3⟩ := isOf hZ eT E
  obtain ⟨v, _, ⟨T', L', k', n'⟩, -, X', ⟨Lc, hQ, l', y', z'⟩, st⟩ := X.interfaceBack hx (xi := y) (y := z) hown (mvT hZ w1) (mvT hZ w2) (mvT hZ w7 (by simp [Cond.onTables, Cond.keepsFace, Cond.keeps, Cond.steady, Cond.faceAtom]; exact hy)) (mvT hZ w5) (mvT hZ w6) (mvT hZ w8) (mvT hZ w9) (mvT hZ w10) hy (backOf (W := W) (len := 5) hM hZ w4 w3 hf hl) q1 q2 q3 (g := mkF m pc Ls S) rfl hsz (Steps.refl _) (argsL := argsL) (rest := rest) hlen hst hW hd (fun _ _ => ⟨has, eT, hc, hs⟩)
  dsimp only [Pt.U, Pt.locs, Pt.cells, Pt.slots] at X' l' y' z' st hQ
  subst l' y' z'
  exact Go.on st (g v T' Lc X' hQ)
theorem Go.priv {own : String} {index : Nat} {y : MethodName} {bytes : ByteArray} {maxL : Nat} {ret : Option FieldType} {rm : Room} {as' : Array Value} {argsL S : List Value} {C : String} (X : Stand p l e R s m args below meth c T locs cells slots) (hx : p.tables.exec = Jvm.exec) (hZ : Z.Warmed39 s.vm) (hown : s.vm.findClass own = some m.cls)
    (w1 : (Cond.methodLink own index y).before a0 Z = true) (w6 : (Cond.instanceMethod y).before a0 Z = true) (w5 : (Cond.selects y.cls y y).before a0 Z = true) (w7 : (Cond.privateMethod y).before a0 Z = true) (w3 : (Cond.initialized y.cls).before a0 Z = true) (w4 : (Cond.code y bytes maxL ret).before a0 Z = true)
    (hy : y.cls ≠ "java/lang/invoke/MethodHandle" ∧ y.cls ≠ "java/lang/invoke/VarHandle") {Q : Option Value → Heap → List Loc → Prop} (hM : Ctr l Z h y bytes maxL ret [] rm as' Q) (eT : T.heap = h) (E : Exa Z h a C) (hsz : Ls.size = c.maxLocals)
    (hd : decode c.code pc = .ok (.invokevirtual index, 3)) (hlen : ∀ sig, parseMethodDescriptor y.desc = some sig → argsL.length = sig.parameters.length) (hst : S = argsL.reverse ++ .ref a :: rest) (has : (Value.ref a :: argsL).toArray = as')
    {W : Nat} (hW : 2 * 0 + (rest.map fun v => v.category).sum ≤ W) (hf : rm.frames + 1 ≤ R.frames) (hl : W + (maxL + 11) + rm.locals ≤ R.locals) (hc : cells + rm.cells ≤ R.cells) (hs : slots + rm.slots ≤ R.slots)
    (g : ∀ (v : Option Value) (T' : State) (L : List Loc), Stand p l e R s m args below meth c T' (locs ++ L) (cells + rm.cells) (slots + rm.slots) → Q v T'.heap L → Go p e below K (T'.setTop (mkF m (pc + 3) Ls (v.toList ++ rest)))) : Go p e below K (T.setTop (mkF m pc Ls S)) := by
  obtain ⟨cq, q1, q2⟩ := E.cell
  subst eT
  obtain ⟨v, _, ⟨T', L', k', n'⟩, -, X', ⟨Lc, hQ, l', y', z'⟩, st⟩ := X.privateBack hx (y := y) hown (mvT hZ w1) (mvT hZ w6) (mvT hZ w5) (Cond.privateMethod_at (mvP hZ w7 (args := #[]))) (mvT hZ w4) hy (backOf (W := W) hM hZ w4 w3 hf hl) (g := mkF m pc Ls S) rfl hsz (Steps.refl _) (a := a) q1 q2 (argsL := argsL) (rest := rest) hlen hst hW hd (fun _ _ => ⟨has, rfl, hc, hs⟩)
  dsimp only [Pt.U, Pt.locs, Pt.cells, Pt.slots] at X' l' y' z' st hQ
  subst l' y' z'
  exact Go.on st (g v T' Lc X' hQ)
/-! arrays whose components are known -/
variable {cA : ClassId} {ty : FieldType} {z j : Int32} {vs : List Value} {dv : Value}
theorem Go.alen (X : Stand p l e R s m args below meth c T locs cells slots) (hx : p.tables.exec = Jvm.exec) (hZ : Z.Warmed39 s.vm) (eT : T.heap = h) (V : Arv Z h a cA ty z vs dv) (hd : decode c.code pc = .ok (.arraylength, 1))
    (g : Go p e below K (T.setTop (mkF m (pc + 1) Ls (.int z :: rest)))) : Go p e below K (T.setTop (mkF m pc Ls (.ref a :: rest))) := by
  obtain ⟨cl, A, -, S, N, -, -⟩ := V
  subst eT
  refine Go.by (fun t q => X.arraylength hx A.1 (State.isArrayOf_alike hZ.alike A.2.1) (g := mkF m pc Ls (.ref a :: rest)) rfl rfl hd _ q) ?_
  rw [len_of S N]
  exact g
/-- an array of which the length alone is known -/
def Lng (Z : State) (h : Heap) (a : Addr) (n : Int32) : Prop := ∃ (cl : Cell) (ty : FieldType), Arr Z h a cl ty ∧ cl.slots.size = n.toNatClampNeg ∧ ¬ n < 0
theorem Lng.ext (L : Lng Z h a z) (E : Ext h h') : Lng Z h' a z := by obtain ⟨cl, ty, A, r⟩ := L; exact ⟨cl, ty, A.ext E, r⟩
theorem Lng.lt (L : Lng Z h a z) : a < h.size := by obtain ⟨cl, ty, A, r⟩ := L; exact A.lt
theorem Lng.of {cl : Cell} (A : Arr Z h a cl ty) (q : cl.slots.size < 2 ^ 31) (e : cl.slots.size.toInt32 = z) (hz : ¬ z < 0) : Lng Z h a z := by
  refine ⟨cl, ty, A, ?_, hz⟩
  rw [← e]; simp only [Int32.toNatClampNeg, len_toInt q]; rfl
theorem Go.aln (X : Stand p l e R s m args below meth c T locs cells slots) (hx : p.tables.exec = Jvm.exec) (hZ : Z.Warmed39 s.vm) (eT : T.heap = h) (V : Lng Z h a z) (hd : decode c.code pc = .ok (.arraylength, 1))
    (g : Go p e below K (T.setTop (mkF m (pc + 1) Ls (.int z :: rest)))) : Go p e below K (T.setTop (mkF m pc Ls (.ref a :: rest))) := by
  obtain ⟨cl, ty, A, S, N⟩ := V
  subst eT
  refine Go.by (fun t q => X.arraylength hx A.1 (State.isArrayOf_alike hZ.alike A.2.1) (g := mkF m pc Ls (.ref a :: rest)) rfl rfl hd _ q) ?_
  rw [len_of S N]
  exact g
theorem cc (x : Int32) : nar .char x.toUInt32.toUInt16.toUInt32.toInt32 = x.toUInt32.toUInt16.toUInt32.toInt32 := by
  have h := Jvm.Free.XT.narrow_c x
  exact Value.int.inj h
theorem bb (x : Int32) : x.toInt8.toInt32.toInt8.toInt32 = x.toInt8.toInt32 := by simp
theorem Go.aal {v : Value} (X : Stand p l e R s m args below meth c T locs cells slots) (hx : p.tables.exec = Jvm.exec) (hZ : Z.Warmed39 s.vm) (eT : T.heap = h) (V : Arv Z h a cA ty z vs dv) (hty : ty.isReference = true) (hj : ¬ j < 0 ∧ j < z) (hv : vs.getD j.toNatClampNeg dv = v) (hd : decode c.code pc = .ok (.aaload, 1))
    (g : Go p e below K (T.setTop (mkF m (pc + 1) Ls (v :: rest)))) : Go p e below K (T.setTop (mkF m pc Ls (.int j :: .ref a :: rest))) := by
  obtain ⟨cl, A, -, S, N, H, -⟩ := V
  subst eT
  have hin := inb_of S hj
  exact Go.by (fun t q => X.aaload hx (j := j) (v := v) A.1 (State.isArrayOf_alike hZ.alike A.2.1) hty A.2.2 hin (H.at hin hv) (g := mkF m pc Ls (.int j :: .ref a :: rest)) rfl rfl hd _ q) g
/-! from the case's words -/
theorem sta_exa {C f d K : String} (hx : (Cond.exactly (Term.static C f d) K).value args s none s [] = some true) (w1 : (Cond.initialized C).before args s = true) (w2 : (Cond.laysStatic C f d).before args s = true) : ∃ a, (Term.static C f d).eval args s none [] s = some (.ref a) ∧ Sta s s.heap C f d (.ref a) ∧ Exa s s.heap a K := by
  obtain ⟨a, ev⟩ := exa_v hx
  exact ⟨a, ev, Sta.start ev (Or.inr ⟨w1, w2⟩), Exa.start ev hx⟩
theorem fld_int {t : Term} {C f d : String} {z : Int32} (ev : t.eval args s none [] s = some (.ref a)) (hx : (Cond.eq (Term.field t C f d) (Term.int z)).value args s none s [] = some true) : Fld s s.heap a C f d (.int z) := by
  obtain ⟨x, y, e1, e2, k1, k2⟩ := cmp_v (Or.inl hx)
  have e3 : y = .int z := by rw [Term.int_eval] at e2; exact (Option.some.inj e2).symm
  subst e3
  obtain ⟨q, rfl⟩ : ∃ q, x = .int q := k2
  have e4 : q = z := by simpa [Cond.value, e1, e2] using hx
  subst e4
  rw [fld_at ev] at e1
  exact Fld.start e1
theorem eq_int {t : Term} {x z : Int32} (ev : t.eval args s none [] s = some (.int x)) (h : (Cond.eq t (Term.int z)).before args s = true) : x = z := by
  have q := Cond.before_iff.mp h
  simpa [Cond.value, ev, Term.int_eval] using q
theorem fld_ref {t : Term} {C f d : String} (ev : t.eval args s none [] s = some (.ref a)) (ev2 : (Term.field t C f d).eval args s none [] s = some (.ref b)) : Fld s s.heap a C f d (.ref b) := by
  rw [fld_at ev] at ev2; exact Fld.start ev2
theorem fld_null {t : Term} {C f d : String} (ev : t.eval args s none [] s = some (.ref a)) (hx : (Cond.eq (Term.field t C f d) Term.null).value args s none s [] = some true) : Fld s s.heap a C f d .null := by
  have q := null_v hx
  rw [fld_at ev] at q; exact Fld.start q
theorem fld_same {t u : Term} {C f d : String} (ev : t.eval args s none [] s = some (.ref a)) (ev2 : u.eval args s none [] s = some (.ref b)) (hx : (Cond.eq (Term.field t C f d) u).value args s none s [] = some true) : Fld s s.heap a C f d (.ref b) := by
  obtain ⟨x, y, e1, e2, k1, k2⟩ := cmp_v (Or.inl hx)
  cases ev2.symm.trans e2
  have hr : x.isRef = true := by
    have := k2
    simp [Kin] at this
    exact this.2
  rw [eq_R e1 e2 hr rfl] at hx
  have e3 : x = .ref b := by simpa using hx
  subst e3
  exact fld_ref ev e1
theorem elem_int {t : Term} {i v : Int32} {cl : Cell} {ty : FieldType} (ev : t.eval args s none [] s = some (.ref a)) (A : Arr s s.heap a cl ty) (hx : (Cond.eq (Term.elem t (Term.int i)) (Term.int v)).value args s none s [] = some true) : cl.slots[i.toNatClampNeg]? = some (.int v) := by
  obtain ⟨x, y, e1, e2, k1, k2⟩ := cmp_v (Or.inl hx)
  have e3 : y = .int v := by rw [Term.int_eval] at e2; exact (Option.some.inj e2).symm
  subst e3
  obtain ⟨q, rfl⟩ : ∃ q, x = .int q := k2
  have e4 : q = v := eq_int e1 (Cond.before_iff.mpr hx)
  subst e4
  exact (elem_in e1 ev (Term.int_eval _) A.1).2
theorem sta_int {C f d : String} (h0 : (Cond.initializedFor C f d).before args s = true) (h1 : (Cond.isInt (Term.static C f d)).before args s = true) : ∃ x, (Term.static C f d).eval args s none [] s = some (.int x) ∧ Sta s s.heap C f d (.int x) := by
  obtain ⟨x, ev⟩ := is_v (Cond.before_iff.mp h1)
  exact ⟨x, ev, Sta.start ev (Or.inl h0)⟩
theorem sta_ref {C f d : String} (h0 : (Cond.initializedFor C f d).before args s = true) (h1 : (Cond.isRef (Term.static C f d)).before args s = true) : ∃ x, (Term.static C f d).eval args s none [] s = some x ∧ x.isRef = true ∧ Sta s s.heap C f d x := by
  obtain ⟨x, ev, hr⟩ := isR_v (Cond.before_iff.mp h1)
  exact ⟨x, ev, hr, Sta.start ev (Or.inl h0)⟩
theorem ne_int {t : Term} {x z : Int32} (ev : t.eval args s none [] s = some (.int x)) (h : (Cond.not (Cond.eq t (Term.int z))).before args s = true) : ¬ x = z := by
  have q := not_v (Cond.before_iff.mp h)
  intro e; subst e
  rw [eq_i ev (Term.int_eval _) rfl] at q
  cases q
/-! a class whose superclasses are named is not one that can be instantiated and isn't among them -/
theorem ns_root {O D : String} {nn : Nat} (w : (Cond.noSuperclass O).before a0 Z = true) (wk : (Cond.instantiable D nn).before a0 Z = true) (hn : O ≠ D) : NS Z O D := by
  obtain ⟨c1, k1, q1, q2, q3, -, -⟩ := Cond.noSuperclass_spec w
  obtain ⟨t, -, g1, -⟩ := Cond.instantiable_spec wk
  refine ⟨c1, t, q1, g1, fun fuel => ?_⟩
  have ne := ids_ne q1 g1 hn
  cases fuel <;> simp [Vm.isSubclassAux, ne, q2, q3]
theorem ns_no {C S D : String} {nn : Nat} (w : (Cond.superclass C S).before a0 Z = true) (wk : (Cond.instantiable D nn).before a0 Z = true) (n : NS Z C D) (hn : C ≠ D) : ∃ c t, Z.vm.findClass C = some c ∧ Z.vm.findClass D = some t ∧ Z.vm.assignable c t = false := by
  obtain ⟨c1, t, q0, g0, n3⟩ := n
  obtain ⟨p1, k1, kp, q1, q2, q3, q4, q5, -, q7⟩ := Cond.superclass_spec q0 w
  obtain ⟨t', k2, g1, g2, g3, g4, -⟩ := Cond.instantiable_spec wk
  cases g0.symm.trans g1
  have ne := ids_ne q0 g0 hn
  have g5 : k2.isInterface = false := by simpa using (Bool.or_eq_false_iff.mp g4).1
  refine ⟨c1, t, q0, g0, ?_⟩
  show Z.vm.assignableAux (255 + 1) c1 t = false
  simp [Vm.assignableAux, ne, q2, g2, q5, g3, g5, Vm.isSubclass, n3]
end Own
end Jvm.RoadKit
namespace Jvm.RoadKit
open Sem ClassFile Op Lib Jvm.Stand Jvm.Free Jvm.LawKit
section OwnSteps
variable {p : Program} {l : Launch} {e : Env} {R : Room} {s : State} {m : MethodId} {args : Array Value} {below : List Frame} {meth : Method} {c : Code} {T : State} {locs : List Loc} {cells slots : Nat} {K : State → Outcome → Prop} {pc q : Nat} {Ls l' : Array Slot} {S : List Value}
theorem Go.iloadN {k : Fin 4} {v : Int32} (X : Stand p l e R s m args below meth c T locs cells slots) (hx : p.tables.exec = Jvm.exec) (hd : decode c.code pc = .ok (.iload_n k, 1)) (hl : Ls[k.val]? = some (.val (.int v))) (hp : pc + 1 = q) (g : Go p e below K (T.setTop (mkF m q Ls (.int v :: S)))) : Go p e below K (T.setTop (mkF m pc Ls S)) := by
  subst hp
  exact Go.by (fun t z => XS.iloadN X.here hx rfl hd hl z) g
theorem Go.iload {k : Nat} {v : Int32} (X : Stand p l e R s m args below meth c T locs cells slots) (hx : p.tables.exec = Jvm.exec) (hd : decode c.code pc = .ok (.iload k, 2)) (hl : Ls[k]? = some (.val (.int v))) (hp : pc + 2 = q) (g : Go p e below K (T.setTop (mkF m q Ls (.int v :: S)))) : Go p e below K (T.setTop (mkF m pc Ls S)) := by
  subst hp
  exact Go.by (fun t z => XS.iload X.here hx rfl hd hl z) g
theorem Go.istoreN {k : Fin 4} {v : Int32} (X : Stand p l e R s m args below meth c T locs cells slots) (hx : p.tables.exec = Jvm.exec) (hd : decode c.code pc = .ok (.istore_n k, 1)) (hl : storeLocals Ls k.val (.int v) = some l') (hp : pc + 1 = q) (g : Go p e below K (T.setTop (mkF m q l' S))) : Go p e below K (T.setTop (mkF m pc Ls (.int v :: S))) := by
  subst hp
  exact Go.by (fun t z => XS.istoreN X.here hx rfl hd rfl hl z) g
theorem Go.istore {k : Nat} {v : Int32} (X : Stand p l e R s m args below meth c T locs cells slots) (hx : p.tables.exec = Jvm.exec) (hd : decode c.code pc = .ok (.istore k, 2)) (hl : storeLocals Ls k (.int v) = some l') (hp : pc + 2 = q) (g : Go p e below K (T.setTop (mkF m q l' S))) : Go p e below K (T.setTop (mkF m pc Ls (.int v :: S))) := by
  subst hp
  exact Go.by (fun t z => XS.istore X.here hx rfl hd rfl hl z) g
theorem Go.lloadN {k : Fin 4} {v : Int64} (X : Stand p l e R s m args below meth c T locs cells slots) (hx : p.tables.exec = Jvm.exec) (hd : decode c.code pc = .ok (.lload_n k, 1)) (hl : Ls[k.val]? = some (.val (.long v))) (hp : pc + 1 = q) (g : Go p e below K (T.setTop (mkF m q Ls (.long v :: S)))) : Go p e below K (T.setTop (mkF m pc Ls S)) := by
  subst hp
  exact Go.by (fun t z => XS.lloadN X.here hx rfl hd hl z) g
theorem Go.lload {k : Nat} {v : Int64} (X : Stand p l e R s m args below meth c T locs cells slots) (hx : p.tables.exec = Jvm.exec) (hd : decode c.code pc = .ok (.lload k, 2)) (hl : Ls[k]? = some (.val (.long v))) (hp : pc + 2 = q) (g : Go p e below K (T.setTop (mkF m q Ls (.long v :: S)))) : Go p e below K (T.setTop (mkF m pc Ls S)) := by
  subst hp
  exact Go.by (fun t z => XS.lload X.here hx rfl hd hl z) g
theorem Go.lstore {k : Nat} {v : Int64} (X : Stand p l e R s m args below meth c T locs cells slots) (hx : p.tables.exec = Jvm.exec) (hd : decode c.code pc = .ok (.lstore k, 2)) (hl : storeLocals Ls k (.long v) = some l') (hp : pc + 2 = q) (g : Go p e below K (T.setTop (mkF m q l' S))) : Go p e below K (T.setTop (mkF m pc Ls (.long v :: S))) := by
  subst hp
  exact Go.by (fun t z => XS.lstore X.here hx rfl hd rfl hl z) g
theorem Go.aloadN {k : Fin 4} {v : Value} (X : Stand p l e R s m args below meth c T locs cells slots) (hx : p.tables.exec = Jvm.exec) (hd : decode c.code pc = .ok (.aload_n k, 1)) (hl : Ls[k.val]? = some (.val v)) (hv : v.isRef = true) (hp : pc + 1 = q) (g : Go p e below K (T.setTop (mkF m q Ls (v :: S)))) : Go p e below K (T.setTop (mkF m pc Ls S)) := by
  subst hp
  exact Go.by (fun t z => XS.aloadN X.here hx rfl hd hl hv z) g
theorem Go.aload {k : Nat} {v : Value} (X : Stand p l e R s m args below meth c T locs cells slots) (hx : p.tables.exec = Jvm.exec) (hd : decode c.code pc = .ok (.aload k, 2)) (hl : Ls[k]? = some (.val v)) (hv : v.isRef = true) (hp : pc + 2 = q) (g : Go p e below K (T.setTop (mkF m q Ls (v :: S)))) : Go p e below K (T.setTop (mkF m pc Ls S)) := by
  subst hp
  exact Go.by (fun t z => XS.aload X.here hx rfl hd hl hv z) g
theorem Go.astoreN {k : Fin 4} {v : Value} (X : Stand p l e R s m args below meth c T locs cells slots) (hx : p.tables.exec = Jvm.exec) (hd : decode c.code pc = .ok (.astore_n k, 1)) (hv : v.isRef = true) (hl : storeLocals Ls k.val v = some l') (hp : pc + 1 = q) (g : Go p e below K (T.setTop (mkF m q l' S))) : Go p e below K (T.setTop (mkF m pc Ls (v :: S))) := by
  subst hp
  exact Go.by (fun t z => XS.astoreN X.here hx rfl hd rfl hv hl z) g
theorem Go.astore {k : Nat} {v : Value} (X : Stand p l e R s m args below meth c T locs cells slots) (hx : p.tables.exec = Jvm.exec) (hd : decode c.code pc = .ok (.astore k, 2)) (hv : v.isRef = true) (hl : storeLocals Ls k v = some l') (hp : pc + 2 = q) (g : Go p e below K (T.setTop (mkF m q l' S))) : Go p e below K (T.setTop (mkF m pc Ls (v :: S))) := by
  subst hp
  exact Go.by (fun t z => XS.astore X.here hx rfl hd rfl hv hl z) g
theorem Go.iconst {i : Int} {r : Int32} (X : Stand p l e R s m args below meth c T locs cells slots) (hx : p.tables.exec = Jvm.exec) (hd : decode c.code pc = .ok (.iconst i, 1)) (hr : Int32.ofInt i = r) (hp : pc + 1 = q) (g : Go p e below K (T.setTop (mkF m q Ls (.int r :: S)))) : Go p e below K (T.setTop (mkF m pc Ls S)) := by
  subst hp hr
  exact Go.by (fun t z => XS.iconst X.here hx rfl hd z) g
theorem Go.bipush {i : Int} {r : Int32} (X : Stand p l e R s m args below meth c T locs cells slots) (hx : p.tables.exec = Jvm.exec) (hd : decode c.code pc = .ok (.bipush i, 2)) (hr : (Int8.ofInt i).toInt32 = r) (hp : pc + 2 = q) (g : Go p e below K (T.setTop (mkF m q Ls (.int r :: S)))) : Go p e below K (T.setTop (mkF m pc Ls S)) := by
  subst hp hr
  exact Go.by (fun t z => XS.bipush X.here hx rfl hd z) g
theorem Go.sipush {i : Int} {r : Int32} (X : Stand p l e R s m args below meth c T locs cells slots) (hx : p.tables.exec = Jvm.exec) (hd : decode c.code pc = .ok (.sipush i, 3)) (hr : (Int16.ofInt i).toInt32 = r) (hp : pc + 3 = q) (g : Go p e below K (T.setTop (mkF m q Ls (.int r :: S)))) : Go p e below K (T.setTop (mkF m pc Ls S)) := by
  subst hp hr
  exact Go.by (fun t z => XS.sipush X.here hx rfl hd z) g
theorem Go.lconst {k : Fin 2} {r : Int64} (X : Stand p l e R s m args below meth c T locs cells slots) (hx : p.tables.exec = Jvm.exec) (hd : decode c.code pc = .ok (.lconst k, 1)) (hr : Int64.ofNat k = r) (hp : pc + 1 = q) (g : Go p e below K (T.setTop (mkF m q Ls (.long r :: S)))) : Go p e below K (T.setTop (mkF m pc Ls S)) := by
  subst hp hr
  exact Go.by (fun t z => XS.lconst X.here hx rfl hd z) g
theorem Go.aconst_null  (X : Stand p l e R s m args below meth c T locs cells slots) (hx : p.tables.exec = Jvm.exec) (hd : decode c.code pc = .ok (.aconst_null, 1)) (hp : pc + 1 = q) (g : Go p e below K (T.setTop (mkF m q Ls (.null :: S)))) : Go p e below K (T.setTop (mkF m pc Ls S)) := by
  subst hp
  exact Go.by (fun t z => XS.aconstNull X.here hx rfl hd z) g
theorem Go.iadd {x y r : Int32} (X : Stand p l e R s m args below meth c T locs cells slots) (hx : p.tables.exec = Jvm.exec) (hd : decode c.code pc = .ok (.iadd, 1)) (hr : x + y = r) (hp : pc + 1 = q) (g : Go p e below K (T.setTop (mkF m q Ls (.int r :: S)))) : Go p e below K (T.setTop (mkF m pc Ls (.int y :: .int x :: S))) := by
  subst hp hr
  exact Go.by (fun t z => XS.iadd X.here hx rfl hd rfl z) g
theorem Go.isub {x y r : Int32} (X : Stand p l e R s m args below meth c T locs cells slots) (hx : p.tables.exec = Jvm.exec) (hd : decode c.code pc = .ok (.isub, 1)) (hr : x - y = r) (hp : pc + 1 = q) (g : Go p e below K (T.setTop (mkF m q Ls (.int r :: S)))) : Go p e below K (T.setTop (mkF m pc Ls (.int y :: .int x :: S))) := by
  subst hp hr
  exact Go.by (fun t z => XS.isub X.here hx rfl hd rfl z) g
theorem Go.iand {x y r : Int32} (X : Stand p l e R s m args below meth c T locs cells slots) (hx : p.tables.exec = Jvm.exec) (hd : decode c.code pc = .ok (.iand, 1)) (hr : x &&& y = r) (hp : pc + 1 = q) (g : Go p e below K (T.setTop (mkF m q Ls (.int r :: S)))) : Go p e below K (T.setTop (mkF m pc Ls (.int y :: .int x :: S))) := by
  subst hp hr
  exact Go.by (fun t z => XS.iand X.here hx rfl hd rfl z) g
theorem Go.iushr {x y r : Int32} (X : Stand p l e R s m args below meth c T locs cells slots) (hx : p.tables.exec = Jvm.exec) (hd : decode c.code pc = .ok (.iushr, 1)) (hr : (x.toUInt32 >>> (y &&& 31).toUInt32).toInt32 = r) (hp : pc + 1 = q) (g : Go p e below K (T.setTop (mkF m q Ls (.int r :: S)))) : Go p e below K (T.setTop (mkF m pc Ls (.int y :: .int x :: S))) := by
  subst hp hr
  exact Go.by (fun t z => XS.iushr X.here hx rfl hd rfl z) g
theorem Go.lcmp {x y : Int64} {r : Int32} (X : Stand p l e R s m args below meth c T locs cells slots) (hx : p.tables.exec = Jvm.exec) (hd : decode c.code pc = .ok (.lcmp, 1)) (hr : Jvm.Free.XT.cmpL x y = r) (hp : pc + 1 = q) (g : Go p e below K (T.setTop (mkF m q Ls (.int r :: S)))) : Go p e below K (T.setTop (mkF m pc Ls (.long y :: .long x :: S))) := by
  subst hp hr
  exact Go.by (fun t z => XS.lcmp X.here hx rfl hd rfl z) g
theorem Go.iinc {k : Nat} {cst : Int} {x r : Int32} (X : Stand p l e R s m args below meth c T locs cells slots) (hx : p.tables.exec = Jvm.exec) (hd : decode c.code pc = .ok (.iinc k cst, 3)) (hl : Ls[k]? = some (.val (.int x))) (hr : x + Int32.ofInt cst = r) (hl' : storeLocals Ls k (.int r) = some l') (hp : pc + 3 = q) (g : Go p e below K (T.setTop (mkF m q l' S))) : Go p e below K (T.setTop (mkF m pc Ls S)) := by
  subst hp hr
  exact Go.by (fun t z => XS.iinc X.here hx rfl hd hl hl' z) g
theorem Go.dup {x : Value} (X : Stand p l e R s m args below meth c T locs cells slots) (hx : p.tables.exec = Jvm.exec) (hd : decode c.code pc = .ok (.dup, 1)) (hc : x.category = 1) (hp : pc + 1 = q) (g : Go p e below K (T.setTop (mkF m q Ls (x :: x :: S)))) : Go p e below K (T.setTop (mkF m pc Ls (x :: S))) := by
  subst hp
  exact Go.by (fun t z => XS.dup X.here hx rfl hd rfl hc z) g
theorem Go.dup_x1 {x y : Value} (X : Stand p l e R s m args below meth c T locs cells slots) (hx : p.tables.exec = Jvm.exec) (hd : decode c.code pc = .ok (.dup_x1, 1)) (hc : x.category = 1) (hc2 : y.category = 1) (hp : pc + 1 = q) (g : Go p e below K (T.setTop (mkF m q Ls (x :: y :: x :: S)))) : Go p e below K (T.setTop (mkF m pc Ls (x :: y :: S))) := by
  subst hp
  exact Go.by (fun t z => XS.dupX1 X.here hx rfl hd rfl hc hc2 z) g
theorem Go.pop {x : Value} (X : Stand p l e R s m args below meth c T locs cells slots) (hx : p.tables.exec = Jvm.exec) (hd : decode c.code pc = .ok (.pop, 1)) (hc : x.category = 1) (hp : pc + 1 = q) (g : Go p e below K (T.setTop (mkF m q Ls S))) : Go p e below K (T.setTop (mkF m pc Ls (x :: S))) := by
  subst hp
  exact Go.by (fun t z => XS.pop X.here hx rfl hd rfl hc z) g
theorem Go.goto  {o : Int} (X : Stand p l e R s m args below meth c T locs cells slots) (hx : p.tables.exec = Jvm.exec) (hd : decode c.code pc = .ok (.goto o, 3)) (ho : 0 ≤ (pc : Int) + o) (hp : ((pc : Int) + o).toNat = q) (g : Go p e below K (T.setTop (mkF m q Ls S))) : Go p e below K (T.setTop (mkF m pc Ls S)) :=
  Go.by (fun t z => XS.goto X.here hx rfl (pc0 := pc) rfl hd ho hp z) g
theorem Go.ifYes {cd : ClassFile.Cond} {x : Int32} {o : Int} (X : Stand p l e R s m args below meth c T locs cells slots) (hx : p.tables.exec = Jvm.exec) (hd : decode c.code pc = .ok (.ifCond cd o, 3)) (hc : ifCond.holds cd x = true) (ho : 0 ≤ (pc : Int) + o) (hp : ((pc : Int) + o).toNat = q) (g : Go p e below K (T.setTop (mkF m q Ls S))) : Go p e below K (T.setTop (mkF m pc Ls (.int x :: S))) :=
  Go.by (fun t z => XS.ifYes X.here hx rfl (pc0 := pc) rfl hd rfl hc ho hp z) g
theorem Go.icmpYes {cd : ClassFile.Cond} {x y : Int32} {o : Int} (X : Stand p l e R s m args below meth c T locs cells slots) (hx : p.tables.exec = Jvm.exec) (hd : decode c.code pc = .ok (.if_icmp cd o, 3)) (hc : if_icmp.holds cd x y = true) (ho : 0 ≤ (pc : Int) + o) (hp : ((pc : Int) + o).toNat = q) (g : Go p e below K (T.setTop (mkF m q Ls S))) : Go p e below K (T.setTop (mkF m pc Ls (.int y :: .int x :: S))) :=
  Go.by (fun t z => XS.icmpYes X.here hx rfl (pc0 := pc) rfl hd rfl hc ho hp z) g
theorem Go.ifnullYes  {o : Int} (X : Stand p l e R s m args below meth c T locs cells slots) (hx : p.tables.exec = Jvm.exec) (hd : decode c.code pc = .ok (.ifnull o, 3)) (ho : 0 ≤ (pc : Int) + o) (hp : ((pc : Int) + o).toNat = q) (g : Go p e below K (T.setTop (mkF m q Ls S))) : Go p e below K (T.setTop (mkF m pc Ls (.null :: S))) :=
  Go.by (fun t z => XS.ifnullYes X.here hx rfl (pc0 := pc) rfl hd rfl ho hp z) g
theorem Go.ifnonnullYes {b : Addr} {o : Int} (X : Stand p l e R s m args below meth c T locs cells slots) (hx : p.tables.exec = Jvm.exec) (hd : decode c.code pc = .ok (.ifnonnull o, 3)) (ho : 0 ≤ (pc : Int) + o) (hp : ((pc : Int) + o).toNat = q) (g : Go p e below K (T.setTop (mkF m q Ls S))) : Go p e below K (T.setTop (mkF m pc Ls (.ref b :: S))) :=
  Go.by (fun t z => XS.ifnonnullYes X.here hx rfl (pc0 := pc) rfl hd rfl ho hp z) g
theorem Go.ifNo {cd : ClassFile.Cond} {x : Int32} {o : Int} (X : Stand p l e R s m args below meth c T locs cells slots) (hx : p.tables.exec = Jvm.exec) (hd : decode c.code pc = .ok (.ifCond cd o, 3)) (hc : ifCond.holds cd x = false) (hp : pc + 3 = q) (g : Go p e below K (T.setTop (mkF m q Ls S))) : Go p e below K (T.setTop (mkF m pc Ls (.int x :: S))) := by
  subst hp
  exact Go.by (fun t z => XS.ifNo X.here hx rfl hd rfl hc z) g
theorem Go.icmpNo {cd : ClassFile.Cond} {x y : Int32} {o : Int} (X : Stand p l e R s m args below meth c T locs cells slots) (hx : p.tables.exec = Jvm.exec) (hd : decode c.code pc = .ok (.if_icmp cd o, 3)) (hc : if_icmp.holds cd x y = false) (hp : pc + 3 = q) (g : Go p e below K (T.setTop (mkF m q Ls S))) : Go p e below K (T.setTop (mkF m pc Ls (.int y :: .int x :: S))) := by
  subst hp
  exact Go.by (fun t z => XS.icmpNo X.here hx rfl hd rfl hc z) g
theorem Go.ifnullNo {b : Addr} {o : Int} (X : Stand p l e R s m args below meth c T locs cells slots) (hx : p.tables.exec = Jvm.exec) (hd : decode c.code pc = .ok (.ifnull o, 3)) (hp : pc + 3 = q) (g : Go p e below K (T.setTop (mkF m q Ls S))) : Go p e below K (T.setTop (mkF m pc Ls (.ref b :: S))) := by
  subst hp
  exact Go.by (fun t z => XS.ifnullNo X.here hx rfl hd rfl z) g
theorem Go.ifnonnullNo {o : Int} (X : Stand p l e R s m args below meth c T locs cells slots) (hx : p.tables.exec = Jvm.exec) (hd : decode c.code pc = .ok (.ifnonnull o, 3)) (hp : pc + 3 = q) (g : Go p e below K (T.setTop (mkF m q Ls S))) : Go p e below K (T.setTop (mkF m pc Ls (.null :: S))) := by
  subst hp
  exact Go.by (fun t z => XS.ifnonnullNo X.here hx rfl hd rfl z) g
theorem Go.acmp {cd : ACond} {x y : Value} {o : Int} {same : Bool} (X : Stand p l e R s m args below meth c T locs cells slots) (hx : p.tables.exec = Jvm.exec) (h1 : x.isRef = true) (h2 : y.isRef = true) (hd : decode c.code pc = .ok (.if_acmp cd o, 3)) (hq : decide (x = y) = same) (ho : 0 ≤ (pc : Int) + o) (hp : q = if acV cd same = true then ((pc : Int) + o).toNat else pc + 3) (g : Go p e below K (T.setTop (mkF m q Ls S))) : Go p e below K (T.setTop (mkF m pc Ls (y :: x :: S))) :=
  Go.by (fun t z => Jvm.RoadKit.acmp (g := mkF m pc Ls (y :: x :: S)) X hx rfl h1 h2 (pc0 := pc) (same := same) rfl hd rfl hq ho hp z) g
variable {Z : State} {a0 : Array Value} {h : Heap} {own R0 O n d host C : String} {index kk : Nat} {a : Addr} {v v' old : Value} {ty : FieldType}
theorem Go.getF (X : Stand p l e R s m args below meth c T locs cells slots) (hx : p.tables.exec = Jvm.exec) (hZ : Z.Warmed39 s.vm) (hown : s.vm.findClass own = some m.cls) (w : (Cond.fieldLink own index R0 n d).before a0 Z = true ∨ (Cond.fieldLinkNest own index R0 n d host).before a0 Z = true) (via : Via Z R0 O n d) (eT : T.heap = h) (F : Fld Z h a O n d v) (hd : decode c.code pc = .ok (.getfield index, 3)) (hp : pc + 3 = q)
    (g : ∀ T', Stand p l e R s m args below meth c T' locs cells slots → T'.heap = h → Go p e below K (T'.setTop (mkF m q Ls (v :: S)))) : Go p e below K (T.setTop (mkF m pc Ls (.ref a :: S))) := by
  subst hp
  obtain ⟨T', X', e', st⟩ := Jvm.RoadKit.getF X hx hZ hown w via eT F (g := mkF m pc Ls (.ref a :: S)) rfl rfl hd
  exact Go.by st (g T' X' e')
theorem Go.getS (X : Stand p l e R s m args below meth c T locs cells slots) (hx : p.tables.exec = Jvm.exec) (hZ : Z.Warmed39 s.vm) (hown : s.vm.findClass own = some m.cls) (w : (Cond.fieldLink own index R0 n d).before a0 Z = true ∨ (Cond.fieldLinkNest own index R0 n d host).before a0 Z = true) (via : Via Z R0 O n d) (eT : T.heap = h) (F : Sta Z h O n d v) (hd : decode c.code pc = .ok (.getstatic index, 3)) (hp : pc + 3 = q)
    (g : ∀ T', Stand p l e R s m args below meth c T' locs cells slots → T'.heap = h → Go p e below K (T'.setTop (mkF m q Ls (v :: S)))) : Go p e below K (T.setTop (mkF m pc Ls S)) := by
  subst hp
  obtain ⟨T', X', e', st⟩ := Jvm.RoadKit.getS2 X hx hZ hown w via eT F (g := mkF m pc Ls S) rfl hd
  exact Go.by st (g T' X' e')
theorem Go.putF (X : Stand p l e R s m args below meth c T locs cells slots) (hx : p.tables.exec = Jvm.exec) (hZ : Z.Warmed39 s.vm) (hown : s.vm.findClass own = some m.cls) (w : (Cond.fieldLink own index R0 n d).before a0 Z = true ∨ (Cond.fieldLinkNest own index R0 n d host).before a0 Z = true) (via : Via Z R0 O n d) (eT : T.heap = h) (F : Fld Z h a O n d old) (E : Exa Z h a C)
    (L : (Cond.lays C O n d).before a0 Z = true ∨ ((Cond.laysFinal C O n d).before a0 Z = true ∧ own = O ∧ meth.name = "<init>")) (wi : (Cond.instantiable C kk).before a0 Z = true) (hty : parseFieldDescriptor d = some ty) (hn : narrow ty v = v) (hf : fits ty v = true) (hd : decode c.code pc = .ok (.putfield index, 3)) (hp : pc + 3 = q)
    (g : ∀ T' h', Stand p l e R s m args below meth c T' (locs ++ [⟨a, slotOf Z O n d⟩]) cells slots → T'.heap = h' → Wr h h' a (slotOf Z O n d) v → Fld Z h' a O n d v → Go p e below K (T'.setTop (mkF m q Ls S))) : Go p e below K (T.setTop (mkF m pc Ls (v :: .ref a :: S))) := by
  subst hp
  obtain ⟨T', h', X', e', W, st⟩ := Jvm.RoadKit.putF X hx hZ hown w via eT F E L wi hty hn hf (g := mkF m pc Ls (v :: .ref a :: S)) rfl rfl hd
  exact Go.by st (g T' h' X' e' W (F.same W))
theorem Go.newO {nn : Nat} (X : Stand p l e R s m args below meth c T locs cells slots) (hx : p.tables.exec = Jvm.exec) (hZ : Z.Warmed39 s.vm) (hown : s.vm.findClass own = some m.cls) (w : (Cond.classLink own index C).before a0 Z = true) (wi : (Cond.instantiable C nn).before a0 Z = true) (wz : (Cond.initialized C).before a0 Z = true) (eT : T.heap = h) (hd : decode c.code pc = .ok (.new index, 3)) (hc : cells + 1 ≤ R.cells) (hl : slots + nn ≤ R.slots) (hp : pc + 3 = q)
    (g : ∀ (b : Addr) T' h', Stand p l e R s m args below meth c T' locs (cells + 1) (slots + nn) → T'.heap = h' → h.size = b → Ext h h' → Exa Z h' b C → (∀ {O nm d : String} {ty : FieldType}, Laid Z a0 C O nm d → parseFieldDescriptor d = some ty → Fld Z h' b O nm d (defaultValue ty)) → Unt h' b → Go p e below K (T'.setTop (mkF m q Ls (.ref b :: S)))) : Go p e below K (T.setTop (mkF m pc Ls S)) := by
  subst hp
  obtain ⟨T', h', X', e', E, A, D, U, st⟩ := Jvm.RoadKit.newO X hx hZ hown w wi wz eT (g := mkF m pc Ls S) rfl hd hc hl
  exact Go.by st (g _ T' h' X' e' rfl E A D U)
theorem Go.initO (X : Stand p l e R s m args below meth c T locs cells slots) (hx : p.tables.exec = Jvm.exec) (hZ : Z.Warmed39 s.vm) (hown : s.vm.findClass own = some m.cls) (w1 : (Cond.methodLink own index Lib.objectInit).before a0 Z = true) (w2 : (Cond.instanceMethod Lib.objectInit).before a0 Z = true) (w3 : (Cond.code Lib.objectInit ⟨#[0xb1]⟩ 1 none).before a0 Z = true) (eT : T.heap = h) (hsz : Ls.size = c.maxLocals) (hd : decode c.code pc = .ok (.invokespecial index, 3)) (hf : 1 ≤ R.frames) {W : Nat} (hW : 2 * 0 + (S.map fun v => v.category).sum ≤ W) (hl : W + 12 ≤ R.locals) (hp : pc + 3 = q)
    (g : ∀ T', Stand p l e R s m args below meth c T' locs cells slots → T'.heap = h → Go p e below K (T'.setTop (mkF m q Ls S))) : Go p e below K (T.setTop (mkF m pc Ls (.ref a :: S))) := by
  subst hp
  obtain ⟨T', X', e', st⟩ := Jvm.RoadKit.initO X hx hZ hown w1 w2 w3 eT (g := mkF m pc Ls (.ref a :: S)) rfl hsz rfl hd hf hW hl
  exact Go.by st (g T' X' e')
theorem Go.castY {D : String} (X : Stand p l e R s m args below meth c T locs cells slots) (hx : p.tables.exec = Jvm.exec) (hZ : Z.Warmed39 s.vm) (hown : s.vm.findClass own = some m.cls) (w : (Cond.classLink own index D).before a0 Z = true) (eT : T.heap = h) (F : Ins Z h a D true) (hd : decode c.code pc = .ok (.checkcast index, 3)) (hp : pc + 3 = q)
    (g : ∀ T', Stand p l e R s m args below meth c T' locs cells slots → T'.heap = h → Go p e below K (T'.setTop (mkF m q Ls (.ref a :: S)))) : Go p e below K (T.setTop (mkF m pc Ls (.ref a :: S))) := by
  subst hp
  obtain ⟨T', X', e', st⟩ := Jvm.RoadKit.castY X hx hZ hown w eT F (g := mkF m pc Ls (.ref a :: S)) rfl rfl hd
  exact Go.by st (g T' X' e')

end OwnSteps
end Jvm.RoadKit
namespace Jvm.RoadKit
open Sem ClassFile Op Lib Jvm.Stand Jvm.Free Jvm.LawKit
section OwnRefs
variable {p : Program} {l : Launch} {e : Env} {R : Room} {s : State} {m : MethodId} {args : Array Value} {below : List Frame} {meth : Method} {c : Code} {T T' : State} {locs : List Loc} {cells slots : Nat} {Z : State} {a0 : Array Value} {h h' h0 : Heap} {K : State → Outcome → Prop} {pc q : Nat} {Ls : Array Slot} {rest S : List Value} {k n : Nat} {a b : Addr} {cA : ClassId} {ty : FieldType} {z j : Int32} {vs : List Value} {dv : Value}
theorem own_selp {C : String} {x' y y' : MethodName} (hs : (Cond.selects C x' y').before a0 Z = true) (hc : y'.cls = y.cls) (w6 : (Cond.instanceMethod y).before a0 Z = true) (w7 : (Cond.privateMethod y).before a0 Z = true) (hy : y.cls ≠ "java/lang/invoke/MethodHandle" ∧ y.cls ≠ "java/lang/invoke/VarHandle") : (Cond.selects y.cls y y).before a0 Z = true := by
  obtain ⟨c2, r2, m2, q1, -, q3, -, kP, hkP, hkPi⟩ := Cond.selects_spec hs
  have q4 := findClass_of_methodNamed q3
  rw [hc] at q4
  exact selects_self_of_private q4 hkP hkPi (Cond.privateMethod_at w7) w6 hy
theorem own_nf {C : String} {x' z' y : MethodName} (hs : (Cond.selects C x' z').before args s = true) (hc : z'.cls = y.cls) : NotFace s y := fun r0 h0 => by
  obtain ⟨c2, r2, m2, -, -, q3, -, kP, hkP, hkPi⟩ := Cond.selects_spec hs
  have q4 := findClass_of_methodNamed q3
  have q5 := findClass_of_methodNamed h0
  rw [hc, q5] at q4
  exact ⟨kP, by rw [Option.some.inj q4]; exact hkP, hkPi⟩
theorem own_sameM {C : String} {x' z' y : MethodName} (hs : (Cond.selects C x' z').before a0 Z = true) (hc : z'.cls = y.cls) (wi : (Cond.instanceMethod y).before a0 Z = true) (hy : y.cls ≠ "java/lang/invoke/MethodHandle" ∧ y.cls ≠ "java/lang/invoke/VarHandle") : (Cond.sameMethod y.cls y.cls y.name y.desc).before a0 Z = true := by
  obtain ⟨mk, methM, hnamed, -⟩ := Cond.instanceMethod_spec wi
  obtain ⟨kr, hkr, hni⟩ := own_nf hs hc mk hnamed
  have hf := State.methodFound?_of_named hnamed hy
  have hcn := findClass_of_methodNamed hnamed
  have hn' : Z.methodNamed? ⟨y.cls, y.name, y.desc⟩ = some mk := hnamed
  simp [Cond.before, Cond.holds, Cond.value, hcn, hf, hn', hkr, hni]
theorem Sto.ofArv {y : Addr} {C : String} (V : Arv Z h a cA ty z vs dv) (O : Ovr Z cA C) (I : Ins Z h y C true) : Sto Z h a (.ref y) := by
  obtain ⟨cl, A, q1, -⟩ := V
  exact Sto.ofV A q1 O I
theorem Go.newR {own C ad : String} {index cap : Nat} (X : Stand p l e R s m args below meth c T locs cells slots) (hx : p.tables.exec = Jvm.exec) (hZ : Z.Warmed39 s.vm) (hown : s.vm.findClass own = some m.cls) (w1 : (Cond.classLink own index C).before a0 Z = true) (w2 : (Cond.arrayOver (.object C)).before a0 Z = true) (hd : decode c.code pc = .ok (.anewarray index, 3)) (eT : T.heap = h) (hn : ¬ z < 0) (hcap : z.toNatClampNeg ≤ cap) (hb : cap * 8 ≤ 536870912) (hc : cells + 1 ≤ R.cells) (hl : slots + cap ≤ R.slots) (had : "[" ++ (FieldType.object C).toString = ad) (hp : pc + 3 = q)
    (g : ∀ (b : Addr) T' h' cA, Stand p l e R s m args below meth c T' locs (cells + 1) (slots + cap) → T'.heap = h' → h.size = b → Ext h h' → Arv Z h' b cA (.object C) z [] .null → Exa Z h' b ad → Ovr Z cA C → Go p e below K (T'.setTop (mkF m q Ls (.ref b :: S)))) : Go p e below K (T.setTop (mkF m pc Ls (.int z :: S))) := by
  subst hp
  obtain ⟨T', h', cA, X', e', E, A, B, O, st⟩ := Jvm.RoadKit.newRE X hx hZ hown w1 w2 eT (g := mkF m pc Ls (.int z :: S)) rfl hd rfl hn hcap hb hc hl had
  exact Go.by st (g _ T' h' cA X' e' rfl E (Arv.new A hn) B O)
theorem Go.rst {v : Value} {i : Nat} (X : Stand p l e R s m args below meth c T locs cells slots) (hx : p.tables.exec = Jvm.exec) (hZ : Z.Warmed39 s.vm) (eT : T.heap = h) (V : Arv Z h a cA ty z vs dv) (hty : ty.isReference = true) (F : Sto Z h a v) (hfit : fits ty v = true) (hj : ¬ j < 0 ∧ j < z) (hi : j.toNatClampNeg = i) (hl : i < vs.length) (hd : decode c.code pc = .ok (.aastore, 1))
    (g : ∀ (T' : State) (h' : Heap), Stand p l e R s m args below meth c T' (locs ++ [⟨a, j.toNatClampNeg⟩]) cells slots → T'.heap = h' → Wr h h' a j.toNatClampNeg v → Arv Z h' a cA ty z (vs.set i v) dv → Go p e below K (T'.setTop (mkF m (pc + 1) Ls rest))) : Go p e below K (T.setTop (mkF m pc Ls (v :: .int j :: .ref a :: rest))) := by
  obtain ⟨cl, A, q1, S, N, H, G⟩ := V
  obtain ⟨T', h', X', e', W, st⟩ := stR X hx hZ eT A (j := j) (v := v) (inb_of S hj) hty F (g := mkF m pc Ls (v :: .int j :: .ref a :: rest)) rfl rfl hd
  exact Go.by st (g T' h' X' e' W (Arv.set A q1 S N H G hfit W i hi hl))
theorem Go.virtUp {own C owner : String} {index : Nat} {y z : MethodName} {bytes : ByteArray} {maxL : Nat} {ret : Option FieldType} {rm : Room} {as' : Array Value} {argsL S : List Value} (X : Stand p l e R s m args below meth c T locs cells slots) (hx : p.tables.exec = Jvm.exec) (hZ : Z.Warmed39 s.vm) (hown : s.vm.findClass own = some m.cls)
    (w1 : (Cond.methodLink own index y).before a0 Z = true) (w0 : (Cond.sameMethod y.cls owner y.name y.desc).before a0 Z = true) (w2 : (Cond.declares ⟨owner, y.name, y.desc⟩).before a0 Z = true) (w5 : (Cond.selects C y z).before a0 Z = true) (w6 : (Cond.instanceMethod z).before a0 Z = true) (w3 : (Cond.initialized z.cls).before a0 Z = true) (w4 : (Cond.code z bytes maxL ret).before a0 Z = true)
    (hy : owner ≠ "java/lang/invoke/MethodHandle" ∧ owner ≠ "java/lang/invoke/VarHandle") {Q : Option Value → Heap → List Loc → Prop} (hM : Ctr l Z h z bytes maxL ret [] rm as' Q) (eT : T.heap = h) (E : Exa Z h a C) (hsz : Ls.size = c.maxLocals)
    (hd : decode c.code pc = .ok (.invokevirtual index, 3)) (hlen : ∀ sig, parseMethodDescriptor y.desc = some sig → argsL.length = sig.parameters.length) (hst : S = argsL.reverse ++ .ref a :: rest) (has : (Value.ref a :: argsL).toArray = as')
    {W : Nat} (hW : 2 * 0 + (rest.map fun v => v.category).sum ≤ W) (hf : rm.frames + 1 ≤ R.frames) (hl : W + (maxL + 11) + rm.locals ≤ R.locals) (hc : cells + rm.cells ≤ R.cells) (hs : slots + rm.slots ≤ R.slots)
    (g : ∀ (v : Option Value) (T' : State) (L : List Loc), Stand p l e R s m args below meth c T' (locs ++ L) (cells + rm.cells) (slots + rm.slots) → Q v T'.heap L → Go p e below K (T'.setTop (mkF m (pc + 3) Ls (v.toList ++ rest)))) : Go p e below K (T.setTop (mkF m pc Ls S)) := by
  obtain ⟨cq, kq, q1, q2, q3⟩ := isOf hZ eT E
  obtain ⟨v, _, ⟨T', L', k', n'⟩, -, X', ⟨Lc, hQ, l', y', z'⟩, st⟩ := X.virtualBackUp hx (x := y) (y := z) hown (mvT hZ w1) (mvT hZ w0) (mvT hZ w2) hy (mvT hZ w5) (mvT hZ w6) (backOf (W := W) hM hZ w4 w3 hf hl) q1 q3 (g := mkF m pc Ls S) rfl hsz (Steps.refl _) (argsL := argsL) (rest := rest) hlen hst hW hd (fun _ _ => ⟨has, eT, hc, hs⟩)
  dsimp only [Pt.U, Pt.locs, Pt.cells, Pt.slots] at X' l' y' z' st hQ
  subst l' y' z'
  exact Go.on st (g v T' Lc X' hQ)
theorem Go.callSUp {own owner nm ds cl : String} {index : Nat} {bytes : ByteArray} {maxL : Nat} {ret : Option FieldType} {rm : Room} {as' : Array Value} {argsL S : List Value} (X : Stand p l e R s m args below meth c T locs cells slots) (hx : p.tables.exec = Jvm.exec) (hZ : Z.Warmed39 s.vm) (hown : s.vm.findClass own = some m.cls)
    (w1 : (Cond.methodLink own index ⟨cl, nm, ds⟩).before a0 Z = true) (w0 : (Cond.sameMethod cl owner nm ds).before a0 Z = true) (w2 : (Cond.static ⟨owner, nm, ds⟩).before a0 Z = true) (w3 : (Cond.initialized owner).before a0 Z = true) (w4 : (Cond.code ⟨owner, nm, ds⟩ bytes maxL ret).before a0 Z = true)
    (hy : owner ≠ "java/lang/invoke/MethodHandle" ∧ owner ≠ "java/lang/invoke/VarHandle") {Q : Option Value → Heap → List Loc → Prop} (hM : Ctr l Z h ⟨owner, nm, ds⟩ bytes maxL ret [] rm as' Q) (eT : T.heap = h) (hsz : Ls.size = c.maxLocals)
    (hd : decode c.code pc = .ok (.invokestatic index, 3)) (hlen : ∀ sig, parseMethodDescriptor ds = some sig → argsL.length = sig.parameters.length) (hst : S = argsL.reverse ++ rest) (has : argsL.toArray = as')
    {W : Nat} (hW : 2 * 0 + (rest.map fun v => v.category).sum ≤ W) (hf : rm.frames + 1 ≤ R.frames) (hl : W + (maxL + 11) + rm.locals ≤ R.locals) (hc : cells + rm.cells ≤ R.cells) (hs : slots + rm.slots ≤ R.slots)
    (g : ∀ (v : Option Value) (T' : State) (L : List Loc), Stand p l e R s m args below meth c T' (locs ++ L) (cells + rm.cells) (slots + rm.slots) → Q v T'.heap L → Go p e below K (T'.setTop (mkF m (pc + 3) Ls (v.toList ++ rest)))) : Go p e below K (T.setTop (mkF m pc Ls S)) := by
  have hcode : (Cond.code ⟨owner, nm, ds⟩ bytes maxL ret).before args s = true := mvT hZ w4
  obtain ⟨mk, hnamed⟩ := Cond.code_named hcode
  obtain ⟨methM, cM, hmethM, -, -, -, -, -, -, hsigM⟩ := Cond.code_spec hnamed hcode
  obtain ⟨v, _, ⟨T', L', k', n'⟩, -, X', ⟨Lc, hQ, l', y', z'⟩, st⟩ := X.staticBackUp hx (x := ⟨cl, nm, ds⟩) (owner := owner) hown (mvT hZ w1) (mvT hZ w0) (mvT hZ w2) (mvT hZ w3) hnamed hmethM hsigM hy (backOf (W := W) hM hZ w4 w3 hf hl) (g := mkF m pc Ls S) rfl hsz (Steps.refl _) (argsL := argsL) (rest := rest) hlen hst hW hd (fun _ _ => ⟨has, eT, hc, hs⟩)
  dsimp only [Pt.U, Pt.locs, Pt.cells, Pt.slots] at X' l' y' z' st hQ
  subst l' y' z'
  exact Go.on st (g v T' Lc X' hQ)
end OwnRefs
end Jvm.RoadKit
namespace Jvm.RoadKit
open Sem ClassFile Op Lib Jvm.Stand Jvm.Free Jvm.LawKit
section OwnCache
variable {args : Array Value} {s Z : State}
abbrev IK : String := "java/lang/Integer"
abbrev IKC : String := "java/lang/Integer$IntegerCache"
abbrev IKD : String := "[Ljava/lang/Integer;"
/-- the cache's array: each of its places holds an Integer of its number -/
def Cache (Z : State) (a : Addr) : Prop := ∃ cl : Cell, Arr Z Z.heap a cl (.object IK) ∧ cl.slots.size = 256 ∧ ∀ w : Int32, ¬ w < -128 → ¬ 127 < w → ∃ b, cl.slots[(w + 128).toNatClampNeg]? = some (.ref b) ∧ Exa Z Z.heap b IK ∧ Fld Z Z.heap b IK "value" "I" (.int w)
theorem cache_start (hw : ∀ d ∈ IntBox.intClinit, d.before args s = true) : ∃ a, Sta s s.heap IKC "high" "I" (.int 127) ∧ Sta s s.heap IKC "cache" IKD (.ref a) ∧ Cache s a := by
  have h0 := hw (.laysStatic IntBox.ICC "high" "I") (by simp [IntBox.intClinit])
  have h1 := hw (.initializedFor IntBox.ICC "high" "I") (by simp [IntBox.intClinit])
  have h2 := hw (.laysStatic IntBox.ICC "cache" IntBox.CAD) (by simp [IntBox.intClinit])
  have h3 := hw (.eq (Term.static IntBox.ICC "high" "I") (.int 127)) (by simp [IntBox.intClinit])
  have h4 := hw (.arrayOf IntBox.cacheT (.object IntBox.IC)) (by simp [IntBox.intClinit])
  have h6 := hw (.eq (.length IntBox.cacheT) (.int 256)) (by simp [IntBox.intClinit])
  have h7 := hw (.all IntBox.cacheT (.and (.exactly (.elem IntBox.cacheT (.index 0)) IntBox.IC) (.eq (.field (.elem IntBox.cacheT (.index 0)) IntBox.IC "value" "I") (.sub (.index 0) (.int 128))))) (by simp [IntBox.intClinit])
  obtain ⟨a, evC⟩ := arr_v (Cond.before_iff.mp h4)
  obtain ⟨x, y, ex, ey, k1, k2⟩ := cmp_v (Or.inl (Cond.before_iff.mp h3))
  have e127 : y = .int 127 := by rw [Term.int_eval] at ey; exact (Option.some.inj ey).symm
  subst e127
  obtain ⟨q, rfl⟩ : ∃ q, x = .int q := k2
  have e127 : q = 127 := eq_int ex h3
  subst e127
  have S1 : Sta s s.heap IKC "high" "I" (.int 127) := Sta.start ex (Or.inl h1)
  -- the class of both statics is one
  obtain ⟨c1, k1, i1, f1, st1, ce1, hc1, hf1, -⟩ := Cond.laysStatic_spec h0
  obtain ⟨c2, k2, i2, f2, st2, ce2, hc2, hf2, -⟩ := Cond.laysStatic_spec h2
  cases hc1.symm.trans hc2
  have hk : k1 = k2 := by
    have q1 := (State.fieldFound?_spec hf1).1
    have q2 := (State.fieldFound?_spec hf2).1
    rw [q1] at q2; exact Option.some.inj q2
  subst hk
  have hi2 : (Cond.initializedFor IntBox.ICC "cache" IntBox.CAD).before args s = true := by
    have q := Cond.initializedFor_spec hf1 h1
    simp [Cond.before, Cond.holds, Cond.value, hf2, q]
  have S2 : Sta s s.heap IKC "cache" IKD (.ref a) := Sta.start evC (Or.inl hi2)
  obtain ⟨cl, A⟩ := Arr.start evC (Cond.before_iff.mp h4)
  obtain ⟨hsz, hn⟩ := IntBox.length_fwd h6 evC A.1 A.2.1 A.2.2
  have hs : cl.slots.size = 256 := by
    have q := len_toInt hsz
    rw [hn] at q
    have : (256 : Int32).toInt = 256 := by decide
    omega
  refine ⟨a, S1, S2, cl, A, hs, fun w w1 w2 => ?_⟩
  obtain ⟨p1, p2⟩ := IntBox.place_ok w w1 w2
  have hat := IntBox.arrayAt_of A.1 A.2.1 A.2.2
  have hall := Cond.all_elim (c := .and (.exactly (.elem IntBox.cacheT (.index 0)) IntBox.IC) (.eq (.field (.elem IntBox.cacheT (.index 0)) IntBox.IC "value" "I") (.sub (.index 0) (.int 128)))) evC hat (by simpa [Cond.before, Cond.holds] using h7) _ (by rw [hs]; exact p2)
  obtain ⟨g1, g2⟩ := and_e hall
  obtain ⟨b, evb⟩ := exa_v g1
  have nn := (IntBox.place_nonneg _ p2)
  have evC' : IntBox.cacheT.eval args s none [(w + 128).toNatClampNeg] s = some (.ref a) := by
    have := evC
    simp only [IntBox.cacheT, Term.eval] at this ⊢
    exact this
  have ev0 : (Term.elem IntBox.cacheT (.index 0)).eval args s none [(w + 128).toNatClampNeg] s = cl.slots[(w + 128).toNatClampNeg]? := by
    simp [Term.eval, evC', nn.1, hat, nn.2]
  refine ⟨b, by rw [← ev0]; exact evb, exa_at evb g1, ?_⟩
  obtain ⟨x2, y2, e1, e2, kk1, kk2⟩ := cmp_v (Or.inl g2)
  have esub : (Term.sub (.index 0) (.int 128)).eval args s none [(w + 128).toNatClampNeg] s = some (.int w) := by
    simp [Term.eval, IntBox.place_val w w1 w2]
  rw [esub] at e2
  cases e2
  obtain ⟨q, rfl⟩ : ∃ q, x2 = .int q := kk2
  have eq : q = w := by simpa [Cond.value, e1, esub] using g2
  subst eq
  rw [fld_at evb] at e1
  exact Fld.start e1
end OwnCache
end Jvm.RoadKit
namespace Jvm.Pilot.@@N@@
open Jvm Jvm.ClassFile Sem Op Lib Jvm.Free Jvm.Stand Jvm.LawKit Jvm.RoadKit Bundle Jvm.Pilot.@@N@@.Jvm.D
section
variable {Z : State} {a0 : Array Value} (hw : ∀ d ∈ tables_1, d.before a0 Z = true)
def wd0 := hw _ (List.mem_of_getElem? (i := 0) rfl)
def wd1 := hw _ (List.mem_of_getElem? (i := 1) rfl)
def wd2 := hw _ (List.mem_of_getElem? (i := 2) rfl)
def wd3 := hw _ (List.mem_of_getElem? (i := 3) rfl)
def wd4 := hw _ (List.mem_of_getElem? (i := 4) rfl)
def wd5 := hw _ (List.mem_of_getElem? (i := 5) rfl)
def wd6 := hw _ (List.mem_of_getElem? (i := 6) rfl)
def wd7 := hw _ (List.mem_of_getElem? (i := 7) rfl)
def wd9 := hw _ (List.mem_of_getElem? (i := 9) rfl)
def wd10 := hw _ (List.mem_of_getElem? (i := 10) rfl)
def wd11 := hw _ (List.mem_of_getElem? (i := 11) rfl)
def wd12 := hw _ (List.mem_of_getElem? (i := 12) rfl)
def wd13 := hw _ (List.mem_of_getElem? (i := 13) rfl)
def wd14 := hw _ (List.mem_of_getElem? (i := 14) rfl)
def wd15 := hw _ (List.mem_of_getElem? (i := 15) rfl)
def wd16 := hw _ (List.mem_of_getElem? (i := 16) rfl)
def wd17 := hw _ (List.mem_of_getElem? (i := 17) rfl)
def wd18 := hw _ (List.mem_of_getElem? (i := 18) rfl)
def wd19 := hw _ (List.mem_of_getElem? (i := 19) rfl)
def wd20 := hw _ (List.mem_of_getElem? (i := 20) rfl)
def wd21 := hw _ (List.mem_of_getElem? (i := 21) rfl)
def wd22 := hw _ (List.mem_of_getElem? (i := 22) rfl)
def wd23 := hw _ (List.mem_of_getElem? (i := 23) rfl)
def wd24 := hw _ (List.mem_of_getElem? (i := 24) rfl)
def wd25 := hw _ (List.mem_of_getElem? (i := 25) rfl)
def wd26 := hw _ (List.mem_of_getElem? (i := 26) rfl)
def wd27 := hw _ (List.mem_of_getElem? (i := 27) rfl)
def wd28 := hw _ (List.mem_of_getElem? (i := 28) rfl)
def wd29 := hw _ (List.mem_of_getElem? (i := 29) rfl)
def wd30 := hw _ (List.mem_of_getElem? (i := 30) rfl)
def wd31 := hw _ (List.mem_of_getElem? (i := 31) rfl)
def wd32 := hw _ (List.mem_of_getElem? (i := 32) rfl)
def wd33 := hw _ (List.mem_of_getElem? (i := 33) rfl)
def wd34 := hw _ (List.mem_of_getElem? (i := 34) rfl)
def wd35 := hw _ (List.mem_of_getElem? (i := 35) rfl)
def wd36 := hw _ (List.mem_of_getElem? (i := 36) rfl)
def wd37 := hw _ (List.mem_of_getElem? (i := 37) rfl)
def wd38 := hw _ (List.mem_of_getElem? (i := 38) rfl)
def wd39 := hw _ (List.mem_of_getElem? (i := 39) rfl)
def wd40 := hw _ (List.mem_of_getElem? (i := 40) rfl)
def wd41 := hw _ (List.mem_of_getElem? (i := 41) rfl)
def wd42 := hw _ (List.mem_of_getElem? (i := 42) rfl)
def wd43 := hw _ (List.mem_of_getElem? (i := 43) rfl)
def wd44 := hw _ (List.mem_of_getElem? (i := 44) rfl)
def wd45 := hw _ (List.mem_of_getElem? (i := 45) rfl)
def wd46 := hw _ (List.mem_of_getElem? (i := 46) rfl)
def wd47 := hw _ (List.mem_of_getElem? (i := 47) rfl)
def wd48 := hw _ (List.mem_of_getElem? (i := 48) rfl)
def wd49 := hw _ (List.mem_of_getElem? (i := 49) rfl)
def wd50 := hw _ (List.mem_of_getElem? (i := 50) rfl)
def wd51 := hw _ (List.mem_of_getElem? (i := 51) rfl)
def wd52 := hw _ (List.mem_of_getElem? (i := 52) rfl)
def wd55 := hw _ (List.mem_of_getElem? (i := 55) rfl)
def wd56 := hw _ (List.mem_of_getElem? (i := 56) rfl)
def wd57 := hw _ (List.mem_of_getElem? (i := 57) rfl)
def wd58 := hw _ (List.mem_of_getElem? (i := 58) rfl)
def wd61 := hw _ (List.mem_of_getElem? (i := 61) rfl)
def wd62 := hw _ (List.mem_of_getElem? (i := 62) rfl)
def wd63 := hw _ (List.mem_of_getElem? (i := 63) rfl)
def wd64 := hw _ (List.mem_of_getElem? (i := 64) rfl)
def wd65 := hw _ (List.mem_of_getElem? (i := 65) rfl)
def wd66 := hw _ (List.mem_of_getElem? (i := 66) rfl)
def wd67 := hw _ (List.mem_of_getElem? (i := 67) rfl)
def wd68 := hw _ (List.mem_of_getElem? (i := 68) rfl)
def wd69 := hw _ (List.mem_of_getElem? (i := 69) rfl)
def wd70 := hw _ (List.mem_of_getElem? (i := 70) rfl)
def wd71 := hw _ (List.mem_of_getElem? (i := 71) rfl)
def wd72 := hw _ (List.mem_of_getElem? (i := 72) rfl)
def wd73 := hw _ (List.mem_of_getElem? (i := 73) rfl)
def wd74 := hw _ (List.mem_of_getElem? (i := 74) rfl)
def wd75 := hw _ (List.mem_of_getElem? (i := 75) rfl)
def wd76 := hw _ (List.mem_of_getElem? (i := 76) rfl)
def wd77 := hw _ (List.mem_of_getElem? (i := 77) rfl)
def wd78 := hw _ (List.mem_of_getElem? (i := 78) rfl)
def wd79 := hw _ (List.mem_of_getElem? (i := 79) rfl)
def wd80 := hw _ (List.mem_of_getElem? (i := 80) rfl)
def wd81 := hw _ (List.mem_of_getElem? (i := 81) rfl)
def wd82 := hw _ (List.mem_of_getElem? (i := 82) rfl)
def wd83 := hw _ (List.mem_of_getElem? (i := 83) rfl)
def wd84 := hw _ (List.mem_of_getElem? (i := 84) rfl)
def wd85 := hw _ (List.mem_of_getElem? (i := 85) rfl)
def wd86 := hw _ (List.mem_of_getElem? (i := 86) rfl)
def wd87 := hw _ (List.mem_of_getElem? (i := 87) rfl)
def wd88 := hw _ (List.mem_of_getElem? (i := 88) rfl)
def wd89 := hw _ (List.mem_of_getElem? (i := 89) rfl)
def wd90 := hw _ (List.mem_of_getElem? (i := 90) rfl)
def wd91 := hw _ (List.mem_of_getElem? (i := 91) rfl)
def wd92 := hw _ (List.mem_of_getElem? (i := 92) rfl)
def wd93 := hw _ (List.mem_of_getElem? (i := 93) rfl)
def wd94 := hw _ (List.mem_of_getElem? (i := 94) rfl)
def wd95 := hw _ (List.mem_of_getElem? (i := 95) rfl)
def wd96 := hw _ (List.mem_of_getElem? (i := 96) rfl)
def wd97 := hw _ (List.mem_of_getElem? (i := 97) rfl)
def wd98 := hw _ (List.mem_of_getElem? (i := 98) rfl)
def wd99 := hw _ (List.mem_of_getElem? (i := 99) rfl)
def wd100 := hw _ (List.mem_of_getElem? (i := 100) rfl)
def wd101 := hw _ (List.mem_of_getElem? (i := 101) rfl)
def wd102 := hw _ (List.mem_of_getElem? (i := 102) rfl)
def wd103 := hw _ (List.mem_of_getElem? (i := 103) rfl)
def wd104 := hw _ (List.mem_of_getElem? (i := 104) rfl)
def wd105 := hw _ (List.mem_of_getElem? (i := 105) rfl)
def wd106 := hw _ (List.mem_of_getElem? (i := 106) rfl)
def wd107 := hw _ (List.mem_of_getElem? (i := 107) rfl)
def wd108 := hw _ (List.mem_of_getElem? (i := 108) rfl)
def wd109 := hw _ (List.mem_of_getElem? (i := 109) rfl)
def wd110 := hw _ (List.mem_of_getElem? (i := 110) rfl)
def wd111 := hw _ (List.mem_of_getElem? (i := 111) rfl)
def wd112 := hw _ (List.mem_of_getElem? (i := 112) rfl)
def wd113 := hw _ (List.mem_of_getElem? (i := 113) rfl)
def wd114 := hw _ (List.mem_of_getElem? (i := 114) rfl)
def wd115 := hw _ (List.mem_of_getElem? (i := 115) rfl)
def wd116 := hw _ (List.mem_of_getElem? (i := 116) rfl)
def wd117 := hw _ (List.mem_of_getElem? (i := 117) rfl)
def wd118 := hw _ (List.mem_of_getElem? (i := 118) rfl)
def wd119 := hw _ (List.mem_of_getElem? (i := 119) rfl)
def wd120 := hw _ (List.mem_of_getElem? (i := 120) rfl)
def wd121 := hw _ (List.mem_of_getElem? (i := 121) rfl)
def wd122 := hw _ (List.mem_of_getElem? (i := 122) rfl)
def wd123 := hw _ (List.mem_of_getElem? (i := 123) rfl)
def wd124 := hw _ (List.mem_of_getElem? (i := 124) rfl)
def wd125 := hw _ (List.mem_of_getElem? (i := 125) rfl)
def wd126 := hw _ (List.mem_of_getElem? (i := 126) rfl)
def wd127 := hw _ (List.mem_of_getElem? (i := 127) rfl)
def wd128 := hw _ (List.mem_of_getElem? (i := 128) rfl)
def wd129 := hw _ (List.mem_of_getElem? (i := 129) rfl)
def wd130 := hw _ (List.mem_of_getElem? (i := 130) rfl)
def wd131 := hw _ (List.mem_of_getElem? (i := 131) rfl)
def wd132 := hw _ (List.mem_of_getElem? (i := 132) rfl)
def wd133 := hw _ (List.mem_of_getElem? (i := 133) rfl)
def wd134 := hw _ (List.mem_of_getElem? (i := 134) rfl)
def wd135 := hw _ (List.mem_of_getElem? (i := 135) rfl)
def wd136 := hw _ (List.mem_of_getElem? (i := 136) rfl)
def wd137 := hw _ (List.mem_of_getElem? (i := 137) rfl)
def wd138 := hw _ (List.mem_of_getElem? (i := 138) rfl)
def wd139 := hw _ (List.mem_of_getElem? (i := 139) rfl)
def wd140 := hw _ (List.mem_of_getElem? (i := 140) rfl)
def wd141 := hw _ (List.mem_of_getElem? (i := 141) rfl)
def wd142 := hw _ (List.mem_of_getElem? (i := 142) rfl)
def wd143 := hw _ (List.mem_of_getElem? (i := 143) rfl)
def wd144 := hw _ (List.mem_of_getElem? (i := 144) rfl)
def wd145 := hw _ (List.mem_of_getElem? (i := 145) rfl)
def wd146 := hw _ (List.mem_of_getElem? (i := 146) rfl)
def wd147 := hw _ (List.mem_of_getElem? (i := 147) rfl)
def wd148 := hw _ (List.mem_of_getElem? (i := 148) rfl)
def wd149 := hw _ (List.mem_of_getElem? (i := 149) rfl)
def wd150 := hw _ (List.mem_of_getElem? (i := 150) rfl)
def wd151 := hw _ (List.mem_of_getElem? (i := 151) rfl)
def wd152 := hw _ (List.mem_of_getElem? (i := 152) rfl)
def wd153 := hw _ (List.mem_of_getElem? (i := 153) rfl)
def wd154 := hw _ (List.mem_of_getElem? (i := 154) rfl)
def wd155 := hw _ (List.mem_of_getElem? (i := 155) rfl)
def wd156 := hw _ (List.mem_of_getElem? (i := 156) rfl)
def wd157 := hw _ (List.mem_of_getElem? (i := 157) rfl)
def wd159 := hw _ (List.mem_of_getElem? (i := 159) rfl)
def wd160 := hw _ (List.mem_of_getElem? (i := 160) rfl)
def wd161 := hw _ (List.mem_of_getElem? (i := 161) rfl)
def wd162 := hw _ (List.mem_of_getElem? (i := 162) rfl)
def wd163 := hw _ (List.mem_of_getElem? (i := 163) rfl)
def wd164 := hw _ (List.mem_of_getElem? (i := 164) rfl)
def wd165 := hw _ (List.mem_of_getElem? (i := 165) rfl)
def wd166 := hw _ (List.mem_of_getElem? (i := 166) rfl)
def wd167 := hw _ (List.mem_of_getElem? (i := 167) rfl)
def wd168 := hw _ (List.mem_of_getElem? (i := 168) rfl)
def wd169 := hw _ (List.mem_of_getElem? (i := 169) rfl)
def wd170 := hw _ (List.mem_of_getElem? (i := 170) rfl)
def wd171 := hw _ (List.mem_of_getElem? (i := 171) rfl)
def wd172 := hw _ (List.mem_of_getElem? (i := 172) rfl)
def wd173 := hw _ (List.mem_of_getElem? (i := 173) rfl)
def wd174 := hw _ (List.mem_of_getElem? (i := 174) rfl)
def wd175 := hw _ (List.mem_of_getElem? (i := 175) rfl)
def wd176 := hw _ (List.mem_of_getElem? (i := 176) rfl)
def wd177 := hw _ (List.mem_of_getElem? (i := 177) rfl)
def wd178 := hw _ (List.mem_of_getElem? (i := 178) rfl)
def wd179 := hw _ (List.mem_of_getElem? (i := 179) rfl)
def wd180 := hw _ (List.mem_of_getElem? (i := 180) rfl)
def wd181 := hw _ (List.mem_of_getElem? (i := 181) rfl)
def wd182 := hw _ (List.mem_of_getElem? (i := 182) rfl)
def wd183 := hw _ (List.mem_of_getElem? (i := 183) rfl)
def wd184 := hw _ (List.mem_of_getElem? (i := 184) rfl)
def wd185 := hw _ (List.mem_of_getElem? (i := 185) rfl)
def wd186 := hw _ (List.mem_of_getElem? (i := 186) rfl)
def wd187 := hw _ (List.mem_of_getElem? (i := 187) rfl)
def wd188 := hw _ (List.mem_of_getElem? (i := 188) rfl)
def wd189 := hw _ (List.mem_of_getElem? (i := 189) rfl)
def wd190 := hw _ (List.mem_of_getElem? (i := 190) rfl)
def wd191 := hw _ (List.mem_of_getElem? (i := 191) rfl)
def wd192 := hw _ (List.mem_of_getElem? (i := 192) rfl)
def wd193 := hw _ (List.mem_of_getElem? (i := 193) rfl)
def wd195 := hw _ (List.mem_of_getElem? (i := 195) rfl)
def wd196 := hw _ (List.mem_of_getElem? (i := 196) rfl)
def wd199 := hw _ (List.mem_of_getElem? (i := 199) rfl)
def wd200 := hw _ (List.mem_of_getElem? (i := 200) rfl)
def wd201 := hw _ (List.mem_of_getElem? (i := 201) rfl)
def wd202 := hw _ (List.mem_of_getElem? (i := 202) rfl)
def wd203 := hw _ (List.mem_of_getElem? (i := 203) rfl)
def wd204 := hw _ (List.mem_of_getElem? (i := 204) rfl)
def wd205 := hw _ (List.mem_of_getElem? (i := 205) rfl)
def wd206 := hw _ (List.mem_of_getElem? (i := 206) rfl)
def wd207 := hw _ (List.mem_of_getElem? (i := 207) rfl)
def wd208 := hw _ (List.mem_of_getElem? (i := 208) rfl)
def wd209 := hw _ (List.mem_of_getElem? (i := 209) rfl)
def wd210 := hw _ (List.mem_of_getElem? (i := 210) rfl)
def wd211 := hw _ (List.mem_of_getElem? (i := 211) rfl)
def wd212 := hw _ (List.mem_of_getElem? (i := 212) rfl)
def wd213 := hw _ (List.mem_of_getElem? (i := 213) rfl)
def wd214 := hw _ (List.mem_of_getElem? (i := 214) rfl)
def wd215 := hw _ (List.mem_of_getElem? (i := 215) rfl)
def wd216 := hw _ (List.mem_of_getElem? (i := 216) rfl)
def wd217 := hw _ (List.mem_of_getElem? (i := 217) rfl)
def wd218 := hw _ (List.mem_of_getElem? (i := 218) rfl)
def wd219 := hw _ (List.mem_of_getElem? (i := 219) rfl)
def wd220 := hw _ (List.mem_of_getElem? (i := 220) rfl)
def wd221 := hw _ (List.mem_of_getElem? (i := 221) rfl)
def wd222 := hw _ (List.mem_of_getElem? (i := 222) rfl)
def wd223 := hw _ (List.mem_of_getElem? (i := 223) rfl)
def wd224 := hw _ (List.mem_of_getElem? (i := 224) rfl)
def wd225 := hw _ (List.mem_of_getElem? (i := 225) rfl)
def wd226 := hw _ (List.mem_of_getElem? (i := 226) rfl)
def wd227 := hw _ (List.mem_of_getElem? (i := 227) rfl)
def wd228 := hw _ (List.mem_of_getElem? (i := 228) rfl)
def wd229 := hw _ (List.mem_of_getElem? (i := 229) rfl)
def wd230 := hw _ (List.mem_of_getElem? (i := 230) rfl)
def wd231 := hw _ (List.mem_of_getElem? (i := 231) rfl)
def wd232 := hw _ (List.mem_of_getElem? (i := 232) rfl)
def wd234 := hw _ (List.mem_of_getElem? (i := 234) rfl)
def wd235 := hw _ (List.mem_of_getElem? (i := 235) rfl)
def wd236 := hw _ (List.mem_of_getElem? (i := 236) rfl)
def wd237 := hw _ (List.mem_of_getElem? (i := 237) rfl)
def wd238 := hw _ (List.mem_of_getElem? (i := 238) rfl)
def wd239 := hw _ (List.mem_of_getElem? (i := 239) rfl)
def wd240 := hw _ (List.mem_of_getElem? (i := 240) rfl)
def wd241 := hw _ (List.mem_of_getElem? (i := 241) rfl)
def wd242 := hw _ (List.mem_of_getElem? (i := 242) rfl)
def wd243 := hw _ (List.mem_of_getElem? (i := 243) rfl)
def wd244 := hw _ (List.mem_of_getElem? (i := 244) rfl)
def wd245 := hw _ (List.mem_of_getElem? (i := 245) rfl)
def wd246 := hw _ (List.mem_of_getElem? (i := 246) rfl)
def wd247 := hw _ (List.mem_of_getElem? (i := 247) rfl)
def wd248 := hw _ (List.mem_of_getElem? (i := 248) rfl)
def wd249 := hw _ (List.mem_of_getElem? (i := 249) rfl)
def wd250 := hw _ (List.mem_of_getElem? (i := 250) rfl)
def wd251 := hw _ (List.mem_of_getElem? (i := 251) rfl)
def wd252 := hw _ (List.mem_of_getElem? (i := 252) rfl)
end
abbrev k1 := jdk_33_method_22_code
abbrev k2 := prog_29_method_1_code
abbrev k3 := object_method_1_code
abbrev k4 := prog_29_method_10_code
abbrev k5 := prog_29_method_8_code
abbrev k6 := prog_29_method_9_code
abbrev k7 := prog_29_method_12_code
abbrev k8 := jdk_38_method_2_code
abbrev k9 := jdk_39_method_1_code
abbrev k10 := jdk_22_method_1_code
abbrev k11 := prog_30_method_1_code
abbrev k12 := jdk_38_method_25_code
abbrev k13 := jdk_38_method_24_code
abbrev k14 := jdk_38_method_7_code
abbrev k15 := jdk_38_method_6_code
abbrev k16 := jdk_29_method_65_code
abbrev k17 := jdk_38_method_8_code
abbrev k18 := jdk_29_method_66_code
abbrev k19 := prog_29_method_11_code
abbrev k20 := prog_29_method_14_code
abbrev k21 := jdk_38_method_20_code
abbrev k22 := jdk_31_method_17_code
abbrev k23 := jdk_41_method_11_code
abbrev k24 := jdk_38_method_18_code
abbrev k25 := jdk_38_method_26_code
abbrev k26 := jdk_38_method_45_code
abbrev k27 := jdk_38_method_56_code
abbrev k28 := jdk_39_method_15_code
abbrev k29 := jdk_130_method_1_code
abbrev k30 := jdk_39_method_9_code
abbrev k31 := jdk_130_method_5_code
abbrev k32 := jdk_130_method_28_code
abbrev k33 := jdk_130_method_8_code
abbrev k34 := jdk_38_method_43_code
abbrev k35 := jdk_38_method_44_code
abbrev k36 := jdk_130_method_29_code
theorem d1_0 : decode k1 0 = .ok (.iload_n 0, 1) := by decide +kernel
theorem d1_1 : decode k1 1 = .ok (.bipush (-128), 2) := by decide +kernel
theorem d1_3 : decode k1 3 = .ok (.if_icmp .lt 20, 3) := by decide +kernel
theorem d1_6 : decode k1 6 = .ok (.iload_n 0, 1) := by decide +kernel
theorem d1_7 : decode k1 7 = .ok (.getstatic 191, 3) := by decide +kernel
theorem d1_10 : decode k1 10 = .ok (.if_icmp .gt 13, 3) := by decide +kernel
theorem d1_13 : decode k1 13 = .ok (.getstatic 195, 3) := by decide +kernel
theorem d1_16 : decode k1 16 = .ok (.iload_n 0, 1) := by decide +kernel
theorem d1_17 : decode k1 17 = .ok (.sipush 128, 3) := by decide +kernel
theorem d1_20 : decode k1 20 = .ok (.iadd, 1) := by decide +kernel
theorem d1_21 : decode k1 21 = .ok (.aaload, 1) := by decide +kernel
theorem d1_22 : decode k1 22 = .ok (.areturn, 1) := by decide +kernel
theorem d2_0 : decode k2 0 = .ok (.aload_n 0, 1) := by decide +kernel
theorem d2_1 : decode k2 1 = .ok (.invokespecial 1, 3) := by decide +kernel
theorem d2_4 : decode k2 4 = .ok (.aload_n 0, 1) := by decide +kernel
theorem d2_5 : decode k2 5 = .ok (.aload_n 1, 1) := by decide +kernel
theorem d2_6 : decode k2 6 = .ok (.putfield 7, 3) := by decide +kernel
theorem d2_9 : decode k2 9 = .ok (.aload_n 0, 1) := by decide +kernel
theorem d2_10 : decode k2 10 = .ok (.iload_n 2, 1) := by decide +kernel
theorem d2_11 : decode k2 11 = .ok (.putfield 13, 3) := by decide +kernel
theorem d2_14 : decode k2 14 = .ok (.return_, 1) := by decide +kernel
theorem d4_0 : decode k4 0 = .ok (.aload_n 0, 1) := by decide +kernel
theorem d4_1 : decode k4 1 = .ok (.getfield 30, 3) := by decide +kernel
theorem d4_4 : decode k4 4 = .ok (.ifnull 7, 3) := by decide +kernel
theorem d4_7 : decode k4 7 = .ok (.iconst 1, 1) := by decide +kernel
theorem d4_8 : decode k4 8 = .ok (.goto 4, 3) := by decide +kernel
theorem d4_11 : decode k4 11 = .ok (.iconst 0, 1) := by decide +kernel
theorem d4_12 : decode k4 12 = .ok (.ireturn, 1) := by decide +kernel
theorem d5_0 : decode k5 0 = .ok (.lload_n 1, 1) := by decide +kernel
theorem d5_1 : decode k5 1 = .ok (.aload_n 0, 1) := by decide +kernel
theorem d5_2 : decode k5 2 = .ok (.getfield 17, 3) := by decide +kernel
theorem d5_5 : decode k5 5 = .ok (.lcmp, 1) := by decide +kernel
theorem d5_6 : decode k5 6 = .ok (.ifCond .le 57, 3) := by decide +kernel
theorem d5_9 : decode k5 9 = .ok (.aload_n 0, 1) := by decide +kernel
theorem d5_10 : decode k5 10 = .ok (.getfield 13, 3) := by decide +kernel
theorem d5_13 : decode k5 13 = .ok (.ifCond .eq 32, 3) := by decide +kernel
theorem d5_16 : decode k5 16 = .ok (.aload_n 0, 1) := by decide +kernel
theorem d5_17 : decode k5 17 = .ok (.invokevirtual 61, 3) := by decide +kernel
theorem d5_20 : decode k5 20 = .ok (.new 40, 3) := by decide +kernel
theorem d5_23 : decode k5 23 = .ok (.dup, 1) := by decide +kernel
theorem d5_24 : decode k5 24 = .ok (.aload_n 0, 1) := by decide +kernel
theorem d5_25 : decode k5 25 = .ok (.getfield 17, 3) := by decide +kernel
theorem d5_28 : decode k5 28 = .ok (.aload_n 0, 1) := by decide +kernel
theorem d5_29 : decode k5 29 = .ok (.getfield 7, 3) := by decide +kernel
theorem d5_32 : decode k5 32 = .ok (.aload_n 0, 1) := by decide +kernel
theorem d5_33 : decode k5 33 = .ok (.getfield 51, 3) := by decide +kernel
theorem d5_36 : decode k5 36 = .ok (.invokespecial 65, 3) := by decide +kernel
theorem d5_39 : decode k5 39 = .ok (.invokeinterface 68 2, 5) := by decide +kernel
theorem d5_44 : decode k5 44 = .ok (.pop, 1) := by decide +kernel
theorem d5_45 : decode k5 45 = .ok (.aload_n 0, 1) := by decide +kernel
theorem d5_46 : decode k5 46 = .ok (.lload_n 1, 1) := by decide +kernel
theorem d5_47 : decode k5 47 = .ok (.putfield 17, 3) := by decide +kernel
theorem d5_50 : decode k5 50 = .ok (.aload_n 0, 1) := by decide +kernel
theorem d5_51 : decode k5 51 = .ok (.aload_n 3, 1) := by decide +kernel
theorem d5_52 : decode k5 52 = .ok (.putfield 7, 3) := by decide +kernel
theorem d5_55 : decode k5 55 = .ok (.aload_n 0, 1) := by decide +kernel
theorem d5_56 : decode k5 56 = .ok (.lconst 0, 1) := by decide +kernel
theorem d5_57 : decode k5 57 = .ok (.putfield 51, 3) := by decide +kernel
theorem d5_60 : decode k5 60 = .ok (.goto 105, 3) := by decide +kernel
theorem d5_63 : decode k5 63 = .ok (.lload_n 1, 1) := by decide +kernel
theorem d5_64 : decode k5 64 = .ok (.aload_n 0, 1) := by decide +kernel
theorem d5_65 : decode k5 65 = .ok (.getfield 17, 3) := by decide +kernel
theorem d5_68 : decode k5 68 = .ok (.lcmp, 1) := by decide +kernel
theorem d5_69 : decode k5 69 = .ok (.ifCond .ne 11, 3) := by decide +kernel
theorem d5_72 : decode k5 72 = .ok (.aload_n 0, 1) := by decide +kernel
theorem d5_73 : decode k5 73 = .ok (.aload_n 3, 1) := by decide +kernel
theorem d5_74 : decode k5 74 = .ok (.putfield 7, 3) := by decide +kernel
theorem d5_77 : decode k5 77 = .ok (.goto 88, 3) := by decide +kernel
theorem d5_80 : decode k5 80 = .ok (.aload_n 0, 1) := by decide +kernel
theorem d5_81 : decode k5 81 = .ok (.getfield 13, 3) := by decide +kernel
theorem d5_84 : decode k5 84 = .ok (.ifCond .eq 81, 3) := by decide +kernel
theorem d5_87 : decode k5 87 = .ok (.aload_n 0, 1) := by decide +kernel
theorem d5_88 : decode k5 88 = .ok (.lload_n 1, 1) := by decide +kernel
theorem d5_89 : decode k5 89 = .ok (.invokevirtual 24, 3) := by decide +kernel
theorem d5_92 : decode k5 92 = .ok (.istore 4, 2) := by decide +kernel
theorem d5_94 : decode k5 94 = .ok (.iload 4, 2) := by decide +kernel
theorem d5_96 : decode k5 96 = .ok (.ifCond .lt 46, 3) := by decide +kernel
theorem d5_99 : decode k5 99 = .ok (.aload_n 0, 1) := by decide +kernel
theorem d5_100 : decode k5 100 = .ok (.getfield 30, 3) := by decide +kernel
theorem d5_103 : decode k5 103 = .ok (.iload 4, 2) := by decide +kernel
theorem d5_105 : decode k5 105 = .ok (.invokeinterface 34 2, 5) := by decide +kernel
theorem d5_110 : decode k5 110 = .ok (.checkcast 40, 3) := by decide +kernel
theorem d5_113 : decode k5 113 = .ok (.getfield 42, 3) := by decide +kernel
theorem d5_116 : decode k5 116 = .ok (.lload_n 1, 1) := by decide +kernel
theorem d5_117 : decode k5 117 = .ok (.lcmp, 1) := by decide +kernel
theorem d5_118 : decode k5 118 = .ok (.ifCond .ne 24, 3) := by decide +kernel
theorem d5_121 : decode k5 121 = .ok (.aload_n 0, 1) := by decide +kernel
theorem d5_122 : decode k5 122 = .ok (.getfield 30, 3) := by decide +kernel
theorem d5_125 : decode k5 125 = .ok (.iload 4, 2) := by decide +kernel
theorem d5_127 : decode k5 127 = .ok (.invokeinterface 34 2, 5) := by decide +kernel
theorem d5_132 : decode k5 132 = .ok (.checkcast 40, 3) := by decide +kernel
theorem d5_135 : decode k5 135 = .ok (.aload_n 3, 1) := by decide +kernel
theorem d5_136 : decode k5 136 = .ok (.putfield 48, 3) := by decide +kernel
theorem d5_139 : decode k5 139 = .ok (.goto 26, 3) := by decide +kernel
theorem d5_142 : decode k5 142 = .ok (.aload_n 0, 1) := by decide +kernel
theorem d5_143 : decode k5 143 = .ok (.invokevirtual 61, 3) := by decide +kernel
theorem d5_146 : decode k5 146 = .ok (.iload 4, 2) := by decide +kernel
theorem d5_148 : decode k5 148 = .ok (.iconst 1, 1) := by decide +kernel
theorem d5_149 : decode k5 149 = .ok (.iadd, 1) := by decide +kernel
theorem d5_150 : decode k5 150 = .ok (.new 40, 3) := by decide +kernel
theorem d5_153 : decode k5 153 = .ok (.dup, 1) := by decide +kernel
theorem d5_154 : decode k5 154 = .ok (.lload_n 1, 1) := by decide +kernel
theorem d5_155 : decode k5 155 = .ok (.aload_n 3, 1) := by decide +kernel
theorem d5_156 : decode k5 156 = .ok (.lconst 0, 1) := by decide +kernel
theorem d5_157 : decode k5 157 = .ok (.invokespecial 65, 3) := by decide +kernel
theorem d5_160 : decode k5 160 = .ok (.invokeinterface 72 3, 5) := by decide +kernel
theorem d5_165 : decode k5 165 = .ok (.return_, 1) := by decide +kernel
theorem d6_0 : decode k6 0 = .ok (.iconst 1, 1) := by decide +kernel
theorem d6_1 : decode k6 1 = .ok (.aload_n 0, 1) := by decide +kernel
theorem d6_2 : decode k6 2 = .ok (.getfield 30, 3) := by decide +kernel
theorem d6_5 : decode k6 5 = .ok (.ifnonnull 7, 3) := by decide +kernel
theorem d6_8 : decode k6 8 = .ok (.iconst 0, 1) := by decide +kernel
theorem d6_9 : decode k6 9 = .ok (.goto 12, 3) := by decide +kernel
theorem d6_12 : decode k6 12 = .ok (.aload_n 0, 1) := by decide +kernel
theorem d6_13 : decode k6 13 = .ok (.getfield 30, 3) := by decide +kernel
theorem d6_16 : decode k6 16 = .ok (.invokeinterface 75 1, 5) := by decide +kernel
theorem d6_21 : decode k6 21 = .ok (.iadd, 1) := by decide +kernel
theorem d6_22 : decode k6 22 = .ok (.ireturn, 1) := by decide +kernel
theorem d7_0 : decode k7 0 = .ok (.aload_n 0, 1) := by decide +kernel
theorem d7_1 : decode k7 1 = .ok (.getfield 30, 3) := by decide +kernel
theorem d7_4 : decode k7 4 = .ok (.ifnonnull 14, 3) := by decide +kernel
theorem d7_7 : decode k7 7 = .ok (.aload_n 0, 1) := by decide +kernel
theorem d7_8 : decode k7 8 = .ok (.new 86, 3) := by decide +kernel
theorem d7_11 : decode k7 11 = .ok (.dup, 1) := by decide +kernel
theorem d7_12 : decode k7 12 = .ok (.invokespecial 88, 3) := by decide +kernel
theorem d7_15 : decode k7 15 = .ok (.putfield 30, 3) := by decide +kernel
theorem d7_18 : decode k7 18 = .ok (.aload_n 0, 1) := by decide +kernel
theorem d7_19 : decode k7 19 = .ok (.getfield 30, 3) := by decide +kernel
theorem d7_22 : decode k7 22 = .ok (.areturn, 1) := by decide +kernel
theorem d8_0 : decode k8 0 = .ok (.aload_n 0, 1) := by decide +kernel
theorem d8_1 : decode k8 1 = .ok (.invokespecial 1, 3) := by decide +kernel
theorem d8_4 : decode k8 4 = .ok (.aload_n 0, 1) := by decide +kernel
theorem d8_5 : decode k8 5 = .ok (.getstatic 39, 3) := by decide +kernel
theorem d8_8 : decode k8 8 = .ok (.putfield 9, 3) := by decide +kernel
theorem d8_11 : decode k8 11 = .ok (.return_, 1) := by decide +kernel
theorem d9_0 : decode k9 0 = .ok (.aload_n 0, 1) := by decide +kernel
theorem d9_1 : decode k9 1 = .ok (.invokespecial 1, 3) := by decide +kernel
theorem d9_4 : decode k9 4 = .ok (.aload_n 0, 1) := by decide +kernel
theorem d9_5 : decode k9 5 = .ok (.iconst 0, 1) := by decide +kernel
theorem d9_6 : decode k9 6 = .ok (.putfield 7, 3) := by decide +kernel
theorem d9_9 : decode k9 9 = .ok (.return_, 1) := by decide +kernel
theorem d10_0 : decode k10 0 = .ok (.aload_n 0, 1) := by decide +kernel
theorem d10_1 : decode k10 1 = .ok (.invokespecial 1, 3) := by decide +kernel
theorem d10_4 : decode k10 4 = .ok (.return_, 1) := by decide +kernel
theorem d11_0 : decode k11 0 = .ok (.aload_n 0, 1) := by decide +kernel
theorem d11_1 : decode k11 1 = .ok (.invokespecial 1, 3) := by decide +kernel
theorem d11_4 : decode k11 4 = .ok (.aload_n 0, 1) := by decide +kernel
theorem d11_5 : decode k11 5 = .ok (.lload_n 1, 1) := by decide +kernel
theorem d11_6 : decode k11 6 = .ok (.putfield 7, 3) := by decide +kernel
theorem d11_9 : decode k11 9 = .ok (.aload_n 0, 1) := by decide +kernel
theorem d11_10 : decode k11 10 = .ok (.aload_n 3, 1) := by decide +kernel
theorem d11_11 : decode k11 11 = .ok (.putfield 13, 3) := by decide +kernel
theorem d11_14 : decode k11 14 = .ok (.aload_n 0, 1) := by decide +kernel
theorem d11_15 : decode k11 15 = .ok (.lload 4, 2) := by decide +kernel
theorem d11_17 : decode k11 17 = .ok (.putfield 17, 3) := by decide +kernel
theorem d11_20 : decode k11 20 = .ok (.return_, 1) := by decide +kernel
theorem d12_0 : decode k12 0 = .ok (.aload_n 0, 1) := by decide +kernel
theorem d12_1 : decode k12 1 = .ok (.dup, 1) := by decide +kernel
theorem d12_2 : decode k12 2 = .ok (.getfield 63, 3) := by decide +kernel
theorem d12_5 : decode k12 5 = .ok (.iconst 1, 1) := by decide +kernel
theorem d12_6 : decode k12 6 = .ok (.iadd, 1) := by decide +kernel
theorem d12_7 : decode k12 7 = .ok (.putfield 63, 3) := by decide +kernel
theorem d12_10 : decode k12 10 = .ok (.aload_n 0, 1) := by decide +kernel
theorem d12_11 : decode k12 11 = .ok (.aload_n 1, 1) := by decide +kernel
theorem d12_12 : decode k12 12 = .ok (.aload_n 0, 1) := by decide +kernel
theorem d12_13 : decode k12 13 = .ok (.getfield 9, 3) := by decide +kernel
theorem d12_16 : decode k12 16 = .ok (.aload_n 0, 1) := by decide +kernel
theorem d12_17 : decode k12 17 = .ok (.getfield 48, 3) := by decide +kernel
theorem d12_20 : decode k12 20 = .ok (.invokevirtual 131, 3) := by decide +kernel
theorem d12_23 : decode k12 23 = .ok (.iconst 1, 1) := by decide +kernel
theorem d12_24 : decode k12 24 = .ok (.ireturn, 1) := by decide +kernel
theorem d13_0 : decode k13 0 = .ok (.iload_n 3, 1) := by decide +kernel
theorem d13_1 : decode k13 1 = .ok (.aload_n 2, 1) := by decide +kernel
theorem d13_2 : decode k13 2 = .ok (.arraylength, 1) := by decide +kernel
theorem d13_3 : decode k13 3 = .ok (.if_icmp .ne 8, 3) := by decide +kernel
theorem d13_6 : decode k13 6 = .ok (.aload_n 0, 1) := by decide +kernel
theorem d13_7 : decode k13 7 = .ok (.invokevirtual 129, 3) := by decide +kernel
theorem d13_10 : decode k13 10 = .ok (.astore_n 2, 1) := by decide +kernel
theorem d13_11 : decode k13 11 = .ok (.aload_n 2, 1) := by decide +kernel
theorem d13_12 : decode k13 12 = .ok (.iload_n 3, 1) := by decide +kernel
theorem d13_13 : decode k13 13 = .ok (.aload_n 1, 1) := by decide +kernel
theorem d13_14 : decode k13 14 = .ok (.aastore, 1) := by decide +kernel
theorem d13_15 : decode k13 15 = .ok (.aload_n 0, 1) := by decide +kernel
theorem d13_16 : decode k13 16 = .ok (.iload_n 3, 1) := by decide +kernel
theorem d13_17 : decode k13 17 = .ok (.iconst 1, 1) := by decide +kernel
theorem d13_18 : decode k13 18 = .ok (.iadd, 1) := by decide +kernel
theorem d13_19 : decode k13 19 = .ok (.putfield 48, 3) := by decide +kernel
theorem d13_22 : decode k13 22 = .ok (.return_, 1) := by decide +kernel
theorem d14_0 : decode k14 0 = .ok (.aload_n 0, 1) := by decide +kernel
theorem d14_1 : decode k14 1 = .ok (.aload_n 0, 1) := by decide +kernel
theorem d14_2 : decode k14 2 = .ok (.getfield 48, 3) := by decide +kernel
theorem d14_5 : decode k14 5 = .ok (.iconst 1, 1) := by decide +kernel
theorem d14_6 : decode k14 6 = .ok (.iadd, 1) := by decide +kernel
theorem d14_7 : decode k14 7 = .ok (.invokevirtual 69, 3) := by decide +kernel
theorem d14_10 : decode k14 10 = .ok (.areturn, 1) := by decide +kernel
theorem d15_0 : decode k15 0 = .ok (.aload_n 0, 1) := by decide +kernel
theorem d15_1 : decode k15 1 = .ok (.getfield 9, 3) := by decide +kernel
theorem d15_4 : decode k15 4 = .ok (.arraylength, 1) := by decide +kernel
theorem d15_5 : decode k15 5 = .ok (.istore_n 2, 1) := by decide +kernel
theorem d15_6 : decode k15 6 = .ok (.iload_n 2, 1) := by decide +kernel
theorem d15_7 : decode k15 7 = .ok (.ifCond .gt 13, 3) := by decide +kernel
theorem d15_10 : decode k15 10 = .ok (.aload_n 0, 1) := by decide +kernel
theorem d15_11 : decode k15 11 = .ok (.getfield 9, 3) := by decide +kernel
theorem d15_14 : decode k15 14 = .ok (.getstatic 39, 3) := by decide +kernel
theorem d15_17 : decode k15 17 = .ok (.if_acmp .eq 28, 3) := by decide +kernel
theorem d15_45 : decode k15 45 = .ok (.aload_n 0, 1) := by decide +kernel
theorem d15_46 : decode k15 46 = .ok (.bipush 10, 2) := by decide +kernel
theorem d15_48 : decode k15 48 = .ok (.iload_n 1, 1) := by decide +kernel
theorem d15_49 : decode k15 49 = .ok (.invokestatic 79, 3) := by decide +kernel
theorem d15_52 : decode k15 52 = .ok (.anewarray 7, 3) := by decide +kernel
theorem d15_55 : decode k15 55 = .ok (.dup_x1, 1) := by decide +kernel
theorem d15_56 : decode k15 56 = .ok (.putfield 9, 3) := by decide +kernel
theorem d15_59 : decode k15 59 = .ok (.areturn, 1) := by decide +kernel
theorem d16_0 : decode k16 0 = .ok (.iload_n 0, 1) := by decide +kernel
theorem d16_1 : decode k16 1 = .ok (.iload_n 1, 1) := by decide +kernel
theorem d16_2 : decode k16 2 = .ok (.if_icmp .lt 7, 3) := by decide +kernel
theorem d16_5 : decode k16 5 = .ok (.iload_n 0, 1) := by decide +kernel
theorem d16_6 : decode k16 6 = .ok (.goto 4, 3) := by decide +kernel
theorem d16_10 : decode k16 10 = .ok (.ireturn, 1) := by decide +kernel
theorem d17_0 : decode k17 0 = .ok (.aload_n 0, 1) := by decide +kernel
theorem d17_1 : decode k17 1 = .ok (.getfield 48, 3) := by decide +kernel
theorem d17_4 : decode k17 4 = .ok (.ireturn, 1) := by decide +kernel
theorem d18_0 : decode k18 0 = .ok (.lload_n 0, 1) := by decide +kernel
theorem d18_1 : decode k18 1 = .ok (.lload_n 2, 1) := by decide +kernel
theorem d18_2 : decode k18 2 = .ok (.lcmp, 1) := by decide +kernel
theorem d18_3 : decode k18 3 = .ok (.ifCond .lt 7, 3) := by decide +kernel
theorem d18_6 : decode k18 6 = .ok (.lload_n 0, 1) := by decide +kernel
theorem d18_7 : decode k18 7 = .ok (.goto 4, 3) := by decide +kernel
theorem d18_10 : decode k18 10 = .ok (.lload_n 2, 1) := by decide +kernel
theorem d18_11 : decode k18 11 = .ok (.lreturn, 1) := by decide +kernel
theorem d19_0 : decode k19 0 = .ok (.aload_n 0, 1) := by decide +kernel
theorem d19_1 : decode k19 1 = .ok (.getfield 30, 3) := by decide +kernel
theorem d19_4 : decode k19 4 = .ok (.ifnonnull 5, 3) := by decide +kernel
theorem d19_7 : decode k19 7 = .ok (.iconst 0, 1) := by decide +kernel
theorem d19_8 : decode k19 8 = .ok (.ireturn, 1) := by decide +kernel
theorem d19_9 : decode k19 9 = .ok (.aload_n 0, 1) := by decide +kernel
theorem d19_10 : decode k19 10 = .ok (.getfield 17, 3) := by decide +kernel
theorem d19_13 : decode k19 13 = .ok (.lload_n 1, 1) := by decide +kernel
theorem d19_14 : decode k19 14 = .ok (.lcmp, 1) := by decide +kernel
theorem d19_15 : decode k19 15 = .ok (.ifCond .gt 10, 3) := by decide +kernel
theorem d19_18 : decode k19 18 = .ok (.aload_n 0, 1) := by decide +kernel
theorem d19_19 : decode k19 19 = .ok (.aconst_null, 1) := by decide +kernel
theorem d19_20 : decode k19 20 = .ok (.putfield 30, 3) := by decide +kernel
theorem d19_23 : decode k19 23 = .ok (.iconst 0, 1) := by decide +kernel
theorem d19_24 : decode k19 24 = .ok (.ireturn, 1) := by decide +kernel
theorem d19_25 : decode k19 25 = .ok (.aload_n 0, 1) := by decide +kernel
theorem d19_26 : decode k19 26 = .ok (.lload_n 1, 1) := by decide +kernel
theorem d19_27 : decode k19 27 = .ok (.invokevirtual 24, 3) := by decide +kernel
theorem d19_30 : decode k19 30 = .ok (.istore_n 3, 1) := by decide +kernel
theorem d19_31 : decode k19 31 = .ok (.iload_n 3, 1) := by decide +kernel
theorem d19_32 : decode k19 32 = .ok (.ifCond .le 19, 3) := by decide +kernel
theorem d19_35 : decode k19 35 = .ok (.aload_n 0, 1) := by decide +kernel
theorem d19_36 : decode k19 36 = .ok (.getfield 30, 3) := by decide +kernel
theorem d19_39 : decode k19 39 = .ok (.iconst 0, 1) := by decide +kernel
theorem d19_40 : decode k19 40 = .ok (.iload_n 3, 1) := by decide +kernel
theorem d19_41 : decode k19 41 = .ok (.invokeinterface 79 3, 5) := by decide +kernel
theorem d19_46 : decode k19 46 = .ok (.invokeinterface 83 1, 5) := by decide +kernel
theorem d19_51 : decode k19 51 = .ok (.iconst 1, 1) := by decide +kernel
theorem d19_52 : decode k19 52 = .ok (.ireturn, 1) := by decide +kernel
theorem d20_0 : decode k20 0 = .ok (.iconst 0, 1) := by decide +kernel
theorem d20_1 : decode k20 1 = .ok (.istore_n 3, 1) := by decide +kernel
theorem d20_2 : decode k20 2 = .ok (.aload_n 0, 1) := by decide +kernel
theorem d20_3 : decode k20 3 = .ok (.getfield 30, 3) := by decide +kernel
theorem d20_6 : decode k20 6 = .ok (.ifnonnull 7, 3) := by decide +kernel
theorem d20_9 : decode k20 9 = .ok (.iconst (-1), 1) := by decide +kernel
theorem d20_10 : decode k20 10 = .ok (.goto 14, 3) := by decide +kernel
theorem d20_13 : decode k20 13 = .ok (.aload_n 0, 1) := by decide +kernel
theorem d20_14 : decode k20 14 = .ok (.getfield 30, 3) := by decide +kernel
theorem d20_17 : decode k20 17 = .ok (.invokeinterface 75 1, 5) := by decide +kernel
theorem d20_22 : decode k20 22 = .ok (.iconst 1, 1) := by decide +kernel
theorem d20_23 : decode k20 23 = .ok (.isub, 1) := by decide +kernel
theorem d20_24 : decode k20 24 = .ok (.istore 4, 2) := by decide +kernel
theorem d20_26 : decode k20 26 = .ok (.iload_n 3, 1) := by decide +kernel
theorem d20_27 : decode k20 27 = .ok (.iload 4, 2) := by decide +kernel
theorem d20_29 : decode k20 29 = .ok (.if_icmp .gt 50, 3) := by decide +kernel
theorem d20_32 : decode k20 32 = .ok (.iload_n 3, 1) := by decide +kernel
theorem d20_33 : decode k20 33 = .ok (.iload 4, 2) := by decide +kernel
theorem d20_35 : decode k20 35 = .ok (.iadd, 1) := by decide +kernel
theorem d20_36 : decode k20 36 = .ok (.iconst 1, 1) := by decide +kernel
theorem d20_37 : decode k20 37 = .ok (.iushr, 1) := by decide +kernel
theorem d20_38 : decode k20 38 = .ok (.istore 5, 2) := by decide +kernel
theorem d20_40 : decode k20 40 = .ok (.aload_n 0, 1) := by decide +kernel
theorem d20_41 : decode k20 41 = .ok (.getfield 30, 3) := by decide +kernel
theorem d20_44 : decode k20 44 = .ok (.iload 5, 2) := by decide +kernel
theorem d20_46 : decode k20 46 = .ok (.invokeinterface 34 2, 5) := by decide +kernel
theorem d20_51 : decode k20 51 = .ok (.checkcast 40, 3) := by decide +kernel
theorem d20_54 : decode k20 54 = .ok (.getfield 42, 3) := by decide +kernel
theorem d20_57 : decode k20 57 = .ok (.lload_n 1, 1) := by decide +kernel
theorem d20_58 : decode k20 58 = .ok (.lcmp, 1) := by decide +kernel
theorem d20_59 : decode k20 59 = .ok (.ifCond .gt 11, 3) := by decide +kernel
theorem d20_62 : decode k20 62 = .ok (.iload 5, 2) := by decide +kernel
theorem d20_64 : decode k20 64 = .ok (.iconst 1, 1) := by decide +kernel
theorem d20_65 : decode k20 65 = .ok (.iadd, 1) := by decide +kernel
theorem d20_66 : decode k20 66 = .ok (.istore_n 3, 1) := by decide +kernel
theorem d20_67 : decode k20 67 = .ok (.goto 9, 3) := by decide +kernel
theorem d20_70 : decode k20 70 = .ok (.iload 5, 2) := by decide +kernel
theorem d20_72 : decode k20 72 = .ok (.iconst 1, 1) := by decide +kernel
theorem d20_73 : decode k20 73 = .ok (.isub, 1) := by decide +kernel
theorem d20_74 : decode k20 74 = .ok (.istore 4, 2) := by decide +kernel
theorem d20_76 : decode k20 76 = .ok (.goto (-50), 3) := by decide +kernel
theorem d20_79 : decode k20 79 = .ok (.iload 4, 2) := by decide +kernel
theorem d20_81 : decode k20 81 = .ok (.ireturn, 1) := by decide +kernel
theorem d21_0 : decode k21 0 = .ok (.iload_n 1, 1) := by decide +kernel
theorem d21_1 : decode k21 1 = .ok (.aload_n 0, 1) := by decide +kernel
theorem d21_2 : decode k21 2 = .ok (.getfield 48, 3) := by decide +kernel
theorem d21_5 : decode k21 5 = .ok (.invokestatic 118, 3) := by decide +kernel
theorem d21_8 : decode k21 8 = .ok (.pop, 1) := by decide +kernel
theorem d21_9 : decode k21 9 = .ok (.aload_n 0, 1) := by decide +kernel
theorem d21_10 : decode k21 10 = .ok (.iload_n 1, 1) := by decide +kernel
theorem d21_11 : decode k21 11 = .ok (.invokevirtual 123, 3) := by decide +kernel
theorem d21_14 : decode k21 14 = .ok (.areturn, 1) := by decide +kernel
theorem d22_0 : decode k22 0 = .ok (.iload_n 0, 1) := by decide +kernel
theorem d22_1 : decode k22 1 = .ok (.iload_n 1, 1) := by decide +kernel
theorem d22_2 : decode k22 2 = .ok (.aconst_null, 1) := by decide +kernel
theorem d22_3 : decode k22 3 = .ok (.invokestatic 105, 3) := by decide +kernel
theorem d22_6 : decode k22 6 = .ok (.ireturn, 1) := by decide +kernel
theorem d23_0 : decode k23 0 = .ok (.iload_n 0, 1) := by decide +kernel
theorem d23_1 : decode k23 1 = .ok (.ifCond .lt 8, 3) := by decide +kernel
theorem d23_4 : decode k23 4 = .ok (.iload_n 0, 1) := by decide +kernel
theorem d23_5 : decode k23 5 = .ok (.iload_n 1, 1) := by decide +kernel
theorem d23_6 : decode k23 6 = .ok (.if_icmp .lt 10, 3) := by decide +kernel
theorem d23_16 : decode k23 16 = .ok (.iload_n 0, 1) := by decide +kernel
theorem d23_17 : decode k23 17 = .ok (.ireturn, 1) := by decide +kernel
theorem d24_0 : decode k24 0 = .ok (.aload_n 0, 1) := by decide +kernel
theorem d24_1 : decode k24 1 = .ok (.getfield 9, 3) := by decide +kernel
theorem d24_4 : decode k24 4 = .ok (.iload_n 1, 1) := by decide +kernel
theorem d24_5 : decode k24 5 = .ok (.aaload, 1) := by decide +kernel
theorem d24_6 : decode k24 6 = .ok (.areturn, 1) := by decide +kernel
theorem d25_0 : decode k25 0 = .ok (.aload_n 0, 1) := by decide +kernel
theorem d25_1 : decode k25 1 = .ok (.iload_n 1, 1) := by decide +kernel
theorem d25_2 : decode k25 2 = .ok (.invokevirtual 135, 3) := by decide +kernel
theorem d25_5 : decode k25 5 = .ok (.aload_n 0, 1) := by decide +kernel
theorem d25_6 : decode k25 6 = .ok (.dup, 1) := by decide +kernel
theorem d25_7 : decode k25 7 = .ok (.getfield 63, 3) := by decide +kernel
theorem d25_10 : decode k25 10 = .ok (.iconst 1, 1) := by decide +kernel
theorem d25_11 : decode k25 11 = .ok (.iadd, 1) := by decide +kernel
theorem d25_12 : decode k25 12 = .ok (.putfield 63, 3) := by decide +kernel
theorem d25_15 : decode k25 15 = .ok (.aload_n 0, 1) := by decide +kernel
theorem d25_16 : decode k25 16 = .ok (.getfield 48, 3) := by decide +kernel
theorem d25_19 : decode k25 19 = .ok (.dup, 1) := by decide +kernel
theorem d25_20 : decode k25 20 = .ok (.istore_n 3, 1) := by decide +kernel
theorem d25_21 : decode k25 21 = .ok (.aload_n 0, 1) := by decide +kernel
theorem d25_22 : decode k25 22 = .ok (.getfield 9, 3) := by decide +kernel
theorem d25_25 : decode k25 25 = .ok (.dup, 1) := by decide +kernel
theorem d25_26 : decode k25 26 = .ok (.astore 4, 2) := by decide +kernel
theorem d25_28 : decode k25 28 = .ok (.arraylength, 1) := by decide +kernel
theorem d25_29 : decode k25 29 = .ok (.if_icmp .ne 9, 3) := by decide +kernel
theorem d25_32 : decode k25 32 = .ok (.aload_n 0, 1) := by decide +kernel
theorem d25_33 : decode k25 33 = .ok (.invokevirtual 129, 3) := by decide +kernel
theorem d25_36 : decode k25 36 = .ok (.astore 4, 2) := by decide +kernel
theorem d25_38 : decode k25 38 = .ok (.aload 4, 2) := by decide +kernel
theorem d25_40 : decode k25 40 = .ok (.iload_n 1, 1) := by decide +kernel
theorem d25_41 : decode k25 41 = .ok (.aload 4, 2) := by decide +kernel
theorem d25_43 : decode k25 43 = .ok (.iload_n 1, 1) := by decide +kernel
theorem d25_44 : decode k25 44 = .ok (.iconst 1, 1) := by decide +kernel
theorem d25_45 : decode k25 45 = .ok (.iadd, 1) := by decide +kernel
theorem d25_46 : decode k25 46 = .ok (.iload_n 3, 1) := by decide +kernel
theorem d25_47 : decode k25 47 = .ok (.iload_n 1, 1) := by decide +kernel
theorem d25_48 : decode k25 48 = .ok (.isub, 1) := by decide +kernel
theorem d25_49 : decode k25 49 = .ok (.invokestatic 112, 3) := by decide +kernel
theorem d25_52 : decode k25 52 = .ok (.aload 4, 2) := by decide +kernel
theorem d25_54 : decode k25 54 = .ok (.iload_n 1, 1) := by decide +kernel
theorem d25_55 : decode k25 55 = .ok (.aload_n 2, 1) := by decide +kernel
theorem d25_56 : decode k25 56 = .ok (.aastore, 1) := by decide +kernel
theorem d25_57 : decode k25 57 = .ok (.aload_n 0, 1) := by decide +kernel
theorem d25_58 : decode k25 58 = .ok (.iload_n 3, 1) := by decide +kernel
theorem d25_59 : decode k25 59 = .ok (.iconst 1, 1) := by decide +kernel
theorem d25_60 : decode k25 60 = .ok (.iadd, 1) := by decide +kernel
theorem d25_61 : decode k25 61 = .ok (.putfield 48, 3) := by decide +kernel
theorem d25_64 : decode k25 64 = .ok (.return_, 1) := by decide +kernel
theorem d26_0 : decode k26 0 = .ok (.iload_n 1, 1) := by decide +kernel
theorem d26_1 : decode k26 1 = .ok (.aload_n 0, 1) := by decide +kernel
theorem d26_2 : decode k26 2 = .ok (.getfield 48, 3) := by decide +kernel
theorem d26_5 : decode k26 5 = .ok (.if_icmp .gt 7, 3) := by decide +kernel
theorem d26_8 : decode k26 8 = .ok (.iload_n 1, 1) := by decide +kernel
theorem d26_9 : decode k26 9 = .ok (.ifCond .ge 16, 3) := by decide +kernel
theorem d26_25 : decode k26 25 = .ok (.return_, 1) := by decide +kernel
theorem d27_0 : decode k27 0 = .ok (.iload_n 1, 1) := by decide +kernel
theorem d27_1 : decode k27 1 = .ok (.iload_n 2, 1) := by decide +kernel
theorem d27_2 : decode k27 2 = .ok (.aload_n 0, 1) := by decide +kernel
theorem d27_3 : decode k27 3 = .ok (.getfield 48, 3) := by decide +kernel
theorem d27_6 : decode k27 6 = .ok (.invokestatic 272, 3) := by decide +kernel
theorem d27_9 : decode k27 9 = .ok (.new 276, 3) := by decide +kernel
theorem d27_12 : decode k27 12 = .ok (.dup, 1) := by decide +kernel
theorem d27_13 : decode k27 13 = .ok (.aload_n 0, 1) := by decide +kernel
theorem d27_14 : decode k27 14 = .ok (.iload_n 1, 1) := by decide +kernel
theorem d27_15 : decode k27 15 = .ok (.iload_n 2, 1) := by decide +kernel
theorem d27_16 : decode k27 16 = .ok (.invokespecial 278, 3) := by decide +kernel
theorem d27_19 : decode k27 19 = .ok (.areturn, 1) := by decide +kernel
theorem d28_0 : decode k28 0 = .ok (.iload_n 0, 1) := by decide +kernel
theorem d28_1 : decode k28 1 = .ok (.ifCond .ge 30, 3) := by decide +kernel
theorem d28_31 : decode k28 31 = .ok (.iload_n 1, 1) := by decide +kernel
theorem d28_32 : decode k28 32 = .ok (.iload_n 2, 1) := by decide +kernel
theorem d28_33 : decode k28 33 = .ok (.if_icmp .le 30, 3) := by decide +kernel
theorem d28_63 : decode k28 63 = .ok (.iload_n 0, 1) := by decide +kernel
theorem d28_64 : decode k28 64 = .ok (.iload_n 1, 1) := by decide +kernel
theorem d28_65 : decode k28 65 = .ok (.if_icmp .le 44, 3) := by decide +kernel
theorem d28_109 : decode k28 109 = .ok (.return_, 1) := by decide +kernel
theorem d29_0 : decode k29 0 = .ok (.aload_n 0, 1) := by decide +kernel
theorem d29_1 : decode k29 1 = .ok (.invokespecial 1, 3) := by decide +kernel
theorem d29_4 : decode k29 4 = .ok (.aload_n 0, 1) := by decide +kernel
theorem d29_5 : decode k29 5 = .ok (.aload_n 1, 1) := by decide +kernel
theorem d29_6 : decode k29 6 = .ok (.putfield 7, 3) := by decide +kernel
theorem d29_9 : decode k29 9 = .ok (.aload_n 0, 1) := by decide +kernel
theorem d29_10 : decode k29 10 = .ok (.aconst_null, 1) := by decide +kernel
theorem d29_11 : decode k29 11 = .ok (.putfield 13, 3) := by decide +kernel
theorem d29_14 : decode k29 14 = .ok (.aload_n 0, 1) := by decide +kernel
theorem d29_15 : decode k29 15 = .ok (.iload_n 2, 1) := by decide +kernel
theorem d29_16 : decode k29 16 = .ok (.putfield 17, 3) := by decide +kernel
theorem d29_19 : decode k29 19 = .ok (.aload_n 0, 1) := by decide +kernel
theorem d29_20 : decode k29 20 = .ok (.iload_n 3, 1) := by decide +kernel
theorem d29_21 : decode k29 21 = .ok (.iload_n 2, 1) := by decide +kernel
theorem d29_22 : decode k29 22 = .ok (.isub, 1) := by decide +kernel
theorem d29_23 : decode k29 23 = .ok (.putfield 21, 3) := by decide +kernel
theorem d29_26 : decode k29 26 = .ok (.aload_n 0, 1) := by decide +kernel
theorem d29_27 : decode k29 27 = .ok (.aload_n 1, 1) := by decide +kernel
theorem d29_28 : decode k29 28 = .ok (.getfield 24, 3) := by decide +kernel
theorem d29_31 : decode k29 31 = .ok (.putfield 29, 3) := by decide +kernel
theorem d29_34 : decode k29 34 = .ok (.return_, 1) := by decide +kernel
theorem d30_0 : decode k30 0 = .ok (.aload_n 0, 1) := by decide +kernel
theorem d30_1 : decode k30 1 = .ok (.iconst 0, 1) := by decide +kernel
theorem d30_2 : decode k30 2 = .ok (.aload_n 0, 1) := by decide +kernel
theorem d30_3 : decode k30 3 = .ok (.invokevirtual 13, 3) := by decide +kernel
theorem d30_6 : decode k30 6 = .ok (.invokevirtual 59, 3) := by decide +kernel
theorem d30_9 : decode k30 9 = .ok (.return_, 1) := by decide +kernel
theorem d31_0 : decode k31 0 = .ok (.aload_n 0, 1) := by decide +kernel
theorem d31_1 : decode k31 1 = .ok (.invokevirtual 36, 3) := by decide +kernel
theorem d31_4 : decode k31 4 = .ok (.aload_n 0, 1) := by decide +kernel
theorem d31_5 : decode k31 5 = .ok (.getfield 21, 3) := by decide +kernel
theorem d31_8 : decode k31 8 = .ok (.ireturn, 1) := by decide +kernel
theorem d32_0 : decode k32 0 = .ok (.aload_n 0, 1) := by decide +kernel
theorem d32_1 : decode k32 1 = .ok (.getfield 7, 3) := by decide +kernel
theorem d32_4 : decode k32 4 = .ok (.getfield 24, 3) := by decide +kernel
theorem d32_7 : decode k32 7 = .ok (.aload_n 0, 1) := by decide +kernel
theorem d32_8 : decode k32 8 = .ok (.getfield 29, 3) := by decide +kernel
theorem d32_11 : decode k32 11 = .ok (.if_icmp .eq 11, 3) := by decide +kernel
theorem d32_22 : decode k32 22 = .ok (.return_, 1) := by decide +kernel
theorem d33_0 : decode k33 0 = .ok (.aload_n 0, 1) := by decide +kernel
theorem d33_1 : decode k33 1 = .ok (.invokevirtual 36, 3) := by decide +kernel
theorem d33_4 : decode k33 4 = .ok (.aload_n 0, 1) := by decide +kernel
theorem d33_5 : decode k33 5 = .ok (.getfield 7, 3) := by decide +kernel
theorem d33_8 : decode k33 8 = .ok (.aload_n 0, 1) := by decide +kernel
theorem d33_9 : decode k33 9 = .ok (.getfield 17, 3) := by decide +kernel
theorem d33_12 : decode k33 12 = .ok (.iload_n 1, 1) := by decide +kernel
theorem d33_13 : decode k33 13 = .ok (.iadd, 1) := by decide +kernel
theorem d33_14 : decode k33 14 = .ok (.aload_n 0, 1) := by decide +kernel
theorem d33_15 : decode k33 15 = .ok (.getfield 17, 3) := by decide +kernel
theorem d33_18 : decode k33 18 = .ok (.iload_n 2, 1) := by decide +kernel
theorem d33_19 : decode k33 19 = .ok (.iadd, 1) := by decide +kernel
theorem d33_20 : decode k33 20 = .ok (.invokevirtual 60, 3) := by decide +kernel
theorem d33_23 : decode k33 23 = .ok (.aload_n 0, 1) := by decide +kernel
theorem d33_24 : decode k33 24 = .ok (.iload_n 1, 1) := by decide +kernel
theorem d33_25 : decode k33 25 = .ok (.iload_n 2, 1) := by decide +kernel
theorem d33_26 : decode k33 26 = .ok (.isub, 1) := by decide +kernel
theorem d33_27 : decode k33 27 = .ok (.invokevirtual 54, 3) := by decide +kernel
theorem d33_30 : decode k33 30 = .ok (.return_, 1) := by decide +kernel
theorem d34_0 : decode k34 0 = .ok (.iload_n 1, 1) := by decide +kernel
theorem d34_1 : decode k34 1 = .ok (.iload_n 2, 1) := by decide +kernel
theorem d34_2 : decode k34 2 = .ok (.if_icmp .le 16, 3) := by decide +kernel
theorem d34_18 : decode k34 18 = .ok (.aload_n 0, 1) := by decide +kernel
theorem d34_19 : decode k34 19 = .ok (.dup, 1) := by decide +kernel
theorem d34_20 : decode k34 20 = .ok (.getfield 63, 3) := by decide +kernel
theorem d34_23 : decode k34 23 = .ok (.iconst 1, 1) := by decide +kernel
theorem d34_24 : decode k34 24 = .ok (.iadd, 1) := by decide +kernel
theorem d34_25 : decode k34 25 = .ok (.putfield 63, 3) := by decide +kernel
theorem d34_28 : decode k34 28 = .ok (.aload_n 0, 1) := by decide +kernel
theorem d34_29 : decode k34 29 = .ok (.aload_n 0, 1) := by decide +kernel
theorem d34_30 : decode k34 30 = .ok (.getfield 9, 3) := by decide +kernel
theorem d34_33 : decode k34 33 = .ok (.iload_n 1, 1) := by decide +kernel
theorem d34_34 : decode k34 34 = .ok (.iload_n 2, 1) := by decide +kernel
theorem d34_35 : decode k34 35 = .ok (.invokevirtual 194, 3) := by decide +kernel
theorem d34_38 : decode k34 38 = .ok (.return_, 1) := by decide +kernel
theorem d35_0 : decode k35 0 = .ok (.aload_n 1, 1) := by decide +kernel
theorem d35_1 : decode k35 1 = .ok (.iload_n 3, 1) := by decide +kernel
theorem d35_2 : decode k35 2 = .ok (.aload_n 1, 1) := by decide +kernel
theorem d35_3 : decode k35 3 = .ok (.iload_n 2, 1) := by decide +kernel
theorem d35_4 : decode k35 4 = .ok (.aload_n 0, 1) := by decide +kernel
theorem d35_5 : decode k35 5 = .ok (.getfield 48, 3) := by decide +kernel
theorem d35_8 : decode k35 8 = .ok (.iload_n 3, 1) := by decide +kernel
theorem d35_9 : decode k35 9 = .ok (.isub, 1) := by decide +kernel
theorem d35_10 : decode k35 10 = .ok (.invokestatic 112, 3) := by decide +kernel
theorem d35_13 : decode k35 13 = .ok (.aload_n 0, 1) := by decide +kernel
theorem d35_14 : decode k35 14 = .ok (.getfield 48, 3) := by decide +kernel
theorem d35_17 : decode k35 17 = .ok (.istore 4, 2) := by decide +kernel
theorem d35_19 : decode k35 19 = .ok (.aload_n 0, 1) := by decide +kernel
theorem d35_20 : decode k35 20 = .ok (.dup, 1) := by decide +kernel
theorem d35_21 : decode k35 21 = .ok (.getfield 48, 3) := by decide +kernel
theorem d35_24 : decode k35 24 = .ok (.iload_n 3, 1) := by decide +kernel
theorem d35_25 : decode k35 25 = .ok (.iload_n 2, 1) := by decide +kernel
theorem d35_26 : decode k35 26 = .ok (.isub, 1) := by decide +kernel
theorem d35_27 : decode k35 27 = .ok (.isub, 1) := by decide +kernel
theorem d35_28 : decode k35 28 = .ok (.dup_x1, 1) := by decide +kernel
theorem d35_29 : decode k35 29 = .ok (.putfield 48, 3) := by decide +kernel
theorem d35_32 : decode k35 32 = .ok (.istore 5, 2) := by decide +kernel
theorem d35_34 : decode k35 34 = .ok (.iload 5, 2) := by decide +kernel
theorem d35_36 : decode k35 36 = .ok (.iload 4, 2) := by decide +kernel
theorem d35_38 : decode k35 38 = .ok (.if_icmp .ge 14, 3) := by decide +kernel
theorem d35_41 : decode k35 41 = .ok (.aload_n 1, 1) := by decide +kernel
theorem d35_42 : decode k35 42 = .ok (.iload 5, 2) := by decide +kernel
theorem d35_44 : decode k35 44 = .ok (.aconst_null, 1) := by decide +kernel
theorem d35_45 : decode k35 45 = .ok (.aastore, 1) := by decide +kernel
theorem d35_46 : decode k35 46 = .ok (.iinc 5 1, 3) := by decide +kernel
theorem d35_49 : decode k35 49 = .ok (.goto (-15), 3) := by decide +kernel
theorem d35_52 : decode k35 52 = .ok (.return_, 1) := by decide +kernel
theorem d36_0 : decode k36 0 = .ok (.aload_n 0, 1) := by decide +kernel
theorem d36_1 : decode k36 1 = .ok (.astore_n 2, 1) := by decide +kernel
theorem d36_2 : decode k36 2 = .ok (.aload_n 2, 1) := by decide +kernel
theorem d36_3 : decode k36 3 = .ok (.dup, 1) := by decide +kernel
theorem d36_4 : decode k36 4 = .ok (.getfield 21, 3) := by decide +kernel
theorem d36_7 : decode k36 7 = .ok (.iload_n 1, 1) := by decide +kernel
theorem d36_8 : decode k36 8 = .ok (.iadd, 1) := by decide +kernel
theorem d36_9 : decode k36 9 = .ok (.putfield 21, 3) := by decide +kernel
theorem d36_12 : decode k36 12 = .ok (.aload_n 2, 1) := by decide +kernel
theorem d36_13 : decode k36 13 = .ok (.aload_n 0, 1) := by decide +kernel
theorem d36_14 : decode k36 14 = .ok (.getfield 7, 3) := by decide +kernel
theorem d36_17 : decode k36 17 = .ok (.getfield 24, 3) := by decide +kernel
theorem d36_20 : decode k36 20 = .ok (.putfield 29, 3) := by decide +kernel
theorem d36_23 : decode k36 23 = .ok (.aload_n 2, 1) := by decide +kernel
theorem d36_24 : decode k36 24 = .ok (.getfield 13, 3) := by decide +kernel
theorem d36_27 : decode k36 27 = .ok (.astore_n 2, 1) := by decide +kernel
theorem d36_28 : decode k36 28 = .ok (.aload_n 2, 1) := by decide +kernel
theorem d36_29 : decode k36 29 = .ok (.ifnonnull (-27), 3) := by decide +kernel
theorem d36_32 : decode k36 32 = .ok (.return_, 1) := by decide +kernel
theorem pd0 : parseMethodDescriptor "()V" = some ⟨[], none⟩ := by decide +kernel
theorem pd1 : parseMethodDescriptor "(II)I" = some ⟨[.int, .int], some .int⟩ := by decide +kernel
theorem pd2 : parseMethodDescriptor "(I)[Ljava/lang/Object;" = some ⟨[.int], some (.array (.object "java/lang/Object"))⟩ := by decide +kernel
theorem pd3 : parseMethodDescriptor "()[Ljava/lang/Object;" = some ⟨[], some (.array (.object "java/lang/Object"))⟩ := by decide +kernel
theorem pd4 : parseMethodDescriptor "(Ljava/lang/Object;[Ljava/lang/Object;I)V" = some ⟨[(.object "java/lang/Object"), (.array (.object "java/lang/Object")), .int], none⟩ := by decide +kernel
theorem pd5 : parseMethodDescriptor "(I)V" = some ⟨[.int], none⟩ := by decide +kernel
theorem pd6 : parseMethodDescriptor "(IILjava/util/function/BiFunction;)I" = some ⟨[.int, .int, (.object "java/util/function/BiFunction")], some .int⟩ := by decide +kernel
theorem pd7 : parseMethodDescriptor "(I)Ljava/lang/Object;" = some ⟨[.int], some (.object "java/lang/Object")⟩ := by decide +kernel
theorem pd8 : parseMethodDescriptor "()I" = some ⟨[], some .int⟩ := by decide +kernel
theorem pd9 : parseMethodDescriptor "()Ljava/util/List;" = some ⟨[], some (.object "java/util/List")⟩ := by decide +kernel
theorem pd10 : parseMethodDescriptor "(JLjava/lang/Object;J)V" = some ⟨[.long, (.object "java/lang/Object"), .long], none⟩ := by decide +kernel
theorem pd11 : parseMethodDescriptor "(Ljava/lang/Object;)Z" = some ⟨[(.object "java/lang/Object")], some .boolean⟩ := by decide +kernel
theorem pd12 : parseMethodDescriptor "(J)I" = some ⟨[.long], some .int⟩ := by decide +kernel
theorem pd13 : parseMethodDescriptor "(ILjava/lang/Object;)V" = some ⟨[.int, (.object "java/lang/Object")], none⟩ := by decide +kernel
theorem pd14 : parseMethodDescriptor "(III)V" = some ⟨[.int, .int, .int], none⟩ := by decide +kernel
theorem pd15 : parseMethodDescriptor "(Ljava/util/ArrayList;II)V" = some ⟨[(.object "java/util/ArrayList"), .int, .int], none⟩ := by decide +kernel
theorem pd16 : parseMethodDescriptor "([Ljava/lang/Object;II)V" = some ⟨[(.array (.object "java/lang/Object")), .int, .int], none⟩ := by decide +kernel
theorem pd17 : parseMethodDescriptor "(II)V" = some ⟨[.int, .int], none⟩ := by decide +kernel
theorem pd18 : parseMethodDescriptor "(II)Ljava/util/List;" = some ⟨[.int, .int], some (.object "java/util/List")⟩ := by decide +kernel
theorem pd19 : parseMethodDescriptor "(I)Ljava/lang/Integer;" = some ⟨[.int], some (.object "java/lang/Integer")⟩ := by decide +kernel
theorem pd20 : parseMethodDescriptor "(Ljava/lang/Object;Z)V" = some ⟨[(.object "java/lang/Object"), .boolean], none⟩ := by decide +kernel
theorem pd21 : parseMethodDescriptor "()Z" = some ⟨[], some .boolean⟩ := by decide +kernel
theorem pd22 : parseMethodDescriptor "(JLjava/lang/Object;)V" = some ⟨[.long, (.object "java/lang/Object")], none⟩ := by decide +kernel
theorem pd23 : parseMethodDescriptor "(JJ)J" = some ⟨[.long, .long], some .long⟩ := by decide +kernel
theorem pd24 : parseMethodDescriptor "(J)Z" = some ⟨[.long], some .boolean⟩ := by decide +kernel
theorem pn0 : plainName "java/util/AbstractCollection" = true := by first | (simp [plainName, overriddenIn]; done) | decide +kernel
theorem pn1 : plainName "java/util/AbstractList" = true := by first | (simp [plainName, overriddenIn]; done) | decide +kernel
theorem pn2 : plainName "java/util/ArrayList" = true := by first | (simp [plainName, overriddenIn]; done) | decide +kernel
theorem pn3 : plainName "jdk/internal/util/Preconditions" = true := by first | (simp [plainName, overriddenIn]; done) | decide +kernel
theorem pn4 : plainName "java/util/Objects" = true := by first | (simp [plainName, overriddenIn]; done) | decide +kernel
theorem pn5 : plainName "com/example/stampwise/stampwise/Versions$Older" = true := by first | (simp [plainName, overriddenIn]; done) | decide +kernel
theorem pn6 : plainName "com/example/stampwise/stampwise/Versions" = true := by first | (simp [plainName, overriddenIn]; done) | decide +kernel
theorem pn7 : plainName "java/util/ArrayList$SubList" = true := by first | (simp [plainName, overriddenIn]; done) | decide +kernel
theorem pn8 : plainName "java/lang/Integer" = true := by first | (simp [plainName, overriddenIn]; done) | decide +kernel
theorem pn9 : plainName "com/example/stampwise/stampwise/VersionsHoldsOlderPinLaw" = true := by first | (simp [plainName, overriddenIn]; done) | decide +kernel
theorem ef_cac (m : MethodId) (x0 : Addr) : entryFrame m #[(.ref x0)] 1 = mkF m 0 #[.val (.ref x0)] [] := by first | (simp [entryFrame, mkF, argsToLocals, Value.category, maxLocals]; done) | rfl
theorem ef_cabl (m : MethodId) (x0 : Addr) : entryFrame m #[(.ref x0)] 1 = mkF m 0 #[.val (.ref x0)] [] := by first | (simp [entryFrame, mkF, argsToLocals, Value.category, maxLocals]; done) | rfl
theorem ef_cali (m : MethodId) (x0 : Addr) : entryFrame m #[(.ref x0)] 1 = mkF m 0 #[.val (.ref x0)] [] := by first | (simp [entryFrame, mkF, argsToLocals, Value.category, maxLocals]; done) | rfl
theorem ef_cmaxI (m : MethodId) (x0 : Int32) (x1 : Int32) : entryFrame m #[(.int x0), (.int x1)] 2 = mkF m 0 #[.val (.int x0), .val (.int x1)] [] := by first | (simp [entryFrame, mkF, argsToLocals, Value.category, maxLocals]; done) | rfl
theorem ef_cgroI (m : MethodId) (x0 : Addr) : entryFrame m #[(.ref x0), (.int 1)] 4 = mkF m 0 #[.val (.ref x0), .val (.int 1), .unset, .unset] [] := by first | (simp [entryFrame, mkF, argsToLocals, Value.category, maxLocals]; done) | rfl
theorem ef_cgro (m : MethodId) (x0 : Addr) : entryFrame m #[(.ref x0)] 1 = mkF m 0 #[.val (.ref x0)] [] := by first | (simp [entryFrame, mkF, argsToLocals, Value.category, maxLocals]; done) | rfl
theorem ef_cad3_0 (m : MethodId) (x0 : Addr) (x1 : Addr) (x2 : Addr) : entryFrame m #[(.ref x0), (.ref x1), (.ref x2), (.int 0)] 4 = mkF m 0 #[.val (.ref x0), .val (.ref x1), .val (.ref x2), .val (.int 0)] [] := by first | (simp [entryFrame, mkF, argsToLocals, Value.category, maxLocals]; done) | rfl
theorem ef_cad3_1 (m : MethodId) (x0 : Addr) (x1 : Addr) (x2 : Addr) : entryFrame m #[(.ref x0), (.ref x1), (.ref x2), (.int 1)] 4 = mkF m 0 #[.val (.ref x0), .val (.ref x1), .val (.ref x2), .val (.int 1)] [] := by first | (simp [entryFrame, mkF, argsToLocals, Value.category, maxLocals]; done) | rfl
theorem ef_cadd_0 (m : MethodId) (x0 : Addr) (x1 : Addr) : entryFrame m #[(.ref x0), (.ref x1)] 2 = mkF m 0 #[.val (.ref x0), .val (.ref x1)] [] := by first | (simp [entryFrame, mkF, argsToLocals, Value.category, maxLocals]; done) | rfl
theorem ef_cadd_1 (m : MethodId) (x0 : Addr) (x1 : Addr) : entryFrame m #[(.ref x0), (.ref x1)] 2 = mkF m 0 #[.val (.ref x0), .val (.ref x1)] [] := by first | (simp [entryFrame, mkF, argsToLocals, Value.category, maxLocals]; done) | rfl
theorem ef_crca (m : MethodId) (x0 : Addr) (x1 : Int32) : entryFrame m #[(.ref x0), (.int x1)] 2 = mkF m 0 #[.val (.ref x0), .val (.int x1)] [] := by first | (simp [entryFrame, mkF, argsToLocals, Value.category, maxLocals]; done) | rfl
theorem ef_cai_0 (m : MethodId) (x0 : Addr) (x2 : Addr) : entryFrame m #[(.ref x0), (.int 0), (.ref x2)] 5 = mkF m 0 #[.val (.ref x0), .val (.int 0), .val (.ref x2), .unset, .unset] [] := by first | (simp [entryFrame, mkF, argsToLocals, Value.category, maxLocals]; done) | rfl
theorem ef_cai_1_0 (m : MethodId) (x0 : Addr) (x2 : Addr) : entryFrame m #[(.ref x0), (.int 0), (.ref x2)] 5 = mkF m 0 #[.val (.ref x0), .val (.int 0), .val (.ref x2), .unset, .unset] [] := by first | (simp [entryFrame, mkF, argsToLocals, Value.category, maxLocals]; done) | rfl
theorem ef_cai_1_1 (m : MethodId) (x0 : Addr) (x2 : Addr) : entryFrame m #[(.ref x0), (.int 1), (.ref x2)] 5 = mkF m 0 #[.val (.ref x0), .val (.int 1), .val (.ref x2), .unset, .unset] [] := by first | (simp [entryFrame, mkF, argsToLocals, Value.category, maxLocals]; done) | rfl
theorem ef_csize (m : MethodId) (x0 : Addr) : entryFrame m #[(.ref x0)] 1 = mkF m 0 #[.val (.ref x0)] [] := by first | (simp [entryFrame, mkF, argsToLocals, Value.category, maxLocals]; done) | rfl
theorem ef_cpchk (m : MethodId) (x0 : Int32) (x1 : Int32) : entryFrame m #[(.int x0), (.int x1), .null] 3 = mkF m 0 #[.val (.int x0), .val (.int x1), .val .null] [] := by first | (simp [entryFrame, mkF, argsToLocals, Value.category, maxLocals]; done) | rfl
theorem ef_cochk (m : MethodId) (x0 : Int32) (x1 : Int32) : entryFrame m #[(.int x0), (.int x1)] 2 = mkF m 0 #[.val (.int x0), .val (.int x1)] [] := by first | (simp [entryFrame, mkF, argsToLocals, Value.category, maxLocals]; done) | rfl
theorem ef_ceda_1_0 (m : MethodId) (x0 : Addr) : entryFrame m #[(.ref x0), (.int 0)] 2 = mkF m 0 #[.val (.ref x0), .val (.int 0)] [] := by first | (simp [entryFrame, mkF, argsToLocals, Value.category, maxLocals]; done) | rfl
theorem ef_cget_1_0 (m : MethodId) (x0 : Addr) : entryFrame m #[(.ref x0), (.int 0)] 2 = mkF m 0 #[.val (.ref x0), .val (.int 0)] [] := by first | (simp [entryFrame, mkF, argsToLocals, Value.category, maxLocals]; done) | rfl
theorem ef_ceda_2_0 (m : MethodId) (x0 : Addr) : entryFrame m #[(.ref x0), (.int 0)] 2 = mkF m 0 #[.val (.ref x0), .val (.int 0)] [] := by first | (simp [entryFrame, mkF, argsToLocals, Value.category, maxLocals]; done) | rfl
theorem ef_cget_2_0 (m : MethodId) (x0 : Addr) : entryFrame m #[(.ref x0), (.int 0)] 2 = mkF m 0 #[.val (.ref x0), .val (.int 0)] [] := by first | (simp [entryFrame, mkF, argsToLocals, Value.category, maxLocals]; done) | rfl
theorem ef_ceda_2_1 (m : MethodId) (x0 : Addr) : entryFrame m #[(.ref x0), (.int 1)] 2 = mkF m 0 #[.val (.ref x0), .val (.int 1)] [] := by first | (simp [entryFrame, mkF, argsToLocals, Value.category, maxLocals]; done) | rfl
theorem ef_cget_2_1 (m : MethodId) (x0 : Addr) : entryFrame m #[(.ref x0), (.int 1)] 2 = mkF m 0 #[.val (.ref x0), .val (.int 1)] [] := by first | (simp [entryFrame, mkF, argsToLocals, Value.category, maxLocals]; done) | rfl
theorem ef_cold (m : MethodId) (x0 : Addr) (x1 : Int64) (x2 : Addr) (x3 : Int64) : entryFrame m #[(.ref x0), (.long x1), (.ref x2), (.long x3)] 6 = mkF m 0 #[.val (.ref x0), .val (.long x1), .second, .val (.ref x2), .val (.long x3), .second] [] := by first | (simp [entryFrame, mkF, argsToLocals, Value.category, maxLocals]; done) | rfl
theorem ef_cver0 (m : MethodId) (x0 : Addr) (x1 : Addr) : entryFrame m #[(.ref x0), (.ref x1), (.int 0)] 3 = mkF m 0 #[.val (.ref x0), .val (.ref x1), .val (.int 0)] [] := by first | (simp [entryFrame, mkF, argsToLocals, Value.category, maxLocals]; done) | rfl
theorem ef_cver1 (m : MethodId) (x0 : Addr) (x1 : Addr) : entryFrame m #[(.ref x0), (.ref x1), (.int 1)] 3 = mkF m 0 #[.val (.ref x0), .val (.ref x1), .val (.int 1)] [] := by first | (simp [entryFrame, mkF, argsToLocals, Value.category, maxLocals]; done) | rfl
theorem ef_cho0 (m : MethodId) (x0 : Addr) : entryFrame m #[(.ref x0)] 1 = mkF m 0 #[.val (.ref x0)] [] := by first | (simp [entryFrame, mkF, argsToLocals, Value.category, maxLocals]; done) | rfl
theorem ef_cho1 (m : MethodId) (x0 : Addr) : entryFrame m #[(.ref x0)] 1 = mkF m 0 #[.val (.ref x0)] [] := by first | (simp [entryFrame, mkF, argsToLocals, Value.category, maxLocals]; done) | rfl
theorem ef_ccn0 (m : MethodId) (x0 : Addr) : entryFrame m #[(.ref x0)] 1 = mkF m 0 #[.val (.ref x0)] [] := by first | (simp [entryFrame, mkF, argsToLocals, Value.category, maxLocals]; done) | rfl
theorem ef_ccn1 (m : MethodId) (x0 : Addr) : entryFrame m #[(.ref x0)] 1 = mkF m 0 #[.val (.ref x0)] [] := by first | (simp [entryFrame, mkF, argsToLocals, Value.category, maxLocals]; done) | rfl
theorem ef_coll0 (m : MethodId) (x0 : Addr) : entryFrame m #[(.ref x0)] 1 = mkF m 0 #[.val (.ref x0)] [] := by first | (simp [entryFrame, mkF, argsToLocals, Value.category, maxLocals]; done) | rfl
theorem ef_coll1 (m : MethodId) (x0 : Addr) : entryFrame m #[(.ref x0)] 1 = mkF m 0 #[.val (.ref x0)] [] := by first | (simp [entryFrame, mkF, argsToLocals, Value.category, maxLocals]; done) | rfl
theorem ef_cona0 (m : MethodId) (x0 : Addr) (x1 : Int64) : entryFrame m #[(.ref x0), (.long x1)] 6 = mkF m 0 #[.val (.ref x0), .val (.long x1), .second, .unset, .unset, .unset] [] := by first | (simp [entryFrame, mkF, argsToLocals, Value.category, maxLocals]; done) | rfl
theorem ef_cona_1_0 (m : MethodId) (x0 : Addr) (x1 : Int64) : entryFrame m #[(.ref x0), (.long x1)] 6 = mkF m 0 #[.val (.ref x0), .val (.long x1), .second, .unset, .unset, .unset] [] := by first | (simp [entryFrame, mkF, argsToLocals, Value.category, maxLocals]; done) | rfl
theorem ef_cona_1_1 (m : MethodId) (x0 : Addr) (x1 : Int64) : entryFrame m #[(.ref x0), (.long x1)] 6 = mkF m 0 #[.val (.ref x0), .val (.long x1), .second, .unset, .unset, .unset] [] := by first | (simp [entryFrame, mkF, argsToLocals, Value.category, maxLocals]; done) | rfl
theorem ef_cona_2_0 (m : MethodId) (x0 : Addr) (x1 : Int64) : entryFrame m #[(.ref x0), (.long x1)] 6 = mkF m 0 #[.val (.ref x0), .val (.long x1), .second, .unset, .unset, .unset] [] := by first | (simp [entryFrame, mkF, argsToLocals, Value.category, maxLocals]; done) | rfl
theorem ef_cona_2_1 (m : MethodId) (x0 : Addr) (x1 : Int64) : entryFrame m #[(.ref x0), (.long x1)] 6 = mkF m 0 #[.val (.ref x0), .val (.long x1), .second, .unset, .unset, .unset] [] := by first | (simp [entryFrame, mkF, argsToLocals, Value.category, maxLocals]; done) | rfl
theorem ef_cona_2_2 (m : MethodId) (x0 : Addr) (x1 : Int64) : entryFrame m #[(.ref x0), (.long x1)] 6 = mkF m 0 #[.val (.ref x0), .val (.long x1), .second, .unset, .unset, .unset] [] := by first | (simp [entryFrame, mkF, argsToLocals, Value.category, maxLocals]; done) | rfl
theorem ef_cw0 (m : MethodId) (x0 : Addr) (x1 : Int64) (x2 : Addr) : entryFrame m #[(.ref x0), (.long x1), (.ref x2)] 5 = mkF m 0 #[.val (.ref x0), .val (.long x1), .second, .val (.ref x2), .unset] [] := by first | (simp [entryFrame, mkF, argsToLocals, Value.category, maxLocals]; done) | rfl
theorem ef_cwAg (m : MethodId) (x0 : Addr) (x1 : Int64) (x2 : Addr) : entryFrame m #[(.ref x0), (.long x1), (.ref x2)] 5 = mkF m 0 #[.val (.ref x0), .val (.long x1), .second, .val (.ref x2), .unset] [] := by first | (simp [entryFrame, mkF, argsToLocals, Value.category, maxLocals]; done) | rfl
theorem ef_cwAe (m : MethodId) (x0 : Addr) (x1 : Int64) (x2 : Addr) : entryFrame m #[(.ref x0), (.long x1), (.ref x2)] 5 = mkF m 0 #[.val (.ref x0), .val (.long x1), .second, .val (.ref x2), .unset] [] := by first | (simp [entryFrame, mkF, argsToLocals, Value.category, maxLocals]; done) | rfl
theorem ef_cwAl (m : MethodId) (x0 : Addr) (x1 : Int64) (x2 : Addr) : entryFrame m #[(.ref x0), (.long x1), (.ref x2)] 5 = mkF m 0 #[.val (.ref x0), .val (.long x1), .second, .val (.ref x2), .unset] [] := by first | (simp [entryFrame, mkF, argsToLocals, Value.category, maxLocals]; done) | rfl
theorem ef_cwBg (m : MethodId) (x0 : Addr) (x1 : Int64) (x2 : Addr) : entryFrame m #[(.ref x0), (.long x1), (.ref x2)] 5 = mkF m 0 #[.val (.ref x0), .val (.long x1), .second, .val (.ref x2), .unset] [] := by first | (simp [entryFrame, mkF, argsToLocals, Value.category, maxLocals]; done) | rfl
theorem ef_cwBs (m : MethodId) (x0 : Addr) (x1 : Int64) (x2 : Addr) : entryFrame m #[(.ref x0), (.long x1), (.ref x2)] 5 = mkF m 0 #[.val (.ref x0), .val (.long x1), .second, .val (.ref x2), .unset] [] := by first | (simp [entryFrame, mkF, argsToLocals, Value.category, maxLocals]; done) | rfl
theorem ef_cwBn (m : MethodId) (x0 : Addr) (x1 : Int64) (x2 : Addr) : entryFrame m #[(.ref x0), (.long x1), (.ref x2)] 5 = mkF m 0 #[.val (.ref x0), .val (.long x1), .second, .val (.ref x2), .unset] [] := by first | (simp [entryFrame, mkF, argsToLocals, Value.category, maxLocals]; done) | rfl
theorem ef_cabs (m : MethodId) (x0 : Addr) : entryFrame m #[(.ref x0)] 1 = mkF m 0 #[.val (.ref x0)] [] := by first | (simp [entryFrame, mkF, argsToLocals, Value.category, maxLocals]; done) | rfl
theorem ef_csbi (m : MethodId) (x0 : Addr) (x1 : Addr) : entryFrame m #[(.ref x0), (.ref x1), (.int 0), (.int 1)] 4 = mkF m 0 #[.val (.ref x0), .val (.ref x1), .val (.int 0), .val (.int 1)] [] := by first | (simp [entryFrame, mkF, argsToLocals, Value.category, maxLocals]; done) | rfl
theorem ef_csrc (m : MethodId)  : entryFrame m #[(.int 0), (.int 1), (.int 2)] 3 = mkF m 0 #[.val (.int 0), .val (.int 1), .val (.int 2)] [] := by first | (simp [entryFrame, mkF, argsToLocals, Value.category, maxLocals]; done) | rfl
theorem ef_csub (m : MethodId) (x0 : Addr) : entryFrame m #[(.ref x0), (.int 0), (.int 1)] 3 = mkF m 0 #[.val (.ref x0), .val (.int 0), .val (.int 1)] [] := by first | (simp [entryFrame, mkF, argsToLocals, Value.category, maxLocals]; done) | rfl
theorem ef_ccfc (m : MethodId) (x0 : Addr) : entryFrame m #[(.ref x0)] 1 = mkF m 0 #[.val (.ref x0)] [] := by first | (simp [entryFrame, mkF, argsToLocals, Value.category, maxLocals]; done) | rfl
theorem ef_cssz (m : MethodId) (x0 : Addr) : entryFrame m #[(.ref x0)] 1 = mkF m 0 #[.val (.ref x0)] [] := by first | (simp [entryFrame, mkF, argsToLocals, Value.category, maxLocals]; done) | rfl
theorem ef_cshf (m : MethodId) (x0 : Addr) (x1 : Addr) : entryFrame m #[(.ref x0), (.ref x1), (.int 0), (.int 1)] 6 = mkF m 0 #[.val (.ref x0), .val (.ref x1), .val (.int 0), .val (.int 1), .unset, .unset] [] := by first | (simp [entryFrame, mkF, argsToLocals, Value.category, maxLocals]; done) | rfl
theorem ef_crmr (m : MethodId) (x0 : Addr) : entryFrame m #[(.ref x0), (.int 0), (.int 1)] 3 = mkF m 0 #[.val (.ref x0), .val (.int 0), .val (.int 1)] [] := by first | (simp [entryFrame, mkF, argsToLocals, Value.category, maxLocals]; done) | rfl
theorem ef_cusm (m : MethodId) (x0 : Addr) : entryFrame m #[(.ref x0), (.int (-1))] 3 = mkF m 0 #[.val (.ref x0), .val (.int (-1)), .unset] [] := by first | (simp [entryFrame, mkF, argsToLocals, Value.category, maxLocals]; done) | rfl
theorem ef_csrr (m : MethodId) (x0 : Addr) : entryFrame m #[(.ref x0), (.int 0), (.int 1)] 3 = mkF m 0 #[.val (.ref x0), .val (.int 0), .val (.int 1)] [] := by first | (simp [entryFrame, mkF, argsToLocals, Value.category, maxLocals]; done) | rfl
theorem ef_cclr (m : MethodId) (x0 : Addr) : entryFrame m #[(.ref x0)] 1 = mkF m 0 #[.val (.ref x0)] [] := by first | (simp [entryFrame, mkF, argsToLocals, Value.category, maxLocals]; done) | rfl
theorem ef_cfg0 (m : MethodId) (x0 : Addr) (x1 : Int64) : entryFrame m #[(.ref x0), (.long x1)] 4 = mkF m 0 #[.val (.ref x0), .val (.long x1), .second, .unset] [] := by first | (simp [entryFrame, mkF, argsToLocals, Value.category, maxLocals]; done) | rfl
theorem ef_cfgl (m : MethodId) (x0 : Addr) (x1 : Int64) : entryFrame m #[(.ref x0), (.long x1)] 4 = mkF m 0 #[.val (.ref x0), .val (.long x1), .second, .unset] [] := by first | (simp [entryFrame, mkF, argsToLocals, Value.category, maxLocals]; done) | rfl
theorem ef_cfg1 (m : MethodId) (x0 : Addr) (x1 : Int64) : entryFrame m #[(.ref x0), (.long x1)] 4 = mkF m 0 #[.val (.ref x0), .val (.long x1), .second, .unset] [] := by first | (simp [entryFrame, mkF, argsToLocals, Value.category, maxLocals]; done) | rfl
theorem ef_cfg2 (m : MethodId) (x0 : Addr) (x1 : Int64) : entryFrame m #[(.ref x0), (.long x1)] 4 = mkF m 0 #[.val (.ref x0), .val (.long x1), .second, .unset] [] := by first | (simp [entryFrame, mkF, argsToLocals, Value.category, maxLocals]; done) | rfl
theorem ef_cmaxJ (m : MethodId) (x0 : Int64) (x1 : Int64) : entryFrame m #[(.long x0), (.long x1)] 4 = mkF m 0 #[.val (.long x0), .second, .val (.long x1), .second] [] := by first | (simp [entryFrame, mkF, argsToLocals, Value.category, maxLocals]; done) | rfl
theorem ef_cvalueOf0 (m : MethodId)  : entryFrame m #[(.int 0)] 1 = mkF m 0 #[.val (.int 0)] [] := by first | (simp [entryFrame, mkF, argsToLocals, Value.category, maxLocals]; done) | rfl
theorem ef_cvalueOf1 (m : MethodId)  : entryFrame m #[(.int 1)] 1 = mkF m 0 #[.val (.int 1)] [] := by first | (simp [entryFrame, mkF, argsToLocals, Value.category, maxLocals]; done) | rfl
theorem ef_cvalueOf2 (m : MethodId)  : entryFrame m #[(.int 2)] 1 = mkF m 0 #[.val (.int 2)] [] := by first | (simp [entryFrame, mkF, argsToLocals, Value.category, maxLocals]; done) | rfl
theorem ef_law0 (m : MethodId) (x0 : Int32) (x1 : Int64) (x2 : Int64) (x3 : Int64) : entryFrame m #[(.int x0), (.long x1), (.long x2), (.long x3)] maxLocals = mkF m 0 #[.val (.int x0), .val (.long x1), .second, .val (.long x2), .second, .val (.long x3), .second, .unset, .unset, .unset, .unset, .unset, .unset, .unset, .unset, .unset, .unset, .unset, .unset, .unset] [] := by first | (simp [entryFrame, mkF, argsToLocals, Value.category, maxLocals]; done) | rfl
def own_max (a b : Int64) : Int64 := if a < b then b else a
theorem own_eqnl {a b : Int64} (h : a = b) : ¬ (b < a) := fun q => by subst h; exact absurd q (Int64.lt_irrefl)
theorem own_gtne {t : Int64} (h : (0 : Int64) < t) : ¬ (t = (0 : Int64)) := fun q => by subst q; exact absurd h (by decide)
section
variable {t1 t2 : Int64}
theorem own_mxGG (h : (0 : Int64) < t1) (q : t1 < t2) : own_max (0 : Int64) (own_max t1 t2) = t2 := by (have e0 : (0 : Int64).toInt = 0 := rfl; unfold own_max; (repeat' split) <;> simp only [Int64.lt_iff_toInt_lt, ← Int64.toInt_inj] at * <;> omega)
theorem own_mxGN (h : (0 : Int64) < t1) (q : ¬ t1 < t2) : own_max (0 : Int64) (own_max t1 t2) = t1 := by (have e0 : (0 : Int64).toInt = 0 := rfl; unfold own_max; (repeat' split) <;> simp only [Int64.lt_iff_toInt_lt, ← Int64.toInt_inj] at * <;> omega)
theorem own_mxEG (h : t1 = (0 : Int64)) (q : (0 : Int64) < t2) : own_max (0 : Int64) (own_max t1 t2) = t2 := by (have e0 : (0 : Int64).toInt = 0 := rfl; unfold own_max; (repeat' split) <;> simp only [Int64.lt_iff_toInt_lt, ← Int64.toInt_inj] at * <;> omega)
theorem own_mxEN (h : t1 = (0 : Int64)) (q : ¬ (0 : Int64) < t2) : own_max (0 : Int64) (own_max t1 t2) = (0 : Int64) := by (have e0 : (0 : Int64).toInt = 0 := rfl; unfold own_max; (repeat' split) <;> simp only [Int64.lt_iff_toInt_lt, ← Int64.toInt_inj] at * <;> omega)
theorem own_mxLG (h : ¬ (0 : Int64) < t1) (q : (0 : Int64) < t2) : own_max (0 : Int64) (own_max t1 t2) = t2 := by (have e0 : (0 : Int64).toInt = 0 := rfl; unfold own_max; (repeat' split) <;> simp only [Int64.lt_iff_toInt_lt, ← Int64.toInt_inj] at * <;> omega)
theorem own_mxLN (h : ¬ (0 : Int64) < t1) (q : ¬ (0 : Int64) < t2) : own_max (0 : Int64) (own_max t1 t2) = (0 : Int64) := by (have e0 : (0 : Int64).toInt = 0 := rfl; unfold own_max; (repeat' split) <;> simp only [Int64.lt_iff_toInt_lt, ← Int64.toInt_inj] at * <;> omega)
end
abbrev xS0 : String := "com/example/stampwise/stampwise/Versions"
abbrev xS1 : String := "java/util/ArrayList"
abbrev xS2 : String := "java/lang/Object"
abbrev xS3 : String := "com/example/stampwise/stampwise/Versions$Older"
abbrev xS4 : String := "java/util/ArrayList$SubList"
abbrev xS5 : String := "java/util/AbstractList"
abbrev xS6 : String := "[Ljava/lang/Object;"
abbrev xS7 : String := "elementData"
abbrev xS8 : String := "Ljava/util/List;"
abbrev xS9 : String := "Ljava/lang/Object;"
abbrev xS10 : String := "java/util/List"
abbrev xS11 : String := "newestWriteTimestamp"
abbrev xS12 : String := "newestReadTimestamp"
def Q_cac (Z : State) (o : Addr) (h0 : Heap) (vR : Option Value) (hR : Heap) (LR : List Loc) : Prop := vR = none ∧ Fr Z.heap.size LR ∧ hR = h0
theorem cac (l : Launch) (Z : State) (a0 : Array Value) (hw : ∀ d ∈ tables_1, d.before a0 Z = true) (o : Addr) (h0 : Heap) (O0 : Ext Z.heap h0) :
    Ctr l Z h0 (⟨"java/util/AbstractCollection", "<init>", "()V"⟩ : MethodName) k10 1 none [] ({ frames := 1, cells := 0, slots := 0, locals := 12 } : Room) #[(.ref o)] (Q_cac Z o h0) := by
  refine enter (plainFor_of_name pn0) ?_
  intro pp ee ss mm below meth cc s₁ hx hby hml hZ hown hnm hret hlk X0 e0 hs0
  replace hown : ss.vm.findClass "java/util/AbstractCollection" = some mm.cls := hown
  refine Go.cast (congrArg s₁.setTop (ef_cac mm o)) ?_
  have N0 := Fr.nil Z.heap.size
  show Go pp ee below _ (s₁.setTop (mkF mm 0 #[.val (.ref o)] []))
  refine Go.aloadN X0 hx (hb hby d10_0) rfl rfl (q := 1) rfl ?_
  refine Go.initO X0 hx hZ hown (wd63 hw) (wd14 hw) (wd15 hw) e0 (by rw [hml]; rfl) (hb hby d10_1) (by decide) (W := 0) (by exact Nat.le_refl _) (by decide) (q := 4) rfl ?_
  intro T101 X101 e101
  exact Go.retV X101 hx hret hlk (hb hby d10_4) e101 (by decide) (by decide) ⟨rfl, N0, rfl⟩
def Q_cabl (Z : State) (o : Addr) (h0 : Heap) (vR : Option Value) (hR : Heap) (LR : List Loc) : Prop := vR = none ∧ Fr Z.heap.size LR ∧ Keep h0 hR [o] ∧ Fld Z hR o xS1 xS7 xS6 .null ∧ Fld Z hR o xS1 "size" "I" (.int 0) ∧ Fld Z hR o xS5 "modCount" "I" (.int 0)
theorem cabl (l : Launch) (Z : State) (a0 : Array Value) (hw : ∀ d ∈ tables_1, d.before a0 Z = true) (o : Addr) (h0 : Heap) (O0 : Ext Z.heap h0) (Eo : Exa Z h0 o xS1) (g_o : Z.heap.size ≤ o) (F0 : Fld Z h0 o xS1 xS7 xS6 .null) (F1 : Fld Z h0 o xS1 "size" "I" (.int 0)) (F2 : Fld Z h0 o xS5 "modCount" "I" (.int 0)) :
    Ctr l Z h0 (⟨xS5, "<init>", "()V"⟩ : MethodName) k9 1 none [] ({ frames := 2, cells := 0, slots := 0, locals := 24 } : Room) #[(.ref o)] (Q_cabl Z o h0) := by
  refine enter (plainFor_of_name pn1) ?_
  intro pp ee ss mm below meth cc s₁ hx hby hml hZ hown hnm hret hlk X0 e0 hs0
  replace hown : ss.vm.findClass xS5 = some mm.cls := hown
  refine Go.cast (congrArg s₁.setTop (ef_cabl mm o)) ?_
  have N0 := Fr.nil Z.heap.size
  have KP := Keep.refl h0 [o]
  show Go pp ee below _ (s₁.setTop (mkF mm 0 #[.val (.ref o)] []))
  refine Go.aloadN X0 hx (hb hby d9_0) rfl rfl (q := 1) rfl ?_
  refine Go.init X0 hx hZ hown rfl (wd57 hw) (wd58 hw) (wd61 hw) (wd62 hw) (by decide) (cac l Z a0 hw o h0 O0) e0 (by rw [hml]; rfl) (hb hby d9_1) (argsL := []) (rest := []) (lenOf pd0 rfl) rfl rfl (W := 0) (by first | exact Nat.le_refl _ | decide) (by decide) (by decide) (by decide) (by decide) ?_
  intro v101 T101 L101 X101 hQ101
  obtain ⟨rfl, N101q, e101⟩ := hQ101
  have N101 := Fr.app N0 N101q
  refine Go.aloadN X101 hx (hb hby d9_4) rfl rfl (q := 5) rfl ?_
  refine Go.iconst X101 hx (hb hby d9_5) (r := (0 : Int32)) rfl (q := 6) rfl ?_
  refine Go.putF X101 hx hZ hown (host := "") (Or.inl (wd64 hw)) Via.refl e101 F2 Eo (Or.inl (wd65 hw)) (wd46 hw) (ty := .int) (by decide) rfl rfl (hb hby d9_6) (q := 9) rfl ?_
  intro T102 h102 X102 e102 W102 F102
  have N102 := Fr.snoc X102 N101 g_o
  replace Eo := Eo.wr W102
  replace F0 := F0.other W102 (Or.inr (slot_ne (Or.inl (wd68 hw)) (Or.inl (wd65 hw)) (by decide) (t := (.array (.object xS2))) (t' := .int) (by decide) (by decide)))
  replace F1 := F1.other W102 (Or.inr (slot_ne (Or.inl (wd94 hw)) (Or.inl (wd65 hw)) (by decide) (t := .int) (t' := .int) (by decide) (by decide)))
  have OW102 := ext_wr O0 W102 g_o
  replace KP := KP.wr W102 (Or.inl (List.mem_of_getElem? (i := 0) rfl))
  exact Go.retV X102 hx hret hlk (hb hby d9_9) e102 (by decide) (by decide) ⟨rfl, N102, KP, F0, F1, F102⟩
def Q_cali (Z : State) (o de : Addr) (h0 : Heap) (vR : Option Value) (hR : Heap) (LR : List Loc) : Prop := vR = none ∧ Fr Z.heap.size LR ∧ Keep h0 hR [o] ∧ Fld Z hR o xS1 xS7 xS6 (.ref de) ∧ Fld Z hR o xS1 "size" "I" (.int 0) ∧ Fld Z hR o xS5 "modCount" "I" (.int 0)
theorem cali (l : Launch) (Z : State) (a0 : Array Value) (hw : ∀ d ∈ tables_1, d.before a0 Z = true) (o de : Addr) (h0 : Heap) (O0 : Ext Z.heap h0) (Eo : Exa Z h0 o xS1) (g_o : Z.heap.size ≤ o) (F0 : Fld Z h0 o xS1 xS7 xS6 .null) (F1 : Fld Z h0 o xS1 "size" "I" (.int 0)) (F2 : Fld Z h0 o xS5 "modCount" "I" (.int 0)) (SD : Sta Z Z.heap xS1 "DEFAULTCAPACITY_EMPTY_ELEMENTDATA" xS6 (.ref de)) :
    Ctr l Z h0 (⟨xS1, "<init>", "()V"⟩ : MethodName) k8 1 none [] ({ frames := 3, cells := 0, slots := 0, locals := 36 } : Room) #[(.ref o)] (Q_cali Z o de h0) := by
  refine enter (plainFor_of_name pn2) ?_
  intro pp ee ss mm below meth cc s₁ hx hby hml hZ hown hnm hret hlk X0 e0 hs0
  replace hown : ss.vm.findClass xS1 = some mm.cls := hown
  refine Go.cast (congrArg s₁.setTop (ef_cali mm o)) ?_
  have N0 := Fr.nil Z.heap.size
  have KP := Keep.refl h0 [o]
  show Go pp ee below _ (s₁.setTop (mkF mm 0 #[.val (.ref o)] []))
  refine Go.aloadN X0 hx (hb hby d8_0) rfl rfl (q := 1) rfl ?_
  refine Go.init X0 hx hZ hown rfl (wd51 hw) (wd52 hw) (wd55 hw) (wd56 hw) (by decide) (cabl l Z a0 hw o h0 O0 Eo g_o F0 F1 F2) e0 (by rw [hml]; rfl) (hb hby d8_1) (argsL := []) (rest := []) (lenOf pd0 rfl) rfl rfl (W := 0) (by first | exact Nat.le_refl _ | decide) (by decide) (by decide) (by decide) (by decide) ?_
  intro v101 T101 L101 X101 hQ101
  obtain ⟨h101, e101⟩ : ∃ z, T101.heap = z := ⟨_, rfl⟩
  rw [e101] at hQ101
  obtain ⟨rfl, N101q, K101, P101_0, P101_1, P101_2⟩ := hQ101
  have N101 := Fr.app N0 N101q
  replace Eo := Eo.keep K101
  have OK101 := ext_keep O0 K101 (allS g_o all0)
  replace KP := KP.trans K101 (allS (Or.inl (List.mem_of_getElem? (i := 0) rfl)) all0)
  refine Go.aloadN X101 hx (hb hby d8_4) rfl rfl (q := 5) rfl ?_
  refine Go.getS X101 hx hZ hown (host := "") (Or.inl (wd66 hw)) Via.refl e101 (SD.ext OK101) (hb hby d8_5) (q := 8) rfl ?_
  intro T102 X102 e102
  refine Go.putF X102 hx hZ hown (host := "") (Or.inl (wd67 hw)) Via.refl e102 P101_0 Eo (Or.inl (wd68 hw)) (wd46 hw) (ty := (.array (.object xS2))) (by decide) rfl rfl (hb hby d8_8) (q := 11) rfl ?_
  intro T103 h103 X103 e103 W103 F103
  have N103 := Fr.snoc X103 N101 g_o
  replace Eo := Eo.wr W103
  replace P101_1 := P101_1.other W103 (Or.inr (slot_ne (Or.inl (wd94 hw)) (Or.inl (wd68 hw)) (by decide) (t := .int) (t' := (.array (.object xS2))) (by decide) (by decide)))
  replace P101_2 := P101_2.other W103 (Or.inr (slot_ne (Or.inl (wd65 hw)) (Or.inl (wd68 hw)) (by decide) (t := .int) (t' := (.array (.object xS2))) (by decide) (by decide)))
  have OW103 := ext_wr OK101 W103 g_o
  replace KP := KP.wr W103 (Or.inl (List.mem_of_getElem? (i := 0) rfl))
  exact Go.retV X103 hx hret hlk (hb hby d8_11) e103 (by decide) (by decide) ⟨rfl, N103, KP, F103, P101_1, P101_2⟩
def Q_cmaxI (Z : State) (pa pb : Int32) (h0 : Heap) (vR : Option Value) (hR : Heap) (LR : List Loc) : Prop := vR = some (.int pa) ∧ Fr Z.heap.size LR ∧ hR = h0
theorem cmaxI (l : Launch) (Z : State) (a0 : Array Value) (hw : ∀ d ∈ tables_1, d.before a0 Z = true) (pa pb : Int32) (h0 : Heap) (O0 : Ext Z.heap h0) (h : ¬ (pa < pb)) :
    Ctr l Z h0 (⟨"java/lang/Math", "max", "(II)I"⟩ : MethodName) k16 2 (some .int) [] ({ frames := 0, cells := 0, slots := 0, locals := 0 } : Room) #[(.int pa), (.int pb)] (Q_cmaxI Z pa pb h0) := by
  refine enter (Jvm.Free.JP.mathPlain rfl (by decide +kernel)) ?_
  intro pp ee ss mm below meth cc s₁ hx hby hml hZ hown hnm hret hlk X0 e0 hs0
  replace hown : ss.vm.findClass "java/lang/Math" = some mm.cls := hown
  refine Go.cast (congrArg s₁.setTop (ef_cmaxI mm pa pb)) ?_
  have N0 := Fr.nil Z.heap.size
  show Go pp ee below _ (s₁.setTop (mkF mm 0 #[.val (.int pa), .val (.int pb)] []))
  refine Go.iloadN X0 hx (hb hby d16_0) rfl (q := 1) rfl ?_
  refine Go.iloadN X0 hx (hb hby d16_1) rfl (q := 2) rfl ?_
  refine Go.icmpNo X0 hx (hb hby d16_2) (Jvm.Free.XT.ii_lt_f h) (q := 5) rfl ?_
  refine Go.iloadN X0 hx (hb hby d16_5) rfl (q := 6) rfl ?_
  refine Go.goto X0 hx (hb hby d16_6) (q := 10) (by decide) (by decide) ?_
  exact Go.retI X0 hx hret hlk (Or.inl rfl) rfl (hb hby d16_10) e0 (by decide) (by decide) ⟨rfl, N0, rfl⟩
def Q_cgroI (Z : State) (o de : Addr) (mc : Int32) (h0 : Heap) (vR : Option Value) (hR : Heap) (LR : List Loc) : Prop := ∃ d : Addr, ∃ kd : ClassId, vR = some (.ref d) ∧ Fr Z.heap.size LR ∧ Keep h0 hR [o] ∧ h0.size ≤ d ∧ Fld Z hR o xS1 xS7 xS6 (.ref d) ∧ Fld Z hR o xS1 "size" "I" (.int 0) ∧ Fld Z hR o xS5 "modCount" "I" (.int mc) ∧ Arv Z hR d kd (.object xS2) (10 : Int32) [.null, .null, .null, .null, .null, .null, .null, .null, .null, .null] .null ∧ Ovr Z kd xS2
theorem cgroI (l : Launch) (Z : State) (a0 : Array Value) (hw : ∀ d ∈ tables_1, d.before a0 Z = true) (o de : Addr) (mc : Int32) (h0 : Heap) (O0 : Ext Z.heap h0) (Eo : Exa Z h0 o xS1) (g_o : Z.heap.size ≤ o) (F0 : Fld Z h0 o xS1 xS7 xS6 (.ref de)) (F1 : Fld Z h0 o xS1 "size" "I" (.int 0)) (F2 : Fld Z h0 o xS5 "modCount" "I" (.int mc)) (SD : Sta Z Z.heap xS1 "DEFAULTCAPACITY_EMPTY_ELEMENTDATA" xS6 (.ref de)) (LD : Lng Z Z.heap de (0 : Int32)) :
    Ctr l Z h0 (⟨xS1, "grow", "(I)[Ljava/lang/Object;"⟩ : MethodName) k15 4 (some (.array (.object xS2))) [] ({ frames := 1, cells := 1, slots := 10, locals := 14 } : Room) #[(.ref o), (.int 1)] (Q_cgroI Z o de mc h0) := by
  refine enter (plainFor_of_name pn2) ?_
  intro pp ee ss mm below meth cc s₁ hx hby hml hZ hown hnm hret hlk X0 e0 hs0
  replace hown : ss.vm.findClass xS1 = some mm.cls := hown
  refine Go.cast (congrArg s₁.setTop (ef_cgroI mm o)) ?_
  have N0 := Fr.nil Z.heap.size
  have KP := Keep.refl h0 [o]
  show Go pp ee below _ (s₁.setTop (mkF mm 0 #[.val (.ref o), .val (.int 1), .unset, .unset] []))
  refine Go.aloadN X0 hx (hb hby d15_0) rfl rfl (q := 1) rfl ?_
  refine Go.getF X0 hx hZ hown (host := "") (Or.inl (wd67 hw)) Via.refl e0 F0 (hb hby d15_1) (q := 4) rfl ?_
  intro T101 X101 e101
  refine Go.aln X101 hx hZ e101 (LD.ext O0) (hb hby d15_4) ?_
  refine Go.istoreN X101 hx (hb hby d15_5) (l' := #[.val (.ref o), .val (.int 1), .val (.int 0), .unset]) rfl (q := 6) rfl ?_
  refine Go.iloadN X101 hx (hb hby d15_6) rfl (q := 7) rfl ?_
  refine Go.ifNo X101 hx (hb hby d15_7) (by decide) (q := 10) rfl ?_
  refine Go.aloadN X101 hx (hb hby d15_10) rfl rfl (q := 11) rfl ?_
  refine Go.getF X101 hx hZ hown (host := "") (Or.inl (wd67 hw)) Via.refl e101 F0 (hb hby d15_11) (q := 14) rfl ?_
  intro T102 X102 e102
  refine Go.getS X102 hx hZ hown (host := "") (Or.inl (wd66 hw)) Via.refl e102 (SD.ext O0) (hb hby d15_14) (q := 17) rfl ?_
  intro T103 X103 e103
  refine Go.acmp X103 hx rfl rfl (hb hby d15_17) (same := true) (decide_eq_true rfl) (q := 45) (by decide) (by decide) ?_
  refine Go.aloadN X103 hx (hb hby d15_45) rfl rfl (q := 46) rfl ?_
  refine Go.bipush X103 hx (hb hby d15_46) (r := (10 : Int32)) rfl (q := 48) rfl ?_
  refine Go.iloadN X103 hx (hb hby d15_48) rfl (q := 49) rfl ?_
  refine Go.callS X103 hx hZ hown (wd110 hw) (wd111 hw) (wd112 hw) (wd113 hw) (by decide) (cmaxI l Z a0 hw ((10 : Int32)) ((1 : Int32)) h0 O0 (by decide)) e103 (by rw [hml]; rfl) (hb hby d15_49) (argsL := [(.int 10), (.int 1)]) (rest := [(.ref o)]) (lenOf pd1 rfl) rfl rfl (W := 1) (by first | exact Nat.le_refl _ | decide) (by decide) (by decide) (by decide) (by decide) ?_
  intro v104 T104 L104 X104 hQ104
  obtain ⟨rfl, N104q, e104⟩ := hQ104
  have N104 := Fr.app N0 N104q
  refine Go.newR X104 hx hZ hown (wd114 hw) (wd115 hw) (hb hby d15_52) e104 (by decide) (cap := 10) (by decide) (by decide) (by decide) (by decide) (ad := xS6) rfl (q := 55) rfl ?_
  intro b105 T105 h105 k105 X105 e105 q105 E105 V105 B105 Ov105
  have ne_o_b105 : o ≠ b105 := ne_new Eo.lt (Nat.le_of_eq q105)
  have g_b105 : Z.heap.size ≤ b105 := Nat.le_trans O0.1 (Nat.le_of_eq q105)
  have z_b105 : h0.size ≤ b105 := Nat.le_trans KP.1 (Nat.le_of_eq q105)
  replace Eo := Eo.ext E105
  replace F0 := F0.ext E105
  replace F1 := F1.ext E105
  replace F2 := F2.ext E105
  have OE105 := ext_trans O0 E105
  replace KP := KP.ext E105
  replace V105 : Arv Z h105 b105 k105 (.object xS2) (10 : Int32) [.null, .null, .null, .null, .null, .null, .null, .null, .null, .null] .null := V105.pad (pad_rep [] .null 10)
  refine Go.dup_x1 X105 hx (hb hby d15_55) rfl rfl (q := 56) rfl ?_
  refine Go.putF X105 hx hZ hown (host := "") (Or.inl (wd67 hw)) Via.refl e105 F0 Eo (Or.inl (wd68 hw)) (wd46 hw) (ty := (.array (.object xS2))) (by decide) rfl rfl (hb hby d15_56) (q := 59) rfl ?_
  intro T106 h106 X106 e106 W106 F106
  have N106 := Fr.snoc X106 N104 g_o
  replace Eo := Eo.wr W106
  replace F1 := F1.other W106 (Or.inr (slot_ne (Or.inl (wd94 hw)) (Or.inl (wd68 hw)) (by decide) (t := .int) (t' := (.array (.object xS2))) (by decide) (by decide)))
  replace F2 := F2.other W106 (Or.inr (slot_ne (Or.inl (wd65 hw)) (Or.inl (wd68 hw)) (by decide) (t := .int) (t' := (.array (.object xS2))) (by decide) (by decide)))
  replace B105 := B105.wr W106
  replace V105 := V105.other W106 (Ne.symm ne_o_b105)
  have OW106 := ext_wr OE105 W106 g_o
  replace KP := KP.wr W106 (Or.inl (List.mem_of_getElem? (i := 0) rfl))
  exact Go.retA X106 hx hret hlk rfl rfl (hb hby d15_59) e106 (by decide) (by decide) ⟨b105, k105, rfl, N106, KP, z_b105, F106, F1, F2, V105, Ov105⟩
def Q_cgro (Z : State) (o de : Addr) (mc : Int32) (h0 : Heap) (vR : Option Value) (hR : Heap) (LR : List Loc) : Prop := ∃ d : Addr, ∃ kd : ClassId, vR = some (.ref d) ∧ Fr Z.heap.size LR ∧ Keep h0 hR [o] ∧ h0.size ≤ d ∧ Fld Z hR o xS1 xS7 xS6 (.ref d) ∧ Fld Z hR o xS1 "size" "I" (.int 0) ∧ Fld Z hR o xS5 "modCount" "I" (.int mc) ∧ Arv Z hR d kd (.object xS2) (10 : Int32) [.null, .null, .null, .null, .null, .null, .null, .null, .null, .null] .null ∧ Ovr Z kd xS2
theorem cgro (l : Launch) (Z : State) (a0 : Array Value) (hw : ∀ d ∈ tables_1, d.before a0 Z = true) (o de : Addr) (mc : Int32) (h0 : Heap) (O0 : Ext Z.heap h0) (Eo : Exa Z h0 o xS1) (g_o : Z.heap.size ≤ o) (F0 : Fld Z h0 o xS1 xS7 xS6 (.ref de)) (F1 : Fld Z h0 o xS1 "size" "I" (.int 0)) (F2 : Fld Z h0 o xS5 "modCount" "I" (.int mc)) (SD : Sta Z Z.heap xS1 "DEFAULTCAPACITY_EMPTY_ELEMENTDATA" xS6 (.ref de)) (LD : Lng Z Z.heap de (0 : Int32)) :
    Ctr l Z h0 (⟨xS1, "grow", "()[Ljava/lang/Object;"⟩ : MethodName) k14 1 (some (.array (.object xS2))) [] ({ frames := 2, cells := 1, slots := 10, locals := 29 } : Room) #[(.ref o)] (Q_cgro Z o de mc h0) := by
  refine enter (plainFor_of_name pn2) ?_
  intro pp ee ss mm below meth cc s₁ hx hby hml hZ hown hnm hret hlk X0 e0 hs0
  replace hown : ss.vm.findClass xS1 = some mm.cls := hown
  refine Go.cast (congrArg s₁.setTop (ef_cgro mm o)) ?_
  have N0 := Fr.nil Z.heap.size
  have KP := Keep.refl h0 [o]
  show Go pp ee below _ (s₁.setTop (mkF mm 0 #[.val (.ref o)] []))
  refine Go.aloadN X0 hx (hb hby d14_0) rfl rfl (q := 1) rfl ?_
  refine Go.aloadN X0 hx (hb hby d14_1) rfl rfl (q := 2) rfl ?_
  refine Go.getF X0 hx hZ hown (host := "") (Or.inl (wd93 hw)) Via.refl e0 F1 (hb hby d14_2) (q := 5) rfl ?_
  intro T101 X101 e101
  refine Go.iconst X101 hx (hb hby d14_5) (r := (1 : Int32)) rfl (q := 6) rfl ?_
  refine Go.iadd X101 hx (hb hby d14_6) (r := (1 : Int32)) rfl (q := 7) rfl ?_
  refine Go.priv X101 hx hZ hown (wd105 hw) (wd106 hw) (wd108 hw) (wd107 hw) (wd47 hw) (wd109 hw) (by decide) (cgroI l Z a0 hw o de mc h0 O0 Eo g_o F0 F1 F2 SD LD) e101 Eo (by rw [hml]; rfl) (hb hby d14_7) (argsL := [(.int 1)]) (rest := []) (lenOf pd2 rfl) rfl rfl (W := 0) (by first | exact Nat.le_refl _ | decide) (by decide) (by decide) (by decide) (by decide) ?_
  intro v102 T102 L102 X102 hQ102
  obtain ⟨h102, e102⟩ : ∃ z, T102.heap = z := ⟨_, rfl⟩
  rw [e102] at hQ102
  obtain ⟨d_102, kd_102, rfl, N102q, K102, fr102_d, P102_0, P102_1, P102_2, P102_3, P102_4⟩ := hQ102
  have N102 := Fr.app N0 N102q
  have ne_o_d_102 : o ≠ d_102 := ne_new Eo.lt fr102_d
  have g_d_102 : Z.heap.size ≤ d_102 := Nat.le_trans O0.1 fr102_d
  have z_d_102 : h0.size ≤ d_102 := Nat.le_trans KP.1 fr102_d
  replace Eo := Eo.keep K102
  have OK102 := ext_keep O0 K102 (allS g_o all0)
  replace KP := KP.trans K102 (allS (Or.inl (List.mem_of_getElem? (i := 0) rfl)) all0)
  exact Go.retA X102 hx hret hlk rfl rfl (hb hby d14_10) e102 (by decide) (by decide) ⟨d_102, kd_102, rfl, N102, KP, z_d_102, P102_0, P102_1, P102_2, P102_3, P102_4⟩
def Q_cad3_0 (Z : State) (o x de : Addr) (mc : Int32) (h0 : Heap) (vR : Option Value) (hR : Heap) (LR : List Loc) : Prop := ∃ d : Addr, ∃ kd : ClassId, vR = none ∧ Fr Z.heap.size LR ∧ Keep h0 hR [o] ∧ h0.size ≤ d ∧ Fld Z hR o xS1 xS7 xS6 (.ref d) ∧ Fld Z hR o xS1 "size" "I" (.int 1) ∧ Fld Z hR o xS5 "modCount" "I" (.int mc) ∧ Arv Z hR d kd (.object xS2) (10 : Int32) [(.ref x), .null, .null, .null, .null, .null, .null, .null, .null, .null] .null ∧ Ovr Z kd xS2
theorem cad3_0 (l : Launch) (Z : State) (a0 : Array Value) (hw : ∀ d ∈ tables_1, d.before a0 Z = true) (o x de : Addr) (mc : Int32) (h0 : Heap) (O0 : Ext Z.heap h0) (Eo : Exa Z h0 o xS1) (g_o : Z.heap.size ≤ o) (F0 : Fld Z h0 o xS1 xS7 xS6 (.ref de)) (F1 : Fld Z h0 o xS1 "size" "I" (.int 0)) (F2 : Fld Z h0 o xS5 "modCount" "I" (.int mc)) (Ex : Exa Z h0 x xS3) (SD : Sta Z Z.heap xS1 "DEFAULTCAPACITY_EMPTY_ELEMENTDATA" xS6 (.ref de)) (LD : Lng Z Z.heap de (0 : Int32)) :
    Ctr l Z h0 (⟨xS1, "add", "(Ljava/lang/Object;[Ljava/lang/Object;I)V"⟩ : MethodName) k13 4 none [] ({ frames := 3, cells := 1, slots := 10, locals := 41 } : Room) #[(.ref o), (.ref x), (.ref de), (.int 0)] (Q_cad3_0 Z o x de mc h0) := by
  refine enter (plainFor_of_name pn2) ?_
  intro pp ee ss mm below meth cc s₁ hx hby hml hZ hown hnm hret hlk X0 e0 hs0
  replace hown : ss.vm.findClass xS1 = some mm.cls := hown
  refine Go.cast (congrArg s₁.setTop (ef_cad3_0 mm o x de)) ?_
  have N0 := Fr.nil Z.heap.size
  have KP := Keep.refl h0 [o]
  show Go pp ee below _ (s₁.setTop (mkF mm 0 #[.val (.ref o), .val (.ref x), .val (.ref de), .val (.int 0)] []))
  refine Go.iloadN X0 hx (hb hby d13_0) rfl (q := 1) rfl ?_
  refine Go.aloadN X0 hx (hb hby d13_1) rfl rfl (q := 2) rfl ?_
  refine Go.aln X0 hx hZ e0 (LD.ext O0) (hb hby d13_2) ?_
  refine Go.icmpNo X0 hx (hb hby d13_3) (by decide) (q := 6) rfl ?_
  refine Go.aloadN X0 hx (hb hby d13_6) rfl rfl (q := 7) rfl ?_
  refine Go.priv X0 hx hZ hown (wd100 hw) (wd101 hw) (wd103 hw) (wd102 hw) (wd47 hw) (wd104 hw) (by decide) (cgro l Z a0 hw o de mc h0 O0 Eo g_o F0 F1 F2 SD LD) e0 Eo (by rw [hml]; rfl) (hb hby d13_7) (argsL := []) (rest := []) (lenOf pd3 rfl) rfl rfl (W := 0) (by first | exact Nat.le_refl _ | decide) (by decide) (by decide) (by decide) (by decide) ?_
  intro v101 T101 L101 X101 hQ101
  obtain ⟨h101, e101⟩ : ∃ z, T101.heap = z := ⟨_, rfl⟩
  rw [e101] at hQ101
  obtain ⟨d_101, kd_101, rfl, N101q, K101, fr101_d, P101_0, P101_1, P101_2, P101_3, P101_4⟩ := hQ101
  have N101 := Fr.app N0 N101q
  have ne_o_d_101 : o ≠ d_101 := ne_new Eo.lt fr101_d
  have ne_x_d_101 : x ≠ d_101 := ne_new Ex.lt fr101_d
  have g_d_101 : Z.heap.size ≤ d_101 := Nat.le_trans O0.1 fr101_d
  have z_d_101 : h0.size ≤ d_101 := Nat.le_trans KP.1 fr101_d
  replace Eo := Eo.keep K101
  replace Ex := Ex.keep K101
  have OK101 := ext_keep O0 K101 (allS g_o all0)
  replace KP := KP.trans K101 (allS (Or.inl (List.mem_of_getElem? (i := 0) rfl)) all0)
  refine Go.astoreN X101 hx (hb hby d13_10) rfl (l' := #[.val (.ref o), .val (.ref x), .val (.ref d_101), .val (.int 0)]) rfl (q := 11) rfl ?_
  refine Go.aloadN X101 hx (hb hby d13_11) rfl rfl (q := 12) rfl ?_
  refine Go.iloadN X101 hx (hb hby d13_12) rfl (q := 13) rfl ?_
  refine Go.aloadN X101 hx (hb hby d13_13) rfl rfl (q := 14) rfl ?_
  refine Go.rst X101 hx hZ e101 P101_3 rfl (Sto.ofArv P101_3 P101_4 (Ins.of_exa Ex (wd116 hw))) rfl ⟨by decide, by decide⟩ (i := 0) rfl (Nat.le_of_ble_eq_true rfl) (hb hby d13_14) ?_
  intro T102 h102 X102 e102 W102 V102
  replace V102 : Arv Z h102 d_101 kd_101 (.object xS2) (10 : Int32) [(.ref x), .null, .null, .null, .null, .null, .null, .null, .null, .null] .null := V102
  have N102 := Fr.snoc X102 N101 g_d_101
  replace Eo := Eo.wr W102
  replace Ex := Ex.wr W102
  replace P101_0 := P101_0.other W102 (Or.inl ne_o_d_101)
  replace P101_1 := P101_1.other W102 (Or.inl ne_o_d_101)
  replace P101_2 := P101_2.other W102 (Or.inl ne_o_d_101)
  have OW102 := ext_wr OK101 W102 g_d_101
  replace KP := KP.wr W102 (Or.inr z_d_101)
  refine Go.aloadN X102 hx (hb hby d13_15) rfl rfl (q := 16) rfl ?_
  refine Go.iloadN X102 hx (hb hby d13_16) rfl (q := 17) rfl ?_
  refine Go.iconst X102 hx (hb hby d13_17) (r := (1 : Int32)) rfl (q := 18) rfl ?_
  refine Go.iadd X102 hx (hb hby d13_18) (r := (1 : Int32)) rfl (q := 19) rfl ?_
  refine Go.putF X102 hx hZ hown (host := "") (Or.inl (wd93 hw)) Via.refl e102 P101_1 Eo (Or.inl (wd94 hw)) (wd46 hw) (ty := .int) (by decide) rfl rfl (hb hby d13_19) (q := 22) rfl ?_
  intro T103 h103 X103 e103 W103 F103
  have N103 := Fr.snoc X103 N102 g_o
  replace Eo := Eo.wr W103
  replace Ex := Ex.wr W103
  replace P101_0 := P101_0.other W103 (Or.inr (slot_ne (Or.inl (wd68 hw)) (Or.inl (wd94 hw)) (by decide) (t := (.array (.object xS2))) (t' := .int) (by decide) (by decide)))
  replace P101_2 := P101_2.other W103 (Or.inr (slot_ne (Or.inl (wd65 hw)) (Or.inl (wd94 hw)) (by decide) (t := .int) (t' := .int) (by decide) (by decide)))
  replace V102 := V102.other W103 (Ne.symm ne_o_d_101)
  have OW103 := ext_wr OW102 W103 g_o
  replace KP := KP.wr W103 (Or.inl (List.mem_of_getElem? (i := 0) rfl))
  exact Go.retV X103 hx hret hlk (hb hby d13_22) e103 (by decide) (by decide) ⟨d_101, kd_101, rfl, N103, KP, z_d_101, P101_0, F103, P101_2, V102, P101_4⟩
def Q_cad3_1 (Z : State) (o x d x0 : Addr) (mc : Int32) (kd : ClassId) (h0 : Heap) (vR : Option Value) (hR : Heap) (LR : List Loc) : Prop := vR = none ∧ Fr Z.heap.size LR ∧ Keep h0 hR [o, d] ∧ Fld Z hR o xS1 xS7 xS6 (.ref d) ∧ Fld Z hR o xS1 "size" "I" (.int 2) ∧ Fld Z hR o xS5 "modCount" "I" (.int mc) ∧ Arv Z hR d kd (.object xS2) (10 : Int32) [(.ref x0), (.ref x), .null, .null, .null, .null, .null, .null, .null, .null] .null
theorem cad3_1 (l : Launch) (Z : State) (a0 : Array Value) (hw : ∀ d ∈ tables_1, d.before a0 Z = true) (o x d x0 : Addr) (mc : Int32) (kd : ClassId) (h0 : Heap) (O0 : Ext Z.heap h0) (Eo : Exa Z h0 o xS1) (g_o : Z.heap.size ≤ o) (F0 : Fld Z h0 o xS1 xS7 xS6 (.ref d)) (F1 : Fld Z h0 o xS1 "size" "I" (.int 1)) (F2 : Fld Z h0 o xS5 "modCount" "I" (.int mc)) (F3 : Arv Z h0 d kd (.object xS2) (10 : Int32) [(.ref x0), .null, .null, .null, .null, .null, .null, .null, .null, .null] .null) (Ex : Exa Z h0 x xS3) (g_d : Z.heap.size ≤ d) (n_o_d : o ≠ d) (ov : Ovr Z kd xS2) :
    Ctr l Z h0 (⟨xS1, "add", "(Ljava/lang/Object;[Ljava/lang/Object;I)V"⟩ : MethodName) k13 4 none [] ({ frames := 0, cells := 0, slots := 0, locals := 0 } : Room) #[(.ref o), (.ref x), (.ref d), (.int 1)] (Q_cad3_1 Z o x d x0 mc kd h0) := by
  refine enter (plainFor_of_name pn2) ?_
  intro pp ee ss mm below meth cc s₁ hx hby hml hZ hown hnm hret hlk X0 e0 hs0
  replace hown : ss.vm.findClass xS1 = some mm.cls := hown
  refine Go.cast (congrArg s₁.setTop (ef_cad3_1 mm o x d)) ?_
  have N0 := Fr.nil Z.heap.size
  have KP := Keep.refl h0 [o, d]
  show Go pp ee below _ (s₁.setTop (mkF mm 0 #[.val (.ref o), .val (.ref x), .val (.ref d), .val (.int 1)] []))
  refine Go.iloadN X0 hx (hb hby d13_0) rfl (q := 1) rfl ?_
  refine Go.aloadN X0 hx (hb hby d13_1) rfl rfl (q := 2) rfl ?_
  refine Go.alen X0 hx hZ e0 F3 (hb hby d13_2) ?_
  refine Go.icmpYes X0 hx (hb hby d13_3) (by decide) (q := 11) (by decide) (by decide) ?_
  refine Go.aloadN X0 hx (hb hby d13_11) rfl rfl (q := 12) rfl ?_
  refine Go.iloadN X0 hx (hb hby d13_12) rfl (q := 13) rfl ?_
  refine Go.aloadN X0 hx (hb hby d13_13) rfl rfl (q := 14) rfl ?_
  refine Go.rst X0 hx hZ e0 F3 rfl (Sto.ofArv F3 ov (Ins.of_exa Ex (wd116 hw))) rfl ⟨by decide, by decide⟩ (i := 1) rfl (Nat.le_of_ble_eq_true rfl) (hb hby d13_14) ?_
  intro T101 h101 X101 e101 W101 V101
  replace V101 : Arv Z h101 d kd (.object xS2) (10 : Int32) [(.ref x0), (.ref x), .null, .null, .null, .null, .null, .null, .null, .null] .null := V101
  have N101 := Fr.snoc X101 N0 g_d
  replace Eo := Eo.wr W101
  replace F0 := F0.other W101 (Or.inl n_o_d)
  replace F1 := F1.other W101 (Or.inl n_o_d)
  replace F2 := F2.other W101 (Or.inl n_o_d)
  replace Ex := Ex.wr W101
  have OW101 := ext_wr O0 W101 g_d
  replace KP := KP.wr W101 (Or.inl (List.mem_of_getElem? (i := 1) rfl))
  refine Go.aloadN X101 hx (hb hby d13_15) rfl rfl (q := 16) rfl ?_
  refine Go.iloadN X101 hx (hb hby d13_16) rfl (q := 17) rfl ?_
  refine Go.iconst X101 hx (hb hby d13_17) (r := (1 : Int32)) rfl (q := 18) rfl ?_
  refine Go.iadd X101 hx (hb hby d13_18) (r := (2 : Int32)) rfl (q := 19) rfl ?_
  refine Go.putF X101 hx hZ hown (host := "") (Or.inl (wd93 hw)) Via.refl e101 F1 Eo (Or.inl (wd94 hw)) (wd46 hw) (ty := .int) (by decide) rfl rfl (hb hby d13_19) (q := 22) rfl ?_
  intro T102 h102 X102 e102 W102 F102
  have N102 := Fr.snoc X102 N101 g_o
  replace Eo := Eo.wr W102
  replace F0 := F0.other W102 (Or.inr (slot_ne (Or.inl (wd68 hw)) (Or.inl (wd94 hw)) (by decide) (t := (.array (.object xS2))) (t' := .int) (by decide) (by decide)))
  replace F2 := F2.other W102 (Or.inr (slot_ne (Or.inl (wd65 hw)) (Or.inl (wd94 hw)) (by decide) (t := .int) (t' := .int) (by decide) (by decide)))
  replace Ex := Ex.wr W102
  replace V101 := V101.other W102 (Ne.symm n_o_d)
  have OW102 := ext_wr OW101 W102 g_o
  replace KP := KP.wr W102 (Or.inl (List.mem_of_getElem? (i := 0) rfl))
  exact Go.retV X102 hx hret hlk (hb hby d13_22) e102 (by decide) (by decide) ⟨rfl, N102, KP, F0, F102, F2, V101⟩
def Q_cadd_0 (Z : State) (o x de : Addr) (mc : Int32) (h0 : Heap) (vR : Option Value) (hR : Heap) (LR : List Loc) : Prop := ∃ d : Addr, ∃ kd : ClassId, vR = some (.int 1) ∧ Fr Z.heap.size LR ∧ Keep h0 hR [o] ∧ h0.size ≤ d ∧ Fld Z hR o xS1 xS7 xS6 (.ref d) ∧ Fld Z hR o xS1 "size" "I" (.int 1) ∧ Fld Z hR o xS5 "modCount" "I" (.int (mc + (1 : Int32))) ∧ Arv Z hR d kd (.object xS2) (10 : Int32) [(.ref x), .null, .null, .null, .null, .null, .null, .null, .null, .null] .null ∧ Ovr Z kd xS2
theorem cadd_0 (l : Launch) (Z : State) (a0 : Array Value) (hw : ∀ d ∈ tables_1, d.before a0 Z = true) (o x de : Addr) (mc : Int32) (h0 : Heap) (O0 : Ext Z.heap h0) (Eo : Exa Z h0 o xS1) (g_o : Z.heap.size ≤ o) (F0 : Fld Z h0 o xS1 xS7 xS6 (.ref de)) (F1 : Fld Z h0 o xS1 "size" "I" (.int 0)) (F2 : Fld Z h0 o xS5 "modCount" "I" (.int mc)) (Ex : Exa Z h0 x xS3) (SD : Sta Z Z.heap xS1 "DEFAULTCAPACITY_EMPTY_ELEMENTDATA" xS6 (.ref de)) (LD : Lng Z Z.heap de (0 : Int32)) :
    Ctr l Z h0 (⟨xS1, "add", "(Ljava/lang/Object;)Z"⟩ : MethodName) k12 2 (some .boolean) [] ({ frames := 4, cells := 1, slots := 10, locals := 56 } : Room) #[(.ref o), (.ref x)] (Q_cadd_0 Z o x de mc h0) := by
  refine enter (plainFor_of_name pn2) ?_
  intro pp ee ss mm below meth cc s₁ hx hby hml hZ hown hnm hret hlk X0 e0 hs0
  replace hown : ss.vm.findClass xS1 = some mm.cls := hown
  refine Go.cast (congrArg s₁.setTop (ef_cadd_0 mm o x)) ?_
  have N0 := Fr.nil Z.heap.size
  have KP := Keep.refl h0 [o]
  show Go pp ee below _ (s₁.setTop (mkF mm 0 #[.val (.ref o), .val (.ref x)] []))
  refine Go.aloadN X0 hx (hb hby d12_0) rfl rfl (q := 1) rfl ?_
  refine Go.dup X0 hx (hb hby d12_1) rfl (q := 2) rfl ?_
  refine Go.getF X0 hx hZ hown (host := "") (Or.inl (wd91 hw)) (Via.of (wd92 hw)) e0 F2 (hb hby d12_2) (q := 5) rfl ?_
  intro T101 X101 e101
  refine Go.iconst X101 hx (hb hby d12_5) (r := (1 : Int32)) rfl (q := 6) rfl ?_
  refine Go.iadd X101 hx (hb hby d12_6) rfl (q := 7) rfl ?_
  refine Go.putF X101 hx hZ hown (host := "") (Or.inl (wd91 hw)) (Via.of (wd92 hw)) e101 F2 Eo (Or.inl (wd65 hw)) (wd46 hw) (ty := .int) (by decide) rfl rfl (hb hby d12_7) (q := 10) rfl ?_
  intro T102 h102 X102 e102 W102 F102
  have N102 := Fr.snoc X102 N0 g_o
  replace Eo := Eo.wr W102
  replace F0 := F0.other W102 (Or.inr (slot_ne (Or.inl (wd68 hw)) (Or.inl (wd65 hw)) (by decide) (t := (.array (.object xS2))) (t' := .int) (by decide) (by decide)))
  replace F1 := F1.other W102 (Or.inr (slot_ne (Or.inl (wd94 hw)) (Or.inl (wd65 hw)) (by decide) (t := .int) (t' := .int) (by decide) (by decide)))
  replace Ex := Ex.wr W102
  have OW102 := ext_wr O0 W102 g_o
  replace KP := KP.wr W102 (Or.inl (List.mem_of_getElem? (i := 0) rfl))
  refine Go.aloadN X102 hx (hb hby d12_10) rfl rfl (q := 11) rfl ?_
  refine Go.aloadN X102 hx (hb hby d12_11) rfl rfl (q := 12) rfl ?_
  refine Go.aloadN X102 hx (hb hby d12_12) rfl rfl (q := 13) rfl ?_
  refine Go.getF X102 hx hZ hown (host := "") (Or.inl (wd67 hw)) Via.refl e102 F0 (hb hby d12_13) (q := 16) rfl ?_
  intro T103 X103 e103
  refine Go.aloadN X103 hx (hb hby d12_16) rfl rfl (q := 17) rfl ?_
  refine Go.getF X103 hx hZ hown (host := "") (Or.inl (wd93 hw)) Via.refl e103 F1 (hb hby d12_17) (q := 20) rfl ?_
  intro T104 X104 e104
  refine Go.priv X104 hx hZ hown (wd95 hw) (wd96 hw) (wd98 hw) (wd97 hw) (wd47 hw) (wd99 hw) (by decide) (cad3_0 l Z a0 hw o x de ((mc + (1 : Int32))) h102 OW102 Eo g_o F0 F1 F102 Ex SD LD) e104 Eo (by rw [hml]; rfl) (hb hby d12_20) (argsL := [(.ref x), (.ref de), (.int 0)]) (rest := []) (lenOf pd4 rfl) rfl rfl (W := 0) (by first | exact Nat.le_refl _ | decide) (by decide) (by decide) (by decide) (by decide) ?_
  intro v105 T105 L105 X105 hQ105
  obtain ⟨h105, e105⟩ : ∃ z, T105.heap = z := ⟨_, rfl⟩
  rw [e105] at hQ105
  obtain ⟨d_105, kd_105, rfl, N105q, K105, fr105_d, P105_0, P105_1, P105_2, P105_3, P105_4⟩ := hQ105
  have N105 := Fr.app N102 N105q
  have ne_o_d_105 : o ≠ d_105 := ne_new Eo.lt fr105_d
  have ne_x_d_105 : x ≠ d_105 := ne_new Ex.lt fr105_d
  have g_d_105 : Z.heap.size ≤ d_105 := Nat.le_trans OW102.1 fr105_d
  have z_d_105 : h0.size ≤ d_105 := Nat.le_trans KP.1 fr105_d
  replace Eo := Eo.keep K105
  replace Ex := Ex.keep K105
  have OK105 := ext_keep OW102 K105 (allS g_o all0)
  replace KP := KP.trans K105 (allS (Or.inl (List.mem_of_getElem? (i := 0) rfl)) all0)
  refine Go.iconst X105 hx (hb hby d12_23) (r := (1 : Int32)) rfl (q := 24) rfl ?_
  exact Go.retI X105 hx hret hlk (by simp) rfl (hb hby d12_24) e105 (by decide) (by decide) ⟨d_105, kd_105, rfl, N105, KP, z_d_105, P105_0, P105_1, P105_2, P105_3, P105_4⟩
def Q_cadd_1 (Z : State) (o x d x0 : Addr) (mc : Int32) (kd : ClassId) (h0 : Heap) (vR : Option Value) (hR : Heap) (LR : List Loc) : Prop := vR = some (.int 1) ∧ Fr Z.heap.size LR ∧ Keep h0 hR [o, d] ∧ Fld Z hR o xS1 xS7 xS6 (.ref d) ∧ Fld Z hR o xS1 "size" "I" (.int 2) ∧ Fld Z hR o xS5 "modCount" "I" (.int (mc + (1 : Int32))) ∧ Arv Z hR d kd (.object xS2) (10 : Int32) [(.ref x0), (.ref x), .null, .null, .null, .null, .null, .null, .null, .null] .null
theorem cadd_1 (l : Launch) (Z : State) (a0 : Array Value) (hw : ∀ d ∈ tables_1, d.before a0 Z = true) (o x d x0 : Addr) (mc : Int32) (kd : ClassId) (h0 : Heap) (O0 : Ext Z.heap h0) (Eo : Exa Z h0 o xS1) (g_o : Z.heap.size ≤ o) (F0 : Fld Z h0 o xS1 xS7 xS6 (.ref d)) (F1 : Fld Z h0 o xS1 "size" "I" (.int 1)) (F2 : Fld Z h0 o xS5 "modCount" "I" (.int mc)) (F3 : Arv Z h0 d kd (.object xS2) (10 : Int32) [(.ref x0), .null, .null, .null, .null, .null, .null, .null, .null, .null] .null) (Ex : Exa Z h0 x xS3) (g_d : Z.heap.size ≤ d) (n_o_d : o ≠ d) (ov : Ovr Z kd xS2) :
    Ctr l Z h0 (⟨xS1, "add", "(Ljava/lang/Object;)Z"⟩ : MethodName) k12 2 (some .boolean) [] ({ frames := 1, cells := 0, slots := 0, locals := 15 } : Room) #[(.ref o), (.ref x)] (Q_cadd_1 Z o x d x0 mc kd h0) := by
  refine enter (plainFor_of_name pn2) ?_
  intro pp ee ss mm below meth cc s₁ hx hby hml hZ hown hnm hret hlk X0 e0 hs0
  replace hown : ss.vm.findClass xS1 = some mm.cls := hown
  refine Go.cast (congrArg s₁.setTop (ef_cadd_1 mm o x)) ?_
  have N0 := Fr.nil Z.heap.size
  have KP := Keep.refl h0 [o, d]
  show Go pp ee below _ (s₁.setTop (mkF mm 0 #[.val (.ref o), .val (.ref x)] []))
  refine Go.aloadN X0 hx (hb hby d12_0) rfl rfl (q := 1) rfl ?_
  refine Go.dup X0 hx (hb hby d12_1) rfl (q := 2) rfl ?_
  refine Go.getF X0 hx hZ hown (host := "") (Or.inl (wd91 hw)) (Via.of (wd92 hw)) e0 F2 (hb hby d12_2) (q := 5) rfl ?_
  intro T101 X101 e101
  refine Go.iconst X101 hx (hb hby d12_5) (r := (1 : Int32)) rfl (q := 6) rfl ?_
  refine Go.iadd X101 hx (hb hby d12_6) rfl (q := 7) rfl ?_
  refine Go.putF X101 hx hZ hown (host := "") (Or.inl (wd91 hw)) (Via.of (wd92 hw)) e101 F2 Eo (Or.inl (wd65 hw)) (wd46 hw) (ty := .int) (by decide) rfl rfl (hb hby d12_7) (q := 10) rfl ?_
  intro T102 h102 X102 e102 W102 F102
  have N102 := Fr.snoc X102 N0 g_o
  replace Eo := Eo.wr W102
  replace F0 := F0.other W102 (Or.inr (slot_ne (Or.inl (wd68 hw)) (Or.inl (wd65 hw)) (by decide) (t := (.array (.object xS2))) (t' := .int) (by decide) (by decide)))
  replace F1 := F1.other W102 (Or.inr (slot_ne (Or.inl (wd94 hw)) (Or.inl (wd65 hw)) (by decide) (t := .int) (t' := .int) (by decide) (by decide)))
  replace F3 := F3.other W102 (Ne.symm n_o_d)
  replace Ex := Ex.wr W102
  have OW102 := ext_wr O0 W102 g_o
  replace KP := KP.wr W102 (Or.inl (List.mem_of_getElem? (i := 0) rfl))
  refine Go.aloadN X102 hx (hb hby d12_10) rfl rfl (q := 11) rfl ?_
  refine Go.aloadN X102 hx (hb hby d12_11) rfl rfl (q := 12) rfl ?_
  refine Go.aloadN X102 hx (hb hby d12_12) rfl rfl (q := 13) rfl ?_
  refine Go.getF X102 hx hZ hown (host := "") (Or.inl (wd67 hw)) Via.refl e102 F0 (hb hby d12_13) (q := 16) rfl ?_
  intro T103 X103 e103
  refine Go.aloadN X103 hx (hb hby d12_16) rfl rfl (q := 17) rfl ?_
  refine Go.getF X103 hx hZ hown (host := "") (Or.inl (wd93 hw)) Via.refl e103 F1 (hb hby d12_17) (q := 20) rfl ?_
  intro T104 X104 e104
  refine Go.priv X104 hx hZ hown (wd95 hw) (wd96 hw) (wd98 hw) (wd97 hw) (wd47 hw) (wd99 hw) (by decide) (cad3_1 l Z a0 hw o x d x0 ((mc + (1 : Int32))) (kd) h102 OW102 Eo g_o F0 F1 F102 F3 Ex g_d n_o_d ov) e104 Eo (by rw [hml]; rfl) (hb hby d12_20) (argsL := [(.ref x), (.ref d), (.int 1)]) (rest := []) (lenOf pd4 rfl) rfl rfl (W := 0) (by first | exact Nat.le_refl _ | decide) (by decide) (by decide) (by decide) (by decide) ?_
  intro v105 T105 L105 X105 hQ105
  obtain ⟨h105, e105⟩ : ∃ z, T105.heap = z := ⟨_, rfl⟩
  rw [e105] at hQ105
  obtain ⟨rfl, N105q, K105, P105_0, P105_1, P105_2, P105_3⟩ := hQ105
  have N105 := Fr.app N102 N105q
  replace Eo := Eo.keep K105
  replace Ex := Ex.keep K105
  have OK105 := ext_keep OW102 K105 (allS g_o (allS g_d all0))
  replace KP := KP.trans K105 (allS (Or.inl (List.mem_of_getElem? (i := 0) rfl)) (allS (Or.inl (List.mem_of_getElem? (i := 1) rfl)) all0))
  refine Go.iconst X105 hx (hb hby d12_23) (r := (1 : Int32)) rfl (q := 24) rfl ?_
  exact Go.retI X105 hx hret hlk (by simp) rfl (hb hby d12_24) e105 (by decide) (by decide) ⟨rfl, N105, KP, P105_0, P105_1, P105_2, P105_3⟩
def Q_crca (Z : State) (o : Addr) (i nn : Int32) (h0 : Heap) (vR : Option Value) (hR : Heap) (LR : List Loc) : Prop := vR = none ∧ Fr Z.heap.size LR ∧ hR = h0
theorem crca (l : Launch) (Z : State) (a0 : Array Value) (hw : ∀ d ∈ tables_1, d.before a0 Z = true) (o : Addr) (i nn : Int32) (h0 : Heap) (O0 : Ext Z.heap h0) (Fs : Fld Z h0 o xS1 "size" "I" (.int nn)) (h1 : ¬ (nn < i)) (h2 : ¬ (i < (0 : Int32))) :
    Ctr l Z h0 (⟨xS1, "rangeCheckForAdd", "(I)V"⟩ : MethodName) k26 2 none [] ({ frames := 0, cells := 0, slots := 0, locals := 0 } : Room) #[(.ref o), (.int i)] (Q_crca Z o i nn h0) := by
  refine enter (plainFor_of_name pn2) ?_
  intro pp ee ss mm below meth cc s₁ hx hby hml hZ hown hnm hret hlk X0 e0 hs0
  replace hown : ss.vm.findClass xS1 = some mm.cls := hown
  refine Go.cast (congrArg s₁.setTop (ef_crca mm o i)) ?_
  have N0 := Fr.nil Z.heap.size
  show Go pp ee below _ (s₁.setTop (mkF mm 0 #[.val (.ref o), .val (.int i)] []))
  refine Go.iloadN X0 hx (hb hby d26_0) rfl (q := 1) rfl ?_
  refine Go.aloadN X0 hx (hb hby d26_1) rfl rfl (q := 2) rfl ?_
  refine Go.getF X0 hx hZ hown (host := "") (Or.inl (wd93 hw)) Via.refl e0 Fs (hb hby d26_2) (q := 5) rfl ?_
  intro T101 X101 e101
  refine Go.icmpNo X101 hx (hb hby d26_5) (Jvm.Free.XT.ii_gt_f h1) (q := 8) rfl ?_
  refine Go.iloadN X101 hx (hb hby d26_8) rfl (q := 9) rfl ?_
  refine Go.ifYes X101 hx (hb hby d26_9) (Jvm.Free.XT.i0_ge_t h2) (q := 25) (by decide) (by decide) ?_
  exact Go.retV X101 hx hret hlk (hb hby d26_25) e101 (by decide) (by decide) ⟨rfl, N0, rfl⟩
def Q_cai_0 (Z : State) (o x de : Addr) (mc : Int32) (h0 : Heap) (vR : Option Value) (hR : Heap) (LR : List Loc) : Prop := ∃ d : Addr, ∃ kd : ClassId, vR = none ∧ Fr Z.heap.size LR ∧ Keep h0 hR [o] ∧ h0.size ≤ d ∧ Fld Z hR o xS1 xS7 xS6 (.ref d) ∧ Fld Z hR o xS1 "size" "I" (.int 1) ∧ Fld Z hR o xS5 "modCount" "I" (.int (mc + (1 : Int32))) ∧ Arv Z hR d kd (.object xS2) (10 : Int32) [(.ref x), .null, .null, .null, .null, .null, .null, .null, .null, .null] .null ∧ Ovr Z kd xS2
theorem cai_0 (l : Launch) (Z : State) (a0 : Array Value) (hw : ∀ d ∈ tables_1, d.before a0 Z = true) (o x de : Addr) (mc : Int32) (h0 : Heap) (O0 : Ext Z.heap h0) (Eo : Exa Z h0 o xS1) (g_o : Z.heap.size ≤ o) (F0 : Fld Z h0 o xS1 xS7 xS6 (.ref de)) (F1 : Fld Z h0 o xS1 "size" "I" (.int 0)) (F2 : Fld Z h0 o xS5 "modCount" "I" (.int mc)) (Ex : Exa Z h0 x xS3) (SD : Sta Z Z.heap xS1 "DEFAULTCAPACITY_EMPTY_ELEMENTDATA" xS6 (.ref de)) (LD : Lng Z Z.heap de (0 : Int32)) :
    Ctr l Z h0 (⟨xS1, "add", "(ILjava/lang/Object;)V"⟩ : MethodName) k25 5 none [] ({ frames := 3, cells := 1, slots := 10, locals := 41 } : Room) #[(.ref o), (.int 0), (.ref x)] (Q_cai_0 Z o x de mc h0) := by
  refine enter (plainFor_of_name pn2) ?_
  intro pp ee ss mm below meth cc s₁ hx hby hml hZ hown hnm hret hlk X0 e0 hs0
  replace hown : ss.vm.findClass xS1 = some mm.cls := hown
  refine Go.cast (congrArg s₁.setTop (ef_cai_0 mm o x)) ?_
  have N0 := Fr.nil Z.heap.size
  have KP := Keep.refl h0 [o]
  show Go pp ee below _ (s₁.setTop (mkF mm 0 #[.val (.ref o), .val (.int 0), .val (.ref x), .unset, .unset] []))
  refine Go.aloadN X0 hx (hb hby d25_0) rfl rfl (q := 1) rfl ?_
  refine Go.iloadN X0 hx (hb hby d25_1) rfl (q := 2) rfl ?_
  refine Go.priv X0 hx hZ hown (wd168 hw) (wd169 hw) (wd171 hw) (wd170 hw) (wd47 hw) (wd172 hw) (by decide) (crca l Z a0 hw o ((0 : Int32)) ((0 : Int32)) h0 O0 F1 (by decide) (by decide)) e0 Eo (by rw [hml]; rfl) (hb hby d25_2) (argsL := [(.int 0)]) (rest := []) (lenOf pd5 rfl) rfl rfl (W := 0) (by first | exact Nat.le_refl _ | decide) (by decide) (by decide) (by decide) (by decide) ?_
  intro v101 T101 L101 X101 hQ101
  obtain ⟨rfl, N101q, e101⟩ := hQ101
  have N101 := Fr.app N0 N101q
  refine Go.aloadN X101 hx (hb hby d25_5) rfl rfl (q := 6) rfl ?_
  refine Go.dup X101 hx (hb hby d25_6) rfl (q := 7) rfl ?_
  refine Go.getF X101 hx hZ hown (host := "") (Or.inl (wd91 hw)) (Via.of (wd92 hw)) e101 F2 (hb hby d25_7) (q := 10) rfl ?_
  intro T102 X102 e102
  refine Go.iconst X102 hx (hb hby d25_10) (r := (1 : Int32)) rfl (q := 11) rfl ?_
  refine Go.iadd X102 hx (hb hby d25_11) rfl (q := 12) rfl ?_
  refine Go.putF X102 hx hZ hown (host := "") (Or.inl (wd91 hw)) (Via.of (wd92 hw)) e102 F2 Eo (Or.inl (wd65 hw)) (wd46 hw) (ty := .int) (by decide) rfl rfl (hb hby d25_12) (q := 15) rfl ?_
  intro T103 h103 X103 e103 W103 F103
  have N103 := Fr.snoc X103 N101 g_o
  replace Eo := Eo.wr W103
  replace F0 := F0.other W103 (Or.inr (slot_ne (Or.inl (wd68 hw)) (Or.inl (wd65 hw)) (by decide) (t := (.array (.object xS2))) (t' := .int) (by decide) (by decide)))
  replace F1 := F1.other W103 (Or.inr (slot_ne (Or.inl (wd94 hw)) (Or.inl (wd65 hw)) (by decide) (t := .int) (t' := .int) (by decide) (by decide)))
  replace Ex := Ex.wr W103
  have OW103 := ext_wr O0 W103 g_o
  replace KP := KP.wr W103 (Or.inl (List.mem_of_getElem? (i := 0) rfl))
  refine Go.aloadN X103 hx (hb hby d25_15) rfl rfl (q := 16) rfl ?_
  refine Go.getF X103 hx hZ hown (host := "") (Or.inl (wd93 hw)) Via.refl e103 F1 (hb hby d25_16) (q := 19) rfl ?_
  intro T104 X104 e104
  refine Go.dup X104 hx (hb hby d25_19) rfl (q := 20) rfl ?_
  refine Go.istoreN X104 hx (hb hby d25_20) (l' := #[.val (.ref o), .val (.int 0), .val (.ref x), .val (.int 0), .unset]) rfl (q := 21) rfl ?_
  refine Go.aloadN X104 hx (hb hby d25_21) rfl rfl (q := 22) rfl ?_
  refine Go.getF X104 hx hZ hown (host := "") (Or.inl (wd67 hw)) Via.refl e104 F0 (hb hby d25_22) (q := 25) rfl ?_
  intro T105 X105 e105
  refine Go.dup X105 hx (hb hby d25_25) rfl (q := 26) rfl ?_
  refine Go.astore X105 hx (hb hby d25_26) rfl (l' := #[.val (.ref o), .val (.int 0), .val (.ref x), .val (.int 0), .val (.ref de)]) rfl (q := 28) rfl ?_
  refine Go.aln X105 hx hZ e105 (LD.ext OW103) (hb hby d25_28) ?_
  refine Go.icmpNo X105 hx (hb hby d25_29) (by decide) (q := 32) rfl ?_
  refine Go.aloadN X105 hx (hb hby d25_32) rfl rfl (q := 33) rfl ?_
  refine Go.priv X105 hx hZ hown (wd100 hw) (wd101 hw) (wd103 hw) (wd102 hw) (wd47 hw) (wd104 hw) (by decide) (cgro l Z a0 hw o de ((mc + (1 : Int32))) h103 OW103 Eo g_o F0 F1 F103 SD LD) e105 Eo (by rw [hml]; rfl) (hb hby d25_33) (argsL := []) (rest := []) (lenOf pd3 rfl) rfl rfl (W := 0) (by first | exact Nat.le_refl _ | decide) (by decide) (by decide) (by decide) (by decide) ?_
  intro v106 T106 L106 X106 hQ106
  obtain ⟨h106, e106⟩ : ∃ z, T106.heap = z := ⟨_, rfl⟩
  rw [e106] at hQ106
  obtain ⟨d_106, kd_106, rfl, N106q, K106, fr106_d, P106_0, P106_1, P106_2, P106_3, P106_4⟩ := hQ106
  have N106 := Fr.app N103 N106q
  have ne_o_d_106 : o ≠ d_106 := ne_new Eo.lt fr106_d
  have ne_x_d_106 : x ≠ d_106 := ne_new Ex.lt fr106_d
  have g_d_106 : Z.heap.size ≤ d_106 := Nat.le_trans OW103.1 fr106_d
  have z_d_106 : h0.size ≤ d_106 := Nat.le_trans KP.1 fr106_d
  replace Eo := Eo.keep K106
  replace Ex := Ex.keep K106
  have OK106 := ext_keep OW103 K106 (allS g_o all0)
  replace KP := KP.trans K106 (allS (Or.inl (List.mem_of_getElem? (i := 0) rfl)) all0)
  refine Go.astore X106 hx (hb hby d25_36) rfl (l' := #[.val (.ref o), .val (.int 0), .val (.ref x), .val (.int 0), .val (.ref d_106)]) rfl (q := 38) rfl ?_
  refine Go.aload X106 hx (hb hby d25_38) rfl rfl (q := 40) rfl ?_
  refine Go.iloadN X106 hx (hb hby d25_40) rfl (q := 41) rfl ?_
  refine Go.aload X106 hx (hb hby d25_41) rfl rfl (q := 43) rfl ?_
  refine Go.iloadN X106 hx (hb hby d25_43) rfl (q := 44) rfl ?_
  refine Go.iconst X106 hx (hb hby d25_44) (r := (1 : Int32)) rfl (q := 45) rfl ?_
  refine Go.iadd X106 hx (hb hby d25_45) (r := (1 : Int32)) rfl (q := 46) rfl ?_
  refine Go.iloadN X106 hx (hb hby d25_46) rfl (q := 47) rfl ?_
  refine Go.iloadN X106 hx (hb hby d25_47) rfl (q := 48) rfl ?_
  refine Go.isub X106 hx (hb hby d25_48) (r := (0 : Int32)) rfl (q := 49) rfl ?_
  obtain ⟨T107, h107, L107, X107, e107, N107, K107, V107, st107⟩ := cpA X106 hx hZ hown (wd173 hw) (wd176 hw) (wd174 hw) (wd175 hw) e106 P106_3 P106_3 (us := []) (sp := (0 : Int32)) (dp := (1 : Int32)) (nn := (0 : Int32)) (Or.inr ⟨rfl, rfl, trivial⟩) (by decide) (by decide) (by decide) (by decide) (by decide) rfl (Nat.le_of_ble_eq_true rfl) N106 g_d_106 (g := (mkF mm 49 #[.val (.ref o), .val (.int 0), .val (.ref x), .val (.int 0), .val (.ref d_106)] [(.int 0), (.int 1), (.ref d_106), (.int 0), (.ref d_106)])) rfl (by rw [hml]; rfl) rfl (hb hby d25_49) (by decide) (W := 0) (by show 2 * 0 + _ ≤ _; exact Nat.le_of_eq rfl) (by decide)
  refine Go.by st107 ?_
  replace Eo := Eo.keep K107
  replace Ex := Ex.keep K107
  replace P106_0 := P106_0.keep K107 (ninS ne_o_d_106 nin0)
  replace P106_1 := P106_1.keep K107 (ninS ne_o_d_106 nin0)
  replace P106_2 := P106_2.keep K107 (ninS ne_o_d_106 nin0)
  have OK107 := ext_keep OK106 K107 (allS g_d_106 all0)
  replace KP := KP.trans K107 (allS (Or.inr z_d_106) all0)
  replace V107 : Arv Z h107 d_106 kd_106 (.object xS2) (10 : Int32) [.null, .null, .null, .null, .null, .null, .null, .null, .null, .null] .null := V107
  show Go pp ee below _ (T107.setTop (mkF mm 52 #[.val (.ref o), .val (.int 0), .val (.ref x), .val (.int 0), .val (.ref d_106)] []))
  refine Go.aload X107 hx (hb hby d25_52) rfl rfl (q := 54) rfl ?_
  refine Go.iloadN X107 hx (hb hby d25_54) rfl (q := 55) rfl ?_
  refine Go.aloadN X107 hx (hb hby d25_55) rfl rfl (q := 56) rfl ?_
  refine Go.rst X107 hx hZ e107 V107 rfl (Sto.ofArv V107 P106_4 (Ins.of_exa Ex (wd116 hw))) rfl ⟨by decide, by decide⟩ (i := 0) rfl (Nat.le_of_ble_eq_true rfl) (hb hby d25_56) ?_
  intro T108 h108 X108 e108 W108 V108
  replace V108 : Arv Z h108 d_106 kd_106 (.object xS2) (10 : Int32) [(.ref x), .null, .null, .null, .null, .null, .null, .null, .null, .null] .null := V108
  have N108 := Fr.snoc X108 N107 g_d_106
  replace Eo := Eo.wr W108
  replace Ex := Ex.wr W108
  replace P106_0 := P106_0.other W108 (Or.inl ne_o_d_106)
  replace P106_1 := P106_1.other W108 (Or.inl ne_o_d_106)
  replace P106_2 := P106_2.other W108 (Or.inl ne_o_d_106)
  have OW108 := ext_wr OK107 W108 g_d_106
  replace KP := KP.wr W108 (Or.inr z_d_106)
  refine Go.aloadN X108 hx (hb hby d25_57) rfl rfl (q := 58) rfl ?_
  refine Go.iloadN X108 hx (hb hby d25_58) rfl (q := 59) rfl ?_
  refine Go.iconst X108 hx (hb hby d25_59) (r := (1 : Int32)) rfl (q := 60) rfl ?_
  refine Go.iadd X108 hx (hb hby d25_60) (r := (1 : Int32)) rfl (q := 61) rfl ?_
  refine Go.putF X108 hx hZ hown (host := "") (Or.inl (wd93 hw)) Via.refl e108 P106_1 Eo (Or.inl (wd94 hw)) (wd46 hw) (ty := .int) (by decide) rfl rfl (hb hby d25_61) (q := 64) rfl ?_
  intro T109 h109 X109 e109 W109 F109
  have N109 := Fr.snoc X109 N108 g_o
  replace Eo := Eo.wr W109
  replace Ex := Ex.wr W109
  replace P106_0 := P106_0.other W109 (Or.inr (slot_ne (Or.inl (wd68 hw)) (Or.inl (wd94 hw)) (by decide) (t := (.array (.object xS2))) (t' := .int) (by decide) (by decide)))
  replace P106_2 := P106_2.other W109 (Or.inr (slot_ne (Or.inl (wd65 hw)) (Or.inl (wd94 hw)) (by decide) (t := .int) (t' := .int) (by decide) (by decide)))
  replace V108 := V108.other W109 (Ne.symm ne_o_d_106)
  have OW109 := ext_wr OW108 W109 g_o
  replace KP := KP.wr W109 (Or.inl (List.mem_of_getElem? (i := 0) rfl))
  exact Go.retV X109 hx hret hlk (hb hby d25_64) e109 (by decide) (by decide) ⟨d_106, kd_106, rfl, N109, KP, z_d_106, P106_0, F109, P106_2, V108, P106_4⟩
def Q_cai_1_0 (Z : State) (o x d x0 : Addr) (mc : Int32) (kd : ClassId) (h0 : Heap) (vR : Option Value) (hR : Heap) (LR : List Loc) : Prop := vR = none ∧ Fr Z.heap.size LR ∧ Keep h0 hR [o, d] ∧ Fld Z hR o xS1 xS7 xS6 (.ref d) ∧ Fld Z hR o xS1 "size" "I" (.int 2) ∧ Fld Z hR o xS5 "modCount" "I" (.int (mc + (1 : Int32))) ∧ Arv Z hR d kd (.object xS2) (10 : Int32) [(.ref x), (.ref x0), .null, .null, .null, .null, .null, .null, .null, .null] .null
theorem cai_1_0 (l : Launch) (Z : State) (a0 : Array Value) (hw : ∀ d ∈ tables_1, d.before a0 Z = true) (o x d x0 : Addr) (mc : Int32) (kd : ClassId) (h0 : Heap) (O0 : Ext Z.heap h0) (Eo : Exa Z h0 o xS1) (g_o : Z.heap.size ≤ o) (F0 : Fld Z h0 o xS1 xS7 xS6 (.ref d)) (F1 : Fld Z h0 o xS1 "size" "I" (.int 1)) (F2 : Fld Z h0 o xS5 "modCount" "I" (.int mc)) (F3 : Arv Z h0 d kd (.object xS2) (10 : Int32) [(.ref x0), .null, .null, .null, .null, .null, .null, .null, .null, .null] .null) (Ex : Exa Z h0 x xS3) (g_d : Z.heap.size ≤ d) (n_o_d : o ≠ d) (Ex0 : Exa Z h0 x0 xS3) (ov : Ovr Z kd xS2) :
    Ctr l Z h0 (⟨xS1, "add", "(ILjava/lang/Object;)V"⟩ : MethodName) k25 5 none [] ({ frames := 1, cells := 0, slots := 0, locals := 18 } : Room) #[(.ref o), (.int 0), (.ref x)] (Q_cai_1_0 Z o x d x0 mc kd h0) := by
  refine enter (plainFor_of_name pn2) ?_
  intro pp ee ss mm below meth cc s₁ hx hby hml hZ hown hnm hret hlk X0 e0 hs0
  replace hown : ss.vm.findClass xS1 = some mm.cls := hown
  refine Go.cast (congrArg s₁.setTop (ef_cai_1_0 mm o x)) ?_
  have N0 := Fr.nil Z.heap.size
  have KP := Keep.refl h0 [o, d]
  show Go pp ee below _ (s₁.setTop (mkF mm 0 #[.val (.ref o), .val (.int 0), .val (.ref x), .unset, .unset] []))
  refine Go.aloadN X0 hx (hb hby d25_0) rfl rfl (q := 1) rfl ?_
  refine Go.iloadN X0 hx (hb hby d25_1) rfl (q := 2) rfl ?_
  refine Go.priv X0 hx hZ hown (wd168 hw) (wd169 hw) (wd171 hw) (wd170 hw) (wd47 hw) (wd172 hw) (by decide) (crca l Z a0 hw o ((0 : Int32)) ((1 : Int32)) h0 O0 F1 (by decide) (by decide)) e0 Eo (by rw [hml]; rfl) (hb hby d25_2) (argsL := [(.int 0)]) (rest := []) (lenOf pd5 rfl) rfl rfl (W := 0) (by first | exact Nat.le_refl _ | decide) (by decide) (by decide) (by decide) (by decide) ?_
  intro v101 T101 L101 X101 hQ101
  obtain ⟨rfl, N101q, e101⟩ := hQ101
  have N101 := Fr.app N0 N101q
  refine Go.aloadN X101 hx (hb hby d25_5) rfl rfl (q := 6) rfl ?_
  refine Go.dup X101 hx (hb hby d25_6) rfl (q := 7) rfl ?_
  refine Go.getF X101 hx hZ hown (host := "") (Or.inl (wd91 hw)) (Via.of (wd92 hw)) e101 F2 (hb hby d25_7) (q := 10) rfl ?_
  intro T102 X102 e102
  refine Go.iconst X102 hx (hb hby d25_10) (r := (1 : Int32)) rfl (q := 11) rfl ?_
  refine Go.iadd X102 hx (hb hby d25_11) rfl (q := 12) rfl ?_
  refine Go.putF X102 hx hZ hown (host := "") (Or.inl (wd91 hw)) (Via.of (wd92 hw)) e102 F2 Eo (Or.inl (wd65 hw)) (wd46 hw) (ty := .int) (by decide) rfl rfl (hb hby d25_12) (q := 15) rfl ?_
  intro T103 h103 X103 e103 W103 F103
  have N103 := Fr.snoc X103 N101 g_o
  replace Eo := Eo.wr W103
  replace F0 := F0.other W103 (Or.inr (slot_ne (Or.inl (wd68 hw)) (Or.inl (wd65 hw)) (by decide) (t := (.array (.object xS2))) (t' := .int) (by decide) (by decide)))
  replace F1 := F1.other W103 (Or.inr (slot_ne (Or.inl (wd94 hw)) (Or.inl (wd65 hw)) (by decide) (t := .int) (t' := .int) (by decide) (by decide)))
  replace F3 := F3.other W103 (Ne.symm n_o_d)
  replace Ex := Ex.wr W103
  replace Ex0 := Ex0.wr W103
  have OW103 := ext_wr O0 W103 g_o
  replace KP := KP.wr W103 (Or.inl (List.mem_of_getElem? (i := 0) rfl))
  refine Go.aloadN X103 hx (hb hby d25_15) rfl rfl (q := 16) rfl ?_
  refine Go.getF X103 hx hZ hown (host := "") (Or.inl (wd93 hw)) Via.refl e103 F1 (hb hby d25_16) (q := 19) rfl ?_
  intro T104 X104 e104
  refine Go.dup X104 hx (hb hby d25_19) rfl (q := 20) rfl ?_
  refine Go.istoreN X104 hx (hb hby d25_20) (l' := #[.val (.ref o), .val (.int 0), .val (.ref x), .val (.int 1), .unset]) rfl (q := 21) rfl ?_
  refine Go.aloadN X104 hx (hb hby d25_21) rfl rfl (q := 22) rfl ?_
  refine Go.getF X104 hx hZ hown (host := "") (Or.inl (wd67 hw)) Via.refl e104 F0 (hb hby d25_22) (q := 25) rfl ?_
  intro T105 X105 e105
  refine Go.dup X105 hx (hb hby d25_25) rfl (q := 26) rfl ?_
  refine Go.astore X105 hx (hb hby d25_26) rfl (l' := #[.val (.ref o), .val (.int 0), .val (.ref x), .val (.int 1), .val (.ref d)]) rfl (q := 28) rfl ?_
  refine Go.alen X105 hx hZ e105 F3 (hb hby d25_28) ?_
  refine Go.icmpYes X105 hx (hb hby d25_29) (by decide) (q := 38) (by decide) (by decide) ?_
  refine Go.aload X105 hx (hb hby d25_38) rfl rfl (q := 40) rfl ?_
  refine Go.iloadN X105 hx (hb hby d25_40) rfl (q := 41) rfl ?_
  refine Go.aload X105 hx (hb hby d25_41) rfl rfl (q := 43) rfl ?_
  refine Go.iloadN X105 hx (hb hby d25_43) rfl (q := 44) rfl ?_
  refine Go.iconst X105 hx (hb hby d25_44) (r := (1 : Int32)) rfl (q := 45) rfl ?_
  refine Go.iadd X105 hx (hb hby d25_45) (r := (1 : Int32)) rfl (q := 46) rfl ?_
  refine Go.iloadN X105 hx (hb hby d25_46) rfl (q := 47) rfl ?_
  refine Go.iloadN X105 hx (hb hby d25_47) rfl (q := 48) rfl ?_
  refine Go.isub X105 hx (hb hby d25_48) (r := (1 : Int32)) rfl (q := 49) rfl ?_
  obtain ⟨T106, h106, L106, X106, e106, N106, K106, V106, st106⟩ := cpA X105 hx hZ hown (wd173 hw) (wd176 hw) (wd174 hw) (wd175 hw) e105 F3 F3 (us := [(.ref x0)]) (sp := (0 : Int32)) (dp := (1 : Int32)) (nn := (1 : Int32)) (Or.inr ⟨rfl, rfl, ⟨(Sto.ofArv F3 ov (Ins.of_exa Ex0 (wd116 hw))), trivial⟩⟩) (by decide) (by decide) (by decide) (by decide) (by decide) rfl (Nat.le_of_ble_eq_true rfl) N103 g_d (g := (mkF mm 49 #[.val (.ref o), .val (.int 0), .val (.ref x), .val (.int 1), .val (.ref d)] [(.int 1), (.int 1), (.ref d), (.int 0), (.ref d)])) rfl (by rw [hml]; rfl) rfl (hb hby d25_49) (by decide) (W := 0) (by show 2 * 0 + _ ≤ _; exact Nat.le_of_eq rfl) (by decide)
  refine Go.by st106 ?_
  replace Eo := Eo.keep K106
  replace F0 := F0.keep K106 (ninS n_o_d nin0)
  replace F1 := F1.keep K106 (ninS n_o_d nin0)
  replace Ex := Ex.keep K106
  replace Ex0 := Ex0.keep K106
  replace F103 := F103.keep K106 (ninS n_o_d nin0)
  have OK106 := ext_keep OW103 K106 (allS g_d all0)
  replace KP := KP.trans K106 (allS (Or.inl (List.mem_of_getElem? (i := 1) rfl)) all0)
  replace V106 : Arv Z h106 d kd (.object xS2) (10 : Int32) [(.ref x0), (.ref x0), .null, .null, .null, .null, .null, .null, .null, .null] .null := V106
  show Go pp ee below _ (T106.setTop (mkF mm 52 #[.val (.ref o), .val (.int 0), .val (.ref x), .val (.int 1), .val (.ref d)] []))
  refine Go.aload X106 hx (hb hby d25_52) rfl rfl (q := 54) rfl ?_
  refine Go.iloadN X106 hx (hb hby d25_54) rfl (q := 55) rfl ?_
  refine Go.aloadN X106 hx (hb hby d25_55) rfl rfl (q := 56) rfl ?_
  refine Go.rst X106 hx hZ e106 V106 rfl (Sto.ofArv V106 ov (Ins.of_exa Ex (wd116 hw))) rfl ⟨by decide, by decide⟩ (i := 0) rfl (Nat.le_of_ble_eq_true rfl) (hb hby d25_56) ?_
  intro T107 h107 X107 e107 W107 V107
  replace V107 : Arv Z h107 d kd (.object xS2) (10 : Int32) [(.ref x), (.ref x0), .null, .null, .null, .null, .null, .null, .null, .null] .null := V107
  have N107 := Fr.snoc X107 N106 g_d
  replace Eo := Eo.wr W107
  replace F0 := F0.other W107 (Or.inl n_o_d)
  replace F1 := F1.other W107 (Or.inl n_o_d)
  replace Ex := Ex.wr W107
  replace Ex0 := Ex0.wr W107
  replace F103 := F103.other W107 (Or.inl n_o_d)
  have OW107 := ext_wr OK106 W107 g_d
  replace KP := KP.wr W107 (Or.inl (List.mem_of_getElem? (i := 1) rfl))
  refine Go.aloadN X107 hx (hb hby d25_57) rfl rfl (q := 58) rfl ?_
  refine Go.iloadN X107 hx (hb hby d25_58) rfl (q := 59) rfl ?_
  refine Go.iconst X107 hx (hb hby d25_59) (r := (1 : Int32)) rfl (q := 60) rfl ?_
  refine Go.iadd X107 hx (hb hby d25_60) (r := (2 : Int32)) rfl (q := 61) rfl ?_
  refine Go.putF X107 hx hZ hown (host := "") (Or.inl (wd93 hw)) Via.refl e107 F1 Eo (Or.inl (wd94 hw)) (wd46 hw) (ty := .int) (by decide) rfl rfl (hb hby d25_61) (q := 64) rfl ?_
  intro T108 h108 X108 e108 W108 F108
  have N108 := Fr.snoc X108 N107 g_o
  replace Eo := Eo.wr W108
  replace F0 := F0.other W108 (Or.inr (slot_ne (Or.inl (wd68 hw)) (Or.inl (wd94 hw)) (by decide) (t := (.array (.object xS2))) (t' := .int) (by decide) (by decide)))
  replace Ex := Ex.wr W108
  replace Ex0 := Ex0.wr W108
  replace F103 := F103.other W108 (Or.inr (slot_ne (Or.inl (wd65 hw)) (Or.inl (wd94 hw)) (by decide) (t := .int) (t' := .int) (by decide) (by decide)))
  replace V107 := V107.other W108 (Ne.symm n_o_d)
  have OW108 := ext_wr OW107 W108 g_o
  replace KP := KP.wr W108 (Or.inl (List.mem_of_getElem? (i := 0) rfl))
  exact Go.retV X108 hx hret hlk (hb hby d25_64) e108 (by decide) (by decide) ⟨rfl, N108, KP, F0, F108, F103, V107⟩
def Q_cai_1_1 (Z : State) (o x d x0 : Addr) (mc : Int32) (kd : ClassId) (h0 : Heap) (vR : Option Value) (hR : Heap) (LR : List Loc) : Prop := vR = none ∧ Fr Z.heap.size LR ∧ Keep h0 hR [o, d] ∧ Fld Z hR o xS1 xS7 xS6 (.ref d) ∧ Fld Z hR o xS1 "size" "I" (.int 2) ∧ Fld Z hR o xS5 "modCount" "I" (.int (mc + (1 : Int32))) ∧ Arv Z hR d kd (.object xS2) (10 : Int32) [(.ref x0), (.ref x), .null, .null, .null, .null, .null, .null, .null, .null] .null
theorem cai_1_1 (l : Launch) (Z : State) (a0 : Array Value) (hw : ∀ d ∈ tables_1, d.before a0 Z = true) (o x d x0 : Addr) (mc : Int32) (kd : ClassId) (h0 : Heap) (O0 : Ext Z.heap h0) (Eo : Exa Z h0 o xS1) (g_o : Z.heap.size ≤ o) (F0 : Fld Z h0 o xS1 xS7 xS6 (.ref d)) (F1 : Fld Z h0 o xS1 "size" "I" (.int 1)) (F2 : Fld Z h0 o xS5 "modCount" "I" (.int mc)) (F3 : Arv Z h0 d kd (.object xS2) (10 : Int32) [(.ref x0), .null, .null, .null, .null, .null, .null, .null, .null, .null] .null) (Ex : Exa Z h0 x xS3) (g_d : Z.heap.size ≤ d) (n_o_d : o ≠ d) (ov : Ovr Z kd xS2) :
    Ctr l Z h0 (⟨xS1, "add", "(ILjava/lang/Object;)V"⟩ : MethodName) k25 5 none [] ({ frames := 1, cells := 0, slots := 0, locals := 18 } : Room) #[(.ref o), (.int 1), (.ref x)] (Q_cai_1_1 Z o x d x0 mc kd h0) := by
  refine enter (plainFor_of_name pn2) ?_
  intro pp ee ss mm below meth cc s₁ hx hby hml hZ hown hnm hret hlk X0 e0 hs0
  replace hown : ss.vm.findClass xS1 = some mm.cls := hown
  refine Go.cast (congrArg s₁.setTop (ef_cai_1_1 mm o x)) ?_
  have N0 := Fr.nil Z.heap.size
  have KP := Keep.refl h0 [o, d]
  show Go pp ee below _ (s₁.setTop (mkF mm 0 #[.val (.ref o), .val (.int 1), .val (.ref x), .unset, .unset] []))
  refine Go.aloadN X0 hx (hb hby d25_0) rfl rfl (q := 1) rfl ?_
  refine Go.iloadN X0 hx (hb hby d25_1) rfl (q := 2) rfl ?_
  refine Go.priv X0 hx hZ hown (wd168 hw) (wd169 hw) (wd171 hw) (wd170 hw) (wd47 hw) (wd172 hw) (by decide) (crca l Z a0 hw o ((1 : Int32)) ((1 : Int32)) h0 O0 F1 (by decide) (by decide)) e0 Eo (by rw [hml]; rfl) (hb hby d25_2) (argsL := [(.int 1)]) (rest := []) (lenOf pd5 rfl) rfl rfl (W := 0) (by first | exact Nat.le_refl _ | decide) (by decide) (by decide) (by decide) (by decide) ?_
  intro v101 T101 L101 X101 hQ101
  obtain ⟨rfl, N101q, e101⟩ := hQ101
  have N101 := Fr.app N0 N101q
  refine Go.aloadN X101 hx (hb hby d25_5) rfl rfl (q := 6) rfl ?_
  refine Go.dup X101 hx (hb hby d25_6) rfl (q := 7) rfl ?_
  refine Go.getF X101 hx hZ hown (host := "") (Or.inl (wd91 hw)) (Via.of (wd92 hw)) e101 F2 (hb hby d25_7) (q := 10) rfl ?_
  intro T102 X102 e102
  refine Go.iconst X102 hx (hb hby d25_10) (r := (1 : Int32)) rfl (q := 11) rfl ?_
  refine Go.iadd X102 hx (hb hby d25_11) rfl (q := 12) rfl ?_
  refine Go.putF X102 hx hZ hown (host := "") (Or.inl (wd91 hw)) (Via.of (wd92 hw)) e102 F2 Eo (Or.inl (wd65 hw)) (wd46 hw) (ty := .int) (by decide) rfl rfl (hb hby d25_12) (q := 15) rfl ?_
  intro T103 h103 X103 e103 W103 F103
  have N103 := Fr.snoc X103 N101 g_o
  replace Eo := Eo.wr W103
  replace F0 := F0.other W103 (Or.inr (slot_ne (Or.inl (wd68 hw)) (Or.inl (wd65 hw)) (by decide) (t := (.array (.object xS2))) (t' := .int) (by decide) (by decide)))
  replace F1 := F1.other W103 (Or.inr (slot_ne (Or.inl (wd94 hw)) (Or.inl (wd65 hw)) (by decide) (t := .int) (t' := .int) (by decide) (by decide)))
  replace F3 := F3.other W103 (Ne.symm n_o_d)
  replace Ex := Ex.wr W103
  have OW103 := ext_wr O0 W103 g_o
  replace KP := KP.wr W103 (Or.inl (List.mem_of_getElem? (i := 0) rfl))
  refine Go.aloadN X103 hx (hb hby d25_15) rfl rfl (q := 16) rfl ?_
  refine Go.getF X103 hx hZ hown (host := "") (Or.inl (wd93 hw)) Via.refl e103 F1 (hb hby d25_16) (q := 19) rfl ?_
  intro T104 X104 e104
  refine Go.dup X104 hx (hb hby d25_19) rfl (q := 20) rfl ?_
  refine Go.istoreN X104 hx (hb hby d25_20) (l' := #[.val (.ref o), .val (.int 1), .val (.ref x), .val (.int 1), .unset]) rfl (q := 21) rfl ?_
  refine Go.aloadN X104 hx (hb hby d25_21) rfl rfl (q := 22) rfl ?_
  refine Go.getF X104 hx hZ hown (host := "") (Or.inl (wd67 hw)) Via.refl e104 F0 (hb hby d25_22) (q := 25) rfl ?_
  intro T105 X105 e105
  refine Go.dup X105 hx (hb hby d25_25) rfl (q := 26) rfl ?_
  refine Go.astore X105 hx (hb hby d25_26) rfl (l' := #[.val (.ref o), .val (.int 1), .val (.ref x), .val (.int 1), .val (.ref d)]) rfl (q := 28) rfl ?_
  refine Go.alen X105 hx hZ e105 F3 (hb hby d25_28) ?_
  refine Go.icmpYes X105 hx (hb hby d25_29) (by decide) (q := 38) (by decide) (by decide) ?_
  refine Go.aload X105 hx (hb hby d25_38) rfl rfl (q := 40) rfl ?_
  refine Go.iloadN X105 hx (hb hby d25_40) rfl (q := 41) rfl ?_
  refine Go.aload X105 hx (hb hby d25_41) rfl rfl (q := 43) rfl ?_
  refine Go.iloadN X105 hx (hb hby d25_43) rfl (q := 44) rfl ?_
  refine Go.iconst X105 hx (hb hby d25_44) (r := (1 : Int32)) rfl (q := 45) rfl ?_
  refine Go.iadd X105 hx (hb hby d25_45) (r := (2 : Int32)) rfl (q := 46) rfl ?_
  refine Go.iloadN X105 hx (hb hby d25_46) rfl (q := 47) rfl ?_
  refine Go.iloadN X105 hx (hb hby d25_47) rfl (q := 48) rfl ?_
  refine Go.isub X105 hx (hb hby d25_48) (r := (0 : Int32)) rfl (q := 49) rfl ?_
  obtain ⟨T106, h106, L106, X106, e106, N106, K106, V106, st106⟩ := cpA X105 hx hZ hown (wd173 hw) (wd176 hw) (wd174 hw) (wd175 hw) e105 F3 F3 (us := []) (sp := (1 : Int32)) (dp := (2 : Int32)) (nn := (0 : Int32)) (Or.inr ⟨rfl, rfl, trivial⟩) (by decide) (by decide) (by decide) (by decide) (by decide) rfl (Nat.le_of_ble_eq_true rfl) N103 g_d (g := (mkF mm 49 #[.val (.ref o), .val (.int 1), .val (.ref x), .val (.int 1), .val (.ref d)] [(.int 0), (.int 2), (.ref d), (.int 1), (.ref d)])) rfl (by rw [hml]; rfl) rfl (hb hby d25_49) (by decide) (W := 0) (by show 2 * 0 + _ ≤ _; exact Nat.le_of_eq rfl) (by decide)
  refine Go.by st106 ?_
  replace Eo := Eo.keep K106
  replace F0 := F0.keep K106 (ninS n_o_d nin0)
  replace F1 := F1.keep K106 (ninS n_o_d nin0)
  replace Ex := Ex.keep K106
  replace F103 := F103.keep K106 (ninS n_o_d nin0)
  have OK106 := ext_keep OW103 K106 (allS g_d all0)
  replace KP := KP.trans K106 (allS (Or.inl (List.mem_of_getElem? (i := 1) rfl)) all0)
  replace V106 : Arv Z h106 d kd (.object xS2) (10 : Int32) [(.ref x0), .null, .null, .null, .null, .null, .null, .null, .null, .null] .null := V106
  show Go pp ee below _ (T106.setTop (mkF mm 52 #[.val (.ref o), .val (.int 1), .val (.ref x), .val (.int 1), .val (.ref d)] []))
  refine Go.aload X106 hx (hb hby d25_52) rfl rfl (q := 54) rfl ?_
  refine Go.iloadN X106 hx (hb hby d25_54) rfl (q := 55) rfl ?_
  refine Go.aloadN X106 hx (hb hby d25_55) rfl rfl (q := 56) rfl ?_
  refine Go.rst X106 hx hZ e106 V106 rfl (Sto.ofArv V106 ov (Ins.of_exa Ex (wd116 hw))) rfl ⟨by decide, by decide⟩ (i := 1) rfl (Nat.le_of_ble_eq_true rfl) (hb hby d25_56) ?_
  intro T107 h107 X107 e107 W107 V107
  replace V107 : Arv Z h107 d kd (.object xS2) (10 : Int32) [(.ref x0), (.ref x), .null, .null, .null, .null, .null, .null, .null, .null] .null := V107
  have N107 := Fr.snoc X107 N106 g_d
  replace Eo := Eo.wr W107
  replace F0 := F0.other W107 (Or.inl n_o_d)
  replace F1 := F1.other W107 (Or.inl n_o_d)
  replace Ex := Ex.wr W107
  replace F103 := F103.other W107 (Or.inl n_o_d)
  have OW107 := ext_wr OK106 W107 g_d
  replace KP := KP.wr W107 (Or.inl (List.mem_of_getElem? (i := 1) rfl))
  refine Go.aloadN X107 hx (hb hby d25_57) rfl rfl (q := 58) rfl ?_
  refine Go.iloadN X107 hx (hb hby d25_58) rfl (q := 59) rfl ?_
  refine Go.iconst X107 hx (hb hby d25_59) (r := (1 : Int32)) rfl (q := 60) rfl ?_
  refine Go.iadd X107 hx (hb hby d25_60) (r := (2 : Int32)) rfl (q := 61) rfl ?_
  refine Go.putF X107 hx hZ hown (host := "") (Or.inl (wd93 hw)) Via.refl e107 F1 Eo (Or.inl (wd94 hw)) (wd46 hw) (ty := .int) (by decide) rfl rfl (hb hby d25_61) (q := 64) rfl ?_
  intro T108 h108 X108 e108 W108 F108
  have N108 := Fr.snoc X108 N107 g_o
  replace Eo := Eo.wr W108
  replace F0 := F0.other W108 (Or.inr (slot_ne (Or.inl (wd68 hw)) (Or.inl (wd94 hw)) (by decide) (t := (.array (.object xS2))) (t' := .int) (by decide) (by decide)))
  replace Ex := Ex.wr W108
  replace F103 := F103.other W108 (Or.inr (slot_ne (Or.inl (wd65 hw)) (Or.inl (wd94 hw)) (by decide) (t := .int) (t' := .int) (by decide) (by decide)))
  replace V107 := V107.other W108 (Ne.symm n_o_d)
  have OW108 := ext_wr OW107 W108 g_o
  replace KP := KP.wr W108 (Or.inl (List.mem_of_getElem? (i := 0) rfl))
  exact Go.retV X108 hx hret hlk (hb hby d25_64) e108 (by decide) (by decide) ⟨rfl, N108, KP, F0, F108, F103, V107⟩
def Q_csize (Z : State) (o : Addr) (nn : Int32) (h0 : Heap) (vR : Option Value) (hR : Heap) (LR : List Loc) : Prop := vR = some (.int nn) ∧ Fr Z.heap.size LR ∧ hR = h0
theorem csize (l : Launch) (Z : State) (a0 : Array Value) (hw : ∀ d ∈ tables_1, d.before a0 Z = true) (o : Addr) (nn : Int32) (h0 : Heap) (O0 : Ext Z.heap h0) (Fs : Fld Z h0 o xS1 "size" "I" (.int nn)) :
    Ctr l Z h0 (⟨xS1, "size", "()I"⟩ : MethodName) k17 1 (some .int) [] ({ frames := 0, cells := 0, slots := 0, locals := 0 } : Room) #[(.ref o)] (Q_csize Z o nn h0) := by
  refine enter (plainFor_of_name pn2) ?_
  intro pp ee ss mm below meth cc s₁ hx hby hml hZ hown hnm hret hlk X0 e0 hs0
  replace hown : ss.vm.findClass xS1 = some mm.cls := hown
  refine Go.cast (congrArg s₁.setTop (ef_csize mm o)) ?_
  have N0 := Fr.nil Z.heap.size
  show Go pp ee below _ (s₁.setTop (mkF mm 0 #[.val (.ref o)] []))
  refine Go.aloadN X0 hx (hb hby d17_0) rfl rfl (q := 1) rfl ?_
  refine Go.getF X0 hx hZ hown (host := "") (Or.inl (wd93 hw)) Via.refl e0 Fs (hb hby d17_1) (q := 4) rfl ?_
  intro T101 X101 e101
  exact Go.retI X101 hx hret hlk (Or.inl rfl) rfl (hb hby d17_4) e101 (by decide) (by decide) ⟨rfl, N0, rfl⟩
def Q_cpchk (Z : State) (i nn : Int32) (h0 : Heap) (vR : Option Value) (hR : Heap) (LR : List Loc) : Prop := vR = some (.int i) ∧ Fr Z.heap.size LR ∧ hR = h0
theorem cpchk (l : Launch) (Z : State) (a0 : Array Value) (hw : ∀ d ∈ tables_1, d.before a0 Z = true) (i nn : Int32) (h0 : Heap) (O0 : Ext Z.heap h0) (hi0 : ¬ (i < (0 : Int32))) (hi1 : i < nn) :
    Ctr l Z h0 (⟨"jdk/internal/util/Preconditions", "checkIndex", "(IILjava/util/function/BiFunction;)I"⟩ : MethodName) k23 3 (some .int) [] ({ frames := 0, cells := 0, slots := 0, locals := 0 } : Room) #[(.int i), (.int nn), .null] (Q_cpchk Z i nn h0) := by
  refine enter (plainFor_of_name pn3) ?_
  intro pp ee ss mm below meth cc s₁ hx hby hml hZ hown hnm hret hlk X0 e0 hs0
  replace hown : ss.vm.findClass "jdk/internal/util/Preconditions" = some mm.cls := hown
  refine Go.cast (congrArg s₁.setTop (ef_cpchk mm i nn)) ?_
  have N0 := Fr.nil Z.heap.size
  show Go pp ee below _ (s₁.setTop (mkF mm 0 #[.val (.int i), .val (.int nn), .val .null] []))
  refine Go.iloadN X0 hx (hb hby d23_0) rfl (q := 1) rfl ?_
  refine Go.ifNo X0 hx (hb hby d23_1) (Jvm.Free.XT.i0_lt_f hi0) (q := 4) rfl ?_
  refine Go.iloadN X0 hx (hb hby d23_4) rfl (q := 5) rfl ?_
  refine Go.iloadN X0 hx (hb hby d23_5) rfl (q := 6) rfl ?_
  refine Go.icmpYes X0 hx (hb hby d23_6) (Jvm.Free.XT.ii_lt_t hi1) (q := 16) (by decide) (by decide) ?_
  refine Go.iloadN X0 hx (hb hby d23_16) rfl (q := 17) rfl ?_
  exact Go.retI X0 hx hret hlk (Or.inl rfl) rfl (hb hby d23_17) e0 (by decide) (by decide) ⟨rfl, N0, rfl⟩
def Q_cochk (Z : State) (i nn : Int32) (h0 : Heap) (vR : Option Value) (hR : Heap) (LR : List Loc) : Prop := vR = some (.int i) ∧ Fr Z.heap.size LR ∧ hR = h0
theorem cochk (l : Launch) (Z : State) (a0 : Array Value) (hw : ∀ d ∈ tables_1, d.before a0 Z = true) (i nn : Int32) (h0 : Heap) (O0 : Ext Z.heap h0) (hi0 : ¬ (i < (0 : Int32))) (hi1 : i < nn) :
    Ctr l Z h0 (⟨"java/util/Objects", "checkIndex", "(II)I"⟩ : MethodName) k22 2 (some .int) [] ({ frames := 1, cells := 0, slots := 0, locals := 14 } : Room) #[(.int i), (.int nn)] (Q_cochk Z i nn h0) := by
  refine enter (plainFor_of_name pn4) ?_
  intro pp ee ss mm below meth cc s₁ hx hby hml hZ hown hnm hret hlk X0 e0 hs0
  replace hown : ss.vm.findClass "java/util/Objects" = some mm.cls := hown
  refine Go.cast (congrArg s₁.setTop (ef_cochk mm i nn)) ?_
  have N0 := Fr.nil Z.heap.size
  show Go pp ee below _ (s₁.setTop (mkF mm 0 #[.val (.int i), .val (.int nn)] []))
  refine Go.iloadN X0 hx (hb hby d22_0) rfl (q := 1) rfl ?_
  refine Go.iloadN X0 hx (hb hby d22_1) rfl (q := 2) rfl ?_
  refine Go.aconst_null X0 hx (hb hby d22_2) (q := 3) rfl ?_
  refine Go.callS X0 hx hZ hown (wd149 hw) (wd150 hw) (wd151 hw) (wd152 hw) (by decide) (cpchk l Z a0 hw i nn h0 O0 hi0 hi1) e0 (by rw [hml]; rfl) (hb hby d22_3) (argsL := [(.int i), (.int nn), .null]) (rest := []) (lenOf pd6 rfl) rfl rfl (W := 0) (by first | exact Nat.le_refl _ | decide) (by decide) (by decide) (by decide) (by decide) ?_
  intro v101 T101 L101 X101 hQ101
  obtain ⟨rfl, N101q, e101⟩ := hQ101
  have N101 := Fr.app N0 N101q
  exact Go.retI X101 hx hret hlk (Or.inl rfl) rfl (hb hby d22_6) e101 (by decide) (by decide) ⟨rfl, N101, rfl⟩
def Q_ceda_1_0 (Z : State) (o d x0 : Addr) (kd : ClassId) (h0 : Heap) (vR : Option Value) (hR : Heap) (LR : List Loc) : Prop := vR = some (.ref x0) ∧ Fr Z.heap.size LR ∧ hR = h0
theorem ceda_1_0 (l : Launch) (Z : State) (a0 : Array Value) (hw : ∀ d ∈ tables_1, d.before a0 Z = true) (o d x0 : Addr) (kd : ClassId) (h0 : Heap) (O0 : Ext Z.heap h0) (Fe : Fld Z h0 o xS1 xS7 xS6 (.ref d)) (V : Arv Z h0 d kd (.object xS2) (10 : Int32) [(.ref x0), .null, .null, .null, .null, .null, .null, .null, .null, .null] .null) :
    Ctr l Z h0 (⟨xS1, xS7, "(I)Ljava/lang/Object;"⟩ : MethodName) k24 2 (some (.object xS2)) [] ({ frames := 0, cells := 0, slots := 0, locals := 0 } : Room) #[(.ref o), (.int 0)] (Q_ceda_1_0 Z o d x0 kd h0) := by
  refine enter (plainFor_of_name pn2) ?_
  intro pp ee ss mm below meth cc s₁ hx hby hml hZ hown hnm hret hlk X0 e0 hs0
  replace hown : ss.vm.findClass xS1 = some mm.cls := hown
  refine Go.cast (congrArg s₁.setTop (ef_ceda_1_0 mm o)) ?_
  have N0 := Fr.nil Z.heap.size
  show Go pp ee below _ (s₁.setTop (mkF mm 0 #[.val (.ref o), .val (.int 0)] []))
  refine Go.aloadN X0 hx (hb hby d24_0) rfl rfl (q := 1) rfl ?_
  refine Go.getF X0 hx hZ hown (host := "") (Or.inl (wd67 hw)) Via.refl e0 Fe (hb hby d24_1) (q := 4) rfl ?_
  intro T101 X101 e101
  refine Go.iloadN X101 hx (hb hby d24_4) rfl (q := 5) rfl ?_
  refine Go.aal X101 hx hZ e101 V rfl ⟨by decide, by decide⟩ (v := (.ref x0)) rfl (hb hby d24_5) ?_
  exact Go.retA X101 hx hret hlk rfl rfl (hb hby d24_6) e101 (by decide) (by decide) ⟨rfl, N0, rfl⟩
def Q_cget_1_0 (Z : State) (o d x0 : Addr) (kd : ClassId) (h0 : Heap) (vR : Option Value) (hR : Heap) (LR : List Loc) : Prop := vR = some (.ref x0) ∧ Fr Z.heap.size LR ∧ hR = h0
theorem cget_1_0 (l : Launch) (Z : State) (a0 : Array Value) (hw : ∀ d ∈ tables_1, d.before a0 Z = true) (o d x0 : Addr) (kd : ClassId) (h0 : Heap) (O0 : Ext Z.heap h0) (Eo : Exa Z h0 o xS1) (Fs : Fld Z h0 o xS1 "size" "I" (.int 1)) (Fe : Fld Z h0 o xS1 xS7 xS6 (.ref d)) (V : Arv Z h0 d kd (.object xS2) (10 : Int32) [(.ref x0), .null, .null, .null, .null, .null, .null, .null, .null, .null] .null) :
    Ctr l Z h0 (⟨xS1, "get", "(I)Ljava/lang/Object;"⟩ : MethodName) k21 2 (some (.object xS2)) [] ({ frames := 2, cells := 0, slots := 0, locals := 27 } : Room) #[(.ref o), (.int 0)] (Q_cget_1_0 Z o d x0 kd h0) := by
  refine enter (plainFor_of_name pn2) ?_
  intro pp ee ss mm below meth cc s₁ hx hby hml hZ hown hnm hret hlk X0 e0 hs0
  replace hown : ss.vm.findClass xS1 = some mm.cls := hown
  refine Go.cast (congrArg s₁.setTop (ef_cget_1_0 mm o)) ?_
  have N0 := Fr.nil Z.heap.size
  show Go pp ee below _ (s₁.setTop (mkF mm 0 #[.val (.ref o), .val (.int 0)] []))
  refine Go.iloadN X0 hx (hb hby d21_0) rfl (q := 1) rfl ?_
  refine Go.aloadN X0 hx (hb hby d21_1) rfl rfl (q := 2) rfl ?_
  refine Go.getF X0 hx hZ hown (host := "") (Or.inl (wd93 hw)) Via.refl e0 Fs (hb hby d21_2) (q := 5) rfl ?_
  intro T101 X101 e101
  refine Go.callS X101 hx hZ hown (wd145 hw) (wd146 hw) (wd147 hw) (wd148 hw) (by decide) (cochk l Z a0 hw ((0 : Int32)) ((1 : Int32)) h0 O0 (by decide) (by decide)) e101 (by rw [hml]; rfl) (hb hby d21_5) (argsL := [(.int 0), (.int 1)]) (rest := []) (lenOf pd1 rfl) rfl rfl (W := 0) (by first | exact Nat.le_refl _ | decide) (by decide) (by decide) (by decide) (by decide) ?_
  intro v102 T102 L102 X102 hQ102
  obtain ⟨rfl, N102q, e102⟩ := hQ102
  have N102 := Fr.app N0 N102q
  refine Go.pop X102 hx (hb hby d21_8) rfl (q := 9) rfl ?_
  refine Go.aloadN X102 hx (hb hby d21_9) rfl rfl (q := 10) rfl ?_
  refine Go.iloadN X102 hx (hb hby d21_10) rfl (q := 11) rfl ?_
  refine Go.virt X102 hx hZ hown (wd153 hw) (wd154 hw) (notFace_of_selects (args := #[]) (mvT hZ (wd156 hw))) (wd156 hw) (wd155 hw) (wd47 hw) (wd157 hw) (by decide) (ceda_1_0 l Z a0 hw o d x0 (kd) h0 O0 Fe V) e102 Eo (by rw [hml]; rfl) (hb hby d21_11) (argsL := [(.int 0)]) (rest := []) (lenOf pd7 rfl) rfl rfl (W := 0) (by first | exact Nat.le_refl _ | decide) (by decide) (by decide) (by decide) (by decide) ?_
  intro v103 T103 L103 X103 hQ103
  obtain ⟨rfl, N103q, e103⟩ := hQ103
  have N103 := Fr.app N102 N103q
  exact Go.retA X103 hx hret hlk rfl rfl (hb hby d21_14) e103 (by decide) (by decide) ⟨rfl, N103, rfl⟩
def Q_ceda_2_0 (Z : State) (o d x0 x1 : Addr) (kd : ClassId) (h0 : Heap) (vR : Option Value) (hR : Heap) (LR : List Loc) : Prop := vR = some (.ref x0) ∧ Fr Z.heap.size LR ∧ hR = h0
theorem ceda_2_0 (l : Launch) (Z : State) (a0 : Array Value) (hw : ∀ d ∈ tables_1, d.before a0 Z = true) (o d x0 x1 : Addr) (kd : ClassId) (h0 : Heap) (O0 : Ext Z.heap h0) (Fe : Fld Z h0 o xS1 xS7 xS6 (.ref d)) (V : Arv Z h0 d kd (.object xS2) (10 : Int32) [(.ref x0), (.ref x1), .null, .null, .null, .null, .null, .null, .null, .null] .null) :
    Ctr l Z h0 (⟨xS1, xS7, "(I)Ljava/lang/Object;"⟩ : MethodName) k24 2 (some (.object xS2)) [] ({ frames := 0, cells := 0, slots := 0, locals := 0 } : Room) #[(.ref o), (.int 0)] (Q_ceda_2_0 Z o d x0 x1 kd h0) := by
  refine enter (plainFor_of_name pn2) ?_
  intro pp ee ss mm below meth cc s₁ hx hby hml hZ hown hnm hret hlk X0 e0 hs0
  replace hown : ss.vm.findClass xS1 = some mm.cls := hown
  refine Go.cast (congrArg s₁.setTop (ef_ceda_2_0 mm o)) ?_
  have N0 := Fr.nil Z.heap.size
  show Go pp ee below _ (s₁.setTop (mkF mm 0 #[.val (.ref o), .val (.int 0)] []))
  refine Go.aloadN X0 hx (hb hby d24_0) rfl rfl (q := 1) rfl ?_
  refine Go.getF X0 hx hZ hown (host := "") (Or.inl (wd67 hw)) Via.refl e0 Fe (hb hby d24_1) (q := 4) rfl ?_
  intro T101 X101 e101
  refine Go.iloadN X101 hx (hb hby d24_4) rfl (q := 5) rfl ?_
  refine Go.aal X101 hx hZ e101 V rfl ⟨by decide, by decide⟩ (v := (.ref x0)) rfl (hb hby d24_5) ?_
  exact Go.retA X101 hx hret hlk rfl rfl (hb hby d24_6) e101 (by decide) (by decide) ⟨rfl, N0, rfl⟩
def Q_cget_2_0 (Z : State) (o d x0 x1 : Addr) (kd : ClassId) (h0 : Heap) (vR : Option Value) (hR : Heap) (LR : List Loc) : Prop := vR = some (.ref x0) ∧ Fr Z.heap.size LR ∧ hR = h0
theorem cget_2_0 (l : Launch) (Z : State) (a0 : Array Value) (hw : ∀ d ∈ tables_1, d.before a0 Z = true) (o d x0 x1 : Addr) (kd : ClassId) (h0 : Heap) (O0 : Ext Z.heap h0) (Eo : Exa Z h0 o xS1) (Fs : Fld Z h0 o xS1 "size" "I" (.int 2)) (Fe : Fld Z h0 o xS1 xS7 xS6 (.ref d)) (V : Arv Z h0 d kd (.object xS2) (10 : Int32) [(.ref x0), (.ref x1), .null, .null, .null, .null, .null, .null, .null, .null] .null) :
    Ctr l Z h0 (⟨xS1, "get", "(I)Ljava/lang/Object;"⟩ : MethodName) k21 2 (some (.object xS2)) [] ({ frames := 2, cells := 0, slots := 0, locals := 27 } : Room) #[(.ref o), (.int 0)] (Q_cget_2_0 Z o d x0 x1 kd h0) := by
  refine enter (plainFor_of_name pn2) ?_
  intro pp ee ss mm below meth cc s₁ hx hby hml hZ hown hnm hret hlk X0 e0 hs0
  replace hown : ss.vm.findClass xS1 = some mm.cls := hown
  refine Go.cast (congrArg s₁.setTop (ef_cget_2_0 mm o)) ?_
  have N0 := Fr.nil Z.heap.size
  show Go pp ee below _ (s₁.setTop (mkF mm 0 #[.val (.ref o), .val (.int 0)] []))
  refine Go.iloadN X0 hx (hb hby d21_0) rfl (q := 1) rfl ?_
  refine Go.aloadN X0 hx (hb hby d21_1) rfl rfl (q := 2) rfl ?_
  refine Go.getF X0 hx hZ hown (host := "") (Or.inl (wd93 hw)) Via.refl e0 Fs (hb hby d21_2) (q := 5) rfl ?_
  intro T101 X101 e101
  refine Go.callS X101 hx hZ hown (wd145 hw) (wd146 hw) (wd147 hw) (wd148 hw) (by decide) (cochk l Z a0 hw ((0 : Int32)) ((2 : Int32)) h0 O0 (by decide) (by decide)) e101 (by rw [hml]; rfl) (hb hby d21_5) (argsL := [(.int 0), (.int 2)]) (rest := []) (lenOf pd1 rfl) rfl rfl (W := 0) (by first | exact Nat.le_refl _ | decide) (by decide) (by decide) (by decide) (by decide) ?_
  intro v102 T102 L102 X102 hQ102
  obtain ⟨rfl, N102q, e102⟩ := hQ102
  have N102 := Fr.app N0 N102q
  refine Go.pop X102 hx (hb hby d21_8) rfl (q := 9) rfl ?_
  refine Go.aloadN X102 hx (hb hby d21_9) rfl rfl (q := 10) rfl ?_
  refine Go.iloadN X102 hx (hb hby d21_10) rfl (q := 11) rfl ?_
  refine Go.virt X102 hx hZ hown (wd153 hw) (wd154 hw) (notFace_of_selects (args := #[]) (mvT hZ (wd156 hw))) (wd156 hw) (wd155 hw) (wd47 hw) (wd157 hw) (by decide) (ceda_2_0 l Z a0 hw o d x0 x1 (kd) h0 O0 Fe V) e102 Eo (by rw [hml]; rfl) (hb hby d21_11) (argsL := [(.int 0)]) (rest := []) (lenOf pd7 rfl) rfl rfl (W := 0) (by first | exact Nat.le_refl _ | decide) (by decide) (by decide) (by decide) (by decide) ?_
  intro v103 T103 L103 X103 hQ103
  obtain ⟨rfl, N103q, e103⟩ := hQ103
  have N103 := Fr.app N102 N103q
  exact Go.retA X103 hx hret hlk rfl rfl (hb hby d21_14) e103 (by decide) (by decide) ⟨rfl, N103, rfl⟩
def Q_ceda_2_1 (Z : State) (o d x0 x1 : Addr) (kd : ClassId) (h0 : Heap) (vR : Option Value) (hR : Heap) (LR : List Loc) : Prop := vR = some (.ref x1) ∧ Fr Z.heap.size LR ∧ hR = h0
theorem ceda_2_1 (l : Launch) (Z : State) (a0 : Array Value) (hw : ∀ d ∈ tables_1, d.before a0 Z = true) (o d x0 x1 : Addr) (kd : ClassId) (h0 : Heap) (O0 : Ext Z.heap h0) (Fe : Fld Z h0 o xS1 xS7 xS6 (.ref d)) (V : Arv Z h0 d kd (.object xS2) (10 : Int32) [(.ref x0), (.ref x1), .null, .null, .null, .null, .null, .null, .null, .null] .null) :
    Ctr l Z h0 (⟨xS1, xS7, "(I)Ljava/lang/Object;"⟩ : MethodName) k24 2 (some (.object xS2)) [] ({ frames := 0, cells := 0, slots := 0, locals := 0 } : Room) #[(.ref o), (.int 1)] (Q_ceda_2_1 Z o d x0 x1 kd h0) := by
  refine enter (plainFor_of_name pn2) ?_
  intro pp ee ss mm below meth cc s₁ hx hby hml hZ hown hnm hret hlk X0 e0 hs0
  replace hown : ss.vm.findClass xS1 = some mm.cls := hown
  refine Go.cast (congrArg s₁.setTop (ef_ceda_2_1 mm o)) ?_
  have N0 := Fr.nil Z.heap.size
  show Go pp ee below _ (s₁.setTop (mkF mm 0 #[.val (.ref o), .val (.int 1)] []))
  refine Go.aloadN X0 hx (hb hby d24_0) rfl rfl (q := 1) rfl ?_
  refine Go.getF X0 hx hZ hown (host := "") (Or.inl (wd67 hw)) Via.refl e0 Fe (hb hby d24_1) (q := 4) rfl ?_
  intro T101 X101 e101
  refine Go.iloadN X101 hx (hb hby d24_4) rfl (q := 5) rfl ?_
  refine Go.aal X101 hx hZ e101 V rfl ⟨by decide, by decide⟩ (v := (.ref x1)) rfl (hb hby d24_5) ?_
  exact Go.retA X101 hx hret hlk rfl rfl (hb hby d24_6) e101 (by decide) (by decide) ⟨rfl, N0, rfl⟩
def Q_cget_2_1 (Z : State) (o d x0 x1 : Addr) (kd : ClassId) (h0 : Heap) (vR : Option Value) (hR : Heap) (LR : List Loc) : Prop := vR = some (.ref x1) ∧ Fr Z.heap.size LR ∧ hR = h0
theorem cget_2_1 (l : Launch) (Z : State) (a0 : Array Value) (hw : ∀ d ∈ tables_1, d.before a0 Z = true) (o d x0 x1 : Addr) (kd : ClassId) (h0 : Heap) (O0 : Ext Z.heap h0) (Eo : Exa Z h0 o xS1) (Fs : Fld Z h0 o xS1 "size" "I" (.int 2)) (Fe : Fld Z h0 o xS1 xS7 xS6 (.ref d)) (V : Arv Z h0 d kd (.object xS2) (10 : Int32) [(.ref x0), (.ref x1), .null, .null, .null, .null, .null, .null, .null, .null] .null) :
    Ctr l Z h0 (⟨xS1, "get", "(I)Ljava/lang/Object;"⟩ : MethodName) k21 2 (some (.object xS2)) [] ({ frames := 2, cells := 0, slots := 0, locals := 27 } : Room) #[(.ref o), (.int 1)] (Q_cget_2_1 Z o d x0 x1 kd h0) := by
  refine enter (plainFor_of_name pn2) ?_
  intro pp ee ss mm below meth cc s₁ hx hby hml hZ hown hnm hret hlk X0 e0 hs0
  replace hown : ss.vm.findClass xS1 = some mm.cls := hown
  refine Go.cast (congrArg s₁.setTop (ef_cget_2_1 mm o)) ?_
  have N0 := Fr.nil Z.heap.size
  show Go pp ee below _ (s₁.setTop (mkF mm 0 #[.val (.ref o), .val (.int 1)] []))
  refine Go.iloadN X0 hx (hb hby d21_0) rfl (q := 1) rfl ?_
  refine Go.aloadN X0 hx (hb hby d21_1) rfl rfl (q := 2) rfl ?_
  refine Go.getF X0 hx hZ hown (host := "") (Or.inl (wd93 hw)) Via.refl e0 Fs (hb hby d21_2) (q := 5) rfl ?_
  intro T101 X101 e101
  refine Go.callS X101 hx hZ hown (wd145 hw) (wd146 hw) (wd147 hw) (wd148 hw) (by decide) (cochk l Z a0 hw ((1 : Int32)) ((2 : Int32)) h0 O0 (by decide) (by decide)) e101 (by rw [hml]; rfl) (hb hby d21_5) (argsL := [(.int 1), (.int 2)]) (rest := []) (lenOf pd1 rfl) rfl rfl (W := 0) (by first | exact Nat.le_refl _ | decide) (by decide) (by decide) (by decide) (by decide) ?_
  intro v102 T102 L102 X102 hQ102
  obtain ⟨rfl, N102q, e102⟩ := hQ102
  have N102 := Fr.app N0 N102q
  refine Go.pop X102 hx (hb hby d21_8) rfl (q := 9) rfl ?_
  refine Go.aloadN X102 hx (hb hby d21_9) rfl rfl (q := 10) rfl ?_
  refine Go.iloadN X102 hx (hb hby d21_10) rfl (q := 11) rfl ?_
  refine Go.virt X102 hx hZ hown (wd153 hw) (wd154 hw) (notFace_of_selects (args := #[]) (mvT hZ (wd156 hw))) (wd156 hw) (wd155 hw) (wd47 hw) (wd157 hw) (by decide) (ceda_2_1 l Z a0 hw o d x0 x1 (kd) h0 O0 Fe V) e102 Eo (by rw [hml]; rfl) (hb hby d21_11) (argsL := [(.int 1)]) (rest := []) (lenOf pd7 rfl) rfl rfl (W := 0) (by first | exact Nat.le_refl _ | decide) (by decide) (by decide) (by decide) (by decide) ?_
  intro v103 T103 L103 X103 hQ103
  obtain ⟨rfl, N103q, e103⟩ := hQ103
  have N103 := Fr.app N102 N103q
  exact Go.retA X103 hx hret hlk rfl rfl (hb hby d21_14) e103 (by decide) (by decide) ⟨rfl, N103, rfl⟩
def Q_cold (Z : State) (o : Addr) (p : Int64) (v : Addr) (nr : Int64) (h0 : Heap) (vR : Option Value) (hR : Heap) (LR : List Loc) : Prop := vR = none ∧ Fr Z.heap.size LR ∧ Keep h0 hR [o] ∧ Fld Z hR o xS3 "writeTimestamp" "J" (.long p) ∧ Fld Z hR o xS3 "value" xS9 (.ref v)
theorem cold (l : Launch) (Z : State) (a0 : Array Value) (hw : ∀ d ∈ tables_1, d.before a0 Z = true) (o : Addr) (p : Int64) (v : Addr) (nr : Int64) (h0 : Heap) (O0 : Ext Z.heap h0) (Eo : Exa Z h0 o xS3) (g_o : Z.heap.size ≤ o) (F0 : Fld Z h0 o xS3 "writeTimestamp" "J" (.long 0)) (F1 : Fld Z h0 o xS3 "value" xS9 .null) (F2 : Fld Z h0 o xS3 "readTimestamp" "J" (.long 0)) :
    Ctr l Z h0 (⟨xS3, "<init>", "(JLjava/lang/Object;J)V"⟩ : MethodName) k11 6 none [] ({ frames := 1, cells := 0, slots := 0, locals := 12 } : Room) #[(.ref o), (.long p), (.ref v), (.long nr)] (Q_cold Z o p v nr h0) := by
  refine enter (plainFor_of_name pn5) ?_
  intro pp ee ss mm below meth cc s₁ hx hby hml hZ hown hnm hret hlk X0 e0 hs0
  replace hown : ss.vm.findClass xS3 = some mm.cls := hown
  refine Go.cast (congrArg s₁.setTop (ef_cold mm o p v nr)) ?_
  have N0 := Fr.nil Z.heap.size
  have KP := Keep.refl h0 [o]
  show Go pp ee below _ (s₁.setTop (mkF mm 0 #[.val (.ref o), .val (.long p), .second, .val (.ref v), .val (.long nr), .second] []))
  refine Go.aloadN X0 hx (hb hby d11_0) rfl rfl (q := 1) rfl ?_
  refine Go.initO X0 hx hZ hown (wd75 hw) (wd14 hw) (wd15 hw) e0 (by rw [hml]; rfl) (hb hby d11_1) (by decide) (W := 0) (by exact Nat.le_refl _) (by decide) (q := 4) rfl ?_
  intro T101 X101 e101
  refine Go.aloadN X101 hx (hb hby d11_4) rfl rfl (q := 5) rfl ?_
  refine Go.lloadN X101 hx (hb hby d11_5) rfl (q := 6) rfl ?_
  refine Go.putF X101 hx hZ hown (host := "") (Or.inl (wd76 hw)) Via.refl e101 F0 Eo (Or.inr ⟨(wd77 hw), rfl, hnm⟩) (wd70 hw) (ty := .long) (by decide) rfl rfl (hb hby d11_6) (q := 9) rfl ?_
  intro T102 h102 X102 e102 W102 F102
  have N102 := Fr.snoc X102 N0 g_o
  replace Eo := Eo.wr W102
  replace F1 := F1.other W102 (Or.inr (slot_ne (Or.inl (wd79 hw)) (Or.inr (wd77 hw)) (by decide) (t := (.object xS2)) (t' := .long) (by decide) (by decide)))
  replace F2 := F2.other W102 (Or.inr (slot_ne (Or.inl (wd81 hw)) (Or.inr (wd77 hw)) (by decide) (t := .long) (t' := .long) (by decide) (by decide)))
  have OW102 := ext_wr O0 W102 g_o
  replace KP := KP.wr W102 (Or.inl (List.mem_of_getElem? (i := 0) rfl))
  refine Go.aloadN X102 hx (hb hby d11_9) rfl rfl (q := 10) rfl ?_
  refine Go.aloadN X102 hx (hb hby d11_10) rfl rfl (q := 11) rfl ?_
  refine Go.putF X102 hx hZ hown (host := "") (Or.inl (wd78 hw)) Via.refl e102 F1 Eo (Or.inl (wd79 hw)) (wd70 hw) (ty := (.object xS2)) (by decide) rfl rfl (hb hby d11_11) (q := 14) rfl ?_
  intro T103 h103 X103 e103 W103 F103
  have N103 := Fr.snoc X103 N102 g_o
  replace Eo := Eo.wr W103
  replace F2 := F2.other W103 (Or.inr (slot_ne (Or.inl (wd81 hw)) (Or.inl (wd79 hw)) (by decide) (t := .long) (t' := (.object xS2)) (by decide) (by decide)))
  replace F102 := F102.other W103 (Or.inr (slot_ne (Or.inr (wd77 hw)) (Or.inl (wd79 hw)) (by decide) (t := .long) (t' := (.object xS2)) (by decide) (by decide)))
  have OW103 := ext_wr OW102 W103 g_o
  replace KP := KP.wr W103 (Or.inl (List.mem_of_getElem? (i := 0) rfl))
  refine Go.aloadN X103 hx (hb hby d11_14) rfl rfl (q := 15) rfl ?_
  refine Go.lload X103 hx (hb hby d11_15) rfl (q := 17) rfl ?_
  refine Go.putF X103 hx hZ hown (host := "") (Or.inl (wd80 hw)) Via.refl e103 F2 Eo (Or.inl (wd81 hw)) (wd70 hw) (ty := .long) (by decide) rfl rfl (hb hby d11_17) (q := 20) rfl ?_
  intro T104 h104 X104 e104 W104 F104
  have N104 := Fr.snoc X104 N103 g_o
  replace Eo := Eo.wr W104
  replace F102 := F102.other W104 (Or.inr (slot_ne (Or.inr (wd77 hw)) (Or.inl (wd81 hw)) (by decide) (t := .long) (t' := .long) (by decide) (by decide)))
  replace F103 := F103.other W104 (Or.inr (slot_ne (Or.inl (wd79 hw)) (Or.inl (wd81 hw)) (by decide) (t := (.object xS2)) (t' := .long) (by decide) (by decide)))
  have OW104 := ext_wr OW103 W104 g_o
  replace KP := KP.wr W104 (Or.inl (List.mem_of_getElem? (i := 0) rfl))
  exact Go.retV X104 hx hret hlk (hb hby d11_20) e104 (by decide) (by decide) ⟨rfl, N104, KP, F102, F103⟩
def Q_cver0 (Z : State) (o v : Addr) (h0 : Heap) (vR : Option Value) (hR : Heap) (LR : List Loc) : Prop := vR = none ∧ Fr Z.heap.size LR ∧ Keep h0 hR [o] ∧ Fld Z hR o xS0 "keepsOlder" "Z" (.int 0) ∧ Fld Z hR o xS0 "older" xS8 .null ∧ Fld Z hR o xS0 xS11 "J" (.long 0) ∧ Fld Z hR o xS0 "newestValue" xS9 (.ref v) ∧ Fld Z hR o xS0 xS12 "J" (.long 0)
theorem cver0 (l : Launch) (Z : State) (a0 : Array Value) (hw : ∀ d ∈ tables_1, d.before a0 Z = true) (o v : Addr) (h0 : Heap) (O0 : Ext Z.heap h0) (Eo : Exa Z h0 o xS0) (g_o : Z.heap.size ≤ o) (F0 : Fld Z h0 o xS0 "keepsOlder" "Z" (.int 0)) (F1 : Fld Z h0 o xS0 "older" xS8 .null) (F2 : Fld Z h0 o xS0 xS11 "J" (.long 0)) (F3 : Fld Z h0 o xS0 "newestValue" xS9 .null) (F4 : Fld Z h0 o xS0 xS12 "J" (.long 0)) :
    Ctr l Z h0 (⟨xS0, "<init>", "(Ljava/lang/Object;Z)V"⟩ : MethodName) k2 3 none [] ({ frames := 1, cells := 0, slots := 0, locals := 12 } : Room) #[(.ref o), (.ref v), (.int 0)] (Q_cver0 Z o v h0) := by
  refine enter (plainFor_of_name pn6) ?_
  intro pp ee ss mm below meth cc s₁ hx hby hml hZ hown hnm hret hlk X0 e0 hs0
  replace hown : ss.vm.findClass xS0 = some mm.cls := hown
  refine Go.cast (congrArg s₁.setTop (ef_cver0 mm o v)) ?_
  have N0 := Fr.nil Z.heap.size
  have KP := Keep.refl h0 [o]
  show Go pp ee below _ (s₁.setTop (mkF mm 0 #[.val (.ref o), .val (.ref v), .val (.int 0)] []))
  refine Go.aloadN X0 hx (hb hby d2_0) rfl rfl (q := 1) rfl ?_
  refine Go.initO X0 hx hZ hown (wd13 hw) (wd14 hw) (wd15 hw) e0 (by rw [hml]; rfl) (hb hby d2_1) (by decide) (W := 0) (by exact Nat.le_refl _) (by decide) (q := 4) rfl ?_
  intro T101 X101 e101
  refine Go.aloadN X101 hx (hb hby d2_4) rfl rfl (q := 5) rfl ?_
  refine Go.aloadN X101 hx (hb hby d2_5) rfl rfl (q := 6) rfl ?_
  refine Go.putF X101 hx hZ hown (host := "") (Or.inl (wd16 hw)) Via.refl e101 F3 Eo (Or.inl (wd17 hw)) (wd1 hw) (ty := (.object xS2)) (by decide) rfl rfl (hb hby d2_6) (q := 9) rfl ?_
  intro T102 h102 X102 e102 W102 F102
  have N102 := Fr.snoc X102 N0 g_o
  replace Eo := Eo.wr W102
  replace F0 := F0.other W102 (Or.inr (slot_ne (Or.inr (wd19 hw)) (Or.inl (wd17 hw)) (by decide) (t := .boolean) (t' := (.object xS2)) (by decide) (by decide)))
  replace F1 := F1.other W102 (Or.inr (slot_ne (Or.inl (wd26 hw)) (Or.inl (wd17 hw)) (by decide) (t := (.object xS10)) (t' := (.object xS2)) (by decide) (by decide)))
  replace F2 := F2.other W102 (Or.inr (slot_ne (Or.inl (wd33 hw)) (Or.inl (wd17 hw)) (by decide) (t := .long) (t' := (.object xS2)) (by decide) (by decide)))
  replace F4 := F4.other W102 (Or.inr (slot_ne (Or.inl (wd35 hw)) (Or.inl (wd17 hw)) (by decide) (t := .long) (t' := (.object xS2)) (by decide) (by decide)))
  have OW102 := ext_wr O0 W102 g_o
  replace KP := KP.wr W102 (Or.inl (List.mem_of_getElem? (i := 0) rfl))
  refine Go.aloadN X102 hx (hb hby d2_9) rfl rfl (q := 10) rfl ?_
  refine Go.iloadN X102 hx (hb hby d2_10) rfl (q := 11) rfl ?_
  refine Go.putF X102 hx hZ hown (host := "") (Or.inl (wd18 hw)) Via.refl e102 F0 Eo (Or.inr ⟨(wd19 hw), rfl, hnm⟩) (wd1 hw) (ty := .boolean) (by decide) rfl rfl (hb hby d2_11) (q := 14) rfl ?_
  intro T103 h103 X103 e103 W103 F103
  have N103 := Fr.snoc X103 N102 g_o
  replace Eo := Eo.wr W103
  replace F1 := F1.other W103 (Or.inr (slot_ne (Or.inl (wd26 hw)) (Or.inr (wd19 hw)) (by decide) (t := (.object xS10)) (t' := .boolean) (by decide) (by decide)))
  replace F2 := F2.other W103 (Or.inr (slot_ne (Or.inl (wd33 hw)) (Or.inr (wd19 hw)) (by decide) (t := .long) (t' := .boolean) (by decide) (by decide)))
  replace F4 := F4.other W103 (Or.inr (slot_ne (Or.inl (wd35 hw)) (Or.inr (wd19 hw)) (by decide) (t := .long) (t' := .boolean) (by decide) (by decide)))
  replace F102 := F102.other W103 (Or.inr (slot_ne (Or.inl (wd17 hw)) (Or.inr (wd19 hw)) (by decide) (t := (.object xS2)) (t' := .boolean) (by decide) (by decide)))
  have OW103 := ext_wr OW102 W103 g_o
  replace KP := KP.wr W103 (Or.inl (List.mem_of_getElem? (i := 0) rfl))
  exact Go.retV X103 hx hret hlk (hb hby d2_14) e103 (by decide) (by decide) ⟨rfl, N103, KP, F103, F1, F2, F102, F4⟩
def Q_cver1 (Z : State) (o v : Addr) (h0 : Heap) (vR : Option Value) (hR : Heap) (LR : List Loc) : Prop := vR = none ∧ Fr Z.heap.size LR ∧ Keep h0 hR [o] ∧ Fld Z hR o xS0 "keepsOlder" "Z" (.int 1) ∧ Fld Z hR o xS0 "older" xS8 .null ∧ Fld Z hR o xS0 xS11 "J" (.long 0) ∧ Fld Z hR o xS0 "newestValue" xS9 (.ref v) ∧ Fld Z hR o xS0 xS12 "J" (.long 0)
theorem cver1 (l : Launch) (Z : State) (a0 : Array Value) (hw : ∀ d ∈ tables_1, d.before a0 Z = true) (o v : Addr) (h0 : Heap) (O0 : Ext Z.heap h0) (Eo : Exa Z h0 o xS0) (g_o : Z.heap.size ≤ o) (F0 : Fld Z h0 o xS0 "keepsOlder" "Z" (.int 0)) (F1 : Fld Z h0 o xS0 "older" xS8 .null) (F2 : Fld Z h0 o xS0 xS11 "J" (.long 0)) (F3 : Fld Z h0 o xS0 "newestValue" xS9 .null) (F4 : Fld Z h0 o xS0 xS12 "J" (.long 0)) :
    Ctr l Z h0 (⟨xS0, "<init>", "(Ljava/lang/Object;Z)V"⟩ : MethodName) k2 3 none [] ({ frames := 1, cells := 0, slots := 0, locals := 12 } : Room) #[(.ref o), (.ref v), (.int 1)] (Q_cver1 Z o v h0) := by
  refine enter (plainFor_of_name pn6) ?_
  intro pp ee ss mm below meth cc s₁ hx hby hml hZ hown hnm hret hlk X0 e0 hs0
  replace hown : ss.vm.findClass xS0 = some mm.cls := hown
  refine Go.cast (congrArg s₁.setTop (ef_cver1 mm o v)) ?_
  have N0 := Fr.nil Z.heap.size
  have KP := Keep.refl h0 [o]
  show Go pp ee below _ (s₁.setTop (mkF mm 0 #[.val (.ref o), .val (.ref v), .val (.int 1)] []))
  refine Go.aloadN X0 hx (hb hby d2_0) rfl rfl (q := 1) rfl ?_
  refine Go.initO X0 hx hZ hown (wd13 hw) (wd14 hw) (wd15 hw) e0 (by rw [hml]; rfl) (hb hby d2_1) (by decide) (W := 0) (by exact Nat.le_refl _) (by decide) (q := 4) rfl ?_
  intro T101 X101 e101
  refine Go.aloadN X101 hx (hb hby d2_4) rfl rfl (q := 5) rfl ?_
  refine Go.aloadN X101 hx (hb hby d2_5) rfl rfl (q := 6) rfl ?_
  refine Go.putF X101 hx hZ hown (host := "") (Or.inl (wd16 hw)) Via.refl e101 F3 Eo (Or.inl (wd17 hw)) (wd1 hw) (ty := (.object xS2)) (by decide) rfl rfl (hb hby d2_6) (q := 9) rfl ?_
  intro T102 h102 X102 e102 W102 F102
  have N102 := Fr.snoc X102 N0 g_o
  replace Eo := Eo.wr W102
  replace F0 := F0.other W102 (Or.inr (slot_ne (Or.inr (wd19 hw)) (Or.inl (wd17 hw)) (by decide) (t := .boolean) (t' := (.object xS2)) (by decide) (by decide)))
  replace F1 := F1.other W102 (Or.inr (slot_ne (Or.inl (wd26 hw)) (Or.inl (wd17 hw)) (by decide) (t := (.object xS10)) (t' := (.object xS2)) (by decide) (by decide)))
  replace F2 := F2.other W102 (Or.inr (slot_ne (Or.inl (wd33 hw)) (Or.inl (wd17 hw)) (by decide) (t := .long) (t' := (.object xS2)) (by decide) (by decide)))
  replace F4 := F4.other W102 (Or.inr (slot_ne (Or.inl (wd35 hw)) (Or.inl (wd17 hw)) (by decide) (t := .long) (t' := (.object xS2)) (by decide) (by decide)))
  have OW102 := ext_wr O0 W102 g_o
  replace KP := KP.wr W102 (Or.inl (List.mem_of_getElem? (i := 0) rfl))
  refine Go.aloadN X102 hx (hb hby d2_9) rfl rfl (q := 10) rfl ?_
  refine Go.iloadN X102 hx (hb hby d2_10) rfl (q := 11) rfl ?_
  refine Go.putF X102 hx hZ hown (host := "") (Or.inl (wd18 hw)) Via.refl e102 F0 Eo (Or.inr ⟨(wd19 hw), rfl, hnm⟩) (wd1 hw) (ty := .boolean) (by decide) rfl rfl (hb hby d2_11) (q := 14) rfl ?_
  intro T103 h103 X103 e103 W103 F103
  have N103 := Fr.snoc X103 N102 g_o
  replace Eo := Eo.wr W103
  replace F1 := F1.other W103 (Or.inr (slot_ne (Or.inl (wd26 hw)) (Or.inr (wd19 hw)) (by decide) (t := (.object xS10)) (t' := .boolean) (by decide) (by decide)))
  replace F2 := F2.other W103 (Or.inr (slot_ne (Or.inl (wd33 hw)) (Or.inr (wd19 hw)) (by decide) (t := .long) (t' := .boolean) (by decide) (by decide)))
  replace F4 := F4.other W103 (Or.inr (slot_ne (Or.inl (wd35 hw)) (Or.inr (wd19 hw)) (by decide) (t := .long) (t' := .boolean) (by decide) (by decide)))
  replace F102 := F102.other W103 (Or.inr (slot_ne (Or.inl (wd17 hw)) (Or.inr (wd19 hw)) (by decide) (t := (.object xS2)) (t' := .boolean) (by decide) (by decide)))
  have OW103 := ext_wr OW102 W103 g_o
  replace KP := KP.wr W103 (Or.inl (List.mem_of_getElem? (i := 0) rfl))
  exact Go.retV X103 hx hret hlk (hb hby d2_14) e103 (by decide) (by decide) ⟨rfl, N103, KP, F103, F1, F2, F102, F4⟩
def Q_cho0 (Z : State) (o : Addr) (h0 : Heap) (vR : Option Value) (hR : Heap) (LR : List Loc) : Prop := vR = some (.int 0) ∧ Fr Z.heap.size LR ∧ hR = h0
theorem cho0 (l : Launch) (Z : State) (a0 : Array Value) (hw : ∀ d ∈ tables_1, d.before a0 Z = true) (o : Addr) (h0 : Heap) (O0 : Ext Z.heap h0) (F : Fld Z h0 o xS0 "older" xS8 .null) :
    Ctr l Z h0 (⟨xS0, "holdsOlder", "()Z"⟩ : MethodName) k4 1 (some .boolean) [] ({ frames := 0, cells := 0, slots := 0, locals := 0 } : Room) #[(.ref o)] (Q_cho0 Z o h0) := by
  refine enter (plainFor_of_name pn6) ?_
  intro pp ee ss mm below meth cc s₁ hx hby hml hZ hown hnm hret hlk X0 e0 hs0
  replace hown : ss.vm.findClass xS0 = some mm.cls := hown
  refine Go.cast (congrArg s₁.setTop (ef_cho0 mm o)) ?_
  have N0 := Fr.nil Z.heap.size
  show Go pp ee below _ (s₁.setTop (mkF mm 0 #[.val (.ref o)] []))
  refine Go.aloadN X0 hx (hb hby d4_0) rfl rfl (q := 1) rfl ?_
  refine Go.getF X0 hx hZ hown (host := "") (Or.inl (wd25 hw)) Via.refl e0 F (hb hby d4_1) (q := 4) rfl ?_
  intro T101 X101 e101
  refine Go.ifnullYes X101 hx (hb hby d4_4) (q := 11) (by decide) (by decide) ?_
  refine Go.iconst X101 hx (hb hby d4_11) (r := (0 : Int32)) rfl (q := 12) rfl ?_
  exact Go.retI X101 hx hret hlk (by simp) rfl (hb hby d4_12) e101 (by decide) (by decide) ⟨rfl, N0, rfl⟩
def Q_cho1 (Z : State) (o li : Addr) (h0 : Heap) (vR : Option Value) (hR : Heap) (LR : List Loc) : Prop := vR = some (.int 1) ∧ Fr Z.heap.size LR ∧ hR = h0
theorem cho1 (l : Launch) (Z : State) (a0 : Array Value) (hw : ∀ d ∈ tables_1, d.before a0 Z = true) (o li : Addr) (h0 : Heap) (O0 : Ext Z.heap h0) (F : Fld Z h0 o xS0 "older" xS8 (.ref li)) :
    Ctr l Z h0 (⟨xS0, "holdsOlder", "()Z"⟩ : MethodName) k4 1 (some .boolean) [] ({ frames := 0, cells := 0, slots := 0, locals := 0 } : Room) #[(.ref o)] (Q_cho1 Z o li h0) := by
  refine enter (plainFor_of_name pn6) ?_
  intro pp ee ss mm below meth cc s₁ hx hby hml hZ hown hnm hret hlk X0 e0 hs0
  replace hown : ss.vm.findClass xS0 = some mm.cls := hown
  refine Go.cast (congrArg s₁.setTop (ef_cho1 mm o)) ?_
  have N0 := Fr.nil Z.heap.size
  show Go pp ee below _ (s₁.setTop (mkF mm 0 #[.val (.ref o)] []))
  refine Go.aloadN X0 hx (hb hby d4_0) rfl rfl (q := 1) rfl ?_
  refine Go.getF X0 hx hZ hown (host := "") (Or.inl (wd25 hw)) Via.refl e0 F (hb hby d4_1) (q := 4) rfl ?_
  intro T101 X101 e101
  refine Go.ifnullNo X101 hx (hb hby d4_4) (q := 7) rfl ?_
  refine Go.iconst X101 hx (hb hby d4_7) (r := (1 : Int32)) rfl (q := 8) rfl ?_
  refine Go.goto X101 hx (hb hby d4_8) (q := 12) (by decide) (by decide) ?_
  exact Go.retI X101 hx hret hlk (by simp) rfl (hb hby d4_12) e101 (by decide) (by decide) ⟨rfl, N0, rfl⟩
def Q_ccn0 (Z : State) (o : Addr) (h0 : Heap) (vR : Option Value) (hR : Heap) (LR : List Loc) : Prop := vR = some (.int 1) ∧ Fr Z.heap.size LR ∧ hR = h0
theorem ccn0 (l : Launch) (Z : State) (a0 : Array Value) (hw : ∀ d ∈ tables_1, d.before a0 Z = true) (o : Addr) (h0 : Heap) (O0 : Ext Z.heap h0) (F : Fld Z h0 o xS0 "older" xS8 .null) :
    Ctr l Z h0 (⟨xS0, "count", "()I"⟩ : MethodName) k6 1 (some .int) [] ({ frames := 0, cells := 0, slots := 0, locals := 0 } : Room) #[(.ref o)] (Q_ccn0 Z o h0) := by
  refine enter (plainFor_of_name pn6) ?_
  intro pp ee ss mm below meth cc s₁ hx hby hml hZ hown hnm hret hlk X0 e0 hs0
  replace hown : ss.vm.findClass xS0 = some mm.cls := hown
  refine Go.cast (congrArg s₁.setTop (ef_ccn0 mm o)) ?_
  have N0 := Fr.nil Z.heap.size
  show Go pp ee below _ (s₁.setTop (mkF mm 0 #[.val (.ref o)] []))
  refine Go.iconst X0 hx (hb hby d6_0) (r := (1 : Int32)) rfl (q := 1) rfl ?_
  refine Go.aloadN X0 hx (hb hby d6_1) rfl rfl (q := 2) rfl ?_
  refine Go.getF X0 hx hZ hown (host := "") (Or.inl (wd25 hw)) Via.refl e0 F (hb hby d6_2) (q := 5) rfl ?_
  intro T101 X101 e101
  refine Go.ifnonnullNo X101 hx (hb hby d6_5) (q := 8) rfl ?_
  refine Go.iconst X101 hx (hb hby d6_8) (r := (0 : Int32)) rfl (q := 9) rfl ?_
  refine Go.goto X101 hx (hb hby d6_9) (q := 21) (by decide) (by decide) ?_
  refine Go.iadd X101 hx (hb hby d6_21) (r := (1 : Int32)) rfl (q := 22) rfl ?_
  exact Go.retI X101 hx hret hlk (Or.inl rfl) rfl (hb hby d6_22) e101 (by decide) (by decide) ⟨rfl, N0, rfl⟩
def Q_ccn1 (Z : State) (o li : Addr) (nn : Int32) (h0 : Heap) (vR : Option Value) (hR : Heap) (LR : List Loc) : Prop := vR = some (.int ((1 : Int32) + nn)) ∧ Fr Z.heap.size LR ∧ hR = h0
theorem ccn1 (l : Launch) (Z : State) (a0 : Array Value) (hw : ∀ d ∈ tables_1, d.before a0 Z = true) (o li : Addr) (nn : Int32) (h0 : Heap) (O0 : Ext Z.heap h0) (F : Fld Z h0 o xS0 "older" xS8 (.ref li)) (El : Exa Z h0 li xS1) (Fs : Fld Z h0 li xS1 "size" "I" (.int nn)) :
    Ctr l Z h0 (⟨xS0, "count", "()I"⟩ : MethodName) k6 1 (some .int) [] ({ frames := 1, cells := 0, slots := 0, locals := 13 } : Room) #[(.ref o)] (Q_ccn1 Z o li nn h0) := by
  refine enter (plainFor_of_name pn6) ?_
  intro pp ee ss mm below meth cc s₁ hx hby hml hZ hown hnm hret hlk X0 e0 hs0
  replace hown : ss.vm.findClass xS0 = some mm.cls := hown
  refine Go.cast (congrArg s₁.setTop (ef_ccn1 mm o)) ?_
  have N0 := Fr.nil Z.heap.size
  show Go pp ee below _ (s₁.setTop (mkF mm 0 #[.val (.ref o)] []))
  refine Go.iconst X0 hx (hb hby d6_0) (r := (1 : Int32)) rfl (q := 1) rfl ?_
  refine Go.aloadN X0 hx (hb hby d6_1) rfl rfl (q := 2) rfl ?_
  refine Go.getF X0 hx hZ hown (host := "") (Or.inl (wd25 hw)) Via.refl e0 F (hb hby d6_2) (q := 5) rfl ?_
  intro T101 X101 e101
  refine Go.ifnonnullYes X101 hx (hb hby d6_5) (q := 12) (by decide) (by decide) ?_
  refine Go.aloadN X101 hx (hb hby d6_12) rfl rfl (q := 13) rfl ?_
  refine Go.getF X101 hx hZ hown (host := "") (Or.inl (wd25 hw)) Via.refl e101 F (hb hby d6_13) (q := 16) rfl ?_
  intro T102 X102 e102
  refine Go.face X102 hx hZ hown (wd117 hw) (wd118 hw) (wd119 hw) (wd120 hw) (wd121 hw) (wd122 hw) (wd123 hw) (wd89 hw) (wd47 hw) (wd124 hw) (by decide) (csize l Z a0 hw li nn h0 O0 Fs) e102 El (by rw [hml]; rfl) (hb hby d6_16) (argsL := []) (rest := [(.int 1)]) (lenOf pd8 rfl) rfl rfl (W := 1) (by first | exact Nat.le_refl _ | decide) (by decide) (by decide) (by decide) (by decide) ?_
  intro v103 T103 L103 X103 hQ103
  obtain ⟨rfl, N103q, e103⟩ := hQ103
  have N103 := Fr.app N0 N103q
  refine Go.iadd X103 hx (hb hby d6_21) rfl (q := 22) rfl ?_
  exact Go.retI X103 hx hret hlk (Or.inl rfl) rfl (hb hby d6_22) e103 (by decide) (by decide) ⟨rfl, N103, rfl⟩
def Q_coll0 (Z : State) (o : Addr) (n : Int64) (nv : Addr) (nr : Int64) (de : Addr) (h0 : Heap) (vR : Option Value) (hR : Heap) (LR : List Loc) : Prop := ∃ li : Addr, vR = some (.ref li) ∧ Fr Z.heap.size LR ∧ Keep h0 hR [o] ∧ h0.size ≤ li ∧ Fld Z hR o xS0 "keepsOlder" "Z" (.int 1) ∧ Fld Z hR o xS0 "older" xS8 (.ref li) ∧ Fld Z hR o xS0 xS11 "J" (.long n) ∧ Fld Z hR o xS0 "newestValue" xS9 (.ref nv) ∧ Fld Z hR o xS0 xS12 "J" (.long nr) ∧ Exa Z hR li xS1 ∧ Fld Z hR li xS1 xS7 xS6 (.ref de) ∧ Fld Z hR li xS1 "size" "I" (.int 0) ∧ Fld Z hR li xS5 "modCount" "I" (.int 0)
theorem coll0 (l : Launch) (Z : State) (a0 : Array Value) (hw : ∀ d ∈ tables_1, d.before a0 Z = true) (o : Addr) (n : Int64) (nv : Addr) (nr : Int64) (de : Addr) (h0 : Heap) (O0 : Ext Z.heap h0) (Eo : Exa Z h0 o xS0) (g_o : Z.heap.size ≤ o) (F0 : Fld Z h0 o xS0 "keepsOlder" "Z" (.int 1)) (F1 : Fld Z h0 o xS0 "older" xS8 .null) (F2 : Fld Z h0 o xS0 xS11 "J" (.long n)) (F3 : Fld Z h0 o xS0 "newestValue" xS9 (.ref nv)) (F4 : Fld Z h0 o xS0 xS12 "J" (.long nr)) (SD : Sta Z Z.heap xS1 "DEFAULTCAPACITY_EMPTY_ELEMENTDATA" xS6 (.ref de)) :
    Ctr l Z h0 (⟨xS0, "olderList", "()Ljava/util/List;"⟩ : MethodName) k7 1 (some (.object xS10)) [] ({ frames := 4, cells := 1, slots := 3, locals := 50 } : Room) #[(.ref o)] (Q_coll0 Z o n nv nr de h0) := by
  refine enter (plainFor_of_name pn6) ?_
  intro pp ee ss mm below meth cc s₁ hx hby hml hZ hown hnm hret hlk X0 e0 hs0
  replace hown : ss.vm.findClass xS0 = some mm.cls := hown
  refine Go.cast (congrArg s₁.setTop (ef_coll0 mm o)) ?_
  have N0 := Fr.nil Z.heap.size
  have KP := Keep.refl h0 [o]
  show Go pp ee below _ (s₁.setTop (mkF mm 0 #[.val (.ref o)] []))
  refine Go.aloadN X0 hx (hb hby d7_0) rfl rfl (q := 1) rfl ?_
  refine Go.getF X0 hx hZ hown (host := "") (Or.inl (wd25 hw)) Via.refl e0 F1 (hb hby d7_1) (q := 4) rfl ?_
  intro T101 X101 e101
  refine Go.ifnonnullNo X101 hx (hb hby d7_4) (q := 7) rfl ?_
  refine Go.aloadN X101 hx (hb hby d7_7) rfl rfl (q := 8) rfl ?_
  refine Go.newO X101 hx hZ hown (wd45 hw) (wd46 hw) (wd47 hw) e101 (hb hby d7_8) (by decide) (by decide) (q := 11) rfl ?_
  intro b102 T102 h102 X102 e102 q102 E102 A102 D102 U102
  have ne_o_b102 : o ≠ b102 := ne_new Eo.lt (Nat.le_of_eq q102)
  have g_b102 : Z.heap.size ≤ b102 := Nat.le_trans O0.1 (Nat.le_of_eq q102)
  have z_b102 : h0.size ≤ b102 := Nat.le_trans KP.1 (Nat.le_of_eq q102)
  replace Eo := Eo.ext E102
  replace F0 := F0.ext E102
  replace F1 := F1.ext E102
  replace F2 := F2.ext E102
  replace F3 := F3.ext E102
  replace F4 := F4.ext E102
  have OE102 := ext_trans O0 E102
  replace KP := KP.ext E102
  have F102_modCount : Fld Z h102 b102 xS5 "modCount" "I" (.int 0) := D102 (Or.inl (wd65 hw)) (ty := .int) (by decide)
  have F102_elementData : Fld Z h102 b102 xS1 xS7 xS6 .null := D102 (Or.inl (wd68 hw)) (ty := (.array (.object xS2))) (by decide)
  have F102_size : Fld Z h102 b102 xS1 "size" "I" (.int 0) := D102 (Or.inl (wd94 hw)) (ty := .int) (by decide)
  clear D102
  refine Go.dup X102 hx (hb hby d7_11) rfl (q := 12) rfl ?_
  refine Go.init X102 hx hZ hown rfl (wd48 hw) (wd49 hw) (wd47 hw) (wd50 hw) (by decide) (cali l Z a0 hw b102 de h102 OE102 A102 g_b102 F102_elementData F102_size F102_modCount SD) e102 (by rw [hml]; rfl) (hb hby d7_12) (argsL := []) (rest := [(.ref b102), (.ref o)]) (lenOf pd0 rfl) rfl rfl (W := 2) (by first | exact Nat.le_refl _ | decide) (by decide) (by decide) (by decide) (by decide) ?_
  intro v103 T103 L103 X103 hQ103
  obtain ⟨h103, e103⟩ : ∃ z, T103.heap = z := ⟨_, rfl⟩
  rw [e103] at hQ103
  obtain ⟨rfl, N103q, K103, P103_0, P103_1, P103_2⟩ := hQ103
  have N103 := Fr.app N0 N103q
  replace Eo := Eo.keep K103
  replace F0 := F0.keep K103 (ninS ne_o_b102 nin0)
  replace F1 := F1.keep K103 (ninS ne_o_b102 nin0)
  replace F2 := F2.keep K103 (ninS ne_o_b102 nin0)
  replace F3 := F3.keep K103 (ninS ne_o_b102 nin0)
  replace F4 := F4.keep K103 (ninS ne_o_b102 nin0)
  replace A102 := A102.keep K103
  have OK103 := ext_keep OE102 K103 (allS g_b102 all0)
  replace KP := KP.trans K103 (allS (Or.inr z_b102) all0)
  refine Go.putF X103 hx hZ hown (host := "") (Or.inl (wd25 hw)) Via.refl e103 F1 Eo (Or.inl (wd26 hw)) (wd1 hw) (ty := (.object xS10)) (by decide) rfl rfl (hb hby d7_15) (q := 18) rfl ?_
  intro T104 h104 X104 e104 W104 F104
  have N104 := Fr.snoc X104 N103 g_o
  replace Eo := Eo.wr W104
  replace F0 := F0.other W104 (Or.inr (slot_ne (Or.inr (wd19 hw)) (Or.inl (wd26 hw)) (by decide) (t := .boolean) (t' := (.object xS10)) (by decide) (by decide)))
  replace F2 := F2.other W104 (Or.inr (slot_ne (Or.inl (wd33 hw)) (Or.inl (wd26 hw)) (by decide) (t := .long) (t' := (.object xS10)) (by decide) (by decide)))
  replace F3 := F3.other W104 (Or.inr (slot_ne (Or.inl (wd17 hw)) (Or.inl (wd26 hw)) (by decide) (t := (.object xS2)) (t' := (.object xS10)) (by decide) (by decide)))
  replace F4 := F4.other W104 (Or.inr (slot_ne (Or.inl (wd35 hw)) (Or.inl (wd26 hw)) (by decide) (t := .long) (t' := (.object xS10)) (by decide) (by decide)))
  replace A102 := A102.wr W104
  replace P103_0 := P103_0.other W104 (Or.inl (Ne.symm ne_o_b102))
  replace P103_1 := P103_1.other W104 (Or.inl (Ne.symm ne_o_b102))
  replace P103_2 := P103_2.other W104 (Or.inl (Ne.symm ne_o_b102))
  have OW104 := ext_wr OK103 W104 g_o
  replace KP := KP.wr W104 (Or.inl (List.mem_of_getElem? (i := 0) rfl))
  refine Go.aloadN X104 hx (hb hby d7_18) rfl rfl (q := 19) rfl ?_
  refine Go.getF X104 hx hZ hown (host := "") (Or.inl (wd25 hw)) Via.refl e104 F104 (hb hby d7_19) (q := 22) rfl ?_
  intro T105 X105 e105
  exact Go.retA X105 hx hret hlk rfl rfl (hb hby d7_22) e105 (by decide) (by decide) ⟨b102, rfl, N104, KP, z_b102, F0, F104, F2, F3, F4, A102, P103_0, P103_1, P103_2⟩
def Q_coll1 (Z : State) (o li : Addr) (h0 : Heap) (vR : Option Value) (hR : Heap) (LR : List Loc) : Prop := vR = some (.ref li) ∧ Fr Z.heap.size LR ∧ hR = h0
theorem coll1 (l : Launch) (Z : State) (a0 : Array Value) (hw : ∀ d ∈ tables_1, d.before a0 Z = true) (o li : Addr) (h0 : Heap) (O0 : Ext Z.heap h0) (F : Fld Z h0 o xS0 "older" xS8 (.ref li)) :
    Ctr l Z h0 (⟨xS0, "olderList", "()Ljava/util/List;"⟩ : MethodName) k7 1 (some (.object xS10)) [] ({ frames := 0, cells := 0, slots := 0, locals := 0 } : Room) #[(.ref o)] (Q_coll1 Z o li h0) := by
  refine enter (plainFor_of_name pn6) ?_
  intro pp ee ss mm below meth cc s₁ hx hby hml hZ hown hnm hret hlk X0 e0 hs0
  replace hown : ss.vm.findClass xS0 = some mm.cls := hown
  refine Go.cast (congrArg s₁.setTop (ef_coll1 mm o)) ?_
  have N0 := Fr.nil Z.heap.size
  show Go pp ee below _ (s₁.setTop (mkF mm 0 #[.val (.ref o)] []))
  refine Go.aloadN X0 hx (hb hby d7_0) rfl rfl (q := 1) rfl ?_
  refine Go.getF X0 hx hZ hown (host := "") (Or.inl (wd25 hw)) Via.refl e0 F (hb hby d7_1) (q := 4) rfl ?_
  intro T101 X101 e101
  refine Go.ifnonnullYes X101 hx (hb hby d7_4) (q := 18) (by decide) (by decide) ?_
  refine Go.aloadN X101 hx (hb hby d7_18) rfl rfl (q := 19) rfl ?_
  refine Go.getF X101 hx hZ hown (host := "") (Or.inl (wd25 hw)) Via.refl e101 F (hb hby d7_19) (q := 22) rfl ?_
  intro T102 X102 e102
  exact Go.retA X102 hx hret hlk rfl rfl (hb hby d7_22) e102 (by decide) (by decide) ⟨rfl, N0, rfl⟩
def Q_cona0 (Z : State) (o : Addr) (p : Int64) (h0 : Heap) (vR : Option Value) (hR : Heap) (LR : List Loc) : Prop := vR = some (.int (-1)) ∧ Fr Z.heap.size LR ∧ hR = h0
theorem cona0 (l : Launch) (Z : State) (a0 : Array Value) (hw : ∀ d ∈ tables_1, d.before a0 Z = true) (o : Addr) (p : Int64) (h0 : Heap) (O0 : Ext Z.heap h0) (F : Fld Z h0 o xS0 "older" xS8 .null) :
    Ctr l Z h0 (⟨xS0, "olderNotAbove", "(J)I"⟩ : MethodName) k20 6 (some .int) [] ({ frames := 0, cells := 0, slots := 0, locals := 0 } : Room) #[(.ref o), (.long p)] (Q_cona0 Z o p h0) := by
  refine enter (plainFor_of_name pn6) ?_
  intro pp ee ss mm below meth cc s₁ hx hby hml hZ hown hnm hret hlk X0 e0 hs0
  replace hown : ss.vm.findClass xS0 = some mm.cls := hown
  refine Go.cast (congrArg s₁.setTop (ef_cona0 mm o p)) ?_
  have N0 := Fr.nil Z.heap.size
  show Go pp ee below _ (s₁.setTop (mkF mm 0 #[.val (.ref o), .val (.long p), .second, .unset, .unset, .unset] []))
  refine Go.iconst X0 hx (hb hby d20_0) (r := (0 : Int32)) rfl (q := 1) rfl ?_
  refine Go.istoreN X0 hx (hb hby d20_1) (l' := #[.val (.ref o), .val (.long p), .second, .val (.int 0), .unset, .unset]) rfl (q := 2) rfl ?_
  refine Go.aloadN X0 hx (hb hby d20_2) rfl rfl (q := 3) rfl ?_
  refine Go.getF X0 hx hZ hown (host := "") (Or.inl (wd25 hw)) Via.refl e0 F (hb hby d20_3) (q := 6) rfl ?_
  intro T101 X101 e101
  refine Go.ifnonnullNo X101 hx (hb hby d20_6) (q := 9) rfl ?_
  refine Go.iconst X101 hx (hb hby d20_9) (r := (-1 : Int32)) rfl (q := 10) rfl ?_
  refine Go.goto X101 hx (hb hby d20_10) (q := 24) (by decide) (by decide) ?_
  refine Go.istore X101 hx (hb hby d20_24) (l' := #[.val (.ref o), .val (.long p), .second, .val (.int 0), .val (.int (-1)), .unset]) rfl (q := 26) rfl ?_
  refine Go.iloadN X101 hx (hb hby d20_26) rfl (q := 27) rfl ?_
  refine Go.iload X101 hx (hb hby d20_27) rfl (q := 29) rfl ?_
  refine Go.icmpYes X101 hx (hb hby d20_29) (by decide) (q := 79) (by decide) (by decide) ?_
  refine Go.iload X101 hx (hb hby d20_79) rfl (q := 81) rfl ?_
  exact Go.retI X101 hx hret hlk (Or.inl rfl) rfl (hb hby d20_81) e101 (by decide) (by decide) ⟨rfl, N0, rfl⟩
def Q_cona_1_0 (Z : State) (o : Addr) (p : Int64) (li d x0 : Addr) (w0 : Int64) (mc : Int32) (kd : ClassId) (h0 : Heap) (vR : Option Value) (hR : Heap) (LR : List Loc) : Prop := vR = some (.int (-1)) ∧ Fr Z.heap.size LR ∧ hR = h0
theorem cona_1_0 (l : Launch) (Z : State) (a0 : Array Value) (hw : ∀ d ∈ tables_1, d.before a0 Z = true) (o : Addr) (p : Int64) (li d x0 : Addr) (w0 : Int64) (mc : Int32) (kd : ClassId) (h0 : Heap) (O0 : Ext Z.heap h0) (F : Fld Z h0 o xS0 "older" xS8 (.ref li)) (El : Exa Z h0 li xS1) (Fed : Fld Z h0 li xS1 xS7 xS6 (.ref d)) (Fsz : Fld Z h0 li xS1 "size" "I" (.int 1)) (Fmc : Fld Z h0 li xS5 "modCount" "I" (.int mc)) (Vd : Arv Z h0 d kd (.object xS2) (10 : Int32) [(.ref x0), .null, .null, .null, .null, .null, .null, .null, .null, .null] .null) (Ex0 : Exa Z h0 x0 xS3) (Fw0 : Fld Z h0 x0 xS3 "writeTimestamp" "J" (.long w0)) (hh0 : p < w0) :
    Ctr l Z h0 (⟨xS0, "olderNotAbove", "(J)I"⟩ : MethodName) k20 6 (some .int) [] ({ frames := 3, cells := 0, slots := 0, locals := 40 } : Room) #[(.ref o), (.long p)] (Q_cona_1_0 Z o p li d x0 w0 mc kd h0) := by
  refine enter (plainFor_of_name pn6) ?_
  intro pp ee ss mm below meth cc s₁ hx hby hml hZ hown hnm hret hlk X0 e0 hs0
  replace hown : ss.vm.findClass xS0 = some mm.cls := hown
  refine Go.cast (congrArg s₁.setTop (ef_cona_1_0 mm o p)) ?_
  have N0 := Fr.nil Z.heap.size
  show Go pp ee below _ (s₁.setTop (mkF mm 0 #[.val (.ref o), .val (.long p), .second, .unset, .unset, .unset] []))
  refine Go.iconst X0 hx (hb hby d20_0) (r := (0 : Int32)) rfl (q := 1) rfl ?_
  refine Go.istoreN X0 hx (hb hby d20_1) (l' := #[.val (.ref o), .val (.long p), .second, .val (.int 0), .unset, .unset]) rfl (q := 2) rfl ?_
  refine Go.aloadN X0 hx (hb hby d20_2) rfl rfl (q := 3) rfl ?_
  refine Go.getF X0 hx hZ hown (host := "") (Or.inl (wd25 hw)) Via.refl e0 F (hb hby d20_3) (q := 6) rfl ?_
  intro T101 X101 e101
  refine Go.ifnonnullYes X101 hx (hb hby d20_6) (q := 13) (by decide) (by decide) ?_
  refine Go.aloadN X101 hx (hb hby d20_13) rfl rfl (q := 14) rfl ?_
  refine Go.getF X101 hx hZ hown (host := "") (Or.inl (wd25 hw)) Via.refl e101 F (hb hby d20_14) (q := 17) rfl ?_
  intro T102 X102 e102
  refine Go.face X102 hx hZ hown (wd117 hw) (wd118 hw) (wd119 hw) (wd120 hw) (wd121 hw) (wd122 hw) (wd123 hw) (wd89 hw) (wd47 hw) (wd124 hw) (by decide) (csize l Z a0 hw li ((1 : Int32)) h0 O0 Fsz) e102 El (by rw [hml]; rfl) (hb hby d20_17) (argsL := []) (rest := []) (lenOf pd8 rfl) rfl rfl (W := 0) (by first | exact Nat.le_refl _ | decide) (by decide) (by decide) (by decide) (by decide) ?_
  intro v103 T103 L103 X103 hQ103
  obtain ⟨rfl, N103q, e103⟩ := hQ103
  have N103 := Fr.app N0 N103q
  refine Go.iconst X103 hx (hb hby d20_22) (r := (1 : Int32)) rfl (q := 23) rfl ?_
  refine Go.isub X103 hx (hb hby d20_23) (r := (0 : Int32)) rfl (q := 24) rfl ?_
  refine Go.istore X103 hx (hb hby d20_24) (l' := #[.val (.ref o), .val (.long p), .second, .val (.int 0), .val (.int 0), .unset]) rfl (q := 26) rfl ?_
  refine Go.iloadN X103 hx (hb hby d20_26) rfl (q := 27) rfl ?_
  refine Go.iload X103 hx (hb hby d20_27) rfl (q := 29) rfl ?_
  refine Go.icmpNo X103 hx (hb hby d20_29) (by decide) (q := 32) rfl ?_
  refine Go.iloadN X103 hx (hb hby d20_32) rfl (q := 33) rfl ?_
  refine Go.iload X103 hx (hb hby d20_33) rfl (q := 35) rfl ?_
  refine Go.iadd X103 hx (hb hby d20_35) (r := (0 : Int32)) rfl (q := 36) rfl ?_
  refine Go.iconst X103 hx (hb hby d20_36) (r := (1 : Int32)) rfl (q := 37) rfl ?_
  refine Go.iushr X103 hx (hb hby d20_37) (r := (0 : Int32)) rfl (q := 38) rfl ?_
  refine Go.istore X103 hx (hb hby d20_38) (l' := #[.val (.ref o), .val (.long p), .second, .val (.int 0), .val (.int 0), .val (.int 0)]) rfl (q := 40) rfl ?_
  refine Go.aloadN X103 hx (hb hby d20_40) rfl rfl (q := 41) rfl ?_
  refine Go.getF X103 hx hZ hown (host := "") (Or.inl (wd25 hw)) Via.refl e103 F (hb hby d20_41) (q := 44) rfl ?_
  intro T104 X104 e104
  refine Go.iload X104 hx (hb hby d20_44) rfl (q := 46) rfl ?_
  refine Go.face X104 hx hZ hown (wd137 hw) (wd138 hw) (wd139 hw) (wd140 hw) (wd141 hw) (wd142 hw) (wd143 hw) (wd89 hw) (wd47 hw) (wd144 hw) (by decide) (cget_1_0 l Z a0 hw li d x0 (kd) h0 O0 El Fsz Fed Vd) e104 El (by rw [hml]; rfl) (hb hby d20_46) (argsL := [(.int 0)]) (rest := []) (lenOf pd7 rfl) rfl rfl (W := 0) (by first | exact Nat.le_refl _ | decide) (by decide) (by decide) (by decide) (by decide) ?_
  intro v105 T105 L105 X105 hQ105
  obtain ⟨rfl, N105q, e105⟩ := hQ105
  have N105 := Fr.app N103 N105q
  refine Go.castY X105 hx hZ hown (wd69 hw) e105 (Ins.self Ex0) (hb hby d20_51) (q := 54) rfl ?_
  intro T106 X106 e106
  refine Go.getF X106 hx hZ hown (host := "") (Or.inl (wd159 hw)) Via.refl e106 Fw0 (hb hby d20_54) (q := 57) rfl ?_
  intro T107 X107 e107
  refine Go.lloadN X107 hx (hb hby d20_57) rfl (q := 58) rfl ?_
  refine Go.lcmp X107 hx (hb hby d20_58) rfl (q := 59) rfl ?_
  refine Go.ifYes X107 hx (hb hby d20_59) (Jvm.Free.XT.ll_gt_t hh0) (q := 70) (by decide) (by decide) ?_
  refine Go.iload X107 hx (hb hby d20_70) rfl (q := 72) rfl ?_
  refine Go.iconst X107 hx (hb hby d20_72) (r := (1 : Int32)) rfl (q := 73) rfl ?_
  refine Go.isub X107 hx (hb hby d20_73) (r := (-1 : Int32)) rfl (q := 74) rfl ?_
  refine Go.istore X107 hx (hb hby d20_74) (l' := #[.val (.ref o), .val (.long p), .second, .val (.int 0), .val (.int (-1)), .val (.int 0)]) rfl (q := 76) rfl ?_
  refine Go.goto X107 hx (hb hby d20_76) (q := 26) (by decide) (by decide) ?_
  refine Go.iloadN X107 hx (hb hby d20_26) rfl (q := 27) rfl ?_
  refine Go.iload X107 hx (hb hby d20_27) rfl (q := 29) rfl ?_
  refine Go.icmpYes X107 hx (hb hby d20_29) (by decide) (q := 79) (by decide) (by decide) ?_
  refine Go.iload X107 hx (hb hby d20_79) rfl (q := 81) rfl ?_
  exact Go.retI X107 hx hret hlk (Or.inl rfl) rfl (hb hby d20_81) e107 (by decide) (by decide) ⟨rfl, N105, rfl⟩
def Q_cona_1_1 (Z : State) (o : Addr) (p : Int64) (li d x0 : Addr) (w0 : Int64) (mc : Int32) (kd : ClassId) (h0 : Heap) (vR : Option Value) (hR : Heap) (LR : List Loc) : Prop := vR = some (.int 0) ∧ Fr Z.heap.size LR ∧ hR = h0
theorem cona_1_1 (l : Launch) (Z : State) (a0 : Array Value) (hw : ∀ d ∈ tables_1, d.before a0 Z = true) (o : Addr) (p : Int64) (li d x0 : Addr) (w0 : Int64) (mc : Int32) (kd : ClassId) (h0 : Heap) (O0 : Ext Z.heap h0) (F : Fld Z h0 o xS0 "older" xS8 (.ref li)) (El : Exa Z h0 li xS1) (Fed : Fld Z h0 li xS1 xS7 xS6 (.ref d)) (Fsz : Fld Z h0 li xS1 "size" "I" (.int 1)) (Fmc : Fld Z h0 li xS5 "modCount" "I" (.int mc)) (Vd : Arv Z h0 d kd (.object xS2) (10 : Int32) [(.ref x0), .null, .null, .null, .null, .null, .null, .null, .null, .null] .null) (Ex0 : Exa Z h0 x0 xS3) (Fw0 : Fld Z h0 x0 xS3 "writeTimestamp" "J" (.long w0)) (hh0 : ¬ (p < w0)) :
    Ctr l Z h0 (⟨xS0, "olderNotAbove", "(J)I"⟩ : MethodName) k20 6 (some .int) [] ({ frames := 3, cells := 0, slots := 0, locals := 40 } : Room) #[(.ref o), (.long p)] (Q_cona_1_1 Z o p li d x0 w0 mc kd h0) := by
  refine enter (plainFor_of_name pn6) ?_
  intro pp ee ss mm below meth cc s₁ hx hby hml hZ hown hnm hret hlk X0 e0 hs0
  replace hown : ss.vm.findClass xS0 = some mm.cls := hown
  refine Go.cast (congrArg s₁.setTop (ef_cona_1_1 mm o p)) ?_
  have N0 := Fr.nil Z.heap.size
  show Go pp ee below _ (s₁.setTop (mkF mm 0 #[.val (.ref o), .val (.long p), .second, .unset, .unset, .unset] []))
  refine Go.iconst X0 hx (hb hby d20_0) (r := (0 : Int32)) rfl (q := 1) rfl ?_
  refine Go.istoreN X0 hx (hb hby d20_1) (l' := #[.val (.ref o), .val (.long p), .second, .val (.int 0), .unset, .unset]) rfl (q := 2) rfl ?_
  refine Go.aloadN X0 hx (hb hby d20_2) rfl rfl (q := 3) rfl ?_
  refine Go.getF X0 hx hZ hown (host := "") (Or.inl (wd25 hw)) Via.refl e0 F (hb hby d20_3) (q := 6) rfl ?_
  intro T101 X101 e101
  refine Go.ifnonnullYes X101 hx (hb hby d20_6) (q := 13) (by decide) (by decide) ?_
  refine Go.aloadN X101 hx (hb hby d20_13) rfl rfl (q := 14) rfl ?_
  refine Go.getF X101 hx hZ hown (host := "") (Or.inl (wd25 hw)) Via.refl e101 F (hb hby d20_14) (q := 17) rfl ?_
  intro T102 X102 e102
  refine Go.face X102 hx hZ hown (wd117 hw) (wd118 hw) (wd119 hw) (wd120 hw) (wd121 hw) (wd122 hw) (wd123 hw) (wd89 hw) (wd47 hw) (wd124 hw) (by decide) (csize l Z a0 hw li ((1 : Int32)) h0 O0 Fsz) e102 El (by rw [hml]; rfl) (hb hby d20_17) (argsL := []) (rest := []) (lenOf pd8 rfl) rfl rfl (W := 0) (by first | exact Nat.le_refl _ | decide) (by decide) (by decide) (by decide) (by decide) ?_
  intro v103 T103 L103 X103 hQ103
  obtain ⟨rfl, N103q, e103⟩ := hQ103
  have N103 := Fr.app N0 N103q
  refine Go.iconst X103 hx (hb hby d20_22) (r := (1 : Int32)) rfl (q := 23) rfl ?_
  refine Go.isub X103 hx (hb hby d20_23) (r := (0 : Int32)) rfl (q := 24) rfl ?_
  refine Go.istore X103 hx (hb hby d20_24) (l' := #[.val (.ref o), .val (.long p), .second, .val (.int 0), .val (.int 0), .unset]) rfl (q := 26) rfl ?_
  refine Go.iloadN X103 hx (hb hby d20_26) rfl (q := 27) rfl ?_
  refine Go.iload X103 hx (hb hby d20_27) rfl (q := 29) rfl ?_
  refine Go.icmpNo X103 hx (hb hby d20_29) (by decide) (q := 32) rfl ?_
  refine Go.iloadN X103 hx (hb hby d20_32) rfl (q := 33) rfl ?_
  refine Go.iload X103 hx (hb hby d20_33) rfl (q := 35) rfl ?_
  refine Go.iadd X103 hx (hb hby d20_35) (r := (0 : Int32)) rfl (q := 36) rfl ?_
  refine Go.iconst X103 hx (hb hby d20_36) (r := (1 : Int32)) rfl (q := 37) rfl ?_
  refine Go.iushr X103 hx (hb hby d20_37) (r := (0 : Int32)) rfl (q := 38) rfl ?_
  refine Go.istore X103 hx (hb hby d20_38) (l' := #[.val (.ref o), .val (.long p), .second, .val (.int 0), .val (.int 0), .val (.int 0)]) rfl (q := 40) rfl ?_
  refine Go.aloadN X103 hx (hb hby d20_40) rfl rfl (q := 41) rfl ?_
  refine Go.getF X103 hx hZ hown (host := "") (Or.inl (wd25 hw)) Via.refl e103 F (hb hby d20_41) (q := 44) rfl ?_
  intro T104 X104 e104
  refine Go.iload X104 hx (hb hby d20_44) rfl (q := 46) rfl ?_
  refine Go.face X104 hx hZ hown (wd137 hw) (wd138 hw) (wd139 hw) (wd140 hw) (wd141 hw) (wd142 hw) (wd143 hw) (wd89 hw) (wd47 hw) (wd144 hw) (by decide) (cget_1_0 l Z a0 hw li d x0 (kd) h0 O0 El Fsz Fed Vd) e104 El (by rw [hml]; rfl) (hb hby d20_46) (argsL := [(.int 0)]) (rest := []) (lenOf pd7 rfl) rfl rfl (W := 0) (by first | exact Nat.le_refl _ | decide) (by decide) (by decide) (by decide) (by decide) ?_
  intro v105 T105 L105 X105 hQ105
  obtain ⟨rfl, N105q, e105⟩ := hQ105
  have N105 := Fr.app N103 N105q
  refine Go.castY X105 hx hZ hown (wd69 hw) e105 (Ins.self Ex0) (hb hby d20_51) (q := 54) rfl ?_
  intro T106 X106 e106
  refine Go.getF X106 hx hZ hown (host := "") (Or.inl (wd159 hw)) Via.refl e106 Fw0 (hb hby d20_54) (q := 57) rfl ?_
  intro T107 X107 e107
  refine Go.lloadN X107 hx (hb hby d20_57) rfl (q := 58) rfl ?_
  refine Go.lcmp X107 hx (hb hby d20_58) rfl (q := 59) rfl ?_
  refine Go.ifNo X107 hx (hb hby d20_59) (Jvm.Free.XT.ll_gt_f hh0) (q := 62) rfl ?_
  refine Go.iload X107 hx (hb hby d20_62) rfl (q := 64) rfl ?_
  refine Go.iconst X107 hx (hb hby d20_64) (r := (1 : Int32)) rfl (q := 65) rfl ?_
  refine Go.iadd X107 hx (hb hby d20_65) (r := (1 : Int32)) rfl (q := 66) rfl ?_
  refine Go.istoreN X107 hx (hb hby d20_66) (l' := #[.val (.ref o), .val (.long p), .second, .val (.int 1), .val (.int 0), .val (.int 0)]) rfl (q := 67) rfl ?_
  refine Go.goto X107 hx (hb hby d20_67) (q := 76) (by decide) (by decide) ?_
  refine Go.goto X107 hx (hb hby d20_76) (q := 26) (by decide) (by decide) ?_
  refine Go.iloadN X107 hx (hb hby d20_26) rfl (q := 27) rfl ?_
  refine Go.iload X107 hx (hb hby d20_27) rfl (q := 29) rfl ?_
  refine Go.icmpYes X107 hx (hb hby d20_29) (by decide) (q := 79) (by decide) (by decide) ?_
  refine Go.iload X107 hx (hb hby d20_79) rfl (q := 81) rfl ?_
  exact Go.retI X107 hx hret hlk (Or.inl rfl) rfl (hb hby d20_81) e107 (by decide) (by decide) ⟨rfl, N105, rfl⟩
def Q_cona_2_0 (Z : State) (o : Addr) (p : Int64) (li d x0 x1 : Addr) (w0 w1 : Int64) (mc : Int32) (kd : ClassId) (h0 : Heap) (vR : Option Value) (hR : Heap) (LR : List Loc) : Prop := vR = some (.int (-1)) ∧ Fr Z.heap.size LR ∧ hR = h0
theorem cona_2_0 (l : Launch) (Z : State) (a0 : Array Value) (hw : ∀ d ∈ tables_1, d.before a0 Z = true) (o : Addr) (p : Int64) (li d x0 x1 : Addr) (w0 w1 : Int64) (mc : Int32) (kd : ClassId) (h0 : Heap) (O0 : Ext Z.heap h0) (F : Fld Z h0 o xS0 "older" xS8 (.ref li)) (El : Exa Z h0 li xS1) (Fed : Fld Z h0 li xS1 xS7 xS6 (.ref d)) (Fsz : Fld Z h0 li xS1 "size" "I" (.int 2)) (Fmc : Fld Z h0 li xS5 "modCount" "I" (.int mc)) (Vd : Arv Z h0 d kd (.object xS2) (10 : Int32) [(.ref x0), (.ref x1), .null, .null, .null, .null, .null, .null, .null, .null] .null) (Ex0 : Exa Z h0 x0 xS3) (Fw0 : Fld Z h0 x0 xS3 "writeTimestamp" "J" (.long w0)) (Ex1 : Exa Z h0 x1 xS3) (Fw1 : Fld Z h0 x1 xS3 "writeTimestamp" "J" (.long w1)) (hh0 : p < w0) :
    Ctr l Z h0 (⟨xS0, "olderNotAbove", "(J)I"⟩ : MethodName) k20 6 (some .int) [] ({ frames := 3, cells := 0, slots := 0, locals := 40 } : Room) #[(.ref o), (.long p)] (Q_cona_2_0 Z o p li d x0 x1 w0 w1 mc kd h0) := by
  refine enter (plainFor_of_name pn6) ?_
  intro pp ee ss mm below meth cc s₁ hx hby hml hZ hown hnm hret hlk X0 e0 hs0
  replace hown : ss.vm.findClass xS0 = some mm.cls := hown
  refine Go.cast (congrArg s₁.setTop (ef_cona_2_0 mm o p)) ?_
  have N0 := Fr.nil Z.heap.size
  show Go pp ee below _ (s₁.setTop (mkF mm 0 #[.val (.ref o), .val (.long p), .second, .unset, .unset, .unset] []))
  refine Go.iconst X0 hx (hb hby d20_0) (r := (0 : Int32)) rfl (q := 1) rfl ?_
  refine Go.istoreN X0 hx (hb hby d20_1) (l' := #[.val (.ref o), .val (.long p), .second, .val (.int 0), .unset, .unset]) rfl (q := 2) rfl ?_
  refine Go.aloadN X0 hx (hb hby d20_2) rfl rfl (q := 3) rfl ?_
  refine Go.getF X0 hx hZ hown (host := "") (Or.inl (wd25 hw)) Via.refl e0 F (hb hby d20_3) (q := 6) rfl ?_
  intro T101 X101 e101
  refine Go.ifnonnullYes X101 hx (hb hby d20_6) (q := 13) (by decide) (by decide) ?_
  refine Go.aloadN X101 hx (hb hby d20_13) rfl rfl (q := 14) rfl ?_
  refine Go.getF X101 hx hZ hown (host := "") (Or.inl (wd25 hw)) Via.refl e101 F (hb hby d20_14) (q := 17) rfl ?_
  intro T102 X102 e102
  refine Go.face X102 hx hZ hown (wd117 hw) (wd118 hw) (wd119 hw) (wd120 hw) (wd121 hw) (wd122 hw) (wd123 hw) (wd89 hw) (wd47 hw) (wd124 hw) (by decide) (csize l Z a0 hw li ((2 : Int32)) h0 O0 Fsz) e102 El (by rw [hml]; rfl) (hb hby d20_17) (argsL := []) (rest := []) (lenOf pd8 rfl) rfl rfl (W := 0) (by first | exact Nat.le_refl _ | decide) (by decide) (by decide) (by decide) (by decide) ?_
  intro v103 T103 L103 X103 hQ103
  obtain ⟨rfl, N103q, e103⟩ := hQ103
  have N103 := Fr.app N0 N103q
  refine Go.iconst X103 hx (hb hby d20_22) (r := (1 : Int32)) rfl (q := 23) rfl ?_
  refine Go.isub X103 hx (hb hby d20_23) (r := (1 : Int32)) rfl (q := 24) rfl ?_
  refine Go.istore X103 hx (hb hby d20_24) (l' := #[.val (.ref o), .val (.long p), .second, .val (.int 0), .val (.int 1), .unset]) rfl (q := 26) rfl ?_
  refine Go.iloadN X103 hx (hb hby d20_26) rfl (q := 27) rfl ?_
  refine Go.iload X103 hx (hb hby d20_27) rfl (q := 29) rfl ?_
  refine Go.icmpNo X103 hx (hb hby d20_29) (by decide) (q := 32) rfl ?_
  refine Go.iloadN X103 hx (hb hby d20_32) rfl (q := 33) rfl ?_
  refine Go.iload X103 hx (hb hby d20_33) rfl (q := 35) rfl ?_
  refine Go.iadd X103 hx (hb hby d20_35) (r := (1 : Int32)) rfl (q := 36) rfl ?_
  refine Go.iconst X103 hx (hb hby d20_36) (r := (1 : Int32)) rfl (q := 37) rfl ?_
  refine Go.iushr X103 hx (hb hby d20_37) (r := (0 : Int32)) rfl (q := 38) rfl ?_
  refine Go.istore X103 hx (hb hby d20_38) (l' := #[.val (.ref o), .val (.long p), .second, .val (.int 0), .val (.int 1), .val (.int 0)]) rfl (q := 40) rfl ?_
  refine Go.aloadN X103 hx (hb hby d20_40) rfl rfl (q := 41) rfl ?_
  refine Go.getF X103 hx hZ hown (host := "") (Or.inl (wd25 hw)) Via.refl e103 F (hb hby d20_41) (q := 44) rfl ?_
  intro T104 X104 e104
  refine Go.iload X104 hx (hb hby d20_44) rfl (q := 46) rfl ?_
  refine Go.face X104 hx hZ hown (wd137 hw) (wd138 hw) (wd139 hw) (wd140 hw) (wd141 hw) (wd142 hw) (wd143 hw) (wd89 hw) (wd47 hw) (wd144 hw) (by decide) (cget_2_0 l Z a0 hw li d x0 x1 (kd) h0 O0 El Fsz Fed Vd) e104 El (by rw [hml]; rfl) (hb hby d20_46) (argsL := [(.int 0)]) (rest := []) (lenOf pd7 rfl) rfl rfl (W := 0) (by first | exact Nat.le_refl _ | decide) (by decide) (by decide) (by decide) (by decide) ?_
  intro v105 T105 L105 X105 hQ105
  obtain ⟨rfl, N105q, e105⟩ := hQ105
  have N105 := Fr.app N103 N105q
  refine Go.castY X105 hx hZ hown (wd69 hw) e105 (Ins.self Ex0) (hb hby d20_51) (q := 54) rfl ?_
  intro T106 X106 e106
  refine Go.getF X106 hx hZ hown (host := "") (Or.inl (wd159 hw)) Via.refl e106 Fw0 (hb hby d20_54) (q := 57) rfl ?_
  intro T107 X107 e107
  refine Go.lloadN X107 hx (hb hby d20_57) rfl (q := 58) rfl ?_
  refine Go.lcmp X107 hx (hb hby d20_58) rfl (q := 59) rfl ?_
  refine Go.ifYes X107 hx (hb hby d20_59) (Jvm.Free.XT.ll_gt_t hh0) (q := 70) (by decide) (by decide) ?_
  refine Go.iload X107 hx (hb hby d20_70) rfl (q := 72) rfl ?_
  refine Go.iconst X107 hx (hb hby d20_72) (r := (1 : Int32)) rfl (q := 73) rfl ?_
  refine Go.isub X107 hx (hb hby d20_73) (r := (-1 : Int32)) rfl (q := 74) rfl ?_
  refine Go.istore X107 hx (hb hby d20_74) (l' := #[.val (.ref o), .val (.long p), .second, .val (.int 0), .val (.int (-1)), .val (.int 0)]) rfl (q := 76) rfl ?_
  refine Go.goto X107 hx (hb hby d20_76) (q := 26) (by decide) (by decide) ?_
  refine Go.iloadN X107 hx (hb hby d20_26) rfl (q := 27) rfl ?_
  refine Go.iload X107 hx (hb hby d20_27) rfl (q := 29) rfl ?_
  refine Go.icmpYes X107 hx (hb hby d20_29) (by decide) (q := 79) (by decide) (by decide) ?_
  refine Go.iload X107 hx (hb hby d20_79) rfl (q := 81) rfl ?_
  exact Go.retI X107 hx hret hlk (Or.inl rfl) rfl (hb hby d20_81) e107 (by decide) (by decide) ⟨rfl, N105, rfl⟩
def Q_cona_2_1 (Z : State) (o : Addr) (p : Int64) (li d x0 x1 : Addr) (w0 w1 : Int64) (mc : Int32) (kd : ClassId) (h0 : Heap) (vR : Option Value) (hR : Heap) (LR : List Loc) : Prop := vR = some (.int 0) ∧ Fr Z.heap.size LR ∧ hR = h0
theorem cona_2_1 (l : Launch) (Z : State) (a0 : Array Value) (hw : ∀ d ∈ tables_1, d.before a0 Z = true) (o : Addr) (p : Int64) (li d x0 x1 : Addr) (w0 w1 : Int64) (mc : Int32) (kd : ClassId) (h0 : Heap) (O0 : Ext Z.heap h0) (F : Fld Z h0 o xS0 "older" xS8 (.ref li)) (El : Exa Z h0 li xS1) (Fed : Fld Z h0 li xS1 xS7 xS6 (.ref d)) (Fsz : Fld Z h0 li xS1 "size" "I" (.int 2)) (Fmc : Fld Z h0 li xS5 "modCount" "I" (.int mc)) (Vd : Arv Z h0 d kd (.object xS2) (10 : Int32) [(.ref x0), (.ref x1), .null, .null, .null, .null, .null, .null, .null, .null] .null) (Ex0 : Exa Z h0 x0 xS3) (Fw0 : Fld Z h0 x0 xS3 "writeTimestamp" "J" (.long w0)) (Ex1 : Exa Z h0 x1 xS3) (Fw1 : Fld Z h0 x1 xS3 "writeTimestamp" "J" (.long w1)) (hh0 : ¬ (p < w0)) (hh1 : p < w1) :
    Ctr l Z h0 (⟨xS0, "olderNotAbove", "(J)I"⟩ : MethodName) k20 6 (some .int) [] ({ frames := 3, cells := 0, slots := 0, locals := 40 } : Room) #[(.ref o), (.long p)] (Q_cona_2_1 Z o p li d x0 x1 w0 w1 mc kd h0) := by
  refine enter (plainFor_of_name pn6) ?_
  intro pp ee ss mm below meth cc s₁ hx hby hml hZ hown hnm hret hlk X0 e0 hs0
  replace hown : ss.vm.findClass xS0 = some mm.cls := hown
  refine Go.cast (congrArg s₁.setTop (ef_cona_2_1 mm o p)) ?_
  have N0 := Fr.nil Z.heap.size
  show Go pp ee below _ (s₁.setTop (mkF mm 0 #[.val (.ref o), .val (.long p), .second, .unset, .unset, .unset] []))
  refine Go.iconst X0 hx (hb hby d20_0) (r := (0 : Int32)) rfl (q := 1) rfl ?_
  refine Go.istoreN X0 hx (hb hby d20_1) (l' := #[.val (.ref o), .val (.long p), .second, .val (.int 0), .unset, .unset]) rfl (q := 2) rfl ?_
  refine Go.aloadN X0 hx (hb hby d20_2) rfl rfl (q := 3) rfl ?_
  refine Go.getF X0 hx hZ hown (host := "") (Or.inl (wd25 hw)) Via.refl e0 F (hb hby d20_3) (q := 6) rfl ?_
  intro T101 X101 e101
  refine Go.ifnonnullYes X101 hx (hb hby d20_6) (q := 13) (by decide) (by decide) ?_
  refine Go.aloadN X101 hx (hb hby d20_13) rfl rfl (q := 14) rfl ?_
  refine Go.getF X101 hx hZ hown (host := "") (Or.inl (wd25 hw)) Via.refl e101 F (hb hby d20_14) (q := 17) rfl ?_
  intro T102 X102 e102
  refine Go.face X102 hx hZ hown (wd117 hw) (wd118 hw) (wd119 hw) (wd120 hw) (wd121 hw) (wd122 hw) (wd123 hw) (wd89 hw) (wd47 hw) (wd124 hw) (by decide) (csize l Z a0 hw li ((2 : Int32)) h0 O0 Fsz) e102 El (by rw [hml]; rfl) (hb hby d20_17) (argsL := []) (rest := []) (lenOf pd8 rfl) rfl rfl (W := 0) (by first | exact Nat.le_refl _ | decide) (by decide) (by decide) (by decide) (by decide) ?_
  intro v103 T103 L103 X103 hQ103
  obtain ⟨rfl, N103q, e103⟩ := hQ103
  have N103 := Fr.app N0 N103q
  refine Go.iconst X103 hx (hb hby d20_22) (r := (1 : Int32)) rfl (q := 23) rfl ?_
  refine Go.isub X103 hx (hb hby d20_23) (r := (1 : Int32)) rfl (q := 24) rfl ?_
  refine Go.istore X103 hx (hb hby d20_24) (l' := #[.val (.ref o), .val (.long p), .second, .val (.int 0), .val (.int 1), .unset]) rfl (q := 26) rfl ?_
  refine Go.iloadN X103 hx (hb hby d20_26) rfl (q := 27) rfl ?_
  refine Go.iload X103 hx (hb hby d20_27) rfl (q := 29) rfl ?_
  refine Go.icmpNo X103 hx (hb hby d20_29) (by decide) (q := 32) rfl ?_
  refine Go.iloadN X103 hx (hb hby d20_32) rfl (q := 33) rfl ?_
  refine Go.iload X103 hx (hb hby d20_33) rfl (q := 35) rfl ?_
  refine Go.iadd X103 hx (hb hby d20_35) (r := (1 : Int32)) rfl (q := 36) rfl ?_
  refine Go.iconst X103 hx (hb hby d20_36) (r := (1 : Int32)) rfl (q := 37) rfl ?_
  refine Go.iushr X103 hx (hb hby d20_37) (r := (0 : Int32)) rfl (q := 38) rfl ?_
  refine Go.istore X103 hx (hb hby d20_38) (l' := #[.val (.ref o), .val (.long p), .second, .val (.int 0), .val (.int 1), .val (.int 0)]) rfl (q := 40) rfl ?_
  refine Go.aloadN X103 hx (hb hby d20_40) rfl rfl (q := 41) rfl ?_
  refine Go.getF X103 hx hZ hown (host := "") (Or.inl (wd25 hw)) Via.refl e103 F (hb hby d20_41) (q := 44) rfl ?_
  intro T104 X104 e104
  refine Go.iload X104 hx (hb hby d20_44) rfl (q := 46) rfl ?_
  refine Go.face X104 hx hZ hown (wd137 hw) (wd138 hw) (wd139 hw) (wd140 hw) (wd141 hw) (wd142 hw) (wd143 hw) (wd89 hw) (wd47 hw) (wd144 hw) (by decide) (cget_2_0 l Z a0 hw li d x0 x1 (kd) h0 O0 El Fsz Fed Vd) e104 El (by rw [hml]; rfl) (hb hby d20_46) (argsL := [(.int 0)]) (rest := []) (lenOf pd7 rfl) rfl rfl (W := 0) (by first | exact Nat.le_refl _ | decide) (by decide) (by decide) (by decide) (by decide) ?_
  intro v105 T105 L105 X105 hQ105
  obtain ⟨rfl, N105q, e105⟩ := hQ105
  have N105 := Fr.app N103 N105q
  refine Go.castY X105 hx hZ hown (wd69 hw) e105 (Ins.self Ex0) (hb hby d20_51) (q := 54) rfl ?_
  intro T106 X106 e106
  refine Go.getF X106 hx hZ hown (host := "") (Or.inl (wd159 hw)) Via.refl e106 Fw0 (hb hby d20_54) (q := 57) rfl ?_
  intro T107 X107 e107
  refine Go.lloadN X107 hx (hb hby d20_57) rfl (q := 58) rfl ?_
  refine Go.lcmp X107 hx (hb hby d20_58) rfl (q := 59) rfl ?_
  refine Go.ifNo X107 hx (hb hby d20_59) (Jvm.Free.XT.ll_gt_f hh0) (q := 62) rfl ?_
  refine Go.iload X107 hx (hb hby d20_62) rfl (q := 64) rfl ?_
  refine Go.iconst X107 hx (hb hby d20_64) (r := (1 : Int32)) rfl (q := 65) rfl ?_
  refine Go.iadd X107 hx (hb hby d20_65) (r := (1 : Int32)) rfl (q := 66) rfl ?_
  refine Go.istoreN X107 hx (hb hby d20_66) (l' := #[.val (.ref o), .val (.long p), .second, .val (.int 1), .val (.int 1), .val (.int 0)]) rfl (q := 67) rfl ?_
  refine Go.goto X107 hx (hb hby d20_67) (q := 76) (by decide) (by decide) ?_
  refine Go.goto X107 hx (hb hby d20_76) (q := 26) (by decide) (by decide) ?_
  refine Go.iloadN X107 hx (hb hby d20_26) rfl (q := 27) rfl ?_
  refine Go.iload X107 hx (hb hby d20_27) rfl (q := 29) rfl ?_
  refine Go.icmpNo X107 hx (hb hby d20_29) (by decide) (q := 32) rfl ?_
  refine Go.iloadN X107 hx (hb hby d20_32) rfl (q := 33) rfl ?_
  refine Go.iload X107 hx (hb hby d20_33) rfl (q := 35) rfl ?_
  refine Go.iadd X107 hx (hb hby d20_35) (r := (2 : Int32)) rfl (q := 36) rfl ?_
  refine Go.iconst X107 hx (hb hby d20_36) (r := (1 : Int32)) rfl (q := 37) rfl ?_
  refine Go.iushr X107 hx (hb hby d20_37) (r := (1 : Int32)) rfl (q := 38) rfl ?_
  refine Go.istore X107 hx (hb hby d20_38) (l' := #[.val (.ref o), .val (.long p), .second, .val (.int 1), .val (.int 1), .val (.int 1)]) rfl (q := 40) rfl ?_
  refine Go.aloadN X107 hx (hb hby d20_40) rfl rfl (q := 41) rfl ?_
  refine Go.getF X107 hx hZ hown (host := "") (Or.inl (wd25 hw)) Via.refl e107 F (hb hby d20_41) (q := 44) rfl ?_
  intro T108 X108 e108
  refine Go.iload X108 hx (hb hby d20_44) rfl (q := 46) rfl ?_
  refine Go.face X108 hx hZ hown (wd137 hw) (wd138 hw) (wd139 hw) (wd140 hw) (wd141 hw) (wd142 hw) (wd143 hw) (wd89 hw) (wd47 hw) (wd144 hw) (by decide) (cget_2_1 l Z a0 hw li d x0 x1 (kd) h0 O0 El Fsz Fed Vd) e108 El (by rw [hml]; rfl) (hb hby d20_46) (argsL := [(.int 1)]) (rest := []) (lenOf pd7 rfl) rfl rfl (W := 0) (by first | exact Nat.le_refl _ | decide) (by decide) (by decide) (by decide) (by decide) ?_
  intro v109 T109 L109 X109 hQ109
  obtain ⟨rfl, N109q, e109⟩ := hQ109
  have N109 := Fr.app N105 N109q
  refine Go.castY X109 hx hZ hown (wd69 hw) e109 (Ins.self Ex1) (hb hby d20_51) (q := 54) rfl ?_
  intro T110 X110 e110
  refine Go.getF X110 hx hZ hown (host := "") (Or.inl (wd159 hw)) Via.refl e110 Fw1 (hb hby d20_54) (q := 57) rfl ?_
  intro T111 X111 e111
  refine Go.lloadN X111 hx (hb hby d20_57) rfl (q := 58) rfl ?_
  refine Go.lcmp X111 hx (hb hby d20_58) rfl (q := 59) rfl ?_
  refine Go.ifYes X111 hx (hb hby d20_59) (Jvm.Free.XT.ll_gt_t hh1) (q := 70) (by decide) (by decide) ?_
  refine Go.iload X111 hx (hb hby d20_70) rfl (q := 72) rfl ?_
  refine Go.iconst X111 hx (hb hby d20_72) (r := (1 : Int32)) rfl (q := 73) rfl ?_
  refine Go.isub X111 hx (hb hby d20_73) (r := (0 : Int32)) rfl (q := 74) rfl ?_
  refine Go.istore X111 hx (hb hby d20_74) (l' := #[.val (.ref o), .val (.long p), .second, .val (.int 1), .val (.int 0), .val (.int 1)]) rfl (q := 76) rfl ?_
  refine Go.goto X111 hx (hb hby d20_76) (q := 26) (by decide) (by decide) ?_
  refine Go.iloadN X111 hx (hb hby d20_26) rfl (q := 27) rfl ?_
  refine Go.iload X111 hx (hb hby d20_27) rfl (q := 29) rfl ?_
  refine Go.icmpYes X111 hx (hb hby d20_29) (by decide) (q := 79) (by decide) (by decide) ?_
  refine Go.iload X111 hx (hb hby d20_79) rfl (q := 81) rfl ?_
  exact Go.retI X111 hx hret hlk (Or.inl rfl) rfl (hb hby d20_81) e111 (by decide) (by decide) ⟨rfl, N109, rfl⟩
def Q_cona_2_2 (Z : State) (o : Addr) (p : Int64) (li d x0 x1 : Addr) (w0 w1 : Int64) (mc : Int32) (kd : ClassId) (h0 : Heap) (vR : Option Value) (hR : Heap) (LR : List Loc) : Prop := vR = some (.int 1) ∧ Fr Z.heap.size LR ∧ hR = h0
theorem cona_2_2 (l : Launch) (Z : State) (a0 : Array Value) (hw : ∀ d ∈ tables_1, d.before a0 Z = true) (o : Addr) (p : Int64) (li d x0 x1 : Addr) (w0 w1 : Int64) (mc : Int32) (kd : ClassId) (h0 : Heap) (O0 : Ext Z.heap h0) (F : Fld Z h0 o xS0 "older" xS8 (.ref li)) (El : Exa Z h0 li xS1) (Fed : Fld Z h0 li xS1 xS7 xS6 (.ref d)) (Fsz : Fld Z h0 li xS1 "size" "I" (.int 2)) (Fmc : Fld Z h0 li xS5 "modCount" "I" (.int mc)) (Vd : Arv Z h0 d kd (.object xS2) (10 : Int32) [(.ref x0), (.ref x1), .null, .null, .null, .null, .null, .null, .null, .null] .null) (Ex0 : Exa Z h0 x0 xS3) (Fw0 : Fld Z h0 x0 xS3 "writeTimestamp" "J" (.long w0)) (Ex1 : Exa Z h0 x1 xS3) (Fw1 : Fld Z h0 x1 xS3 "writeTimestamp" "J" (.long w1)) (hh0 : ¬ (p < w0)) (hh1 : ¬ (p < w1)) :
    Ctr l Z h0 (⟨xS0, "olderNotAbove", "(J)I"⟩ : MethodName) k20 6 (some .int) [] ({ frames := 3, cells := 0, slots := 0, locals := 40 } : Room) #[(.ref o), (.long p)] (Q_cona_2_2 Z o p li d x0 x1 w0 w1 mc kd h0) := by
  refine enter (plainFor_of_name pn6) ?_
  intro pp ee ss mm below meth cc s₁ hx hby hml hZ hown hnm hret hlk X0 e0 hs0
  replace hown : ss.vm.findClass xS0 = some mm.cls := hown
  refine Go.cast (congrArg s₁.setTop (ef_cona_2_2 mm o p)) ?_
  have N0 := Fr.nil Z.heap.size
  show Go pp ee below _ (s₁.setTop (mkF mm 0 #[.val (.ref o), .val (.long p), .second, .unset, .unset, .unset] []))
  refine Go.iconst X0 hx (hb hby d20_0) (r := (0 : Int32)) rfl (q := 1) rfl ?_
  refine Go.istoreN X0 hx (hb hby d20_1) (l' := #[.val (.ref o), .val (.long p), .second, .val (.int 0), .unset, .unset]) rfl (q := 2) rfl ?_
  refine Go.aloadN X0 hx (hb hby d20_2) rfl rfl (q := 3) rfl ?_
  refine Go.getF X0 hx hZ hown (host := "") (Or.inl (wd25 hw)) Via.refl e0 F (hb hby d20_3) (q := 6) rfl ?_
  intro T101 X101 e101
  refine Go.ifnonnullYes X101 hx (hb hby d20_6) (q := 13) (by decide) (by decide) ?_
  refine Go.aloadN X101 hx (hb hby d20_13) rfl rfl (q := 14) rfl ?_
  refine Go.getF X101 hx hZ hown (host := "") (Or.inl (wd25 hw)) Via.refl e101 F (hb hby d20_14) (q := 17) rfl ?_
  intro T102 X102 e102
  refine Go.face X102 hx hZ hown (wd117 hw) (wd118 hw) (wd119 hw) (wd120 hw) (wd121 hw) (wd122 hw) (wd123 hw) (wd89 hw) (wd47 hw) (wd124 hw) (by decide) (csize l Z a0 hw li ((2 : Int32)) h0 O0 Fsz) e102 El (by rw [hml]; rfl) (hb hby d20_17) (argsL := []) (rest := []) (lenOf pd8 rfl) rfl rfl (W := 0) (by first | exact Nat.le_refl _ | decide) (by decide) (by decide) (by decide) (by decide) ?_
  intro v103 T103 L103 X103 hQ103
  obtain ⟨rfl, N103q, e103⟩ := hQ103
  have N103 := Fr.app N0 N103q
  refine Go.iconst X103 hx (hb hby d20_22) (r := (1 : Int32)) rfl (q := 23) rfl ?_
  refine Go.isub X103 hx (hb hby d20_23) (r := (1 : Int32)) rfl (q := 24) rfl ?_
  refine Go.istore X103 hx (hb hby d20_24) (l' := #[.val (.ref o), .val (.long p), .second, .val (.int 0), .val (.int 1), .unset]) rfl (q := 26) rfl ?_
  refine Go.iloadN X103 hx (hb hby d20_26) rfl (q := 27) rfl ?_
  refine Go.iload X103 hx (hb hby d20_27) rfl (q := 29) rfl ?_
  refine Go.icmpNo X103 hx (hb hby d20_29) (by decide) (q := 32) rfl ?_
  refine Go.iloadN X103 hx (hb hby d20_32) rfl (q := 33) rfl ?_
  refine Go.iload X103 hx (hb hby d20_33) rfl (q := 35) rfl ?_
  refine Go.iadd X103 hx (hb hby d20_35) (r := (1 : Int32)) rfl (q := 36) rfl ?_
  refine Go.iconst X103 hx (hb hby d20_36) (r := (1 : Int32)) rfl (q := 37) rfl ?_
  refine Go.iushr X103 hx (hb hby d20_37) (r := (0 : Int32)) rfl (q := 38) rfl ?_
  refine Go.istore X103 hx (hb hby d20_38) (l' := #[.val (.ref o), .val (.long p), .second, .val (.int 0), .val (.int 1), .val (.int 0)]) rfl (q := 40) rfl ?_
  refine Go.aloadN X103 hx (hb hby d20_40) rfl rfl (q := 41) rfl ?_
  refine Go.getF X103 hx hZ hown (host := "") (Or.inl (wd25 hw)) Via.refl e103 F (hb hby d20_41) (q := 44) rfl ?_
  intro T104 X104 e104
  refine Go.iload X104 hx (hb hby d20_44) rfl (q := 46) rfl ?_
  refine Go.face X104 hx hZ hown (wd137 hw) (wd138 hw) (wd139 hw) (wd140 hw) (wd141 hw) (wd142 hw) (wd143 hw) (wd89 hw) (wd47 hw) (wd144 hw) (by decide) (cget_2_0 l Z a0 hw li d x0 x1 (kd) h0 O0 El Fsz Fed Vd) e104 El (by rw [hml]; rfl) (hb hby d20_46) (argsL := [(.int 0)]) (rest := []) (lenOf pd7 rfl) rfl rfl (W := 0) (by first | exact Nat.le_refl _ | decide) (by decide) (by decide) (by decide) (by decide) ?_
  intro v105 T105 L105 X105 hQ105
  obtain ⟨rfl, N105q, e105⟩ := hQ105
  have N105 := Fr.app N103 N105q
  refine Go.castY X105 hx hZ hown (wd69 hw) e105 (Ins.self Ex0) (hb hby d20_51) (q := 54) rfl ?_
  intro T106 X106 e106
  refine Go.getF X106 hx hZ hown (host := "") (Or.inl (wd159 hw)) Via.refl e106 Fw0 (hb hby d20_54) (q := 57) rfl ?_
  intro T107 X107 e107
  refine Go.lloadN X107 hx (hb hby d20_57) rfl (q := 58) rfl ?_
  refine Go.lcmp X107 hx (hb hby d20_58) rfl (q := 59) rfl ?_
  refine Go.ifNo X107 hx (hb hby d20_59) (Jvm.Free.XT.ll_gt_f hh0) (q := 62) rfl ?_
  refine Go.iload X107 hx (hb hby d20_62) rfl (q := 64) rfl ?_
  refine Go.iconst X107 hx (hb hby d20_64) (r := (1 : Int32)) rfl (q := 65) rfl ?_
  refine Go.iadd X107 hx (hb hby d20_65) (r := (1 : Int32)) rfl (q := 66) rfl ?_
  refine Go.istoreN X107 hx (hb hby d20_66) (l' := #[.val (.ref o), .val (.long p), .second, .val (.int 1), .val (.int 1), .val (.int 0)]) rfl (q := 67) rfl ?_
  refine Go.goto X107 hx (hb hby d20_67) (q := 76) (by decide) (by decide) ?_
  refine Go.goto X107 hx (hb hby d20_76) (q := 26) (by decide) (by decide) ?_
  refine Go.iloadN X107 hx (hb hby d20_26) rfl (q := 27) rfl ?_
  refine Go.iload X107 hx (hb hby d20_27) rfl (q := 29) rfl ?_
  refine Go.icmpNo X107 hx (hb hby d20_29) (by decide) (q := 32) rfl ?_
  refine Go.iloadN X107 hx (hb hby d20_32) rfl (q := 33) rfl ?_
  refine Go.iload X107 hx (hb hby d20_33) rfl (q := 35) rfl ?_
  refine Go.iadd X107 hx (hb hby d20_35) (r := (2 : Int32)) rfl (q := 36) rfl ?_
  refine Go.iconst X107 hx (hb hby d20_36) (r := (1 : Int32)) rfl (q := 37) rfl ?_
  refine Go.iushr X107 hx (hb hby d20_37) (r := (1 : Int32)) rfl (q := 38) rfl ?_
  refine Go.istore X107 hx (hb hby d20_38) (l' := #[.val (.ref o), .val (.long p), .second, .val (.int 1), .val (.int 1), .val (.int 1)]) rfl (q := 40) rfl ?_
  refine Go.aloadN X107 hx (hb hby d20_40) rfl rfl (q := 41) rfl ?_
  refine Go.getF X107 hx hZ hown (host := "") (Or.inl (wd25 hw)) Via.refl e107 F (hb hby d20_41) (q := 44) rfl ?_
  intro T108 X108 e108
  refine Go.iload X108 hx (hb hby d20_44) rfl (q := 46) rfl ?_
  refine Go.face X108 hx hZ hown (wd137 hw) (wd138 hw) (wd139 hw) (wd140 hw) (wd141 hw) (wd142 hw) (wd143 hw) (wd89 hw) (wd47 hw) (wd144 hw) (by decide) (cget_2_1 l Z a0 hw li d x0 x1 (kd) h0 O0 El Fsz Fed Vd) e108 El (by rw [hml]; rfl) (hb hby d20_46) (argsL := [(.int 1)]) (rest := []) (lenOf pd7 rfl) rfl rfl (W := 0) (by first | exact Nat.le_refl _ | decide) (by decide) (by decide) (by decide) (by decide) ?_
  intro v109 T109 L109 X109 hQ109
  obtain ⟨rfl, N109q, e109⟩ := hQ109
  have N109 := Fr.app N105 N109q
  refine Go.castY X109 hx hZ hown (wd69 hw) e109 (Ins.self Ex1) (hb hby d20_51) (q := 54) rfl ?_
  intro T110 X110 e110
  refine Go.getF X110 hx hZ hown (host := "") (Or.inl (wd159 hw)) Via.refl e110 Fw1 (hb hby d20_54) (q := 57) rfl ?_
  intro T111 X111 e111
  refine Go.lloadN X111 hx (hb hby d20_57) rfl (q := 58) rfl ?_
  refine Go.lcmp X111 hx (hb hby d20_58) rfl (q := 59) rfl ?_
  refine Go.ifNo X111 hx (hb hby d20_59) (Jvm.Free.XT.ll_gt_f hh1) (q := 62) rfl ?_
  refine Go.iload X111 hx (hb hby d20_62) rfl (q := 64) rfl ?_
  refine Go.iconst X111 hx (hb hby d20_64) (r := (1 : Int32)) rfl (q := 65) rfl ?_
  refine Go.iadd X111 hx (hb hby d20_65) (r := (2 : Int32)) rfl (q := 66) rfl ?_
  refine Go.istoreN X111 hx (hb hby d20_66) (l' := #[.val (.ref o), .val (.long p), .second, .val (.int 2), .val (.int 1), .val (.int 1)]) rfl (q := 67) rfl ?_
  refine Go.goto X111 hx (hb hby d20_67) (q := 76) (by decide) (by decide) ?_
  refine Go.goto X111 hx (hb hby d20_76) (q := 26) (by decide) (by decide) ?_
  refine Go.iloadN X111 hx (hb hby d20_26) rfl (q := 27) rfl ?_
  refine Go.iload X111 hx (hb hby d20_27) rfl (q := 29) rfl ?_
  refine Go.icmpYes X111 hx (hb hby d20_29) (by decide) (q := 79) (by decide) (by decide) ?_
  refine Go.iload X111 hx (hb hby d20_79) rfl (q := 81) rfl ?_
  exact Go.retI X111 hx hret hlk (Or.inl rfl) rfl (hb hby d20_81) e111 (by decide) (by decide) ⟨rfl, N109, rfl⟩
def Q_cw0 (Z : State) (o : Addr) (p : Int64) (v : Addr) (n : Int64) (nv : Addr) (nr : Int64) (h0 : Heap) (vR : Option Value) (hR : Heap) (LR : List Loc) : Prop := ∃ n2 : Int64, ∃ v2 : Addr, ∃ r2 : Int64, vR = none ∧ Fr Z.heap.size LR ∧ Keep h0 hR [o] ∧ Fld Z hR o xS0 "keepsOlder" "Z" (.int 0) ∧ Fld Z hR o xS0 "older" xS8 .null ∧ Fld Z hR o xS0 xS11 "J" (.long n2) ∧ Fld Z hR o xS0 "newestValue" xS9 (.ref v2) ∧ Fld Z hR o xS0 xS12 "J" (.long r2)
theorem cw0 (l : Launch) (Z : State) (a0 : Array Value) (hw : ∀ d ∈ tables_1, d.before a0 Z = true) (o : Addr) (p : Int64) (v : Addr) (n : Int64) (nv : Addr) (nr : Int64) (h0 : Heap) (O0 : Ext Z.heap h0) (Eo : Exa Z h0 o xS0) (g_o : Z.heap.size ≤ o) (F0 : Fld Z h0 o xS0 "keepsOlder" "Z" (.int 0)) (F1 : Fld Z h0 o xS0 "older" xS8 .null) (F2 : Fld Z h0 o xS0 xS11 "J" (.long n)) (F3 : Fld Z h0 o xS0 "newestValue" xS9 (.ref nv)) (F4 : Fld Z h0 o xS0 xS12 "J" (.long nr)) :
    Ctr l Z h0 (⟨xS0, "write", "(JLjava/lang/Object;)V"⟩ : MethodName) k5 5 none [] ({ frames := 0, cells := 0, slots := 0, locals := 0 } : Room) #[(.ref o), (.long p), (.ref v)] (Q_cw0 Z o p v n nv nr h0) := by
  refine enter (plainFor_of_name pn6) ?_
  intro pp ee ss mm below meth cc s₁ hx hby hml hZ hown hnm hret hlk X0 e0 hs0
  replace hown : ss.vm.findClass xS0 = some mm.cls := hown
  refine Go.cast (congrArg s₁.setTop (ef_cw0 mm o p v)) ?_
  have N0 := Fr.nil Z.heap.size
  have KP := Keep.refl h0 [o]
  show Go pp ee below _ (s₁.setTop (mkF mm 0 #[.val (.ref o), .val (.long p), .second, .val (.ref v), .unset] []))
  refine Go.lloadN X0 hx (hb hby d5_0) rfl (q := 1) rfl ?_
  refine Go.aloadN X0 hx (hb hby d5_1) rfl rfl (q := 2) rfl ?_
  refine Go.getF X0 hx hZ hown (host := "") (Or.inl (wd32 hw)) Via.refl e0 F2 (hb hby d5_2) (q := 5) rfl ?_
  intro T101 X101 e101
  refine Go.lcmp X101 hx (hb hby d5_5) rfl (q := 6) rfl ?_
  by_cases hc102 : n < p
  · refine Go.ifNo X101 hx (hb hby d5_6) (Jvm.Free.XT.ll_le_f hc102) (q := 9) rfl ?_
    refine Go.aloadN X101 hx (hb hby d5_9) rfl rfl (q := 10) rfl ?_
    refine Go.getF X101 hx hZ hown (host := "") (Or.inl (wd18 hw)) Via.refl e101 F0 (hb hby d5_10) (q := 13) rfl ?_
    intro T103 X103 e103
    refine Go.ifYes X103 hx (hb hby d5_13) (by decide) (q := 45) (by decide) (by decide) ?_
    refine Go.aloadN X103 hx (hb hby d5_45) rfl rfl (q := 46) rfl ?_
    refine Go.lloadN X103 hx (hb hby d5_46) rfl (q := 47) rfl ?_
    refine Go.putF X103 hx hZ hown (host := "") (Or.inl (wd32 hw)) Via.refl e103 F2 Eo (Or.inl (wd33 hw)) (wd1 hw) (ty := .long) (by decide) rfl rfl (hb hby d5_47) (q := 50) rfl ?_
    intro T104 h104 X104 e104 W104 F104
    have N104 := Fr.snoc X104 N0 g_o
    replace Eo := Eo.wr W104
    replace F0 := F0.other W104 (Or.inr (slot_ne (Or.inr (wd19 hw)) (Or.inl (wd33 hw)) (by decide) (t := .boolean) (t' := .long) (by decide) (by decide)))
    replace F1 := F1.other W104 (Or.inr (slot_ne (Or.inl (wd26 hw)) (Or.inl (wd33 hw)) (by decide) (t := (.object xS10)) (t' := .long) (by decide) (by decide)))
    replace F3 := F3.other W104 (Or.inr (slot_ne (Or.inl (wd17 hw)) (Or.inl (wd33 hw)) (by decide) (t := (.object xS2)) (t' := .long) (by decide) (by decide)))
    replace F4 := F4.other W104 (Or.inr (slot_ne (Or.inl (wd35 hw)) (Or.inl (wd33 hw)) (by decide) (t := .long) (t' := .long) (by decide) (by decide)))
    have OW104 := ext_wr O0 W104 g_o
    replace KP := KP.wr W104 (Or.inl (List.mem_of_getElem? (i := 0) rfl))
    refine Go.aloadN X104 hx (hb hby d5_50) rfl rfl (q := 51) rfl ?_
    refine Go.aloadN X104 hx (hb hby d5_51) rfl rfl (q := 52) rfl ?_
    refine Go.putF X104 hx hZ hown (host := "") (Or.inl (wd16 hw)) Via.refl e104 F3 Eo (Or.inl (wd17 hw)) (wd1 hw) (ty := (.object xS2)) (by decide) rfl rfl (hb hby d5_52) (q := 55) rfl ?_
    intro T105 h105 X105 e105 W105 F105
    have N105 := Fr.snoc X105 N104 g_o
    replace Eo := Eo.wr W105
    replace F0 := F0.other W105 (Or.inr (slot_ne (Or.inr (wd19 hw)) (Or.inl (wd17 hw)) (by decide) (t := .boolean) (t' := (.object xS2)) (by decide) (by decide)))
    replace F1 := F1.other W105 (Or.inr (slot_ne (Or.inl (wd26 hw)) (Or.inl (wd17 hw)) (by decide) (t := (.object xS10)) (t' := (.object xS2)) (by decide) (by decide)))
    replace F4 := F4.other W105 (Or.inr (slot_ne (Or.inl (wd35 hw)) (Or.inl (wd17 hw)) (by decide) (t := .long) (t' := (.object xS2)) (by decide) (by decide)))
    replace F104 := F104.other W105 (Or.inr (slot_ne (Or.inl (wd33 hw)) (Or.inl (wd17 hw)) (by decide) (t := .long) (t' := (.object xS2)) (by decide) (by decide)))
    have OW105 := ext_wr OW104 W105 g_o
    replace KP := KP.wr W105 (Or.inl (List.mem_of_getElem? (i := 0) rfl))
    refine Go.aloadN X105 hx (hb hby d5_55) rfl rfl (q := 56) rfl ?_
    refine Go.lconst X105 hx (hb hby d5_56) (r := (0 : Int64)) rfl (q := 57) rfl ?_
    refine Go.putF X105 hx hZ hown (host := "") (Or.inl (wd34 hw)) Via.refl e105 F4 Eo (Or.inl (wd35 hw)) (wd1 hw) (ty := .long) (by decide) rfl rfl (hb hby d5_57) (q := 60) rfl ?_
    intro T106 h106 X106 e106 W106 F106
    have N106 := Fr.snoc X106 N105 g_o
    replace Eo := Eo.wr W106
    replace F0 := F0.other W106 (Or.inr (slot_ne (Or.inr (wd19 hw)) (Or.inl (wd35 hw)) (by decide) (t := .boolean) (t' := .long) (by decide) (by decide)))
    replace F1 := F1.other W106 (Or.inr (slot_ne (Or.inl (wd26 hw)) (Or.inl (wd35 hw)) (by decide) (t := (.object xS10)) (t' := .long) (by decide) (by decide)))
    replace F104 := F104.other W106 (Or.inr (slot_ne (Or.inl (wd33 hw)) (Or.inl (wd35 hw)) (by decide) (t := .long) (t' := .long) (by decide) (by decide)))
    replace F105 := F105.other W106 (Or.inr (slot_ne (Or.inl (wd17 hw)) (Or.inl (wd35 hw)) (by decide) (t := (.object xS2)) (t' := .long) (by decide) (by decide)))
    have OW106 := ext_wr OW105 W106 g_o
    replace KP := KP.wr W106 (Or.inl (List.mem_of_getElem? (i := 0) rfl))
    refine Go.goto X106 hx (hb hby d5_60) (q := 165) (by decide) (by decide) ?_
    exact Go.retV X106 hx hret hlk (hb hby d5_165) e106 (by decide) (by decide) ⟨p, v, (0 : Int64), rfl, N106, KP, F0, F1, F104, F105, F106⟩
  · refine Go.ifYes X101 hx (hb hby d5_6) (Jvm.Free.XT.ll_le_t hc102) (q := 63) (by decide) (by decide) ?_
    refine Go.lloadN X101 hx (hb hby d5_63) rfl (q := 64) rfl ?_
    refine Go.aloadN X101 hx (hb hby d5_64) rfl rfl (q := 65) rfl ?_
    refine Go.getF X101 hx hZ hown (host := "") (Or.inl (wd32 hw)) Via.refl e101 F2 (hb hby d5_65) (q := 68) rfl ?_
    intro T107 X107 e107
    refine Go.lcmp X107 hx (hb hby d5_68) rfl (q := 69) rfl ?_
    by_cases hc108 : p = n
    · refine Go.ifNo X107 hx (hb hby d5_69) (Jvm.Free.XT.ll_ne_f hc108) (q := 72) rfl ?_
      refine Go.aloadN X107 hx (hb hby d5_72) rfl rfl (q := 73) rfl ?_
      refine Go.aloadN X107 hx (hb hby d5_73) rfl rfl (q := 74) rfl ?_
      refine Go.putF X107 hx hZ hown (host := "") (Or.inl (wd16 hw)) Via.refl e107 F3 Eo (Or.inl (wd17 hw)) (wd1 hw) (ty := (.object xS2)) (by decide) rfl rfl (hb hby d5_74) (q := 77) rfl ?_
      intro T109 h109 X109 e109 W109 F109
      have N109 := Fr.snoc X109 N0 g_o
      replace Eo := Eo.wr W109
      replace F0 := F0.other W109 (Or.inr (slot_ne (Or.inr (wd19 hw)) (Or.inl (wd17 hw)) (by decide) (t := .boolean) (t' := (.object xS2)) (by decide) (by decide)))
      replace F1 := F1.other W109 (Or.inr (slot_ne (Or.inl (wd26 hw)) (Or.inl (wd17 hw)) (by decide) (t := (.object xS10)) (t' := (.object xS2)) (by decide) (by decide)))
      replace F2 := F2.other W109 (Or.inr (slot_ne (Or.inl (wd33 hw)) (Or.inl (wd17 hw)) (by decide) (t := .long) (t' := (.object xS2)) (by decide) (by decide)))
      replace F4 := F4.other W109 (Or.inr (slot_ne (Or.inl (wd35 hw)) (Or.inl (wd17 hw)) (by decide) (t := .long) (t' := (.object xS2)) (by decide) (by decide)))
      have OW109 := ext_wr O0 W109 g_o
      replace KP := KP.wr W109 (Or.inl (List.mem_of_getElem? (i := 0) rfl))
      refine Go.goto X109 hx (hb hby d5_77) (q := 165) (by decide) (by decide) ?_
      exact Go.retV X109 hx hret hlk (hb hby d5_165) e109 (by decide) (by decide) ⟨n, v, nr, rfl, N109, KP, F0, F1, F2, F109, F4⟩
    · refine Go.ifYes X107 hx (hb hby d5_69) (Jvm.Free.XT.ll_ne_t hc108) (q := 80) (by decide) (by decide) ?_
      refine Go.aloadN X107 hx (hb hby d5_80) rfl rfl (q := 81) rfl ?_
      refine Go.getF X107 hx hZ hown (host := "") (Or.inl (wd18 hw)) Via.refl e107 F0 (hb hby d5_81) (q := 84) rfl ?_
      intro T110 X110 e110
      refine Go.ifYes X110 hx (hb hby d5_84) (by decide) (q := 165) (by decide) (by decide) ?_
      exact Go.retV X110 hx hret hlk (hb hby d5_165) e110 (by decide) (by decide) ⟨n, nv, nr, rfl, N0, KP, F0, F1, F2, F3, F4⟩
def Q_cwAg (Z : State) (o : Addr) (p : Int64) (v : Addr) (n : Int64) (nv : Addr) (nr : Int64) (de : Addr) (h0 : Heap) (vR : Option Value) (hR : Heap) (LR : List Loc) : Prop := ∃ li : Addr, ∃ d : Addr, ∃ x0 : Addr, ∃ kd : ClassId, vR = none ∧ Fr Z.heap.size LR ∧ Keep h0 hR [o] ∧ h0.size ≤ li ∧ h0.size ≤ d ∧ h0.size ≤ x0 ∧ Fld Z hR o xS0 "keepsOlder" "Z" (.int 1) ∧ Fld Z hR o xS0 "older" xS8 (.ref li) ∧ Fld Z hR o xS0 xS11 "J" (.long p) ∧ Fld Z hR o xS0 "newestValue" xS9 (.ref v) ∧ Fld Z hR o xS0 xS12 "J" (.long 0) ∧ Exa Z hR li xS1 ∧ Fld Z hR li xS1 xS7 xS6 (.ref d) ∧ Fld Z hR li xS1 "size" "I" (.int 1) ∧ Fld Z hR li xS5 "modCount" "I" (.int 1) ∧ Arv Z hR d kd (.object xS2) (10 : Int32) [(.ref x0), .null, .null, .null, .null, .null, .null, .null, .null, .null] .null ∧ Ovr Z kd xS2 ∧ Exa Z hR x0 xS3 ∧ Fld Z hR x0 xS3 "writeTimestamp" "J" (.long n) ∧ Fld Z hR x0 xS3 "value" xS9 (.ref nv) ∧ li ≠ d ∧ li ≠ x0 ∧ d ≠ x0
theorem cwAg (l : Launch) (Z : State) (a0 : Array Value) (hw : ∀ d ∈ tables_1, d.before a0 Z = true) (o : Addr) (p : Int64) (v : Addr) (n : Int64) (nv : Addr) (nr : Int64) (de : Addr) (h0 : Heap) (O0 : Ext Z.heap h0) (Eo : Exa Z h0 o xS0) (g_o : Z.heap.size ≤ o) (F0 : Fld Z h0 o xS0 "keepsOlder" "Z" (.int 1)) (F1 : Fld Z h0 o xS0 "older" xS8 .null) (F2 : Fld Z h0 o xS0 xS11 "J" (.long n)) (F3 : Fld Z h0 o xS0 "newestValue" xS9 (.ref nv)) (F4 : Fld Z h0 o xS0 xS12 "J" (.long nr)) (SD : Sta Z Z.heap xS1 "DEFAULTCAPACITY_EMPTY_ELEMENTDATA" xS6 (.ref de)) (LD : Lng Z Z.heap de (0 : Int32)) (h : n < p) :
    Ctr l Z h0 (⟨xS0, "write", "(JLjava/lang/Object;)V"⟩ : MethodName) k5 5 none [] ({ frames := 5, cells := 3, slots := 16, locals := 69 } : Room) #[(.ref o), (.long p), (.ref v)] (Q_cwAg Z o p v n nv nr de h0) := by
  refine enter (plainFor_of_name pn6) ?_
  intro pp ee ss mm below meth cc s₁ hx hby hml hZ hown hnm hret hlk X0 e0 hs0
  replace hown : ss.vm.findClass xS0 = some mm.cls := hown
  refine Go.cast (congrArg s₁.setTop (ef_cwAg mm o p v)) ?_
  have N0 := Fr.nil Z.heap.size
  have KP := Keep.refl h0 [o]
  show Go pp ee below _ (s₁.setTop (mkF mm 0 #[.val (.ref o), .val (.long p), .second, .val (.ref v), .unset] []))
  refine Go.lloadN X0 hx (hb hby d5_0) rfl (q := 1) rfl ?_
  refine Go.aloadN X0 hx (hb hby d5_1) rfl rfl (q := 2) rfl ?_
  refine Go.getF X0 hx hZ hown (host := "") (Or.inl (wd32 hw)) Via.refl e0 F2 (hb hby d5_2) (q := 5) rfl ?_
  intro T101 X101 e101
  refine Go.lcmp X101 hx (hb hby d5_5) rfl (q := 6) rfl ?_
  refine Go.ifNo X101 hx (hb hby d5_6) (Jvm.Free.XT.ll_le_f h) (q := 9) rfl ?_
  refine Go.aloadN X101 hx (hb hby d5_9) rfl rfl (q := 10) rfl ?_
  refine Go.getF X101 hx hZ hown (host := "") (Or.inl (wd18 hw)) Via.refl e101 F0 (hb hby d5_10) (q := 13) rfl ?_
  intro T102 X102 e102
  refine Go.ifNo X102 hx (hb hby d5_13) (by decide) (q := 16) rfl ?_
  refine Go.aloadN X102 hx (hb hby d5_16) rfl rfl (q := 17) rfl ?_
  refine Go.priv X102 hx hZ hown (wd41 hw) (wd42 hw) (own_selp (x' := (⟨xS0, "holdsOlder", "()Z"⟩ : MethodName)) (y' := (⟨xS0, "holdsOlder", "()Z"⟩ : MethodName)) (y := (⟨xS0, "olderList", "()Ljava/util/List;"⟩ : MethodName)) (wd23 hw) rfl (wd42 hw) (wd43 hw) (by decide)) (wd43 hw) (wd2 hw) (wd44 hw) (by decide) (coll0 l Z a0 hw o n nv nr de h0 O0 Eo g_o F0 F1 F2 F3 F4 SD) e102 Eo (by rw [hml]; rfl) (hb hby d5_17) (argsL := []) (rest := []) (lenOf pd9 rfl) rfl rfl (W := 0) (by first | exact Nat.le_refl _ | decide) (by decide) (by decide) (by decide) (by decide) ?_
  intro v103 T103 L103 X103 hQ103
  obtain ⟨h103, e103⟩ : ∃ z, T103.heap = z := ⟨_, rfl⟩
  rw [e103] at hQ103
  obtain ⟨li_103, rfl, N103q, K103, fr103_li, P103_0, P103_1, P103_2, P103_3, P103_4, P103_5, P103_6, P103_7, P103_8⟩ := hQ103
  have N103 := Fr.app N0 N103q
  have ne_o_li_103 : o ≠ li_103 := ne_new Eo.lt fr103_li
  have g_li_103 : Z.heap.size ≤ li_103 := Nat.le_trans O0.1 fr103_li
  have z_li_103 : h0.size ≤ li_103 := Nat.le_trans KP.1 fr103_li
  replace Eo := Eo.keep K103
  have OK103 := ext_keep O0 K103 (allS g_o all0)
  replace KP := KP.trans K103 (allS (Or.inl (List.mem_of_getElem? (i := 0) rfl)) all0)
  refine Go.newO X103 hx hZ hown (wd69 hw) (wd70 hw) (wd71 hw) e103 (hb hby d5_20) (by decide) (by decide) (q := 23) rfl ?_
  intro b104 T104 h104 X104 e104 q104 E104 A104 D104 U104
  have ne_o_b104 : o ≠ b104 := ne_new Eo.lt (Nat.le_of_eq q104)
  have ne_li_103_b104 : li_103 ≠ b104 := ne_new P103_5.lt (Nat.le_of_eq q104)
  have g_b104 : Z.heap.size ≤ b104 := Nat.le_trans OK103.1 (Nat.le_of_eq q104)
  have z_b104 : h0.size ≤ b104 := Nat.le_trans KP.1 (Nat.le_of_eq q104)
  replace Eo := Eo.ext E104
  replace P103_0 := P103_0.ext E104
  replace P103_1 := P103_1.ext E104
  replace P103_2 := P103_2.ext E104
  replace P103_3 := P103_3.ext E104
  replace P103_4 := P103_4.ext E104
  replace P103_5 := P103_5.ext E104
  replace P103_6 := P103_6.ext E104
  replace P103_7 := P103_7.ext E104
  replace P103_8 := P103_8.ext E104
  have OE104 := ext_trans OK103 E104
  replace KP := KP.ext E104
  have F104_writeTimestamp : Fld Z h104 b104 xS3 "writeTimestamp" "J" (.long 0) := D104 (Or.inr (wd77 hw)) (ty := .long) (by decide)
  have F104_value : Fld Z h104 b104 xS3 "value" xS9 .null := D104 (Or.inl (wd79 hw)) (ty := (.object xS2)) (by decide)
  have F104_readTimestamp : Fld Z h104 b104 xS3 "readTimestamp" "J" (.long 0) := D104 (Or.inl (wd81 hw)) (ty := .long) (by decide)
  clear D104
  refine Go.dup X104 hx (hb hby d5_23) rfl (q := 24) rfl ?_
  refine Go.aloadN X104 hx (hb hby d5_24) rfl rfl (q := 25) rfl ?_
  refine Go.getF X104 hx hZ hown (host := "") (Or.inl (wd32 hw)) Via.refl e104 P103_2 (hb hby d5_25) (q := 28) rfl ?_
  intro T105 X105 e105
  refine Go.aloadN X105 hx (hb hby d5_28) rfl rfl (q := 29) rfl ?_
  refine Go.getF X105 hx hZ hown (host := "") (Or.inl (wd16 hw)) Via.refl e105 P103_3 (hb hby d5_29) (q := 32) rfl ?_
  intro T106 X106 e106
  refine Go.aloadN X106 hx (hb hby d5_32) rfl rfl (q := 33) rfl ?_
  refine Go.getF X106 hx hZ hown (host := "") (Or.inl (wd34 hw)) Via.refl e106 P103_4 (hb hby d5_33) (q := 36) rfl ?_
  intro T107 X107 e107
  refine Go.init X107 hx hZ hown rfl (wd72 hw) (wd73 hw) (wd71 hw) (wd74 hw) (by decide) (cold l Z a0 hw b104 n nv nr h104 OE104 A104 g_b104 F104_writeTimestamp F104_value F104_readTimestamp) e107 (by rw [hml]; rfl) (hb hby d5_36) (argsL := [(.long n), (.ref nv), (.long nr)]) (rest := [(.ref b104), (.ref li_103)]) (lenOf pd10 rfl) rfl rfl (W := 2) (by first | exact Nat.le_refl _ | decide) (by decide) (by decide) (by decide) (by decide) ?_
  intro v108 T108 L108 X108 hQ108
  obtain ⟨h108, e108⟩ : ∃ z, T108.heap = z := ⟨_, rfl⟩
  rw [e108] at hQ108
  obtain ⟨rfl, N108q, K108, P108_0, P108_1⟩ := hQ108
  have N108 := Fr.app N103 N108q
  replace Eo := Eo.keep K108
  replace P103_0 := P103_0.keep K108 (ninS ne_o_b104 nin0)
  replace P103_1 := P103_1.keep K108 (ninS ne_o_b104 nin0)
  replace P103_2 := P103_2.keep K108 (ninS ne_o_b104 nin0)
  replace P103_3 := P103_3.keep K108 (ninS ne_o_b104 nin0)
  replace P103_4 := P103_4.keep K108 (ninS ne_o_b104 nin0)
  replace P103_5 := P103_5.keep K108
  replace P103_6 := P103_6.keep K108 (ninS ne_li_103_b104 nin0)
  replace P103_7 := P103_7.keep K108 (ninS ne_li_103_b104 nin0)
  replace P103_8 := P103_8.keep K108 (ninS ne_li_103_b104 nin0)
  replace A104 := A104.keep K108
  have OK108 := ext_keep OE104 K108 (allS g_b104 all0)
  replace KP := KP.trans K108 (allS (Or.inr z_b104) all0)
  refine Go.face X108 hx hZ hown (wd82 hw) (wd83 hw) (wd84 hw) (wd85 hw) (wd86 hw) (wd87 hw) (wd88 hw) (wd89 hw) (wd47 hw) (wd90 hw) (by decide) (cadd_0 l Z a0 hw li_103 b104 de ((0 : Int32)) h108 OK108 P103_5 g_li_103 P103_6 P103_7 P103_8 A104 SD LD) e108 P103_5 (by rw [hml]; rfl) (hb hby d5_39) (argsL := [(.ref b104)]) (rest := []) (lenOf pd11 rfl) rfl rfl (W := 0) (by first | exact Nat.le_refl _ | decide) (by decide) (by decide) (by decide) (by decide) ?_
  intro v109 T109 L109 X109 hQ109
  obtain ⟨h109, e109⟩ : ∃ z, T109.heap = z := ⟨_, rfl⟩
  rw [e109] at hQ109
  obtain ⟨d_109, kd_109, rfl, N109q, K109, fr109_d, P109_0, P109_1, P109_2, P109_3, P109_4⟩ := hQ109
  have N109 := Fr.app N108 N109q
  have ne_o_d_109 : o ≠ d_109 := ne_new Eo.lt fr109_d
  have ne_li_103_d_109 : li_103 ≠ d_109 := ne_new P103_5.lt fr109_d
  have ne_b104_d_109 : b104 ≠ d_109 := ne_new A104.lt fr109_d
  have g_d_109 : Z.heap.size ≤ d_109 := Nat.le_trans OK108.1 fr109_d
  have z_d_109 : h0.size ≤ d_109 := Nat.le_trans KP.1 fr109_d
  replace Eo := Eo.keep K109
  replace P103_0 := P103_0.keep K109 (ninS ne_o_li_103 nin0)
  replace P103_1 := P103_1.keep K109 (ninS ne_o_li_103 nin0)
  replace P103_2 := P103_2.keep K109 (ninS ne_o_li_103 nin0)
  replace P103_3 := P103_3.keep K109 (ninS ne_o_li_103 nin0)
  replace P103_4 := P103_4.keep K109 (ninS ne_o_li_103 nin0)
  replace P103_5 := P103_5.keep K109
  replace A104 := A104.keep K109
  replace P108_0 := P108_0.keep K109 (ninS (Ne.symm ne_li_103_b104) nin0)
  replace P108_1 := P108_1.keep K109 (ninS (Ne.symm ne_li_103_b104) nin0)
  have OK109 := ext_keep OK108 K109 (allS g_li_103 all0)
  replace KP := KP.trans K109 (allS (Or.inr z_li_103) all0)
  refine Go.pop X109 hx (hb hby d5_44) rfl (q := 45) rfl ?_
  refine Go.aloadN X109 hx (hb hby d5_45) rfl rfl (q := 46) rfl ?_
  refine Go.lloadN X109 hx (hb hby d5_46) rfl (q := 47) rfl ?_
  refine Go.putF X109 hx hZ hown (host := "") (Or.inl (wd32 hw)) Via.refl e109 P103_2 Eo (Or.inl (wd33 hw)) (wd1 hw) (ty := .long) (by decide) rfl rfl (hb hby d5_47) (q := 50) rfl ?_
  intro T110 h110 X110 e110 W110 F110
  have N110 := Fr.snoc X110 N109 g_o
  replace Eo := Eo.wr W110
  replace P103_0 := P103_0.other W110 (Or.inr (slot_ne (Or.inr (wd19 hw)) (Or.inl (wd33 hw)) (by decide) (t := .boolean) (t' := .long) (by decide) (by decide)))
  replace P103_1 := P103_1.other W110 (Or.inr (slot_ne (Or.inl (wd26 hw)) (Or.inl (wd33 hw)) (by decide) (t := (.object xS10)) (t' := .long) (by decide) (by decide)))
  replace P103_3 := P103_3.other W110 (Or.inr (slot_ne (Or.inl (wd17 hw)) (Or.inl (wd33 hw)) (by decide) (t := (.object xS2)) (t' := .long) (by decide) (by decide)))
  replace P103_4 := P103_4.other W110 (Or.inr (slot_ne (Or.inl (wd35 hw)) (Or.inl (wd33 hw)) (by decide) (t := .long) (t' := .long) (by decide) (by decide)))
  replace P103_5 := P103_5.wr W110
  replace A104 := A104.wr W110
  replace P108_0 := P108_0.other W110 (Or.inl (Ne.symm ne_o_b104))
  replace P108_1 := P108_1.other W110 (Or.inl (Ne.symm ne_o_b104))
  replace P109_0 := P109_0.other W110 (Or.inl (Ne.symm ne_o_li_103))
  replace P109_1 := P109_1.other W110 (Or.inl (Ne.symm ne_o_li_103))
  replace P109_2 := P109_2.other W110 (Or.inl (Ne.symm ne_o_li_103))
  replace P109_3 := P109_3.other W110 (Ne.symm ne_o_d_109)
  have OW110 := ext_wr OK109 W110 g_o
  replace KP := KP.wr W110 (Or.inl (List.mem_of_getElem? (i := 0) rfl))
  refine Go.aloadN X110 hx (hb hby d5_50) rfl rfl (q := 51) rfl ?_
  refine Go.aloadN X110 hx (hb hby d5_51) rfl rfl (q := 52) rfl ?_
  refine Go.putF X110 hx hZ hown (host := "") (Or.inl (wd16 hw)) Via.refl e110 P103_3 Eo (Or.inl (wd17 hw)) (wd1 hw) (ty := (.object xS2)) (by decide) rfl rfl (hb hby d5_52) (q := 55) rfl ?_
  intro T111 h111 X111 e111 W111 F111
  have N111 := Fr.snoc X111 N110 g_o
  replace Eo := Eo.wr W111
  replace P103_0 := P103_0.other W111 (Or.inr (slot_ne (Or.inr (wd19 hw)) (Or.inl (wd17 hw)) (by decide) (t := .boolean) (t' := (.object xS2)) (by decide) (by decide)))
  replace P103_1 := P103_1.other W111 (Or.inr (slot_ne (Or.inl (wd26 hw)) (Or.inl (wd17 hw)) (by decide) (t := (.object xS10)) (t' := (.object xS2)) (by decide) (by decide)))
  replace P103_4 := P103_4.other W111 (Or.inr (slot_ne (Or.inl (wd35 hw)) (Or.inl (wd17 hw)) (by decide) (t := .long) (t' := (.object xS2)) (by decide) (by decide)))
  replace P103_5 := P103_5.wr W111
  replace A104 := A104.wr W111
  replace P108_0 := P108_0.other W111 (Or.inl (Ne.symm ne_o_b104))
  replace P108_1 := P108_1.other W111 (Or.inl (Ne.symm ne_o_b104))
  replace P109_0 := P109_0.other W111 (Or.inl (Ne.symm ne_o_li_103))
  replace P109_1 := P109_1.other W111 (Or.inl (Ne.symm ne_o_li_103))
  replace P109_2 := P109_2.other W111 (Or.inl (Ne.symm ne_o_li_103))
  replace P109_3 := P109_3.other W111 (Ne.symm ne_o_d_109)
  replace F110 := F110.other W111 (Or.inr (slot_ne (Or.inl (wd33 hw)) (Or.inl (wd17 hw)) (by decide) (t := .long) (t' := (.object xS2)) (by decide) (by decide)))
  have OW111 := ext_wr OW110 W111 g_o
  replace KP := KP.wr W111 (Or.inl (List.mem_of_getElem? (i := 0) rfl))
  refine Go.aloadN X111 hx (hb hby d5_55) rfl rfl (q := 56) rfl ?_
  refine Go.lconst X111 hx (hb hby d5_56) (r := (0 : Int64)) rfl (q := 57) rfl ?_
  refine Go.putF X111 hx hZ hown (host := "") (Or.inl (wd34 hw)) Via.refl e111 P103_4 Eo (Or.inl (wd35 hw)) (wd1 hw) (ty := .long) (by decide) rfl rfl (hb hby d5_57) (q := 60) rfl ?_
  intro T112 h112 X112 e112 W112 F112
  have N112 := Fr.snoc X112 N111 g_o
  replace Eo := Eo.wr W112
  replace P103_0 := P103_0.other W112 (Or.inr (slot_ne (Or.inr (wd19 hw)) (Or.inl (wd35 hw)) (by decide) (t := .boolean) (t' := .long) (by decide) (by decide)))
  replace P103_1 := P103_1.other W112 (Or.inr (slot_ne (Or.inl (wd26 hw)) (Or.inl (wd35 hw)) (by decide) (t := (.object xS10)) (t' := .long) (by decide) (by decide)))
  replace P103_5 := P103_5.wr W112
  replace A104 := A104.wr W112
  replace P108_0 := P108_0.other W112 (Or.inl (Ne.symm ne_o_b104))
  replace P108_1 := P108_1.other W112 (Or.inl (Ne.symm ne_o_b104))
  replace P109_0 := P109_0.other W112 (Or.inl (Ne.symm ne_o_li_103))
  replace P109_1 := P109_1.other W112 (Or.inl (Ne.symm ne_o_li_103))
  replace P109_2 := P109_2.other W112 (Or.inl (Ne.symm ne_o_li_103))
  replace P109_3 := P109_3.other W112 (Ne.symm ne_o_d_109)
  replace F110 := F110.other W112 (Or.inr (slot_ne (Or.inl (wd33 hw)) (Or.inl (wd35 hw)) (by decide) (t := .long) (t' := .long) (by decide) (by decide)))
  replace F111 := F111.other W112 (Or.inr (slot_ne (Or.inl (wd17 hw)) (Or.inl (wd35 hw)) (by decide) (t := (.object xS2)) (t' := .long) (by decide) (by decide)))
  have OW112 := ext_wr OW111 W112 g_o
  replace KP := KP.wr W112 (Or.inl (List.mem_of_getElem? (i := 0) rfl))
  refine Go.goto X112 hx (hb hby d5_60) (q := 165) (by decide) (by decide) ?_
  exact Go.retV X112 hx hret hlk (hb hby d5_165) e112 (by decide) (by decide) ⟨li_103, d_109, b104, kd_109, rfl, N112, KP, z_li_103, z_d_109, z_b104, P103_0, P103_1, F110, F111, F112, P103_5, P109_0, P109_1, P109_2, P109_3, P109_4, A104, P108_0, P108_1, ne_li_103_d_109, ne_li_103_b104, (Ne.symm ne_b104_d_109)⟩
def Q_cwAe (Z : State) (o : Addr) (p : Int64) (v : Addr) (n : Int64) (nv : Addr) (nr : Int64) (h0 : Heap) (vR : Option Value) (hR : Heap) (LR : List Loc) : Prop := vR = none ∧ Fr Z.heap.size LR ∧ Keep h0 hR [o] ∧ Fld Z hR o xS0 "keepsOlder" "Z" (.int 1) ∧ Fld Z hR o xS0 "older" xS8 .null ∧ Fld Z hR o xS0 xS11 "J" (.long n) ∧ Fld Z hR o xS0 "newestValue" xS9 (.ref v) ∧ Fld Z hR o xS0 xS12 "J" (.long nr)
theorem cwAe (l : Launch) (Z : State) (a0 : Array Value) (hw : ∀ d ∈ tables_1, d.before a0 Z = true) (o : Addr) (p : Int64) (v : Addr) (n : Int64) (nv : Addr) (nr : Int64) (h0 : Heap) (O0 : Ext Z.heap h0) (Eo : Exa Z h0 o xS0) (g_o : Z.heap.size ≤ o) (F0 : Fld Z h0 o xS0 "keepsOlder" "Z" (.int 1)) (F1 : Fld Z h0 o xS0 "older" xS8 .null) (F2 : Fld Z h0 o xS0 xS11 "J" (.long n)) (F3 : Fld Z h0 o xS0 "newestValue" xS9 (.ref nv)) (F4 : Fld Z h0 o xS0 xS12 "J" (.long nr)) (h1 : ¬ (n < p)) (h2 : p = n) :
    Ctr l Z h0 (⟨xS0, "write", "(JLjava/lang/Object;)V"⟩ : MethodName) k5 5 none [] ({ frames := 0, cells := 0, slots := 0, locals := 0 } : Room) #[(.ref o), (.long p), (.ref v)] (Q_cwAe Z o p v n nv nr h0) := by
  refine enter (plainFor_of_name pn6) ?_
  intro pp ee ss mm below meth cc s₁ hx hby hml hZ hown hnm hret hlk X0 e0 hs0
  replace hown : ss.vm.findClass xS0 = some mm.cls := hown
  refine Go.cast (congrArg s₁.setTop (ef_cwAe mm o p v)) ?_
  have N0 := Fr.nil Z.heap.size
  have KP := Keep.refl h0 [o]
  show Go pp ee below _ (s₁.setTop (mkF mm 0 #[.val (.ref o), .val (.long p), .second, .val (.ref v), .unset] []))
  refine Go.lloadN X0 hx (hb hby d5_0) rfl (q := 1) rfl ?_
  refine Go.aloadN X0 hx (hb hby d5_1) rfl rfl (q := 2) rfl ?_
  refine Go.getF X0 hx hZ hown (host := "") (Or.inl (wd32 hw)) Via.refl e0 F2 (hb hby d5_2) (q := 5) rfl ?_
  intro T101 X101 e101
  refine Go.lcmp X101 hx (hb hby d5_5) rfl (q := 6) rfl ?_
  refine Go.ifYes X101 hx (hb hby d5_6) (Jvm.Free.XT.ll_le_t h1) (q := 63) (by decide) (by decide) ?_
  refine Go.lloadN X101 hx (hb hby d5_63) rfl (q := 64) rfl ?_
  refine Go.aloadN X101 hx (hb hby d5_64) rfl rfl (q := 65) rfl ?_
  refine Go.getF X101 hx hZ hown (host := "") (Or.inl (wd32 hw)) Via.refl e101 F2 (hb hby d5_65) (q := 68) rfl ?_
  intro T102 X102 e102
  refine Go.lcmp X102 hx (hb hby d5_68) rfl (q := 69) rfl ?_
  refine Go.ifNo X102 hx (hb hby d5_69) (Jvm.Free.XT.ll_ne_f h2) (q := 72) rfl ?_
  refine Go.aloadN X102 hx (hb hby d5_72) rfl rfl (q := 73) rfl ?_
  refine Go.aloadN X102 hx (hb hby d5_73) rfl rfl (q := 74) rfl ?_
  refine Go.putF X102 hx hZ hown (host := "") (Or.inl (wd16 hw)) Via.refl e102 F3 Eo (Or.inl (wd17 hw)) (wd1 hw) (ty := (.object xS2)) (by decide) rfl rfl (hb hby d5_74) (q := 77) rfl ?_
  intro T103 h103 X103 e103 W103 F103
  have N103 := Fr.snoc X103 N0 g_o
  replace Eo := Eo.wr W103
  replace F0 := F0.other W103 (Or.inr (slot_ne (Or.inr (wd19 hw)) (Or.inl (wd17 hw)) (by decide) (t := .boolean) (t' := (.object xS2)) (by decide) (by decide)))
  replace F1 := F1.other W103 (Or.inr (slot_ne (Or.inl (wd26 hw)) (Or.inl (wd17 hw)) (by decide) (t := (.object xS10)) (t' := (.object xS2)) (by decide) (by decide)))
  replace F2 := F2.other W103 (Or.inr (slot_ne (Or.inl (wd33 hw)) (Or.inl (wd17 hw)) (by decide) (t := .long) (t' := (.object xS2)) (by decide) (by decide)))
  replace F4 := F4.other W103 (Or.inr (slot_ne (Or.inl (wd35 hw)) (Or.inl (wd17 hw)) (by decide) (t := .long) (t' := (.object xS2)) (by decide) (by decide)))
  have OW103 := ext_wr O0 W103 g_o
  replace KP := KP.wr W103 (Or.inl (List.mem_of_getElem? (i := 0) rfl))
  refine Go.goto X103 hx (hb hby d5_77) (q := 165) (by decide) (by decide) ?_
  exact Go.retV X103 hx hret hlk (hb hby d5_165) e103 (by decide) (by decide) ⟨rfl, N103, KP, F0, F1, F2, F103, F4⟩
def Q_cwAl (Z : State) (o : Addr) (p : Int64) (v : Addr) (n : Int64) (nv : Addr) (nr : Int64) (de : Addr) (h0 : Heap) (vR : Option Value) (hR : Heap) (LR : List Loc) : Prop := ∃ li : Addr, ∃ d : Addr, ∃ x0 : Addr, ∃ kd : ClassId, vR = none ∧ Fr Z.heap.size LR ∧ Keep h0 hR [o] ∧ h0.size ≤ li ∧ h0.size ≤ d ∧ h0.size ≤ x0 ∧ Fld Z hR o xS0 "keepsOlder" "Z" (.int 1) ∧ Fld Z hR o xS0 "older" xS8 (.ref li) ∧ Fld Z hR o xS0 xS11 "J" (.long n) ∧ Fld Z hR o xS0 "newestValue" xS9 (.ref nv) ∧ Fld Z hR o xS0 xS12 "J" (.long nr) ∧ Exa Z hR li xS1 ∧ Fld Z hR li xS1 xS7 xS6 (.ref d) ∧ Fld Z hR li xS1 "size" "I" (.int 1) ∧ Fld Z hR li xS5 "modCount" "I" (.int 1) ∧ Arv Z hR d kd (.object xS2) (10 : Int32) [(.ref x0), .null, .null, .null, .null, .null, .null, .null, .null, .null] .null ∧ Ovr Z kd xS2 ∧ Exa Z hR x0 xS3 ∧ Fld Z hR x0 xS3 "writeTimestamp" "J" (.long p) ∧ Fld Z hR x0 xS3 "value" xS9 (.ref v) ∧ li ≠ d ∧ li ≠ x0 ∧ d ≠ x0
theorem cwAl (l : Launch) (Z : State) (a0 : Array Value) (hw : ∀ d ∈ tables_1, d.before a0 Z = true) (o : Addr) (p : Int64) (v : Addr) (n : Int64) (nv : Addr) (nr : Int64) (de : Addr) (h0 : Heap) (O0 : Ext Z.heap h0) (Eo : Exa Z h0 o xS0) (g_o : Z.heap.size ≤ o) (F0 : Fld Z h0 o xS0 "keepsOlder" "Z" (.int 1)) (F1 : Fld Z h0 o xS0 "older" xS8 .null) (F2 : Fld Z h0 o xS0 xS11 "J" (.long n)) (F3 : Fld Z h0 o xS0 "newestValue" xS9 (.ref nv)) (F4 : Fld Z h0 o xS0 xS12 "J" (.long nr)) (SD : Sta Z Z.heap xS1 "DEFAULTCAPACITY_EMPTY_ELEMENTDATA" xS6 (.ref de)) (LD : Lng Z Z.heap de (0 : Int32)) (h1 : ¬ (n < p)) (h2 : ¬ (p = n)) :
    Ctr l Z h0 (⟨xS0, "write", "(JLjava/lang/Object;)V"⟩ : MethodName) k5 5 none [] ({ frames := 5, cells := 3, slots := 16, locals := 62 } : Room) #[(.ref o), (.long p), (.ref v)] (Q_cwAl Z o p v n nv nr de h0) := by
  refine enter (plainFor_of_name pn6) ?_
  intro pp ee ss mm below meth cc s₁ hx hby hml hZ hown hnm hret hlk X0 e0 hs0
  replace hown : ss.vm.findClass xS0 = some mm.cls := hown
  refine Go.cast (congrArg s₁.setTop (ef_cwAl mm o p v)) ?_
  have N0 := Fr.nil Z.heap.size
  have KP := Keep.refl h0 [o]
  show Go pp ee below _ (s₁.setTop (mkF mm 0 #[.val (.ref o), .val (.long p), .second, .val (.ref v), .unset] []))
  refine Go.lloadN X0 hx (hb hby d5_0) rfl (q := 1) rfl ?_
  refine Go.aloadN X0 hx (hb hby d5_1) rfl rfl (q := 2) rfl ?_
  refine Go.getF X0 hx hZ hown (host := "") (Or.inl (wd32 hw)) Via.refl e0 F2 (hb hby d5_2) (q := 5) rfl ?_
  intro T101 X101 e101
  refine Go.lcmp X101 hx (hb hby d5_5) rfl (q := 6) rfl ?_
  refine Go.ifYes X101 hx (hb hby d5_6) (Jvm.Free.XT.ll_le_t h1) (q := 63) (by decide) (by decide) ?_
  refine Go.lloadN X101 hx (hb hby d5_63) rfl (q := 64) rfl ?_
  refine Go.aloadN X101 hx (hb hby d5_64) rfl rfl (q := 65) rfl ?_
  refine Go.getF X101 hx hZ hown (host := "") (Or.inl (wd32 hw)) Via.refl e101 F2 (hb hby d5_65) (q := 68) rfl ?_
  intro T102 X102 e102
  refine Go.lcmp X102 hx (hb hby d5_68) rfl (q := 69) rfl ?_
  refine Go.ifYes X102 hx (hb hby d5_69) (Jvm.Free.XT.ll_ne_t h2) (q := 80) (by decide) (by decide) ?_
  refine Go.aloadN X102 hx (hb hby d5_80) rfl rfl (q := 81) rfl ?_
  refine Go.getF X102 hx hZ hown (host := "") (Or.inl (wd18 hw)) Via.refl e102 F0 (hb hby d5_81) (q := 84) rfl ?_
  intro T103 X103 e103
  refine Go.ifNo X103 hx (hb hby d5_84) (by decide) (q := 87) rfl ?_
  refine Go.aloadN X103 hx (hb hby d5_87) rfl rfl (q := 88) rfl ?_
  refine Go.lloadN X103 hx (hb hby d5_88) rfl (q := 89) rfl ?_
  refine Go.priv X103 hx hZ hown (wd133 hw) (wd134 hw) (own_selp (x' := (⟨xS0, "holdsOlder", "()Z"⟩ : MethodName)) (y' := (⟨xS0, "holdsOlder", "()Z"⟩ : MethodName)) (y := (⟨xS0, "olderNotAbove", "(J)I"⟩ : MethodName)) (wd23 hw) rfl (wd134 hw) (wd135 hw) (by decide)) (wd135 hw) (wd2 hw) (wd136 hw) (by decide) (cona0 l Z a0 hw o p h0 O0 F1) e103 Eo (by rw [hml]; rfl) (hb hby d5_89) (argsL := [(.long p)]) (rest := []) (lenOf pd12 rfl) rfl rfl (W := 0) (by first | exact Nat.le_refl _ | decide) (by decide) (by decide) (by decide) (by decide) ?_
  intro v104 T104 L104 X104 hQ104
  obtain ⟨rfl, N104q, e104⟩ := hQ104
  have N104 := Fr.app N0 N104q
  refine Go.istore X104 hx (hb hby d5_92) (l' := #[.val (.ref o), .val (.long p), .second, .val (.ref v), .val (.int (-1))]) rfl (q := 94) rfl ?_
  refine Go.iload X104 hx (hb hby d5_94) rfl (q := 96) rfl ?_
  refine Go.ifYes X104 hx (hb hby d5_96) (by decide) (q := 142) (by decide) (by decide) ?_
  refine Go.aloadN X104 hx (hb hby d5_142) rfl rfl (q := 143) rfl ?_
  refine Go.priv X104 hx hZ hown (wd41 hw) (wd42 hw) (own_selp (x' := (⟨xS0, "holdsOlder", "()Z"⟩ : MethodName)) (y' := (⟨xS0, "holdsOlder", "()Z"⟩ : MethodName)) (y := (⟨xS0, "olderList", "()Ljava/util/List;"⟩ : MethodName)) (wd23 hw) rfl (wd42 hw) (wd43 hw) (by decide)) (wd43 hw) (wd2 hw) (wd44 hw) (by decide) (coll0 l Z a0 hw o n nv nr de h0 O0 Eo g_o F0 F1 F2 F3 F4 SD) e104 Eo (by rw [hml]; rfl) (hb hby d5_143) (argsL := []) (rest := []) (lenOf pd9 rfl) rfl rfl (W := 0) (by first | exact Nat.le_refl _ | decide) (by decide) (by decide) (by decide) (by decide) ?_
  intro v105 T105 L105 X105 hQ105
  obtain ⟨h105, e105⟩ : ∃ z, T105.heap = z := ⟨_, rfl⟩
  rw [e105] at hQ105
  obtain ⟨li_105, rfl, N105q, K105, fr105_li, P105_0, P105_1, P105_2, P105_3, P105_4, P105_5, P105_6, P105_7, P105_8⟩ := hQ105
  have N105 := Fr.app N104 N105q
  have ne_o_li_105 : o ≠ li_105 := ne_new Eo.lt fr105_li
  have g_li_105 : Z.heap.size ≤ li_105 := Nat.le_trans O0.1 fr105_li
  have z_li_105 : h0.size ≤ li_105 := Nat.le_trans KP.1 fr105_li
  replace Eo := Eo.keep K105
  have OK105 := ext_keep O0 K105 (allS g_o all0)
  replace KP := KP.trans K105 (allS (Or.inl (List.mem_of_getElem? (i := 0) rfl)) all0)
  refine Go.iload X105 hx (hb hby d5_146) rfl (q := 148) rfl ?_
  refine Go.iconst X105 hx (hb hby d5_148) (r := (1 : Int32)) rfl (q := 149) rfl ?_
  refine Go.iadd X105 hx (hb hby d5_149) (r := (0 : Int32)) rfl (q := 150) rfl ?_
  refine Go.newO X105 hx hZ hown (wd69 hw) (wd70 hw) (wd71 hw) e105 (hb hby d5_150) (by decide) (by decide) (q := 153) rfl ?_
  intro b106 T106 h106 X106 e106 q106 E106 A106 D106 U106
  have ne_o_b106 : o ≠ b106 := ne_new Eo.lt (Nat.le_of_eq q106)
  have ne_li_105_b106 : li_105 ≠ b106 := ne_new P105_5.lt (Nat.le_of_eq q106)
  have g_b106 : Z.heap.size ≤ b106 := Nat.le_trans OK105.1 (Nat.le_of_eq q106)
  have z_b106 : h0.size ≤ b106 := Nat.le_trans KP.1 (Nat.le_of_eq q106)
  replace Eo := Eo.ext E106
  replace P105_0 := P105_0.ext E106
  replace P105_1 := P105_1.ext E106
  replace P105_2 := P105_2.ext E106
  replace P105_3 := P105_3.ext E106
  replace P105_4 := P105_4.ext E106
  replace P105_5 := P105_5.ext E106
  replace P105_6 := P105_6.ext E106
  replace P105_7 := P105_7.ext E106
  replace P105_8 := P105_8.ext E106
  have OE106 := ext_trans OK105 E106
  replace KP := KP.ext E106
  have F106_writeTimestamp : Fld Z h106 b106 xS3 "writeTimestamp" "J" (.long 0) := D106 (Or.inr (wd77 hw)) (ty := .long) (by decide)
  have F106_value : Fld Z h106 b106 xS3 "value" xS9 .null := D106 (Or.inl (wd79 hw)) (ty := (.object xS2)) (by decide)
  have F106_readTimestamp : Fld Z h106 b106 xS3 "readTimestamp" "J" (.long 0) := D106 (Or.inl (wd81 hw)) (ty := .long) (by decide)
  clear D106
  refine Go.dup X106 hx (hb hby d5_153) rfl (q := 154) rfl ?_
  refine Go.lloadN X106 hx (hb hby d5_154) rfl (q := 155) rfl ?_
  refine Go.aloadN X106 hx (hb hby d5_155) rfl rfl (q := 156) rfl ?_
  refine Go.lconst X106 hx (hb hby d5_156) (r := (0 : Int64)) rfl (q := 157) rfl ?_
  refine Go.init X106 hx hZ hown rfl (wd72 hw) (wd73 hw) (wd71 hw) (wd74 hw) (by decide) (cold l Z a0 hw b106 p v ((0 : Int64)) h106 OE106 A106 g_b106 F106_writeTimestamp F106_value F106_readTimestamp) e106 (by rw [hml]; rfl) (hb hby d5_157) (argsL := [(.long p), (.ref v), (.long 0)]) (rest := [(.ref b106), (.int 0), (.ref li_105)]) (lenOf pd10 rfl) rfl rfl (W := 3) (by first | exact Nat.le_refl _ | decide) (by decide) (by decide) (by decide) (by decide) ?_
  intro v107 T107 L107 X107 hQ107
  obtain ⟨h107, e107⟩ : ∃ z, T107.heap = z := ⟨_, rfl⟩
  rw [e107] at hQ107
  obtain ⟨rfl, N107q, K107, P107_0, P107_1⟩ := hQ107
  have N107 := Fr.app N105 N107q
  replace Eo := Eo.keep K107
  replace P105_0 := P105_0.keep K107 (ninS ne_o_b106 nin0)
  replace P105_1 := P105_1.keep K107 (ninS ne_o_b106 nin0)
  replace P105_2 := P105_2.keep K107 (ninS ne_o_b106 nin0)
  replace P105_3 := P105_3.keep K107 (ninS ne_o_b106 nin0)
  replace P105_4 := P105_4.keep K107 (ninS ne_o_b106 nin0)
  replace P105_5 := P105_5.keep K107
  replace P105_6 := P105_6.keep K107 (ninS ne_li_105_b106 nin0)
  replace P105_7 := P105_7.keep K107 (ninS ne_li_105_b106 nin0)
  replace P105_8 := P105_8.keep K107 (ninS ne_li_105_b106 nin0)
  replace A106 := A106.keep K107
  have OK107 := ext_keep OE106 K107 (allS g_b106 all0)
  replace KP := KP.trans K107 (allS (Or.inr z_b106) all0)
  refine Go.face X107 hx hZ hown (wd160 hw) (wd161 hw) (wd162 hw) (wd163 hw) (wd164 hw) (wd165 hw) (wd166 hw) (wd89 hw) (wd47 hw) (wd167 hw) (by decide) (cai_0 l Z a0 hw li_105 b106 de ((0 : Int32)) h107 OK107 P105_5 g_li_105 P105_6 P105_7 P105_8 A106 SD LD) e107 P105_5 (by rw [hml]; rfl) (hb hby d5_160) (argsL := [(.int 0), (.ref b106)]) (rest := []) (lenOf pd13 rfl) rfl rfl (W := 0) (by first | exact Nat.le_refl _ | decide) (by decide) (by decide) (by decide) (by decide) ?_
  intro v108 T108 L108 X108 hQ108
  obtain ⟨h108, e108⟩ : ∃ z, T108.heap = z := ⟨_, rfl⟩
  rw [e108] at hQ108
  obtain ⟨d_108, kd_108, rfl, N108q, K108, fr108_d, P108_0, P108_1, P108_2, P108_3, P108_4⟩ := hQ108
  have N108 := Fr.app N107 N108q
  have ne_o_d_108 : o ≠ d_108 := ne_new Eo.lt fr108_d
  have ne_li_105_d_108 : li_105 ≠ d_108 := ne_new P105_5.lt fr108_d
  have ne_b106_d_108 : b106 ≠ d_108 := ne_new A106.lt fr108_d
  have g_d_108 : Z.heap.size ≤ d_108 := Nat.le_trans OK107.1 fr108_d
  have z_d_108 : h0.size ≤ d_108 := Nat.le_trans KP.1 fr108_d
  replace Eo := Eo.keep K108
  replace P105_0 := P105_0.keep K108 (ninS ne_o_li_105 nin0)
  replace P105_1 := P105_1.keep K108 (ninS ne_o_li_105 nin0)
  replace P105_2 := P105_2.keep K108 (ninS ne_o_li_105 nin0)
  replace P105_3 := P105_3.keep K108 (ninS ne_o_li_105 nin0)
  replace P105_4 := P105_4.keep K108 (ninS ne_o_li_105 nin0)
  replace P105_5 := P105_5.keep K108
  replace A106 := A106.keep K108
  replace P107_0 := P107_0.keep K108 (ninS (Ne.symm ne_li_105_b106) nin0)
  replace P107_1 := P107_1.keep K108 (ninS (Ne.symm ne_li_105_b106) nin0)
  have OK108 := ext_keep OK107 K108 (allS g_li_105 all0)
  replace KP := KP.trans K108 (allS (Or.inr z_li_105) all0)
  exact Go.retV X108 hx hret hlk (hb hby d5_165) e108 (by decide) (by decide) ⟨li_105, d_108, b106, kd_108, rfl, N108, KP, z_li_105, z_d_108, z_b106, P105_0, P105_1, P105_2, P105_3, P105_4, P105_5, P108_0, P108_1, P108_2, P108_3, P108_4, A106, P107_0, P107_1, ne_li_105_d_108, ne_li_105_b106, (Ne.symm ne_b106_d_108)⟩
def Q_cwBg (Z : State) (o : Addr) (p : Int64) (v : Addr) (n : Int64) (nv : Addr) (nr : Int64) (li d x0 : Addr) (w0 : Int64) (mc : Int32) (kd : ClassId) (xv : Addr) (h0 : Heap) (vR : Option Value) (hR : Heap) (LR : List Loc) : Prop := ∃ x1 : Addr, vR = none ∧ Fr Z.heap.size LR ∧ Keep h0 hR [o, li, d] ∧ h0.size ≤ x1 ∧ Fld Z hR o xS0 "keepsOlder" "Z" (.int 1) ∧ Fld Z hR o xS0 "older" xS8 (.ref li) ∧ Fld Z hR o xS0 xS11 "J" (.long p) ∧ Fld Z hR o xS0 "newestValue" xS9 (.ref v) ∧ Fld Z hR o xS0 xS12 "J" (.long 0) ∧ Fld Z hR li xS1 xS7 xS6 (.ref d) ∧ Fld Z hR li xS1 "size" "I" (.int 2) ∧ Fld Z hR li xS5 "modCount" "I" (.int (mc + (1 : Int32))) ∧ Arv Z hR d kd (.object xS2) (10 : Int32) [(.ref x0), (.ref x1), .null, .null, .null, .null, .null, .null, .null, .null] .null ∧ Exa Z hR x1 xS3 ∧ Fld Z hR x1 xS3 "writeTimestamp" "J" (.long n)
theorem cwBg (l : Launch) (Z : State) (a0 : Array Value) (hw : ∀ d ∈ tables_1, d.before a0 Z = true) (o : Addr) (p : Int64) (v : Addr) (n : Int64) (nv : Addr) (nr : Int64) (li d x0 : Addr) (w0 : Int64) (mc : Int32) (kd : ClassId) (xv : Addr) (h0 : Heap) (O0 : Ext Z.heap h0) (Eo : Exa Z h0 o xS0) (g_o : Z.heap.size ≤ o) (F0 : Fld Z h0 o xS0 "keepsOlder" "Z" (.int 1)) (F1 : Fld Z h0 o xS0 "older" xS8 (.ref li)) (F2 : Fld Z h0 o xS0 xS11 "J" (.long n)) (F3 : Fld Z h0 o xS0 "newestValue" xS9 (.ref nv)) (F4 : Fld Z h0 o xS0 xS12 "J" (.long nr)) (El : Exa Z h0 li xS1) (Fed : Fld Z h0 li xS1 xS7 xS6 (.ref d)) (Fsz : Fld Z h0 li xS1 "size" "I" (.int 1)) (Fmc : Fld Z h0 li xS5 "modCount" "I" (.int mc)) (Vd : Arv Z h0 d kd (.object xS2) (10 : Int32) [(.ref x0), .null, .null, .null, .null, .null, .null, .null, .null, .null] .null) (Ex0 : Exa Z h0 x0 xS3) (Fw0 : Fld Z h0 x0 xS3 "writeTimestamp" "J" (.long w0)) (Fx0 : Fld Z h0 x0 xS3 "value" xS9 (.ref xv)) (g_li : Z.heap.size ≤ li) (g_d : Z.heap.size ≤ d) (g_x0 : Z.heap.size ≤ x0) (n_o_li : o ≠ li) (n_o_d : o ≠ d) (n_o_x0 : o ≠ x0) (n_li_d : li ≠ d) (n_li_x0 : li ≠ x0) (n_d_x0 : d ≠ x0) (ov : Ovr Z kd xS2) (h : n < p) :
    Ctr l Z h0 (⟨xS0, "write", "(JLjava/lang/Object;)V"⟩ : MethodName) k5 5 none [] ({ frames := 2, cells := 1, slots := 3, locals := 31 } : Room) #[(.ref o), (.long p), (.ref v)] (Q_cwBg Z o p v n nv nr li d x0 w0 mc kd xv h0) := by
  refine enter (plainFor_of_name pn6) ?_
  intro pp ee ss mm below meth cc s₁ hx hby hml hZ hown hnm hret hlk X0 e0 hs0
  replace hown : ss.vm.findClass xS0 = some mm.cls := hown
  refine Go.cast (congrArg s₁.setTop (ef_cwBg mm o p v)) ?_
  have N0 := Fr.nil Z.heap.size
  have KP := Keep.refl h0 [o, li, d]
  show Go pp ee below _ (s₁.setTop (mkF mm 0 #[.val (.ref o), .val (.long p), .second, .val (.ref v), .unset] []))
  refine Go.lloadN X0 hx (hb hby d5_0) rfl (q := 1) rfl ?_
  refine Go.aloadN X0 hx (hb hby d5_1) rfl rfl (q := 2) rfl ?_
  refine Go.getF X0 hx hZ hown (host := "") (Or.inl (wd32 hw)) Via.refl e0 F2 (hb hby d5_2) (q := 5) rfl ?_
  intro T101 X101 e101
  refine Go.lcmp X101 hx (hb hby d5_5) rfl (q := 6) rfl ?_
  refine Go.ifNo X101 hx (hb hby d5_6) (Jvm.Free.XT.ll_le_f h) (q := 9) rfl ?_
  refine Go.aloadN X101 hx (hb hby d5_9) rfl rfl (q := 10) rfl ?_
  refine Go.getF X101 hx hZ hown (host := "") (Or.inl (wd18 hw)) Via.refl e101 F0 (hb hby d5_10) (q := 13) rfl ?_
  intro T102 X102 e102
  refine Go.ifNo X102 hx (hb hby d5_13) (by decide) (q := 16) rfl ?_
  refine Go.aloadN X102 hx (hb hby d5_16) rfl rfl (q := 17) rfl ?_
  refine Go.priv X102 hx hZ hown (wd41 hw) (wd42 hw) (own_selp (x' := (⟨xS0, "holdsOlder", "()Z"⟩ : MethodName)) (y' := (⟨xS0, "holdsOlder", "()Z"⟩ : MethodName)) (y := (⟨xS0, "olderList", "()Ljava/util/List;"⟩ : MethodName)) (wd23 hw) rfl (wd42 hw) (wd43 hw) (by decide)) (wd43 hw) (wd2 hw) (wd44 hw) (by decide) (coll1 l Z a0 hw o li h0 O0 F1) e102 Eo (by rw [hml]; rfl) (hb hby d5_17) (argsL := []) (rest := []) (lenOf pd9 rfl) rfl rfl (W := 0) (by first | exact Nat.le_refl _ | decide) (by decide) (by decide) (by decide) (by decide) ?_
  intro v103 T103 L103 X103 hQ103
  obtain ⟨rfl, N103q, e103⟩ := hQ103
  have N103 := Fr.app N0 N103q
  refine Go.newO X103 hx hZ hown (wd69 hw) (wd70 hw) (wd71 hw) e103 (hb hby d5_20) (by decide) (by decide) (q := 23) rfl ?_
  intro b104 T104 h104 X104 e104 q104 E104 A104 D104 U104
  have ne_o_b104 : o ≠ b104 := ne_new Eo.lt (Nat.le_of_eq q104)
  have ne_li_b104 : li ≠ b104 := ne_new El.lt (Nat.le_of_eq q104)
  have ne_d_b104 : d ≠ b104 := ne_new Vd.lt (Nat.le_of_eq q104)
  have ne_x0_b104 : x0 ≠ b104 := ne_new Ex0.lt (Nat.le_of_eq q104)
  have g_b104 : Z.heap.size ≤ b104 := Nat.le_trans O0.1 (Nat.le_of_eq q104)
  have z_b104 : h0.size ≤ b104 := Nat.le_trans KP.1 (Nat.le_of_eq q104)
  replace Eo := Eo.ext E104
  replace F0 := F0.ext E104
  replace F1 := F1.ext E104
  replace F2 := F2.ext E104
  replace F3 := F3.ext E104
  replace F4 := F4.ext E104
  replace El := El.ext E104
  replace Fed := Fed.ext E104
  replace Fsz := Fsz.ext E104
  replace Fmc := Fmc.ext E104
  replace Vd := Vd.ext E104
  replace Ex0 := Ex0.ext E104
  replace Fw0 := Fw0.ext E104
  replace Fx0 := Fx0.ext E104
  have OE104 := ext_trans O0 E104
  replace KP := KP.ext E104
  have F104_writeTimestamp : Fld Z h104 b104 xS3 "writeTimestamp" "J" (.long 0) := D104 (Or.inr (wd77 hw)) (ty := .long) (by decide)
  have F104_value : Fld Z h104 b104 xS3 "value" xS9 .null := D104 (Or.inl (wd79 hw)) (ty := (.object xS2)) (by decide)
  have F104_readTimestamp : Fld Z h104 b104 xS3 "readTimestamp" "J" (.long 0) := D104 (Or.inl (wd81 hw)) (ty := .long) (by decide)
  clear D104
  refine Go.dup X104 hx (hb hby d5_23) rfl (q := 24) rfl ?_
  refine Go.aloadN X104 hx (hb hby d5_24) rfl rfl (q := 25) rfl ?_
  refine Go.getF X104 hx hZ hown (host := "") (Or.inl (wd32 hw)) Via.refl e104 F2 (hb hby d5_25) (q := 28) rfl ?_
  intro T105 X105 e105
  refine Go.aloadN X105 hx (hb hby d5_28) rfl rfl (q := 29) rfl ?_
  refine Go.getF X105 hx hZ hown (host := "") (Or.inl (wd16 hw)) Via.refl e105 F3 (hb hby d5_29) (q := 32) rfl ?_
  intro T106 X106 e106
  refine Go.aloadN X106 hx (hb hby d5_32) rfl rfl (q := 33) rfl ?_
  refine Go.getF X106 hx hZ hown (host := "") (Or.inl (wd34 hw)) Via.refl e106 F4 (hb hby d5_33) (q := 36) rfl ?_
  intro T107 X107 e107
  refine Go.init X107 hx hZ hown rfl (wd72 hw) (wd73 hw) (wd71 hw) (wd74 hw) (by decide) (cold l Z a0 hw b104 n nv nr h104 OE104 A104 g_b104 F104_writeTimestamp F104_value F104_readTimestamp) e107 (by rw [hml]; rfl) (hb hby d5_36) (argsL := [(.long n), (.ref nv), (.long nr)]) (rest := [(.ref b104), (.ref li)]) (lenOf pd10 rfl) rfl rfl (W := 2) (by first | exact Nat.le_refl _ | decide) (by decide) (by decide) (by decide) (by decide) ?_
  intro v108 T108 L108 X108 hQ108
  obtain ⟨h108, e108⟩ : ∃ z, T108.heap = z := ⟨_, rfl⟩
  rw [e108] at hQ108
  obtain ⟨rfl, N108q, K108, P108_0, P108_1⟩ := hQ108
  have N108 := Fr.app N103 N108q
  replace Eo := Eo.keep K108
  replace F0 := F0.keep K108 (ninS ne_o_b104 nin0)
  replace F1 := F1.keep K108 (ninS ne_o_b104 nin0)
  replace F2 := F2.keep K108 (ninS ne_o_b104 nin0)
  replace F3 := F3.keep K108 (ninS ne_o_b104 nin0)
  replace F4 := F4.keep K108 (ninS ne_o_b104 nin0)
  replace El := El.keep K108
  replace Fed := Fed.keep K108 (ninS ne_li_b104 nin0)
  replace Fsz := Fsz.keep K108 (ninS ne_li_b104 nin0)
  replace Fmc := Fmc.keep K108 (ninS ne_li_b104 nin0)
  replace Vd := Vd.keep K108 (ninS ne_d_b104 nin0)
  replace Ex0 := Ex0.keep K108
  replace Fw0 := Fw0.keep K108 (ninS ne_x0_b104 nin0)
  replace Fx0 := Fx0.keep K108 (ninS ne_x0_b104 nin0)
  replace A104 := A104.keep K108
  have OK108 := ext_keep OE104 K108 (allS g_b104 all0)
  replace KP := KP.trans K108 (allS (Or.inr z_b104) all0)
  refine Go.face X108 hx hZ hown (wd82 hw) (wd83 hw) (wd84 hw) (wd85 hw) (wd86 hw) (wd87 hw) (wd88 hw) (wd89 hw) (wd47 hw) (wd90 hw) (by decide) (cadd_1 l Z a0 hw li b104 d x0 mc (kd) h108 OK108 El g_li Fed Fsz Fmc Vd A104 g_d n_li_d ov) e108 El (by rw [hml]; rfl) (hb hby d5_39) (argsL := [(.ref b104)]) (rest := []) (lenOf pd11 rfl) rfl rfl (W := 0) (by first | exact Nat.le_refl _ | decide) (by decide) (by decide) (by decide) (by decide) ?_
  intro v109 T109 L109 X109 hQ109
  obtain ⟨h109, e109⟩ : ∃ z, T109.heap = z := ⟨_, rfl⟩
  rw [e109] at hQ109
  obtain ⟨rfl, N109q, K109, P109_0, P109_1, P109_2, P109_3⟩ := hQ109
  have N109 := Fr.app N108 N109q
  replace Eo := Eo.keep K109
  replace F0 := F0.keep K109 (ninS n_o_li (ninS n_o_d nin0))
  replace F1 := F1.keep K109 (ninS n_o_li (ninS n_o_d nin0))
  replace F2 := F2.keep K109 (ninS n_o_li (ninS n_o_d nin0))
  replace F3 := F3.keep K109 (ninS n_o_li (ninS n_o_d nin0))
  replace F4 := F4.keep K109 (ninS n_o_li (ninS n_o_d nin0))
  replace El := El.keep K109
  replace Ex0 := Ex0.keep K109
  replace Fw0 := Fw0.keep K109 (ninS (Ne.symm n_li_x0) (ninS (Ne.symm n_d_x0) nin0))
  replace Fx0 := Fx0.keep K109 (ninS (Ne.symm n_li_x0) (ninS (Ne.symm n_d_x0) nin0))
  replace A104 := A104.keep K109
  replace P108_0 := P108_0.keep K109 (ninS (Ne.symm ne_li_b104) (ninS (Ne.symm ne_d_b104) nin0))
  replace P108_1 := P108_1.keep K109 (ninS (Ne.symm ne_li_b104) (ninS (Ne.symm ne_d_b104) nin0))
  have OK109 := ext_keep OK108 K109 (allS g_li (allS g_d all0))
  replace KP := KP.trans K109 (allS (Or.inl (List.mem_of_getElem? (i := 1) rfl)) (allS (Or.inl (List.mem_of_getElem? (i := 2) rfl)) all0))
  refine Go.pop X109 hx (hb hby d5_44) rfl (q := 45) rfl ?_
  refine Go.aloadN X109 hx (hb hby d5_45) rfl rfl (q := 46) rfl ?_
  refine Go.lloadN X109 hx (hb hby d5_46) rfl (q := 47) rfl ?_
  refine Go.putF X109 hx hZ hown (host := "") (Or.inl (wd32 hw)) Via.refl e109 F2 Eo (Or.inl (wd33 hw)) (wd1 hw) (ty := .long) (by decide) rfl rfl (hb hby d5_47) (q := 50) rfl ?_
  intro T110 h110 X110 e110 W110 F110
  have N110 := Fr.snoc X110 N109 g_o
  replace Eo := Eo.wr W110
  replace F0 := F0.other W110 (Or.inr (slot_ne (Or.inr (wd19 hw)) (Or.inl (wd33 hw)) (by decide) (t := .boolean) (t' := .long) (by decide) (by decide)))
  replace F1 := F1.other W110 (Or.inr (slot_ne (Or.inl (wd26 hw)) (Or.inl (wd33 hw)) (by decide) (t := (.object xS10)) (t' := .long) (by decide) (by decide)))
  replace F3 := F3.other W110 (Or.inr (slot_ne (Or.inl (wd17 hw)) (Or.inl (wd33 hw)) (by decide) (t := (.object xS2)) (t' := .long) (by decide) (by decide)))
  replace F4 := F4.other W110 (Or.inr (slot_ne (Or.inl (wd35 hw)) (Or.inl (wd33 hw)) (by decide) (t := .long) (t' := .long) (by decide) (by decide)))
  replace El := El.wr W110
  replace Ex0 := Ex0.wr W110
  replace Fw0 := Fw0.other W110 (Or.inl (Ne.symm n_o_x0))
  replace Fx0 := Fx0.other W110 (Or.inl (Ne.symm n_o_x0))
  replace A104 := A104.wr W110
  replace P108_0 := P108_0.other W110 (Or.inl (Ne.symm ne_o_b104))
  replace P108_1 := P108_1.other W110 (Or.inl (Ne.symm ne_o_b104))
  replace P109_0 := P109_0.other W110 (Or.inl (Ne.symm n_o_li))
  replace P109_1 := P109_1.other W110 (Or.inl (Ne.symm n_o_li))
  replace P109_2 := P109_2.other W110 (Or.inl (Ne.symm n_o_li))
  replace P109_3 := P109_3.other W110 (Ne.symm n_o_d)
  have OW110 := ext_wr OK109 W110 g_o
  replace KP := KP.wr W110 (Or.inl (List.mem_of_getElem? (i := 0) rfl))
  refine Go.aloadN X110 hx (hb hby d5_50) rfl rfl (q := 51) rfl ?_
  refine Go.aloadN X110 hx (hb hby d5_51) rfl rfl (q := 52) rfl ?_
  refine Go.putF X110 hx hZ hown (host := "") (Or.inl (wd16 hw)) Via.refl e110 F3 Eo (Or.inl (wd17 hw)) (wd1 hw) (ty := (.object xS2)) (by decide) rfl rfl (hb hby d5_52) (q := 55) rfl ?_
  intro T111 h111 X111 e111 W111 F111
  have N111 := Fr.snoc X111 N110 g_o
  replace Eo := Eo.wr W111
  replace F0 := F0.other W111 (Or.inr (slot_ne (Or.inr (wd19 hw)) (Or.inl (wd17 hw)) (by decide) (t := .boolean) (t' := (.object xS2)) (by decide) (by decide)))
  replace F1 := F1.other W111 (Or.inr (slot_ne (Or.inl (wd26 hw)) (Or.inl (wd17 hw)) (by decide) (t := (.object xS10)) (t' := (.object xS2)) (by decide) (by decide)))
  replace F4 := F4.other W111 (Or.inr (slot_ne (Or.inl (wd35 hw)) (Or.inl (wd17 hw)) (by decide) (t := .long) (t' := (.object xS2)) (by decide) (by decide)))
  replace El := El.wr W111
  replace Ex0 := Ex0.wr W111
  replace Fw0 := Fw0.other W111 (Or.inl (Ne.symm n_o_x0))
  replace Fx0 := Fx0.other W111 (Or.inl (Ne.symm n_o_x0))
  replace A104 := A104.wr W111
  replace P108_0 := P108_0.other W111 (Or.inl (Ne.symm ne_o_b104))
  replace P108_1 := P108_1.other W111 (Or.inl (Ne.symm ne_o_b104))
  replace P109_0 := P109_0.other W111 (Or.inl (Ne.symm n_o_li))
  replace P109_1 := P109_1.other W111 (Or.inl (Ne.symm n_o_li))
  replace P109_2 := P109_2.other W111 (Or.inl (Ne.symm n_o_li))
  replace P109_3 := P109_3.other W111 (Ne.symm n_o_d)
  replace F110 := F110.other W111 (Or.inr (slot_ne (Or.inl (wd33 hw)) (Or.inl (wd17 hw)) (by decide) (t := .long) (t' := (.object xS2)) (by decide) (by decide)))
  have OW111 := ext_wr OW110 W111 g_o
  replace KP := KP.wr W111 (Or.inl (List.mem_of_getElem? (i := 0) rfl))
  refine Go.aloadN X111 hx (hb hby d5_55) rfl rfl (q := 56) rfl ?_
  refine Go.lconst X111 hx (hb hby d5_56) (r := (0 : Int64)) rfl (q := 57) rfl ?_
  refine Go.putF X111 hx hZ hown (host := "") (Or.inl (wd34 hw)) Via.refl e111 F4 Eo (Or.inl (wd35 hw)) (wd1 hw) (ty := .long) (by decide) rfl rfl (hb hby d5_57) (q := 60) rfl ?_
  intro T112 h112 X112 e112 W112 F112
  have N112 := Fr.snoc X112 N111 g_o
  replace Eo := Eo.wr W112
  replace F0 := F0.other W112 (Or.inr (slot_ne (Or.inr (wd19 hw)) (Or.inl (wd35 hw)) (by decide) (t := .boolean) (t' := .long) (by decide) (by decide)))
  replace F1 := F1.other W112 (Or.inr (slot_ne (Or.inl (wd26 hw)) (Or.inl (wd35 hw)) (by decide) (t := (.object xS10)) (t' := .long) (by decide) (by decide)))
  replace El := El.wr W112
  replace Ex0 := Ex0.wr W112
  replace Fw0 := Fw0.other W112 (Or.inl (Ne.symm n_o_x0))
  replace Fx0 := Fx0.other W112 (Or.inl (Ne.symm n_o_x0))
  replace A104 := A104.wr W112
  replace P108_0 := P108_0.other W112 (Or.inl (Ne.symm ne_o_b104))
  replace P108_1 := P108_1.other W112 (Or.inl (Ne.symm ne_o_b104))
  replace P109_0 := P109_0.other W112 (Or.inl (Ne.symm n_o_li))
  replace P109_1 := P109_1.other W112 (Or.inl (Ne.symm n_o_li))
  replace P109_2 := P109_2.other W112 (Or.inl (Ne.symm n_o_li))
  replace P109_3 := P109_3.other W112 (Ne.symm n_o_d)
  replace F110 := F110.other W112 (Or.inr (slot_ne (Or.inl (wd33 hw)) (Or.inl (wd35 hw)) (by decide) (t := .long) (t' := .long) (by decide) (by decide)))
  replace F111 := F111.other W112 (Or.inr (slot_ne (Or.inl (wd17 hw)) (Or.inl (wd35 hw)) (by decide) (t := (.object xS2)) (t' := .long) (by decide) (by decide)))
  have OW112 := ext_wr OW111 W112 g_o
  replace KP := KP.wr W112 (Or.inl (List.mem_of_getElem? (i := 0) rfl))
  refine Go.goto X112 hx (hb hby d5_60) (q := 165) (by decide) (by decide) ?_
  exact Go.retV X112 hx hret hlk (hb hby d5_165) e112 (by decide) (by decide) ⟨b104, rfl, N112, KP, z_b104, F0, F1, F110, F111, F112, P109_0, P109_1, P109_2, P109_3, A104, P108_0⟩
def Q_cwBs (Z : State) (o : Addr) (p : Int64) (v : Addr) (n : Int64) (nv : Addr) (nr : Int64) (li d x0 : Addr) (w0 : Int64) (mc : Int32) (kd : ClassId) (xv : Addr) (h0 : Heap) (vR : Option Value) (hR : Heap) (LR : List Loc) : Prop := ∃ v3 : Addr, ∃ xv2 : Addr, vR = none ∧ Fr Z.heap.size LR ∧ Keep h0 hR [o, x0] ∧ Fld Z hR o xS0 "keepsOlder" "Z" (.int 1) ∧ Fld Z hR o xS0 "older" xS8 (.ref li) ∧ Fld Z hR o xS0 xS11 "J" (.long n) ∧ Fld Z hR o xS0 "newestValue" xS9 (.ref v3) ∧ Fld Z hR o xS0 xS12 "J" (.long nr) ∧ Fld Z hR x0 xS3 "writeTimestamp" "J" (.long w0) ∧ Fld Z hR x0 xS3 "value" xS9 (.ref xv2)
theorem cwBs (l : Launch) (Z : State) (a0 : Array Value) (hw : ∀ d ∈ tables_1, d.before a0 Z = true) (o : Addr) (p : Int64) (v : Addr) (n : Int64) (nv : Addr) (nr : Int64) (li d x0 : Addr) (w0 : Int64) (mc : Int32) (kd : ClassId) (xv : Addr) (h0 : Heap) (O0 : Ext Z.heap h0) (Eo : Exa Z h0 o xS0) (g_o : Z.heap.size ≤ o) (F0 : Fld Z h0 o xS0 "keepsOlder" "Z" (.int 1)) (F1 : Fld Z h0 o xS0 "older" xS8 (.ref li)) (F2 : Fld Z h0 o xS0 xS11 "J" (.long n)) (F3 : Fld Z h0 o xS0 "newestValue" xS9 (.ref nv)) (F4 : Fld Z h0 o xS0 xS12 "J" (.long nr)) (El : Exa Z h0 li xS1) (Fed : Fld Z h0 li xS1 xS7 xS6 (.ref d)) (Fsz : Fld Z h0 li xS1 "size" "I" (.int 1)) (Fmc : Fld Z h0 li xS5 "modCount" "I" (.int mc)) (Vd : Arv Z h0 d kd (.object xS2) (10 : Int32) [(.ref x0), .null, .null, .null, .null, .null, .null, .null, .null, .null] .null) (Ex0 : Exa Z h0 x0 xS3) (Fw0 : Fld Z h0 x0 xS3 "writeTimestamp" "J" (.long w0)) (Fx0 : Fld Z h0 x0 xS3 "value" xS9 (.ref xv)) (g_li : Z.heap.size ≤ li) (g_d : Z.heap.size ≤ d) (g_x0 : Z.heap.size ≤ x0) (n_o_li : o ≠ li) (n_o_d : o ≠ d) (n_o_x0 : o ≠ x0) (n_li_d : li ≠ d) (n_li_x0 : li ≠ x0) (n_d_x0 : d ≠ x0) (ov : Ovr Z kd xS2) (h1 : ¬ (n < p)) (hor : p = n ∨ w0 = p) :
    Ctr l Z h0 (⟨xS0, "write", "(JLjava/lang/Object;)V"⟩ : MethodName) k5 5 none [] ({ frames := 4, cells := 0, slots := 0, locals := 57 } : Room) #[(.ref o), (.long p), (.ref v)] (Q_cwBs Z o p v n nv nr li d x0 w0 mc kd xv h0) := by
  refine enter (plainFor_of_name pn6) ?_
  intro pp ee ss mm below meth cc s₁ hx hby hml hZ hown hnm hret hlk X0 e0 hs0
  replace hown : ss.vm.findClass xS0 = some mm.cls := hown
  refine Go.cast (congrArg s₁.setTop (ef_cwBs mm o p v)) ?_
  have N0 := Fr.nil Z.heap.size
  have KP := Keep.refl h0 [o, x0]
  show Go pp ee below _ (s₁.setTop (mkF mm 0 #[.val (.ref o), .val (.long p), .second, .val (.ref v), .unset] []))
  rcases hor with hor | hor
  · have hk101 : p = n := hor
    show Go pp ee below _ (s₁.setTop (mkF mm 0 #[.val (.ref o), .val (.long p), .second, .val (.ref v), .unset] []))
    refine Go.lloadN X0 hx (hb hby d5_0) rfl (q := 1) rfl ?_
    refine Go.aloadN X0 hx (hb hby d5_1) rfl rfl (q := 2) rfl ?_
    refine Go.getF X0 hx hZ hown (host := "") (Or.inl (wd32 hw)) Via.refl e0 F2 (hb hby d5_2) (q := 5) rfl ?_
    intro T102 X102 e102
    refine Go.lcmp X102 hx (hb hby d5_5) rfl (q := 6) rfl ?_
    refine Go.ifYes X102 hx (hb hby d5_6) (Jvm.Free.XT.ll_le_t h1) (q := 63) (by decide) (by decide) ?_
    refine Go.lloadN X102 hx (hb hby d5_63) rfl (q := 64) rfl ?_
    refine Go.aloadN X102 hx (hb hby d5_64) rfl rfl (q := 65) rfl ?_
    refine Go.getF X102 hx hZ hown (host := "") (Or.inl (wd32 hw)) Via.refl e102 F2 (hb hby d5_65) (q := 68) rfl ?_
    intro T103 X103 e103
    refine Go.lcmp X103 hx (hb hby d5_68) rfl (q := 69) rfl ?_
    refine Go.ifNo X103 hx (hb hby d5_69) (Jvm.Free.XT.ll_ne_f hk101) (q := 72) rfl ?_
    refine Go.aloadN X103 hx (hb hby d5_72) rfl rfl (q := 73) rfl ?_
    refine Go.aloadN X103 hx (hb hby d5_73) rfl rfl (q := 74) rfl ?_
    refine Go.putF X103 hx hZ hown (host := "") (Or.inl (wd16 hw)) Via.refl e103 F3 Eo (Or.inl (wd17 hw)) (wd1 hw) (ty := (.object xS2)) (by decide) rfl rfl (hb hby d5_74) (q := 77) rfl ?_
    intro T104 h104 X104 e104 W104 F104
    have N104 := Fr.snoc X104 N0 g_o
    replace Eo := Eo.wr W104
    replace F0 := F0.other W104 (Or.inr (slot_ne (Or.inr (wd19 hw)) (Or.inl (wd17 hw)) (by decide) (t := .boolean) (t' := (.object xS2)) (by decide) (by decide)))
    replace F1 := F1.other W104 (Or.inr (slot_ne (Or.inl (wd26 hw)) (Or.inl (wd17 hw)) (by decide) (t := (.object xS10)) (t' := (.object xS2)) (by decide) (by decide)))
    replace F2 := F2.other W104 (Or.inr (slot_ne (Or.inl (wd33 hw)) (Or.inl (wd17 hw)) (by decide) (t := .long) (t' := (.object xS2)) (by decide) (by decide)))
    replace F4 := F4.other W104 (Or.inr (slot_ne (Or.inl (wd35 hw)) (Or.inl (wd17 hw)) (by decide) (t := .long) (t' := (.object xS2)) (by decide) (by decide)))
    replace El := El.wr W104
    replace Fed := Fed.other W104 (Or.inl (Ne.symm n_o_li))
    replace Fsz := Fsz.other W104 (Or.inl (Ne.symm n_o_li))
    replace Fmc := Fmc.other W104 (Or.inl (Ne.symm n_o_li))
    replace Vd := Vd.other W104 (Ne.symm n_o_d)
    replace Ex0 := Ex0.wr W104
    replace Fw0 := Fw0.other W104 (Or.inl (Ne.symm n_o_x0))
    replace Fx0 := Fx0.other W104 (Or.inl (Ne.symm n_o_x0))
    have OW104 := ext_wr O0 W104 g_o
    replace KP := KP.wr W104 (Or.inl (List.mem_of_getElem? (i := 0) rfl))
    refine Go.goto X104 hx (hb hby d5_77) (q := 165) (by decide) (by decide) ?_
    exact Go.retV X104 hx hret hlk (hb hby d5_165) e104 (by decide) (by decide) ⟨v, xv, rfl, N104, KP, F0, F1, F2, F104, F4, Fw0, Fx0⟩
  · have hk105 : w0 = p := hor
    have hk106 : ¬ (p < w0) := own_eqnl hor
    show Go pp ee below _ (s₁.setTop (mkF mm 0 #[.val (.ref o), .val (.long p), .second, .val (.ref v), .unset] []))
    refine Go.lloadN X0 hx (hb hby d5_0) rfl (q := 1) rfl ?_
    refine Go.aloadN X0 hx (hb hby d5_1) rfl rfl (q := 2) rfl ?_
    refine Go.getF X0 hx hZ hown (host := "") (Or.inl (wd32 hw)) Via.refl e0 F2 (hb hby d5_2) (q := 5) rfl ?_
    intro T107 X107 e107
    refine Go.lcmp X107 hx (hb hby d5_5) rfl (q := 6) rfl ?_
    refine Go.ifYes X107 hx (hb hby d5_6) (Jvm.Free.XT.ll_le_t h1) (q := 63) (by decide) (by decide) ?_
    refine Go.lloadN X107 hx (hb hby d5_63) rfl (q := 64) rfl ?_
    refine Go.aloadN X107 hx (hb hby d5_64) rfl rfl (q := 65) rfl ?_
    refine Go.getF X107 hx hZ hown (host := "") (Or.inl (wd32 hw)) Via.refl e107 F2 (hb hby d5_65) (q := 68) rfl ?_
    intro T108 X108 e108
    refine Go.lcmp X108 hx (hb hby d5_68) rfl (q := 69) rfl ?_
    by_cases hc109 : p = n
    · refine Go.ifNo X108 hx (hb hby d5_69) (Jvm.Free.XT.ll_ne_f hc109) (q := 72) rfl ?_
      refine Go.aloadN X108 hx (hb hby d5_72) rfl rfl (q := 73) rfl ?_
      refine Go.aloadN X108 hx (hb hby d5_73) rfl rfl (q := 74) rfl ?_
      refine Go.putF X108 hx hZ hown (host := "") (Or.inl (wd16 hw)) Via.refl e108 F3 Eo (Or.inl (wd17 hw)) (wd1 hw) (ty := (.object xS2)) (by decide) rfl rfl (hb hby d5_74) (q := 77) rfl ?_
      intro T110 h110 X110 e110 W110 F110
      have N110 := Fr.snoc X110 N0 g_o
      replace Eo := Eo.wr W110
      replace F0 := F0.other W110 (Or.inr (slot_ne (Or.inr (wd19 hw)) (Or.inl (wd17 hw)) (by decide) (t := .boolean) (t' := (.object xS2)) (by decide) (by decide)))
      replace F1 := F1.other W110 (Or.inr (slot_ne (Or.inl (wd26 hw)) (Or.inl (wd17 hw)) (by decide) (t := (.object xS10)) (t' := (.object xS2)) (by decide) (by decide)))
      replace F2 := F2.other W110 (Or.inr (slot_ne (Or.inl (wd33 hw)) (Or.inl (wd17 hw)) (by decide) (t := .long) (t' := (.object xS2)) (by decide) (by decide)))
      replace F4 := F4.other W110 (Or.inr (slot_ne (Or.inl (wd35 hw)) (Or.inl (wd17 hw)) (by decide) (t := .long) (t' := (.object xS2)) (by decide) (by decide)))
      replace El := El.wr W110
      replace Fed := Fed.other W110 (Or.inl (Ne.symm n_o_li))
      replace Fsz := Fsz.other W110 (Or.inl (Ne.symm n_o_li))
      replace Fmc := Fmc.other W110 (Or.inl (Ne.symm n_o_li))
      replace Vd := Vd.other W110 (Ne.symm n_o_d)
      replace Ex0 := Ex0.wr W110
      replace Fw0 := Fw0.other W110 (Or.inl (Ne.symm n_o_x0))
      replace Fx0 := Fx0.other W110 (Or.inl (Ne.symm n_o_x0))
      have OW110 := ext_wr O0 W110 g_o
      replace KP := KP.wr W110 (Or.inl (List.mem_of_getElem? (i := 0) rfl))
      refine Go.goto X110 hx (hb hby d5_77) (q := 165) (by decide) (by decide) ?_
      exact Go.retV X110 hx hret hlk (hb hby d5_165) e110 (by decide) (by decide) ⟨v, xv, rfl, N110, KP, F0, F1, F2, F110, F4, Fw0, Fx0⟩
    · refine Go.ifYes X108 hx (hb hby d5_69) (Jvm.Free.XT.ll_ne_t hc109) (q := 80) (by decide) (by decide) ?_
      refine Go.aloadN X108 hx (hb hby d5_80) rfl rfl (q := 81) rfl ?_
      refine Go.getF X108 hx hZ hown (host := "") (Or.inl (wd18 hw)) Via.refl e108 F0 (hb hby d5_81) (q := 84) rfl ?_
      intro T111 X111 e111
      refine Go.ifNo X111 hx (hb hby d5_84) (by decide) (q := 87) rfl ?_
      refine Go.aloadN X111 hx (hb hby d5_87) rfl rfl (q := 88) rfl ?_
      refine Go.lloadN X111 hx (hb hby d5_88) rfl (q := 89) rfl ?_
      refine Go.priv X111 hx hZ hown (wd133 hw) (wd134 hw) (own_selp (x' := (⟨xS0, "holdsOlder", "()Z"⟩ : MethodName)) (y' := (⟨xS0, "holdsOlder", "()Z"⟩ : MethodName)) (y := (⟨xS0, "olderNotAbove", "(J)I"⟩ : MethodName)) (wd23 hw) rfl (wd134 hw) (wd135 hw) (by decide)) (wd135 hw) (wd2 hw) (wd136 hw) (by decide) (cona_1_1 l Z a0 hw o p li d x0 w0 mc (kd) h0 O0 F1 El Fed Fsz Fmc Vd Ex0 Fw0 hk106) e111 Eo (by rw [hml]; rfl) (hb hby d5_89) (argsL := [(.long p)]) (rest := []) (lenOf pd12 rfl) rfl rfl (W := 0) (by first | exact Nat.le_refl _ | decide) (by decide) (by decide) (by decide) (by decide) ?_
      intro v112 T112 L112 X112 hQ112
      obtain ⟨rfl, N112q, e112⟩ := hQ112
      have N112 := Fr.app N0 N112q
      refine Go.istore X112 hx (hb hby d5_92) (l' := #[.val (.ref o), .val (.long p), .second, .val (.ref v), .val (.int 0)]) rfl (q := 94) rfl ?_
      refine Go.iload X112 hx (hb hby d5_94) rfl (q := 96) rfl ?_
      refine Go.ifNo X112 hx (hb hby d5_96) (by decide) (q := 99) rfl ?_
      refine Go.aloadN X112 hx (hb hby d5_99) rfl rfl (q := 100) rfl ?_
      refine Go.getF X112 hx hZ hown (host := "") (Or.inl (wd25 hw)) Via.refl e112 F1 (hb hby d5_100) (q := 103) rfl ?_
      intro T113 X113 e113
      refine Go.iload X113 hx (hb hby d5_103) rfl (q := 105) rfl ?_
      refine Go.face X113 hx hZ hown (wd137 hw) (wd138 hw) (wd139 hw) (wd140 hw) (wd141 hw) (wd142 hw) (wd143 hw) (wd89 hw) (wd47 hw) (wd144 hw) (by decide) (cget_1_0 l Z a0 hw li d x0 (kd) h0 O0 El Fsz Fed Vd) e113 El (by rw [hml]; rfl) (hb hby d5_105) (argsL := [(.int 0)]) (rest := []) (lenOf pd7 rfl) rfl rfl (W := 0) (by first | exact Nat.le_refl _ | decide) (by decide) (by decide) (by decide) (by decide) ?_
      intro v114 T114 L114 X114 hQ114
      obtain ⟨rfl, N114q, e114⟩ := hQ114
      have N114 := Fr.app N112 N114q
      refine Go.castY X114 hx hZ hown (wd69 hw) e114 (Ins.self Ex0) (hb hby d5_110) (q := 113) rfl ?_
      intro T115 X115 e115
      refine Go.getF X115 hx hZ hown (host := "") (Or.inl (wd159 hw)) Via.refl e115 Fw0 (hb hby d5_113) (q := 116) rfl ?_
      intro T116 X116 e116
      refine Go.lloadN X116 hx (hb hby d5_116) rfl (q := 117) rfl ?_
      refine Go.lcmp X116 hx (hb hby d5_117) rfl (q := 118) rfl ?_
      refine Go.ifNo X116 hx (hb hby d5_118) (Jvm.Free.XT.ll_ne_f hk105) (q := 121) rfl ?_
      refine Go.aloadN X116 hx (hb hby d5_121) rfl rfl (q := 122) rfl ?_
      refine Go.getF X116 hx hZ hown (host := "") (Or.inl (wd25 hw)) Via.refl e116 F1 (hb hby d5_122) (q := 125) rfl ?_
      intro T117 X117 e117
      refine Go.iload X117 hx (hb hby d5_125) rfl (q := 127) rfl ?_
      refine Go.face X117 hx hZ hown (wd137 hw) (wd138 hw) (wd139 hw) (wd140 hw) (wd141 hw) (wd142 hw) (wd143 hw) (wd89 hw) (wd47 hw) (wd144 hw) (by decide) (cget_1_0 l Z a0 hw li d x0 (kd) h0 O0 El Fsz Fed Vd) e117 El (by rw [hml]; rfl) (hb hby d5_127) (argsL := [(.int 0)]) (rest := []) (lenOf pd7 rfl) rfl rfl (W := 0) (by first | exact Nat.le_refl _ | decide) (by decide) (by decide) (by decide) (by decide) ?_
      intro v118 T118 L118 X118 hQ118
      obtain ⟨rfl, N118q, e118⟩ := hQ118
      have N118 := Fr.app N114 N118q
      refine Go.castY X118 hx hZ hown (wd69 hw) e118 (Ins.self Ex0) (hb hby d5_132) (q := 135) rfl ?_
      intro T119 X119 e119
      refine Go.aloadN X119 hx (hb hby d5_135) rfl rfl (q := 136) rfl ?_
      refine Go.putF X119 hx hZ hown (host := "") (Or.inl (wd252 hw)) Via.refl e119 Fx0 Ex0 (Or.inl (wd79 hw)) (wd70 hw) (ty := (.object xS2)) (by decide) rfl rfl (hb hby d5_136) (q := 139) rfl ?_
      intro T120 h120 X120 e120 W120 F120
      have N120 := Fr.snoc X120 N118 g_x0
      replace Eo := Eo.wr W120
      replace F0 := F0.other W120 (Or.inl n_o_x0)
      replace F1 := F1.other W120 (Or.inl n_o_x0)
      replace F2 := F2.other W120 (Or.inl n_o_x0)
      replace F3 := F3.other W120 (Or.inl n_o_x0)
      replace F4 := F4.other W120 (Or.inl n_o_x0)
      replace El := El.wr W120
      replace Fed := Fed.other W120 (Or.inl n_li_x0)
      replace Fsz := Fsz.other W120 (Or.inl n_li_x0)
      replace Fmc := Fmc.other W120 (Or.inl n_li_x0)
      replace Vd := Vd.other W120 n_d_x0
      replace Ex0 := Ex0.wr W120
      replace Fw0 := Fw0.other W120 (Or.inr (slot_ne (Or.inr (wd77 hw)) (Or.inl (wd79 hw)) (by decide) (t := .long) (t' := (.object xS2)) (by decide) (by decide)))
      have OW120 := ext_wr O0 W120 g_x0
      replace KP := KP.wr W120 (Or.inl (List.mem_of_getElem? (i := 1) rfl))
      refine Go.goto X120 hx (hb hby d5_139) (q := 165) (by decide) (by decide) ?_
      exact Go.retV X120 hx hret hlk (hb hby d5_165) e120 (by decide) (by decide) ⟨nv, v, rfl, N120, KP, F0, F1, F2, F3, F4, Fw0, F120⟩
def Q_cwBn (Z : State) (o : Addr) (p : Int64) (v : Addr) (n : Int64) (nv : Addr) (nr : Int64) (li d x0 : Addr) (w0 : Int64) (mc : Int32) (kd : ClassId) (xv : Addr) (h0 : Heap) (vR : Option Value) (hR : Heap) (LR : List Loc) : Prop := ∃ yA : Addr, ∃ yB : Addr, ∃ u0 : Int64, ∃ u1 : Int64, vR = none ∧ Fr Z.heap.size LR ∧ Keep h0 hR [li, d] ∧ Fld Z hR li xS1 xS7 xS6 (.ref d) ∧ Fld Z hR li xS1 "size" "I" (.int 2) ∧ Fld Z hR li xS5 "modCount" "I" (.int (mc + (1 : Int32))) ∧ Arv Z hR d kd (.object xS2) (10 : Int32) [(.ref yA), (.ref yB), .null, .null, .null, .null, .null, .null, .null, .null] .null ∧ Exa Z hR yA xS3 ∧ Fld Z hR yA xS3 "writeTimestamp" "J" (.long u0) ∧ Exa Z hR yB xS3 ∧ Fld Z hR yB xS3 "writeTimestamp" "J" (.long u1)
theorem cwBn (l : Launch) (Z : State) (a0 : Array Value) (hw : ∀ d ∈ tables_1, d.before a0 Z = true) (o : Addr) (p : Int64) (v : Addr) (n : Int64) (nv : Addr) (nr : Int64) (li d x0 : Addr) (w0 : Int64) (mc : Int32) (kd : ClassId) (xv : Addr) (h0 : Heap) (O0 : Ext Z.heap h0) (Eo : Exa Z h0 o xS0) (g_o : Z.heap.size ≤ o) (F0 : Fld Z h0 o xS0 "keepsOlder" "Z" (.int 1)) (F1 : Fld Z h0 o xS0 "older" xS8 (.ref li)) (F2 : Fld Z h0 o xS0 xS11 "J" (.long n)) (F3 : Fld Z h0 o xS0 "newestValue" xS9 (.ref nv)) (F4 : Fld Z h0 o xS0 xS12 "J" (.long nr)) (El : Exa Z h0 li xS1) (Fed : Fld Z h0 li xS1 xS7 xS6 (.ref d)) (Fsz : Fld Z h0 li xS1 "size" "I" (.int 1)) (Fmc : Fld Z h0 li xS5 "modCount" "I" (.int mc)) (Vd : Arv Z h0 d kd (.object xS2) (10 : Int32) [(.ref x0), .null, .null, .null, .null, .null, .null, .null, .null, .null] .null) (Ex0 : Exa Z h0 x0 xS3) (Fw0 : Fld Z h0 x0 xS3 "writeTimestamp" "J" (.long w0)) (Fx0 : Fld Z h0 x0 xS3 "value" xS9 (.ref xv)) (g_li : Z.heap.size ≤ li) (g_d : Z.heap.size ≤ d) (g_x0 : Z.heap.size ≤ x0) (n_o_li : o ≠ li) (n_o_d : o ≠ d) (n_o_x0 : o ≠ x0) (n_li_d : li ≠ d) (n_li_x0 : li ≠ x0) (n_d_x0 : d ≠ x0) (ov : Ovr Z kd xS2) (h1 : ¬ (n < p)) (h2 : ¬ (p = n)) (h4 : ¬ (w0 = p)) :
    Ctr l Z h0 (⟨xS0, "write", "(JLjava/lang/Object;)V"⟩ : MethodName) k5 5 none [] ({ frames := 4, cells := 1, slots := 3, locals := 57 } : Room) #[(.ref o), (.long p), (.ref v)] (Q_cwBn Z o p v n nv nr li d x0 w0 mc kd xv h0) := by
  refine enter (plainFor_of_name pn6) ?_
  intro pp ee ss mm below meth cc s₁ hx hby hml hZ hown hnm hret hlk X0 e0 hs0
  replace hown : ss.vm.findClass xS0 = some mm.cls := hown
  refine Go.cast (congrArg s₁.setTop (ef_cwBn mm o p v)) ?_
  have N0 := Fr.nil Z.heap.size
  have KP := Keep.refl h0 [li, d]
  show Go pp ee below _ (s₁.setTop (mkF mm 0 #[.val (.ref o), .val (.long p), .second, .val (.ref v), .unset] []))
  refine Go.lloadN X0 hx (hb hby d5_0) rfl (q := 1) rfl ?_
  refine Go.aloadN X0 hx (hb hby d5_1) rfl rfl (q := 2) rfl ?_
  refine Go.getF X0 hx hZ hown (host := "") (Or.inl (wd32 hw)) Via.refl e0 F2 (hb hby d5_2) (q := 5) rfl ?_
  intro T101 X101 e101
  refine Go.lcmp X101 hx (hb hby d5_5) rfl (q := 6) rfl ?_
  refine Go.ifYes X101 hx (hb hby d5_6) (Jvm.Free.XT.ll_le_t h1) (q := 63) (by decide) (by decide) ?_
  refine Go.lloadN X101 hx (hb hby d5_63) rfl (q := 64) rfl ?_
  refine Go.aloadN X101 hx (hb hby d5_64) rfl rfl (q := 65) rfl ?_
  refine Go.getF X101 hx hZ hown (host := "") (Or.inl (wd32 hw)) Via.refl e101 F2 (hb hby d5_65) (q := 68) rfl ?_
  intro T102 X102 e102
  refine Go.lcmp X102 hx (hb hby d5_68) rfl (q := 69) rfl ?_
  refine Go.ifYes X102 hx (hb hby d5_69) (Jvm.Free.XT.ll_ne_t h2) (q := 80) (by decide) (by decide) ?_
  refine Go.aloadN X102 hx (hb hby d5_80) rfl rfl (q := 81) rfl ?_
  refine Go.getF X102 hx hZ hown (host := "") (Or.inl (wd18 hw)) Via.refl e102 F0 (hb hby d5_81) (q := 84) rfl ?_
  intro T103 X103 e103
  refine Go.ifNo X103 hx (hb hby d5_84) (by decide) (q := 87) rfl ?_
  by_cases hc104 : p < w0
  · show Go pp ee below _ (T103.setTop (mkF mm 87 #[.val (.ref o), .val (.long p), .second, .val (.ref v), .unset] []))
    refine Go.aloadN X103 hx (hb hby d5_87) rfl rfl (q := 88) rfl ?_
    refine Go.lloadN X103 hx (hb hby d5_88) rfl (q := 89) rfl ?_
    refine Go.priv X103 hx hZ hown (wd133 hw) (wd134 hw) (own_selp (x' := (⟨xS0, "holdsOlder", "()Z"⟩ : MethodName)) (y' := (⟨xS0, "holdsOlder", "()Z"⟩ : MethodName)) (y := (⟨xS0, "olderNotAbove", "(J)I"⟩ : MethodName)) (wd23 hw) rfl (wd134 hw) (wd135 hw) (by decide)) (wd135 hw) (wd2 hw) (wd136 hw) (by decide) (cona_1_0 l Z a0 hw o p li d x0 w0 mc (kd) h0 O0 F1 El Fed Fsz Fmc Vd Ex0 Fw0 hc104) e103 Eo (by rw [hml]; rfl) (hb hby d5_89) (argsL := [(.long p)]) (rest := []) (lenOf pd12 rfl) rfl rfl (W := 0) (by first | exact Nat.le_refl _ | decide) (by decide) (by decide) (by decide) (by decide) ?_
    intro v105 T105 L105 X105 hQ105
    obtain ⟨rfl, N105q, e105⟩ := hQ105
    have N105 := Fr.app N0 N105q
    refine Go.istore X105 hx (hb hby d5_92) (l' := #[.val (.ref o), .val (.long p), .second, .val (.ref v), .val (.int (-1))]) rfl (q := 94) rfl ?_
    refine Go.iload X105 hx (hb hby d5_94) rfl (q := 96) rfl ?_
    refine Go.ifYes X105 hx (hb hby d5_96) (by decide) (q := 142) (by decide) (by decide) ?_
    refine Go.aloadN X105 hx (hb hby d5_142) rfl rfl (q := 143) rfl ?_
    refine Go.priv X105 hx hZ hown (wd41 hw) (wd42 hw) (own_selp (x' := (⟨xS0, "holdsOlder", "()Z"⟩ : MethodName)) (y' := (⟨xS0, "holdsOlder", "()Z"⟩ : MethodName)) (y := (⟨xS0, "olderList", "()Ljava/util/List;"⟩ : MethodName)) (wd23 hw) rfl (wd42 hw) (wd43 hw) (by decide)) (wd43 hw) (wd2 hw) (wd44 hw) (by decide) (coll1 l Z a0 hw o li h0 O0 F1) e105 Eo (by rw [hml]; rfl) (hb hby d5_143) (argsL := []) (rest := []) (lenOf pd9 rfl) rfl rfl (W := 0) (by first | exact Nat.le_refl _ | decide) (by decide) (by decide) (by decide) (by decide) ?_
    intro v106 T106 L106 X106 hQ106
    obtain ⟨rfl, N106q, e106⟩ := hQ106
    have N106 := Fr.app N105 N106q
    refine Go.iload X106 hx (hb hby d5_146) rfl (q := 148) rfl ?_
    refine Go.iconst X106 hx (hb hby d5_148) (r := (1 : Int32)) rfl (q := 149) rfl ?_
    refine Go.iadd X106 hx (hb hby d5_149) (r := (0 : Int32)) rfl (q := 150) rfl ?_
    refine Go.newO X106 hx hZ hown (wd69 hw) (wd70 hw) (wd71 hw) e106 (hb hby d5_150) (by decide) (by decide) (q := 153) rfl ?_
    intro b107 T107 h107 X107 e107 q107 E107 A107 D107 U107
    have ne_o_b107 : o ≠ b107 := ne_new Eo.lt (Nat.le_of_eq q107)
    have ne_li_b107 : li ≠ b107 := ne_new El.lt (Nat.le_of_eq q107)
    have ne_d_b107 : d ≠ b107 := ne_new Vd.lt (Nat.le_of_eq q107)
    have ne_x0_b107 : x0 ≠ b107 := ne_new Ex0.lt (Nat.le_of_eq q107)
    have g_b107 : Z.heap.size ≤ b107 := Nat.le_trans O0.1 (Nat.le_of_eq q107)
    have z_b107 : h0.size ≤ b107 := Nat.le_trans KP.1 (Nat.le_of_eq q107)
    replace Eo := Eo.ext E107
    replace F0 := F0.ext E107
    replace F1 := F1.ext E107
    replace F2 := F2.ext E107
    replace F3 := F3.ext E107
    replace F4 := F4.ext E107
    replace El := El.ext E107
    replace Fed := Fed.ext E107
    replace Fsz := Fsz.ext E107
    replace Fmc := Fmc.ext E107
    replace Vd := Vd.ext E107
    replace Ex0 := Ex0.ext E107
    replace Fw0 := Fw0.ext E107
    replace Fx0 := Fx0.ext E107
    have OE107 := ext_trans O0 E107
    replace KP := KP.ext E107
    have F107_writeTimestamp : Fld Z h107 b107 xS3 "writeTimestamp" "J" (.long 0) := D107 (Or.inr (wd77 hw)) (ty := .long) (by decide)
    have F107_value : Fld Z h107 b107 xS3 "value" xS9 .null := D107 (Or.inl (wd79 hw)) (ty := (.object xS2)) (by decide)
    have F107_readTimestamp : Fld Z h107 b107 xS3 "readTimestamp" "J" (.long 0) := D107 (Or.inl (wd81 hw)) (ty := .long) (by decide)
    clear D107
    refine Go.dup X107 hx (hb hby d5_153) rfl (q := 154) rfl ?_
    refine Go.lloadN X107 hx (hb hby d5_154) rfl (q := 155) rfl ?_
    refine Go.aloadN X107 hx (hb hby d5_155) rfl rfl (q := 156) rfl ?_
    refine Go.lconst X107 hx (hb hby d5_156) (r := (0 : Int64)) rfl (q := 157) rfl ?_
    refine Go.init X107 hx hZ hown rfl (wd72 hw) (wd73 hw) (wd71 hw) (wd74 hw) (by decide) (cold l Z a0 hw b107 p v ((0 : Int64)) h107 OE107 A107 g_b107 F107_writeTimestamp F107_value F107_readTimestamp) e107 (by rw [hml]; rfl) (hb hby d5_157) (argsL := [(.long p), (.ref v), (.long 0)]) (rest := [(.ref b107), (.int 0), (.ref li)]) (lenOf pd10 rfl) rfl rfl (W := 3) (by first | exact Nat.le_refl _ | decide) (by decide) (by decide) (by decide) (by decide) ?_
    intro v108 T108 L108 X108 hQ108
    obtain ⟨h108, e108⟩ : ∃ z, T108.heap = z := ⟨_, rfl⟩
    rw [e108] at hQ108
    obtain ⟨rfl, N108q, K108, P108_0, P108_1⟩ := hQ108
    have N108 := Fr.app N106 N108q
    replace Eo := Eo.keep K108
    replace F0 := F0.keep K108 (ninS ne_o_b107 nin0)
    replace F1 := F1.keep K108 (ninS ne_o_b107 nin0)
    replace F2 := F2.keep K108 (ninS ne_o_b107 nin0)
    replace F3 := F3.keep K108 (ninS ne_o_b107 nin0)
    replace F4 := F4.keep K108 (ninS ne_o_b107 nin0)
    replace El := El.keep K108
    replace Fed := Fed.keep K108 (ninS ne_li_b107 nin0)
    replace Fsz := Fsz.keep K108 (ninS ne_li_b107 nin0)
    replace Fmc := Fmc.keep K108 (ninS ne_li_b107 nin0)
    replace Vd := Vd.keep K108 (ninS ne_d_b107 nin0)
    replace Ex0 := Ex0.keep K108
    replace Fw0 := Fw0.keep K108 (ninS ne_x0_b107 nin0)
    replace Fx0 := Fx0.keep K108 (ninS ne_x0_b107 nin0)
    replace A107 := A107.keep K108
    have OK108 := ext_keep OE107 K108 (allS g_b107 all0)
    replace KP := KP.trans K108 (allS (Or.inr z_b107) all0)
    refine Go.face X108 hx hZ hown (wd160 hw) (wd161 hw) (wd162 hw) (wd163 hw) (wd164 hw) (wd165 hw) (wd166 hw) (wd89 hw) (wd47 hw) (wd167 hw) (by decide) (cai_1_0 l Z a0 hw li b107 d x0 mc (kd) h108 OK108 El g_li Fed Fsz Fmc Vd A107 g_d n_li_d Ex0 ov) e108 El (by rw [hml]; rfl) (hb hby d5_160) (argsL := [(.int 0), (.ref b107)]) (rest := []) (lenOf pd13 rfl) rfl rfl (W := 0) (by first | exact Nat.le_refl _ | decide) (by decide) (by decide) (by decide) (by decide) ?_
    intro v109 T109 L109 X109 hQ109
    obtain ⟨h109, e109⟩ : ∃ z, T109.heap = z := ⟨_, rfl⟩
    rw [e109] at hQ109
    obtain ⟨rfl, N109q, K109, P109_0, P109_1, P109_2, P109_3⟩ := hQ109
    have N109 := Fr.app N108 N109q
    replace Eo := Eo.keep K109
    replace F0 := F0.keep K109 (ninS n_o_li (ninS n_o_d nin0))
    replace F1 := F1.keep K109 (ninS n_o_li (ninS n_o_d nin0))
    replace F2 := F2.keep K109 (ninS n_o_li (ninS n_o_d nin0))
    replace F3 := F3.keep K109 (ninS n_o_li (ninS n_o_d nin0))
    replace F4 := F4.keep K109 (ninS n_o_li (ninS n_o_d nin0))
    replace El := El.keep K109
    replace Ex0 := Ex0.keep K109
    replace Fw0 := Fw0.keep K109 (ninS (Ne.symm n_li_x0) (ninS (Ne.symm n_d_x0) nin0))
    replace Fx0 := Fx0.keep K109 (ninS (Ne.symm n_li_x0) (ninS (Ne.symm n_d_x0) nin0))
    replace A107 := A107.keep K109
    replace P108_0 := P108_0.keep K109 (ninS (Ne.symm ne_li_b107) (ninS (Ne.symm ne_d_b107) nin0))
    replace P108_1 := P108_1.keep K109 (ninS (Ne.symm ne_li_b107) (ninS (Ne.symm ne_d_b107) nin0))
    have OK109 := ext_keep OK108 K109 (allS g_li (allS g_d all0))
    replace KP := KP.trans K109 (allS (Or.inl (List.mem_of_getElem? (i := 0) rfl)) (allS (Or.inl (List.mem_of_getElem? (i := 1) rfl)) all0))
    exact Go.retV X109 hx hret hlk (hb hby d5_165) e109 (by decide) (by decide) ⟨b107, x0, p, w0, rfl, N109, KP, P109_0, P109_1, P109_2, P109_3, A107, P108_0, Ex0, Fw0⟩
  · show Go pp ee below _ (T103.setTop (mkF mm 87 #[.val (.ref o), .val (.long p), .second, .val (.ref v), .unset] []))
    refine Go.aloadN X103 hx (hb hby d5_87) rfl rfl (q := 88) rfl ?_
    refine Go.lloadN X103 hx (hb hby d5_88) rfl (q := 89) rfl ?_
    refine Go.priv X103 hx hZ hown (wd133 hw) (wd134 hw) (own_selp (x' := (⟨xS0, "holdsOlder", "()Z"⟩ : MethodName)) (y' := (⟨xS0, "holdsOlder", "()Z"⟩ : MethodName)) (y := (⟨xS0, "olderNotAbove", "(J)I"⟩ : MethodName)) (wd23 hw) rfl (wd134 hw) (wd135 hw) (by decide)) (wd135 hw) (wd2 hw) (wd136 hw) (by decide) (cona_1_1 l Z a0 hw o p li d x0 w0 mc (kd) h0 O0 F1 El Fed Fsz Fmc Vd Ex0 Fw0 hc104) e103 Eo (by rw [hml]; rfl) (hb hby d5_89) (argsL := [(.long p)]) (rest := []) (lenOf pd12 rfl) rfl rfl (W := 0) (by first | exact Nat.le_refl _ | decide) (by decide) (by decide) (by decide) (by decide) ?_
    intro v110 T110 L110 X110 hQ110
    obtain ⟨rfl, N110q, e110⟩ := hQ110
    have N110 := Fr.app N0 N110q
    refine Go.istore X110 hx (hb hby d5_92) (l' := #[.val (.ref o), .val (.long p), .second, .val (.ref v), .val (.int 0)]) rfl (q := 94) rfl ?_
    refine Go.iload X110 hx (hb hby d5_94) rfl (q := 96) rfl ?_
    refine Go.ifNo X110 hx (hb hby d5_96) (by decide) (q := 99) rfl ?_
    refine Go.aloadN X110 hx (hb hby d5_99) rfl rfl (q := 100) rfl ?_
    refine Go.getF X110 hx hZ hown (host := "") (Or.inl (wd25 hw)) Via.refl e110 F1 (hb hby d5_100) (q := 103) rfl ?_
    intro T111 X111 e111
    refine Go.iload X111 hx (hb hby d5_103) rfl (q := 105) rfl ?_
    refine Go.face X111 hx hZ hown (wd137 hw) (wd138 hw) (wd139 hw) (wd140 hw) (wd141 hw) (wd142 hw) (wd143 hw) (wd89 hw) (wd47 hw) (wd144 hw) (by decide) (cget_1_0 l Z a0 hw li d x0 (kd) h0 O0 El Fsz Fed Vd) e111 El (by rw [hml]; rfl) (hb hby d5_105) (argsL := [(.int 0)]) (rest := []) (lenOf pd7 rfl) rfl rfl (W := 0) (by first | exact Nat.le_refl _ | decide) (by decide) (by decide) (by decide) (by decide) ?_
    intro v112 T112 L112 X112 hQ112
    obtain ⟨rfl, N112q, e112⟩ := hQ112
    have N112 := Fr.app N110 N112q
    refine Go.castY X112 hx hZ hown (wd69 hw) e112 (Ins.self Ex0) (hb hby d5_110) (q := 113) rfl ?_
    intro T113 X113 e113
    refine Go.getF X113 hx hZ hown (host := "") (Or.inl (wd159 hw)) Via.refl e113 Fw0 (hb hby d5_113) (q := 116) rfl ?_
    intro T114 X114 e114
    refine Go.lloadN X114 hx (hb hby d5_116) rfl (q := 117) rfl ?_
    refine Go.lcmp X114 hx (hb hby d5_117) rfl (q := 118) rfl ?_
    refine Go.ifYes X114 hx (hb hby d5_118) (Jvm.Free.XT.ll_ne_t h4) (q := 142) (by decide) (by decide) ?_
    refine Go.aloadN X114 hx (hb hby d5_142) rfl rfl (q := 143) rfl ?_
    refine Go.priv X114 hx hZ hown (wd41 hw) (wd42 hw) (own_selp (x' := (⟨xS0, "holdsOlder", "()Z"⟩ : MethodName)) (y' := (⟨xS0, "holdsOlder", "()Z"⟩ : MethodName)) (y := (⟨xS0, "olderList", "()Ljava/util/List;"⟩ : MethodName)) (wd23 hw) rfl (wd42 hw) (wd43 hw) (by decide)) (wd43 hw) (wd2 hw) (wd44 hw) (by decide) (coll1 l Z a0 hw o li h0 O0 F1) e114 Eo (by rw [hml]; rfl) (hb hby d5_143) (argsL := []) (rest := []) (lenOf pd9 rfl) rfl rfl (W := 0) (by first | exact Nat.le_refl _ | decide) (by decide) (by decide) (by decide) (by decide) ?_
    intro v115 T115 L115 X115 hQ115
    obtain ⟨rfl, N115q, e115⟩ := hQ115
    have N115 := Fr.app N112 N115q
    refine Go.iload X115 hx (hb hby d5_146) rfl (q := 148) rfl ?_
    refine Go.iconst X115 hx (hb hby d5_148) (r := (1 : Int32)) rfl (q := 149) rfl ?_
    refine Go.iadd X115 hx (hb hby d5_149) (r := (1 : Int32)) rfl (q := 150) rfl ?_
    refine Go.newO X115 hx hZ hown (wd69 hw) (wd70 hw) (wd71 hw) e115 (hb hby d5_150) (by decide) (by decide) (q := 153) rfl ?_
    intro b116 T116 h116 X116 e116 q116 E116 A116 D116 U116
    have ne_o_b116 : o ≠ b116 := ne_new Eo.lt (Nat.le_of_eq q116)
    have ne_li_b116 : li ≠ b116 := ne_new El.lt (Nat.le_of_eq q116)
    have ne_d_b116 : d ≠ b116 := ne_new Vd.lt (Nat.le_of_eq q116)
    have ne_x0_b116 : x0 ≠ b116 := ne_new Ex0.lt (Nat.le_of_eq q116)
    have g_b116 : Z.heap.size ≤ b116 := Nat.le_trans O0.1 (Nat.le_of_eq q116)
    have z_b116 : h0.size ≤ b116 := Nat.le_trans KP.1 (Nat.le_of_eq q116)
    replace Eo := Eo.ext E116
    replace F0 := F0.ext E116
    replace F1 := F1.ext E116
    replace F2 := F2.ext E116
    replace F3 := F3.ext E116
    replace F4 := F4.ext E116
    replace El := El.ext E116
    replace Fed := Fed.ext E116
    replace Fsz := Fsz.ext E116
    replace Fmc := Fmc.ext E116
    replace Vd := Vd.ext E116
    replace Ex0 := Ex0.ext E116
    replace Fw0 := Fw0.ext E116
    replace Fx0 := Fx0.ext E116
    have OE116 := ext_trans O0 E116
    replace KP := KP.ext E116
    have F116_writeTimestamp : Fld Z h116 b116 xS3 "writeTimestamp" "J" (.long 0) := D116 (Or.inr (wd77 hw)) (ty := .long) (by decide)
    have F116_value : Fld Z h116 b116 xS3 "value" xS9 .null := D116 (Or.inl (wd79 hw)) (ty := (.object xS2)) (by decide)
    have F116_readTimestamp : Fld Z h116 b116 xS3 "readTimestamp" "J" (.long 0) := D116 (Or.inl (wd81 hw)) (ty := .long) (by decide)
    clear D116
    refine Go.dup X116 hx (hb hby d5_153) rfl (q := 154) rfl ?_
    refine Go.lloadN X116 hx (hb hby d5_154) rfl (q := 155) rfl ?_
    refine Go.aloadN X116 hx (hb hby d5_155) rfl rfl (q := 156) rfl ?_
    refine Go.lconst X116 hx (hb hby d5_156) (r := (0 : Int64)) rfl (q := 157) rfl ?_
    refine Go.init X116 hx hZ hown rfl (wd72 hw) (wd73 hw) (wd71 hw) (wd74 hw) (by decide) (cold l Z a0 hw b116 p v ((0 : Int64)) h116 OE116 A116 g_b116 F116_writeTimestamp F116_value F116_readTimestamp) e116 (by rw [hml]; rfl) (hb hby d5_157) (argsL := [(.long p), (.ref v), (.long 0)]) (rest := [(.ref b116), (.int 1), (.ref li)]) (lenOf pd10 rfl) rfl rfl (W := 3) (by first | exact Nat.le_refl _ | decide) (by decide) (by decide) (by decide) (by decide) ?_
    intro v117 T117 L117 X117 hQ117
    obtain ⟨h117, e117⟩ : ∃ z, T117.heap = z := ⟨_, rfl⟩
    rw [e117] at hQ117
    obtain ⟨rfl, N117q, K117, P117_0, P117_1⟩ := hQ117
    have N117 := Fr.app N115 N117q
    replace Eo := Eo.keep K117
    replace F0 := F0.keep K117 (ninS ne_o_b116 nin0)
    replace F1 := F1.keep K117 (ninS ne_o_b116 nin0)
    replace F2 := F2.keep K117 (ninS ne_o_b116 nin0)
    replace F3 := F3.keep K117 (ninS ne_o_b116 nin0)
    replace F4 := F4.keep K117 (ninS ne_o_b116 nin0)
    replace El := El.keep K117
    replace Fed := Fed.keep K117 (ninS ne_li_b116 nin0)
    replace Fsz := Fsz.keep K117 (ninS ne_li_b116 nin0)
    replace Fmc := Fmc.keep K117 (ninS ne_li_b116 nin0)
    replace Vd := Vd.keep K117 (ninS ne_d_b116 nin0)
    replace Ex0 := Ex0.keep K117
    replace Fw0 := Fw0.keep K117 (ninS ne_x0_b116 nin0)
    replace Fx0 := Fx0.keep K117 (ninS ne_x0_b116 nin0)
    replace A116 := A116.keep K117
    have OK117 := ext_keep OE116 K117 (allS g_b116 all0)
    replace KP := KP.trans K117 (allS (Or.inr z_b116) all0)
    refine Go.face X117 hx hZ hown (wd160 hw) (wd161 hw) (wd162 hw) (wd163 hw) (wd164 hw) (wd165 hw) (wd166 hw) (wd89 hw) (wd47 hw) (wd167 hw) (by decide) (cai_1_1 l Z a0 hw li b116 d x0 mc (kd) h117 OK117 El g_li Fed Fsz Fmc Vd A116 g_d n_li_d ov) e117 El (by rw [hml]; rfl) (hb hby d5_160) (argsL := [(.int 1), (.ref b116)]) (rest := []) (lenOf pd13 rfl) rfl rfl (W := 0) (by first | exact Nat.le_refl _ | decide) (by decide) (by decide) (by decide) (by decide) ?_
    intro v118 T118 L118 X118 hQ118
    obtain ⟨h118, e118⟩ : ∃ z, T118.heap = z := ⟨_, rfl⟩
    rw [e118] at hQ118
    obtain ⟨rfl, N118q, K118, P118_0, P118_1, P118_2, P118_3⟩ := hQ118
    have N118 := Fr.app N117 N118q
    replace Eo := Eo.keep K118
    replace F0 := F0.keep K118 (ninS n_o_li (ninS n_o_d nin0))
    replace F1 := F1.keep K118 (ninS n_o_li (ninS n_o_d nin0))
    replace F2 := F2.keep K118 (ninS n_o_li (ninS n_o_d nin0))
    replace F3 := F3.keep K118 (ninS n_o_li (ninS n_o_d nin0))
    replace F4 := F4.keep K118 (ninS n_o_li (ninS n_o_d nin0))
    replace El := El.keep K118
    replace Ex0 := Ex0.keep K118
    replace Fw0 := Fw0.keep K118 (ninS (Ne.symm n_li_x0) (ninS (Ne.symm n_d_x0) nin0))
    replace Fx0 := Fx0.keep K118 (ninS (Ne.symm n_li_x0) (ninS (Ne.symm n_d_x0) nin0))
    replace A116 := A116.keep K118
    replace P117_0 := P117_0.keep K118 (ninS (Ne.symm ne_li_b116) (ninS (Ne.symm ne_d_b116) nin0))
    replace P117_1 := P117_1.keep K118 (ninS (Ne.symm ne_li_b116) (ninS (Ne.symm ne_d_b116) nin0))
    have OK118 := ext_keep OK117 K118 (allS g_li (allS g_d all0))
    replace KP := KP.trans K118 (allS (Or.inl (List.mem_of_getElem? (i := 0) rfl)) (allS (Or.inl (List.mem_of_getElem? (i := 1) rfl)) all0))
    exact Go.retV X118 hx hret hlk (hb hby d5_165) e118 (by decide) (by decide) ⟨x0, b116, w0, p, rfl, N118, KP, P118_0, P118_1, P118_2, P118_3, Ex0, Fw0, A116, P117_0⟩
def Q_cabs (Z : State) (o : Addr) (h0 : Heap) (vR : Option Value) (hR : Heap) (LR : List Loc) : Prop := vR = none ∧ Fr Z.heap.size LR ∧ Keep h0 hR [o] ∧ Fld Z hR o xS4 "root" "Ljava/util/ArrayList;" .null ∧ Fld Z hR o xS4 "parent" "Ljava/util/ArrayList$SubList;" .null ∧ Fld Z hR o xS4 "offset" "I" (.int 0) ∧ Fld Z hR o xS4 "size" "I" (.int 0) ∧ Fld Z hR o xS5 "modCount" "I" (.int 0)
theorem cabs (l : Launch) (Z : State) (a0 : Array Value) (hw : ∀ d ∈ tables_1, d.before a0 Z = true) (o : Addr) (h0 : Heap) (O0 : Ext Z.heap h0) (Eo : Exa Z h0 o xS4) (g_o : Z.heap.size ≤ o) (F0 : Fld Z h0 o xS4 "root" "Ljava/util/ArrayList;" .null) (F1 : Fld Z h0 o xS4 "parent" "Ljava/util/ArrayList$SubList;" .null) (F2 : Fld Z h0 o xS4 "offset" "I" (.int 0)) (F3 : Fld Z h0 o xS4 "size" "I" (.int 0)) (F4 : Fld Z h0 o xS5 "modCount" "I" (.int 0)) :
    Ctr l Z h0 (⟨xS5, "<init>", "()V"⟩ : MethodName) k9 1 none [] ({ frames := 2, cells := 0, slots := 0, locals := 24 } : Room) #[(.ref o)] (Q_cabs Z o h0) := by
  refine enter (plainFor_of_name pn1) ?_
  intro pp ee ss mm below meth cc s₁ hx hby hml hZ hown hnm hret hlk X0 e0 hs0
  replace hown : ss.vm.findClass xS5 = some mm.cls := hown
  refine Go.cast (congrArg s₁.setTop (ef_cabs mm o)) ?_
  have N0 := Fr.nil Z.heap.size
  have KP := Keep.refl h0 [o]
  show Go pp ee below _ (s₁.setTop (mkF mm 0 #[.val (.ref o)] []))
  refine Go.aloadN X0 hx (hb hby d9_0) rfl rfl (q := 1) rfl ?_
  refine Go.init X0 hx hZ hown rfl (wd57 hw) (wd58 hw) (wd61 hw) (wd62 hw) (by decide) (cac l Z a0 hw o h0 O0) e0 (by rw [hml]; rfl) (hb hby d9_1) (argsL := []) (rest := []) (lenOf pd0 rfl) rfl rfl (W := 0) (by first | exact Nat.le_refl _ | decide) (by decide) (by decide) (by decide) (by decide) ?_
  intro v101 T101 L101 X101 hQ101
  obtain ⟨rfl, N101q, e101⟩ := hQ101
  have N101 := Fr.app N0 N101q
  refine Go.aloadN X101 hx (hb hby d9_4) rfl rfl (q := 5) rfl ?_
  refine Go.iconst X101 hx (hb hby d9_5) (r := (0 : Int32)) rfl (q := 6) rfl ?_
  refine Go.putF X101 hx hZ hown (host := "") (Or.inl (wd64 hw)) Via.refl e101 F4 Eo (Or.inl (wd199 hw)) (wd190 hw) (ty := .int) (by decide) rfl rfl (hb hby d9_6) (q := 9) rfl ?_
  intro T102 h102 X102 e102 W102 F102
  have N102 := Fr.snoc X102 N101 g_o
  replace Eo := Eo.wr W102
  replace F0 := F0.other W102 (Or.inr (slot_ne (Or.inr (wd201 hw)) (Or.inl (wd199 hw)) (by decide) (t := (.object xS1)) (t' := .int) (by decide) (by decide)))
  replace F1 := F1.other W102 (Or.inr (slot_ne (Or.inr (wd203 hw)) (Or.inl (wd199 hw)) (by decide) (t := (.object xS4)) (t' := .int) (by decide) (by decide)))
  replace F2 := F2.other W102 (Or.inr (slot_ne (Or.inr (wd205 hw)) (Or.inl (wd199 hw)) (by decide) (t := .int) (t' := .int) (by decide) (by decide)))
  replace F3 := F3.other W102 (Or.inr (slot_ne (Or.inl (wd207 hw)) (Or.inl (wd199 hw)) (by decide) (t := .int) (t' := .int) (by decide) (by decide)))
  have OW102 := ext_wr O0 W102 g_o
  replace KP := KP.wr W102 (Or.inl (List.mem_of_getElem? (i := 0) rfl))
  exact Go.retV X102 hx hret hlk (hb hby d9_9) e102 (by decide) (by decide) ⟨rfl, N102, KP, F0, F1, F2, F3, F102⟩
def Q_csbi (Z : State) (o li : Addr) (mc : Int32) (h0 : Heap) (vR : Option Value) (hR : Heap) (LR : List Loc) : Prop := vR = none ∧ Fr Z.heap.size LR ∧ Keep h0 hR [o] ∧ Fld Z hR o xS4 "root" "Ljava/util/ArrayList;" (.ref li) ∧ Fld Z hR o xS4 "parent" "Ljava/util/ArrayList$SubList;" .null ∧ Fld Z hR o xS4 "offset" "I" (.int 0) ∧ Fld Z hR o xS4 "size" "I" (.int 1) ∧ Fld Z hR o xS5 "modCount" "I" (.int mc)
theorem csbi (l : Launch) (Z : State) (a0 : Array Value) (hw : ∀ d ∈ tables_1, d.before a0 Z = true) (o li : Addr) (mc : Int32) (h0 : Heap) (O0 : Ext Z.heap h0) (Eo : Exa Z h0 o xS4) (g_o : Z.heap.size ≤ o) (F0 : Fld Z h0 o xS4 "root" "Ljava/util/ArrayList;" .null) (F1 : Fld Z h0 o xS4 "parent" "Ljava/util/ArrayList$SubList;" .null) (F2 : Fld Z h0 o xS4 "offset" "I" (.int 0)) (F3 : Fld Z h0 o xS4 "size" "I" (.int 0)) (F4 : Fld Z h0 o xS5 "modCount" "I" (.int 0)) (Fm : Fld Z h0 li xS5 "modCount" "I" (.int mc)) (n_o_li : o ≠ li) :
    Ctr l Z h0 (⟨xS4, "<init>", "(Ljava/util/ArrayList;II)V"⟩ : MethodName) k29 4 none [] ({ frames := 3, cells := 0, slots := 0, locals := 36 } : Room) #[(.ref o), (.ref li), (.int 0), (.int 1)] (Q_csbi Z o li mc h0) := by
  refine enter (plainFor_of_name pn7) ?_
  intro pp ee ss mm below meth cc s₁ hx hby hml hZ hown hnm hret hlk X0 e0 hs0
  replace hown : ss.vm.findClass xS4 = some mm.cls := hown
  refine Go.cast (congrArg s₁.setTop (ef_csbi mm o li)) ?_
  have N0 := Fr.nil Z.heap.size
  have KP := Keep.refl h0 [o]
  show Go pp ee below _ (s₁.setTop (mkF mm 0 #[.val (.ref o), .val (.ref li), .val (.int 0), .val (.int 1)] []))
  refine Go.aloadN X0 hx (hb hby d29_0) rfl rfl (q := 1) rfl ?_
  refine Go.init X0 hx hZ hown rfl (wd196 hw) (wd52 hw) (wd55 hw) (wd56 hw) (by decide) (cabs l Z a0 hw o h0 O0 Eo g_o F0 F1 F2 F3 F4) e0 (by rw [hml]; rfl) (hb hby d29_1) (argsL := []) (rest := []) (lenOf pd0 rfl) rfl rfl (W := 0) (by first | exact Nat.le_refl _ | decide) (by decide) (by decide) (by decide) (by decide) ?_
  intro v101 T101 L101 X101 hQ101
  obtain ⟨h101, e101⟩ : ∃ z, T101.heap = z := ⟨_, rfl⟩
  rw [e101] at hQ101
  obtain ⟨rfl, N101q, K101, P101_0, P101_1, P101_2, P101_3, P101_4⟩ := hQ101
  have N101 := Fr.app N0 N101q
  replace Eo := Eo.keep K101
  replace Fm := Fm.keep K101 (ninS (Ne.symm n_o_li) nin0)
  have OK101 := ext_keep O0 K101 (allS g_o all0)
  replace KP := KP.trans K101 (allS (Or.inl (List.mem_of_getElem? (i := 0) rfl)) all0)
  refine Go.aloadN X101 hx (hb hby d29_4) rfl rfl (q := 5) rfl ?_
  refine Go.aloadN X101 hx (hb hby d29_5) rfl rfl (q := 6) rfl ?_
  refine Go.putF X101 hx hZ hown (host := "") (Or.inl (wd200 hw)) Via.refl e101 P101_0 Eo (Or.inr ⟨(wd201 hw), rfl, hnm⟩) (wd190 hw) (ty := (.object xS1)) (by decide) rfl rfl (hb hby d29_6) (q := 9) rfl ?_
  intro T102 h102 X102 e102 W102 F102
  have N102 := Fr.snoc X102 N101 g_o
  replace Eo := Eo.wr W102
  replace Fm := Fm.other W102 (Or.inl (Ne.symm n_o_li))
  replace P101_1 := P101_1.other W102 (Or.inr (slot_ne (Or.inr (wd203 hw)) (Or.inr (wd201 hw)) (by decide) (t := (.object xS4)) (t' := (.object xS1)) (by decide) (by decide)))
  replace P101_2 := P101_2.other W102 (Or.inr (slot_ne (Or.inr (wd205 hw)) (Or.inr (wd201 hw)) (by decide) (t := .int) (t' := (.object xS1)) (by decide) (by decide)))
  replace P101_3 := P101_3.other W102 (Or.inr (slot_ne (Or.inl (wd207 hw)) (Or.inr (wd201 hw)) (by decide) (t := .int) (t' := (.object xS1)) (by decide) (by decide)))
  replace P101_4 := P101_4.other W102 (Or.inr (slot_ne (Or.inl (wd199 hw)) (Or.inr (wd201 hw)) (by decide) (t := .int) (t' := (.object xS1)) (by decide) (by decide)))
  have OW102 := ext_wr OK101 W102 g_o
  replace KP := KP.wr W102 (Or.inl (List.mem_of_getElem? (i := 0) rfl))
  refine Go.aloadN X102 hx (hb hby d29_9) rfl rfl (q := 10) rfl ?_
  refine Go.aconst_null X102 hx (hb hby d29_10) (q := 11) rfl ?_
  refine Go.putF X102 hx hZ hown (host := "") (Or.inl (wd202 hw)) Via.refl e102 P101_1 Eo (Or.inr ⟨(wd203 hw), rfl, hnm⟩) (wd190 hw) (ty := (.object xS4)) (by decide) rfl rfl (hb hby d29_11) (q := 14) rfl ?_
  intro T103 h103 X103 e103 W103 F103
  have N103 := Fr.snoc X103 N102 g_o
  replace Eo := Eo.wr W103
  replace Fm := Fm.other W103 (Or.inl (Ne.symm n_o_li))
  replace P101_2 := P101_2.other W103 (Or.inr (slot_ne (Or.inr (wd205 hw)) (Or.inr (wd203 hw)) (by decide) (t := .int) (t' := (.object xS4)) (by decide) (by decide)))
  replace P101_3 := P101_3.other W103 (Or.inr (slot_ne (Or.inl (wd207 hw)) (Or.inr (wd203 hw)) (by decide) (t := .int) (t' := (.object xS4)) (by decide) (by decide)))
  replace P101_4 := P101_4.other W103 (Or.inr (slot_ne (Or.inl (wd199 hw)) (Or.inr (wd203 hw)) (by decide) (t := .int) (t' := (.object xS4)) (by decide) (by decide)))
  replace F102 := F102.other W103 (Or.inr (slot_ne (Or.inr (wd201 hw)) (Or.inr (wd203 hw)) (by decide) (t := (.object xS1)) (t' := (.object xS4)) (by decide) (by decide)))
  have OW103 := ext_wr OW102 W103 g_o
  replace KP := KP.wr W103 (Or.inl (List.mem_of_getElem? (i := 0) rfl))
  refine Go.aloadN X103 hx (hb hby d29_14) rfl rfl (q := 15) rfl ?_
  refine Go.iloadN X103 hx (hb hby d29_15) rfl (q := 16) rfl ?_
  refine Go.putF X103 hx hZ hown (host := "") (Or.inl (wd204 hw)) Via.refl e103 P101_2 Eo (Or.inr ⟨(wd205 hw), rfl, hnm⟩) (wd190 hw) (ty := .int) (by decide) rfl rfl (hb hby d29_16) (q := 19) rfl ?_
  intro T104 h104 X104 e104 W104 F104
  have N104 := Fr.snoc X104 N103 g_o
  replace Eo := Eo.wr W104
  replace Fm := Fm.other W104 (Or.inl (Ne.symm n_o_li))
  replace P101_3 := P101_3.other W104 (Or.inr (slot_ne (Or.inl (wd207 hw)) (Or.inr (wd205 hw)) (by decide) (t := .int) (t' := .int) (by decide) (by decide)))
  replace P101_4 := P101_4.other W104 (Or.inr (slot_ne (Or.inl (wd199 hw)) (Or.inr (wd205 hw)) (by decide) (t := .int) (t' := .int) (by decide) (by decide)))
  replace F102 := F102.other W104 (Or.inr (slot_ne (Or.inr (wd201 hw)) (Or.inr (wd205 hw)) (by decide) (t := (.object xS1)) (t' := .int) (by decide) (by decide)))
  replace F103 := F103.other W104 (Or.inr (slot_ne (Or.inr (wd203 hw)) (Or.inr (wd205 hw)) (by decide) (t := (.object xS4)) (t' := .int) (by decide) (by decide)))
  have OW104 := ext_wr OW103 W104 g_o
  replace KP := KP.wr W104 (Or.inl (List.mem_of_getElem? (i := 0) rfl))
  refine Go.aloadN X104 hx (hb hby d29_19) rfl rfl (q := 20) rfl ?_
  refine Go.iloadN X104 hx (hb hby d29_20) rfl (q := 21) rfl ?_
  refine Go.iloadN X104 hx (hb hby d29_21) rfl (q := 22) rfl ?_
  refine Go.isub X104 hx (hb hby d29_22) (r := (1 : Int32)) rfl (q := 23) rfl ?_
  refine Go.putF X104 hx hZ hown (host := "") (Or.inl (wd206 hw)) Via.refl e104 P101_3 Eo (Or.inl (wd207 hw)) (wd190 hw) (ty := .int) (by decide) rfl rfl (hb hby d29_23) (q := 26) rfl ?_
  intro T105 h105 X105 e105 W105 F105
  have N105 := Fr.snoc X105 N104 g_o
  replace Eo := Eo.wr W105
  replace Fm := Fm.other W105 (Or.inl (Ne.symm n_o_li))
  replace P101_4 := P101_4.other W105 (Or.inr (slot_ne (Or.inl (wd199 hw)) (Or.inl (wd207 hw)) (by decide) (t := .int) (t' := .int) (by decide) (by decide)))
  replace F102 := F102.other W105 (Or.inr (slot_ne (Or.inr (wd201 hw)) (Or.inl (wd207 hw)) (by decide) (t := (.object xS1)) (t' := .int) (by decide) (by decide)))
  replace F103 := F103.other W105 (Or.inr (slot_ne (Or.inr (wd203 hw)) (Or.inl (wd207 hw)) (by decide) (t := (.object xS4)) (t' := .int) (by decide) (by decide)))
  replace F104 := F104.other W105 (Or.inr (slot_ne (Or.inr (wd205 hw)) (Or.inl (wd207 hw)) (by decide) (t := .int) (t' := .int) (by decide) (by decide)))
  have OW105 := ext_wr OW104 W105 g_o
  replace KP := KP.wr W105 (Or.inl (List.mem_of_getElem? (i := 0) rfl))
  refine Go.aloadN X105 hx (hb hby d29_26) rfl rfl (q := 27) rfl ?_
  refine Go.aloadN X105 hx (hb hby d29_27) rfl rfl (q := 28) rfl ?_
  refine Go.getF X105 hx hZ hown (host := "") (Or.inl (wd208 hw)) (Via.of (wd92 hw)) e105 Fm (hb hby d29_28) (q := 31) rfl ?_
  intro T106 X106 e106
  refine Go.putF X106 hx hZ hown (host := "") (Or.inl (wd209 hw)) (Via.of (wd210 hw)) e106 P101_4 Eo (Or.inl (wd199 hw)) (wd190 hw) (ty := .int) (by decide) rfl rfl (hb hby d29_31) (q := 34) rfl ?_
  intro T107 h107 X107 e107 W107 F107
  have N107 := Fr.snoc X107 N105 g_o
  replace Eo := Eo.wr W107
  replace Fm := Fm.other W107 (Or.inl (Ne.symm n_o_li))
  replace F102 := F102.other W107 (Or.inr (slot_ne (Or.inr (wd201 hw)) (Or.inl (wd199 hw)) (by decide) (t := (.object xS1)) (t' := .int) (by decide) (by decide)))
  replace F103 := F103.other W107 (Or.inr (slot_ne (Or.inr (wd203 hw)) (Or.inl (wd199 hw)) (by decide) (t := (.object xS4)) (t' := .int) (by decide) (by decide)))
  replace F104 := F104.other W107 (Or.inr (slot_ne (Or.inr (wd205 hw)) (Or.inl (wd199 hw)) (by decide) (t := .int) (t' := .int) (by decide) (by decide)))
  replace F105 := F105.other W107 (Or.inr (slot_ne (Or.inl (wd207 hw)) (Or.inl (wd199 hw)) (by decide) (t := .int) (t' := .int) (by decide) (by decide)))
  have OW107 := ext_wr OW105 W107 g_o
  replace KP := KP.wr W107 (Or.inl (List.mem_of_getElem? (i := 0) rfl))
  exact Go.retV X107 hx hret hlk (hb hby d29_34) e107 (by decide) (by decide) ⟨rfl, N107, KP, F102, F103, F104, F105, F107⟩
def Q_csrc (Z : State) (h0 : Heap) (vR : Option Value) (hR : Heap) (LR : List Loc) : Prop := vR = none ∧ Fr Z.heap.size LR ∧ hR = h0
theorem csrc (l : Launch) (Z : State) (a0 : Array Value) (hw : ∀ d ∈ tables_1, d.before a0 Z = true) (h0 : Heap) (O0 : Ext Z.heap h0) :
    Ctr l Z h0 (⟨xS5, "subListRangeCheck", "(III)V"⟩ : MethodName) k28 3 none [] ({ frames := 0, cells := 0, slots := 0, locals := 0 } : Room) #[(.int 0), (.int 1), (.int 2)] (Q_csrc Z h0) := by
  refine enter (plainFor_of_name pn1) ?_
  intro pp ee ss mm below meth cc s₁ hx hby hml hZ hown hnm hret hlk X0 e0 hs0
  replace hown : ss.vm.findClass xS5 = some mm.cls := hown
  refine Go.cast (congrArg s₁.setTop (ef_csrc mm)) ?_
  have N0 := Fr.nil Z.heap.size
  show Go pp ee below _ (s₁.setTop (mkF mm 0 #[.val (.int 0), .val (.int 1), .val (.int 2)] []))
  refine Go.iloadN X0 hx (hb hby d28_0) rfl (q := 1) rfl ?_
  refine Go.ifYes X0 hx (hb hby d28_1) (by decide) (q := 31) (by decide) (by decide) ?_
  refine Go.iloadN X0 hx (hb hby d28_31) rfl (q := 32) rfl ?_
  refine Go.iloadN X0 hx (hb hby d28_32) rfl (q := 33) rfl ?_
  refine Go.icmpYes X0 hx (hb hby d28_33) (by decide) (q := 63) (by decide) (by decide) ?_
  refine Go.iloadN X0 hx (hb hby d28_63) rfl (q := 64) rfl ?_
  refine Go.iloadN X0 hx (hb hby d28_64) rfl (q := 65) rfl ?_
  refine Go.icmpYes X0 hx (hb hby d28_65) (by decide) (q := 109) (by decide) (by decide) ?_
  exact Go.retV X0 hx hret hlk (hb hby d28_109) e0 (by decide) (by decide) ⟨rfl, N0, rfl⟩
def Q_csub (Z : State) (o : Addr) (mc : Int32) (h0 : Heap) (vR : Option Value) (hR : Heap) (LR : List Loc) : Prop := ∃ sb : Addr, vR = some (.ref sb) ∧ Fr Z.heap.size LR ∧ Keep h0 hR [] ∧ h0.size ≤ sb ∧ Exa Z hR sb xS4 ∧ Fld Z hR sb xS4 "root" "Ljava/util/ArrayList;" (.ref o) ∧ Fld Z hR sb xS4 "parent" "Ljava/util/ArrayList$SubList;" .null ∧ Fld Z hR sb xS4 "offset" "I" (.int 0) ∧ Fld Z hR sb xS4 "size" "I" (.int 1) ∧ Fld Z hR sb xS5 "modCount" "I" (.int mc)
theorem csub (l : Launch) (Z : State) (a0 : Array Value) (hw : ∀ d ∈ tables_1, d.before a0 Z = true) (o : Addr) (mc : Int32) (h0 : Heap) (O0 : Ext Z.heap h0) (Eo : Exa Z h0 o xS1) (Fs : Fld Z h0 o xS1 "size" "I" (.int 2)) (Fm : Fld Z h0 o xS5 "modCount" "I" (.int mc)) :
    Ctr l Z h0 (⟨xS1, "subList", "(II)Ljava/util/List;"⟩ : MethodName) k27 3 (some (.object xS10)) [] ({ frames := 4, cells := 1, slots := 5, locals := 52 } : Room) #[(.ref o), (.int 0), (.int 1)] (Q_csub Z o mc h0) := by
  refine enter (plainFor_of_name pn2) ?_
  intro pp ee ss mm below meth cc s₁ hx hby hml hZ hown hnm hret hlk X0 e0 hs0
  replace hown : ss.vm.findClass xS1 = some mm.cls := hown
  refine Go.cast (congrArg s₁.setTop (ef_csub mm o)) ?_
  have N0 := Fr.nil Z.heap.size
  have KP := Keep.refl h0 []
  show Go pp ee below _ (s₁.setTop (mkF mm 0 #[.val (.ref o), .val (.int 0), .val (.int 1)] []))
  refine Go.iloadN X0 hx (hb hby d27_0) rfl (q := 1) rfl ?_
  refine Go.iloadN X0 hx (hb hby d27_1) rfl (q := 2) rfl ?_
  refine Go.aloadN X0 hx (hb hby d27_2) rfl rfl (q := 3) rfl ?_
  refine Go.getF X0 hx hZ hown (host := "") (Or.inl (wd93 hw)) Via.refl e0 Fs (hb hby d27_3) (q := 6) rfl ?_
  intro T101 X101 e101
  refine Go.callSUp X101 hx hZ hown (wd185 hw) (wd186 hw) (wd187 hw) (wd55 hw) (wd188 hw) (by decide) (csrc l Z a0 hw h0 O0) e101 (by rw [hml]; rfl) (hb hby d27_6) (argsL := [(.int 0), (.int 1), (.int 2)]) (rest := []) (lenOf pd14 rfl) rfl rfl (W := 0) (by first | exact Nat.le_refl _ | decide) (by decide) (by decide) (by decide) (by decide) ?_
  intro v102 T102 L102 X102 hQ102
  obtain ⟨rfl, N102q, e102⟩ := hQ102
  have N102 := Fr.app N0 N102q
  refine Go.newO X102 hx hZ hown (wd189 hw) (wd190 hw) (wd191 hw) e102 (hb hby d27_9) (by decide) (by decide) (q := 12) rfl ?_
  intro b103 T103 h103 X103 e103 q103 E103 A103 D103 U103
  have ne_o_b103 : o ≠ b103 := ne_new Eo.lt (Nat.le_of_eq q103)
  have g_b103 : Z.heap.size ≤ b103 := Nat.le_trans O0.1 (Nat.le_of_eq q103)
  have z_b103 : h0.size ≤ b103 := Nat.le_trans KP.1 (Nat.le_of_eq q103)
  replace Eo := Eo.ext E103
  replace Fs := Fs.ext E103
  replace Fm := Fm.ext E103
  have OE103 := ext_trans O0 E103
  replace KP := KP.ext E103
  have F103_modCount : Fld Z h103 b103 xS5 "modCount" "I" (.int 0) := D103 (Or.inl (wd199 hw)) (ty := .int) (by decide)
  have F103_root : Fld Z h103 b103 xS4 "root" "Ljava/util/ArrayList;" .null := D103 (Or.inr (wd201 hw)) (ty := (.object xS1)) (by decide)
  have F103_parent : Fld Z h103 b103 xS4 "parent" "Ljava/util/ArrayList$SubList;" .null := D103 (Or.inr (wd203 hw)) (ty := (.object xS4)) (by decide)
  have F103_offset : Fld Z h103 b103 xS4 "offset" "I" (.int 0) := D103 (Or.inr (wd205 hw)) (ty := .int) (by decide)
  have F103_size : Fld Z h103 b103 xS4 "size" "I" (.int 0) := D103 (Or.inl (wd207 hw)) (ty := .int) (by decide)
  clear D103
  refine Go.dup X103 hx (hb hby d27_12) rfl (q := 13) rfl ?_
  refine Go.aloadN X103 hx (hb hby d27_13) rfl rfl (q := 14) rfl ?_
  refine Go.iloadN X103 hx (hb hby d27_14) rfl (q := 15) rfl ?_
  refine Go.iloadN X103 hx (hb hby d27_15) rfl (q := 16) rfl ?_
  refine Go.init X103 hx hZ hown rfl (wd192 hw) (wd193 hw) (wd191 hw) (wd195 hw) (by decide) (csbi l Z a0 hw b103 o mc h103 OE103 A103 g_b103 F103_root F103_parent F103_offset F103_size F103_modCount Fm (Ne.symm ne_o_b103)) e103 (by rw [hml]; rfl) (hb hby d27_16) (argsL := [(.ref o), (.int 0), (.int 1)]) (rest := [(.ref b103)]) (lenOf pd15 rfl) rfl rfl (W := 1) (by first | exact Nat.le_refl _ | decide) (by decide) (by decide) (by decide) (by decide) ?_
  intro v104 T104 L104 X104 hQ104
  obtain ⟨h104, e104⟩ : ∃ z, T104.heap = z := ⟨_, rfl⟩
  rw [e104] at hQ104
  obtain ⟨rfl, N104q, K104, P104_0, P104_1, P104_2, P104_3, P104_4⟩ := hQ104
  have N104 := Fr.app N102 N104q
  replace Eo := Eo.keep K104
  replace Fs := Fs.keep K104 (ninS ne_o_b103 nin0)
  replace Fm := Fm.keep K104 (ninS ne_o_b103 nin0)
  replace A103 := A103.keep K104
  have OK104 := ext_keep OE103 K104 (allS g_b103 all0)
  replace KP := KP.trans K104 (allS (Or.inr z_b103) all0)
  exact Go.retA X104 hx hret hlk rfl rfl (hb hby d27_19) e104 (by decide) (by decide) ⟨b103, rfl, N104, KP, z_b103, A103, P104_0, P104_1, P104_2, P104_3, P104_4⟩
def Q_ccfc (Z : State) (o li : Addr) (mc : Int32) (h0 : Heap) (vR : Option Value) (hR : Heap) (LR : List Loc) : Prop := vR = none ∧ Fr Z.heap.size LR ∧ hR = h0
theorem ccfc (l : Launch) (Z : State) (a0 : Array Value) (hw : ∀ d ∈ tables_1, d.before a0 Z = true) (o li : Addr) (mc : Int32) (h0 : Heap) (O0 : Ext Z.heap h0) (Fro : Fld Z h0 o xS4 "root" "Ljava/util/ArrayList;" (.ref li)) (Fm : Fld Z h0 li xS5 "modCount" "I" (.int mc)) (Fo : Fld Z h0 o xS5 "modCount" "I" (.int mc)) :
    Ctr l Z h0 (⟨xS4, "checkForComodification", "()V"⟩ : MethodName) k32 1 none [] ({ frames := 0, cells := 0, slots := 0, locals := 0 } : Room) #[(.ref o)] (Q_ccfc Z o li mc h0) := by
  refine enter (plainFor_of_name pn7) ?_
  intro pp ee ss mm below meth cc s₁ hx hby hml hZ hown hnm hret hlk X0 e0 hs0
  replace hown : ss.vm.findClass xS4 = some mm.cls := hown
  refine Go.cast (congrArg s₁.setTop (ef_ccfc mm o)) ?_
  have N0 := Fr.nil Z.heap.size
  show Go pp ee below _ (s₁.setTop (mkF mm 0 #[.val (.ref o)] []))
  refine Go.aloadN X0 hx (hb hby d32_0) rfl rfl (q := 1) rfl ?_
  refine Go.getF X0 hx hZ hown (host := "") (Or.inl (wd200 hw)) Via.refl e0 Fro (hb hby d32_1) (q := 4) rfl ?_
  intro T101 X101 e101
  refine Go.getF X101 hx hZ hown (host := "") (Or.inl (wd208 hw)) (Via.of (wd92 hw)) e101 Fm (hb hby d32_4) (q := 7) rfl ?_
  intro T102 X102 e102
  refine Go.aloadN X102 hx (hb hby d32_7) rfl rfl (q := 8) rfl ?_
  refine Go.getF X102 hx hZ hown (host := "") (Or.inl (wd209 hw)) (Via.of (wd210 hw)) e102 Fo (hb hby d32_8) (q := 11) rfl ?_
  intro T103 X103 e103
  refine Go.icmpYes X103 hx (hb hby d32_11) (Jvm.Free.XT.ii_eq_t rfl) (q := 22) (by decide) (by decide) ?_
  exact Go.retV X103 hx hret hlk (hb hby d32_22) e103 (by decide) (by decide) ⟨rfl, N0, rfl⟩
def Q_cssz (Z : State) (o li : Addr) (mc nn : Int32) (h0 : Heap) (vR : Option Value) (hR : Heap) (LR : List Loc) : Prop := vR = some (.int nn) ∧ Fr Z.heap.size LR ∧ hR = h0
theorem cssz (l : Launch) (Z : State) (a0 : Array Value) (hw : ∀ d ∈ tables_1, d.before a0 Z = true) (o li : Addr) (mc nn : Int32) (h0 : Heap) (O0 : Ext Z.heap h0) (Eo : Exa Z h0 o xS4) (Fro : Fld Z h0 o xS4 "root" "Ljava/util/ArrayList;" (.ref li)) (Fm : Fld Z h0 li xS5 "modCount" "I" (.int mc)) (Fo : Fld Z h0 o xS5 "modCount" "I" (.int mc)) (Fs : Fld Z h0 o xS4 "size" "I" (.int nn)) :
    Ctr l Z h0 (⟨xS4, "size", "()I"⟩ : MethodName) k31 1 (some .int) [] ({ frames := 1, cells := 0, slots := 0, locals := 12 } : Room) #[(.ref o)] (Q_cssz Z o li mc nn h0) := by
  refine enter (plainFor_of_name pn7) ?_
  intro pp ee ss mm below meth cc s₁ hx hby hml hZ hown hnm hret hlk X0 e0 hs0
  replace hown : ss.vm.findClass xS4 = some mm.cls := hown
  refine Go.cast (congrArg s₁.setTop (ef_cssz mm o)) ?_
  have N0 := Fr.nil Z.heap.size
  show Go pp ee below _ (s₁.setTop (mkF mm 0 #[.val (.ref o)] []))
  refine Go.aloadN X0 hx (hb hby d31_0) rfl rfl (q := 1) rfl ?_
  refine Go.priv X0 hx hZ hown (wd226 hw) (wd227 hw) (wd229 hw) (wd228 hw) (wd191 hw) (wd230 hw) (by decide) (ccfc l Z a0 hw o li mc h0 O0 Fro Fm Fo) e0 Eo (by rw [hml]; rfl) (hb hby d31_1) (argsL := []) (rest := []) (lenOf pd0 rfl) rfl rfl (W := 0) (by first | exact Nat.le_refl _ | decide) (by decide) (by decide) (by decide) (by decide) ?_
  intro v101 T101 L101 X101 hQ101
  obtain ⟨rfl, N101q, e101⟩ := hQ101
  have N101 := Fr.app N0 N101q
  refine Go.aloadN X101 hx (hb hby d31_4) rfl rfl (q := 5) rfl ?_
  refine Go.getF X101 hx hZ hown (host := "") (Or.inl (wd206 hw)) Via.refl e101 Fs (hb hby d31_5) (q := 8) rfl ?_
  intro T102 X102 e102
  exact Go.retI X102 hx hret hlk (Or.inl rfl) rfl (hb hby d31_8) e102 (by decide) (by decide) ⟨rfl, N101, rfl⟩
def Q_cshf (Z : State) (li d y0 y1 : Addr) (mc : Int32) (kd : ClassId) (h0 : Heap) (vR : Option Value) (hR : Heap) (LR : List Loc) : Prop := vR = none ∧ Fr Z.heap.size LR ∧ Keep h0 hR [li, d] ∧ Fld Z hR li xS1 xS7 xS6 (.ref d) ∧ Fld Z hR li xS1 "size" "I" (.int 1) ∧ Fld Z hR li xS5 "modCount" "I" (.int mc) ∧ Arv Z hR d kd (.object xS2) (10 : Int32) [(.ref y1), .null, .null, .null, .null, .null, .null, .null, .null, .null] .null
theorem cshf (l : Launch) (Z : State) (a0 : Array Value) (hw : ∀ d ∈ tables_1, d.before a0 Z = true) (li d y0 y1 : Addr) (mc : Int32) (kd : ClassId) (h0 : Heap) (O0 : Ext Z.heap h0) (F0 : Fld Z h0 li xS1 xS7 xS6 (.ref d)) (F1 : Fld Z h0 li xS1 "size" "I" (.int 2)) (F2 : Fld Z h0 li xS5 "modCount" "I" (.int mc)) (F3 : Arv Z h0 d kd (.object xS2) (10 : Int32) [(.ref y0), (.ref y1), .null, .null, .null, .null, .null, .null, .null, .null] .null) (El : Exa Z h0 li xS1) (Ey1 : Exa Z h0 y1 xS3) (g_li : Z.heap.size ≤ li) (g_d : Z.heap.size ≤ d) (n_li_d : li ≠ d) (ov : Ovr Z kd xS2) :
    Ctr l Z h0 (⟨xS1, "shiftTailOverGap", "([Ljava/lang/Object;II)V"⟩ : MethodName) k35 6 none [] ({ frames := 1, cells := 0, slots := 0, locals := 18 } : Room) #[(.ref li), (.ref d), (.int 0), (.int 1)] (Q_cshf Z li d y0 y1 mc kd h0) := by
  refine enter (plainFor_of_name pn2) ?_
  intro pp ee ss mm below meth cc s₁ hx hby hml hZ hown hnm hret hlk X0 e0 hs0
  replace hown : ss.vm.findClass xS1 = some mm.cls := hown
  refine Go.cast (congrArg s₁.setTop (ef_cshf mm li d)) ?_
  have N0 := Fr.nil Z.heap.size
  have KP := Keep.refl h0 [li, d]
  show Go pp ee below _ (s₁.setTop (mkF mm 0 #[.val (.ref li), .val (.ref d), .val (.int 0), .val (.int 1), .unset, .unset] []))
  refine Go.aloadN X0 hx (hb hby d35_0) rfl rfl (q := 1) rfl ?_
  refine Go.iloadN X0 hx (hb hby d35_1) rfl (q := 2) rfl ?_
  refine Go.aloadN X0 hx (hb hby d35_2) rfl rfl (q := 3) rfl ?_
  refine Go.iloadN X0 hx (hb hby d35_3) rfl (q := 4) rfl ?_
  refine Go.aloadN X0 hx (hb hby d35_4) rfl rfl (q := 5) rfl ?_
  refine Go.getF X0 hx hZ hown (host := "") (Or.inl (wd93 hw)) Via.refl e0 F1 (hb hby d35_5) (q := 8) rfl ?_
  intro T101 X101 e101
  refine Go.iloadN X101 hx (hb hby d35_8) rfl (q := 9) rfl ?_
  refine Go.isub X101 hx (hb hby d35_9) (r := (1 : Int32)) rfl (q := 10) rfl ?_
  obtain ⟨T102, h102, L102, X102, e102, N102, K102, V102, st102⟩ := cpA X101 hx hZ hown (wd173 hw) (wd176 hw) (wd174 hw) (wd175 hw) e101 F3 F3 (us := [(.ref y1)]) (sp := (1 : Int32)) (dp := (0 : Int32)) (nn := (1 : Int32)) (Or.inr ⟨rfl, rfl, ⟨(Sto.ofArv F3 ov (Ins.of_exa Ey1 (wd116 hw))), trivial⟩⟩) (by decide) (by decide) (by decide) (by decide) (by decide) rfl (Nat.le_of_ble_eq_true rfl) N0 g_d (g := (mkF mm 10 #[.val (.ref li), .val (.ref d), .val (.int 0), .val (.int 1), .unset, .unset] [(.int 1), (.int 0), (.ref d), (.int 1), (.ref d)])) rfl (by rw [hml]; rfl) rfl (hb hby d35_10) (by decide) (W := 0) (by show 2 * 0 + _ ≤ _; exact Nat.le_of_eq rfl) (by decide)
  refine Go.by st102 ?_
  replace F0 := F0.keep K102 (ninS n_li_d nin0)
  replace F1 := F1.keep K102 (ninS n_li_d nin0)
  replace F2 := F2.keep K102 (ninS n_li_d nin0)
  replace El := El.keep K102
  replace Ey1 := Ey1.keep K102
  have OK102 := ext_keep O0 K102 (allS g_d all0)
  replace KP := KP.trans K102 (allS (Or.inl (List.mem_of_getElem? (i := 1) rfl)) all0)
  replace V102 : Arv Z h102 d kd (.object xS2) (10 : Int32) [(.ref y1), (.ref y1), .null, .null, .null, .null, .null, .null, .null, .null] .null := V102
  show Go pp ee below _ (T102.setTop (mkF mm 13 #[.val (.ref li), .val (.ref d), .val (.int 0), .val (.int 1), .unset, .unset] []))
  refine Go.aloadN X102 hx (hb hby d35_13) rfl rfl (q := 14) rfl ?_
  refine Go.getF X102 hx hZ hown (host := "") (Or.inl (wd93 hw)) Via.refl e102 F1 (hb hby d35_14) (q := 17) rfl ?_
  intro T103 X103 e103
  refine Go.istore X103 hx (hb hby d35_17) (l' := #[.val (.ref li), .val (.ref d), .val (.int 0), .val (.int 1), .val (.int 2), .unset]) rfl (q := 19) rfl ?_
  refine Go.aloadN X103 hx (hb hby d35_19) rfl rfl (q := 20) rfl ?_
  refine Go.dup X103 hx (hb hby d35_20) rfl (q := 21) rfl ?_
  refine Go.getF X103 hx hZ hown (host := "") (Or.inl (wd93 hw)) Via.refl e103 F1 (hb hby d35_21) (q := 24) rfl ?_
  intro T104 X104 e104
  refine Go.iloadN X104 hx (hb hby d35_24) rfl (q := 25) rfl ?_
  refine Go.iloadN X104 hx (hb hby d35_25) rfl (q := 26) rfl ?_
  refine Go.isub X104 hx (hb hby d35_26) (r := (1 : Int32)) rfl (q := 27) rfl ?_
  refine Go.isub X104 hx (hb hby d35_27) (r := (1 : Int32)) rfl (q := 28) rfl ?_
  refine Go.dup_x1 X104 hx (hb hby d35_28) rfl rfl (q := 29) rfl ?_
  refine Go.putF X104 hx hZ hown (host := "") (Or.inl (wd93 hw)) Via.refl e104 F1 El (Or.inl (wd94 hw)) (wd46 hw) (ty := .int) (by decide) rfl rfl (hb hby d35_29) (q := 32) rfl ?_
  intro T105 h105 X105 e105 W105 F105
  have N105 := Fr.snoc X105 N102 g_li
  replace F0 := F0.other W105 (Or.inr (slot_ne (Or.inl (wd68 hw)) (Or.inl (wd94 hw)) (by decide) (t := (.array (.object xS2))) (t' := .int) (by decide) (by decide)))
  replace F2 := F2.other W105 (Or.inr (slot_ne (Or.inl (wd65 hw)) (Or.inl (wd94 hw)) (by decide) (t := .int) (t' := .int) (by decide) (by decide)))
  replace El := El.wr W105
  replace Ey1 := Ey1.wr W105
  replace V102 := V102.other W105 (Ne.symm n_li_d)
  have OW105 := ext_wr OK102 W105 g_li
  replace KP := KP.wr W105 (Or.inl (List.mem_of_getElem? (i := 0) rfl))
  refine Go.istore X105 hx (hb hby d35_32) (l' := #[.val (.ref li), .val (.ref d), .val (.int 0), .val (.int 1), .val (.int 2), .val (.int 1)]) rfl (q := 34) rfl ?_
  refine Go.iload X105 hx (hb hby d35_34) rfl (q := 36) rfl ?_
  refine Go.iload X105 hx (hb hby d35_36) rfl (q := 38) rfl ?_
  refine Go.icmpNo X105 hx (hb hby d35_38) (by decide) (q := 41) rfl ?_
  refine Go.aloadN X105 hx (hb hby d35_41) rfl rfl (q := 42) rfl ?_
  refine Go.iload X105 hx (hb hby d35_42) rfl (q := 44) rfl ?_
  refine Go.aconst_null X105 hx (hb hby d35_44) (q := 45) rfl ?_
  refine Go.rst X105 hx hZ e105 V102 rfl (Or.inl rfl) rfl ⟨by decide, by decide⟩ (i := 1) rfl (Nat.le_of_ble_eq_true rfl) (hb hby d35_45) ?_
  intro T106 h106 X106 e106 W106 V106
  replace V106 : Arv Z h106 d kd (.object xS2) (10 : Int32) [(.ref y1), .null, .null, .null, .null, .null, .null, .null, .null, .null] .null := V106
  have N106 := Fr.snoc X106 N105 g_d
  replace F0 := F0.other W106 (Or.inl n_li_d)
  replace F2 := F2.other W106 (Or.inl n_li_d)
  replace El := El.wr W106
  replace Ey1 := Ey1.wr W106
  replace F105 := F105.other W106 (Or.inl n_li_d)
  have OW106 := ext_wr OW105 W106 g_d
  replace KP := KP.wr W106 (Or.inl (List.mem_of_getElem? (i := 1) rfl))
  refine Go.iinc X106 hx (hb hby d35_46) rfl (r := (2 : Int32)) rfl (l' := #[.val (.ref li), .val (.ref d), .val (.int 0), .val (.int 1), .val (.int 2), .val (.int 2)]) rfl (q := 49) rfl ?_
  refine Go.goto X106 hx (hb hby d35_49) (q := 34) (by decide) (by decide) ?_
  refine Go.iload X106 hx (hb hby d35_34) rfl (q := 36) rfl ?_
  refine Go.iload X106 hx (hb hby d35_36) rfl (q := 38) rfl ?_
  refine Go.icmpYes X106 hx (hb hby d35_38) (by decide) (q := 52) (by decide) (by decide) ?_
  exact Go.retV X106 hx hret hlk (hb hby d35_52) e106 (by decide) (by decide) ⟨rfl, N106, KP, F0, F105, F2, V106⟩
def Q_crmr (Z : State) (li d y0 y1 : Addr) (mc : Int32) (kd : ClassId) (h0 : Heap) (vR : Option Value) (hR : Heap) (LR : List Loc) : Prop := vR = none ∧ Fr Z.heap.size LR ∧ Keep h0 hR [li, d] ∧ Fld Z hR li xS1 xS7 xS6 (.ref d) ∧ Fld Z hR li xS1 "size" "I" (.int 1) ∧ Fld Z hR li xS5 "modCount" "I" (.int (mc + (1 : Int32))) ∧ Arv Z hR d kd (.object xS2) (10 : Int32) [(.ref y1), .null, .null, .null, .null, .null, .null, .null, .null, .null] .null
theorem crmr (l : Launch) (Z : State) (a0 : Array Value) (hw : ∀ d ∈ tables_1, d.before a0 Z = true) (li d y0 y1 : Addr) (mc : Int32) (kd : ClassId) (h0 : Heap) (O0 : Ext Z.heap h0) (F0 : Fld Z h0 li xS1 xS7 xS6 (.ref d)) (F1 : Fld Z h0 li xS1 "size" "I" (.int 2)) (F2 : Fld Z h0 li xS5 "modCount" "I" (.int mc)) (F3 : Arv Z h0 d kd (.object xS2) (10 : Int32) [(.ref y0), (.ref y1), .null, .null, .null, .null, .null, .null, .null, .null] .null) (El : Exa Z h0 li xS1) (Ey1 : Exa Z h0 y1 xS3) (g_li : Z.heap.size ≤ li) (g_d : Z.heap.size ≤ d) (n_li_d : li ≠ d) (ov : Ovr Z kd xS2) :
    Ctr l Z h0 (⟨xS1, "removeRange", "(II)V"⟩ : MethodName) k34 3 none [] ({ frames := 2, cells := 0, slots := 0, locals := 35 } : Room) #[(.ref li), (.int 0), (.int 1)] (Q_crmr Z li d y0 y1 mc kd h0) := by
  refine enter (plainFor_of_name pn2) ?_
  intro pp ee ss mm below meth cc s₁ hx hby hml hZ hown hnm hret hlk X0 e0 hs0
  replace hown : ss.vm.findClass xS1 = some mm.cls := hown
  refine Go.cast (congrArg s₁.setTop (ef_crmr mm li)) ?_
  have N0 := Fr.nil Z.heap.size
  have KP := Keep.refl h0 [li, d]
  show Go pp ee below _ (s₁.setTop (mkF mm 0 #[.val (.ref li), .val (.int 0), .val (.int 1)] []))
  refine Go.iloadN X0 hx (hb hby d34_0) rfl (q := 1) rfl ?_
  refine Go.iloadN X0 hx (hb hby d34_1) rfl (q := 2) rfl ?_
  refine Go.icmpYes X0 hx (hb hby d34_2) (by decide) (q := 18) (by decide) (by decide) ?_
  refine Go.aloadN X0 hx (hb hby d34_18) rfl rfl (q := 19) rfl ?_
  refine Go.dup X0 hx (hb hby d34_19) rfl (q := 20) rfl ?_
  refine Go.getF X0 hx hZ hown (host := "") (Or.inl (wd91 hw)) (Via.of (wd92 hw)) e0 F2 (hb hby d34_20) (q := 23) rfl ?_
  intro T101 X101 e101
  refine Go.iconst X101 hx (hb hby d34_23) (r := (1 : Int32)) rfl (q := 24) rfl ?_
  refine Go.iadd X101 hx (hb hby d34_24) rfl (q := 25) rfl ?_
  refine Go.putF X101 hx hZ hown (host := "") (Or.inl (wd91 hw)) (Via.of (wd92 hw)) e101 F2 El (Or.inl (wd65 hw)) (wd46 hw) (ty := .int) (by decide) rfl rfl (hb hby d34_25) (q := 28) rfl ?_
  intro T102 h102 X102 e102 W102 F102
  have N102 := Fr.snoc X102 N0 g_li
  replace F0 := F0.other W102 (Or.inr (slot_ne (Or.inl (wd68 hw)) (Or.inl (wd65 hw)) (by decide) (t := (.array (.object xS2))) (t' := .int) (by decide) (by decide)))
  replace F1 := F1.other W102 (Or.inr (slot_ne (Or.inl (wd94 hw)) (Or.inl (wd65 hw)) (by decide) (t := .int) (t' := .int) (by decide) (by decide)))
  replace F3 := F3.other W102 (Ne.symm n_li_d)
  replace El := El.wr W102
  replace Ey1 := Ey1.wr W102
  have OW102 := ext_wr O0 W102 g_li
  replace KP := KP.wr W102 (Or.inl (List.mem_of_getElem? (i := 0) rfl))
  refine Go.aloadN X102 hx (hb hby d34_28) rfl rfl (q := 29) rfl ?_
  refine Go.aloadN X102 hx (hb hby d34_29) rfl rfl (q := 30) rfl ?_
  refine Go.getF X102 hx hZ hown (host := "") (Or.inl (wd67 hw)) Via.refl e102 F0 (hb hby d34_30) (q := 33) rfl ?_
  intro T103 X103 e103
  refine Go.iloadN X103 hx (hb hby d34_33) rfl (q := 34) rfl ?_
  refine Go.iloadN X103 hx (hb hby d34_34) rfl (q := 35) rfl ?_
  refine Go.priv X103 hx hZ hown (wd242 hw) (wd243 hw) (wd245 hw) (wd244 hw) (wd47 hw) (wd246 hw) (by decide) (cshf l Z a0 hw li d y0 y1 ((mc + (1 : Int32))) (kd) h102 OW102 F0 F1 F102 F3 El Ey1 g_li g_d n_li_d ov) e103 El (by rw [hml]; rfl) (hb hby d34_35) (argsL := [(.ref d), (.int 0), (.int 1)]) (rest := []) (lenOf pd16 rfl) rfl rfl (W := 0) (by first | exact Nat.le_refl _ | decide) (by decide) (by decide) (by decide) (by decide) ?_
  intro v104 T104 L104 X104 hQ104
  obtain ⟨h104, e104⟩ : ∃ z, T104.heap = z := ⟨_, rfl⟩
  rw [e104] at hQ104
  obtain ⟨rfl, N104q, K104, P104_0, P104_1, P104_2, P104_3⟩ := hQ104
  have N104 := Fr.app N102 N104q
  replace El := El.keep K104
  replace Ey1 := Ey1.keep K104
  have OK104 := ext_keep OW102 K104 (allS g_li (allS g_d all0))
  replace KP := KP.trans K104 (allS (Or.inl (List.mem_of_getElem? (i := 0) rfl)) (allS (Or.inl (List.mem_of_getElem? (i := 1) rfl)) all0))
  exact Go.retV X104 hx hret hlk (hb hby d34_38) e104 (by decide) (by decide) ⟨rfl, N104, KP, P104_0, P104_1, P104_2, P104_3⟩
def Q_cusm (Z : State) (o li : Addr) (mc mA : Int32) (h0 : Heap) (vR : Option Value) (hR : Heap) (LR : List Loc) : Prop := vR = none ∧ Fr Z.heap.size LR ∧ Keep h0 hR [o]
theorem cusm (l : Launch) (Z : State) (a0 : Array Value) (hw : ∀ d ∈ tables_1, d.before a0 Z = true) (o li : Addr) (mc mA : Int32) (h0 : Heap) (O0 : Ext Z.heap h0) (Eo : Exa Z h0 o xS4) (g_o : Z.heap.size ≤ o) (F0 : Fld Z h0 o xS4 "root" "Ljava/util/ArrayList;" (.ref li)) (F1 : Fld Z h0 o xS4 "parent" "Ljava/util/ArrayList$SubList;" .null) (F2 : Fld Z h0 o xS4 "offset" "I" (.int 0)) (F3 : Fld Z h0 o xS4 "size" "I" (.int 1)) (F4 : Fld Z h0 o xS5 "modCount" "I" (.int mc)) (Fm : Fld Z h0 li xS5 "modCount" "I" (.int mA)) (n_o_li : o ≠ li) :
    Ctr l Z h0 (⟨xS4, "updateSizeAndModCount", "(I)V"⟩ : MethodName) k36 3 none [] ({ frames := 0, cells := 0, slots := 0, locals := 0 } : Room) #[(.ref o), (.int (-1))] (Q_cusm Z o li mc mA h0) := by
  refine enter (plainFor_of_name pn7) ?_
  intro pp ee ss mm below meth cc s₁ hx hby hml hZ hown hnm hret hlk X0 e0 hs0
  replace hown : ss.vm.findClass xS4 = some mm.cls := hown
  refine Go.cast (congrArg s₁.setTop (ef_cusm mm o)) ?_
  have N0 := Fr.nil Z.heap.size
  have KP := Keep.refl h0 [o]
  show Go pp ee below _ (s₁.setTop (mkF mm 0 #[.val (.ref o), .val (.int (-1)), .unset] []))
  refine Go.aloadN X0 hx (hb hby d36_0) rfl rfl (q := 1) rfl ?_
  refine Go.astoreN X0 hx (hb hby d36_1) rfl (l' := #[.val (.ref o), .val (.int (-1)), .val (.ref o)]) rfl (q := 2) rfl ?_
  refine Go.aloadN X0 hx (hb hby d36_2) rfl rfl (q := 3) rfl ?_
  refine Go.dup X0 hx (hb hby d36_3) rfl (q := 4) rfl ?_
  refine Go.getF X0 hx hZ hown (host := "") (Or.inl (wd206 hw)) Via.refl e0 F3 (hb hby d36_4) (q := 7) rfl ?_
  intro T101 X101 e101
  refine Go.iloadN X101 hx (hb hby d36_7) rfl (q := 8) rfl ?_
  refine Go.iadd X101 hx (hb hby d36_8) (r := (0 : Int32)) rfl (q := 9) rfl ?_
  refine Go.putF X101 hx hZ hown (host := "") (Or.inl (wd206 hw)) Via.refl e101 F3 Eo (Or.inl (wd207 hw)) (wd190 hw) (ty := .int) (by decide) rfl rfl (hb hby d36_9) (q := 12) rfl ?_
  intro T102 h102 X102 e102 W102 F102
  have N102 := Fr.snoc X102 N0 g_o
  replace Eo := Eo.wr W102
  replace F0 := F0.other W102 (Or.inr (slot_ne (Or.inr (wd201 hw)) (Or.inl (wd207 hw)) (by decide) (t := (.object xS1)) (t' := .int) (by decide) (by decide)))
  replace F1 := F1.other W102 (Or.inr (slot_ne (Or.inr (wd203 hw)) (Or.inl (wd207 hw)) (by decide) (t := (.object xS4)) (t' := .int) (by decide) (by decide)))
  replace F2 := F2.other W102 (Or.inr (slot_ne (Or.inr (wd205 hw)) (Or.inl (wd207 hw)) (by decide) (t := .int) (t' := .int) (by decide) (by decide)))
  replace F4 := F4.other W102 (Or.inr (slot_ne (Or.inl (wd199 hw)) (Or.inl (wd207 hw)) (by decide) (t := .int) (t' := .int) (by decide) (by decide)))
  replace Fm := Fm.other W102 (Or.inl (Ne.symm n_o_li))
  have OW102 := ext_wr O0 W102 g_o
  replace KP := KP.wr W102 (Or.inl (List.mem_of_getElem? (i := 0) rfl))
  refine Go.aloadN X102 hx (hb hby d36_12) rfl rfl (q := 13) rfl ?_
  refine Go.aloadN X102 hx (hb hby d36_13) rfl rfl (q := 14) rfl ?_
  refine Go.getF X102 hx hZ hown (host := "") (Or.inl (wd200 hw)) Via.refl e102 F0 (hb hby d36_14) (q := 17) rfl ?_
  intro T103 X103 e103
  refine Go.getF X103 hx hZ hown (host := "") (Or.inl (wd208 hw)) (Via.of (wd92 hw)) e103 Fm (hb hby d36_17) (q := 20) rfl ?_
  intro T104 X104 e104
  refine Go.putF X104 hx hZ hown (host := "") (Or.inl (wd209 hw)) (Via.of (wd210 hw)) e104 F4 Eo (Or.inl (wd199 hw)) (wd190 hw) (ty := .int) (by decide) rfl rfl (hb hby d36_20) (q := 23) rfl ?_
  intro T105 h105 X105 e105 W105 F105
  have N105 := Fr.snoc X105 N102 g_o
  replace Eo := Eo.wr W105
  replace F0 := F0.other W105 (Or.inr (slot_ne (Or.inr (wd201 hw)) (Or.inl (wd199 hw)) (by decide) (t := (.object xS1)) (t' := .int) (by decide) (by decide)))
  replace F1 := F1.other W105 (Or.inr (slot_ne (Or.inr (wd203 hw)) (Or.inl (wd199 hw)) (by decide) (t := (.object xS4)) (t' := .int) (by decide) (by decide)))
  replace F2 := F2.other W105 (Or.inr (slot_ne (Or.inr (wd205 hw)) (Or.inl (wd199 hw)) (by decide) (t := .int) (t' := .int) (by decide) (by decide)))
  replace Fm := Fm.other W105 (Or.inl (Ne.symm n_o_li))
  replace F102 := F102.other W105 (Or.inr (slot_ne (Or.inl (wd207 hw)) (Or.inl (wd199 hw)) (by decide) (t := .int) (t' := .int) (by decide) (by decide)))
  have OW105 := ext_wr OW102 W105 g_o
  replace KP := KP.wr W105 (Or.inl (List.mem_of_getElem? (i := 0) rfl))
  refine Go.aloadN X105 hx (hb hby d36_23) rfl rfl (q := 24) rfl ?_
  refine Go.getF X105 hx hZ hown (host := "") (Or.inl (wd202 hw)) Via.refl e105 F1 (hb hby d36_24) (q := 27) rfl ?_
  intro T106 X106 e106
  refine Go.astoreN X106 hx (hb hby d36_27) rfl (l' := #[.val (.ref o), .val (.int (-1)), .val .null]) rfl (q := 28) rfl ?_
  refine Go.aloadN X106 hx (hb hby d36_28) rfl rfl (q := 29) rfl ?_
  refine Go.ifnonnullNo X106 hx (hb hby d36_29) (q := 32) rfl ?_
  exact Go.retV X106 hx hret hlk (hb hby d36_32) e106 (by decide) (by decide) ⟨rfl, N105, KP⟩
def Q_csrr (Z : State) (o li d y0 y1 : Addr) (mc : Int32) (kd : ClassId) (h0 : Heap) (vR : Option Value) (hR : Heap) (LR : List Loc) : Prop := vR = none ∧ Fr Z.heap.size LR ∧ Keep h0 hR [o, li, d] ∧ Fld Z hR li xS1 "size" "I" (.int 1)
theorem csrr (l : Launch) (Z : State) (a0 : Array Value) (hw : ∀ d ∈ tables_1, d.before a0 Z = true) (o li d y0 y1 : Addr) (mc : Int32) (kd : ClassId) (h0 : Heap) (O0 : Ext Z.heap h0) (Eo : Exa Z h0 o xS4) (g_o : Z.heap.size ≤ o) (S0 : Fld Z h0 o xS4 "root" "Ljava/util/ArrayList;" (.ref li)) (S1 : Fld Z h0 o xS4 "parent" "Ljava/util/ArrayList$SubList;" .null) (S2 : Fld Z h0 o xS4 "offset" "I" (.int 0)) (S3 : Fld Z h0 o xS4 "size" "I" (.int 1)) (S4 : Fld Z h0 o xS5 "modCount" "I" (.int mc)) (F0 : Fld Z h0 li xS1 xS7 xS6 (.ref d)) (F1 : Fld Z h0 li xS1 "size" "I" (.int 2)) (F2 : Fld Z h0 li xS5 "modCount" "I" (.int mc)) (F3 : Arv Z h0 d kd (.object xS2) (10 : Int32) [(.ref y0), (.ref y1), .null, .null, .null, .null, .null, .null, .null, .null] .null) (El : Exa Z h0 li xS1) (Ey1 : Exa Z h0 y1 xS3) (g_li : Z.heap.size ≤ li) (g_d : Z.heap.size ≤ d) (n_li_d : li ≠ d) (n_o_li : o ≠ li) (n_o_d : o ≠ d) (ov : Ovr Z kd xS2) :
    Ctr l Z h0 (⟨xS4, "removeRange", "(II)V"⟩ : MethodName) k33 3 none [] ({ frames := 3, cells := 0, slots := 0, locals := 49 } : Room) #[(.ref o), (.int 0), (.int 1)] (Q_csrr Z o li d y0 y1 mc kd h0) := by
  refine enter (plainFor_of_name pn7) ?_
  intro pp ee ss mm below meth cc s₁ hx hby hml hZ hown hnm hret hlk X0 e0 hs0
  replace hown : ss.vm.findClass xS4 = some mm.cls := hown
  refine Go.cast (congrArg s₁.setTop (ef_csrr mm o)) ?_
  have N0 := Fr.nil Z.heap.size
  have KP := Keep.refl h0 [o, li, d]
  show Go pp ee below _ (s₁.setTop (mkF mm 0 #[.val (.ref o), .val (.int 0), .val (.int 1)] []))
  refine Go.aloadN X0 hx (hb hby d33_0) rfl rfl (q := 1) rfl ?_
  refine Go.priv X0 hx hZ hown (wd226 hw) (wd227 hw) (wd229 hw) (wd228 hw) (wd191 hw) (wd230 hw) (by decide) (ccfc l Z a0 hw o li mc h0 O0 S0 F2 S4) e0 Eo (by rw [hml]; rfl) (hb hby d33_1) (argsL := []) (rest := []) (lenOf pd0 rfl) rfl rfl (W := 0) (by first | exact Nat.le_refl _ | decide) (by decide) (by decide) (by decide) (by decide) ?_
  intro v101 T101 L101 X101 hQ101
  obtain ⟨rfl, N101q, e101⟩ := hQ101
  have N101 := Fr.app N0 N101q
  refine Go.aloadN X101 hx (hb hby d33_4) rfl rfl (q := 5) rfl ?_
  refine Go.getF X101 hx hZ hown (host := "") (Or.inl (wd200 hw)) Via.refl e101 S0 (hb hby d33_5) (q := 8) rfl ?_
  intro T102 X102 e102
  refine Go.aloadN X102 hx (hb hby d33_8) rfl rfl (q := 9) rfl ?_
  refine Go.getF X102 hx hZ hown (host := "") (Or.inl (wd204 hw)) Via.refl e102 S2 (hb hby d33_9) (q := 12) rfl ?_
  intro T103 X103 e103
  refine Go.iloadN X103 hx (hb hby d33_12) rfl (q := 13) rfl ?_
  refine Go.iadd X103 hx (hb hby d33_13) (r := (0 : Int32)) rfl (q := 14) rfl ?_
  refine Go.aloadN X103 hx (hb hby d33_14) rfl rfl (q := 15) rfl ?_
  refine Go.getF X103 hx hZ hown (host := "") (Or.inl (wd204 hw)) Via.refl e103 S2 (hb hby d33_15) (q := 18) rfl ?_
  intro T104 X104 e104
  refine Go.iloadN X104 hx (hb hby d33_18) rfl (q := 19) rfl ?_
  refine Go.iadd X104 hx (hb hby d33_19) (r := (1 : Int32)) rfl (q := 20) rfl ?_
  refine Go.virt X104 hx hZ hown (wd237 hw) (wd238 hw) (notFace_of_selects (args := #[]) (mvT hZ (wd240 hw))) (wd240 hw) (wd239 hw) (wd47 hw) (wd241 hw) (by decide) (crmr l Z a0 hw li d y0 y1 mc (kd) h0 O0 F0 F1 F2 F3 El Ey1 g_li g_d n_li_d ov) e104 El (by rw [hml]; rfl) (hb hby d33_20) (argsL := [(.int 0), (.int 1)]) (rest := []) (lenOf pd17 rfl) rfl rfl (W := 0) (by first | exact Nat.le_refl _ | decide) (by decide) (by decide) (by decide) (by decide) ?_
  intro v105 T105 L105 X105 hQ105
  obtain ⟨h105, e105⟩ : ∃ z, T105.heap = z := ⟨_, rfl⟩
  rw [e105] at hQ105
  obtain ⟨rfl, N105q, K105, P105_0, P105_1, P105_2, P105_3⟩ := hQ105
  have N105 := Fr.app N101 N105q
  replace Eo := Eo.keep K105
  replace S0 := S0.keep K105 (ninS n_o_li (ninS n_o_d nin0))
  replace S1 := S1.keep K105 (ninS n_o_li (ninS n_o_d nin0))
  replace S2 := S2.keep K105 (ninS n_o_li (ninS n_o_d nin0))
  replace S3 := S3.keep K105 (ninS n_o_li (ninS n_o_d nin0))
  replace S4 := S4.keep K105 (ninS n_o_li (ninS n_o_d nin0))
  replace El := El.keep K105
  replace Ey1 := Ey1.keep K105
  have OK105 := ext_keep O0 K105 (allS g_li (allS g_d all0))
  replace KP := KP.trans K105 (allS (Or.inl (List.mem_of_getElem? (i := 1) rfl)) (allS (Or.inl (List.mem_of_getElem? (i := 2) rfl)) all0))
  refine Go.aloadN X105 hx (hb hby d33_23) rfl rfl (q := 24) rfl ?_
  refine Go.iloadN X105 hx (hb hby d33_24) rfl (q := 25) rfl ?_
  refine Go.iloadN X105 hx (hb hby d33_25) rfl (q := 26) rfl ?_
  refine Go.isub X105 hx (hb hby d33_26) (r := (-1 : Int32)) rfl (q := 27) rfl ?_
  refine Go.priv X105 hx hZ hown (wd247 hw) (wd248 hw) (wd250 hw) (wd249 hw) (wd191 hw) (wd251 hw) (by decide) (cusm l Z a0 hw o li mc ((mc + (1 : Int32))) h105 OK105 Eo g_o S0 S1 S2 S3 S4 P105_2 n_o_li) e105 Eo (by rw [hml]; rfl) (hb hby d33_27) (argsL := [(.int (-1))]) (rest := []) (lenOf pd5 rfl) rfl rfl (W := 0) (by first | exact Nat.le_refl _ | decide) (by decide) (by decide) (by decide) (by decide) ?_
  intro v106 T106 L106 X106 hQ106
  obtain ⟨h106, e106⟩ : ∃ z, T106.heap = z := ⟨_, rfl⟩
  rw [e106] at hQ106
  obtain ⟨rfl, N106q, K106⟩ := hQ106
  have N106 := Fr.app N105 N106q
  replace Eo := Eo.keep K106
  replace El := El.keep K106
  replace Ey1 := Ey1.keep K106
  replace P105_0 := P105_0.keep K106 (ninS (Ne.symm n_o_li) nin0)
  replace P105_1 := P105_1.keep K106 (ninS (Ne.symm n_o_li) nin0)
  replace P105_2 := P105_2.keep K106 (ninS (Ne.symm n_o_li) nin0)
  replace P105_3 := P105_3.keep K106 (ninS (Ne.symm n_o_d) nin0)
  have OK106 := ext_keep OK105 K106 (allS g_o all0)
  replace KP := KP.trans K106 (allS (Or.inl (List.mem_of_getElem? (i := 0) rfl)) all0)
  exact Go.retV X106 hx hret hlk (hb hby d33_30) e106 (by decide) (by decide) ⟨rfl, N106, KP, P105_1⟩
def Q_cclr (Z : State) (o li d y0 y1 : Addr) (mc : Int32) (kd : ClassId) (h0 : Heap) (vR : Option Value) (hR : Heap) (LR : List Loc) : Prop := vR = none ∧ Fr Z.heap.size LR ∧ Keep h0 hR [o, li, d] ∧ Fld Z hR li xS1 "size" "I" (.int 1)
theorem cclr (l : Launch) (Z : State) (a0 : Array Value) (hw : ∀ d ∈ tables_1, d.before a0 Z = true) (o li d y0 y1 : Addr) (mc : Int32) (kd : ClassId) (h0 : Heap) (O0 : Ext Z.heap h0) (Eo : Exa Z h0 o xS4) (g_o : Z.heap.size ≤ o) (S0 : Fld Z h0 o xS4 "root" "Ljava/util/ArrayList;" (.ref li)) (S1 : Fld Z h0 o xS4 "parent" "Ljava/util/ArrayList$SubList;" .null) (S2 : Fld Z h0 o xS4 "offset" "I" (.int 0)) (S3 : Fld Z h0 o xS4 "size" "I" (.int 1)) (S4 : Fld Z h0 o xS5 "modCount" "I" (.int mc)) (F0 : Fld Z h0 li xS1 xS7 xS6 (.ref d)) (F1 : Fld Z h0 li xS1 "size" "I" (.int 2)) (F2 : Fld Z h0 li xS5 "modCount" "I" (.int mc)) (F3 : Arv Z h0 d kd (.object xS2) (10 : Int32) [(.ref y0), (.ref y1), .null, .null, .null, .null, .null, .null, .null, .null] .null) (El : Exa Z h0 li xS1) (Ey1 : Exa Z h0 y1 xS3) (g_li : Z.heap.size ≤ li) (g_d : Z.heap.size ≤ d) (n_li_d : li ≠ d) (n_o_li : o ≠ li) (n_o_d : o ≠ d) (ov : Ovr Z kd xS2) :
    Ctr l Z h0 (⟨xS5, "clear", "()V"⟩ : MethodName) k30 1 none [] ({ frames := 4, cells := 0, slots := 0, locals := 63 } : Room) #[(.ref o)] (Q_cclr Z o li d y0 y1 mc kd h0) := by
  refine enter (plainFor_of_name pn1) ?_
  intro pp ee ss mm below meth cc s₁ hx hby hml hZ hown hnm hret hlk X0 e0 hs0
  replace hown : ss.vm.findClass xS5 = some mm.cls := hown
  refine Go.cast (congrArg s₁.setTop (ef_cclr mm o)) ?_
  have N0 := Fr.nil Z.heap.size
  have KP := Keep.refl h0 [o, li, d]
  show Go pp ee below _ (s₁.setTop (mkF mm 0 #[.val (.ref o)] []))
  refine Go.aloadN X0 hx (hb hby d30_0) rfl rfl (q := 1) rfl ?_
  refine Go.iconst X0 hx (hb hby d30_1) (r := (0 : Int32)) rfl (q := 2) rfl ?_
  refine Go.aloadN X0 hx (hb hby d30_2) rfl rfl (q := 3) rfl ?_
  refine Go.virtUp X0 hx hZ hown (wd220 hw) (wd221 hw) (wd222 hw) (wd223 hw) (wd224 hw) (wd191 hw) (wd225 hw) (by decide) (cssz l Z a0 hw o li mc ((1 : Int32)) h0 O0 Eo S0 F2 S4 S3) e0 Eo (by rw [hml]; rfl) (hb hby d30_3) (argsL := []) (rest := [(.int 0), (.ref o)]) (lenOf pd8 rfl) rfl rfl (W := 2) (by first | exact Nat.le_refl _ | decide) (by decide) (by decide) (by decide) (by decide) ?_
  intro v101 T101 L101 X101 hQ101
  obtain ⟨rfl, N101q, e101⟩ := hQ101
  have N101 := Fr.app N0 N101q
  refine Go.virt X101 hx hZ hown (wd231 hw) (wd232 hw) (own_nf (args := #[]) (mvT hZ (wd214 hw)) rfl) (wd234 hw) (wd235 hw) (wd191 hw) (wd236 hw) (by decide) (csrr l Z a0 hw o li d y0 y1 mc (kd) h0 O0 Eo g_o S0 S1 S2 S3 S4 F0 F1 F2 F3 El Ey1 g_li g_d n_li_d n_o_li n_o_d ov) e101 Eo (by rw [hml]; rfl) (hb hby d30_6) (argsL := [(.int 0), (.int 1)]) (rest := []) (lenOf pd17 rfl) rfl rfl (W := 0) (by first | exact Nat.le_refl _ | decide) (by decide) (by decide) (by decide) (by decide) ?_
  intro v102 T102 L102 X102 hQ102
  obtain ⟨h102, e102⟩ : ∃ z, T102.heap = z := ⟨_, rfl⟩
  rw [e102] at hQ102
  obtain ⟨rfl, N102q, K102, P102_0⟩ := hQ102
  have N102 := Fr.app N101 N102q
  replace Eo := Eo.keep K102
  replace El := El.keep K102
  replace Ey1 := Ey1.keep K102
  have OK102 := ext_keep O0 K102 (allS g_o (allS g_li (allS g_d all0)))
  replace KP := KP.trans K102 (allS (Or.inl (List.mem_of_getElem? (i := 0) rfl)) (allS (Or.inl (List.mem_of_getElem? (i := 1) rfl)) (allS (Or.inl (List.mem_of_getElem? (i := 2) rfl)) all0)))
  exact Go.retV X102 hx hret hlk (hb hby d30_9) e102 (by decide) (by decide) ⟨rfl, N102, KP, P102_0⟩
def Q_cfg0 (Z : State) (o : Addr) (hz : Int64) (h0 : Heap) (vR : Option Value) (hR : Heap) (LR : List Loc) : Prop := vR = some (.int 0) ∧ Fr Z.heap.size LR ∧ hR = h0
theorem cfg0 (l : Launch) (Z : State) (a0 : Array Value) (hw : ∀ d ∈ tables_1, d.before a0 Z = true) (o : Addr) (hz : Int64) (h0 : Heap) (O0 : Ext Z.heap h0) (F : Fld Z h0 o xS0 "older" xS8 .null) :
    Ctr l Z h0 (⟨xS0, "forget", "(J)Z"⟩ : MethodName) k19 4 (some .boolean) [] ({ frames := 0, cells := 0, slots := 0, locals := 0 } : Room) #[(.ref o), (.long hz)] (Q_cfg0 Z o hz h0) := by
  refine enter (plainFor_of_name pn6) ?_
  intro pp ee ss mm below meth cc s₁ hx hby hml hZ hown hnm hret hlk X0 e0 hs0
  replace hown : ss.vm.findClass xS0 = some mm.cls := hown
  refine Go.cast (congrArg s₁.setTop (ef_cfg0 mm o hz)) ?_
  have N0 := Fr.nil Z.heap.size
  show Go pp ee below _ (s₁.setTop (mkF mm 0 #[.val (.ref o), .val (.long hz), .second, .unset] []))
  refine Go.aloadN X0 hx (hb hby d19_0) rfl rfl (q := 1) rfl ?_
  refine Go.getF X0 hx hZ hown (host := "") (Or.inl (wd25 hw)) Via.refl e0 F (hb hby d19_1) (q := 4) rfl ?_
  intro T101 X101 e101
  refine Go.ifnonnullNo X101 hx (hb hby d19_4) (q := 7) rfl ?_
  refine Go.iconst X101 hx (hb hby d19_7) (r := (0 : Int32)) rfl (q := 8) rfl ?_
  exact Go.retI X101 hx hret hlk (by simp) rfl (hb hby d19_8) e101 (by decide) (by decide) ⟨rfl, N0, rfl⟩
def Q_cfgl (Z : State) (o : Addr) (hz : Int64) (li : Addr) (n : Int64) (nv : Addr) (nr : Int64) (h0 : Heap) (vR : Option Value) (hR : Heap) (LR : List Loc) : Prop := vR = some (.int 0) ∧ Fr Z.heap.size LR ∧ Keep h0 hR [o] ∧ Fld Z hR o xS0 "keepsOlder" "Z" (.int 1) ∧ Fld Z hR o xS0 "older" xS8 .null ∧ Fld Z hR o xS0 xS11 "J" (.long n) ∧ Fld Z hR o xS0 "newestValue" xS9 (.ref nv) ∧ Fld Z hR o xS0 xS12 "J" (.long nr)
theorem cfgl (l : Launch) (Z : State) (a0 : Array Value) (hw : ∀ d ∈ tables_1, d.before a0 Z = true) (o : Addr) (hz : Int64) (li : Addr) (n : Int64) (nv : Addr) (nr : Int64) (h0 : Heap) (O0 : Ext Z.heap h0) (Eo : Exa Z h0 o xS0) (g_o : Z.heap.size ≤ o) (F0 : Fld Z h0 o xS0 "keepsOlder" "Z" (.int 1)) (F1 : Fld Z h0 o xS0 "older" xS8 (.ref li)) (F2 : Fld Z h0 o xS0 xS11 "J" (.long n)) (F3 : Fld Z h0 o xS0 "newestValue" xS9 (.ref nv)) (F4 : Fld Z h0 o xS0 xS12 "J" (.long nr)) (h : ¬ (hz < n)) :
    Ctr l Z h0 (⟨xS0, "forget", "(J)Z"⟩ : MethodName) k19 4 (some .boolean) [] ({ frames := 0, cells := 0, slots := 0, locals := 0 } : Room) #[(.ref o), (.long hz)] (Q_cfgl Z o hz li n nv nr h0) := by
  refine enter (plainFor_of_name pn6) ?_
  intro pp ee ss mm below meth cc s₁ hx hby hml hZ hown hnm hret hlk X0 e0 hs0
  replace hown : ss.vm.findClass xS0 = some mm.cls := hown
  refine Go.cast (congrArg s₁.setTop (ef_cfgl mm o hz)) ?_
  have N0 := Fr.nil Z.heap.size
  have KP := Keep.refl h0 [o]
  show Go pp ee below _ (s₁.setTop (mkF mm 0 #[.val (.ref o), .val (.long hz), .second, .unset] []))
  refine Go.aloadN X0 hx (hb hby d19_0) rfl rfl (q := 1) rfl ?_
  refine Go.getF X0 hx hZ hown (host := "") (Or.inl (wd25 hw)) Via.refl e0 F1 (hb hby d19_1) (q := 4) rfl ?_
  intro T101 X101 e101
  refine Go.ifnonnullYes X101 hx (hb hby d19_4) (q := 9) (by decide) (by decide) ?_
  refine Go.aloadN X101 hx (hb hby d19_9) rfl rfl (q := 10) rfl ?_
  refine Go.getF X101 hx hZ hown (host := "") (Or.inl (wd32 hw)) Via.refl e101 F2 (hb hby d19_10) (q := 13) rfl ?_
  intro T102 X102 e102
  refine Go.lloadN X102 hx (hb hby d19_13) rfl (q := 14) rfl ?_
  refine Go.lcmp X102 hx (hb hby d19_14) rfl (q := 15) rfl ?_
  refine Go.ifNo X102 hx (hb hby d19_15) (Jvm.Free.XT.ll_gt_f h) (q := 18) rfl ?_
  refine Go.aloadN X102 hx (hb hby d19_18) rfl rfl (q := 19) rfl ?_
  refine Go.aconst_null X102 hx (hb hby d19_19) (q := 20) rfl ?_
  refine Go.putF X102 hx hZ hown (host := "") (Or.inl (wd25 hw)) Via.refl e102 F1 Eo (Or.inl (wd26 hw)) (wd1 hw) (ty := (.object xS10)) (by decide) rfl rfl (hb hby d19_20) (q := 23) rfl ?_
  intro T103 h103 X103 e103 W103 F103
  have N103 := Fr.snoc X103 N0 g_o
  replace Eo := Eo.wr W103
  replace F0 := F0.other W103 (Or.inr (slot_ne (Or.inr (wd19 hw)) (Or.inl (wd26 hw)) (by decide) (t := .boolean) (t' := (.object xS10)) (by decide) (by decide)))
  replace F2 := F2.other W103 (Or.inr (slot_ne (Or.inl (wd33 hw)) (Or.inl (wd26 hw)) (by decide) (t := .long) (t' := (.object xS10)) (by decide) (by decide)))
  replace F3 := F3.other W103 (Or.inr (slot_ne (Or.inl (wd17 hw)) (Or.inl (wd26 hw)) (by decide) (t := (.object xS2)) (t' := (.object xS10)) (by decide) (by decide)))
  replace F4 := F4.other W103 (Or.inr (slot_ne (Or.inl (wd35 hw)) (Or.inl (wd26 hw)) (by decide) (t := .long) (t' := (.object xS10)) (by decide) (by decide)))
  have OW103 := ext_wr O0 W103 g_o
  replace KP := KP.wr W103 (Or.inl (List.mem_of_getElem? (i := 0) rfl))
  refine Go.iconst X103 hx (hb hby d19_23) (r := (0 : Int32)) rfl (q := 24) rfl ?_
  exact Go.retI X103 hx hret hlk (by simp) rfl (hb hby d19_24) e103 (by decide) (by decide) ⟨rfl, N103, KP, F0, F103, F2, F3, F4⟩
def Q_cfg1 (Z : State) (o : Addr) (hz n : Int64) (li d x0 : Addr) (w0 : Int64) (mc : Int32) (kd : ClassId) (h0 : Heap) (vR : Option Value) (hR : Heap) (LR : List Loc) : Prop := vR = some (.int 1) ∧ Fr Z.heap.size LR ∧ hR = h0
theorem cfg1 (l : Launch) (Z : State) (a0 : Array Value) (hw : ∀ d ∈ tables_1, d.before a0 Z = true) (o : Addr) (hz n : Int64) (li d x0 : Addr) (w0 : Int64) (mc : Int32) (kd : ClassId) (h0 : Heap) (O0 : Ext Z.heap h0) (Eo : Exa Z h0 o xS0) (FO : Fld Z h0 o xS0 "older" xS8 (.ref li)) (FN : Fld Z h0 o xS0 xS11 "J" (.long n)) (El : Exa Z h0 li xS1) (Fed : Fld Z h0 li xS1 xS7 xS6 (.ref d)) (Fsz : Fld Z h0 li xS1 "size" "I" (.int 1)) (Fmc : Fld Z h0 li xS5 "modCount" "I" (.int mc)) (Vd : Arv Z h0 d kd (.object xS2) (10 : Int32) [(.ref x0), .null, .null, .null, .null, .null, .null, .null, .null, .null] .null) (Ex0 : Exa Z h0 x0 xS3) (Fw0 : Fld Z h0 x0 xS3 "writeTimestamp" "J" (.long w0)) (h : hz < n) :
    Ctr l Z h0 (⟨xS0, "forget", "(J)Z"⟩ : MethodName) k19 4 (some .boolean) [] ({ frames := 4, cells := 0, slots := 0, locals := 57 } : Room) #[(.ref o), (.long hz)] (Q_cfg1 Z o hz n li d x0 w0 mc kd h0) := by
  refine enter (plainFor_of_name pn6) ?_
  intro pp ee ss mm below meth cc s₁ hx hby hml hZ hown hnm hret hlk X0 e0 hs0
  replace hown : ss.vm.findClass xS0 = some mm.cls := hown
  refine Go.cast (congrArg s₁.setTop (ef_cfg1 mm o hz)) ?_
  have N0 := Fr.nil Z.heap.size
  show Go pp ee below _ (s₁.setTop (mkF mm 0 #[.val (.ref o), .val (.long hz), .second, .unset] []))
  refine Go.aloadN X0 hx (hb hby d19_0) rfl rfl (q := 1) rfl ?_
  refine Go.getF X0 hx hZ hown (host := "") (Or.inl (wd25 hw)) Via.refl e0 FO (hb hby d19_1) (q := 4) rfl ?_
  intro T101 X101 e101
  refine Go.ifnonnullYes X101 hx (hb hby d19_4) (q := 9) (by decide) (by decide) ?_
  refine Go.aloadN X101 hx (hb hby d19_9) rfl rfl (q := 10) rfl ?_
  refine Go.getF X101 hx hZ hown (host := "") (Or.inl (wd32 hw)) Via.refl e101 FN (hb hby d19_10) (q := 13) rfl ?_
  intro T102 X102 e102
  refine Go.lloadN X102 hx (hb hby d19_13) rfl (q := 14) rfl ?_
  refine Go.lcmp X102 hx (hb hby d19_14) rfl (q := 15) rfl ?_
  refine Go.ifYes X102 hx (hb hby d19_15) (Jvm.Free.XT.ll_gt_t h) (q := 25) (by decide) (by decide) ?_
  by_cases hc103 : hz < w0
  · show Go pp ee below _ (T102.setTop (mkF mm 25 #[.val (.ref o), .val (.long hz), .second, .unset] []))
    refine Go.aloadN X102 hx (hb hby d19_25) rfl rfl (q := 26) rfl ?_
    refine Go.lloadN X102 hx (hb hby d19_26) rfl (q := 27) rfl ?_
    refine Go.priv X102 hx hZ hown (wd133 hw) (wd134 hw) (own_selp (x' := (⟨xS0, "holdsOlder", "()Z"⟩ : MethodName)) (y' := (⟨xS0, "holdsOlder", "()Z"⟩ : MethodName)) (y := (⟨xS0, "olderNotAbove", "(J)I"⟩ : MethodName)) (wd23 hw) rfl (wd134 hw) (wd135 hw) (by decide)) (wd135 hw) (wd2 hw) (wd136 hw) (by decide) (cona_1_0 l Z a0 hw o hz li d x0 w0 mc (kd) h0 O0 FO El Fed Fsz Fmc Vd Ex0 Fw0 hc103) e102 Eo (by rw [hml]; rfl) (hb hby d19_27) (argsL := [(.long hz)]) (rest := []) (lenOf pd12 rfl) rfl rfl (W := 0) (by first | exact Nat.le_refl _ | decide) (by decide) (by decide) (by decide) (by decide) ?_
    intro v104 T104 L104 X104 hQ104
    obtain ⟨rfl, N104q, e104⟩ := hQ104
    have N104 := Fr.app N0 N104q
    refine Go.istoreN X104 hx (hb hby d19_30) (l' := #[.val (.ref o), .val (.long hz), .second, .val (.int (-1))]) rfl (q := 31) rfl ?_
    refine Go.iloadN X104 hx (hb hby d19_31) rfl (q := 32) rfl ?_
    refine Go.ifYes X104 hx (hb hby d19_32) (by decide) (q := 51) (by decide) (by decide) ?_
    refine Go.iconst X104 hx (hb hby d19_51) (r := (1 : Int32)) rfl (q := 52) rfl ?_
    exact Go.retI X104 hx hret hlk (by simp) rfl (hb hby d19_52) e104 (by decide) (by decide) ⟨rfl, N104, rfl⟩
  · show Go pp ee below _ (T102.setTop (mkF mm 25 #[.val (.ref o), .val (.long hz), .second, .unset] []))
    refine Go.aloadN X102 hx (hb hby d19_25) rfl rfl (q := 26) rfl ?_
    refine Go.lloadN X102 hx (hb hby d19_26) rfl (q := 27) rfl ?_
    refine Go.priv X102 hx hZ hown (wd133 hw) (wd134 hw) (own_selp (x' := (⟨xS0, "holdsOlder", "()Z"⟩ : MethodName)) (y' := (⟨xS0, "holdsOlder", "()Z"⟩ : MethodName)) (y := (⟨xS0, "olderNotAbove", "(J)I"⟩ : MethodName)) (wd23 hw) rfl (wd134 hw) (wd135 hw) (by decide)) (wd135 hw) (wd2 hw) (wd136 hw) (by decide) (cona_1_1 l Z a0 hw o hz li d x0 w0 mc (kd) h0 O0 FO El Fed Fsz Fmc Vd Ex0 Fw0 hc103) e102 Eo (by rw [hml]; rfl) (hb hby d19_27) (argsL := [(.long hz)]) (rest := []) (lenOf pd12 rfl) rfl rfl (W := 0) (by first | exact Nat.le_refl _ | decide) (by decide) (by decide) (by decide) (by decide) ?_
    intro v105 T105 L105 X105 hQ105
    obtain ⟨rfl, N105q, e105⟩ := hQ105
    have N105 := Fr.app N0 N105q
    refine Go.istoreN X105 hx (hb hby d19_30) (l' := #[.val (.ref o), .val (.long hz), .second, .val (.int 0)]) rfl (q := 31) rfl ?_
    refine Go.iloadN X105 hx (hb hby d19_31) rfl (q := 32) rfl ?_
    refine Go.ifYes X105 hx (hb hby d19_32) (by decide) (q := 51) (by decide) (by decide) ?_
    refine Go.iconst X105 hx (hb hby d19_51) (r := (1 : Int32)) rfl (q := 52) rfl ?_
    exact Go.retI X105 hx hret hlk (by simp) rfl (hb hby d19_52) e105 (by decide) (by decide) ⟨rfl, N105, rfl⟩
def Q_cfg2 (Z : State) (o : Addr) (hz n : Int64) (li d x0 x1 : Addr) (w0 w1 : Int64) (mc : Int32) (kd : ClassId) (h0 : Heap) (vR : Option Value) (hR : Heap) (LR : List Loc) : Prop := ∃ s : Int32, vR = some (.int 1) ∧ Fr Z.heap.size LR ∧ Keep h0 hR [li, d] ∧ Fld Z hR li xS1 "size" "I" (.int s) ∧ (s = (1 : Int32) ∨ s = (2 : Int32))
theorem cfg2 (l : Launch) (Z : State) (a0 : Array Value) (hw : ∀ d ∈ tables_1, d.before a0 Z = true) (o : Addr) (hz n : Int64) (li d x0 x1 : Addr) (w0 w1 : Int64) (mc : Int32) (kd : ClassId) (h0 : Heap) (O0 : Ext Z.heap h0) (Eo : Exa Z h0 o xS0) (FO : Fld Z h0 o xS0 "older" xS8 (.ref li)) (FN : Fld Z h0 o xS0 xS11 "J" (.long n)) (El : Exa Z h0 li xS1) (Fed : Fld Z h0 li xS1 xS7 xS6 (.ref d)) (Fsz : Fld Z h0 li xS1 "size" "I" (.int 2)) (Fmc : Fld Z h0 li xS5 "modCount" "I" (.int mc)) (Vd : Arv Z h0 d kd (.object xS2) (10 : Int32) [(.ref x0), (.ref x1), .null, .null, .null, .null, .null, .null, .null, .null] .null) (Ex0 : Exa Z h0 x0 xS3) (Fw0 : Fld Z h0 x0 xS3 "writeTimestamp" "J" (.long w0)) (Ex1 : Exa Z h0 x1 xS3) (Fw1 : Fld Z h0 x1 xS3 "writeTimestamp" "J" (.long w1)) (g_li : Z.heap.size ≤ li) (g_d : Z.heap.size ≤ d) (n_o_li : o ≠ li) (n_o_d : o ≠ d) (n_li_d : li ≠ d) (ov : Ovr Z kd xS2) (h : hz < n) :
    Ctr l Z h0 (⟨xS0, "forget", "(J)Z"⟩ : MethodName) k19 4 (some .boolean) [] ({ frames := 5, cells := 1, slots := 5, locals := 75 } : Room) #[(.ref o), (.long hz)] (Q_cfg2 Z o hz n li d x0 x1 w0 w1 mc kd h0) := by
  refine enter (plainFor_of_name pn6) ?_
  intro pp ee ss mm below meth cc s₁ hx hby hml hZ hown hnm hret hlk X0 e0 hs0
  replace hown : ss.vm.findClass xS0 = some mm.cls := hown
  refine Go.cast (congrArg s₁.setTop (ef_cfg2 mm o hz)) ?_
  have N0 := Fr.nil Z.heap.size
  have KP := Keep.refl h0 [li, d]
  show Go pp ee below _ (s₁.setTop (mkF mm 0 #[.val (.ref o), .val (.long hz), .second, .unset] []))
  refine Go.aloadN X0 hx (hb hby d19_0) rfl rfl (q := 1) rfl ?_
  refine Go.getF X0 hx hZ hown (host := "") (Or.inl (wd25 hw)) Via.refl e0 FO (hb hby d19_1) (q := 4) rfl ?_
  intro T101 X101 e101
  refine Go.ifnonnullYes X101 hx (hb hby d19_4) (q := 9) (by decide) (by decide) ?_
  refine Go.aloadN X101 hx (hb hby d19_9) rfl rfl (q := 10) rfl ?_
  refine Go.getF X101 hx hZ hown (host := "") (Or.inl (wd32 hw)) Via.refl e101 FN (hb hby d19_10) (q := 13) rfl ?_
  intro T102 X102 e102
  refine Go.lloadN X102 hx (hb hby d19_13) rfl (q := 14) rfl ?_
  refine Go.lcmp X102 hx (hb hby d19_14) rfl (q := 15) rfl ?_
  refine Go.ifYes X102 hx (hb hby d19_15) (Jvm.Free.XT.ll_gt_t h) (q := 25) (by decide) (by decide) ?_
  by_cases hc103 : hz < w0
  · show Go pp ee below _ (T102.setTop (mkF mm 25 #[.val (.ref o), .val (.long hz), .second, .unset] []))
    refine Go.aloadN X102 hx (hb hby d19_25) rfl rfl (q := 26) rfl ?_
    refine Go.lloadN X102 hx (hb hby d19_26) rfl (q := 27) rfl ?_
    refine Go.priv X102 hx hZ hown (wd133 hw) (wd134 hw) (own_selp (x' := (⟨xS0, "holdsOlder", "()Z"⟩ : MethodName)) (y' := (⟨xS0, "holdsOlder", "()Z"⟩ : MethodName)) (y := (⟨xS0, "olderNotAbove", "(J)I"⟩ : MethodName)) (wd23 hw) rfl (wd134 hw) (wd135 hw) (by decide)) (wd135 hw) (wd2 hw) (wd136 hw) (by decide) (cona_2_0 l Z a0 hw o hz li d x0 x1 w0 w1 mc (kd) h0 O0 FO El Fed Fsz Fmc Vd Ex0 Fw0 Ex1 Fw1 hc103) e102 Eo (by rw [hml]; rfl) (hb hby d19_27) (argsL := [(.long hz)]) (rest := []) (lenOf pd12 rfl) rfl rfl (W := 0) (by first | exact Nat.le_refl _ | decide) (by decide) (by decide) (by decide) (by decide) ?_
    intro v104 T104 L104 X104 hQ104
    obtain ⟨rfl, N104q, e104⟩ := hQ104
    have N104 := Fr.app N0 N104q
    refine Go.istoreN X104 hx (hb hby d19_30) (l' := #[.val (.ref o), .val (.long hz), .second, .val (.int (-1))]) rfl (q := 31) rfl ?_
    refine Go.iloadN X104 hx (hb hby d19_31) rfl (q := 32) rfl ?_
    refine Go.ifYes X104 hx (hb hby d19_32) (by decide) (q := 51) (by decide) (by decide) ?_
    refine Go.iconst X104 hx (hb hby d19_51) (r := (1 : Int32)) rfl (q := 52) rfl ?_
    exact Go.retI X104 hx hret hlk (by simp) rfl (hb hby d19_52) e104 (by decide) (by decide) ⟨(2 : Int32), rfl, N104, KP, Fsz, (by first | assumption | decide)⟩
  · by_cases hc105 : hz < w1
    · show Go pp ee below _ (T102.setTop (mkF mm 25 #[.val (.ref o), .val (.long hz), .second, .unset] []))
      refine Go.aloadN X102 hx (hb hby d19_25) rfl rfl (q := 26) rfl ?_
      refine Go.lloadN X102 hx (hb hby d19_26) rfl (q := 27) rfl ?_
      refine Go.priv X102 hx hZ hown (wd133 hw) (wd134 hw) (own_selp (x' := (⟨xS0, "holdsOlder", "()Z"⟩ : MethodName)) (y' := (⟨xS0, "holdsOlder", "()Z"⟩ : MethodName)) (y := (⟨xS0, "olderNotAbove", "(J)I"⟩ : MethodName)) (wd23 hw) rfl (wd134 hw) (wd135 hw) (by decide)) (wd135 hw) (wd2 hw) (wd136 hw) (by decide) (cona_2_1 l Z a0 hw o hz li d x0 x1 w0 w1 mc (kd) h0 O0 FO El Fed Fsz Fmc Vd Ex0 Fw0 Ex1 Fw1 hc103 hc105) e102 Eo (by rw [hml]; rfl) (hb hby d19_27) (argsL := [(.long hz)]) (rest := []) (lenOf pd12 rfl) rfl rfl (W := 0) (by first | exact Nat.le_refl _ | decide) (by decide) (by decide) (by decide) (by decide) ?_
      intro v106 T106 L106 X106 hQ106
      obtain ⟨rfl, N106q, e106⟩ := hQ106
      have N106 := Fr.app N0 N106q
      refine Go.istoreN X106 hx (hb hby d19_30) (l' := #[.val (.ref o), .val (.long hz), .second, .val (.int 0)]) rfl (q := 31) rfl ?_
      refine Go.iloadN X106 hx (hb hby d19_31) rfl (q := 32) rfl ?_
      refine Go.ifYes X106 hx (hb hby d19_32) (by decide) (q := 51) (by decide) (by decide) ?_
      refine Go.iconst X106 hx (hb hby d19_51) (r := (1 : Int32)) rfl (q := 52) rfl ?_
      exact Go.retI X106 hx hret hlk (by simp) rfl (hb hby d19_52) e106 (by decide) (by decide) ⟨(2 : Int32), rfl, N106, KP, Fsz, (by first | assumption | decide)⟩
    · show Go pp ee below _ (T102.setTop (mkF mm 25 #[.val (.ref o), .val (.long hz), .second, .unset] []))
      refine Go.aloadN X102 hx (hb hby d19_25) rfl rfl (q := 26) rfl ?_
      refine Go.lloadN X102 hx (hb hby d19_26) rfl (q := 27) rfl ?_
      refine Go.priv X102 hx hZ hown (wd133 hw) (wd134 hw) (own_selp (x' := (⟨xS0, "holdsOlder", "()Z"⟩ : MethodName)) (y' := (⟨xS0, "holdsOlder", "()Z"⟩ : MethodName)) (y := (⟨xS0, "olderNotAbove", "(J)I"⟩ : MethodName)) (wd23 hw) rfl (wd134 hw) (wd135 hw) (by decide)) (wd135 hw) (wd2 hw) (wd136 hw) (by decide) (cona_2_2 l Z a0 hw o hz li d x0 x1 w0 w1 mc (kd) h0 O0 FO El Fed Fsz Fmc Vd Ex0 Fw0 Ex1 Fw1 hc103 hc105) e102 Eo (by rw [hml]; rfl) (hb hby d19_27) (argsL := [(.long hz)]) (rest := []) (lenOf pd12 rfl) rfl rfl (W := 0) (by first | exact Nat.le_refl _ | decide) (by decide) (by decide) (by decide) (by decide) ?_
      intro v107 T107 L107 X107 hQ107
      obtain ⟨rfl, N107q, e107⟩ := hQ107
      have N107 := Fr.app N0 N107q
      refine Go.istoreN X107 hx (hb hby d19_30) (l' := #[.val (.ref o), .val (.long hz), .second, .val (.int 1)]) rfl (q := 31) rfl ?_
      refine Go.iloadN X107 hx (hb hby d19_31) rfl (q := 32) rfl ?_
      refine Go.ifNo X107 hx (hb hby d19_32) (by decide) (q := 35) rfl ?_
      refine Go.aloadN X107 hx (hb hby d19_35) rfl rfl (q := 36) rfl ?_
      refine Go.getF X107 hx hZ hown (host := "") (Or.inl (wd25 hw)) Via.refl e107 FO (hb hby d19_36) (q := 39) rfl ?_
      intro T108 X108 e108
      refine Go.iconst X108 hx (hb hby d19_39) (r := (0 : Int32)) rfl (q := 40) rfl ?_
      refine Go.iloadN X108 hx (hb hby d19_40) rfl (q := 41) rfl ?_
      refine Go.face X108 hx hZ hown (wd177 hw) (wd178 hw) (wd179 hw) (wd180 hw) (wd181 hw) (wd182 hw) (wd183 hw) (wd89 hw) (wd47 hw) (wd184 hw) (by decide) (csub l Z a0 hw li mc h0 O0 El Fsz Fmc) e108 El (by rw [hml]; rfl) (hb hby d19_41) (argsL := [(.int 0), (.int 1)]) (rest := []) (lenOf pd18 rfl) rfl rfl (W := 0) (by first | exact Nat.le_refl _ | decide) (by decide) (by decide) (by decide) (by decide) ?_
      intro v109 T109 L109 X109 hQ109
      obtain ⟨h109, e109⟩ : ∃ z, T109.heap = z := ⟨_, rfl⟩
      rw [e109] at hQ109
      obtain ⟨sb_109, rfl, N109q, K109, fr109_sb, P109_0, P109_1, P109_2, P109_3, P109_4, P109_5⟩ := hQ109
      have N109 := Fr.app N107 N109q
      have ne_o_sb_109 : o ≠ sb_109 := ne_new Eo.lt fr109_sb
      have ne_li_sb_109 : li ≠ sb_109 := ne_new El.lt fr109_sb
      have ne_d_sb_109 : d ≠ sb_109 := ne_new Vd.lt fr109_sb
      have ne_x0_sb_109 : x0 ≠ sb_109 := ne_new Ex0.lt fr109_sb
      have ne_x1_sb_109 : x1 ≠ sb_109 := ne_new Ex1.lt fr109_sb
      have g_sb_109 : Z.heap.size ≤ sb_109 := Nat.le_trans O0.1 fr109_sb
      have z_sb_109 : h0.size ≤ sb_109 := Nat.le_trans KP.1 fr109_sb
      replace Eo := Eo.keep K109
      replace FO := FO.keep K109 nin0
      replace FN := FN.keep K109 nin0
      replace El := El.keep K109
      replace Fed := Fed.keep K109 nin0
      replace Fsz := Fsz.keep K109 nin0
      replace Fmc := Fmc.keep K109 nin0
      replace Vd := Vd.keep K109 nin0
      replace Ex0 := Ex0.keep K109
      replace Fw0 := Fw0.keep K109 nin0
      replace Ex1 := Ex1.keep K109
      replace Fw1 := Fw1.keep K109 nin0
      have OK109 := ext_keep O0 K109 all0
      replace KP := KP.trans K109 all0
      refine Go.face X109 hx hZ hown (wd211 hw) (wd212 hw) (wd213 hw) (wd214 hw) (wd215 hw) (wd216 hw) (wd217 hw) (wd218 hw) (wd55 hw) (wd219 hw) (by decide) (cclr l Z a0 hw sb_109 li d x0 x1 mc (kd) h109 OK109 P109_0 g_sb_109 P109_1 P109_2 P109_3 P109_4 P109_5 Fed Fsz Fmc Vd El Ex1 g_li g_d n_li_d (Ne.symm ne_li_sb_109) (Ne.symm ne_d_sb_109) ov) e109 P109_0 (by rw [hml]; rfl) (hb hby d19_46) (argsL := []) (rest := []) (lenOf pd0 rfl) rfl rfl (W := 0) (by first | exact Nat.le_refl _ | decide) (by decide) (by decide) (by decide) (by decide) ?_
      intro v110 T110 L110 X110 hQ110
      obtain ⟨h110, e110⟩ : ∃ z, T110.heap = z := ⟨_, rfl⟩
      rw [e110] at hQ110
      obtain ⟨rfl, N110q, K110, P110_0⟩ := hQ110
      have N110 := Fr.app N109 N110q
      replace Eo := Eo.keep K110
      replace FO := FO.keep K110 (ninS ne_o_sb_109 (ninS n_o_li (ninS n_o_d nin0)))
      replace FN := FN.keep K110 (ninS ne_o_sb_109 (ninS n_o_li (ninS n_o_d nin0)))
      replace El := El.keep K110
      replace Ex0 := Ex0.keep K110
      replace Ex1 := Ex1.keep K110
      replace P109_0 := P109_0.keep K110
      have OK110 := ext_keep OK109 K110 (allS g_sb_109 (allS g_li (allS g_d all0)))
      replace KP := KP.trans K110 (allS (Or.inr z_sb_109) (allS (Or.inl (List.mem_of_getElem? (i := 0) rfl)) (allS (Or.inl (List.mem_of_getElem? (i := 1) rfl)) all0)))
      refine Go.iconst X110 hx (hb hby d19_51) (r := (1 : Int32)) rfl (q := 52) rfl ?_
      exact Go.retI X110 hx hret hlk (by simp) rfl (hb hby d19_52) e110 (by decide) (by decide) ⟨(1 : Int32), rfl, N110, KP, P110_0, (by first | assumption | decide)⟩
def Q_cmaxJ (Z : State) (ja jb : Int64) (h0 : Heap) (vR : Option Value) (hR : Heap) (LR : List Loc) : Prop := vR = some (.long (own_max ja jb)) ∧ Fr Z.heap.size LR ∧ hR = h0
theorem cmaxJ (l : Launch) (Z : State) (a0 : Array Value) (hw : ∀ d ∈ tables_1, d.before a0 Z = true) (ja jb : Int64) (h0 : Heap) (O0 : Ext Z.heap h0) :
    Ctr l Z h0 (⟨"java/lang/Math", "max", "(JJ)J"⟩ : MethodName) k18 4 (some .long) [] ({ frames := 0, cells := 0, slots := 0, locals := 0 } : Room) #[(.long ja), (.long jb)] (Q_cmaxJ Z ja jb h0) := by
  refine enter (Jvm.Free.JP.mathPlain rfl (by decide +kernel)) ?_
  intro pp ee ss mm below meth cc s₁ hx hby hml hZ hown hnm hret hlk X0 e0 hs0
  replace hown : ss.vm.findClass "java/lang/Math" = some mm.cls := hown
  refine Go.cast (congrArg s₁.setTop (ef_cmaxJ mm ja jb)) ?_
  have N0 := Fr.nil Z.heap.size
  show Go pp ee below _ (s₁.setTop (mkF mm 0 #[.val (.long ja), .second, .val (.long jb), .second] []))
  refine Go.lloadN X0 hx (hb hby d18_0) rfl (q := 1) rfl ?_
  refine Go.lloadN X0 hx (hb hby d18_1) rfl (q := 2) rfl ?_
  refine Go.lcmp X0 hx (hb hby d18_2) rfl (q := 3) rfl ?_
  by_cases hc101 : ja < jb
  · refine Go.ifYes X0 hx (hb hby d18_3) (Jvm.Free.XT.ll_lt_t hc101) (q := 10) (by decide) (by decide) ?_
    refine Go.lloadN X0 hx (hb hby d18_10) rfl (q := 11) rfl ?_
    exact Go.retJ X0 hx hret hlk (hb hby d18_11) e0 (by decide) (by decide) ⟨by rw [own_max, if_pos hc101], N0, rfl⟩
  · refine Go.ifNo X0 hx (hb hby d18_3) (Jvm.Free.XT.ll_lt_f hc101) (q := 6) rfl ?_
    refine Go.lloadN X0 hx (hb hby d18_6) rfl (q := 7) rfl ?_
    refine Go.goto X0 hx (hb hby d18_7) (q := 11) (by decide) (by decide) ?_
    exact Go.retJ X0 hx hret hlk (hb hby d18_11) e0 (by decide) (by decide) ⟨by rw [own_max, if_neg hc101], N0, rfl⟩
def Q_cvalueOf0 (Z : State) (ca : Addr) (h0 : Heap) (vR : Option Value) (hR : Heap) (LR : List Loc) : Prop := ∃ b : Addr, vR = some (.ref b) ∧ Fr Z.heap.size LR ∧ hR = h0 ∧ Exa Z hR b "java/lang/Integer"
theorem cvalueOf0 (l : Launch) (Z : State) (a0 : Array Value) (hw : ∀ d ∈ tables_1, d.before a0 Z = true) (ca : Addr) (h0 : Heap) (O0 : Ext Z.heap h0) (SH : Sta Z Z.heap "java/lang/Integer$IntegerCache" "high" "I" (.int 127)) (SC : Sta Z Z.heap "java/lang/Integer$IntegerCache" "cache" "[Ljava/lang/Integer;" (.ref ca)) (HC : Cache Z ca) :
    Ctr l Z h0 (⟨"java/lang/Integer", "valueOf", "(I)Ljava/lang/Integer;"⟩ : MethodName) k1 1 (some (.object "java/lang/Integer")) [] ({ frames := 0, cells := 0, slots := 0, locals := 0 } : Room) #[(.int 0)] (Q_cvalueOf0 Z ca h0) := by
  refine enter (plainFor_of_name pn8) ?_
  intro pp ee ss mm below meth cc s₁ hx hby hml hZ hown hnm hret hlk X0 e0 hs0
  replace hown : ss.vm.findClass "java/lang/Integer" = some mm.cls := hown
  refine Go.cast (congrArg s₁.setTop (ef_cvalueOf0 mm)) ?_
  have N0 := Fr.nil Z.heap.size
  show Go pp ee below _ (s₁.setTop (mkF mm 0 #[.val (.int 0)] []))
  refine Go.iloadN X0 hx (hb hby d1_0) rfl (q := 1) rfl ?_
  refine Go.bipush X0 hx (hb hby d1_1) (r := (-128 : Int32)) rfl (q := 3) rfl ?_
  refine Go.icmpNo X0 hx (hb hby d1_3) (by decide) (q := 6) rfl ?_
  refine Go.iloadN X0 hx (hb hby d1_6) rfl (q := 7) rfl ?_
  refine Go.getS X0 hx hZ hown (host := "") (Or.inl (wd7 hw)) Via.refl e0 (SH.ext O0) (hb hby d1_7) (q := 10) rfl ?_
  intro T101 X101 e101
  refine Go.icmpNo X101 hx (hb hby d1_10) (by decide) (q := 13) rfl ?_
  refine Go.getS X101 hx hZ hown (host := "") (Or.inl (wd9 hw)) Via.refl e101 (SC.ext O0) (hb hby d1_13) (q := 16) rfl ?_
  intro T102 X102 e102
  refine Go.iloadN X102 hx (hb hby d1_16) rfl (q := 17) rfl ?_
  refine Go.sipush X102 hx (hb hby d1_17) (r := (128 : Int32)) rfl (q := 20) rfl ?_
  refine Go.iadd X102 hx (hb hby d1_20) (r := (128 : Int32)) rfl (q := 21) rfl ?_
  obtain ⟨cl, Ar, Sz, Hc⟩ := HC
  obtain ⟨bx, Hb, Eb, Fb⟩ := Hc (0 : Int32) (by decide) (by decide)
  refine Go.by (X102.aaload hx (j := (128 : Int32)) (v := .ref bx) (by rw [e102]; exact (Ar.ext O0).1) (State.isArrayOf_alike hZ.alike Ar.2.1) rfl Ar.2.2 (by rw [Sz]; exact (IntBox.place_ok (0 : Int32) (by decide) (by decide)).1) Hb (g := (mkF mm 21 #[.val (.int 0)] [(.int 128), (.ref ca)])) rfl rfl (hb hby d1_21)) ?_
  show Go pp ee below _ (T102.setTop (mkF mm 22 #[.val (.int 0)] [(.ref bx)]))
  exact Go.retA X102 hx hret hlk rfl rfl (hb hby d1_22) e102 (by decide) (by decide) ⟨bx, rfl, N0, rfl, (Eb.ext O0)⟩
def Q_cvalueOf1 (Z : State) (ca : Addr) (h0 : Heap) (vR : Option Value) (hR : Heap) (LR : List Loc) : Prop := ∃ b : Addr, vR = some (.ref b) ∧ Fr Z.heap.size LR ∧ hR = h0 ∧ Exa Z hR b "java/lang/Integer"
theorem cvalueOf1 (l : Launch) (Z : State) (a0 : Array Value) (hw : ∀ d ∈ tables_1, d.before a0 Z = true) (ca : Addr) (h0 : Heap) (O0 : Ext Z.heap h0) (SH : Sta Z Z.heap "java/lang/Integer$IntegerCache" "high" "I" (.int 127)) (SC : Sta Z Z.heap "java/lang/Integer$IntegerCache" "cache" "[Ljava/lang/Integer;" (.ref ca)) (HC : Cache Z ca) :
    Ctr l Z h0 (⟨"java/lang/Integer", "valueOf", "(I)Ljava/lang/Integer;"⟩ : MethodName) k1 1 (some (.object "java/lang/Integer")) [] ({ frames := 0, cells := 0, slots := 0, locals := 0 } : Room) #[(.int 1)] (Q_cvalueOf1 Z ca h0) := by
  refine enter (plainFor_of_name pn8) ?_
  intro pp ee ss mm below meth cc s₁ hx hby hml hZ hown hnm hret hlk X0 e0 hs0
  replace hown : ss.vm.findClass "java/lang/Integer" = some mm.cls := hown
  refine Go.cast (congrArg s₁.setTop (ef_cvalueOf1 mm)) ?_
  have N0 := Fr.nil Z.heap.size
  show Go pp ee below _ (s₁.setTop (mkF mm 0 #[.val (.int 1)] []))
  refine Go.iloadN X0 hx (hb hby d1_0) rfl (q := 1) rfl ?_
  refine Go.bipush X0 hx (hb hby d1_1) (r := (-128 : Int32)) rfl (q := 3) rfl ?_
  refine Go.icmpNo X0 hx (hb hby d1_3) (by decide) (q := 6) rfl ?_
  refine Go.iloadN X0 hx (hb hby d1_6) rfl (q := 7) rfl ?_
  refine Go.getS X0 hx hZ hown (host := "") (Or.inl (wd7 hw)) Via.refl e0 (SH.ext O0) (hb hby d1_7) (q := 10) rfl ?_
  intro T101 X101 e101
  refine Go.icmpNo X101 hx (hb hby d1_10) (by decide) (q := 13) rfl ?_
  refine Go.getS X101 hx hZ hown (host := "") (Or.inl (wd9 hw)) Via.refl e101 (SC.ext O0) (hb hby d1_13) (q := 16) rfl ?_
  intro T102 X102 e102
  refine Go.iloadN X102 hx (hb hby d1_16) rfl (q := 17) rfl ?_
  refine Go.sipush X102 hx (hb hby d1_17) (r := (128 : Int32)) rfl (q := 20) rfl ?_
  refine Go.iadd X102 hx (hb hby d1_20) (r := (129 : Int32)) rfl (q := 21) rfl ?_
  obtain ⟨cl, Ar, Sz, Hc⟩ := HC
  obtain ⟨bx, Hb, Eb, Fb⟩ := Hc (1 : Int32) (by decide) (by decide)
  refine Go.by (X102.aaload hx (j := (129 : Int32)) (v := .ref bx) (by rw [e102]; exact (Ar.ext O0).1) (State.isArrayOf_alike hZ.alike Ar.2.1) rfl Ar.2.2 (by rw [Sz]; exact (IntBox.place_ok (1 : Int32) (by decide) (by decide)).1) Hb (g := (mkF mm 21 #[.val (.int 1)] [(.int 129), (.ref ca)])) rfl rfl (hb hby d1_21)) ?_
  show Go pp ee below _ (T102.setTop (mkF mm 22 #[.val (.int 1)] [(.ref bx)]))
  exact Go.retA X102 hx hret hlk rfl rfl (hb hby d1_22) e102 (by decide) (by decide) ⟨bx, rfl, N0, rfl, (Eb.ext O0)⟩
def Q_cvalueOf2 (Z : State) (ca : Addr) (h0 : Heap) (vR : Option Value) (hR : Heap) (LR : List Loc) : Prop := ∃ b : Addr, vR = some (.ref b) ∧ Fr Z.heap.size LR ∧ hR = h0 ∧ Exa Z hR b "java/lang/Integer"
theorem cvalueOf2 (l : Launch) (Z : State) (a0 : Array Value) (hw : ∀ d ∈ tables_1, d.before a0 Z = true) (ca : Addr) (h0 : Heap) (O0 : Ext Z.heap h0) (SH : Sta Z Z.heap "java/lang/Integer$IntegerCache" "high" "I" (.int 127)) (SC : Sta Z Z.heap "java/lang/Integer$IntegerCache" "cache" "[Ljava/lang/Integer;" (.ref ca)) (HC : Cache Z ca) :
    Ctr l Z h0 (⟨"java/lang/Integer", "valueOf", "(I)Ljava/lang/Integer;"⟩ : MethodName) k1 1 (some (.object "java/lang/Integer")) [] ({ frames := 0, cells := 0, slots := 0, locals := 0 } : Room) #[(.int 2)] (Q_cvalueOf2 Z ca h0) := by
  refine enter (plainFor_of_name pn8) ?_
  intro pp ee ss mm below meth cc s₁ hx hby hml hZ hown hnm hret hlk X0 e0 hs0
  replace hown : ss.vm.findClass "java/lang/Integer" = some mm.cls := hown
  refine Go.cast (congrArg s₁.setTop (ef_cvalueOf2 mm)) ?_
  have N0 := Fr.nil Z.heap.size
  show Go pp ee below _ (s₁.setTop (mkF mm 0 #[.val (.int 2)] []))
  refine Go.iloadN X0 hx (hb hby d1_0) rfl (q := 1) rfl ?_
  refine Go.bipush X0 hx (hb hby d1_1) (r := (-128 : Int32)) rfl (q := 3) rfl ?_
  refine Go.icmpNo X0 hx (hb hby d1_3) (by decide) (q := 6) rfl ?_
  refine Go.iloadN X0 hx (hb hby d1_6) rfl (q := 7) rfl ?_
  refine Go.getS X0 hx hZ hown (host := "") (Or.inl (wd7 hw)) Via.refl e0 (SH.ext O0) (hb hby d1_7) (q := 10) rfl ?_
  intro T101 X101 e101
  refine Go.icmpNo X101 hx (hb hby d1_10) (by decide) (q := 13) rfl ?_
  refine Go.getS X101 hx hZ hown (host := "") (Or.inl (wd9 hw)) Via.refl e101 (SC.ext O0) (hb hby d1_13) (q := 16) rfl ?_
  intro T102 X102 e102
  refine Go.iloadN X102 hx (hb hby d1_16) rfl (q := 17) rfl ?_
  refine Go.sipush X102 hx (hb hby d1_17) (r := (128 : Int32)) rfl (q := 20) rfl ?_
  refine Go.iadd X102 hx (hb hby d1_20) (r := (130 : Int32)) rfl (q := 21) rfl ?_
  obtain ⟨cl, Ar, Sz, Hc⟩ := HC
  obtain ⟨bx, Hb, Eb, Fb⟩ := Hc (2 : Int32) (by decide) (by decide)
  refine Go.by (X102.aaload hx (j := (130 : Int32)) (v := .ref bx) (by rw [e102]; exact (Ar.ext O0).1) (State.isArrayOf_alike hZ.alike Ar.2.1) rfl Ar.2.2 (by rw [Sz]; exact (IntBox.place_ok (2 : Int32) (by decide) (by decide)).1) Hb (g := (mkF mm 21 #[.val (.int 2)] [(.int 130), (.ref ca)])) rfl rfl (hb hby d1_21)) ?_
  show Go pp ee below _ (T102.setTop (mkF mm 22 #[.val (.int 2)] [(.ref bx)]))
  exact Go.retA X102 hx hret hlk rfl rfl (hb hby d1_22) e102 (by decide) (by decide) ⟨bx, rfl, N0, rfl, (Eb.ext O0)⟩
def Q_law0 (Z : State) (pf : Int32) (t1 t2 ph : Int64) (ca de : Addr) (h0 : Heap) (vR : Option Value) (hR : Heap) (LR : List Loc) : Prop := vR = some (.int 1) ∧ Fr Z.heap.size LR
theorem law0 (l : Launch) (Z : State) (a0 : Array Value) (hw : ∀ d ∈ tables_1, d.before a0 Z = true) (pf : Int32) (t1 t2 ph : Int64) (ca de : Addr) (h0 : Heap) (O0 : Ext Z.heap h0) (SH : Sta Z Z.heap "java/lang/Integer$IntegerCache" "high" "I" (.int 127)) (SC : Sta Z Z.heap "java/lang/Integer$IntegerCache" "cache" "[Ljava/lang/Integer;" (.ref ca)) (SD : Sta Z Z.heap xS1 "DEFAULTCAPACITY_EMPTY_ELEMENTDATA" xS6 (.ref de)) (LD : Lng Z Z.heap de (0 : Int32)) (HC : Cache Z ca) :
    Ctr l Z h0 x code maxLocals ret tables_1 room_1 #[(.int pf), (.long t1), (.long t2), (.long ph)] (Q_law0 Z pf t1 t2 ph ca de h0) := by
  refine enter (plainFor_of_name pn9) ?_
  intro pp ee ss mm below meth cc s₁ hx hby hml hZ hown hnm hret hlk X0 e0 hs0
  replace hown : ss.vm.findClass "com/example/stampwise/stampwise/VersionsHoldsOlderPinLaw" = some mm.cls := hown
  refine Go.cast (congrArg s₁.setTop (ef_law0 mm pf t1 t2 ph)) ?_
  have N0 := Fr.nil Z.heap.size
  show Go pp ee below _ (s₁.setTop (mkF mm 0 #[.val (.int pf), .val (.long t1), .second, .val (.long t2), .second, .val (.long ph), .second, .unset, .unset, .unset, .unset, .unset, .unset, .unset, .unset, .unset, .unset, .unset, .unset, .unset] []))
  refine Go.iloadN X0 hx (hb hby at_0) rfl (q := 1) rfl ?_
  refine Go.iconst X0 hx (hb hby at_1) (r := (1 : Int32)) rfl (q := 2) rfl ?_
  refine Go.iand X0 hx (hb hby at_2) rfl (q := 3) rfl ?_
  by_cases hc101 : (pf &&& (1 : Int32)) = (0 : Int32)
  · refine Go.ifYes X0 hx (hb hby at_3) (Jvm.Free.XT.i0_eq_t hc101) (q := 10) (by decide) (by decide) ?_
    refine Go.iconst X0 hx (hb hby at_10) (r := (0 : Int32)) rfl (q := 11) rfl ?_
    refine Go.istore X0 hx (hb hby at_11) (l' := #[.val (.int pf), .val (.long t1), .second, .val (.long t2), .second, .val (.long ph), .second, .val (.int 0), .unset, .unset, .unset, .unset, .unset, .unset, .unset, .unset, .unset, .unset, .unset, .unset]) rfl (q := 13) rfl ?_
    refine Go.iloadN X0 hx (hb hby at_13) rfl (q := 14) rfl ?_
    refine Go.iconst X0 hx (hb hby at_14) (r := (2 : Int32)) rfl (q := 15) rfl ?_
    refine Go.iand X0 hx (hb hby at_15) rfl (q := 16) rfl ?_
    by_cases hc102 : (pf &&& (2 : Int32)) = (0 : Int32)
    · refine Go.ifYes X0 hx (hb hby at_16) (Jvm.Free.XT.i0_eq_t hc102) (q := 23) (by decide) (by decide) ?_
      refine Go.iconst X0 hx (hb hby at_23) (r := (0 : Int32)) rfl (q := 24) rfl ?_
      refine Go.istore X0 hx (hb hby at_24) (l' := #[.val (.int pf), .val (.long t1), .second, .val (.long t2), .second, .val (.long ph), .second, .val (.int 0), .val (.int 0), .unset, .unset, .unset, .unset, .unset, .unset, .unset, .unset, .unset, .unset, .unset]) rfl (q := 26) rfl ?_
      refine Go.newO X0 hx hZ hown (wd0 hw) (wd1 hw) (wd2 hw) e0 (hb hby at_26) (by decide) (by decide) (q := 29) rfl ?_
      intro b103 T103 h103 X103 e103 q103 E103 A103 D103 U103
      have g_b103 : Z.heap.size ≤ b103 := Nat.le_trans O0.1 (Nat.le_of_eq q103)
      have OE103 := ext_trans O0 E103
      have F103_newestValue : Fld Z h103 b103 xS0 "newestValue" xS9 .null := D103 (Or.inl (wd17 hw)) (ty := (.object xS2)) (by decide)
      have F103_keepsOlder : Fld Z h103 b103 xS0 "keepsOlder" "Z" (.int 0) := D103 (Or.inr (wd19 hw)) (ty := .boolean) (by decide)
      have F103_older : Fld Z h103 b103 xS0 "older" xS8 .null := D103 (Or.inl (wd26 hw)) (ty := (.object xS10)) (by decide)
      have F103_newestWriteTimestamp : Fld Z h103 b103 xS0 xS11 "J" (.long 0) := D103 (Or.inl (wd33 hw)) (ty := .long) (by decide)
      have F103_newestReadTimestamp : Fld Z h103 b103 xS0 xS12 "J" (.long 0) := D103 (Or.inl (wd35 hw)) (ty := .long) (by decide)
      clear D103
      refine Go.dup X103 hx (hb hby at_29) rfl (q := 30) rfl ?_
      refine Go.iconst X103 hx (hb hby at_30) (r := (0 : Int32)) rfl (q := 31) rfl ?_
      refine Go.callS X103 hx hZ hown (wd3 hw) (wd4 hw) (wd5 hw) (wd6 hw) (by decide) (cvalueOf0 l Z a0 hw ca h103 OE103 SH SC HC) e103 (by rw [hml]; rfl) (hb hby at_31) (argsL := [(.int 0)]) (rest := [(.ref b103), (.ref b103)]) (lenOf pd19 rfl) rfl rfl (W := 2) (by first | exact Nat.le_refl _ | decide) (by decide) (by decide) (by decide) (by decide) ?_
      intro v104 T104 L104 X104 hQ104
      obtain ⟨b_104, rfl, N104q, e104, P104_0⟩ := hQ104
      have N104 := Fr.app N0 N104q
      rw [e104] at P104_0
      refine Go.iload X104 hx (hb hby at_34) rfl (q := 36) rfl ?_
      refine Go.init X104 hx hZ hown rfl (wd10 hw) (wd11 hw) (wd2 hw) (wd12 hw) (by decide) (cver0 l Z a0 hw b103 b_104 h103 OE103 A103 g_b103 F103_keepsOlder F103_older F103_newestWriteTimestamp F103_newestValue F103_newestReadTimestamp) e104 (by rw [hml]; rfl) (hb hby at_36) (argsL := [(.ref b_104), (.int 0)]) (rest := [(.ref b103)]) (lenOf pd20 rfl) rfl rfl (W := 1) (by first | exact Nat.le_refl _ | decide) (by decide) (by decide) (by decide) (by decide) ?_
      intro v105 T105 L105 X105 hQ105
      obtain ⟨h105, e105⟩ : ∃ z, T105.heap = z := ⟨_, rfl⟩
      rw [e105] at hQ105
      obtain ⟨rfl, N105q, K105, P105_0, P105_1, P105_2, P105_3, P105_4⟩ := hQ105
      have N105 := Fr.app N104 N105q
      replace A103 := A103.keep K105
      replace P104_0 := P104_0.keep K105
      have OK105 := ext_keep OE103 K105 (allS g_b103 all0)
      refine Go.astore X105 hx (hb hby at_39) rfl (l' := #[.val (.int pf), .val (.long t1), .second, .val (.long t2), .second, .val (.long ph), .second, .val (.int 0), .val (.int 0), .val (.ref b103), .unset, .unset, .unset, .unset, .unset, .unset, .unset, .unset, .unset, .unset]) rfl (q := 41) rfl ?_
      refine Go.aload X105 hx (hb hby at_41) rfl rfl (q := 43) rfl ?_
      refine Go.virt X105 hx hZ hown (wd20 hw) (wd21 hw) (notFace_of_selects (args := #[]) (mvT hZ (wd23 hw))) (wd23 hw) (wd22 hw) (wd2 hw) (wd24 hw) (by decide) (cho0 l Z a0 hw b103 h105 OK105 P105_1) e105 A103 (by rw [hml]; rfl) (hb hby at_43) (argsL := []) (rest := []) (lenOf pd21 rfl) rfl rfl (W := 0) (by first | exact Nat.le_refl _ | decide) (by decide) (by decide) (by decide) (by decide) ?_
      intro v106 T106 L106 X106 hQ106
      obtain ⟨rfl, N106q, e106⟩ := hQ106
      have N106 := Fr.app N105 N106q
      refine Go.ifNo X106 hx (hb hby at_46) (by decide) (q := 49) rfl ?_
      refine Go.iconst X106 hx (hb hby at_49) (r := (1 : Int32)) rfl (q := 50) rfl ?_
      refine Go.goto X106 hx (hb hby at_50) (q := 54) (by decide) (by decide) ?_
      refine Go.istore X106 hx (hb hby at_54) (l' := #[.val (.int pf), .val (.long t1), .second, .val (.long t2), .second, .val (.long ph), .second, .val (.int 0), .val (.int 0), .val (.ref b103), .val (.int 1), .unset, .unset, .unset, .unset, .unset, .unset, .unset, .unset, .unset]) rfl (q := 56) rfl ?_
      refine Go.aload X106 hx (hb hby at_56) rfl rfl (q := 58) rfl ?_
      refine Go.lloadN X106 hx (hb hby at_58) rfl (q := 59) rfl ?_
      refine Go.iconst X106 hx (hb hby at_59) (r := (1 : Int32)) rfl (q := 60) rfl ?_
      refine Go.callS X106 hx hZ hown (wd3 hw) (wd4 hw) (wd5 hw) (wd6 hw) (by decide) (cvalueOf1 l Z a0 hw ca h105 OK105 SH SC HC) e106 (by rw [hml]; rfl) (hb hby at_60) (argsL := [(.int 1)]) (rest := [(.long t1), (.ref b103)]) (lenOf pd19 rfl) rfl rfl (W := 3) (by first | exact Nat.le_refl _ | decide) (by decide) (by decide) (by decide) (by decide) ?_
      intro v107 T107 L107 X107 hQ107
      obtain ⟨b_107, rfl, N107q, e107, P107_0⟩ := hQ107
      have N107 := Fr.app N106 N107q
      rw [e107] at P107_0
      refine Go.virt X107 hx hZ hown (wd27 hw) (wd28 hw) (notFace_of_selects (args := #[]) (mvT hZ (wd30 hw))) (wd30 hw) (wd29 hw) (wd2 hw) (wd31 hw) (by decide) (cw0 l Z a0 hw b103 t1 b_107 ((0 : Int64)) b_104 ((0 : Int64)) h105 OK105 A103 g_b103 P105_0 P105_1 P105_2 P105_3 P105_4) e107 A103 (by rw [hml]; rfl) (hb hby at_63) (argsL := [(.long t1), (.ref b_107)]) (rest := []) (lenOf pd22 rfl) rfl rfl (W := 0) (by first | exact Nat.le_refl _ | decide) (by decide) (by decide) (by decide) (by decide) ?_
      intro v108 T108 L108 X108 hQ108
      obtain ⟨h108, e108⟩ : ∃ z, T108.heap = z := ⟨_, rfl⟩
      rw [e108] at hQ108
      obtain ⟨n2_108, v2_108, r2_108, rfl, N108q, K108, P108_0, P108_1, P108_2, P108_3, P108_4⟩ := hQ108
      have N108 := Fr.app N107 N108q
      replace A103 := A103.keep K108
      replace P104_0 := P104_0.keep K108
      replace P107_0 := P107_0.keep K108
      have OK108 := ext_keep OK105 K108 (allS g_b103 all0)
      refine Go.iload X108 hx (hb hby at_66) rfl (q := 68) rfl ?_
      refine Go.ifYes X108 hx (hb hby at_68) (by decide) (q := 81) (by decide) (by decide) ?_
      refine Go.iconst X108 hx (hb hby at_81) (r := (0 : Int32)) rfl (q := 82) rfl ?_
      refine Go.istore X108 hx (hb hby at_82) (l' := #[.val (.int pf), .val (.long t1), .second, .val (.long t2), .second, .val (.long ph), .second, .val (.int 0), .val (.int 0), .val (.ref b103), .val (.int 1), .val (.int 0), .unset, .unset, .unset, .unset, .unset, .unset, .unset, .unset]) rfl (q := 84) rfl ?_
      refine Go.aload X108 hx (hb hby at_84) rfl rfl (q := 86) rfl ?_
      refine Go.virt X108 hx hZ hown (wd20 hw) (wd21 hw) (notFace_of_selects (args := #[]) (mvT hZ (wd23 hw))) (wd23 hw) (wd22 hw) (wd2 hw) (wd24 hw) (by decide) (cho0 l Z a0 hw b103 h108 OK108 P108_1) e108 A103 (by rw [hml]; rfl) (hb hby at_86) (argsL := []) (rest := []) (lenOf pd21 rfl) rfl rfl (W := 0) (by first | exact Nat.le_refl _ | decide) (by decide) (by decide) (by decide) (by decide) ?_
      intro v109 T109 L109 X109 hQ109
      obtain ⟨rfl, N109q, e109⟩ := hQ109
      have N109 := Fr.app N108 N109q
      refine Go.istore X109 hx (hb hby at_89) (l' := #[.val (.int pf), .val (.long t1), .second, .val (.long t2), .second, .val (.long ph), .second, .val (.int 0), .val (.int 0), .val (.ref b103), .val (.int 1), .val (.int 0), .val (.int 0), .unset, .unset, .unset, .unset, .unset, .unset, .unset]) rfl (q := 91) rfl ?_
      refine Go.iload X109 hx (hb hby at_91) rfl (q := 93) rfl ?_
      refine Go.ifNo X109 hx (hb hby at_93) (by decide) (q := 96) rfl ?_
      refine Go.iload X109 hx (hb hby at_96) rfl (q := 98) rfl ?_
      refine Go.iload X109 hx (hb hby at_98) rfl (q := 100) rfl ?_
      refine Go.icmpNo X109 hx (hb hby at_100) (by decide) (q := 103) rfl ?_
      refine Go.iload X109 hx (hb hby at_103) rfl (q := 105) rfl ?_
      refine Go.aload X109 hx (hb hby at_105) rfl rfl (q := 107) rfl ?_
      refine Go.virt X109 hx hZ hown (wd36 hw) (wd37 hw) (notFace_of_selects (args := #[]) (mvT hZ (wd39 hw))) (wd39 hw) (wd38 hw) (wd2 hw) (wd40 hw) (by decide) (ccn0 l Z a0 hw b103 h108 OK108 P108_1) e109 A103 (by rw [hml]; rfl) (hb hby at_107) (argsL := []) (rest := [(.int 0)]) (lenOf pd8 rfl) rfl rfl (W := 1) (by first | exact Nat.le_refl _ | decide) (by decide) (by decide) (by decide) (by decide) ?_
      intro v110 T110 L110 X110 hQ110
      obtain ⟨rfl, N110q, e110⟩ := hQ110
      have N110 := Fr.app N109 N110q
      refine Go.iconst X110 hx (hb hby at_110) (r := (1 : Int32)) rfl (q := 111) rfl ?_
      refine Go.icmpYes X110 hx (hb hby at_111) (by decide) (q := 118) (by decide) (by decide) ?_
      refine Go.iconst X110 hx (hb hby at_118) (r := (0 : Int32)) rfl (q := 119) rfl ?_
      refine Go.icmpNo X110 hx (hb hby at_119) (by decide) (q := 122) rfl ?_
      refine Go.iconst X110 hx (hb hby at_122) (r := (1 : Int32)) rfl (q := 123) rfl ?_
      refine Go.goto X110 hx (hb hby at_123) (q := 127) (by decide) (by decide) ?_
      refine Go.istore X110 hx (hb hby at_127) (l' := #[.val (.int pf), .val (.long t1), .second, .val (.long t2), .second, .val (.long ph), .second, .val (.int 0), .val (.int 0), .val (.ref b103), .val (.int 1), .val (.int 0), .val (.int 0), .unset, .unset, .unset, .unset, .unset, .unset, .unset]) rfl (q := 129) rfl ?_
      refine Go.aload X110 hx (hb hby at_129) rfl rfl (q := 131) rfl ?_
      refine Go.lloadN X110 hx (hb hby at_131) rfl (q := 132) rfl ?_
      refine Go.iconst X110 hx (hb hby at_132) (r := (2 : Int32)) rfl (q := 133) rfl ?_
      refine Go.callS X110 hx hZ hown (wd3 hw) (wd4 hw) (wd5 hw) (wd6 hw) (by decide) (cvalueOf2 l Z a0 hw ca h108 OK108 SH SC HC) e110 (by rw [hml]; rfl) (hb hby at_133) (argsL := [(.int 2)]) (rest := [(.long t2), (.ref b103)]) (lenOf pd19 rfl) rfl rfl (W := 3) (by first | exact Nat.le_refl _ | decide) (by decide) (by decide) (by decide) (by decide) ?_
      intro v111 T111 L111 X111 hQ111
      obtain ⟨b_111, rfl, N111q, e111, P111_0⟩ := hQ111
      have N111 := Fr.app N110 N111q
      rw [e111] at P111_0
      refine Go.virt X111 hx hZ hown (wd27 hw) (wd28 hw) (notFace_of_selects (args := #[]) (mvT hZ (wd30 hw))) (wd30 hw) (wd29 hw) (wd2 hw) (wd31 hw) (by decide) (cw0 l Z a0 hw b103 t2 b_111 n2_108 v2_108 r2_108 h108 OK108 A103 g_b103 P108_0 P108_1 P108_2 P108_3 P108_4) e111 A103 (by rw [hml]; rfl) (hb hby at_136) (argsL := [(.long t2), (.ref b_111)]) (rest := []) (lenOf pd22 rfl) rfl rfl (W := 0) (by first | exact Nat.le_refl _ | decide) (by decide) (by decide) (by decide) (by decide) ?_
      intro v112 T112 L112 X112 hQ112
      obtain ⟨h112, e112⟩ : ∃ z, T112.heap = z := ⟨_, rfl⟩
      rw [e112] at hQ112
      obtain ⟨n2_112, v2_112, r2_112, rfl, N112q, K112, P112_0, P112_1, P112_2, P112_3, P112_4⟩ := hQ112
      have N112 := Fr.app N111 N112q
      replace A103 := A103.keep K112
      replace P104_0 := P104_0.keep K112
      replace P107_0 := P107_0.keep K112
      replace P111_0 := P111_0.keep K112
      have OK112 := ext_keep OK108 K112 (allS g_b103 all0)
      refine Go.iload X112 hx (hb hby at_139) rfl (q := 141) rfl ?_
      refine Go.ifYes X112 hx (hb hby at_141) (by decide) (q := 160) (by decide) (by decide) ?_
      refine Go.iconst X112 hx (hb hby at_160) (r := (0 : Int32)) rfl (q := 161) rfl ?_
      refine Go.istore X112 hx (hb hby at_161) (l' := #[.val (.int pf), .val (.long t1), .second, .val (.long t2), .second, .val (.long ph), .second, .val (.int 0), .val (.int 0), .val (.ref b103), .val (.int 1), .val (.int 0), .val (.int 0), .val (.int 0), .unset, .unset, .unset, .unset, .unset, .unset]) rfl (q := 163) rfl ?_
      refine Go.aload X112 hx (hb hby at_163) rfl rfl (q := 165) rfl ?_
      refine Go.virt X112 hx hZ hown (wd20 hw) (wd21 hw) (notFace_of_selects (args := #[]) (mvT hZ (wd23 hw))) (wd23 hw) (wd22 hw) (wd2 hw) (wd24 hw) (by decide) (cho0 l Z a0 hw b103 h112 OK112 P112_1) e112 A103 (by rw [hml]; rfl) (hb hby at_165) (argsL := []) (rest := []) (lenOf pd21 rfl) rfl rfl (W := 0) (by first | exact Nat.le_refl _ | decide) (by decide) (by decide) (by decide) (by decide) ?_
      intro v113 T113 L113 X113 hQ113
      obtain ⟨rfl, N113q, e113⟩ := hQ113
      have N113 := Fr.app N112 N113q
      refine Go.istore X113 hx (hb hby at_168) (l' := #[.val (.int pf), .val (.long t1), .second, .val (.long t2), .second, .val (.long ph), .second, .val (.int 0), .val (.int 0), .val (.ref b103), .val (.int 1), .val (.int 0), .val (.int 0), .val (.int 0), .val (.int 0), .unset, .unset, .unset, .unset, .unset]) rfl (q := 170) rfl ?_
      refine Go.iload X113 hx (hb hby at_170) rfl (q := 172) rfl ?_
      refine Go.ifNo X113 hx (hb hby at_172) (by decide) (q := 175) rfl ?_
      refine Go.iload X113 hx (hb hby at_175) rfl (q := 177) rfl ?_
      refine Go.iload X113 hx (hb hby at_177) rfl (q := 179) rfl ?_
      refine Go.icmpNo X113 hx (hb hby at_179) (by decide) (q := 182) rfl ?_
      refine Go.iload X113 hx (hb hby at_182) rfl (q := 184) rfl ?_
      refine Go.aload X113 hx (hb hby at_184) rfl rfl (q := 186) rfl ?_
      refine Go.virt X113 hx hZ hown (wd36 hw) (wd37 hw) (notFace_of_selects (args := #[]) (mvT hZ (wd39 hw))) (wd39 hw) (wd38 hw) (wd2 hw) (wd40 hw) (by decide) (ccn0 l Z a0 hw b103 h112 OK112 P112_1) e113 A103 (by rw [hml]; rfl) (hb hby at_186) (argsL := []) (rest := [(.int 0)]) (lenOf pd8 rfl) rfl rfl (W := 1) (by first | exact Nat.le_refl _ | decide) (by decide) (by decide) (by decide) (by decide) ?_
      intro v114 T114 L114 X114 hQ114
      obtain ⟨rfl, N114q, e114⟩ := hQ114
      have N114 := Fr.app N113 N114q
      refine Go.iconst X114 hx (hb hby at_189) (r := (1 : Int32)) rfl (q := 190) rfl ?_
      refine Go.icmpYes X114 hx (hb hby at_190) (by decide) (q := 197) (by decide) (by decide) ?_
      refine Go.iconst X114 hx (hb hby at_197) (r := (0 : Int32)) rfl (q := 198) rfl ?_
      refine Go.icmpNo X114 hx (hb hby at_198) (by decide) (q := 201) rfl ?_
      refine Go.iconst X114 hx (hb hby at_201) (r := (1 : Int32)) rfl (q := 202) rfl ?_
      refine Go.goto X114 hx (hb hby at_202) (q := 206) (by decide) (by decide) ?_
      refine Go.istore X114 hx (hb hby at_206) (l' := #[.val (.int pf), .val (.long t1), .second, .val (.long t2), .second, .val (.long ph), .second, .val (.int 0), .val (.int 0), .val (.ref b103), .val (.int 1), .val (.int 0), .val (.int 0), .val (.int 0), .val (.int 0), .unset, .unset, .unset, .unset, .unset]) rfl (q := 208) rfl ?_
      refine Go.iload X114 hx (hb hby at_208) rfl (q := 210) rfl ?_
      refine Go.ifYes X114 hx (hb hby at_210) (by decide) (q := 305) (by decide) (by decide) ?_
      refine Go.iload X114 hx (hb hby at_305) rfl (q := 307) rfl ?_
      exact Go.retI X114 hx hret hlk (by simp) rfl (hb hby at_307) e114 (by decide) (by decide) ⟨rfl, N114⟩
    · refine Go.ifNo X0 hx (hb hby at_16) (Jvm.Free.XT.i0_eq_f hc102) (q := 19) rfl ?_
      refine Go.iconst X0 hx (hb hby at_19) (r := (1 : Int32)) rfl (q := 20) rfl ?_
      refine Go.goto X0 hx (hb hby at_20) (q := 24) (by decide) (by decide) ?_
      refine Go.istore X0 hx (hb hby at_24) (l' := #[.val (.int pf), .val (.long t1), .second, .val (.long t2), .second, .val (.long ph), .second, .val (.int 0), .val (.int 1), .unset, .unset, .unset, .unset, .unset, .unset, .unset, .unset, .unset, .unset, .unset]) rfl (q := 26) rfl ?_
      refine Go.newO X0 hx hZ hown (wd0 hw) (wd1 hw) (wd2 hw) e0 (hb hby at_26) (by decide) (by decide) (q := 29) rfl ?_
      intro b115 T115 h115 X115 e115 q115 E115 A115 D115 U115
      have g_b115 : Z.heap.size ≤ b115 := Nat.le_trans O0.1 (Nat.le_of_eq q115)
      have OE115 := ext_trans O0 E115
      have F115_newestValue : Fld Z h115 b115 xS0 "newestValue" xS9 .null := D115 (Or.inl (wd17 hw)) (ty := (.object xS2)) (by decide)
      have F115_keepsOlder : Fld Z h115 b115 xS0 "keepsOlder" "Z" (.int 0) := D115 (Or.inr (wd19 hw)) (ty := .boolean) (by decide)
      have F115_older : Fld Z h115 b115 xS0 "older" xS8 .null := D115 (Or.inl (wd26 hw)) (ty := (.object xS10)) (by decide)
      have F115_newestWriteTimestamp : Fld Z h115 b115 xS0 xS11 "J" (.long 0) := D115 (Or.inl (wd33 hw)) (ty := .long) (by decide)
      have F115_newestReadTimestamp : Fld Z h115 b115 xS0 xS12 "J" (.long 0) := D115 (Or.inl (wd35 hw)) (ty := .long) (by decide)
      clear D115
      refine Go.dup X115 hx (hb hby at_29) rfl (q := 30) rfl ?_
      refine Go.iconst X115 hx (hb hby at_30) (r := (0 : Int32)) rfl (q := 31) rfl ?_
      refine Go.callS X115 hx hZ hown (wd3 hw) (wd4 hw) (wd5 hw) (wd6 hw) (by decide) (cvalueOf0 l Z a0 hw ca h115 OE115 SH SC HC) e115 (by rw [hml]; rfl) (hb hby at_31) (argsL := [(.int 0)]) (rest := [(.ref b115), (.ref b115)]) (lenOf pd19 rfl) rfl rfl (W := 2) (by first | exact Nat.le_refl _ | decide) (by decide) (by decide) (by decide) (by decide) ?_
      intro v116 T116 L116 X116 hQ116
      obtain ⟨b_116, rfl, N116q, e116, P116_0⟩ := hQ116
      have N116 := Fr.app N0 N116q
      rw [e116] at P116_0
      refine Go.iload X116 hx (hb hby at_34) rfl (q := 36) rfl ?_
      refine Go.init X116 hx hZ hown rfl (wd10 hw) (wd11 hw) (wd2 hw) (wd12 hw) (by decide) (cver0 l Z a0 hw b115 b_116 h115 OE115 A115 g_b115 F115_keepsOlder F115_older F115_newestWriteTimestamp F115_newestValue F115_newestReadTimestamp) e116 (by rw [hml]; rfl) (hb hby at_36) (argsL := [(.ref b_116), (.int 0)]) (rest := [(.ref b115)]) (lenOf pd20 rfl) rfl rfl (W := 1) (by first | exact Nat.le_refl _ | decide) (by decide) (by decide) (by decide) (by decide) ?_
      intro v117 T117 L117 X117 hQ117
      obtain ⟨h117, e117⟩ : ∃ z, T117.heap = z := ⟨_, rfl⟩
      rw [e117] at hQ117
      obtain ⟨rfl, N117q, K117, P117_0, P117_1, P117_2, P117_3, P117_4⟩ := hQ117
      have N117 := Fr.app N116 N117q
      replace A115 := A115.keep K117
      replace P116_0 := P116_0.keep K117
      have OK117 := ext_keep OE115 K117 (allS g_b115 all0)
      refine Go.astore X117 hx (hb hby at_39) rfl (l' := #[.val (.int pf), .val (.long t1), .second, .val (.long t2), .second, .val (.long ph), .second, .val (.int 0), .val (.int 1), .val (.ref b115), .unset, .unset, .unset, .unset, .unset, .unset, .unset, .unset, .unset, .unset]) rfl (q := 41) rfl ?_
      refine Go.aload X117 hx (hb hby at_41) rfl rfl (q := 43) rfl ?_
      refine Go.virt X117 hx hZ hown (wd20 hw) (wd21 hw) (notFace_of_selects (args := #[]) (mvT hZ (wd23 hw))) (wd23 hw) (wd22 hw) (wd2 hw) (wd24 hw) (by decide) (cho0 l Z a0 hw b115 h117 OK117 P117_1) e117 A115 (by rw [hml]; rfl) (hb hby at_43) (argsL := []) (rest := []) (lenOf pd21 rfl) rfl rfl (W := 0) (by first | exact Nat.le_refl _ | decide) (by decide) (by decide) (by decide) (by decide) ?_
      intro v118 T118 L118 X118 hQ118
      obtain ⟨rfl, N118q, e118⟩ := hQ118
      have N118 := Fr.app N117 N118q
      refine Go.ifNo X118 hx (hb hby at_46) (by decide) (q := 49) rfl ?_
      refine Go.iconst X118 hx (hb hby at_49) (r := (1 : Int32)) rfl (q := 50) rfl ?_
      refine Go.goto X118 hx (hb hby at_50) (q := 54) (by decide) (by decide) ?_
      refine Go.istore X118 hx (hb hby at_54) (l' := #[.val (.int pf), .val (.long t1), .second, .val (.long t2), .second, .val (.long ph), .second, .val (.int 0), .val (.int 1), .val (.ref b115), .val (.int 1), .unset, .unset, .unset, .unset, .unset, .unset, .unset, .unset, .unset]) rfl (q := 56) rfl ?_
      refine Go.aload X118 hx (hb hby at_56) rfl rfl (q := 58) rfl ?_
      refine Go.lloadN X118 hx (hb hby at_58) rfl (q := 59) rfl ?_
      refine Go.iconst X118 hx (hb hby at_59) (r := (1 : Int32)) rfl (q := 60) rfl ?_
      refine Go.callS X118 hx hZ hown (wd3 hw) (wd4 hw) (wd5 hw) (wd6 hw) (by decide) (cvalueOf1 l Z a0 hw ca h117 OK117 SH SC HC) e118 (by rw [hml]; rfl) (hb hby at_60) (argsL := [(.int 1)]) (rest := [(.long t1), (.ref b115)]) (lenOf pd19 rfl) rfl rfl (W := 3) (by first | exact Nat.le_refl _ | decide) (by decide) (by decide) (by decide) (by decide) ?_
      intro v119 T119 L119 X119 hQ119
      obtain ⟨b_119, rfl, N119q, e119, P119_0⟩ := hQ119
      have N119 := Fr.app N118 N119q
      rw [e119] at P119_0
      refine Go.virt X119 hx hZ hown (wd27 hw) (wd28 hw) (notFace_of_selects (args := #[]) (mvT hZ (wd30 hw))) (wd30 hw) (wd29 hw) (wd2 hw) (wd31 hw) (by decide) (cw0 l Z a0 hw b115 t1 b_119 ((0 : Int64)) b_116 ((0 : Int64)) h117 OK117 A115 g_b115 P117_0 P117_1 P117_2 P117_3 P117_4) e119 A115 (by rw [hml]; rfl) (hb hby at_63) (argsL := [(.long t1), (.ref b_119)]) (rest := []) (lenOf pd22 rfl) rfl rfl (W := 0) (by first | exact Nat.le_refl _ | decide) (by decide) (by decide) (by decide) (by decide) ?_
      intro v120 T120 L120 X120 hQ120
      obtain ⟨h120, e120⟩ : ∃ z, T120.heap = z := ⟨_, rfl⟩
      rw [e120] at hQ120
      obtain ⟨n2_120, v2_120, r2_120, rfl, N120q, K120, P120_0, P120_1, P120_2, P120_3, P120_4⟩ := hQ120
      have N120 := Fr.app N119 N120q
      replace A115 := A115.keep K120
      replace P116_0 := P116_0.keep K120
      replace P119_0 := P119_0.keep K120
      have OK120 := ext_keep OK117 K120 (allS g_b115 all0)
      refine Go.iload X120 hx (hb hby at_66) rfl (q := 68) rfl ?_
      refine Go.ifYes X120 hx (hb hby at_68) (by decide) (q := 81) (by decide) (by decide) ?_
      refine Go.iconst X120 hx (hb hby at_81) (r := (0 : Int32)) rfl (q := 82) rfl ?_
      refine Go.istore X120 hx (hb hby at_82) (l' := #[.val (.int pf), .val (.long t1), .second, .val (.long t2), .second, .val (.long ph), .second, .val (.int 0), .val (.int 1), .val (.ref b115), .val (.int 1), .val (.int 0), .unset, .unset, .unset, .unset, .unset, .unset, .unset, .unset]) rfl (q := 84) rfl ?_
      refine Go.aload X120 hx (hb hby at_84) rfl rfl (q := 86) rfl ?_
      refine Go.virt X120 hx hZ hown (wd20 hw) (wd21 hw) (notFace_of_selects (args := #[]) (mvT hZ (wd23 hw))) (wd23 hw) (wd22 hw) (wd2 hw) (wd24 hw) (by decide) (cho0 l Z a0 hw b115 h120 OK120 P120_1) e120 A115 (by rw [hml]; rfl) (hb hby at_86) (argsL := []) (rest := []) (lenOf pd21 rfl) rfl rfl (W := 0) (by first | exact Nat.le_refl _ | decide) (by decide) (by decide) (by decide) (by decide) ?_
      intro v121 T121 L121 X121 hQ121
      obtain ⟨rfl, N121q, e121⟩ := hQ121
      have N121 := Fr.app N120 N121q
      refine Go.istore X121 hx (hb hby at_89) (l' := #[.val (.int pf), .val (.long t1), .second, .val (.long t2), .second, .val (.long ph), .second, .val (.int 0), .val (.int 1), .val (.ref b115), .val (.int 1), .val (.int 0), .val (.int 0), .unset, .unset, .unset, .unset, .unset, .unset, .unset]) rfl (q := 91) rfl ?_
      refine Go.iload X121 hx (hb hby at_91) rfl (q := 93) rfl ?_
      refine Go.ifNo X121 hx (hb hby at_93) (by decide) (q := 96) rfl ?_
      refine Go.iload X121 hx (hb hby at_96) rfl (q := 98) rfl ?_
      refine Go.iload X121 hx (hb hby at_98) rfl (q := 100) rfl ?_
      refine Go.icmpNo X121 hx (hb hby at_100) (by decide) (q := 103) rfl ?_
      refine Go.iload X121 hx (hb hby at_103) rfl (q := 105) rfl ?_
      refine Go.aload X121 hx (hb hby at_105) rfl rfl (q := 107) rfl ?_
      refine Go.virt X121 hx hZ hown (wd36 hw) (wd37 hw) (notFace_of_selects (args := #[]) (mvT hZ (wd39 hw))) (wd39 hw) (wd38 hw) (wd2 hw) (wd40 hw) (by decide) (ccn0 l Z a0 hw b115 h120 OK120 P120_1) e121 A115 (by rw [hml]; rfl) (hb hby at_107) (argsL := []) (rest := [(.int 0)]) (lenOf pd8 rfl) rfl rfl (W := 1) (by first | exact Nat.le_refl _ | decide) (by decide) (by decide) (by decide) (by decide) ?_
      intro v122 T122 L122 X122 hQ122
      obtain ⟨rfl, N122q, e122⟩ := hQ122
      have N122 := Fr.app N121 N122q
      refine Go.iconst X122 hx (hb hby at_110) (r := (1 : Int32)) rfl (q := 111) rfl ?_
      refine Go.icmpYes X122 hx (hb hby at_111) (by decide) (q := 118) (by decide) (by decide) ?_
      refine Go.iconst X122 hx (hb hby at_118) (r := (0 : Int32)) rfl (q := 119) rfl ?_
      refine Go.icmpNo X122 hx (hb hby at_119) (by decide) (q := 122) rfl ?_
      refine Go.iconst X122 hx (hb hby at_122) (r := (1 : Int32)) rfl (q := 123) rfl ?_
      refine Go.goto X122 hx (hb hby at_123) (q := 127) (by decide) (by decide) ?_
      refine Go.istore X122 hx (hb hby at_127) (l' := #[.val (.int pf), .val (.long t1), .second, .val (.long t2), .second, .val (.long ph), .second, .val (.int 0), .val (.int 1), .val (.ref b115), .val (.int 1), .val (.int 0), .val (.int 0), .unset, .unset, .unset, .unset, .unset, .unset, .unset]) rfl (q := 129) rfl ?_
      refine Go.aload X122 hx (hb hby at_129) rfl rfl (q := 131) rfl ?_
      refine Go.lloadN X122 hx (hb hby at_131) rfl (q := 132) rfl ?_
      refine Go.iconst X122 hx (hb hby at_132) (r := (2 : Int32)) rfl (q := 133) rfl ?_
      refine Go.callS X122 hx hZ hown (wd3 hw) (wd4 hw) (wd5 hw) (wd6 hw) (by decide) (cvalueOf2 l Z a0 hw ca h120 OK120 SH SC HC) e122 (by rw [hml]; rfl) (hb hby at_133) (argsL := [(.int 2)]) (rest := [(.long t2), (.ref b115)]) (lenOf pd19 rfl) rfl rfl (W := 3) (by first | exact Nat.le_refl _ | decide) (by decide) (by decide) (by decide) (by decide) ?_
      intro v123 T123 L123 X123 hQ123
      obtain ⟨b_123, rfl, N123q, e123, P123_0⟩ := hQ123
      have N123 := Fr.app N122 N123q
      rw [e123] at P123_0
      refine Go.virt X123 hx hZ hown (wd27 hw) (wd28 hw) (notFace_of_selects (args := #[]) (mvT hZ (wd30 hw))) (wd30 hw) (wd29 hw) (wd2 hw) (wd31 hw) (by decide) (cw0 l Z a0 hw b115 t2 b_123 n2_120 v2_120 r2_120 h120 OK120 A115 g_b115 P120_0 P120_1 P120_2 P120_3 P120_4) e123 A115 (by rw [hml]; rfl) (hb hby at_136) (argsL := [(.long t2), (.ref b_123)]) (rest := []) (lenOf pd22 rfl) rfl rfl (W := 0) (by first | exact Nat.le_refl _ | decide) (by decide) (by decide) (by decide) (by decide) ?_
      intro v124 T124 L124 X124 hQ124
      obtain ⟨h124, e124⟩ : ∃ z, T124.heap = z := ⟨_, rfl⟩
      rw [e124] at hQ124
      obtain ⟨n2_124, v2_124, r2_124, rfl, N124q, K124, P124_0, P124_1, P124_2, P124_3, P124_4⟩ := hQ124
      have N124 := Fr.app N123 N124q
      replace A115 := A115.keep K124
      replace P116_0 := P116_0.keep K124
      replace P119_0 := P119_0.keep K124
      replace P123_0 := P123_0.keep K124
      have OK124 := ext_keep OK120 K124 (allS g_b115 all0)
      refine Go.iload X124 hx (hb hby at_139) rfl (q := 141) rfl ?_
      refine Go.ifYes X124 hx (hb hby at_141) (by decide) (q := 160) (by decide) (by decide) ?_
      refine Go.iconst X124 hx (hb hby at_160) (r := (0 : Int32)) rfl (q := 161) rfl ?_
      refine Go.istore X124 hx (hb hby at_161) (l' := #[.val (.int pf), .val (.long t1), .second, .val (.long t2), .second, .val (.long ph), .second, .val (.int 0), .val (.int 1), .val (.ref b115), .val (.int 1), .val (.int 0), .val (.int 0), .val (.int 0), .unset, .unset, .unset, .unset, .unset, .unset]) rfl (q := 163) rfl ?_
      refine Go.aload X124 hx (hb hby at_163) rfl rfl (q := 165) rfl ?_
      refine Go.virt X124 hx hZ hown (wd20 hw) (wd21 hw) (notFace_of_selects (args := #[]) (mvT hZ (wd23 hw))) (wd23 hw) (wd22 hw) (wd2 hw) (wd24 hw) (by decide) (cho0 l Z a0 hw b115 h124 OK124 P124_1) e124 A115 (by rw [hml]; rfl) (hb hby at_165) (argsL := []) (rest := []) (lenOf pd21 rfl) rfl rfl (W := 0) (by first | exact Nat.le_refl _ | decide) (by decide) (by decide) (by decide) (by decide) ?_
      intro v125 T125 L125 X125 hQ125
      obtain ⟨rfl, N125q, e125⟩ := hQ125
      have N125 := Fr.app N124 N125q
      refine Go.istore X125 hx (hb hby at_168) (l' := #[.val (.int pf), .val (.long t1), .second, .val (.long t2), .second, .val (.long ph), .second, .val (.int 0), .val (.int 1), .val (.ref b115), .val (.int 1), .val (.int 0), .val (.int 0), .val (.int 0), .val (.int 0), .unset, .unset, .unset, .unset, .unset]) rfl (q := 170) rfl ?_
      refine Go.iload X125 hx (hb hby at_170) rfl (q := 172) rfl ?_
      refine Go.ifNo X125 hx (hb hby at_172) (by decide) (q := 175) rfl ?_
      refine Go.iload X125 hx (hb hby at_175) rfl (q := 177) rfl ?_
      refine Go.iload X125 hx (hb hby at_177) rfl (q := 179) rfl ?_
      refine Go.icmpNo X125 hx (hb hby at_179) (by decide) (q := 182) rfl ?_
      refine Go.iload X125 hx (hb hby at_182) rfl (q := 184) rfl ?_
      refine Go.aload X125 hx (hb hby at_184) rfl rfl (q := 186) rfl ?_
      refine Go.virt X125 hx hZ hown (wd36 hw) (wd37 hw) (notFace_of_selects (args := #[]) (mvT hZ (wd39 hw))) (wd39 hw) (wd38 hw) (wd2 hw) (wd40 hw) (by decide) (ccn0 l Z a0 hw b115 h124 OK124 P124_1) e125 A115 (by rw [hml]; rfl) (hb hby at_186) (argsL := []) (rest := [(.int 0)]) (lenOf pd8 rfl) rfl rfl (W := 1) (by first | exact Nat.le_refl _ | decide) (by decide) (by decide) (by decide) (by decide) ?_
      intro v126 T126 L126 X126 hQ126
      obtain ⟨rfl, N126q, e126⟩ := hQ126
      have N126 := Fr.app N125 N126q
      refine Go.iconst X126 hx (hb hby at_189) (r := (1 : Int32)) rfl (q := 190) rfl ?_
      refine Go.icmpYes X126 hx (hb hby at_190) (by decide) (q := 197) (by decide) (by decide) ?_
      refine Go.iconst X126 hx (hb hby at_197) (r := (0 : Int32)) rfl (q := 198) rfl ?_
      refine Go.icmpNo X126 hx (hb hby at_198) (by decide) (q := 201) rfl ?_
      refine Go.iconst X126 hx (hb hby at_201) (r := (1 : Int32)) rfl (q := 202) rfl ?_
      refine Go.goto X126 hx (hb hby at_202) (q := 206) (by decide) (by decide) ?_
      refine Go.istore X126 hx (hb hby at_206) (l' := #[.val (.int pf), .val (.long t1), .second, .val (.long t2), .second, .val (.long ph), .second, .val (.int 0), .val (.int 1), .val (.ref b115), .val (.int 1), .val (.int 0), .val (.int 0), .val (.int 0), .val (.int 0), .unset, .unset, .unset, .unset, .unset]) rfl (q := 208) rfl ?_
      refine Go.iload X126 hx (hb hby at_208) rfl (q := 210) rfl ?_
      refine Go.ifNo X126 hx (hb hby at_210) (by decide) (q := 213) rfl ?_
      refine Go.lconst X126 hx (hb hby at_213) (r := (0 : Int64)) rfl (q := 214) rfl ?_
      refine Go.lloadN X126 hx (hb hby at_214) rfl (q := 215) rfl ?_
      refine Go.lloadN X126 hx (hb hby at_215) rfl (q := 216) rfl ?_
      refine Go.callS X126 hx hZ hown (wd125 hw) (wd126 hw) (wd112 hw) (wd127 hw) (by decide) (cmaxJ l Z a0 hw t1 t2 h124 OK124) e126 (by rw [hml]; rfl) (hb hby at_216) (argsL := [(.long t1), (.long t2)]) (rest := [(.long 0)]) (lenOf pd23 rfl) rfl rfl (W := 2) (by first | exact Nat.le_refl _ | decide) (by decide) (by decide) (by decide) (by decide) ?_
      intro v127 T127 L127 X127 hQ127
      obtain ⟨rfl, N127q, e127⟩ := hQ127
      have N127 := Fr.app N126 N127q
      refine Go.callS X127 hx hZ hown (wd125 hw) (wd126 hw) (wd112 hw) (wd127 hw) (by decide) (cmaxJ l Z a0 hw ((0 : Int64)) ((own_max t1 t2)) h124 OK124) e127 (by rw [hml]; rfl) (hb hby at_219) (argsL := [(.long 0), (.long (own_max t1 t2))]) (rest := []) (lenOf pd23 rfl) rfl rfl (W := 0) (by first | exact Nat.le_refl _ | decide) (by decide) (by decide) (by decide) (by decide) ?_
      intro v128 T128 L128 X128 hQ128
      obtain ⟨rfl, N128q, e128⟩ := hQ128
      have N128 := Fr.app N127 N128q
      refine Go.lstore X128 hx (hb hby at_222) (l' := #[.val (.int pf), .val (.long t1), .second, .val (.long t2), .second, .val (.long ph), .second, .val (.int 0), .val (.int 1), .val (.ref b115), .val (.int 1), .val (.int 0), .val (.int 0), .val (.int 0), .val (.int 0), .val (.long (own_max (0 : Int64) (own_max t1 t2))), .second, .unset, .unset, .unset]) rfl (q := 224) rfl ?_
      refine Go.iload X128 hx (hb hby at_224) rfl (q := 226) rfl ?_
      refine Go.ifYes X128 hx (hb hby at_226) (by decide) (q := 241) (by decide) (by decide) ?_
      refine Go.iconst X128 hx (hb hby at_241) (r := (0 : Int32)) rfl (q := 242) rfl ?_
      refine Go.istore X128 hx (hb hby at_242) (l' := #[.val (.int pf), .val (.long t1), .second, .val (.long t2), .second, .val (.long ph), .second, .val (.int 0), .val (.int 1), .val (.ref b115), .val (.int 1), .val (.int 0), .val (.int 0), .val (.int 0), .val (.int 0), .val (.long (own_max (0 : Int64) (own_max t1 t2))), .second, .val (.int 0), .unset, .unset]) rfl (q := 244) rfl ?_
      refine Go.aload X128 hx (hb hby at_244) rfl rfl (q := 246) rfl ?_
      refine Go.lload X128 hx (hb hby at_246) rfl (q := 248) rfl ?_
      refine Go.virt X128 hx hZ hown (wd128 hw) (wd129 hw) (notFace_of_selects (args := #[]) (mvT hZ (wd131 hw))) (wd131 hw) (wd130 hw) (wd2 hw) (wd132 hw) (by decide) (cfg0 l Z a0 hw b115 ph h124 OK124 P124_1) e128 A115 (by rw [hml]; rfl) (hb hby at_248) (argsL := [(.long ph)]) (rest := []) (lenOf pd24 rfl) rfl rfl (W := 0) (by first | exact Nat.le_refl _ | decide) (by decide) (by decide) (by decide) (by decide) ?_
      intro v129 T129 L129 X129 hQ129
      obtain ⟨rfl, N129q, e129⟩ := hQ129
      have N129 := Fr.app N128 N129q
      refine Go.istore X129 hx (hb hby at_251) (l' := #[.val (.int pf), .val (.long t1), .second, .val (.long t2), .second, .val (.long ph), .second, .val (.int 0), .val (.int 1), .val (.ref b115), .val (.int 1), .val (.int 0), .val (.int 0), .val (.int 0), .val (.int 0), .val (.long (own_max (0 : Int64) (own_max t1 t2))), .second, .val (.int 0), .val (.int 0), .unset]) rfl (q := 253) rfl ?_
      refine Go.aload X129 hx (hb hby at_253) rfl rfl (q := 255) rfl ?_
      refine Go.virt X129 hx hZ hown (wd20 hw) (wd21 hw) (notFace_of_selects (args := #[]) (mvT hZ (wd23 hw))) (wd23 hw) (wd22 hw) (wd2 hw) (wd24 hw) (by decide) (cho0 l Z a0 hw b115 h124 OK124 P124_1) e129 A115 (by rw [hml]; rfl) (hb hby at_255) (argsL := []) (rest := []) (lenOf pd21 rfl) rfl rfl (W := 0) (by first | exact Nat.le_refl _ | decide) (by decide) (by decide) (by decide) (by decide) ?_
      intro v130 T130 L130 X130 hQ130
      obtain ⟨rfl, N130q, e130⟩ := hQ130
      have N130 := Fr.app N129 N130q
      refine Go.istore X130 hx (hb hby at_258) (l' := #[.val (.int pf), .val (.long t1), .second, .val (.long t2), .second, .val (.long ph), .second, .val (.int 0), .val (.int 1), .val (.ref b115), .val (.int 1), .val (.int 0), .val (.int 0), .val (.int 0), .val (.int 0), .val (.long (own_max (0 : Int64) (own_max t1 t2))), .second, .val (.int 0), .val (.int 0), .val (.int 0)]) rfl (q := 260) rfl ?_
      refine Go.iload X130 hx (hb hby at_260) rfl (q := 262) rfl ?_
      refine Go.ifNo X130 hx (hb hby at_262) (by decide) (q := 265) rfl ?_
      refine Go.iload X130 hx (hb hby at_265) rfl (q := 267) rfl ?_
      refine Go.iload X130 hx (hb hby at_267) rfl (q := 269) rfl ?_
      refine Go.icmpNo X130 hx (hb hby at_269) (by decide) (q := 272) rfl ?_
      refine Go.iload X130 hx (hb hby at_272) rfl (q := 274) rfl ?_
      refine Go.iload X130 hx (hb hby at_274) rfl (q := 276) rfl ?_
      refine Go.icmpNo X130 hx (hb hby at_276) (by decide) (q := 279) rfl ?_
      refine Go.iload X130 hx (hb hby at_279) rfl (q := 281) rfl ?_
      refine Go.aload X130 hx (hb hby at_281) rfl rfl (q := 283) rfl ?_
      refine Go.virt X130 hx hZ hown (wd36 hw) (wd37 hw) (notFace_of_selects (args := #[]) (mvT hZ (wd39 hw))) (wd39 hw) (wd38 hw) (wd2 hw) (wd40 hw) (by decide) (ccn0 l Z a0 hw b115 h124 OK124 P124_1) e130 A115 (by rw [hml]; rfl) (hb hby at_283) (argsL := []) (rest := [(.int 0)]) (lenOf pd8 rfl) rfl rfl (W := 1) (by first | exact Nat.le_refl _ | decide) (by decide) (by decide) (by decide) (by decide) ?_
      intro v131 T131 L131 X131 hQ131
      obtain ⟨rfl, N131q, e131⟩ := hQ131
      have N131 := Fr.app N130 N131q
      refine Go.iconst X131 hx (hb hby at_286) (r := (1 : Int32)) rfl (q := 287) rfl ?_
      refine Go.icmpYes X131 hx (hb hby at_287) (by decide) (q := 294) (by decide) (by decide) ?_
      refine Go.iconst X131 hx (hb hby at_294) (r := (0 : Int32)) rfl (q := 295) rfl ?_
      refine Go.icmpNo X131 hx (hb hby at_295) (by decide) (q := 298) rfl ?_
      refine Go.iconst X131 hx (hb hby at_298) (r := (1 : Int32)) rfl (q := 299) rfl ?_
      refine Go.goto X131 hx (hb hby at_299) (q := 303) (by decide) (by decide) ?_
      refine Go.istore X131 hx (hb hby at_303) (l' := #[.val (.int pf), .val (.long t1), .second, .val (.long t2), .second, .val (.long ph), .second, .val (.int 0), .val (.int 1), .val (.ref b115), .val (.int 1), .val (.int 0), .val (.int 0), .val (.int 0), .val (.int 0), .val (.long (own_max (0 : Int64) (own_max t1 t2))), .second, .val (.int 0), .val (.int 0), .val (.int 0)]) rfl (q := 305) rfl ?_
      refine Go.iload X131 hx (hb hby at_305) rfl (q := 307) rfl ?_
      exact Go.retI X131 hx hret hlk (by simp) rfl (hb hby at_307) e131 (by decide) (by decide) ⟨rfl, N131⟩
  · refine Go.ifNo X0 hx (hb hby at_3) (Jvm.Free.XT.i0_eq_f hc101) (q := 6) rfl ?_
    refine Go.iconst X0 hx (hb hby at_6) (r := (1 : Int32)) rfl (q := 7) rfl ?_
    refine Go.goto X0 hx (hb hby at_7) (q := 11) (by decide) (by decide) ?_
    refine Go.istore X0 hx (hb hby at_11) (l' := #[.val (.int pf), .val (.long t1), .second, .val (.long t2), .second, .val (.long ph), .second, .val (.int 1), .unset, .unset, .unset, .unset, .unset, .unset, .unset, .unset, .unset, .unset, .unset, .unset]) rfl (q := 13) rfl ?_
    refine Go.iloadN X0 hx (hb hby at_13) rfl (q := 14) rfl ?_
    refine Go.iconst X0 hx (hb hby at_14) (r := (2 : Int32)) rfl (q := 15) rfl ?_
    refine Go.iand X0 hx (hb hby at_15) rfl (q := 16) rfl ?_
    by_cases hc132 : (pf &&& (2 : Int32)) = (0 : Int32)
    · refine Go.ifYes X0 hx (hb hby at_16) (Jvm.Free.XT.i0_eq_t hc132) (q := 23) (by decide) (by decide) ?_
      refine Go.iconst X0 hx (hb hby at_23) (r := (0 : Int32)) rfl (q := 24) rfl ?_
      refine Go.istore X0 hx (hb hby at_24) (l' := #[.val (.int pf), .val (.long t1), .second, .val (.long t2), .second, .val (.long ph), .second, .val (.int 1), .val (.int 0), .unset, .unset, .unset, .unset, .unset, .unset, .unset, .unset, .unset, .unset, .unset]) rfl (q := 26) rfl ?_
      refine Go.newO X0 hx hZ hown (wd0 hw) (wd1 hw) (wd2 hw) e0 (hb hby at_26) (by decide) (by decide) (q := 29) rfl ?_
      intro b133 T133 h133 X133 e133 q133 E133 A133 D133 U133
      have g_b133 : Z.heap.size ≤ b133 := Nat.le_trans O0.1 (Nat.le_of_eq q133)
      have OE133 := ext_trans O0 E133
      have F133_newestValue : Fld Z h133 b133 xS0 "newestValue" xS9 .null := D133 (Or.inl (wd17 hw)) (ty := (.object xS2)) (by decide)
      have F133_keepsOlder : Fld Z h133 b133 xS0 "keepsOlder" "Z" (.int 0) := D133 (Or.inr (wd19 hw)) (ty := .boolean) (by decide)
      have F133_older : Fld Z h133 b133 xS0 "older" xS8 .null := D133 (Or.inl (wd26 hw)) (ty := (.object xS10)) (by decide)
      have F133_newestWriteTimestamp : Fld Z h133 b133 xS0 xS11 "J" (.long 0) := D133 (Or.inl (wd33 hw)) (ty := .long) (by decide)
      have F133_newestReadTimestamp : Fld Z h133 b133 xS0 xS12 "J" (.long 0) := D133 (Or.inl (wd35 hw)) (ty := .long) (by decide)
      clear D133
      refine Go.dup X133 hx (hb hby at_29) rfl (q := 30) rfl ?_
      refine Go.iconst X133 hx (hb hby at_30) (r := (0 : Int32)) rfl (q := 31) rfl ?_
      refine Go.callS X133 hx hZ hown (wd3 hw) (wd4 hw) (wd5 hw) (wd6 hw) (by decide) (cvalueOf0 l Z a0 hw ca h133 OE133 SH SC HC) e133 (by rw [hml]; rfl) (hb hby at_31) (argsL := [(.int 0)]) (rest := [(.ref b133), (.ref b133)]) (lenOf pd19 rfl) rfl rfl (W := 2) (by first | exact Nat.le_refl _ | decide) (by decide) (by decide) (by decide) (by decide) ?_
      intro v134 T134 L134 X134 hQ134
      obtain ⟨b_134, rfl, N134q, e134, P134_0⟩ := hQ134
      have N134 := Fr.app N0 N134q
      rw [e134] at P134_0
      refine Go.iload X134 hx (hb hby at_34) rfl (q := 36) rfl ?_
      refine Go.init X134 hx hZ hown rfl (wd10 hw) (wd11 hw) (wd2 hw) (wd12 hw) (by decide) (cver1 l Z a0 hw b133 b_134 h133 OE133 A133 g_b133 F133_keepsOlder F133_older F133_newestWriteTimestamp F133_newestValue F133_newestReadTimestamp) e134 (by rw [hml]; rfl) (hb hby at_36) (argsL := [(.ref b_134), (.int 1)]) (rest := [(.ref b133)]) (lenOf pd20 rfl) rfl rfl (W := 1) (by first | exact Nat.le_refl _ | decide) (by decide) (by decide) (by decide) (by decide) ?_
      intro v135 T135 L135 X135 hQ135
      obtain ⟨h135, e135⟩ : ∃ z, T135.heap = z := ⟨_, rfl⟩
      rw [e135] at hQ135
      obtain ⟨rfl, N135q, K135, P135_0, P135_1, P135_2, P135_3, P135_4⟩ := hQ135
      have N135 := Fr.app N134 N135q
      replace A133 := A133.keep K135
      replace P134_0 := P134_0.keep K135
      have OK135 := ext_keep OE133 K135 (allS g_b133 all0)
      refine Go.astore X135 hx (hb hby at_39) rfl (l' := #[.val (.int pf), .val (.long t1), .second, .val (.long t2), .second, .val (.long ph), .second, .val (.int 1), .val (.int 0), .val (.ref b133), .unset, .unset, .unset, .unset, .unset, .unset, .unset, .unset, .unset, .unset]) rfl (q := 41) rfl ?_
      refine Go.aload X135 hx (hb hby at_41) rfl rfl (q := 43) rfl ?_
      refine Go.virt X135 hx hZ hown (wd20 hw) (wd21 hw) (notFace_of_selects (args := #[]) (mvT hZ (wd23 hw))) (wd23 hw) (wd22 hw) (wd2 hw) (wd24 hw) (by decide) (cho0 l Z a0 hw b133 h135 OK135 P135_1) e135 A133 (by rw [hml]; rfl) (hb hby at_43) (argsL := []) (rest := []) (lenOf pd21 rfl) rfl rfl (W := 0) (by first | exact Nat.le_refl _ | decide) (by decide) (by decide) (by decide) (by decide) ?_
      intro v136 T136 L136 X136 hQ136
      obtain ⟨rfl, N136q, e136⟩ := hQ136
      have N136 := Fr.app N135 N136q
      refine Go.ifNo X136 hx (hb hby at_46) (by decide) (q := 49) rfl ?_
      refine Go.iconst X136 hx (hb hby at_49) (r := (1 : Int32)) rfl (q := 50) rfl ?_
      refine Go.goto X136 hx (hb hby at_50) (q := 54) (by decide) (by decide) ?_
      refine Go.istore X136 hx (hb hby at_54) (l' := #[.val (.int pf), .val (.long t1), .second, .val (.long t2), .second, .val (.long ph), .second, .val (.int 1), .val (.int 0), .val (.ref b133), .val (.int 1), .unset, .unset, .unset, .unset, .unset, .unset, .unset, .unset, .unset]) rfl (q := 56) rfl ?_
      refine Go.aload X136 hx (hb hby at_56) rfl rfl (q := 58) rfl ?_
      refine Go.lloadN X136 hx (hb hby at_58) rfl (q := 59) rfl ?_
      refine Go.iconst X136 hx (hb hby at_59) (r := (1 : Int32)) rfl (q := 60) rfl ?_
      refine Go.callS X136 hx hZ hown (wd3 hw) (wd4 hw) (wd5 hw) (wd6 hw) (by decide) (cvalueOf1 l Z a0 hw ca h135 OK135 SH SC HC) e136 (by rw [hml]; rfl) (hb hby at_60) (argsL := [(.int 1)]) (rest := [(.long t1), (.ref b133)]) (lenOf pd19 rfl) rfl rfl (W := 3) (by first | exact Nat.le_refl _ | decide) (by decide) (by decide) (by decide) (by decide) ?_
      intro v137 T137 L137 X137 hQ137
      obtain ⟨b_137, rfl, N137q, e137, P137_0⟩ := hQ137
      have N137 := Fr.app N136 N137q
      rw [e137] at P137_0
      by_cases hc138 : (0 : Int64) < t1
      · have hk139 : ¬ (t1 = (0 : Int64)) := own_gtne hc138
        show Go pp ee below _ (T137.setTop (mkF mm 63 #[.val (.int pf), .val (.long t1), .second, .val (.long t2), .second, .val (.long ph), .second, .val (.int 1), .val (.int 0), .val (.ref b133), .val (.int 1), .unset, .unset, .unset, .unset, .unset, .unset, .unset, .unset, .unset] [(.ref b_137), (.long t1), (.ref b133)]))
        refine Go.virt X137 hx hZ hown (wd27 hw) (wd28 hw) (notFace_of_selects (args := #[]) (mvT hZ (wd30 hw))) (wd30 hw) (wd29 hw) (wd2 hw) (wd31 hw) (by decide) (cwAg l Z a0 hw b133 t1 b_137 ((0 : Int64)) b_134 ((0 : Int64)) de h135 OK135 A133 g_b133 P135_0 P135_1 P135_2 P135_3 P135_4 SD LD hc138) e137 A133 (by rw [hml]; rfl) (hb hby at_63) (argsL := [(.long t1), (.ref b_137)]) (rest := []) (lenOf pd22 rfl) rfl rfl (W := 0) (by first | exact Nat.le_refl _ | decide) (by decide) (by decide) (by decide) (by decide) ?_
        intro v140 T140 L140 X140 hQ140
        obtain ⟨h140, e140⟩ : ∃ z, T140.heap = z := ⟨_, rfl⟩
        rw [e140] at hQ140
        obtain ⟨li_140, d_140, x0_140, kd_140, rfl, N140q, K140, fr140_li, fr140_d, fr140_x0, P140_0, P140_1, P140_2, P140_3, P140_4, P140_5, P140_6, P140_7, P140_8, P140_9, P140_10, P140_11, P140_12, P140_13, P140_14, P140_15, P140_16⟩ := hQ140
        have N140 := Fr.app N137 N140q
        have ne_b133_li_140 : b133 ≠ li_140 := ne_new A133.lt fr140_li
        have ne_b_134_li_140 : b_134 ≠ li_140 := ne_new P134_0.lt fr140_li
        have ne_b_137_li_140 : b_137 ≠ li_140 := ne_new P137_0.lt fr140_li
        have g_li_140 : Z.heap.size ≤ li_140 := Nat.le_trans OK135.1 fr140_li
        have ne_b133_d_140 : b133 ≠ d_140 := ne_new A133.lt fr140_d
        have ne_b_134_d_140 : b_134 ≠ d_140 := ne_new P134_0.lt fr140_d
        have ne_b_137_d_140 : b_137 ≠ d_140 := ne_new P137_0.lt fr140_d
        have g_d_140 : Z.heap.size ≤ d_140 := Nat.le_trans OK135.1 fr140_d
        have ne_b133_x0_140 : b133 ≠ x0_140 := ne_new A133.lt fr140_x0
        have ne_b_134_x0_140 : b_134 ≠ x0_140 := ne_new P134_0.lt fr140_x0
        have ne_b_137_x0_140 : b_137 ≠ x0_140 := ne_new P137_0.lt fr140_x0
        have g_x0_140 : Z.heap.size ≤ x0_140 := Nat.le_trans OK135.1 fr140_x0
        replace A133 := A133.keep K140
        replace P134_0 := P134_0.keep K140
        replace P137_0 := P137_0.keep K140
        have OK140 := ext_keep OK135 K140 (allS g_b133 all0)
        refine Go.iload X140 hx (hb hby at_66) rfl (q := 68) rfl ?_
        refine Go.ifNo X140 hx (hb hby at_68) (by decide) (q := 71) rfl ?_
        refine Go.lloadN X140 hx (hb hby at_71) rfl (q := 72) rfl ?_
        refine Go.lconst X140 hx (hb hby at_72) (r := (0 : Int64)) rfl (q := 73) rfl ?_
        refine Go.lcmp X140 hx (hb hby at_73) rfl (q := 74) rfl ?_
        refine Go.ifNo X140 hx (hb hby at_74) (Jvm.Free.XT.ll_eq_f hk139) (q := 77) rfl ?_
        refine Go.iconst X140 hx (hb hby at_77) (r := (1 : Int32)) rfl (q := 78) rfl ?_
        refine Go.goto X140 hx (hb hby at_78) (q := 82) (by decide) (by decide) ?_
        refine Go.istore X140 hx (hb hby at_82) (l' := #[.val (.int pf), .val (.long t1), .second, .val (.long t2), .second, .val (.long ph), .second, .val (.int 1), .val (.int 0), .val (.ref b133), .val (.int 1), .val (.int 1), .unset, .unset, .unset, .unset, .unset, .unset, .unset, .unset]) rfl (q := 84) rfl ?_
        refine Go.aload X140 hx (hb hby at_84) rfl rfl (q := 86) rfl ?_
        refine Go.virt X140 hx hZ hown (wd20 hw) (wd21 hw) (notFace_of_selects (args := #[]) (mvT hZ (wd23 hw))) (wd23 hw) (wd22 hw) (wd2 hw) (wd24 hw) (by decide) (cho1 l Z a0 hw b133 li_140 h140 OK140 P140_1) e140 A133 (by rw [hml]; rfl) (hb hby at_86) (argsL := []) (rest := []) (lenOf pd21 rfl) rfl rfl (W := 0) (by first | exact Nat.le_refl _ | decide) (by decide) (by decide) (by decide) (by decide) ?_
        intro v141 T141 L141 X141 hQ141
        obtain ⟨rfl, N141q, e141⟩ := hQ141
        have N141 := Fr.app N140 N141q
        refine Go.istore X141 hx (hb hby at_89) (l' := #[.val (.int pf), .val (.long t1), .second, .val (.long t2), .second, .val (.long ph), .second, .val (.int 1), .val (.int 0), .val (.ref b133), .val (.int 1), .val (.int 1), .val (.int 1), .unset, .unset, .unset, .unset, .unset, .unset, .unset]) rfl (q := 91) rfl ?_
        refine Go.iload X141 hx (hb hby at_91) rfl (q := 93) rfl ?_
        refine Go.ifNo X141 hx (hb hby at_93) (by decide) (q := 96) rfl ?_
        refine Go.iload X141 hx (hb hby at_96) rfl (q := 98) rfl ?_
        refine Go.iload X141 hx (hb hby at_98) rfl (q := 100) rfl ?_
        refine Go.icmpNo X141 hx (hb hby at_100) (by decide) (q := 103) rfl ?_
        refine Go.iload X141 hx (hb hby at_103) rfl (q := 105) rfl ?_
        refine Go.aload X141 hx (hb hby at_105) rfl rfl (q := 107) rfl ?_
        refine Go.virt X141 hx hZ hown (wd36 hw) (wd37 hw) (notFace_of_selects (args := #[]) (mvT hZ (wd39 hw))) (wd39 hw) (wd38 hw) (wd2 hw) (wd40 hw) (by decide) (ccn1 l Z a0 hw b133 li_140 ((1 : Int32)) h140 OK140 P140_1 P140_5 P140_7) e141 A133 (by rw [hml]; rfl) (hb hby at_107) (argsL := []) (rest := [(.int 1)]) (lenOf pd8 rfl) rfl rfl (W := 1) (by first | exact Nat.le_refl _ | decide) (by decide) (by decide) (by decide) (by decide) ?_
        intro v142 T142 L142 X142 hQ142
        obtain ⟨rfl, N142q, e142⟩ := hQ142
        have N142 := Fr.app N141 N142q
        refine Go.iconst X142 hx (hb hby at_110) (r := (1 : Int32)) rfl (q := 111) rfl ?_
        refine Go.icmpNo X142 hx (hb hby at_111) (by decide) (q := 114) rfl ?_
        refine Go.iconst X142 hx (hb hby at_114) (r := (1 : Int32)) rfl (q := 115) rfl ?_
        refine Go.goto X142 hx (hb hby at_115) (q := 119) (by decide) (by decide) ?_
        refine Go.icmpNo X142 hx (hb hby at_119) (by decide) (q := 122) rfl ?_
        refine Go.iconst X142 hx (hb hby at_122) (r := (1 : Int32)) rfl (q := 123) rfl ?_
        refine Go.goto X142 hx (hb hby at_123) (q := 127) (by decide) (by decide) ?_
        refine Go.istore X142 hx (hb hby at_127) (l' := #[.val (.int pf), .val (.long t1), .second, .val (.long t2), .second, .val (.long ph), .second, .val (.int 1), .val (.int 0), .val (.ref b133), .val (.int 1), .val (.int 1), .val (.int 1), .unset, .unset, .unset, .unset, .unset, .unset, .unset]) rfl (q := 129) rfl ?_
        refine Go.aload X142 hx (hb hby at_129) rfl rfl (q := 131) rfl ?_
        refine Go.lloadN X142 hx (hb hby at_131) rfl (q := 132) rfl ?_
        refine Go.iconst X142 hx (hb hby at_132) (r := (2 : Int32)) rfl (q := 133) rfl ?_
        refine Go.callS X142 hx hZ hown (wd3 hw) (wd4 hw) (wd5 hw) (wd6 hw) (by decide) (cvalueOf2 l Z a0 hw ca h140 OK140 SH SC HC) e142 (by rw [hml]; rfl) (hb hby at_133) (argsL := [(.int 2)]) (rest := [(.long t2), (.ref b133)]) (lenOf pd19 rfl) rfl rfl (W := 3) (by first | exact Nat.le_refl _ | decide) (by decide) (by decide) (by decide) (by decide) ?_
        intro v143 T143 L143 X143 hQ143
        obtain ⟨b_143, rfl, N143q, e143, P143_0⟩ := hQ143
        have N143 := Fr.app N142 N143q
        rw [e143] at P143_0
        by_cases hc144 : t1 < t2
        · show Go pp ee below _ (T143.setTop (mkF mm 136 #[.val (.int pf), .val (.long t1), .second, .val (.long t2), .second, .val (.long ph), .second, .val (.int 1), .val (.int 0), .val (.ref b133), .val (.int 1), .val (.int 1), .val (.int 1), .unset, .unset, .unset, .unset, .unset, .unset, .unset] [(.ref b_143), (.long t2), (.ref b133)]))
          refine Go.virt X143 hx hZ hown (wd27 hw) (wd28 hw) (notFace_of_selects (args := #[]) (mvT hZ (wd30 hw))) (wd30 hw) (wd29 hw) (wd2 hw) (wd31 hw) (by decide) (cwBg l Z a0 hw b133 t2 b_143 t1 b_137 ((0 : Int64)) li_140 d_140 x0_140 ((0 : Int64)) ((1 : Int32)) (kd_140) b_134 h140 OK140 A133 g_b133 P140_0 P140_1 P140_2 P140_3 P140_4 P140_5 P140_6 P140_7 P140_8 P140_9 P140_11 P140_12 P140_13 g_li_140 g_d_140 g_x0_140 ne_b133_li_140 ne_b133_d_140 ne_b133_x0_140 P140_14 P140_15 P140_16 P140_10 hc144) e143 A133 (by rw [hml]; rfl) (hb hby at_136) (argsL := [(.long t2), (.ref b_143)]) (rest := []) (lenOf pd22 rfl) rfl rfl (W := 0) (by first | exact Nat.le_refl _ | decide) (by decide) (by decide) (by decide) (by decide) ?_
          intro v145 T145 L145 X145 hQ145
          obtain ⟨h145, e145⟩ : ∃ z, T145.heap = z := ⟨_, rfl⟩
          rw [e145] at hQ145
          obtain ⟨x1_145, rfl, N145q, K145, fr145_x1, P145_0, P145_1, P145_2, P145_3, P145_4, P145_5, P145_6, P145_7, P145_8, P145_9, P145_10⟩ := hQ145
          have N145 := Fr.app N143 N145q
          have ne_b133_x1_145 : b133 ≠ x1_145 := ne_new A133.lt fr145_x1
          have ne_b_134_x1_145 : b_134 ≠ x1_145 := ne_new P134_0.lt fr145_x1
          have ne_b_137_x1_145 : b_137 ≠ x1_145 := ne_new P137_0.lt fr145_x1
          have ne_li_140_x1_145 : li_140 ≠ x1_145 := ne_new P140_5.lt fr145_x1
          have ne_d_140_x1_145 : d_140 ≠ x1_145 := ne_new P140_9.lt fr145_x1
          have ne_x0_140_x1_145 : x0_140 ≠ x1_145 := ne_new P140_11.lt fr145_x1
          have ne_b_143_x1_145 : b_143 ≠ x1_145 := ne_new P143_0.lt fr145_x1
          have g_x1_145 : Z.heap.size ≤ x1_145 := Nat.le_trans OK140.1 fr145_x1
          replace A133 := A133.keep K145
          replace P134_0 := P134_0.keep K145
          replace P137_0 := P137_0.keep K145
          replace P140_5 := P140_5.keep K145
          replace P140_11 := P140_11.keep K145
          replace P140_12 := P140_12.keep K145 (ninS (Ne.symm ne_b133_x0_140) (ninS (Ne.symm P140_15) (ninS (Ne.symm P140_16) nin0)))
          replace P140_13 := P140_13.keep K145 (ninS (Ne.symm ne_b133_x0_140) (ninS (Ne.symm P140_15) (ninS (Ne.symm P140_16) nin0)))
          replace P143_0 := P143_0.keep K145
          have OK145 := ext_keep OK140 K145 (allS g_b133 (allS g_li_140 (allS g_d_140 all0)))
          refine Go.iload X145 hx (hb hby at_139) rfl (q := 141) rfl ?_
          refine Go.ifNo X145 hx (hb hby at_141) (by decide) (q := 144) rfl ?_
          refine Go.lloadN X145 hx (hb hby at_144) rfl (q := 145) rfl ?_
          refine Go.lconst X145 hx (hb hby at_145) (r := (0 : Int64)) rfl (q := 146) rfl ?_
          refine Go.lcmp X145 hx (hb hby at_146) rfl (q := 147) rfl ?_
          refine Go.ifYes X145 hx (hb hby at_147) (Jvm.Free.XT.ll_ne_t hk139) (q := 156) (by decide) (by decide) ?_
          refine Go.iconst X145 hx (hb hby at_156) (r := (1 : Int32)) rfl (q := 157) rfl ?_
          refine Go.goto X145 hx (hb hby at_157) (q := 161) (by decide) (by decide) ?_
          refine Go.istore X145 hx (hb hby at_161) (l' := #[.val (.int pf), .val (.long t1), .second, .val (.long t2), .second, .val (.long ph), .second, .val (.int 1), .val (.int 0), .val (.ref b133), .val (.int 1), .val (.int 1), .val (.int 1), .val (.int 1), .unset, .unset, .unset, .unset, .unset, .unset]) rfl (q := 163) rfl ?_
          refine Go.aload X145 hx (hb hby at_163) rfl rfl (q := 165) rfl ?_
          refine Go.virt X145 hx hZ hown (wd20 hw) (wd21 hw) (notFace_of_selects (args := #[]) (mvT hZ (wd23 hw))) (wd23 hw) (wd22 hw) (wd2 hw) (wd24 hw) (by decide) (cho1 l Z a0 hw b133 li_140 h145 OK145 P145_1) e145 A133 (by rw [hml]; rfl) (hb hby at_165) (argsL := []) (rest := []) (lenOf pd21 rfl) rfl rfl (W := 0) (by first | exact Nat.le_refl _ | decide) (by decide) (by decide) (by decide) (by decide) ?_
          intro v146 T146 L146 X146 hQ146
          obtain ⟨rfl, N146q, e146⟩ := hQ146
          have N146 := Fr.app N145 N146q
          refine Go.istore X146 hx (hb hby at_168) (l' := #[.val (.int pf), .val (.long t1), .second, .val (.long t2), .second, .val (.long ph), .second, .val (.int 1), .val (.int 0), .val (.ref b133), .val (.int 1), .val (.int 1), .val (.int 1), .val (.int 1), .val (.int 1), .unset, .unset, .unset, .unset, .unset]) rfl (q := 170) rfl ?_
          refine Go.iload X146 hx (hb hby at_170) rfl (q := 172) rfl ?_
          refine Go.ifNo X146 hx (hb hby at_172) (by decide) (q := 175) rfl ?_
          refine Go.iload X146 hx (hb hby at_175) rfl (q := 177) rfl ?_
          refine Go.iload X146 hx (hb hby at_177) rfl (q := 179) rfl ?_
          refine Go.icmpNo X146 hx (hb hby at_179) (by decide) (q := 182) rfl ?_
          refine Go.iload X146 hx (hb hby at_182) rfl (q := 184) rfl ?_
          refine Go.aload X146 hx (hb hby at_184) rfl rfl (q := 186) rfl ?_
          refine Go.virt X146 hx hZ hown (wd36 hw) (wd37 hw) (notFace_of_selects (args := #[]) (mvT hZ (wd39 hw))) (wd39 hw) (wd38 hw) (wd2 hw) (wd40 hw) (by decide) (ccn1 l Z a0 hw b133 li_140 ((2 : Int32)) h145 OK145 P145_1 P140_5 P145_6) e146 A133 (by rw [hml]; rfl) (hb hby at_186) (argsL := []) (rest := [(.int 1)]) (lenOf pd8 rfl) rfl rfl (W := 1) (by first | exact Nat.le_refl _ | decide) (by decide) (by decide) (by decide) (by decide) ?_
          intro v147 T147 L147 X147 hQ147
          obtain ⟨rfl, N147q, e147⟩ := hQ147
          have N147 := Fr.app N146 N147q
          refine Go.iconst X147 hx (hb hby at_189) (r := (1 : Int32)) rfl (q := 190) rfl ?_
          refine Go.icmpNo X147 hx (hb hby at_190) (by decide) (q := 193) rfl ?_
          refine Go.iconst X147 hx (hb hby at_193) (r := (1 : Int32)) rfl (q := 194) rfl ?_
          refine Go.goto X147 hx (hb hby at_194) (q := 198) (by decide) (by decide) ?_
          refine Go.icmpNo X147 hx (hb hby at_198) (by decide) (q := 201) rfl ?_
          refine Go.iconst X147 hx (hb hby at_201) (r := (1 : Int32)) rfl (q := 202) rfl ?_
          refine Go.goto X147 hx (hb hby at_202) (q := 206) (by decide) (by decide) ?_
          refine Go.istore X147 hx (hb hby at_206) (l' := #[.val (.int pf), .val (.long t1), .second, .val (.long t2), .second, .val (.long ph), .second, .val (.int 1), .val (.int 0), .val (.ref b133), .val (.int 1), .val (.int 1), .val (.int 1), .val (.int 1), .val (.int 1), .unset, .unset, .unset, .unset, .unset]) rfl (q := 208) rfl ?_
          refine Go.iload X147 hx (hb hby at_208) rfl (q := 210) rfl ?_
          refine Go.ifYes X147 hx (hb hby at_210) (by decide) (q := 305) (by decide) (by decide) ?_
          refine Go.iload X147 hx (hb hby at_305) rfl (q := 307) rfl ?_
          exact Go.retI X147 hx hret hlk (by simp) rfl (hb hby at_307) e147 (by decide) (by decide) ⟨rfl, N147⟩
        · by_cases ho148 : t2 = t1 ∨ (0 : Int64) = t2
          · show Go pp ee below _ (T143.setTop (mkF mm 136 #[.val (.int pf), .val (.long t1), .second, .val (.long t2), .second, .val (.long ph), .second, .val (.int 1), .val (.int 0), .val (.ref b133), .val (.int 1), .val (.int 1), .val (.int 1), .unset, .unset, .unset, .unset, .unset, .unset, .unset] [(.ref b_143), (.long t2), (.ref b133)]))
            refine Go.virt X143 hx hZ hown (wd27 hw) (wd28 hw) (notFace_of_selects (args := #[]) (mvT hZ (wd30 hw))) (wd30 hw) (wd29 hw) (wd2 hw) (wd31 hw) (by decide) (cwBs l Z a0 hw b133 t2 b_143 t1 b_137 ((0 : Int64)) li_140 d_140 x0_140 ((0 : Int64)) ((1 : Int32)) (kd_140) b_134 h140 OK140 A133 g_b133 P140_0 P140_1 P140_2 P140_3 P140_4 P140_5 P140_6 P140_7 P140_8 P140_9 P140_11 P140_12 P140_13 g_li_140 g_d_140 g_x0_140 ne_b133_li_140 ne_b133_d_140 ne_b133_x0_140 P140_14 P140_15 P140_16 P140_10 hc144 ho148) e143 A133 (by rw [hml]; rfl) (hb hby at_136) (argsL := [(.long t2), (.ref b_143)]) (rest := []) (lenOf pd22 rfl) rfl rfl (W := 0) (by first | exact Nat.le_refl _ | decide) (by decide) (by decide) (by decide) (by decide) ?_
            intro v149 T149 L149 X149 hQ149
            obtain ⟨h149, e149⟩ : ∃ z, T149.heap = z := ⟨_, rfl⟩
            rw [e149] at hQ149
            obtain ⟨v3_149, xv2_149, rfl, N149q, K149, P149_0, P149_1, P149_2, P149_3, P149_4, P149_5, P149_6⟩ := hQ149
            have N149 := Fr.app N143 N149q
            replace A133 := A133.keep K149
            replace P134_0 := P134_0.keep K149
            replace P137_0 := P137_0.keep K149
            replace P140_5 := P140_5.keep K149
            replace P140_6 := P140_6.keep K149 (ninS (Ne.symm ne_b133_li_140) (ninS P140_15 nin0))
            replace P140_7 := P140_7.keep K149 (ninS (Ne.symm ne_b133_li_140) (ninS P140_15 nin0))
            replace P140_8 := P140_8.keep K149 (ninS (Ne.symm ne_b133_li_140) (ninS P140_15 nin0))
            replace P140_9 := P140_9.keep K149 (ninS (Ne.symm ne_b133_d_140) (ninS P140_16 nin0))
            replace P140_11 := P140_11.keep K149
            replace P143_0 := P143_0.keep K149
            have OK149 := ext_keep OK140 K149 (allS g_b133 (allS g_x0_140 all0))
            refine Go.iload X149 hx (hb hby at_139) rfl (q := 141) rfl ?_
            refine Go.ifNo X149 hx (hb hby at_141) (by decide) (q := 144) rfl ?_
            refine Go.lloadN X149 hx (hb hby at_144) rfl (q := 145) rfl ?_
            refine Go.lconst X149 hx (hb hby at_145) (r := (0 : Int64)) rfl (q := 146) rfl ?_
            refine Go.lcmp X149 hx (hb hby at_146) rfl (q := 147) rfl ?_
            refine Go.ifYes X149 hx (hb hby at_147) (Jvm.Free.XT.ll_ne_t hk139) (q := 156) (by decide) (by decide) ?_
            refine Go.iconst X149 hx (hb hby at_156) (r := (1 : Int32)) rfl (q := 157) rfl ?_
            refine Go.goto X149 hx (hb hby at_157) (q := 161) (by decide) (by decide) ?_
            refine Go.istore X149 hx (hb hby at_161) (l' := #[.val (.int pf), .val (.long t1), .second, .val (.long t2), .second, .val (.long ph), .second, .val (.int 1), .val (.int 0), .val (.ref b133), .val (.int 1), .val (.int 1), .val (.int 1), .val (.int 1), .unset, .unset, .unset, .unset, .unset, .unset]) rfl (q := 163) rfl ?_
            refine Go.aload X149 hx (hb hby at_163) rfl rfl (q := 165) rfl ?_
            refine Go.virt X149 hx hZ hown (wd20 hw) (wd21 hw) (notFace_of_selects (args := #[]) (mvT hZ (wd23 hw))) (wd23 hw) (wd22 hw) (wd2 hw) (wd24 hw) (by decide) (cho1 l Z a0 hw b133 li_140 h149 OK149 P149_1) e149 A133 (by rw [hml]; rfl) (hb hby at_165) (argsL := []) (rest := []) (lenOf pd21 rfl) rfl rfl (W := 0) (by first | exact Nat.le_refl _ | decide) (by decide) (by decide) (by decide) (by decide) ?_
            intro v150 T150 L150 X150 hQ150
            obtain ⟨rfl, N150q, e150⟩ := hQ150
            have N150 := Fr.app N149 N150q
            refine Go.istore X150 hx (hb hby at_168) (l' := #[.val (.int pf), .val (.long t1), .second, .val (.long t2), .second, .val (.long ph), .second, .val (.int 1), .val (.int 0), .val (.ref b133), .val (.int 1), .val (.int 1), .val (.int 1), .val (.int 1), .val (.int 1), .unset, .unset, .unset, .unset, .unset]) rfl (q := 170) rfl ?_
            refine Go.iload X150 hx (hb hby at_170) rfl (q := 172) rfl ?_
            refine Go.ifNo X150 hx (hb hby at_172) (by decide) (q := 175) rfl ?_
            refine Go.iload X150 hx (hb hby at_175) rfl (q := 177) rfl ?_
            refine Go.iload X150 hx (hb hby at_177) rfl (q := 179) rfl ?_
            refine Go.icmpNo X150 hx (hb hby at_179) (by decide) (q := 182) rfl ?_
            refine Go.iload X150 hx (hb hby at_182) rfl (q := 184) rfl ?_
            refine Go.aload X150 hx (hb hby at_184) rfl rfl (q := 186) rfl ?_
            refine Go.virt X150 hx hZ hown (wd36 hw) (wd37 hw) (notFace_of_selects (args := #[]) (mvT hZ (wd39 hw))) (wd39 hw) (wd38 hw) (wd2 hw) (wd40 hw) (by decide) (ccn1 l Z a0 hw b133 li_140 ((1 : Int32)) h149 OK149 P149_1 P140_5 P140_7) e150 A133 (by rw [hml]; rfl) (hb hby at_186) (argsL := []) (rest := [(.int 1)]) (lenOf pd8 rfl) rfl rfl (W := 1) (by first | exact Nat.le_refl _ | decide) (by decide) (by decide) (by decide) (by decide) ?_
            intro v151 T151 L151 X151 hQ151
            obtain ⟨rfl, N151q, e151⟩ := hQ151
            have N151 := Fr.app N150 N151q
            refine Go.iconst X151 hx (hb hby at_189) (r := (1 : Int32)) rfl (q := 190) rfl ?_
            refine Go.icmpNo X151 hx (hb hby at_190) (by decide) (q := 193) rfl ?_
            refine Go.iconst X151 hx (hb hby at_193) (r := (1 : Int32)) rfl (q := 194) rfl ?_
            refine Go.goto X151 hx (hb hby at_194) (q := 198) (by decide) (by decide) ?_
            refine Go.icmpNo X151 hx (hb hby at_198) (by decide) (q := 201) rfl ?_
            refine Go.iconst X151 hx (hb hby at_201) (r := (1 : Int32)) rfl (q := 202) rfl ?_
            refine Go.goto X151 hx (hb hby at_202) (q := 206) (by decide) (by decide) ?_
            refine Go.istore X151 hx (hb hby at_206) (l' := #[.val (.int pf), .val (.long t1), .second, .val (.long t2), .second, .val (.long ph), .second, .val (.int 1), .val (.int 0), .val (.ref b133), .val (.int 1), .val (.int 1), .val (.int 1), .val (.int 1), .val (.int 1), .unset, .unset, .unset, .unset, .unset]) rfl (q := 208) rfl ?_
            refine Go.iload X151 hx (hb hby at_208) rfl (q := 210) rfl ?_
            refine Go.ifYes X151 hx (hb hby at_210) (by decide) (q := 305) (by decide) (by decide) ?_
            refine Go.iload X151 hx (hb hby at_305) rfl (q := 307) rfl ?_
            exact Go.retI X151 hx hret hlk (by simp) rfl (hb hby at_307) e151 (by decide) (by decide) ⟨rfl, N151⟩
          · have hk152 : ¬ (t2 = t1) := fun q => ho148 (Or.inl q)
            have hk153 : ¬ ((0 : Int64) = t2) := fun q => ho148 (Or.inr q)
            show Go pp ee below _ (T143.setTop (mkF mm 136 #[.val (.int pf), .val (.long t1), .second, .val (.long t2), .second, .val (.long ph), .second, .val (.int 1), .val (.int 0), .val (.ref b133), .val (.int 1), .val (.int 1), .val (.int 1), .unset, .unset, .unset, .unset, .unset, .unset, .unset] [(.ref b_143), (.long t2), (.ref b133)]))
            refine Go.virt X143 hx hZ hown (wd27 hw) (wd28 hw) (notFace_of_selects (args := #[]) (mvT hZ (wd30 hw))) (wd30 hw) (wd29 hw) (wd2 hw) (wd31 hw) (by decide) (cwBn l Z a0 hw b133 t2 b_143 t1 b_137 ((0 : Int64)) li_140 d_140 x0_140 ((0 : Int64)) ((1 : Int32)) (kd_140) b_134 h140 OK140 A133 g_b133 P140_0 P140_1 P140_2 P140_3 P140_4 P140_5 P140_6 P140_7 P140_8 P140_9 P140_11 P140_12 P140_13 g_li_140 g_d_140 g_x0_140 ne_b133_li_140 ne_b133_d_140 ne_b133_x0_140 P140_14 P140_15 P140_16 P140_10 hc144 hk152 hk153) e143 A133 (by rw [hml]; rfl) (hb hby at_136) (argsL := [(.long t2), (.ref b_143)]) (rest := []) (lenOf pd22 rfl) rfl rfl (W := 0) (by first | exact Nat.le_refl _ | decide) (by decide) (by decide) (by decide) (by decide) ?_
            intro v154 T154 L154 X154 hQ154
            obtain ⟨h154, e154⟩ : ∃ z, T154.heap = z := ⟨_, rfl⟩
            rw [e154] at hQ154
            obtain ⟨yA_154, yB_154, u0_154, u1_154, rfl, N154q, K154, P154_0, P154_1, P154_2, P154_3, P154_4, P154_5, P154_6, P154_7⟩ := hQ154
            have N154 := Fr.app N143 N154q
            replace A133 := A133.keep K154
            replace P134_0 := P134_0.keep K154
            replace P137_0 := P137_0.keep K154
            replace P140_0 := P140_0.keep K154 (ninS ne_b133_li_140 (ninS ne_b133_d_140 nin0))
            replace P140_1 := P140_1.keep K154 (ninS ne_b133_li_140 (ninS ne_b133_d_140 nin0))
            replace P140_2 := P140_2.keep K154 (ninS ne_b133_li_140 (ninS ne_b133_d_140 nin0))
            replace P140_3 := P140_3.keep K154 (ninS ne_b133_li_140 (ninS ne_b133_d_140 nin0))
            replace P140_4 := P140_4.keep K154 (ninS ne_b133_li_140 (ninS ne_b133_d_140 nin0))
            replace P140_5 := P140_5.keep K154
            replace P140_11 := P140_11.keep K154
            replace P140_12 := P140_12.keep K154 (ninS (Ne.symm P140_15) (ninS (Ne.symm P140_16) nin0))
            replace P140_13 := P140_13.keep K154 (ninS (Ne.symm P140_15) (ninS (Ne.symm P140_16) nin0))
            replace P143_0 := P143_0.keep K154
            have OK154 := ext_keep OK140 K154 (allS g_li_140 (allS g_d_140 all0))
            refine Go.iload X154 hx (hb hby at_139) rfl (q := 141) rfl ?_
            refine Go.ifNo X154 hx (hb hby at_141) (by decide) (q := 144) rfl ?_
            refine Go.lloadN X154 hx (hb hby at_144) rfl (q := 145) rfl ?_
            refine Go.lconst X154 hx (hb hby at_145) (r := (0 : Int64)) rfl (q := 146) rfl ?_
            refine Go.lcmp X154 hx (hb hby at_146) rfl (q := 147) rfl ?_
            refine Go.ifYes X154 hx (hb hby at_147) (Jvm.Free.XT.ll_ne_t hk139) (q := 156) (by decide) (by decide) ?_
            refine Go.iconst X154 hx (hb hby at_156) (r := (1 : Int32)) rfl (q := 157) rfl ?_
            refine Go.goto X154 hx (hb hby at_157) (q := 161) (by decide) (by decide) ?_
            refine Go.istore X154 hx (hb hby at_161) (l' := #[.val (.int pf), .val (.long t1), .second, .val (.long t2), .second, .val (.long ph), .second, .val (.int 1), .val (.int 0), .val (.ref b133), .val (.int 1), .val (.int 1), .val (.int 1), .val (.int 1), .unset, .unset, .unset, .unset, .unset, .unset]) rfl (q := 163) rfl ?_
            refine Go.aload X154 hx (hb hby at_163) rfl rfl (q := 165) rfl ?_
            refine Go.virt X154 hx hZ hown (wd20 hw) (wd21 hw) (notFace_of_selects (args := #[]) (mvT hZ (wd23 hw))) (wd23 hw) (wd22 hw) (wd2 hw) (wd24 hw) (by decide) (cho1 l Z a0 hw b133 li_140 h154 OK154 P140_1) e154 A133 (by rw [hml]; rfl) (hb hby at_165) (argsL := []) (rest := []) (lenOf pd21 rfl) rfl rfl (W := 0) (by first | exact Nat.le_refl _ | decide) (by decide) (by decide) (by decide) (by decide) ?_
            intro v155 T155 L155 X155 hQ155
            obtain ⟨rfl, N155q, e155⟩ := hQ155
            have N155 := Fr.app N154 N155q
            refine Go.istore X155 hx (hb hby at_168) (l' := #[.val (.int pf), .val (.long t1), .second, .val (.long t2), .second, .val (.long ph), .second, .val (.int 1), .val (.int 0), .val (.ref b133), .val (.int 1), .val (.int 1), .val (.int 1), .val (.int 1), .val (.int 1), .unset, .unset, .unset, .unset, .unset]) rfl (q := 170) rfl ?_
            refine Go.iload X155 hx (hb hby at_170) rfl (q := 172) rfl ?_
            refine Go.ifNo X155 hx (hb hby at_172) (by decide) (q := 175) rfl ?_
            refine Go.iload X155 hx (hb hby at_175) rfl (q := 177) rfl ?_
            refine Go.iload X155 hx (hb hby at_177) rfl (q := 179) rfl ?_
            refine Go.icmpNo X155 hx (hb hby at_179) (by decide) (q := 182) rfl ?_
            refine Go.iload X155 hx (hb hby at_182) rfl (q := 184) rfl ?_
            refine Go.aload X155 hx (hb hby at_184) rfl rfl (q := 186) rfl ?_
            refine Go.virt X155 hx hZ hown (wd36 hw) (wd37 hw) (notFace_of_selects (args := #[]) (mvT hZ (wd39 hw))) (wd39 hw) (wd38 hw) (wd2 hw) (wd40 hw) (by decide) (ccn1 l Z a0 hw b133 li_140 ((2 : Int32)) h154 OK154 P140_1 P140_5 P154_1) e155 A133 (by rw [hml]; rfl) (hb hby at_186) (argsL := []) (rest := [(.int 1)]) (lenOf pd8 rfl) rfl rfl (W := 1) (by first | exact Nat.le_refl _ | decide) (by decide) (by decide) (by decide) (by decide) ?_
            intro v156 T156 L156 X156 hQ156
            obtain ⟨rfl, N156q, e156⟩ := hQ156
            have N156 := Fr.app N155 N156q
            refine Go.iconst X156 hx (hb hby at_189) (r := (1 : Int32)) rfl (q := 190) rfl ?_
            refine Go.icmpNo X156 hx (hb hby at_190) (by decide) (q := 193) rfl ?_
            refine Go.iconst X156 hx (hb hby at_193) (r := (1 : Int32)) rfl (q := 194) rfl ?_
            refine Go.goto X156 hx (hb hby at_194) (q := 198) (by decide) (by decide) ?_
            refine Go.icmpNo X156 hx (hb hby at_198) (by decide) (q := 201) rfl ?_
            refine Go.iconst X156 hx (hb hby at_201) (r := (1 : Int32)) rfl (q := 202) rfl ?_
            refine Go.goto X156 hx (hb hby at_202) (q := 206) (by decide) (by decide) ?_
            refine Go.istore X156 hx (hb hby at_206) (l' := #[.val (.int pf), .val (.long t1), .second, .val (.long t2), .second, .val (.long ph), .second, .val (.int 1), .val (.int 0), .val (.ref b133), .val (.int 1), .val (.int 1), .val (.int 1), .val (.int 1), .val (.int 1), .unset, .unset, .unset, .unset, .unset]) rfl (q := 208) rfl ?_
            refine Go.iload X156 hx (hb hby at_208) rfl (q := 210) rfl ?_
            refine Go.ifYes X156 hx (hb hby at_210) (by decide) (q := 305) (by decide) (by decide) ?_
            refine Go.iload X156 hx (hb hby at_305) rfl (q := 307) rfl ?_
            exact Go.retI X156 hx hret hlk (by simp) rfl (hb hby at_307) e156 (by decide) (by decide) ⟨rfl, N156⟩
      · by_cases hc157 : t1 = (0 : Int64)
        · show Go pp ee below _ (T137.setTop (mkF mm 63 #[.val (.int pf), .val (.long t1), .second, .val (.long t2), .second, .val (.long ph), .second, .val (.int 1), .val (.int 0), .val (.ref b133), .val (.int 1), .unset, .unset, .unset, .unset, .unset, .unset, .unset, .unset, .unset] [(.ref b_137), (.long t1), (.ref b133)]))
          refine Go.virt X137 hx hZ hown (wd27 hw) (wd28 hw) (notFace_of_selects (args := #[]) (mvT hZ (wd30 hw))) (wd30 hw) (wd29 hw) (wd2 hw) (wd31 hw) (by decide) (cwAe l Z a0 hw b133 t1 b_137 ((0 : Int64)) b_134 ((0 : Int64)) h135 OK135 A133 g_b133 P135_0 P135_1 P135_2 P135_3 P135_4 hc138 hc157) e137 A133 (by rw [hml]; rfl) (hb hby at_63) (argsL := [(.long t1), (.ref b_137)]) (rest := []) (lenOf pd22 rfl) rfl rfl (W := 0) (by first | exact Nat.le_refl _ | decide) (by decide) (by decide) (by decide) (by decide) ?_
          intro v158 T158 L158 X158 hQ158
          obtain ⟨h158, e158⟩ : ∃ z, T158.heap = z := ⟨_, rfl⟩
          rw [e158] at hQ158
          obtain ⟨rfl, N158q, K158, P158_0, P158_1, P158_2, P158_3, P158_4⟩ := hQ158
          have N158 := Fr.app N137 N158q
          replace A133 := A133.keep K158
          replace P134_0 := P134_0.keep K158
          replace P137_0 := P137_0.keep K158
          have OK158 := ext_keep OK135 K158 (allS g_b133 all0)
          refine Go.iload X158 hx (hb hby at_66) rfl (q := 68) rfl ?_
          refine Go.ifNo X158 hx (hb hby at_68) (by decide) (q := 71) rfl ?_
          refine Go.lloadN X158 hx (hb hby at_71) rfl (q := 72) rfl ?_
          refine Go.lconst X158 hx (hb hby at_72) (r := (0 : Int64)) rfl (q := 73) rfl ?_
          refine Go.lcmp X158 hx (hb hby at_73) rfl (q := 74) rfl ?_
          refine Go.ifYes X158 hx (hb hby at_74) (Jvm.Free.XT.ll_eq_t hc157) (q := 81) (by decide) (by decide) ?_
          refine Go.iconst X158 hx (hb hby at_81) (r := (0 : Int32)) rfl (q := 82) rfl ?_
          refine Go.istore X158 hx (hb hby at_82) (l' := #[.val (.int pf), .val (.long t1), .second, .val (.long t2), .second, .val (.long ph), .second, .val (.int 1), .val (.int 0), .val (.ref b133), .val (.int 1), .val (.int 0), .unset, .unset, .unset, .unset, .unset, .unset, .unset, .unset]) rfl (q := 84) rfl ?_
          refine Go.aload X158 hx (hb hby at_84) rfl rfl (q := 86) rfl ?_
          refine Go.virt X158 hx hZ hown (wd20 hw) (wd21 hw) (notFace_of_selects (args := #[]) (mvT hZ (wd23 hw))) (wd23 hw) (wd22 hw) (wd2 hw) (wd24 hw) (by decide) (cho0 l Z a0 hw b133 h158 OK158 P158_1) e158 A133 (by rw [hml]; rfl) (hb hby at_86) (argsL := []) (rest := []) (lenOf pd21 rfl) rfl rfl (W := 0) (by first | exact Nat.le_refl _ | decide) (by decide) (by decide) (by decide) (by decide) ?_
          intro v159 T159 L159 X159 hQ159
          obtain ⟨rfl, N159q, e159⟩ := hQ159
          have N159 := Fr.app N158 N159q
          refine Go.istore X159 hx (hb hby at_89) (l' := #[.val (.int pf), .val (.long t1), .second, .val (.long t2), .second, .val (.long ph), .second, .val (.int 1), .val (.int 0), .val (.ref b133), .val (.int 1), .val (.int 0), .val (.int 0), .unset, .unset, .unset, .unset, .unset, .unset, .unset]) rfl (q := 91) rfl ?_
          refine Go.iload X159 hx (hb hby at_91) rfl (q := 93) rfl ?_
          refine Go.ifNo X159 hx (hb hby at_93) (by decide) (q := 96) rfl ?_
          refine Go.iload X159 hx (hb hby at_96) rfl (q := 98) rfl ?_
          refine Go.iload X159 hx (hb hby at_98) rfl (q := 100) rfl ?_
          refine Go.icmpNo X159 hx (hb hby at_100) (by decide) (q := 103) rfl ?_
          refine Go.iload X159 hx (hb hby at_103) rfl (q := 105) rfl ?_
          refine Go.aload X159 hx (hb hby at_105) rfl rfl (q := 107) rfl ?_
          refine Go.virt X159 hx hZ hown (wd36 hw) (wd37 hw) (notFace_of_selects (args := #[]) (mvT hZ (wd39 hw))) (wd39 hw) (wd38 hw) (wd2 hw) (wd40 hw) (by decide) (ccn0 l Z a0 hw b133 h158 OK158 P158_1) e159 A133 (by rw [hml]; rfl) (hb hby at_107) (argsL := []) (rest := [(.int 0)]) (lenOf pd8 rfl) rfl rfl (W := 1) (by first | exact Nat.le_refl _ | decide) (by decide) (by decide) (by decide) (by decide) ?_
          intro v160 T160 L160 X160 hQ160
          obtain ⟨rfl, N160q, e160⟩ := hQ160
          have N160 := Fr.app N159 N160q
          refine Go.iconst X160 hx (hb hby at_110) (r := (1 : Int32)) rfl (q := 111) rfl ?_
          refine Go.icmpYes X160 hx (hb hby at_111) (by decide) (q := 118) (by decide) (by decide) ?_
          refine Go.iconst X160 hx (hb hby at_118) (r := (0 : Int32)) rfl (q := 119) rfl ?_
          refine Go.icmpNo X160 hx (hb hby at_119) (by decide) (q := 122) rfl ?_
          refine Go.iconst X160 hx (hb hby at_122) (r := (1 : Int32)) rfl (q := 123) rfl ?_
          refine Go.goto X160 hx (hb hby at_123) (q := 127) (by decide) (by decide) ?_
          refine Go.istore X160 hx (hb hby at_127) (l' := #[.val (.int pf), .val (.long t1), .second, .val (.long t2), .second, .val (.long ph), .second, .val (.int 1), .val (.int 0), .val (.ref b133), .val (.int 1), .val (.int 0), .val (.int 0), .unset, .unset, .unset, .unset, .unset, .unset, .unset]) rfl (q := 129) rfl ?_
          refine Go.aload X160 hx (hb hby at_129) rfl rfl (q := 131) rfl ?_
          refine Go.lloadN X160 hx (hb hby at_131) rfl (q := 132) rfl ?_
          refine Go.iconst X160 hx (hb hby at_132) (r := (2 : Int32)) rfl (q := 133) rfl ?_
          refine Go.callS X160 hx hZ hown (wd3 hw) (wd4 hw) (wd5 hw) (wd6 hw) (by decide) (cvalueOf2 l Z a0 hw ca h158 OK158 SH SC HC) e160 (by rw [hml]; rfl) (hb hby at_133) (argsL := [(.int 2)]) (rest := [(.long t2), (.ref b133)]) (lenOf pd19 rfl) rfl rfl (W := 3) (by first | exact Nat.le_refl _ | decide) (by decide) (by decide) (by decide) (by decide) ?_
          intro v161 T161 L161 X161 hQ161
          obtain ⟨b_161, rfl, N161q, e161, P161_0⟩ := hQ161
          have N161 := Fr.app N160 N161q
          rw [e161] at P161_0
          by_cases hc162 : (0 : Int64) < t2
          · have hk163 : ¬ (t2 = (0 : Int64)) := own_gtne hc162
            show Go pp ee below _ (T161.setTop (mkF mm 136 #[.val (.int pf), .val (.long t1), .second, .val (.long t2), .second, .val (.long ph), .second, .val (.int 1), .val (.int 0), .val (.ref b133), .val (.int 1), .val (.int 0), .val (.int 0), .unset, .unset, .unset, .unset, .unset, .unset, .unset] [(.ref b_161), (.long t2), (.ref b133)]))
            refine Go.virt X161 hx hZ hown (wd27 hw) (wd28 hw) (notFace_of_selects (args := #[]) (mvT hZ (wd30 hw))) (wd30 hw) (wd29 hw) (wd2 hw) (wd31 hw) (by decide) (cwAg l Z a0 hw b133 t2 b_161 ((0 : Int64)) b_137 ((0 : Int64)) de h158 OK158 A133 g_b133 P158_0 P158_1 P158_2 P158_3 P158_4 SD LD hc162) e161 A133 (by rw [hml]; rfl) (hb hby at_136) (argsL := [(.long t2), (.ref b_161)]) (rest := []) (lenOf pd22 rfl) rfl rfl (W := 0) (by first | exact Nat.le_refl _ | decide) (by decide) (by decide) (by decide) (by decide) ?_
            intro v164 T164 L164 X164 hQ164
            obtain ⟨h164, e164⟩ : ∃ z, T164.heap = z := ⟨_, rfl⟩
            rw [e164] at hQ164
            obtain ⟨li_164, d_164, x0_164, kd_164, rfl, N164q, K164, fr164_li, fr164_d, fr164_x0, P164_0, P164_1, P164_2, P164_3, P164_4, P164_5, P164_6, P164_7, P164_8, P164_9, P164_10, P164_11, P164_12, P164_13, P164_14, P164_15, P164_16⟩ := hQ164
            have N164 := Fr.app N161 N164q
            have ne_b133_li_164 : b133 ≠ li_164 := ne_new A133.lt fr164_li
            have ne_b_134_li_164 : b_134 ≠ li_164 := ne_new P134_0.lt fr164_li
            have ne_b_137_li_164 : b_137 ≠ li_164 := ne_new P137_0.lt fr164_li
            have ne_b_161_li_164 : b_161 ≠ li_164 := ne_new P161_0.lt fr164_li
            have g_li_164 : Z.heap.size ≤ li_164 := Nat.le_trans OK158.1 fr164_li
            have ne_b133_d_164 : b133 ≠ d_164 := ne_new A133.lt fr164_d
            have ne_b_134_d_164 : b_134 ≠ d_164 := ne_new P134_0.lt fr164_d
            have ne_b_137_d_164 : b_137 ≠ d_164 := ne_new P137_0.lt fr164_d
            have ne_b_161_d_164 : b_161 ≠ d_164 := ne_new P161_0.lt fr164_d
            have g_d_164 : Z.heap.size ≤ d_164 := Nat.le_trans OK158.1 fr164_d
            have ne_b133_x0_164 : b133 ≠ x0_164 := ne_new A133.lt fr164_x0
            have ne_b_134_x0_164 : b_134 ≠ x0_164 := ne_new P134_0.lt fr164_x0
            have ne_b_137_x0_164 : b_137 ≠ x0_164 := ne_new P137_0.lt fr164_x0
            have ne_b_161_x0_164 : b_161 ≠ x0_164 := ne_new P161_0.lt fr164_x0
            have g_x0_164 : Z.heap.size ≤ x0_164 := Nat.le_trans OK158.1 fr164_x0
            replace A133 := A133.keep K164
            replace P134_0 := P134_0.keep K164
            replace P137_0 := P137_0.keep K164
            replace P161_0 := P161_0.keep K164
            have OK164 := ext_keep OK158 K164 (allS g_b133 all0)
            refine Go.iload X164 hx (hb hby at_139) rfl (q := 141) rfl ?_
            refine Go.ifNo X164 hx (hb hby at_141) (by decide) (q := 144) rfl ?_
            refine Go.lloadN X164 hx (hb hby at_144) rfl (q := 145) rfl ?_
            refine Go.lconst X164 hx (hb hby at_145) (r := (0 : Int64)) rfl (q := 146) rfl ?_
            refine Go.lcmp X164 hx (hb hby at_146) rfl (q := 147) rfl ?_
            refine Go.ifNo X164 hx (hb hby at_147) (Jvm.Free.XT.ll_ne_f hc157) (q := 150) rfl ?_
            refine Go.lloadN X164 hx (hb hby at_150) rfl (q := 151) rfl ?_
            refine Go.lconst X164 hx (hb hby at_151) (r := (0 : Int64)) rfl (q := 152) rfl ?_
            refine Go.lcmp X164 hx (hb hby at_152) rfl (q := 153) rfl ?_
            refine Go.ifNo X164 hx (hb hby at_153) (Jvm.Free.XT.ll_eq_f hk163) (q := 156) rfl ?_
            refine Go.iconst X164 hx (hb hby at_156) (r := (1 : Int32)) rfl (q := 157) rfl ?_
            refine Go.goto X164 hx (hb hby at_157) (q := 161) (by decide) (by decide) ?_
            refine Go.istore X164 hx (hb hby at_161) (l' := #[.val (.int pf), .val (.long t1), .second, .val (.long t2), .second, .val (.long ph), .second, .val (.int 1), .val (.int 0), .val (.ref b133), .val (.int 1), .val (.int 0), .val (.int 0), .val (.int 1), .unset, .unset, .unset, .unset, .unset, .unset]) rfl (q := 163) rfl ?_
            refine Go.aload X164 hx (hb hby at_163) rfl rfl (q := 165) rfl ?_
            refine Go.virt X164 hx hZ hown (wd20 hw) (wd21 hw) (notFace_of_selects (args := #[]) (mvT hZ (wd23 hw))) (wd23 hw) (wd22 hw) (wd2 hw) (wd24 hw) (by decide) (cho1 l Z a0 hw b133 li_164 h164 OK164 P164_1) e164 A133 (by rw [hml]; rfl) (hb hby at_165) (argsL := []) (rest := []) (lenOf pd21 rfl) rfl rfl (W := 0) (by first | exact Nat.le_refl _ | decide) (by decide) (by decide) (by decide) (by decide) ?_
            intro v165 T165 L165 X165 hQ165
            obtain ⟨rfl, N165q, e165⟩ := hQ165
            have N165 := Fr.app N164 N165q
            refine Go.istore X165 hx (hb hby at_168) (l' := #[.val (.int pf), .val (.long t1), .second, .val (.long t2), .second, .val (.long ph), .second, .val (.int 1), .val (.int 0), .val (.ref b133), .val (.int 1), .val (.int 0), .val (.int 0), .val (.int 1), .val (.int 1), .unset, .unset, .unset, .unset, .unset]) rfl (q := 170) rfl ?_
            refine Go.iload X165 hx (hb hby at_170) rfl (q := 172) rfl ?_
            refine Go.ifNo X165 hx (hb hby at_172) (by decide) (q := 175) rfl ?_
            refine Go.iload X165 hx (hb hby at_175) rfl (q := 177) rfl ?_
            refine Go.iload X165 hx (hb hby at_177) rfl (q := 179) rfl ?_
            refine Go.icmpNo X165 hx (hb hby at_179) (by decide) (q := 182) rfl ?_
            refine Go.iload X165 hx (hb hby at_182) rfl (q := 184) rfl ?_
            refine Go.aload X165 hx (hb hby at_184) rfl rfl (q := 186) rfl ?_
            refine Go.virt X165 hx hZ hown (wd36 hw) (wd37 hw) (notFace_of_selects (args := #[]) (mvT hZ (wd39 hw))) (wd39 hw) (wd38 hw) (wd2 hw) (wd40 hw) (by decide) (ccn1 l Z a0 hw b133 li_164 ((1 : Int32)) h164 OK164 P164_1 P164_5 P164_7) e165 A133 (by rw [hml]; rfl) (hb hby at_186) (argsL := []) (rest := [(.int 1)]) (lenOf pd8 rfl) rfl rfl (W := 1) (by first | exact Nat.le_refl _ | decide) (by decide) (by decide) (by decide) (by decide) ?_
            intro v166 T166 L166 X166 hQ166
            obtain ⟨rfl, N166q, e166⟩ := hQ166
            have N166 := Fr.app N165 N166q
            refine Go.iconst X166 hx (hb hby at_189) (r := (1 : Int32)) rfl (q := 190) rfl ?_
            refine Go.icmpNo X166 hx (hb hby at_190) (by decide) (q := 193) rfl ?_
            refine Go.iconst X166 hx (hb hby at_193) (r := (1 : Int32)) rfl (q := 194) rfl ?_
            refine Go.goto X166 hx (hb hby at_194) (q := 198) (by decide) (by decide) ?_
            refine Go.icmpNo X166 hx (hb hby at_198) (by decide) (q := 201) rfl ?_
            refine Go.iconst X166 hx (hb hby at_201) (r := (1 : Int32)) rfl (q := 202) rfl ?_
            refine Go.goto X166 hx (hb hby at_202) (q := 206) (by decide) (by decide) ?_
            refine Go.istore X166 hx (hb hby at_206) (l' := #[.val (.int pf), .val (.long t1), .second, .val (.long t2), .second, .val (.long ph), .second, .val (.int 1), .val (.int 0), .val (.ref b133), .val (.int 1), .val (.int 0), .val (.int 0), .val (.int 1), .val (.int 1), .unset, .unset, .unset, .unset, .unset]) rfl (q := 208) rfl ?_
            refine Go.iload X166 hx (hb hby at_208) rfl (q := 210) rfl ?_
            refine Go.ifYes X166 hx (hb hby at_210) (by decide) (q := 305) (by decide) (by decide) ?_
            refine Go.iload X166 hx (hb hby at_305) rfl (q := 307) rfl ?_
            exact Go.retI X166 hx hret hlk (by simp) rfl (hb hby at_307) e166 (by decide) (by decide) ⟨rfl, N166⟩
          · by_cases hc167 : t2 = (0 : Int64)
            · show Go pp ee below _ (T161.setTop (mkF mm 136 #[.val (.int pf), .val (.long t1), .second, .val (.long t2), .second, .val (.long ph), .second, .val (.int 1), .val (.int 0), .val (.ref b133), .val (.int 1), .val (.int 0), .val (.int 0), .unset, .unset, .unset, .unset, .unset, .unset, .unset] [(.ref b_161), (.long t2), (.ref b133)]))
              refine Go.virt X161 hx hZ hown (wd27 hw) (wd28 hw) (notFace_of_selects (args := #[]) (mvT hZ (wd30 hw))) (wd30 hw) (wd29 hw) (wd2 hw) (wd31 hw) (by decide) (cwAe l Z a0 hw b133 t2 b_161 ((0 : Int64)) b_137 ((0 : Int64)) h158 OK158 A133 g_b133 P158_0 P158_1 P158_2 P158_3 P158_4 hc162 hc167) e161 A133 (by rw [hml]; rfl) (hb hby at_136) (argsL := [(.long t2), (.ref b_161)]) (rest := []) (lenOf pd22 rfl) rfl rfl (W := 0) (by first | exact Nat.le_refl _ | decide) (by decide) (by decide) (by decide) (by decide) ?_
              intro v168 T168 L168 X168 hQ168
              obtain ⟨h168, e168⟩ : ∃ z, T168.heap = z := ⟨_, rfl⟩
              rw [e168] at hQ168
              obtain ⟨rfl, N168q, K168, P168_0, P168_1, P168_2, P168_3, P168_4⟩ := hQ168
              have N168 := Fr.app N161 N168q
              replace A133 := A133.keep K168
              replace P134_0 := P134_0.keep K168
              replace P137_0 := P137_0.keep K168
              replace P161_0 := P161_0.keep K168
              have OK168 := ext_keep OK158 K168 (allS g_b133 all0)
              refine Go.iload X168 hx (hb hby at_139) rfl (q := 141) rfl ?_
              refine Go.ifNo X168 hx (hb hby at_141) (by decide) (q := 144) rfl ?_
              refine Go.lloadN X168 hx (hb hby at_144) rfl (q := 145) rfl ?_
              refine Go.lconst X168 hx (hb hby at_145) (r := (0 : Int64)) rfl (q := 146) rfl ?_
              refine Go.lcmp X168 hx (hb hby at_146) rfl (q := 147) rfl ?_
              refine Go.ifNo X168 hx (hb hby at_147) (Jvm.Free.XT.ll_ne_f hc157) (q := 150) rfl ?_
              refine Go.lloadN X168 hx (hb hby at_150) rfl (q := 151) rfl ?_
              refine Go.lconst X168 hx (hb hby at_151) (r := (0 : Int64)) rfl (q := 152) rfl ?_
              refine Go.lcmp X168 hx (hb hby at_152) rfl (q := 153) rfl ?_
              refine Go.ifYes X168 hx (hb hby at_153) (Jvm.Free.XT.ll_eq_t hc167) (q := 160) (by decide) (by decide) ?_
              refine Go.iconst X168 hx (hb hby at_160) (r := (0 : Int32)) rfl (q := 161) rfl ?_
              refine Go.istore X168 hx (hb hby at_161) (l' := #[.val (.int pf), .val (.long t1), .second, .val (.long t2), .second, .val (.long ph), .second, .val (.int 1), .val (.int 0), .val (.ref b133), .val (.int 1), .val (.int 0), .val (.int 0), .val (.int 0), .unset, .unset, .unset, .unset, .unset, .unset]) rfl (q := 163) rfl ?_
              refine Go.aload X168 hx (hb hby at_163) rfl rfl (q := 165) rfl ?_
              refine Go.virt X168 hx hZ hown (wd20 hw) (wd21 hw) (notFace_of_selects (args := #[]) (mvT hZ (wd23 hw))) (wd23 hw) (wd22 hw) (wd2 hw) (wd24 hw) (by decide) (cho0 l Z a0 hw b133 h168 OK168 P168_1) e168 A133 (by rw [hml]; rfl) (hb hby at_165) (argsL := []) (rest := []) (lenOf pd21 rfl) rfl rfl (W := 0) (by first | exact Nat.le_refl _ | decide) (by decide) (by decide) (by decide) (by decide) ?_
              intro v169 T169 L169 X169 hQ169
              obtain ⟨rfl, N169q, e169⟩ := hQ169
              have N169 := Fr.app N168 N169q
              refine Go.istore X169 hx (hb hby at_168) (l' := #[.val (.int pf), .val (.long t1), .second, .val (.long t2), .second, .val (.long ph), .second, .val (.int 1), .val (.int 0), .val (.ref b133), .val (.int 1), .val (.int 0), .val (.int 0), .val (.int 0), .val (.int 0), .unset, .unset, .unset, .unset, .unset]) rfl (q := 170) rfl ?_
              refine Go.iload X169 hx (hb hby at_170) rfl (q := 172) rfl ?_
              refine Go.ifNo X169 hx (hb hby at_172) (by decide) (q := 175) rfl ?_
              refine Go.iload X169 hx (hb hby at_175) rfl (q := 177) rfl ?_
              refine Go.iload X169 hx (hb hby at_177) rfl (q := 179) rfl ?_
              refine Go.icmpNo X169 hx (hb hby at_179) (by decide) (q := 182) rfl ?_
              refine Go.iload X169 hx (hb hby at_182) rfl (q := 184) rfl ?_
              refine Go.aload X169 hx (hb hby at_184) rfl rfl (q := 186) rfl ?_
              refine Go.virt X169 hx hZ hown (wd36 hw) (wd37 hw) (notFace_of_selects (args := #[]) (mvT hZ (wd39 hw))) (wd39 hw) (wd38 hw) (wd2 hw) (wd40 hw) (by decide) (ccn0 l Z a0 hw b133 h168 OK168 P168_1) e169 A133 (by rw [hml]; rfl) (hb hby at_186) (argsL := []) (rest := [(.int 0)]) (lenOf pd8 rfl) rfl rfl (W := 1) (by first | exact Nat.le_refl _ | decide) (by decide) (by decide) (by decide) (by decide) ?_
              intro v170 T170 L170 X170 hQ170
              obtain ⟨rfl, N170q, e170⟩ := hQ170
              have N170 := Fr.app N169 N170q
              refine Go.iconst X170 hx (hb hby at_189) (r := (1 : Int32)) rfl (q := 190) rfl ?_
              refine Go.icmpYes X170 hx (hb hby at_190) (by decide) (q := 197) (by decide) (by decide) ?_
              refine Go.iconst X170 hx (hb hby at_197) (r := (0 : Int32)) rfl (q := 198) rfl ?_
              refine Go.icmpNo X170 hx (hb hby at_198) (by decide) (q := 201) rfl ?_
              refine Go.iconst X170 hx (hb hby at_201) (r := (1 : Int32)) rfl (q := 202) rfl ?_
              refine Go.goto X170 hx (hb hby at_202) (q := 206) (by decide) (by decide) ?_
              refine Go.istore X170 hx (hb hby at_206) (l' := #[.val (.int pf), .val (.long t1), .second, .val (.long t2), .second, .val (.long ph), .second, .val (.int 1), .val (.int 0), .val (.ref b133), .val (.int 1), .val (.int 0), .val (.int 0), .val (.int 0), .val (.int 0), .unset, .unset, .unset, .unset, .unset]) rfl (q := 208) rfl ?_
              refine Go.iload X170 hx (hb hby at_208) rfl (q := 210) rfl ?_
              refine Go.ifYes X170 hx (hb hby at_210) (by decide) (q := 305) (by decide) (by decide) ?_
              refine Go.iload X170 hx (hb hby at_305) rfl (q := 307) rfl ?_
              exact Go.retI X170 hx hret hlk (by simp) rfl (hb hby at_307) e170 (by decide) (by decide) ⟨rfl, N170⟩
            · show Go pp ee below _ (T161.setTop (mkF mm 136 #[.val (.int pf), .val (.long t1), .second, .val (.long t2), .second, .val (.long ph), .second, .val (.int 1), .val (.int 0), .val (.ref b133), .val (.int 1), .val (.int 0), .val (.int 0), .unset, .unset, .unset, .unset, .unset, .unset, .unset] [(.ref b_161), (.long t2), (.ref b133)]))
              refine Go.virt X161 hx hZ hown (wd27 hw) (wd28 hw) (notFace_of_selects (args := #[]) (mvT hZ (wd30 hw))) (wd30 hw) (wd29 hw) (wd2 hw) (wd31 hw) (by decide) (cwAl l Z a0 hw b133 t2 b_161 ((0 : Int64)) b_137 ((0 : Int64)) de h158 OK158 A133 g_b133 P158_0 P158_1 P158_2 P158_3 P158_4 SD LD hc162 hc167) e161 A133 (by rw [hml]; rfl) (hb hby at_136) (argsL := [(.long t2), (.ref b_161)]) (rest := []) (lenOf pd22 rfl) rfl rfl (W := 0) (by first | exact Nat.le_refl _ | decide) (by decide) (by decide) (by decide) (by decide) ?_
              intro v171 T171 L171 X171 hQ171
              obtain ⟨h171, e171⟩ : ∃ z, T171.heap = z := ⟨_, rfl⟩
              rw [e171] at hQ171
              obtain ⟨li_171, d_171, x0_171, kd_171, rfl, N171q, K171, fr171_li, fr171_d, fr171_x0, P171_0, P171_1, P171_2, P171_3, P171_4, P171_5, P171_6, P171_7, P171_8, P171_9, P171_10, P171_11, P171_12, P171_13, P171_14, P171_15, P171_16⟩ := hQ171
              have N171 := Fr.app N161 N171q
              have ne_b133_li_171 : b133 ≠ li_171 := ne_new A133.lt fr171_li
              have ne_b_134_li_171 : b_134 ≠ li_171 := ne_new P134_0.lt fr171_li
              have ne_b_137_li_171 : b_137 ≠ li_171 := ne_new P137_0.lt fr171_li
              have ne_b_161_li_171 : b_161 ≠ li_171 := ne_new P161_0.lt fr171_li
              have g_li_171 : Z.heap.size ≤ li_171 := Nat.le_trans OK158.1 fr171_li
              have ne_b133_d_171 : b133 ≠ d_171 := ne_new A133.lt fr171_d
              have ne_b_134_d_171 : b_134 ≠ d_171 := ne_new P134_0.lt fr171_d
              have ne_b_137_d_171 : b_137 ≠ d_171 := ne_new P137_0.lt fr171_d
              have ne_b_161_d_171 : b_161 ≠ d_171 := ne_new P161_0.lt fr171_d
              have g_d_171 : Z.heap.size ≤ d_171 := Nat.le_trans OK158.1 fr171_d
              have ne_b133_x0_171 : b133 ≠ x0_171 := ne_new A133.lt fr171_x0
              have ne_b_134_x0_171 : b_134 ≠ x0_171 := ne_new P134_0.lt fr171_x0
              have ne_b_137_x0_171 : b_137 ≠ x0_171 := ne_new P137_0.lt fr171_x0
              have ne_b_161_x0_171 : b_161 ≠ x0_171 := ne_new P161_0.lt fr171_x0
              have g_x0_171 : Z.heap.size ≤ x0_171 := Nat.le_trans OK158.1 fr171_x0
              replace A133 := A133.keep K171
              replace P134_0 := P134_0.keep K171
              replace P137_0 := P137_0.keep K171
              replace P161_0 := P161_0.keep K171
              have OK171 := ext_keep OK158 K171 (allS g_b133 all0)
              refine Go.iload X171 hx (hb hby at_139) rfl (q := 141) rfl ?_
              refine Go.ifNo X171 hx (hb hby at_141) (by decide) (q := 144) rfl ?_
              refine Go.lloadN X171 hx (hb hby at_144) rfl (q := 145) rfl ?_
              refine Go.lconst X171 hx (hb hby at_145) (r := (0 : Int64)) rfl (q := 146) rfl ?_
              refine Go.lcmp X171 hx (hb hby at_146) rfl (q := 147) rfl ?_
              refine Go.ifNo X171 hx (hb hby at_147) (Jvm.Free.XT.ll_ne_f hc157) (q := 150) rfl ?_
              refine Go.lloadN X171 hx (hb hby at_150) rfl (q := 151) rfl ?_
              refine Go.lconst X171 hx (hb hby at_151) (r := (0 : Int64)) rfl (q := 152) rfl ?_
              refine Go.lcmp X171 hx (hb hby at_152) rfl (q := 153) rfl ?_
              refine Go.ifNo X171 hx (hb hby at_153) (Jvm.Free.XT.ll_eq_f hc167) (q := 156) rfl ?_
              refine Go.iconst X171 hx (hb hby at_156) (r := (1 : Int32)) rfl (q := 157) rfl ?_
              refine Go.goto X171 hx (hb hby at_157) (q := 161) (by decide) (by decide) ?_
              refine Go.istore X171 hx (hb hby at_161) (l' := #[.val (.int pf), .val (.long t1), .second, .val (.long t2), .second, .val (.long ph), .second, .val (.int 1), .val (.int 0), .val (.ref b133), .val (.int 1), .val (.int 0), .val (.int 0), .val (.int 1), .unset, .unset, .unset, .unset, .unset, .unset]) rfl (q := 163) rfl ?_
              refine Go.aload X171 hx (hb hby at_163) rfl rfl (q := 165) rfl ?_
              refine Go.virt X171 hx hZ hown (wd20 hw) (wd21 hw) (notFace_of_selects (args := #[]) (mvT hZ (wd23 hw))) (wd23 hw) (wd22 hw) (wd2 hw) (wd24 hw) (by decide) (cho1 l Z a0 hw b133 li_171 h171 OK171 P171_1) e171 A133 (by rw [hml]; rfl) (hb hby at_165) (argsL := []) (rest := []) (lenOf pd21 rfl) rfl rfl (W := 0) (by first | exact Nat.le_refl _ | decide) (by decide) (by decide) (by decide) (by decide) ?_
              intro v172 T172 L172 X172 hQ172
              obtain ⟨rfl, N172q, e172⟩ := hQ172
              have N172 := Fr.app N171 N172q
              refine Go.istore X172 hx (hb hby at_168) (l' := #[.val (.int pf), .val (.long t1), .second, .val (.long t2), .second, .val (.long ph), .second, .val (.int 1), .val (.int 0), .val (.ref b133), .val (.int 1), .val (.int 0), .val (.int 0), .val (.int 1), .val (.int 1), .unset, .unset, .unset, .unset, .unset]) rfl (q := 170) rfl ?_
              refine Go.iload X172 hx (hb hby at_170) rfl (q := 172) rfl ?_
              refine Go.ifNo X172 hx (hb hby at_172) (by decide) (q := 175) rfl ?_
              refine Go.iload X172 hx (hb hby at_175) rfl (q := 177) rfl ?_
              refine Go.iload X172 hx (hb hby at_177) rfl (q := 179) rfl ?_
              refine Go.icmpNo X172 hx (hb hby at_179) (by decide) (q := 182) rfl ?_
              refine Go.iload X172 hx (hb hby at_182) rfl (q := 184) rfl ?_
              refine Go.aload X172 hx (hb hby at_184) rfl rfl (q := 186) rfl ?_
              refine Go.virt X172 hx hZ hown (wd36 hw) (wd37 hw) (notFace_of_selects (args := #[]) (mvT hZ (wd39 hw))) (wd39 hw) (wd38 hw) (wd2 hw) (wd40 hw) (by decide) (ccn1 l Z a0 hw b133 li_171 ((1 : Int32)) h171 OK171 P171_1 P171_5 P171_7) e172 A133 (by rw [hml]; rfl) (hb hby at_186) (argsL := []) (rest := [(.int 1)]) (lenOf pd8 rfl) rfl rfl (W := 1) (by first | exact Nat.le_refl _ | decide) (by decide) (by decide) (by decide) (by decide) ?_
              intro v173 T173 L173 X173 hQ173
              obtain ⟨rfl, N173q, e173⟩ := hQ173
              have N173 := Fr.app N172 N173q
              refine Go.iconst X173 hx (hb hby at_189) (r := (1 : Int32)) rfl (q := 190) rfl ?_
              refine Go.icmpNo X173 hx (hb hby at_190) (by decide) (q := 193) rfl ?_
              refine Go.iconst X173 hx (hb hby at_193) (r := (1 : Int32)) rfl (q := 194) rfl ?_
              refine Go.goto X173 hx (hb hby at_194) (q := 198) (by decide) (by decide) ?_
              refine Go.icmpNo X173 hx (hb hby at_198) (by decide) (q := 201) rfl ?_
              refine Go.iconst X173 hx (hb hby at_201) (r := (1 : Int32)) rfl (q := 202) rfl ?_
              refine Go.goto X173 hx (hb hby at_202) (q := 206) (by decide) (by decide) ?_
              refine Go.istore X173 hx (hb hby at_206) (l' := #[.val (.int pf), .val (.long t1), .second, .val (.long t2), .second, .val (.long ph), .second, .val (.int 1), .val (.int 0), .val (.ref b133), .val (.int 1), .val (.int 0), .val (.int 0), .val (.int 1), .val (.int 1), .unset, .unset, .unset, .unset, .unset]) rfl (q := 208) rfl ?_
              refine Go.iload X173 hx (hb hby at_208) rfl (q := 210) rfl ?_
              refine Go.ifYes X173 hx (hb hby at_210) (by decide) (q := 305) (by decide) (by decide) ?_
              refine Go.iload X173 hx (hb hby at_305) rfl (q := 307) rfl ?_
              exact Go.retI X173 hx hret hlk (by simp) rfl (hb hby at_307) e173 (by decide) (by decide) ⟨rfl, N173⟩
        · show Go pp ee below _ (T137.setTop (mkF mm 63 #[.val (.int pf), .val (.long t1), .second, .val (.long t2), .second, .val (.long ph), .second, .val (.int 1), .val (.int 0), .val (.ref b133), .val (.int 1), .unset, .unset, .unset, .unset, .unset, .unset, .unset, .unset, .unset] [(.ref b_137), (.long t1), (.ref b133)]))
          refine Go.virt X137 hx hZ hown (wd27 hw) (wd28 hw) (notFace_of_selects (args := #[]) (mvT hZ (wd30 hw))) (wd30 hw) (wd29 hw) (wd2 hw) (wd31 hw) (by decide) (cwAl l Z a0 hw b133 t1 b_137 ((0 : Int64)) b_134 ((0 : Int64)) de h135 OK135 A133 g_b133 P135_0 P135_1 P135_2 P135_3 P135_4 SD LD hc138 hc157) e137 A133 (by rw [hml]; rfl) (hb hby at_63) (argsL := [(.long t1), (.ref b_137)]) (rest := []) (lenOf pd22 rfl) rfl rfl (W := 0) (by first | exact Nat.le_refl _ | decide) (by decide) (by decide) (by decide) (by decide) ?_
          intro v174 T174 L174 X174 hQ174
          obtain ⟨h174, e174⟩ : ∃ z, T174.heap = z := ⟨_, rfl⟩
          rw [e174] at hQ174
          obtain ⟨li_174, d_174, x0_174, kd_174, rfl, N174q, K174, fr174_li, fr174_d, fr174_x0, P174_0, P174_1, P174_2, P174_3, P174_4, P174_5, P174_6, P174_7, P174_8, P174_9, P174_10, P174_11, P174_12, P174_13, P174_14, P174_15, P174_16⟩ := hQ174
          have N174 := Fr.app N137 N174q
          have ne_b133_li_174 : b133 ≠ li_174 := ne_new A133.lt fr174_li
          have ne_b_134_li_174 : b_134 ≠ li_174 := ne_new P134_0.lt fr174_li
          have ne_b_137_li_174 : b_137 ≠ li_174 := ne_new P137_0.lt fr174_li
          have g_li_174 : Z.heap.size ≤ li_174 := Nat.le_trans OK135.1 fr174_li
          have ne_b133_d_174 : b133 ≠ d_174 := ne_new A133.lt fr174_d
          have ne_b_134_d_174 : b_134 ≠ d_174 := ne_new P134_0.lt fr174_d
          have ne_b_137_d_174 : b_137 ≠ d_174 := ne_new P137_0.lt fr174_d
          have g_d_174 : Z.heap.size ≤ d_174 := Nat.le_trans OK135.1 fr174_d
          have ne_b133_x0_174 : b133 ≠ x0_174 := ne_new A133.lt fr174_x0
          have ne_b_134_x0_174 : b_134 ≠ x0_174 := ne_new P134_0.lt fr174_x0
          have ne_b_137_x0_174 : b_137 ≠ x0_174 := ne_new P137_0.lt fr174_x0
          have g_x0_174 : Z.heap.size ≤ x0_174 := Nat.le_trans OK135.1 fr174_x0
          replace A133 := A133.keep K174
          replace P134_0 := P134_0.keep K174
          replace P137_0 := P137_0.keep K174
          have OK174 := ext_keep OK135 K174 (allS g_b133 all0)
          refine Go.iload X174 hx (hb hby at_66) rfl (q := 68) rfl ?_
          refine Go.ifNo X174 hx (hb hby at_68) (by decide) (q := 71) rfl ?_
          refine Go.lloadN X174 hx (hb hby at_71) rfl (q := 72) rfl ?_
          refine Go.lconst X174 hx (hb hby at_72) (r := (0 : Int64)) rfl (q := 73) rfl ?_
          refine Go.lcmp X174 hx (hb hby at_73) rfl (q := 74) rfl ?_
          refine Go.ifNo X174 hx (hb hby at_74) (Jvm.Free.XT.ll_eq_f hc157) (q := 77) rfl ?_
          refine Go.iconst X174 hx (hb hby at_77) (r := (1 : Int32)) rfl (q := 78) rfl ?_
          refine Go.goto X174 hx (hb hby at_78) (q := 82) (by decide) (by decide) ?_
          refine Go.istore X174 hx (hb hby at_82) (l' := #[.val (.int pf), .val (.long t1), .second, .val (.long t2), .second, .val (.long ph), .second, .val (.int 1), .val (.int 0), .val (.ref b133), .val (.int 1), .val (.int 1), .unset, .unset, .unset, .unset, .unset, .unset, .unset, .unset]) rfl (q := 84) rfl ?_
          refine Go.aload X174 hx (hb hby at_84) rfl rfl (q := 86) rfl ?_
          refine Go.virt X174 hx hZ hown (wd20 hw) (wd21 hw) (notFace_of_selects (args := #[]) (mvT hZ (wd23 hw))) (wd23 hw) (wd22 hw) (wd2 hw) (wd24 hw) (by decide) (cho1 l Z a0 hw b133 li_174 h174 OK174 P174_1) e174 A133 (by rw [hml]; rfl) (hb hby at_86) (argsL := []) (rest := []) (lenOf pd21 rfl) rfl rfl (W := 0) (by first | exact Nat.le_refl _ | decide) (by decide) (by decide) (by decide) (by decide) ?_
          intro v175 T175 L175 X175 hQ175
          obtain ⟨rfl, N175q, e175⟩ := hQ175
          have N175 := Fr.app N174 N175q
          refine Go.istore X175 hx (hb hby at_89) (l' := #[.val (.int pf), .val (.long t1), .second, .val (.long t2), .second, .val (.long ph), .second, .val (.int 1), .val (.int 0), .val (.ref b133), .val (.int 1), .val (.int 1), .val (.int 1), .unset, .unset, .unset, .unset, .unset, .unset, .unset]) rfl (q := 91) rfl ?_
          refine Go.iload X175 hx (hb hby at_91) rfl (q := 93) rfl ?_
          refine Go.ifNo X175 hx (hb hby at_93) (by decide) (q := 96) rfl ?_
          refine Go.iload X175 hx (hb hby at_96) rfl (q := 98) rfl ?_
          refine Go.iload X175 hx (hb hby at_98) rfl (q := 100) rfl ?_
          refine Go.icmpNo X175 hx (hb hby at_100) (by decide) (q := 103) rfl ?_
          refine Go.iload X175 hx (hb hby at_103) rfl (q := 105) rfl ?_
          refine Go.aload X175 hx (hb hby at_105) rfl rfl (q := 107) rfl ?_
          refine Go.virt X175 hx hZ hown (wd36 hw) (wd37 hw) (notFace_of_selects (args := #[]) (mvT hZ (wd39 hw))) (wd39 hw) (wd38 hw) (wd2 hw) (wd40 hw) (by decide) (ccn1 l Z a0 hw b133 li_174 ((1 : Int32)) h174 OK174 P174_1 P174_5 P174_7) e175 A133 (by rw [hml]; rfl) (hb hby at_107) (argsL := []) (rest := [(.int 1)]) (lenOf pd8 rfl) rfl rfl (W := 1) (by first | exact Nat.le_refl _ | decide) (by decide) (by decide) (by decide) (by decide) ?_
          intro v176 T176 L176 X176 hQ176
          obtain ⟨rfl, N176q, e176⟩ := hQ176
          have N176 := Fr.app N175 N176q
          refine Go.iconst X176 hx (hb hby at_110) (r := (1 : Int32)) rfl (q := 111) rfl ?_
          refine Go.icmpNo X176 hx (hb hby at_111) (by decide) (q := 114) rfl ?_
          refine Go.iconst X176 hx (hb hby at_114) (r := (1 : Int32)) rfl (q := 115) rfl ?_
          refine Go.goto X176 hx (hb hby at_115) (q := 119) (by decide) (by decide) ?_
          refine Go.icmpNo X176 hx (hb hby at_119) (by decide) (q := 122) rfl ?_
          refine Go.iconst X176 hx (hb hby at_122) (r := (1 : Int32)) rfl (q := 123) rfl ?_
          refine Go.goto X176 hx (hb hby at_123) (q := 127) (by decide) (by decide) ?_
          refine Go.istore X176 hx (hb hby at_127) (l' := #[.val (.int pf), .val (.long t1), .second, .val (.long t2), .second, .val (.long ph), .second, .val (.int 1), .val (.int 0), .val (.ref b133), .val (.int 1), .val (.int 1), .val (.int 1), .unset, .unset, .unset, .unset, .unset, .unset, .unset]) rfl (q := 129) rfl ?_
          refine Go.aload X176 hx (hb hby at_129) rfl rfl (q := 131) rfl ?_
          refine Go.lloadN X176 hx (hb hby at_131) rfl (q := 132) rfl ?_
          refine Go.iconst X176 hx (hb hby at_132) (r := (2 : Int32)) rfl (q := 133) rfl ?_
          refine Go.callS X176 hx hZ hown (wd3 hw) (wd4 hw) (wd5 hw) (wd6 hw) (by decide) (cvalueOf2 l Z a0 hw ca h174 OK174 SH SC HC) e176 (by rw [hml]; rfl) (hb hby at_133) (argsL := [(.int 2)]) (rest := [(.long t2), (.ref b133)]) (lenOf pd19 rfl) rfl rfl (W := 3) (by first | exact Nat.le_refl _ | decide) (by decide) (by decide) (by decide) (by decide) ?_
          intro v177 T177 L177 X177 hQ177
          obtain ⟨b_177, rfl, N177q, e177, P177_0⟩ := hQ177
          have N177 := Fr.app N176 N177q
          rw [e177] at P177_0
          by_cases hc178 : (0 : Int64) < t2
          · have hk179 : ¬ (t2 = (0 : Int64)) := own_gtne hc178
            show Go pp ee below _ (T177.setTop (mkF mm 136 #[.val (.int pf), .val (.long t1), .second, .val (.long t2), .second, .val (.long ph), .second, .val (.int 1), .val (.int 0), .val (.ref b133), .val (.int 1), .val (.int 1), .val (.int 1), .unset, .unset, .unset, .unset, .unset, .unset, .unset] [(.ref b_177), (.long t2), (.ref b133)]))
            refine Go.virt X177 hx hZ hown (wd27 hw) (wd28 hw) (notFace_of_selects (args := #[]) (mvT hZ (wd30 hw))) (wd30 hw) (wd29 hw) (wd2 hw) (wd31 hw) (by decide) (cwBg l Z a0 hw b133 t2 b_177 ((0 : Int64)) b_134 ((0 : Int64)) li_174 d_174 x0_174 t1 ((1 : Int32)) (kd_174) b_137 h174 OK174 A133 g_b133 P174_0 P174_1 P174_2 P174_3 P174_4 P174_5 P174_6 P174_7 P174_8 P174_9 P174_11 P174_12 P174_13 g_li_174 g_d_174 g_x0_174 ne_b133_li_174 ne_b133_d_174 ne_b133_x0_174 P174_14 P174_15 P174_16 P174_10 hc178) e177 A133 (by rw [hml]; rfl) (hb hby at_136) (argsL := [(.long t2), (.ref b_177)]) (rest := []) (lenOf pd22 rfl) rfl rfl (W := 0) (by first | exact Nat.le_refl _ | decide) (by decide) (by decide) (by decide) (by decide) ?_
            intro v180 T180 L180 X180 hQ180
            obtain ⟨h180, e180⟩ : ∃ z, T180.heap = z := ⟨_, rfl⟩
            rw [e180] at hQ180
            obtain ⟨x1_180, rfl, N180q, K180, fr180_x1, P180_0, P180_1, P180_2, P180_3, P180_4, P180_5, P180_6, P180_7, P180_8, P180_9, P180_10⟩ := hQ180
            have N180 := Fr.app N177 N180q
            have ne_b133_x1_180 : b133 ≠ x1_180 := ne_new A133.lt fr180_x1
            have ne_b_134_x1_180 : b_134 ≠ x1_180 := ne_new P134_0.lt fr180_x1
            have ne_b_137_x1_180 : b_137 ≠ x1_180 := ne_new P137_0.lt fr180_x1
            have ne_li_174_x1_180 : li_174 ≠ x1_180 := ne_new P174_5.lt fr180_x1
            have ne_d_174_x1_180 : d_174 ≠ x1_180 := ne_new P174_9.lt fr180_x1
            have ne_x0_174_x1_180 : x0_174 ≠ x1_180 := ne_new P174_11.lt fr180_x1
            have ne_b_177_x1_180 : b_177 ≠ x1_180 := ne_new P177_0.lt fr180_x1
            have g_x1_180 : Z.heap.size ≤ x1_180 := Nat.le_trans OK174.1 fr180_x1
            replace A133 := A133.keep K180
            replace P134_0 := P134_0.keep K180
            replace P137_0 := P137_0.keep K180
            replace P174_5 := P174_5.keep K180
            replace P174_11 := P174_11.keep K180
            replace P174_12 := P174_12.keep K180 (ninS (Ne.symm ne_b133_x0_174) (ninS (Ne.symm P174_15) (ninS (Ne.symm P174_16) nin0)))
            replace P174_13 := P174_13.keep K180 (ninS (Ne.symm ne_b133_x0_174) (ninS (Ne.symm P174_15) (ninS (Ne.symm P174_16) nin0)))
            replace P177_0 := P177_0.keep K180
            have OK180 := ext_keep OK174 K180 (allS g_b133 (allS g_li_174 (allS g_d_174 all0)))
            refine Go.iload X180 hx (hb hby at_139) rfl (q := 141) rfl ?_
            refine Go.ifNo X180 hx (hb hby at_141) (by decide) (q := 144) rfl ?_
            refine Go.lloadN X180 hx (hb hby at_144) rfl (q := 145) rfl ?_
            refine Go.lconst X180 hx (hb hby at_145) (r := (0 : Int64)) rfl (q := 146) rfl ?_
            refine Go.lcmp X180 hx (hb hby at_146) rfl (q := 147) rfl ?_
            refine Go.ifYes X180 hx (hb hby at_147) (Jvm.Free.XT.ll_ne_t hc157) (q := 156) (by decide) (by decide) ?_
            refine Go.iconst X180 hx (hb hby at_156) (r := (1 : Int32)) rfl (q := 157) rfl ?_
            refine Go.goto X180 hx (hb hby at_157) (q := 161) (by decide) (by decide) ?_
            refine Go.istore X180 hx (hb hby at_161) (l' := #[.val (.int pf), .val (.long t1), .second, .val (.long t2), .second, .val (.long ph), .second, .val (.int 1), .val (.int 0), .val (.ref b133), .val (.int 1), .val (.int 1), .val (.int 1), .val (.int 1), .unset, .unset, .unset, .unset, .unset, .unset]) rfl (q := 163) rfl ?_
            refine Go.aload X180 hx (hb hby at_163) rfl rfl (q := 165) rfl ?_
            refine Go.virt X180 hx hZ hown (wd20 hw) (wd21 hw) (notFace_of_selects (args := #[]) (mvT hZ (wd23 hw))) (wd23 hw) (wd22 hw) (wd2 hw) (wd24 hw) (by decide) (cho1 l Z a0 hw b133 li_174 h180 OK180 P180_1) e180 A133 (by rw [hml]; rfl) (hb hby at_165) (argsL := []) (rest := []) (lenOf pd21 rfl) rfl rfl (W := 0) (by first | exact Nat.le_refl _ | decide) (by decide) (by decide) (by decide) (by decide) ?_
            intro v181 T181 L181 X181 hQ181
            obtain ⟨rfl, N181q, e181⟩ := hQ181
            have N181 := Fr.app N180 N181q
            refine Go.istore X181 hx (hb hby at_168) (l' := #[.val (.int pf), .val (.long t1), .second, .val (.long t2), .second, .val (.long ph), .second, .val (.int 1), .val (.int 0), .val (.ref b133), .val (.int 1), .val (.int 1), .val (.int 1), .val (.int 1), .val (.int 1), .unset, .unset, .unset, .unset, .unset]) rfl (q := 170) rfl ?_
            refine Go.iload X181 hx (hb hby at_170) rfl (q := 172) rfl ?_
            refine Go.ifNo X181 hx (hb hby at_172) (by decide) (q := 175) rfl ?_
            refine Go.iload X181 hx (hb hby at_175) rfl (q := 177) rfl ?_
            refine Go.iload X181 hx (hb hby at_177) rfl (q := 179) rfl ?_
            refine Go.icmpNo X181 hx (hb hby at_179) (by decide) (q := 182) rfl ?_
            refine Go.iload X181 hx (hb hby at_182) rfl (q := 184) rfl ?_
            refine Go.aload X181 hx (hb hby at_184) rfl rfl (q := 186) rfl ?_
            refine Go.virt X181 hx hZ hown (wd36 hw) (wd37 hw) (notFace_of_selects (args := #[]) (mvT hZ (wd39 hw))) (wd39 hw) (wd38 hw) (wd2 hw) (wd40 hw) (by decide) (ccn1 l Z a0 hw b133 li_174 ((2 : Int32)) h180 OK180 P180_1 P174_5 P180_6) e181 A133 (by rw [hml]; rfl) (hb hby at_186) (argsL := []) (rest := [(.int 1)]) (lenOf pd8 rfl) rfl rfl (W := 1) (by first | exact Nat.le_refl _ | decide) (by decide) (by decide) (by decide) (by decide) ?_
            intro v182 T182 L182 X182 hQ182
            obtain ⟨rfl, N182q, e182⟩ := hQ182
            have N182 := Fr.app N181 N182q
            refine Go.iconst X182 hx (hb hby at_189) (r := (1 : Int32)) rfl (q := 190) rfl ?_
            refine Go.icmpNo X182 hx (hb hby at_190) (by decide) (q := 193) rfl ?_
            refine Go.iconst X182 hx (hb hby at_193) (r := (1 : Int32)) rfl (q := 194) rfl ?_
            refine Go.goto X182 hx (hb hby at_194) (q := 198) (by decide) (by decide) ?_
            refine Go.icmpNo X182 hx (hb hby at_198) (by decide) (q := 201) rfl ?_
            refine Go.iconst X182 hx (hb hby at_201) (r := (1 : Int32)) rfl (q := 202) rfl ?_
            refine Go.goto X182 hx (hb hby at_202) (q := 206) (by decide) (by decide) ?_
            refine Go.istore X182 hx (hb hby at_206) (l' := #[.val (.int pf), .val (.long t1), .second, .val (.long t2), .second, .val (.long ph), .second, .val (.int 1), .val (.int 0), .val (.ref b133), .val (.int 1), .val (.int 1), .val (.int 1), .val (.int 1), .val (.int 1), .unset, .unset, .unset, .unset, .unset]) rfl (q := 208) rfl ?_
            refine Go.iload X182 hx (hb hby at_208) rfl (q := 210) rfl ?_
            refine Go.ifYes X182 hx (hb hby at_210) (by decide) (q := 305) (by decide) (by decide) ?_
            refine Go.iload X182 hx (hb hby at_305) rfl (q := 307) rfl ?_
            exact Go.retI X182 hx hret hlk (by simp) rfl (hb hby at_307) e182 (by decide) (by decide) ⟨rfl, N182⟩
          · by_cases ho183 : t2 = (0 : Int64) ∨ t1 = t2
            · show Go pp ee below _ (T177.setTop (mkF mm 136 #[.val (.int pf), .val (.long t1), .second, .val (.long t2), .second, .val (.long ph), .second, .val (.int 1), .val (.int 0), .val (.ref b133), .val (.int 1), .val (.int 1), .val (.int 1), .unset, .unset, .unset, .unset, .unset, .unset, .unset] [(.ref b_177), (.long t2), (.ref b133)]))
              refine Go.virt X177 hx hZ hown (wd27 hw) (wd28 hw) (notFace_of_selects (args := #[]) (mvT hZ (wd30 hw))) (wd30 hw) (wd29 hw) (wd2 hw) (wd31 hw) (by decide) (cwBs l Z a0 hw b133 t2 b_177 ((0 : Int64)) b_134 ((0 : Int64)) li_174 d_174 x0_174 t1 ((1 : Int32)) (kd_174) b_137 h174 OK174 A133 g_b133 P174_0 P174_1 P174_2 P174_3 P174_4 P174_5 P174_6 P174_7 P174_8 P174_9 P174_11 P174_12 P174_13 g_li_174 g_d_174 g_x0_174 ne_b133_li_174 ne_b133_d_174 ne_b133_x0_174 P174_14 P174_15 P174_16 P174_10 hc178 ho183) e177 A133 (by rw [hml]; rfl) (hb hby at_136) (argsL := [(.long t2), (.ref b_177)]) (rest := []) (lenOf pd22 rfl) rfl rfl (W := 0) (by first | exact Nat.le_refl _ | decide) (by decide) (by decide) (by decide) (by decide) ?_
              intro v184 T184 L184 X184 hQ184
              obtain ⟨h184, e184⟩ : ∃ z, T184.heap = z := ⟨_, rfl⟩
              rw [e184] at hQ184
              obtain ⟨v3_184, xv2_184, rfl, N184q, K184, P184_0, P184_1, P184_2, P184_3, P184_4, P184_5, P184_6⟩ := hQ184
              have N184 := Fr.app N177 N184q
              replace A133 := A133.keep K184
              replace P134_0 := P134_0.keep K184
              replace P137_0 := P137_0.keep K184
              replace P174_5 := P174_5.keep K184
              replace P174_6 := P174_6.keep K184 (ninS (Ne.symm ne_b133_li_174) (ninS P174_15 nin0))
              replace P174_7 := P174_7.keep K184 (ninS (Ne.symm ne_b133_li_174) (ninS P174_15 nin0))
              replace P174_8 := P174_8.keep K184 (ninS (Ne.symm ne_b133_li_174) (ninS P174_15 nin0))
              replace P174_9 := P174_9.keep K184 (ninS (Ne.symm ne_b133_d_174) (ninS P174_16 nin0))
              replace P174_11 := P174_11.keep K184
              replace P177_0 := P177_0.keep K184
              have OK184 := ext_keep OK174 K184 (allS g_b133 (allS g_x0_174 all0))
              refine Go.iload X184 hx (hb hby at_139) rfl (q := 141) rfl ?_
              refine Go.ifNo X184 hx (hb hby at_141) (by decide) (q := 144) rfl ?_
              refine Go.lloadN X184 hx (hb hby at_144) rfl (q := 145) rfl ?_
              refine Go.lconst X184 hx (hb hby at_145) (r := (0 : Int64)) rfl (q := 146) rfl ?_
              refine Go.lcmp X184 hx (hb hby at_146) rfl (q := 147) rfl ?_
              refine Go.ifYes X184 hx (hb hby at_147) (Jvm.Free.XT.ll_ne_t hc157) (q := 156) (by decide) (by decide) ?_
              refine Go.iconst X184 hx (hb hby at_156) (r := (1 : Int32)) rfl (q := 157) rfl ?_
              refine Go.goto X184 hx (hb hby at_157) (q := 161) (by decide) (by decide) ?_
              refine Go.istore X184 hx (hb hby at_161) (l' := #[.val (.int pf), .val (.long t1), .second, .val (.long t2), .second, .val (.long ph), .second, .val (.int 1), .val (.int 0), .val (.ref b133), .val (.int 1), .val (.int 1), .val (.int 1), .val (.int 1), .unset, .unset, .unset, .unset, .unset, .unset]) rfl (q := 163) rfl ?_
              refine Go.aload X184 hx (hb hby at_163) rfl rfl (q := 165) rfl ?_
              refine Go.virt X184 hx hZ hown (wd20 hw) (wd21 hw) (notFace_of_selects (args := #[]) (mvT hZ (wd23 hw))) (wd23 hw) (wd22 hw) (wd2 hw) (wd24 hw) (by decide) (cho1 l Z a0 hw b133 li_174 h184 OK184 P184_1) e184 A133 (by rw [hml]; rfl) (hb hby at_165) (argsL := []) (rest := []) (lenOf pd21 rfl) rfl rfl (W := 0) (by first | exact Nat.le_refl _ | decide) (by decide) (by decide) (by decide) (by decide) ?_
              intro v185 T185 L185 X185 hQ185
              obtain ⟨rfl, N185q, e185⟩ := hQ185
              have N185 := Fr.app N184 N185q
              refine Go.istore X185 hx (hb hby at_168) (l' := #[.val (.int pf), .val (.long t1), .second, .val (.long t2), .second, .val (.long ph), .second, .val (.int 1), .val (.int 0), .val (.ref b133), .val (.int 1), .val (.int 1), .val (.int 1), .val (.int 1), .val (.int 1), .unset, .unset, .unset, .unset, .unset]) rfl (q := 170) rfl ?_
              refine Go.iload X185 hx (hb hby at_170) rfl (q := 172) rfl ?_
              refine Go.ifNo X185 hx (hb hby at_172) (by decide) (q := 175) rfl ?_
              refine Go.iload X185 hx (hb hby at_175) rfl (q := 177) rfl ?_
              refine Go.iload X185 hx (hb hby at_177) rfl (q := 179) rfl ?_
              refine Go.icmpNo X185 hx (hb hby at_179) (by decide) (q := 182) rfl ?_
              refine Go.iload X185 hx (hb hby at_182) rfl (q := 184) rfl ?_
              refine Go.aload X185 hx (hb hby at_184) rfl rfl (q := 186) rfl ?_
              refine Go.virt X185 hx hZ hown (wd36 hw) (wd37 hw) (notFace_of_selects (args := #[]) (mvT hZ (wd39 hw))) (wd39 hw) (wd38 hw) (wd2 hw) (wd40 hw) (by decide) (ccn1 l Z a0 hw b133 li_174 ((1 : Int32)) h184 OK184 P184_1 P174_5 P174_7) e185 A133 (by rw [hml]; rfl) (hb hby at_186) (argsL := []) (rest := [(.int 1)]) (lenOf pd8 rfl) rfl rfl (W := 1) (by first | exact Nat.le_refl _ | decide) (by decide) (by decide) (by decide) (by decide) ?_
              intro v186 T186 L186 X186 hQ186
              obtain ⟨rfl, N186q, e186⟩ := hQ186
              have N186 := Fr.app N185 N186q
              refine Go.iconst X186 hx (hb hby at_189) (r := (1 : Int32)) rfl (q := 190) rfl ?_
              refine Go.icmpNo X186 hx (hb hby at_190) (by decide) (q := 193) rfl ?_
              refine Go.iconst X186 hx (hb hby at_193) (r := (1 : Int32)) rfl (q := 194) rfl ?_
              refine Go.goto X186 hx (hb hby at_194) (q := 198) (by decide) (by decide) ?_
              refine Go.icmpNo X186 hx (hb hby at_198) (by decide) (q := 201) rfl ?_
              refine Go.iconst X186 hx (hb hby at_201) (r := (1 : Int32)) rfl (q := 202) rfl ?_
              refine Go.goto X186 hx (hb hby at_202) (q := 206) (by decide) (by decide) ?_
              refine Go.istore X186 hx (hb hby at_206) (l' := #[.val (.int pf), .val (.long t1), .second, .val (.long t2), .second, .val (.long ph), .second, .val (.int 1), .val (.int 0), .val (.ref b133), .val (.int 1), .val (.int 1), .val (.int 1), .val (.int 1), .val (.int 1), .unset, .unset, .unset, .unset, .unset]) rfl (q := 208) rfl ?_
              refine Go.iload X186 hx (hb hby at_208) rfl (q := 210) rfl ?_
              refine Go.ifYes X186 hx (hb hby at_210) (by decide) (q := 305) (by decide) (by decide) ?_
              refine Go.iload X186 hx (hb hby at_305) rfl (q := 307) rfl ?_
              exact Go.retI X186 hx hret hlk (by simp) rfl (hb hby at_307) e186 (by decide) (by decide) ⟨rfl, N186⟩
            · have hk187 : ¬ (t2 = (0 : Int64)) := fun q => ho183 (Or.inl q)
              have hk188 : ¬ (t1 = t2) := fun q => ho183 (Or.inr q)
              show Go pp ee below _ (T177.setTop (mkF mm 136 #[.val (.int pf), .val (.long t1), .second, .val (.long t2), .second, .val (.long ph), .second, .val (.int 1), .val (.int 0), .val (.ref b133), .val (.int 1), .val (.int 1), .val (.int 1), .unset, .unset, .unset, .unset, .unset, .unset, .unset] [(.ref b_177), (.long t2), (.ref b133)]))
              refine Go.virt X177 hx hZ hown (wd27 hw) (wd28 hw) (notFace_of_selects (args := #[]) (mvT hZ (wd30 hw))) (wd30 hw) (wd29 hw) (wd2 hw) (wd31 hw) (by decide) (cwBn l Z a0 hw b133 t2 b_177 ((0 : Int64)) b_134 ((0 : Int64)) li_174 d_174 x0_174 t1 ((1 : Int32)) (kd_174) b_137 h174 OK174 A133 g_b133 P174_0 P174_1 P174_2 P174_3 P174_4 P174_5 P174_6 P174_7 P174_8 P174_9 P174_11 P174_12 P174_13 g_li_174 g_d_174 g_x0_174 ne_b133_li_174 ne_b133_d_174 ne_b133_x0_174 P174_14 P174_15 P174_16 P174_10 hc178 hk187 hk188) e177 A133 (by rw [hml]; rfl) (hb hby at_136) (argsL := [(.long t2), (.ref b_177)]) (rest := []) (lenOf pd22 rfl) rfl rfl (W := 0) (by first | exact Nat.le_refl _ | decide) (by decide) (by decide) (by decide) (by decide) ?_
              intro v189 T189 L189 X189 hQ189
              obtain ⟨h189, e189⟩ : ∃ z, T189.heap = z := ⟨_, rfl⟩
              rw [e189] at hQ189
              obtain ⟨yA_189, yB_189, u0_189, u1_189, rfl, N189q, K189, P189_0, P189_1, P189_2, P189_3, P189_4, P189_5, P189_6, P189_7⟩ := hQ189
              have N189 := Fr.app N177 N189q
              replace A133 := A133.keep K189
              replace P134_0 := P134_0.keep K189
              replace P137_0 := P137_0.keep K189
              replace P174_0 := P174_0.keep K189 (ninS ne_b133_li_174 (ninS ne_b133_d_174 nin0))
              replace P174_1 := P174_1.keep K189 (ninS ne_b133_li_174 (ninS ne_b133_d_174 nin0))
              replace P174_2 := P174_2.keep K189 (ninS ne_b133_li_174 (ninS ne_b133_d_174 nin0))
              replace P174_3 := P174_3.keep K189 (ninS ne_b133_li_174 (ninS ne_b133_d_174 nin0))
              replace P174_4 := P174_4.keep K189 (ninS ne_b133_li_174 (ninS ne_b133_d_174 nin0))
              replace P174_5 := P174_5.keep K189
              replace P174_11 := P174_11.keep K189
              replace P174_12 := P174_12.keep K189 (ninS (Ne.symm P174_15) (ninS (Ne.symm P174_16) nin0))
              replace P174_13 := P174_13.keep K189 (ninS (Ne.symm P174_15) (ninS (Ne.symm P174_16) nin0))
              replace P177_0 := P177_0.keep K189
              have OK189 := ext_keep OK174 K189 (allS g_li_174 (allS g_d_174 all0))
              refine Go.iload X189 hx (hb hby at_139) rfl (q := 141) rfl ?_
              refine Go.ifNo X189 hx (hb hby at_141) (by decide) (q := 144) rfl ?_
              refine Go.lloadN X189 hx (hb hby at_144) rfl (q := 145) rfl ?_
              refine Go.lconst X189 hx (hb hby at_145) (r := (0 : Int64)) rfl (q := 146) rfl ?_
              refine Go.lcmp X189 hx (hb hby at_146) rfl (q := 147) rfl ?_
              refine Go.ifYes X189 hx (hb hby at_147) (Jvm.Free.XT.ll_ne_t hc157) (q := 156) (by decide) (by decide) ?_
              refine Go.iconst X189 hx (hb hby at_156) (r := (1 : Int32)) rfl (q := 157) rfl ?_
              refine Go.goto X189 hx (hb hby at_157) (q := 161) (by decide) (by decide) ?_
              refine Go.istore X189 hx (hb hby at_161) (l' := #[.val (.int pf), .val (.long t1), .second, .val (.long t2), .second, .val (.long ph), .second, .val (.int 1), .val (.int 0), .val (.ref b133), .val (.int 1), .val (.int 1), .val (.int 1), .val (.int 1), .unset, .unset, .unset, .unset, .unset, .unset]) rfl (q := 163) rfl ?_
              refine Go.aload X189 hx (hb hby at_163) rfl rfl (q := 165) rfl ?_
              refine Go.virt X189 hx hZ hown (wd20 hw) (wd21 hw) (notFace_of_selects (args := #[]) (mvT hZ (wd23 hw))) (wd23 hw) (wd22 hw) (wd2 hw) (wd24 hw) (by decide) (cho1 l Z a0 hw b133 li_174 h189 OK189 P174_1) e189 A133 (by rw [hml]; rfl) (hb hby at_165) (argsL := []) (rest := []) (lenOf pd21 rfl) rfl rfl (W := 0) (by first | exact Nat.le_refl _ | decide) (by decide) (by decide) (by decide) (by decide) ?_
              intro v190 T190 L190 X190 hQ190
              obtain ⟨rfl, N190q, e190⟩ := hQ190
              have N190 := Fr.app N189 N190q
              refine Go.istore X190 hx (hb hby at_168) (l' := #[.val (.int pf), .val (.long t1), .second, .val (.long t2), .second, .val (.long ph), .second, .val (.int 1), .val (.int 0), .val (.ref b133), .val (.int 1), .val (.int 1), .val (.int 1), .val (.int 1), .val (.int 1), .unset, .unset, .unset, .unset, .unset]) rfl (q := 170) rfl ?_
              refine Go.iload X190 hx (hb hby at_170) rfl (q := 172) rfl ?_
              refine Go.ifNo X190 hx (hb hby at_172) (by decide) (q := 175) rfl ?_
              refine Go.iload X190 hx (hb hby at_175) rfl (q := 177) rfl ?_
              refine Go.iload X190 hx (hb hby at_177) rfl (q := 179) rfl ?_
              refine Go.icmpNo X190 hx (hb hby at_179) (by decide) (q := 182) rfl ?_
              refine Go.iload X190 hx (hb hby at_182) rfl (q := 184) rfl ?_
              refine Go.aload X190 hx (hb hby at_184) rfl rfl (q := 186) rfl ?_
              refine Go.virt X190 hx hZ hown (wd36 hw) (wd37 hw) (notFace_of_selects (args := #[]) (mvT hZ (wd39 hw))) (wd39 hw) (wd38 hw) (wd2 hw) (wd40 hw) (by decide) (ccn1 l Z a0 hw b133 li_174 ((2 : Int32)) h189 OK189 P174_1 P174_5 P189_1) e190 A133 (by rw [hml]; rfl) (hb hby at_186) (argsL := []) (rest := [(.int 1)]) (lenOf pd8 rfl) rfl rfl (W := 1) (by first | exact Nat.le_refl _ | decide) (by decide) (by decide) (by decide) (by decide) ?_
              intro v191 T191 L191 X191 hQ191
              obtain ⟨rfl, N191q, e191⟩ := hQ191
              have N191 := Fr.app N190 N191q
              refine Go.iconst X191 hx (hb hby at_189) (r := (1 : Int32)) rfl (q := 190) rfl ?_
              refine Go.icmpNo X191 hx (hb hby at_190) (by decide) (q := 193) rfl ?_
              refine Go.iconst X191 hx (hb hby at_193) (r := (1 : Int32)) rfl (q := 194) rfl ?_
              refine Go.goto X191 hx (hb hby at_194) (q := 198) (by decide) (by decide) ?_
              refine Go.icmpNo X191 hx (hb hby at_198) (by decide) (q := 201) rfl ?_
              refine Go.iconst X191 hx (hb hby at_201) (r := (1 : Int32)) rfl (q := 202) rfl ?_
              refine Go.goto X191 hx (hb hby at_202) (q := 206) (by decide) (by decide) ?_
              refine Go.istore X191 hx (hb hby at_206) (l' := #[.val (.int pf), .val (.long t1), .second, .val (.long t2), .second, .val (.long ph), .second, .val (.int 1), .val (.int 0), .val (.ref b133), .val (.int 1), .val (.int 1), .val (.int 1), .val (.int 1), .val (.int 1), .unset, .unset, .unset, .unset, .unset]) rfl (q := 208) rfl ?_
              refine Go.iload X191 hx (hb hby at_208) rfl (q := 210) rfl ?_
              refine Go.ifYes X191 hx (hb hby at_210) (by decide) (q := 305) (by decide) (by decide) ?_
              refine Go.iload X191 hx (hb hby at_305) rfl (q := 307) rfl ?_
              exact Go.retI X191 hx hret hlk (by simp) rfl (hb hby at_307) e191 (by decide) (by decide) ⟨rfl, N191⟩
    · refine Go.ifNo X0 hx (hb hby at_16) (Jvm.Free.XT.i0_eq_f hc132) (q := 19) rfl ?_
      refine Go.iconst X0 hx (hb hby at_19) (r := (1 : Int32)) rfl (q := 20) rfl ?_
      refine Go.goto X0 hx (hb hby at_20) (q := 24) (by decide) (by decide) ?_
      refine Go.istore X0 hx (hb hby at_24) (l' := #[.val (.int pf), .val (.long t1), .second, .val (.long t2), .second, .val (.long ph), .second, .val (.int 1), .val (.int 1), .unset, .unset, .unset, .unset, .unset, .unset, .unset, .unset, .unset, .unset, .unset]) rfl (q := 26) rfl ?_
      refine Go.newO X0 hx hZ hown (wd0 hw) (wd1 hw) (wd2 hw) e0 (hb hby at_26) (by decide) (by decide) (q := 29) rfl ?_
      intro b192 T192 h192 X192 e192 q192 E192 A192 D192 U192
      have g_b192 : Z.heap.size ≤ b192 := Nat.le_trans O0.1 (Nat.le_of_eq q192)
      have OE192 := ext_trans O0 E192
      have F192_newestValue : Fld Z h192 b192 xS0 "newestValue" xS9 .null := D192 (Or.inl (wd17 hw)) (ty := (.object xS2)) (by decide)
      have F192_keepsOlder : Fld Z h192 b192 xS0 "keepsOlder" "Z" (.int 0) := D192 (Or.inr (wd19 hw)) (ty := .boolean) (by decide)
      have F192_older : Fld Z h192 b192 xS0 "older" xS8 .null := D192 (Or.inl (wd26 hw)) (ty := (.object xS10)) (by decide)
      have F192_newestWriteTimestamp : Fld Z h192 b192 xS0 xS11 "J" (.long 0) := D192 (Or.inl (wd33 hw)) (ty := .long) (by decide)
      have F192_newestReadTimestamp : Fld Z h192 b192 xS0 xS12 "J" (.long 0) := D192 (Or.inl (wd35 hw)) (ty := .long) (by decide)
      clear D192
      refine Go.dup X192 hx (hb hby at_29) rfl (q := 30) rfl ?_
      refine Go.iconst X192 hx (hb hby at_30) (r := (0 : Int32)) rfl (q := 31) rfl ?_
      refine Go.callS X192 hx hZ hown (wd3 hw) (wd4 hw) (wd5 hw) (wd6 hw) (by decide) (cvalueOf0 l Z a0 hw ca h192 OE192 SH SC HC) e192 (by rw [hml]; rfl) (hb hby at_31) (argsL := [(.int 0)]) (rest := [(.ref b192), (.ref b192)]) (lenOf pd19 rfl) rfl rfl (W := 2) (by first | exact Nat.le_refl _ | decide) (by decide) (by decide) (by decide) (by decide) ?_
      intro v193 T193 L193 X193 hQ193
      obtain ⟨b_193, rfl, N193q, e193, P193_0⟩ := hQ193
      have N193 := Fr.app N0 N193q
      rw [e193] at P193_0
      refine Go.iload X193 hx (hb hby at_34) rfl (q := 36) rfl ?_
      refine Go.init X193 hx hZ hown rfl (wd10 hw) (wd11 hw) (wd2 hw) (wd12 hw) (by decide) (cver1 l Z a0 hw b192 b_193 h192 OE192 A192 g_b192 F192_keepsOlder F192_older F192_newestWriteTimestamp F192_newestValue F192_newestReadTimestamp) e193 (by rw [hml]; rfl) (hb hby at_36) (argsL := [(.ref b_193), (.int 1)]) (rest := [(.ref b192)]) (lenOf pd20 rfl) rfl rfl (W := 1) (by first | exact Nat.le_refl _ | decide) (by decide) (by decide) (by decide) (by decide) ?_
      intro v194 T194 L194 X194 hQ194
      obtain ⟨h194, e194⟩ : ∃ z, T194.heap = z := ⟨_, rfl⟩
      rw [e194] at hQ194
      obtain ⟨rfl, N194q, K194, P194_0, P194_1, P194_2, P194_3, P194_4⟩ := hQ194
      have N194 := Fr.app N193 N194q
      replace A192 := A192.keep K194
      replace P193_0 := P193_0.keep K194
      have OK194 := ext_keep OE192 K194 (allS g_b192 all0)
      refine Go.astore X194 hx (hb hby at_39) rfl (l' := #[.val (.int pf), .val (.long t1), .second, .val (.long t2), .second, .val (.long ph), .second, .val (.int 1), .val (.int 1), .val (.ref b192), .unset, .unset, .unset, .unset, .unset, .unset, .unset, .unset, .unset, .unset]) rfl (q := 41) rfl ?_
      refine Go.aload X194 hx (hb hby at_41) rfl rfl (q := 43) rfl ?_
      refine Go.virt X194 hx hZ hown (wd20 hw) (wd21 hw) (notFace_of_selects (args := #[]) (mvT hZ (wd23 hw))) (wd23 hw) (wd22 hw) (wd2 hw) (wd24 hw) (by decide) (cho0 l Z a0 hw b192 h194 OK194 P194_1) e194 A192 (by rw [hml]; rfl) (hb hby at_43) (argsL := []) (rest := []) (lenOf pd21 rfl) rfl rfl (W := 0) (by first | exact Nat.le_refl _ | decide) (by decide) (by decide) (by decide) (by decide) ?_
      intro v195 T195 L195 X195 hQ195
      obtain ⟨rfl, N195q, e195⟩ := hQ195
      have N195 := Fr.app N194 N195q
      refine Go.ifNo X195 hx (hb hby at_46) (by decide) (q := 49) rfl ?_
      refine Go.iconst X195 hx (hb hby at_49) (r := (1 : Int32)) rfl (q := 50) rfl ?_
      refine Go.goto X195 hx (hb hby at_50) (q := 54) (by decide) (by decide) ?_
      refine Go.istore X195 hx (hb hby at_54) (l' := #[.val (.int pf), .val (.long t1), .second, .val (.long t2), .second, .val (.long ph), .second, .val (.int 1), .val (.int 1), .val (.ref b192), .val (.int 1), .unset, .unset, .unset, .unset, .unset, .unset, .unset, .unset, .unset]) rfl (q := 56) rfl ?_
      refine Go.aload X195 hx (hb hby at_56) rfl rfl (q := 58) rfl ?_
      refine Go.lloadN X195 hx (hb hby at_58) rfl (q := 59) rfl ?_
      refine Go.iconst X195 hx (hb hby at_59) (r := (1 : Int32)) rfl (q := 60) rfl ?_
      refine Go.callS X195 hx hZ hown (wd3 hw) (wd4 hw) (wd5 hw) (wd6 hw) (by decide) (cvalueOf1 l Z a0 hw ca h194 OK194 SH SC HC) e195 (by rw [hml]; rfl) (hb hby at_60) (argsL := [(.int 1)]) (rest := [(.long t1), (.ref b192)]) (lenOf pd19 rfl) rfl rfl (W := 3) (by first | exact Nat.le_refl _ | decide) (by decide) (by decide) (by decide) (by decide) ?_
      intro v196 T196 L196 X196 hQ196
      obtain ⟨b_196, rfl, N196q, e196, P196_0⟩ := hQ196
      have N196 := Fr.app N195 N196q
      rw [e196] at P196_0
      by_cases hc197 : (0 : Int64) < t1
      · have hk198 : ¬ (t1 = (0 : Int64)) := own_gtne hc197
        show Go pp ee below _ (T196.setTop (mkF mm 63 #[.val (.int pf), .val (.long t1), .second, .val (.long t2), .second, .val (.long ph), .second, .val (.int 1), .val (.int 1), .val (.ref b192), .val (.int 1), .unset, .unset, .unset, .unset, .unset, .unset, .unset, .unset, .unset] [(.ref b_196), (.long t1), (.ref b192)]))
        refine Go.virt X196 hx hZ hown (wd27 hw) (wd28 hw) (notFace_of_selects (args := #[]) (mvT hZ (wd30 hw))) (wd30 hw) (wd29 hw) (wd2 hw) (wd31 hw) (by decide) (cwAg l Z a0 hw b192 t1 b_196 ((0 : Int64)) b_193 ((0 : Int64)) de h194 OK194 A192 g_b192 P194_0 P194_1 P194_2 P194_3 P194_4 SD LD hc197) e196 A192 (by rw [hml]; rfl) (hb hby at_63) (argsL := [(.long t1), (.ref b_196)]) (rest := []) (lenOf pd22 rfl) rfl rfl (W := 0) (by first | exact Nat.le_refl _ | decide) (by decide) (by decide) (by decide) (by decide) ?_
        intro v199 T199 L199 X199 hQ199
        obtain ⟨h199, e199⟩ : ∃ z, T199.heap = z := ⟨_, rfl⟩
        rw [e199] at hQ199
        obtain ⟨li_199, d_199, x0_199, kd_199, rfl, N199q, K199, fr199_li, fr199_d, fr199_x0, P199_0, P199_1, P199_2, P199_3, P199_4, P199_5, P199_6, P199_7, P199_8, P199_9, P199_10, P199_11, P199_12, P199_13, P199_14, P199_15, P199_16⟩ := hQ199
        have N199 := Fr.app N196 N199q
        have ne_b192_li_199 : b192 ≠ li_199 := ne_new A192.lt fr199_li
        have ne_b_193_li_199 : b_193 ≠ li_199 := ne_new P193_0.lt fr199_li
        have ne_b_196_li_199 : b_196 ≠ li_199 := ne_new P196_0.lt fr199_li
        have g_li_199 : Z.heap.size ≤ li_199 := Nat.le_trans OK194.1 fr199_li
        have ne_b192_d_199 : b192 ≠ d_199 := ne_new A192.lt fr199_d
        have ne_b_193_d_199 : b_193 ≠ d_199 := ne_new P193_0.lt fr199_d
        have ne_b_196_d_199 : b_196 ≠ d_199 := ne_new P196_0.lt fr199_d
        have g_d_199 : Z.heap.size ≤ d_199 := Nat.le_trans OK194.1 fr199_d
        have ne_b192_x0_199 : b192 ≠ x0_199 := ne_new A192.lt fr199_x0
        have ne_b_193_x0_199 : b_193 ≠ x0_199 := ne_new P193_0.lt fr199_x0
        have ne_b_196_x0_199 : b_196 ≠ x0_199 := ne_new P196_0.lt fr199_x0
        have g_x0_199 : Z.heap.size ≤ x0_199 := Nat.le_trans OK194.1 fr199_x0
        replace A192 := A192.keep K199
        replace P193_0 := P193_0.keep K199
        replace P196_0 := P196_0.keep K199
        have OK199 := ext_keep OK194 K199 (allS g_b192 all0)
        refine Go.iload X199 hx (hb hby at_66) rfl (q := 68) rfl ?_
        refine Go.ifNo X199 hx (hb hby at_68) (by decide) (q := 71) rfl ?_
        refine Go.lloadN X199 hx (hb hby at_71) rfl (q := 72) rfl ?_
        refine Go.lconst X199 hx (hb hby at_72) (r := (0 : Int64)) rfl (q := 73) rfl ?_
        refine Go.lcmp X199 hx (hb hby at_73) rfl (q := 74) rfl ?_
        refine Go.ifNo X199 hx (hb hby at_74) (Jvm.Free.XT.ll_eq_f hk198) (q := 77) rfl ?_
        refine Go.iconst X199 hx (hb hby at_77) (r := (1 : Int32)) rfl (q := 78) rfl ?_
        refine Go.goto X199 hx (hb hby at_78) (q := 82) (by decide) (by decide) ?_
        refine Go.istore X199 hx (hb hby at_82) (l' := #[.val (.int pf), .val (.long t1), .second, .val (.long t2), .second, .val (.long ph), .second, .val (.int 1), .val (.int 1), .val (.ref b192), .val (.int 1), .val (.int 1), .unset, .unset, .unset, .unset, .unset, .unset, .unset, .unset]) rfl (q := 84) rfl ?_
        refine Go.aload X199 hx (hb hby at_84) rfl rfl (q := 86) rfl ?_
        refine Go.virt X199 hx hZ hown (wd20 hw) (wd21 hw) (notFace_of_selects (args := #[]) (mvT hZ (wd23 hw))) (wd23 hw) (wd22 hw) (wd2 hw) (wd24 hw) (by decide) (cho1 l Z a0 hw b192 li_199 h199 OK199 P199_1) e199 A192 (by rw [hml]; rfl) (hb hby at_86) (argsL := []) (rest := []) (lenOf pd21 rfl) rfl rfl (W := 0) (by first | exact Nat.le_refl _ | decide) (by decide) (by decide) (by decide) (by decide) ?_
        intro v200 T200 L200 X200 hQ200
        obtain ⟨rfl, N200q, e200⟩ := hQ200
        have N200 := Fr.app N199 N200q
        refine Go.istore X200 hx (hb hby at_89) (l' := #[.val (.int pf), .val (.long t1), .second, .val (.long t2), .second, .val (.long ph), .second, .val (.int 1), .val (.int 1), .val (.ref b192), .val (.int 1), .val (.int 1), .val (.int 1), .unset, .unset, .unset, .unset, .unset, .unset, .unset]) rfl (q := 91) rfl ?_
        refine Go.iload X200 hx (hb hby at_91) rfl (q := 93) rfl ?_
        refine Go.ifNo X200 hx (hb hby at_93) (by decide) (q := 96) rfl ?_
        refine Go.iload X200 hx (hb hby at_96) rfl (q := 98) rfl ?_
        refine Go.iload X200 hx (hb hby at_98) rfl (q := 100) rfl ?_
        refine Go.icmpNo X200 hx (hb hby at_100) (by decide) (q := 103) rfl ?_
        refine Go.iload X200 hx (hb hby at_103) rfl (q := 105) rfl ?_
        refine Go.aload X200 hx (hb hby at_105) rfl rfl (q := 107) rfl ?_
        refine Go.virt X200 hx hZ hown (wd36 hw) (wd37 hw) (notFace_of_selects (args := #[]) (mvT hZ (wd39 hw))) (wd39 hw) (wd38 hw) (wd2 hw) (wd40 hw) (by decide) (ccn1 l Z a0 hw b192 li_199 ((1 : Int32)) h199 OK199 P199_1 P199_5 P199_7) e200 A192 (by rw [hml]; rfl) (hb hby at_107) (argsL := []) (rest := [(.int 1)]) (lenOf pd8 rfl) rfl rfl (W := 1) (by first | exact Nat.le_refl _ | decide) (by decide) (by decide) (by decide) (by decide) ?_
        intro v201 T201 L201 X201 hQ201
        obtain ⟨rfl, N201q, e201⟩ := hQ201
        have N201 := Fr.app N200 N201q
        refine Go.iconst X201 hx (hb hby at_110) (r := (1 : Int32)) rfl (q := 111) rfl ?_
        refine Go.icmpNo X201 hx (hb hby at_111) (by decide) (q := 114) rfl ?_
        refine Go.iconst X201 hx (hb hby at_114) (r := (1 : Int32)) rfl (q := 115) rfl ?_
        refine Go.goto X201 hx (hb hby at_115) (q := 119) (by decide) (by decide) ?_
        refine Go.icmpNo X201 hx (hb hby at_119) (by decide) (q := 122) rfl ?_
        refine Go.iconst X201 hx (hb hby at_122) (r := (1 : Int32)) rfl (q := 123) rfl ?_
        refine Go.goto X201 hx (hb hby at_123) (q := 127) (by decide) (by decide) ?_
        refine Go.istore X201 hx (hb hby at_127) (l' := #[.val (.int pf), .val (.long t1), .second, .val (.long t2), .second, .val (.long ph), .second, .val (.int 1), .val (.int 1), .val (.ref b192), .val (.int 1), .val (.int 1), .val (.int 1), .unset, .unset, .unset, .unset, .unset, .unset, .unset]) rfl (q := 129) rfl ?_
        refine Go.aload X201 hx (hb hby at_129) rfl rfl (q := 131) rfl ?_
        refine Go.lloadN X201 hx (hb hby at_131) rfl (q := 132) rfl ?_
        refine Go.iconst X201 hx (hb hby at_132) (r := (2 : Int32)) rfl (q := 133) rfl ?_
        refine Go.callS X201 hx hZ hown (wd3 hw) (wd4 hw) (wd5 hw) (wd6 hw) (by decide) (cvalueOf2 l Z a0 hw ca h199 OK199 SH SC HC) e201 (by rw [hml]; rfl) (hb hby at_133) (argsL := [(.int 2)]) (rest := [(.long t2), (.ref b192)]) (lenOf pd19 rfl) rfl rfl (W := 3) (by first | exact Nat.le_refl _ | decide) (by decide) (by decide) (by decide) (by decide) ?_
        intro v202 T202 L202 X202 hQ202
        obtain ⟨b_202, rfl, N202q, e202, P202_0⟩ := hQ202
        have N202 := Fr.app N201 N202q
        rw [e202] at P202_0
        by_cases hc203 : t1 < t2
        · show Go pp ee below _ (T202.setTop (mkF mm 136 #[.val (.int pf), .val (.long t1), .second, .val (.long t2), .second, .val (.long ph), .second, .val (.int 1), .val (.int 1), .val (.ref b192), .val (.int 1), .val (.int 1), .val (.int 1), .unset, .unset, .unset, .unset, .unset, .unset, .unset] [(.ref b_202), (.long t2), (.ref b192)]))
          refine Go.virt X202 hx hZ hown (wd27 hw) (wd28 hw) (notFace_of_selects (args := #[]) (mvT hZ (wd30 hw))) (wd30 hw) (wd29 hw) (wd2 hw) (wd31 hw) (by decide) (cwBg l Z a0 hw b192 t2 b_202 t1 b_196 ((0 : Int64)) li_199 d_199 x0_199 ((0 : Int64)) ((1 : Int32)) (kd_199) b_193 h199 OK199 A192 g_b192 P199_0 P199_1 P199_2 P199_3 P199_4 P199_5 P199_6 P199_7 P199_8 P199_9 P199_11 P199_12 P199_13 g_li_199 g_d_199 g_x0_199 ne_b192_li_199 ne_b192_d_199 ne_b192_x0_199 P199_14 P199_15 P199_16 P199_10 hc203) e202 A192 (by rw [hml]; rfl) (hb hby at_136) (argsL := [(.long t2), (.ref b_202)]) (rest := []) (lenOf pd22 rfl) rfl rfl (W := 0) (by first | exact Nat.le_refl _ | decide) (by decide) (by decide) (by decide) (by decide) ?_
          intro v204 T204 L204 X204 hQ204
          obtain ⟨h204, e204⟩ : ∃ z, T204.heap = z := ⟨_, rfl⟩
          rw [e204] at hQ204
          obtain ⟨x1_204, rfl, N204q, K204, fr204_x1, P204_0, P204_1, P204_2, P204_3, P204_4, P204_5, P204_6, P204_7, P204_8, P204_9, P204_10⟩ := hQ204
          have N204 := Fr.app N202 N204q
          have ne_b192_x1_204 : b192 ≠ x1_204 := ne_new A192.lt fr204_x1
          have ne_b_193_x1_204 : b_193 ≠ x1_204 := ne_new P193_0.lt fr204_x1
          have ne_b_196_x1_204 : b_196 ≠ x1_204 := ne_new P196_0.lt fr204_x1
          have ne_li_199_x1_204 : li_199 ≠ x1_204 := ne_new P199_5.lt fr204_x1
          have ne_d_199_x1_204 : d_199 ≠ x1_204 := ne_new P199_9.lt fr204_x1
          have ne_x0_199_x1_204 : x0_199 ≠ x1_204 := ne_new P199_11.lt fr204_x1
          have ne_b_202_x1_204 : b_202 ≠ x1_204 := ne_new P202_0.lt fr204_x1
          have g_x1_204 : Z.heap.size ≤ x1_204 := Nat.le_trans OK199.1 fr204_x1
          replace A192 := A192.keep K204
          replace P193_0 := P193_0.keep K204
          replace P196_0 := P196_0.keep K204
          replace P199_5 := P199_5.keep K204
          replace P199_11 := P199_11.keep K204
          replace P199_12 := P199_12.keep K204 (ninS (Ne.symm ne_b192_x0_199) (ninS (Ne.symm P199_15) (ninS (Ne.symm P199_16) nin0)))
          replace P199_13 := P199_13.keep K204 (ninS (Ne.symm ne_b192_x0_199) (ninS (Ne.symm P199_15) (ninS (Ne.symm P199_16) nin0)))
          replace P202_0 := P202_0.keep K204
          have OK204 := ext_keep OK199 K204 (allS g_b192 (allS g_li_199 (allS g_d_199 all0)))
          refine Go.iload X204 hx (hb hby at_139) rfl (q := 141) rfl ?_
          refine Go.ifNo X204 hx (hb hby at_141) (by decide) (q := 144) rfl ?_
          refine Go.lloadN X204 hx (hb hby at_144) rfl (q := 145) rfl ?_
          refine Go.lconst X204 hx (hb hby at_145) (r := (0 : Int64)) rfl (q := 146) rfl ?_
          refine Go.lcmp X204 hx (hb hby at_146) rfl (q := 147) rfl ?_
          refine Go.ifYes X204 hx (hb hby at_147) (Jvm.Free.XT.ll_ne_t hk198) (q := 156) (by decide) (by decide) ?_
          refine Go.iconst X204 hx (hb hby at_156) (r := (1 : Int32)) rfl (q := 157) rfl ?_
          refine Go.goto X204 hx (hb hby at_157) (q := 161) (by decide) (by decide) ?_
          refine Go.istore X204 hx (hb hby at_161) (l' := #[.val (.int pf), .val (.long t1), .second, .val (.long t2), .second, .val (.long ph), .second, .val (.int 1), .val (.int 1), .val (.ref b192), .val (.int 1), .val (.int 1), .val (.int 1), .val (.int 1), .unset, .unset, .unset, .unset, .unset, .unset]) rfl (q := 163) rfl ?_
          refine Go.aload X204 hx (hb hby at_163) rfl rfl (q := 165) rfl ?_
          refine Go.virt X204 hx hZ hown (wd20 hw) (wd21 hw) (notFace_of_selects (args := #[]) (mvT hZ (wd23 hw))) (wd23 hw) (wd22 hw) (wd2 hw) (wd24 hw) (by decide) (cho1 l Z a0 hw b192 li_199 h204 OK204 P204_1) e204 A192 (by rw [hml]; rfl) (hb hby at_165) (argsL := []) (rest := []) (lenOf pd21 rfl) rfl rfl (W := 0) (by first | exact Nat.le_refl _ | decide) (by decide) (by decide) (by decide) (by decide) ?_
          intro v205 T205 L205 X205 hQ205
          obtain ⟨rfl, N205q, e205⟩ := hQ205
          have N205 := Fr.app N204 N205q
          refine Go.istore X205 hx (hb hby at_168) (l' := #[.val (.int pf), .val (.long t1), .second, .val (.long t2), .second, .val (.long ph), .second, .val (.int 1), .val (.int 1), .val (.ref b192), .val (.int 1), .val (.int 1), .val (.int 1), .val (.int 1), .val (.int 1), .unset, .unset, .unset, .unset, .unset]) rfl (q := 170) rfl ?_
          refine Go.iload X205 hx (hb hby at_170) rfl (q := 172) rfl ?_
          refine Go.ifNo X205 hx (hb hby at_172) (by decide) (q := 175) rfl ?_
          refine Go.iload X205 hx (hb hby at_175) rfl (q := 177) rfl ?_
          refine Go.iload X205 hx (hb hby at_177) rfl (q := 179) rfl ?_
          refine Go.icmpNo X205 hx (hb hby at_179) (by decide) (q := 182) rfl ?_
          refine Go.iload X205 hx (hb hby at_182) rfl (q := 184) rfl ?_
          refine Go.aload X205 hx (hb hby at_184) rfl rfl (q := 186) rfl ?_
          refine Go.virt X205 hx hZ hown (wd36 hw) (wd37 hw) (notFace_of_selects (args := #[]) (mvT hZ (wd39 hw))) (wd39 hw) (wd38 hw) (wd2 hw) (wd40 hw) (by decide) (ccn1 l Z a0 hw b192 li_199 ((2 : Int32)) h204 OK204 P204_1 P199_5 P204_6) e205 A192 (by rw [hml]; rfl) (hb hby at_186) (argsL := []) (rest := [(.int 1)]) (lenOf pd8 rfl) rfl rfl (W := 1) (by first | exact Nat.le_refl _ | decide) (by decide) (by decide) (by decide) (by decide) ?_
          intro v206 T206 L206 X206 hQ206
          obtain ⟨rfl, N206q, e206⟩ := hQ206
          have N206 := Fr.app N205 N206q
          refine Go.iconst X206 hx (hb hby at_189) (r := (1 : Int32)) rfl (q := 190) rfl ?_
          refine Go.icmpNo X206 hx (hb hby at_190) (by decide) (q := 193) rfl ?_
          refine Go.iconst X206 hx (hb hby at_193) (r := (1 : Int32)) rfl (q := 194) rfl ?_
          refine Go.goto X206 hx (hb hby at_194) (q := 198) (by decide) (by decide) ?_
          refine Go.icmpNo X206 hx (hb hby at_198) (by decide) (q := 201) rfl ?_
          refine Go.iconst X206 hx (hb hby at_201) (r := (1 : Int32)) rfl (q := 202) rfl ?_
          refine Go.goto X206 hx (hb hby at_202) (q := 206) (by decide) (by decide) ?_
          refine Go.istore X206 hx (hb hby at_206) (l' := #[.val (.int pf), .val (.long t1), .second, .val (.long t2), .second, .val (.long ph), .second, .val (.int 1), .val (.int 1), .val (.ref b192), .val (.int 1), .val (.int 1), .val (.int 1), .val (.int 1), .val (.int 1), .unset, .unset, .unset, .unset, .unset]) rfl (q := 208) rfl ?_
          refine Go.iload X206 hx (hb hby at_208) rfl (q := 210) rfl ?_
          refine Go.ifNo X206 hx (hb hby at_210) (by decide) (q := 213) rfl ?_
          refine Go.lconst X206 hx (hb hby at_213) (r := (0 : Int64)) rfl (q := 214) rfl ?_
          refine Go.lloadN X206 hx (hb hby at_214) rfl (q := 215) rfl ?_
          refine Go.lloadN X206 hx (hb hby at_215) rfl (q := 216) rfl ?_
          refine Go.callS X206 hx hZ hown (wd125 hw) (wd126 hw) (wd112 hw) (wd127 hw) (by decide) (cmaxJ l Z a0 hw t1 t2 h204 OK204) e206 (by rw [hml]; rfl) (hb hby at_216) (argsL := [(.long t1), (.long t2)]) (rest := [(.long 0)]) (lenOf pd23 rfl) rfl rfl (W := 2) (by first | exact Nat.le_refl _ | decide) (by decide) (by decide) (by decide) (by decide) ?_
          intro v207 T207 L207 X207 hQ207
          obtain ⟨rfl, N207q, e207⟩ := hQ207
          have N207 := Fr.app N206 N207q
          refine Go.callS X207 hx hZ hown (wd125 hw) (wd126 hw) (wd112 hw) (wd127 hw) (by decide) (cmaxJ l Z a0 hw ((0 : Int64)) ((own_max t1 t2)) h204 OK204) e207 (by rw [hml]; rfl) (hb hby at_219) (argsL := [(.long 0), (.long (own_max t1 t2))]) (rest := []) (lenOf pd23 rfl) rfl rfl (W := 0) (by first | exact Nat.le_refl _ | decide) (by decide) (by decide) (by decide) (by decide) ?_
          intro v208 T208 L208 X208 hQ208
          obtain ⟨rfl, N208q, e208⟩ := hQ208
          have N208 := Fr.app N207 N208q
          rw [own_mxGG hc197 hc203]
          show Go pp ee below _ (T208.setTop (mkF mm 222 #[.val (.int pf), .val (.long t1), .second, .val (.long t2), .second, .val (.long ph), .second, .val (.int 1), .val (.int 1), .val (.ref b192), .val (.int 1), .val (.int 1), .val (.int 1), .val (.int 1), .val (.int 1), .unset, .unset, .unset, .unset, .unset] [(.long t2)]))
          refine Go.lstore X208 hx (hb hby at_222) (l' := #[.val (.int pf), .val (.long t1), .second, .val (.long t2), .second, .val (.long ph), .second, .val (.int 1), .val (.int 1), .val (.ref b192), .val (.int 1), .val (.int 1), .val (.int 1), .val (.int 1), .val (.int 1), .val (.long t2), .second, .unset, .unset, .unset]) rfl (q := 224) rfl ?_
          refine Go.iload X208 hx (hb hby at_224) rfl (q := 226) rfl ?_
          refine Go.ifNo X208 hx (hb hby at_226) (by decide) (q := 229) rfl ?_
          refine Go.lload X208 hx (hb hby at_229) rfl (q := 231) rfl ?_
          refine Go.lload X208 hx (hb hby at_231) rfl (q := 233) rfl ?_
          refine Go.lcmp X208 hx (hb hby at_233) rfl (q := 234) rfl ?_
          by_cases hc209 : ph < t2
          · refine Go.ifNo X208 hx (hb hby at_234) (Jvm.Free.XT.ll_le_f hc209) (q := 237) rfl ?_
            refine Go.iconst X208 hx (hb hby at_237) (r := (1 : Int32)) rfl (q := 238) rfl ?_
            refine Go.goto X208 hx (hb hby at_238) (q := 242) (by decide) (by decide) ?_
            refine Go.istore X208 hx (hb hby at_242) (l' := #[.val (.int pf), .val (.long t1), .second, .val (.long t2), .second, .val (.long ph), .second, .val (.int 1), .val (.int 1), .val (.ref b192), .val (.int 1), .val (.int 1), .val (.int 1), .val (.int 1), .val (.int 1), .val (.long t2), .second, .val (.int 1), .unset, .unset]) rfl (q := 244) rfl ?_
            refine Go.aload X208 hx (hb hby at_244) rfl rfl (q := 246) rfl ?_
            refine Go.lload X208 hx (hb hby at_246) rfl (q := 248) rfl ?_
            refine Go.virt X208 hx hZ hown (wd128 hw) (wd129 hw) (notFace_of_selects (args := #[]) (mvT hZ (wd131 hw))) (wd131 hw) (wd130 hw) (wd2 hw) (wd132 hw) (by decide) (cfg2 l Z a0 hw b192 ph t2 li_199 d_199 x0_199 x1_204 ((0 : Int64)) t1 ((2 : Int32)) (kd_199) h204 OK204 A192 P204_1 P204_2 P199_5 P204_5 P204_6 P204_7 P204_8 P199_11 P199_12 P204_9 P204_10 g_li_199 g_d_199 ne_b192_li_199 ne_b192_d_199 P199_14 P199_10 hc209) e208 A192 (by rw [hml]; rfl) (hb hby at_248) (argsL := [(.long ph)]) (rest := []) (lenOf pd24 rfl) rfl rfl (W := 0) (by first | exact Nat.le_refl _ | decide) (by decide) (by decide) (by decide) (by decide) ?_
            intro v210 T210 L210 X210 hQ210
            obtain ⟨h210, e210⟩ : ∃ z, T210.heap = z := ⟨_, rfl⟩
            rw [e210] at hQ210
            obtain ⟨s_210, rfl, N210q, K210, P210_0, P210_1⟩ := hQ210
            have N210 := Fr.app N208 N210q
            replace A192 := A192.keep K210
            replace P193_0 := P193_0.keep K210
            replace P196_0 := P196_0.keep K210
            replace P199_5 := P199_5.keep K210
            replace P199_11 := P199_11.keep K210
            replace P199_12 := P199_12.keep K210 (ninS (Ne.symm P199_15) (ninS (Ne.symm P199_16) nin0))
            replace P199_13 := P199_13.keep K210 (ninS (Ne.symm P199_15) (ninS (Ne.symm P199_16) nin0))
            replace P202_0 := P202_0.keep K210
            replace P204_0 := P204_0.keep K210 (ninS ne_b192_li_199 (ninS ne_b192_d_199 nin0))
            replace P204_1 := P204_1.keep K210 (ninS ne_b192_li_199 (ninS ne_b192_d_199 nin0))
            replace P204_2 := P204_2.keep K210 (ninS ne_b192_li_199 (ninS ne_b192_d_199 nin0))
            replace P204_3 := P204_3.keep K210 (ninS ne_b192_li_199 (ninS ne_b192_d_199 nin0))
            replace P204_4 := P204_4.keep K210 (ninS ne_b192_li_199 (ninS ne_b192_d_199 nin0))
            replace P204_9 := P204_9.keep K210
            replace P204_10 := P204_10.keep K210 (ninS (Ne.symm ne_li_199_x1_204) (ninS (Ne.symm ne_d_199_x1_204) nin0))
            have OK210 := ext_keep OK204 K210 (allS g_li_199 (allS g_d_199 all0))
            refine Go.istore X210 hx (hb hby at_251) (l' := #[.val (.int pf), .val (.long t1), .second, .val (.long t2), .second, .val (.long ph), .second, .val (.int 1), .val (.int 1), .val (.ref b192), .val (.int 1), .val (.int 1), .val (.int 1), .val (.int 1), .val (.int 1), .val (.long t2), .second, .val (.int 1), .val (.int 1), .unset]) rfl (q := 253) rfl ?_
            refine Go.aload X210 hx (hb hby at_253) rfl rfl (q := 255) rfl ?_
            refine Go.virt X210 hx hZ hown (wd20 hw) (wd21 hw) (notFace_of_selects (args := #[]) (mvT hZ (wd23 hw))) (wd23 hw) (wd22 hw) (wd2 hw) (wd24 hw) (by decide) (cho1 l Z a0 hw b192 li_199 h210 OK210 P204_1) e210 A192 (by rw [hml]; rfl) (hb hby at_255) (argsL := []) (rest := []) (lenOf pd21 rfl) rfl rfl (W := 0) (by first | exact Nat.le_refl _ | decide) (by decide) (by decide) (by decide) (by decide) ?_
            intro v211 T211 L211 X211 hQ211
            obtain ⟨rfl, N211q, e211⟩ := hQ211
            have N211 := Fr.app N210 N211q
            refine Go.istore X211 hx (hb hby at_258) (l' := #[.val (.int pf), .val (.long t1), .second, .val (.long t2), .second, .val (.long ph), .second, .val (.int 1), .val (.int 1), .val (.ref b192), .val (.int 1), .val (.int 1), .val (.int 1), .val (.int 1), .val (.int 1), .val (.long t2), .second, .val (.int 1), .val (.int 1), .val (.int 1)]) rfl (q := 260) rfl ?_
            refine Go.iload X211 hx (hb hby at_260) rfl (q := 262) rfl ?_
            refine Go.ifNo X211 hx (hb hby at_262) (by decide) (q := 265) rfl ?_
            refine Go.iload X211 hx (hb hby at_265) rfl (q := 267) rfl ?_
            refine Go.iload X211 hx (hb hby at_267) rfl (q := 269) rfl ?_
            refine Go.icmpNo X211 hx (hb hby at_269) (by decide) (q := 272) rfl ?_
            refine Go.iload X211 hx (hb hby at_272) rfl (q := 274) rfl ?_
            refine Go.iload X211 hx (hb hby at_274) rfl (q := 276) rfl ?_
            refine Go.icmpNo X211 hx (hb hby at_276) (by decide) (q := 279) rfl ?_
            refine Go.iload X211 hx (hb hby at_279) rfl (q := 281) rfl ?_
            refine Go.aload X211 hx (hb hby at_281) rfl rfl (q := 283) rfl ?_
            refine Go.virt X211 hx hZ hown (wd36 hw) (wd37 hw) (notFace_of_selects (args := #[]) (mvT hZ (wd39 hw))) (wd39 hw) (wd38 hw) (wd2 hw) (wd40 hw) (by decide) (ccn1 l Z a0 hw b192 li_199 s_210 h210 OK210 P204_1 P199_5 P210_0) e211 A192 (by rw [hml]; rfl) (hb hby at_283) (argsL := []) (rest := [(.int 1)]) (lenOf pd8 rfl) rfl rfl (W := 1) (by first | exact Nat.le_refl _ | decide) (by decide) (by decide) (by decide) (by decide) ?_
            intro v212 T212 L212 X212 hQ212
            obtain ⟨rfl, N212q, e212⟩ := hQ212
            have N212 := Fr.app N211 N212q
            rcases P210_1 with rfl | rfl
            · show Go pp ee below _ (T212.setTop (mkF mm 286 #[.val (.int pf), .val (.long t1), .second, .val (.long t2), .second, .val (.long ph), .second, .val (.int 1), .val (.int 1), .val (.ref b192), .val (.int 1), .val (.int 1), .val (.int 1), .val (.int 1), .val (.int 1), .val (.long t2), .second, .val (.int 1), .val (.int 1), .val (.int 1)] [(.int 2), (.int 1)]))
              refine Go.iconst X212 hx (hb hby at_286) (r := (1 : Int32)) rfl (q := 287) rfl ?_
              refine Go.icmpNo X212 hx (hb hby at_287) (by decide) (q := 290) rfl ?_
              refine Go.iconst X212 hx (hb hby at_290) (r := (1 : Int32)) rfl (q := 291) rfl ?_
              refine Go.goto X212 hx (hb hby at_291) (q := 295) (by decide) (by decide) ?_
              refine Go.icmpNo X212 hx (hb hby at_295) (by decide) (q := 298) rfl ?_
              refine Go.iconst X212 hx (hb hby at_298) (r := (1 : Int32)) rfl (q := 299) rfl ?_
              refine Go.goto X212 hx (hb hby at_299) (q := 303) (by decide) (by decide) ?_
              refine Go.istore X212 hx (hb hby at_303) (l' := #[.val (.int pf), .val (.long t1), .second, .val (.long t2), .second, .val (.long ph), .second, .val (.int 1), .val (.int 1), .val (.ref b192), .val (.int 1), .val (.int 1), .val (.int 1), .val (.int 1), .val (.int 1), .val (.long t2), .second, .val (.int 1), .val (.int 1), .val (.int 1)]) rfl (q := 305) rfl ?_
              refine Go.iload X212 hx (hb hby at_305) rfl (q := 307) rfl ?_
              exact Go.retI X212 hx hret hlk (by simp) rfl (hb hby at_307) e212 (by decide) (by decide) ⟨rfl, N212⟩
            · show Go pp ee below _ (T212.setTop (mkF mm 286 #[.val (.int pf), .val (.long t1), .second, .val (.long t2), .second, .val (.long ph), .second, .val (.int 1), .val (.int 1), .val (.ref b192), .val (.int 1), .val (.int 1), .val (.int 1), .val (.int 1), .val (.int 1), .val (.long t2), .second, .val (.int 1), .val (.int 1), .val (.int 1)] [(.int 3), (.int 1)]))
              refine Go.iconst X212 hx (hb hby at_286) (r := (1 : Int32)) rfl (q := 287) rfl ?_
              refine Go.icmpNo X212 hx (hb hby at_287) (by decide) (q := 290) rfl ?_
              refine Go.iconst X212 hx (hb hby at_290) (r := (1 : Int32)) rfl (q := 291) rfl ?_
              refine Go.goto X212 hx (hb hby at_291) (q := 295) (by decide) (by decide) ?_
              refine Go.icmpNo X212 hx (hb hby at_295) (by decide) (q := 298) rfl ?_
              refine Go.iconst X212 hx (hb hby at_298) (r := (1 : Int32)) rfl (q := 299) rfl ?_
              refine Go.goto X212 hx (hb hby at_299) (q := 303) (by decide) (by decide) ?_
              refine Go.istore X212 hx (hb hby at_303) (l' := #[.val (.int pf), .val (.long t1), .second, .val (.long t2), .second, .val (.long ph), .second, .val (.int 1), .val (.int 1), .val (.ref b192), .val (.int 1), .val (.int 1), .val (.int 1), .val (.int 1), .val (.int 1), .val (.long t2), .second, .val (.int 1), .val (.int 1), .val (.int 1)]) rfl (q := 305) rfl ?_
              refine Go.iload X212 hx (hb hby at_305) rfl (q := 307) rfl ?_
              exact Go.retI X212 hx hret hlk (by simp) rfl (hb hby at_307) e212 (by decide) (by decide) ⟨rfl, N212⟩
          · refine Go.ifYes X208 hx (hb hby at_234) (Jvm.Free.XT.ll_le_t hc209) (q := 241) (by decide) (by decide) ?_
            refine Go.iconst X208 hx (hb hby at_241) (r := (0 : Int32)) rfl (q := 242) rfl ?_
            refine Go.istore X208 hx (hb hby at_242) (l' := #[.val (.int pf), .val (.long t1), .second, .val (.long t2), .second, .val (.long ph), .second, .val (.int 1), .val (.int 1), .val (.ref b192), .val (.int 1), .val (.int 1), .val (.int 1), .val (.int 1), .val (.int 1), .val (.long t2), .second, .val (.int 0), .unset, .unset]) rfl (q := 244) rfl ?_
            refine Go.aload X208 hx (hb hby at_244) rfl rfl (q := 246) rfl ?_
            refine Go.lload X208 hx (hb hby at_246) rfl (q := 248) rfl ?_
            refine Go.virt X208 hx hZ hown (wd128 hw) (wd129 hw) (notFace_of_selects (args := #[]) (mvT hZ (wd131 hw))) (wd131 hw) (wd130 hw) (wd2 hw) (wd132 hw) (by decide) (cfgl l Z a0 hw b192 ph li_199 t2 b_202 ((0 : Int64)) h204 OK204 A192 g_b192 P204_0 P204_1 P204_2 P204_3 P204_4 hc209) e208 A192 (by rw [hml]; rfl) (hb hby at_248) (argsL := [(.long ph)]) (rest := []) (lenOf pd24 rfl) rfl rfl (W := 0) (by first | exact Nat.le_refl _ | decide) (by decide) (by decide) (by decide) (by decide) ?_
            intro v213 T213 L213 X213 hQ213
            obtain ⟨h213, e213⟩ : ∃ z, T213.heap = z := ⟨_, rfl⟩
            rw [e213] at hQ213
            obtain ⟨rfl, N213q, K213, P213_0, P213_1, P213_2, P213_3, P213_4⟩ := hQ213
            have N213 := Fr.app N208 N213q
            replace A192 := A192.keep K213
            replace P193_0 := P193_0.keep K213
            replace P196_0 := P196_0.keep K213
            replace P199_5 := P199_5.keep K213
            replace P199_11 := P199_11.keep K213
            replace P199_12 := P199_12.keep K213 (ninS (Ne.symm ne_b192_x0_199) nin0)
            replace P199_13 := P199_13.keep K213 (ninS (Ne.symm ne_b192_x0_199) nin0)
            replace P202_0 := P202_0.keep K213
            replace P204_5 := P204_5.keep K213 (ninS (Ne.symm ne_b192_li_199) nin0)
            replace P204_6 := P204_6.keep K213 (ninS (Ne.symm ne_b192_li_199) nin0)
            replace P204_7 := P204_7.keep K213 (ninS (Ne.symm ne_b192_li_199) nin0)
            replace P204_8 := P204_8.keep K213 (ninS (Ne.symm ne_b192_d_199) nin0)
            replace P204_9 := P204_9.keep K213
            replace P204_10 := P204_10.keep K213 (ninS (Ne.symm ne_b192_x1_204) nin0)
            have OK213 := ext_keep OK204 K213 (allS g_b192 all0)
            refine Go.istore X213 hx (hb hby at_251) (l' := #[.val (.int pf), .val (.long t1), .second, .val (.long t2), .second, .val (.long ph), .second, .val (.int 1), .val (.int 1), .val (.ref b192), .val (.int 1), .val (.int 1), .val (.int 1), .val (.int 1), .val (.int 1), .val (.long t2), .second, .val (.int 0), .val (.int 0), .unset]) rfl (q := 253) rfl ?_
            refine Go.aload X213 hx (hb hby at_253) rfl rfl (q := 255) rfl ?_
            refine Go.virt X213 hx hZ hown (wd20 hw) (wd21 hw) (notFace_of_selects (args := #[]) (mvT hZ (wd23 hw))) (wd23 hw) (wd22 hw) (wd2 hw) (wd24 hw) (by decide) (cho0 l Z a0 hw b192 h213 OK213 P213_1) e213 A192 (by rw [hml]; rfl) (hb hby at_255) (argsL := []) (rest := []) (lenOf pd21 rfl) rfl rfl (W := 0) (by first | exact Nat.le_refl _ | decide) (by decide) (by decide) (by decide) (by decide) ?_
            intro v214 T214 L214 X214 hQ214
            obtain ⟨rfl, N214q, e214⟩ := hQ214
            have N214 := Fr.app N213 N214q
            refine Go.istore X214 hx (hb hby at_258) (l' := #[.val (.int pf), .val (.long t1), .second, .val (.long t2), .second, .val (.long ph), .second, .val (.int 1), .val (.int 1), .val (.ref b192), .val (.int 1), .val (.int 1), .val (.int 1), .val (.int 1), .val (.int 1), .val (.long t2), .second, .val (.int 0), .val (.int 0), .val (.int 0)]) rfl (q := 260) rfl ?_
            refine Go.iload X214 hx (hb hby at_260) rfl (q := 262) rfl ?_
            refine Go.ifNo X214 hx (hb hby at_262) (by decide) (q := 265) rfl ?_
            refine Go.iload X214 hx (hb hby at_265) rfl (q := 267) rfl ?_
            refine Go.iload X214 hx (hb hby at_267) rfl (q := 269) rfl ?_
            refine Go.icmpNo X214 hx (hb hby at_269) (by decide) (q := 272) rfl ?_
            refine Go.iload X214 hx (hb hby at_272) rfl (q := 274) rfl ?_
            refine Go.iload X214 hx (hb hby at_274) rfl (q := 276) rfl ?_
            refine Go.icmpNo X214 hx (hb hby at_276) (by decide) (q := 279) rfl ?_
            refine Go.iload X214 hx (hb hby at_279) rfl (q := 281) rfl ?_
            refine Go.aload X214 hx (hb hby at_281) rfl rfl (q := 283) rfl ?_
            refine Go.virt X214 hx hZ hown (wd36 hw) (wd37 hw) (notFace_of_selects (args := #[]) (mvT hZ (wd39 hw))) (wd39 hw) (wd38 hw) (wd2 hw) (wd40 hw) (by decide) (ccn0 l Z a0 hw b192 h213 OK213 P213_1) e214 A192 (by rw [hml]; rfl) (hb hby at_283) (argsL := []) (rest := [(.int 0)]) (lenOf pd8 rfl) rfl rfl (W := 1) (by first | exact Nat.le_refl _ | decide) (by decide) (by decide) (by decide) (by decide) ?_
            intro v215 T215 L215 X215 hQ215
            obtain ⟨rfl, N215q, e215⟩ := hQ215
            have N215 := Fr.app N214 N215q
            refine Go.iconst X215 hx (hb hby at_286) (r := (1 : Int32)) rfl (q := 287) rfl ?_
            refine Go.icmpYes X215 hx (hb hby at_287) (by decide) (q := 294) (by decide) (by decide) ?_
            refine Go.iconst X215 hx (hb hby at_294) (r := (0 : Int32)) rfl (q := 295) rfl ?_
            refine Go.icmpNo X215 hx (hb hby at_295) (by decide) (q := 298) rfl ?_
            refine Go.iconst X215 hx (hb hby at_298) (r := (1 : Int32)) rfl (q := 299) rfl ?_
            refine Go.goto X215 hx (hb hby at_299) (q := 303) (by decide) (by decide) ?_
            refine Go.istore X215 hx (hb hby at_303) (l' := #[.val (.int pf), .val (.long t1), .second, .val (.long t2), .second, .val (.long ph), .second, .val (.int 1), .val (.int 1), .val (.ref b192), .val (.int 1), .val (.int 1), .val (.int 1), .val (.int 1), .val (.int 1), .val (.long t2), .second, .val (.int 0), .val (.int 0), .val (.int 0)]) rfl (q := 305) rfl ?_
            refine Go.iload X215 hx (hb hby at_305) rfl (q := 307) rfl ?_
            exact Go.retI X215 hx hret hlk (by simp) rfl (hb hby at_307) e215 (by decide) (by decide) ⟨rfl, N215⟩
        · by_cases ho216 : t2 = t1 ∨ (0 : Int64) = t2
          · show Go pp ee below _ (T202.setTop (mkF mm 136 #[.val (.int pf), .val (.long t1), .second, .val (.long t2), .second, .val (.long ph), .second, .val (.int 1), .val (.int 1), .val (.ref b192), .val (.int 1), .val (.int 1), .val (.int 1), .unset, .unset, .unset, .unset, .unset, .unset, .unset] [(.ref b_202), (.long t2), (.ref b192)]))
            refine Go.virt X202 hx hZ hown (wd27 hw) (wd28 hw) (notFace_of_selects (args := #[]) (mvT hZ (wd30 hw))) (wd30 hw) (wd29 hw) (wd2 hw) (wd31 hw) (by decide) (cwBs l Z a0 hw b192 t2 b_202 t1 b_196 ((0 : Int64)) li_199 d_199 x0_199 ((0 : Int64)) ((1 : Int32)) (kd_199) b_193 h199 OK199 A192 g_b192 P199_0 P199_1 P199_2 P199_3 P199_4 P199_5 P199_6 P199_7 P199_8 P199_9 P199_11 P199_12 P199_13 g_li_199 g_d_199 g_x0_199 ne_b192_li_199 ne_b192_d_199 ne_b192_x0_199 P199_14 P199_15 P199_16 P199_10 hc203 ho216) e202 A192 (by rw [hml]; rfl) (hb hby at_136) (argsL := [(.long t2), (.ref b_202)]) (rest := []) (lenOf pd22 rfl) rfl rfl (W := 0) (by first | exact Nat.le_refl _ | decide) (by decide) (by decide) (by decide) (by decide) ?_
            intro v217 T217 L217 X217 hQ217
            obtain ⟨h217, e217⟩ : ∃ z, T217.heap = z := ⟨_, rfl⟩
            rw [e217] at hQ217
            obtain ⟨v3_217, xv2_217, rfl, N217q, K217, P217_0, P217_1, P217_2, P217_3, P217_4, P217_5, P217_6⟩ := hQ217
            have N217 := Fr.app N202 N217q
            replace A192 := A192.keep K217
            replace P193_0 := P193_0.keep K217
            replace P196_0 := P196_0.keep K217
            replace P199_5 := P199_5.keep K217
            replace P199_6 := P199_6.keep K217 (ninS (Ne.symm ne_b192_li_199) (ninS P199_15 nin0))
            replace P199_7 := P199_7.keep K217 (ninS (Ne.symm ne_b192_li_199) (ninS P199_15 nin0))
            replace P199_8 := P199_8.keep K217 (ninS (Ne.symm ne_b192_li_199) (ninS P199_15 nin0))
            replace P199_9 := P199_9.keep K217 (ninS (Ne.symm ne_b192_d_199) (ninS P199_16 nin0))
            replace P199_11 := P199_11.keep K217
            replace P202_0 := P202_0.keep K217
            have OK217 := ext_keep OK199 K217 (allS g_b192 (allS g_x0_199 all0))
            refine Go.iload X217 hx (hb hby at_139) rfl (q := 141) rfl ?_
            refine Go.ifNo X217 hx (hb hby at_141) (by decide) (q := 144) rfl ?_
            refine Go.lloadN X217 hx (hb hby at_144) rfl (q := 145) rfl ?_
            refine Go.lconst X217 hx (hb hby at_145) (r := (0 : Int64)) rfl (q := 146) rfl ?_
            refine Go.lcmp X217 hx (hb hby at_146) rfl (q := 147) rfl ?_
            refine Go.ifYes X217 hx (hb hby at_147) (Jvm.Free.XT.ll_ne_t hk198) (q := 156) (by decide) (by decide) ?_
            refine Go.iconst X217 hx (hb hby at_156) (r := (1 : Int32)) rfl (q := 157) rfl ?_
            refine Go.goto X217 hx (hb hby at_157) (q := 161) (by decide) (by decide) ?_
            refine Go.istore X217 hx (hb hby at_161) (l' := #[.val (.int pf), .val (.long t1), .second, .val (.long t2), .second, .val (.long ph), .second, .val (.int 1), .val (.int 1), .val (.ref b192), .val (.int 1), .val (.int 1), .val (.int 1), .val (.int 1), .unset, .unset, .unset, .unset, .unset, .unset]) rfl (q := 163) rfl ?_
            refine Go.aload X217 hx (hb hby at_163) rfl rfl (q := 165) rfl ?_
            refine Go.virt X217 hx hZ hown (wd20 hw) (wd21 hw) (notFace_of_selects (args := #[]) (mvT hZ (wd23 hw))) (wd23 hw) (wd22 hw) (wd2 hw) (wd24 hw) (by decide) (cho1 l Z a0 hw b192 li_199 h217 OK217 P217_1) e217 A192 (by rw [hml]; rfl) (hb hby at_165) (argsL := []) (rest := []) (lenOf pd21 rfl) rfl rfl (W := 0) (by first | exact Nat.le_refl _ | decide) (by decide) (by decide) (by decide) (by decide) ?_
            intro v218 T218 L218 X218 hQ218
            obtain ⟨rfl, N218q, e218⟩ := hQ218
            have N218 := Fr.app N217 N218q
            refine Go.istore X218 hx (hb hby at_168) (l' := #[.val (.int pf), .val (.long t1), .second, .val (.long t2), .second, .val (.long ph), .second, .val (.int 1), .val (.int 1), .val (.ref b192), .val (.int 1), .val (.int 1), .val (.int 1), .val (.int 1), .val (.int 1), .unset, .unset, .unset, .unset, .unset]) rfl (q := 170) rfl ?_
            refine Go.iload X218 hx (hb hby at_170) rfl (q := 172) rfl ?_
            refine Go.ifNo X218 hx (hb hby at_172) (by decide) (q := 175) rfl ?_
            refine Go.iload X218 hx (hb hby at_175) rfl (q := 177) rfl ?_
            refine Go.iload X218 hx (hb hby at_177) rfl (q := 179) rfl ?_
            refine Go.icmpNo X218 hx (hb hby at_179) (by decide) (q := 182) rfl ?_
            refine Go.iload X218 hx (hb hby at_182) rfl (q := 184) rfl ?_
            refine Go.aload X218 hx (hb hby at_184) rfl rfl (q := 186) rfl ?_
            refine Go.virt X218 hx hZ hown (wd36 hw) (wd37 hw) (notFace_of_selects (args := #[]) (mvT hZ (wd39 hw))) (wd39 hw) (wd38 hw) (wd2 hw) (wd40 hw) (by decide) (ccn1 l Z a0 hw b192 li_199 ((1 : Int32)) h217 OK217 P217_1 P199_5 P199_7) e218 A192 (by rw [hml]; rfl) (hb hby at_186) (argsL := []) (rest := [(.int 1)]) (lenOf pd8 rfl) rfl rfl (W := 1) (by first | exact Nat.le_refl _ | decide) (by decide) (by decide) (by decide) (by decide) ?_
            intro v219 T219 L219 X219 hQ219
            obtain ⟨rfl, N219q, e219⟩ := hQ219
            have N219 := Fr.app N218 N219q
            refine Go.iconst X219 hx (hb hby at_189) (r := (1 : Int32)) rfl (q := 190) rfl ?_
            refine Go.icmpNo X219 hx (hb hby at_190) (by decide) (q := 193) rfl ?_
            refine Go.iconst X219 hx (hb hby at_193) (r := (1 : Int32)) rfl (q := 194) rfl ?_
            refine Go.goto X219 hx (hb hby at_194) (q := 198) (by decide) (by decide) ?_
            refine Go.icmpNo X219 hx (hb hby at_198) (by decide) (q := 201) rfl ?_
            refine Go.iconst X219 hx (hb hby at_201) (r := (1 : Int32)) rfl (q := 202) rfl ?_
            refine Go.goto X219 hx (hb hby at_202) (q := 206) (by decide) (by decide) ?_
            refine Go.istore X219 hx (hb hby at_206) (l' := #[.val (.int pf), .val (.long t1), .second, .val (.long t2), .second, .val (.long ph), .second, .val (.int 1), .val (.int 1), .val (.ref b192), .val (.int 1), .val (.int 1), .val (.int 1), .val (.int 1), .val (.int 1), .unset, .unset, .unset, .unset, .unset]) rfl (q := 208) rfl ?_
            refine Go.iload X219 hx (hb hby at_208) rfl (q := 210) rfl ?_
            refine Go.ifNo X219 hx (hb hby at_210) (by decide) (q := 213) rfl ?_
            refine Go.lconst X219 hx (hb hby at_213) (r := (0 : Int64)) rfl (q := 214) rfl ?_
            refine Go.lloadN X219 hx (hb hby at_214) rfl (q := 215) rfl ?_
            refine Go.lloadN X219 hx (hb hby at_215) rfl (q := 216) rfl ?_
            refine Go.callS X219 hx hZ hown (wd125 hw) (wd126 hw) (wd112 hw) (wd127 hw) (by decide) (cmaxJ l Z a0 hw t1 t2 h217 OK217) e219 (by rw [hml]; rfl) (hb hby at_216) (argsL := [(.long t1), (.long t2)]) (rest := [(.long 0)]) (lenOf pd23 rfl) rfl rfl (W := 2) (by first | exact Nat.le_refl _ | decide) (by decide) (by decide) (by decide) (by decide) ?_
            intro v220 T220 L220 X220 hQ220
            obtain ⟨rfl, N220q, e220⟩ := hQ220
            have N220 := Fr.app N219 N220q
            refine Go.callS X220 hx hZ hown (wd125 hw) (wd126 hw) (wd112 hw) (wd127 hw) (by decide) (cmaxJ l Z a0 hw ((0 : Int64)) ((own_max t1 t2)) h217 OK217) e220 (by rw [hml]; rfl) (hb hby at_219) (argsL := [(.long 0), (.long (own_max t1 t2))]) (rest := []) (lenOf pd23 rfl) rfl rfl (W := 0) (by first | exact Nat.le_refl _ | decide) (by decide) (by decide) (by decide) (by decide) ?_
            intro v221 T221 L221 X221 hQ221
            obtain ⟨rfl, N221q, e221⟩ := hQ221
            have N221 := Fr.app N220 N221q
            rw [own_mxGN hc197 hc203]
            show Go pp ee below _ (T221.setTop (mkF mm 222 #[.val (.int pf), .val (.long t1), .second, .val (.long t2), .second, .val (.long ph), .second, .val (.int 1), .val (.int 1), .val (.ref b192), .val (.int 1), .val (.int 1), .val (.int 1), .val (.int 1), .val (.int 1), .unset, .unset, .unset, .unset, .unset] [(.long t1)]))
            refine Go.lstore X221 hx (hb hby at_222) (l' := #[.val (.int pf), .val (.long t1), .second, .val (.long t2), .second, .val (.long ph), .second, .val (.int 1), .val (.int 1), .val (.ref b192), .val (.int 1), .val (.int 1), .val (.int 1), .val (.int 1), .val (.int 1), .val (.long t1), .second, .unset, .unset, .unset]) rfl (q := 224) rfl ?_
            refine Go.iload X221 hx (hb hby at_224) rfl (q := 226) rfl ?_
            refine Go.ifNo X221 hx (hb hby at_226) (by decide) (q := 229) rfl ?_
            refine Go.lload X221 hx (hb hby at_229) rfl (q := 231) rfl ?_
            refine Go.lload X221 hx (hb hby at_231) rfl (q := 233) rfl ?_
            refine Go.lcmp X221 hx (hb hby at_233) rfl (q := 234) rfl ?_
            by_cases hc222 : ph < t1
            · refine Go.ifNo X221 hx (hb hby at_234) (Jvm.Free.XT.ll_le_f hc222) (q := 237) rfl ?_
              refine Go.iconst X221 hx (hb hby at_237) (r := (1 : Int32)) rfl (q := 238) rfl ?_
              refine Go.goto X221 hx (hb hby at_238) (q := 242) (by decide) (by decide) ?_
              refine Go.istore X221 hx (hb hby at_242) (l' := #[.val (.int pf), .val (.long t1), .second, .val (.long t2), .second, .val (.long ph), .second, .val (.int 1), .val (.int 1), .val (.ref b192), .val (.int 1), .val (.int 1), .val (.int 1), .val (.int 1), .val (.int 1), .val (.long t1), .second, .val (.int 1), .unset, .unset]) rfl (q := 244) rfl ?_
              refine Go.aload X221 hx (hb hby at_244) rfl rfl (q := 246) rfl ?_
              refine Go.lload X221 hx (hb hby at_246) rfl (q := 248) rfl ?_
              refine Go.virt X221 hx hZ hown (wd128 hw) (wd129 hw) (notFace_of_selects (args := #[]) (mvT hZ (wd131 hw))) (wd131 hw) (wd130 hw) (wd2 hw) (wd132 hw) (by decide) (cfg1 l Z a0 hw b192 ph t1 li_199 d_199 x0_199 ((0 : Int64)) ((1 : Int32)) (kd_199) h217 OK217 A192 P217_1 P217_2 P199_5 P199_6 P199_7 P199_8 P199_9 P199_11 P217_5 hc222) e221 A192 (by rw [hml]; rfl) (hb hby at_248) (argsL := [(.long ph)]) (rest := []) (lenOf pd24 rfl) rfl rfl (W := 0) (by first | exact Nat.le_refl _ | decide) (by decide) (by decide) (by decide) (by decide) ?_
              intro v223 T223 L223 X223 hQ223
              obtain ⟨rfl, N223q, e223⟩ := hQ223
              have N223 := Fr.app N221 N223q
              refine Go.istore X223 hx (hb hby at_251) (l' := #[.val (.int pf), .val (.long t1), .second, .val (.long t2), .second, .val (.long ph), .second, .val (.int 1), .val (.int 1), .val (.ref b192), .val (.int 1), .val (.int 1), .val (.int 1), .val (.int 1), .val (.int 1), .val (.long t1), .second, .val (.int 1), .val (.int 1), .unset]) rfl (q := 253) rfl ?_
              refine Go.aload X223 hx (hb hby at_253) rfl rfl (q := 255) rfl ?_
              refine Go.virt X223 hx hZ hown (wd20 hw) (wd21 hw) (notFace_of_selects (args := #[]) (mvT hZ (wd23 hw))) (wd23 hw) (wd22 hw) (wd2 hw) (wd24 hw) (by decide) (cho1 l Z a0 hw b192 li_199 h217 OK217 P217_1) e223 A192 (by rw [hml]; rfl) (hb hby at_255) (argsL := []) (rest := []) (lenOf pd21 rfl) rfl rfl (W := 0) (by first | exact Nat.le_refl _ | decide) (by decide) (by decide) (by decide) (by decide) ?_
              intro v224 T224 L224 X224 hQ224
              obtain ⟨rfl, N224q, e224⟩ := hQ224
              have N224 := Fr.app N223 N224q
              refine Go.istore X224 hx (hb hby at_258) (l' := #[.val (.int pf), .val (.long t1), .second, .val (.long t2), .second, .val (.long ph), .second, .val (.int 1), .val (.int 1), .val (.ref b192), .val (.int 1), .val (.int 1), .val (.int 1), .val (.int 1), .val (.int 1), .val (.long t1), .second, .val (.int 1), .val (.int 1), .val (.int 1)]) rfl (q := 260) rfl ?_
              refine Go.iload X224 hx (hb hby at_260) rfl (q := 262) rfl ?_
              refine Go.ifNo X224 hx (hb hby at_262) (by decide) (q := 265) rfl ?_
              refine Go.iload X224 hx (hb hby at_265) rfl (q := 267) rfl ?_
              refine Go.iload X224 hx (hb hby at_267) rfl (q := 269) rfl ?_
              refine Go.icmpNo X224 hx (hb hby at_269) (by decide) (q := 272) rfl ?_
              refine Go.iload X224 hx (hb hby at_272) rfl (q := 274) rfl ?_
              refine Go.iload X224 hx (hb hby at_274) rfl (q := 276) rfl ?_
              refine Go.icmpNo X224 hx (hb hby at_276) (by decide) (q := 279) rfl ?_
              refine Go.iload X224 hx (hb hby at_279) rfl (q := 281) rfl ?_
              refine Go.aload X224 hx (hb hby at_281) rfl rfl (q := 283) rfl ?_
              refine Go.virt X224 hx hZ hown (wd36 hw) (wd37 hw) (notFace_of_selects (args := #[]) (mvT hZ (wd39 hw))) (wd39 hw) (wd38 hw) (wd2 hw) (wd40 hw) (by decide) (ccn1 l Z a0 hw b192 li_199 ((1 : Int32)) h217 OK217 P217_1 P199_5 P199_7) e224 A192 (by rw [hml]; rfl) (hb hby at_283) (argsL := []) (rest := [(.int 1)]) (lenOf pd8 rfl) rfl rfl (W := 1) (by first | exact Nat.le_refl _ | decide) (by decide) (by decide) (by decide) (by decide) ?_
              intro v225 T225 L225 X225 hQ225
              obtain ⟨rfl, N225q, e225⟩ := hQ225
              have N225 := Fr.app N224 N225q
              refine Go.iconst X225 hx (hb hby at_286) (r := (1 : Int32)) rfl (q := 287) rfl ?_
              refine Go.icmpNo X225 hx (hb hby at_287) (by decide) (q := 290) rfl ?_
              refine Go.iconst X225 hx (hb hby at_290) (r := (1 : Int32)) rfl (q := 291) rfl ?_
              refine Go.goto X225 hx (hb hby at_291) (q := 295) (by decide) (by decide) ?_
              refine Go.icmpNo X225 hx (hb hby at_295) (by decide) (q := 298) rfl ?_
              refine Go.iconst X225 hx (hb hby at_298) (r := (1 : Int32)) rfl (q := 299) rfl ?_
              refine Go.goto X225 hx (hb hby at_299) (q := 303) (by decide) (by decide) ?_
              refine Go.istore X225 hx (hb hby at_303) (l' := #[.val (.int pf), .val (.long t1), .second, .val (.long t2), .second, .val (.long ph), .second, .val (.int 1), .val (.int 1), .val (.ref b192), .val (.int 1), .val (.int 1), .val (.int 1), .val (.int 1), .val (.int 1), .val (.long t1), .second, .val (.int 1), .val (.int 1), .val (.int 1)]) rfl (q := 305) rfl ?_
              refine Go.iload X225 hx (hb hby at_305) rfl (q := 307) rfl ?_
              exact Go.retI X225 hx hret hlk (by simp) rfl (hb hby at_307) e225 (by decide) (by decide) ⟨rfl, N225⟩
            · refine Go.ifYes X221 hx (hb hby at_234) (Jvm.Free.XT.ll_le_t hc222) (q := 241) (by decide) (by decide) ?_
              refine Go.iconst X221 hx (hb hby at_241) (r := (0 : Int32)) rfl (q := 242) rfl ?_
              refine Go.istore X221 hx (hb hby at_242) (l' := #[.val (.int pf), .val (.long t1), .second, .val (.long t2), .second, .val (.long ph), .second, .val (.int 1), .val (.int 1), .val (.ref b192), .val (.int 1), .val (.int 1), .val (.int 1), .val (.int 1), .val (.int 1), .val (.long t1), .second, .val (.int 0), .unset, .unset]) rfl (q := 244) rfl ?_
              refine Go.aload X221 hx (hb hby at_244) rfl rfl (q := 246) rfl ?_
              refine Go.lload X221 hx (hb hby at_246) rfl (q := 248) rfl ?_
              refine Go.virt X221 hx hZ hown (wd128 hw) (wd129 hw) (notFace_of_selects (args := #[]) (mvT hZ (wd131 hw))) (wd131 hw) (wd130 hw) (wd2 hw) (wd132 hw) (by decide) (cfgl l Z a0 hw b192 ph li_199 t1 v3_217 ((0 : Int64)) h217 OK217 A192 g_b192 P217_0 P217_1 P217_2 P217_3 P217_4 hc222) e221 A192 (by rw [hml]; rfl) (hb hby at_248) (argsL := [(.long ph)]) (rest := []) (lenOf pd24 rfl) rfl rfl (W := 0) (by first | exact Nat.le_refl _ | decide) (by decide) (by decide) (by decide) (by decide) ?_
              intro v226 T226 L226 X226 hQ226
              obtain ⟨h226, e226⟩ : ∃ z, T226.heap = z := ⟨_, rfl⟩
              rw [e226] at hQ226
              obtain ⟨rfl, N226q, K226, P226_0, P226_1, P226_2, P226_3, P226_4⟩ := hQ226
              have N226 := Fr.app N221 N226q
              replace A192 := A192.keep K226
              replace P193_0 := P193_0.keep K226
              replace P196_0 := P196_0.keep K226
              replace P199_5 := P199_5.keep K226
              replace P199_6 := P199_6.keep K226 (ninS (Ne.symm ne_b192_li_199) nin0)
              replace P199_7 := P199_7.keep K226 (ninS (Ne.symm ne_b192_li_199) nin0)
              replace P199_8 := P199_8.keep K226 (ninS (Ne.symm ne_b192_li_199) nin0)
              replace P199_9 := P199_9.keep K226 (ninS (Ne.symm ne_b192_d_199) nin0)
              replace P199_11 := P199_11.keep K226
              replace P202_0 := P202_0.keep K226
              replace P217_5 := P217_5.keep K226 (ninS (Ne.symm ne_b192_x0_199) nin0)
              replace P217_6 := P217_6.keep K226 (ninS (Ne.symm ne_b192_x0_199) nin0)
              have OK226 := ext_keep OK217 K226 (allS g_b192 all0)
              refine Go.istore X226 hx (hb hby at_251) (l' := #[.val (.int pf), .val (.long t1), .second, .val (.long t2), .second, .val (.long ph), .second, .val (.int 1), .val (.int 1), .val (.ref b192), .val (.int 1), .val (.int 1), .val (.int 1), .val (.int 1), .val (.int 1), .val (.long t1), .second, .val (.int 0), .val (.int 0), .unset]) rfl (q := 253) rfl ?_
              refine Go.aload X226 hx (hb hby at_253) rfl rfl (q := 255) rfl ?_
              refine Go.virt X226 hx hZ hown (wd20 hw) (wd21 hw) (notFace_of_selects (args := #[]) (mvT hZ (wd23 hw))) (wd23 hw) (wd22 hw) (wd2 hw) (wd24 hw) (by decide) (cho0 l Z a0 hw b192 h226 OK226 P226_1) e226 A192 (by rw [hml]; rfl) (hb hby at_255) (argsL := []) (rest := []) (lenOf pd21 rfl) rfl rfl (W := 0) (by first | exact Nat.le_refl _ | decide) (by decide) (by decide) (by decide) (by decide) ?_
              intro v227 T227 L227 X227 hQ227
              obtain ⟨rfl, N227q, e227⟩ := hQ227
              have N227 := Fr.app N226 N227q
              refine Go.istore X227 hx (hb hby at_258) (l' := #[.val (.int pf), .val (.long t1), .second, .val (.long t2), .second, .val (.long ph), .second, .val (.int 1), .val (.int 1), .val (.ref b192), .val (.int 1), .val (.int 1), .val (.int 1), .val (.int 1), .val (.int 1), .val (.long t1), .second, .val (.int 0), .val (.int 0), .val (.int 0)]) rfl (q := 260) rfl ?_
              refine Go.iload X227 hx (hb hby at_260) rfl (q := 262) rfl ?_
              refine Go.ifNo X227 hx (hb hby at_262) (by decide) (q := 265) rfl ?_
              refine Go.iload X227 hx (hb hby at_265) rfl (q := 267) rfl ?_
              refine Go.iload X227 hx (hb hby at_267) rfl (q := 269) rfl ?_
              refine Go.icmpNo X227 hx (hb hby at_269) (by decide) (q := 272) rfl ?_
              refine Go.iload X227 hx (hb hby at_272) rfl (q := 274) rfl ?_
              refine Go.iload X227 hx (hb hby at_274) rfl (q := 276) rfl ?_
              refine Go.icmpNo X227 hx (hb hby at_276) (by decide) (q := 279) rfl ?_
              refine Go.iload X227 hx (hb hby at_279) rfl (q := 281) rfl ?_
              refine Go.aload X227 hx (hb hby at_281) rfl rfl (q := 283) rfl ?_
              refine Go.virt X227 hx hZ hown (wd36 hw) (wd37 hw) (notFace_of_selects (args := #[]) (mvT hZ (wd39 hw))) (wd39 hw) (wd38 hw) (wd2 hw) (wd40 hw) (by decide) (ccn0 l Z a0 hw b192 h226 OK226 P226_1) e227 A192 (by rw [hml]; rfl) (hb hby at_283) (argsL := []) (rest := [(.int 0)]) (lenOf pd8 rfl) rfl rfl (W := 1) (by first | exact Nat.le_refl _ | decide) (by decide) (by decide) (by decide) (by decide) ?_
              intro v228 T228 L228 X228 hQ228
              obtain ⟨rfl, N228q, e228⟩ := hQ228
              have N228 := Fr.app N227 N228q
              refine Go.iconst X228 hx (hb hby at_286) (r := (1 : Int32)) rfl (q := 287) rfl ?_
              refine Go.icmpYes X228 hx (hb hby at_287) (by decide) (q := 294) (by decide) (by decide) ?_
              refine Go.iconst X228 hx (hb hby at_294) (r := (0 : Int32)) rfl (q := 295) rfl ?_
              refine Go.icmpNo X228 hx (hb hby at_295) (by decide) (q := 298) rfl ?_
              refine Go.iconst X228 hx (hb hby at_298) (r := (1 : Int32)) rfl (q := 299) rfl ?_
              refine Go.goto X228 hx (hb hby at_299) (q := 303) (by decide) (by decide) ?_
              refine Go.istore X228 hx (hb hby at_303) (l' := #[.val (.int pf), .val (.long t1), .second, .val (.long t2), .second, .val (.long ph), .second, .val (.int 1), .val (.int 1), .val (.ref b192), .val (.int 1), .val (.int 1), .val (.int 1), .val (.int 1), .val (.int 1), .val (.long t1), .second, .val (.int 0), .val (.int 0), .val (.int 0)]) rfl (q := 305) rfl ?_
              refine Go.iload X228 hx (hb hby at_305) rfl (q := 307) rfl ?_
              exact Go.retI X228 hx hret hlk (by simp) rfl (hb hby at_307) e228 (by decide) (by decide) ⟨rfl, N228⟩
          · have hk229 : ¬ (t2 = t1) := fun q => ho216 (Or.inl q)
            have hk230 : ¬ ((0 : Int64) = t2) := fun q => ho216 (Or.inr q)
            show Go pp ee below _ (T202.setTop (mkF mm 136 #[.val (.int pf), .val (.long t1), .second, .val (.long t2), .second, .val (.long ph), .second, .val (.int 1), .val (.int 1), .val (.ref b192), .val (.int 1), .val (.int 1), .val (.int 1), .unset, .unset, .unset, .unset, .unset, .unset, .unset] [(.ref b_202), (.long t2), (.ref b192)]))
            refine Go.virt X202 hx hZ hown (wd27 hw) (wd28 hw) (notFace_of_selects (args := #[]) (mvT hZ (wd30 hw))) (wd30 hw) (wd29 hw) (wd2 hw) (wd31 hw) (by decide) (cwBn l Z a0 hw b192 t2 b_202 t1 b_196 ((0 : Int64)) li_199 d_199 x0_199 ((0 : Int64)) ((1 : Int32)) (kd_199) b_193 h199 OK199 A192 g_b192 P199_0 P199_1 P199_2 P199_3 P199_4 P199_5 P199_6 P199_7 P199_8 P199_9 P199_11 P199_12 P199_13 g_li_199 g_d_199 g_x0_199 ne_b192_li_199 ne_b192_d_199 ne_b192_x0_199 P199_14 P199_15 P199_16 P199_10 hc203 hk229 hk230) e202 A192 (by rw [hml]; rfl) (hb hby at_136) (argsL := [(.long t2), (.ref b_202)]) (rest := []) (lenOf pd22 rfl) rfl rfl (W := 0) (by first | exact Nat.le_refl _ | decide) (by decide) (by decide) (by decide) (by decide) ?_
            intro v231 T231 L231 X231 hQ231
            obtain ⟨h231, e231⟩ : ∃ z, T231.heap = z := ⟨_, rfl⟩
            rw [e231] at hQ231
            obtain ⟨yA_231, yB_231, u0_231, u1_231, rfl, N231q, K231, P231_0, P231_1, P231_2, P231_3, P231_4, P231_5, P231_6, P231_7⟩ := hQ231
            have N231 := Fr.app N202 N231q
            replace A192 := A192.keep K231
            replace P193_0 := P193_0.keep K231
            replace P196_0 := P196_0.keep K231
            replace P199_0 := P199_0.keep K231 (ninS ne_b192_li_199 (ninS ne_b192_d_199 nin0))
            replace P199_1 := P199_1.keep K231 (ninS ne_b192_li_199 (ninS ne_b192_d_199 nin0))
            replace P199_2 := P199_2.keep K231 (ninS ne_b192_li_199 (ninS ne_b192_d_199 nin0))
            replace P199_3 := P199_3.keep K231 (ninS ne_b192_li_199 (ninS ne_b192_d_199 nin0))
            replace P199_4 := P199_4.keep K231 (ninS ne_b192_li_199 (ninS ne_b192_d_199 nin0))
            replace P199_5 := P199_5.keep K231
            replace P199_11 := P199_11.keep K231
            replace P199_12 := P199_12.keep K231 (ninS (Ne.symm P199_15) (ninS (Ne.symm P199_16) nin0))
            replace P199_13 := P199_13.keep K231 (ninS (Ne.symm P199_15) (ninS (Ne.symm P199_16) nin0))
            replace P202_0 := P202_0.keep K231
            have OK231 := ext_keep OK199 K231 (allS g_li_199 (allS g_d_199 all0))
            refine Go.iload X231 hx (hb hby at_139) rfl (q := 141) rfl ?_
            refine Go.ifNo X231 hx (hb hby at_141) (by decide) (q := 144) rfl ?_
            refine Go.lloadN X231 hx (hb hby at_144) rfl (q := 145) rfl ?_
            refine Go.lconst X231 hx (hb hby at_145) (r := (0 : Int64)) rfl (q := 146) rfl ?_
            refine Go.lcmp X231 hx (hb hby at_146) rfl (q := 147) rfl ?_
            refine Go.ifYes X231 hx (hb hby at_147) (Jvm.Free.XT.ll_ne_t hk198) (q := 156) (by decide) (by decide) ?_
            refine Go.iconst X231 hx (hb hby at_156) (r := (1 : Int32)) rfl (q := 157) rfl ?_
            refine Go.goto X231 hx (hb hby at_157) (q := 161) (by decide) (by decide) ?_
            refine Go.istore X231 hx (hb hby at_161) (l' := #[.val (.int pf), .val (.long t1), .second, .val (.long t2), .second, .val (.long ph), .second, .val (.int 1), .val (.int 1), .val (.ref b192), .val (.int 1), .val (.int 1), .val (.int 1), .val (.int 1), .unset, .unset, .unset, .unset, .unset, .unset]) rfl (q := 163) rfl ?_
            refine Go.aload X231 hx (hb hby at_163) rfl rfl (q := 165) rfl ?_
            refine Go.virt X231 hx hZ hown (wd20 hw) (wd21 hw) (notFace_of_selects (args := #[]) (mvT hZ (wd23 hw))) (wd23 hw) (wd22 hw) (wd2 hw) (wd24 hw) (by decide) (cho1 l Z a0 hw b192 li_199 h231 OK231 P199_1) e231 A192 (by rw [hml]; rfl) (hb hby at_165) (argsL := []) (rest := []) (lenOf pd21 rfl) rfl rfl (W := 0) (by first | exact Nat.le_refl _ | decide) (by decide) (by decide) (by decide) (by decide) ?_
            intro v232 T232 L232 X232 hQ232
            obtain ⟨rfl, N232q, e232⟩ := hQ232
            have N232 := Fr.app N231 N232q
            refine Go.istore X232 hx (hb hby at_168) (l' := #[.val (.int pf), .val (.long t1), .second, .val (.long t2), .second, .val (.long ph), .second, .val (.int 1), .val (.int 1), .val (.ref b192), .val (.int 1), .val (.int 1), .val (.int 1), .val (.int 1), .val (.int 1), .unset, .unset, .unset, .unset, .unset]) rfl (q := 170) rfl ?_
            refine Go.iload X232 hx (hb hby at_170) rfl (q := 172) rfl ?_
            refine Go.ifNo X232 hx (hb hby at_172) (by decide) (q := 175) rfl ?_
            refine Go.iload X232 hx (hb hby at_175) rfl (q := 177) rfl ?_
            refine Go.iload X232 hx (hb hby at_177) rfl (q := 179) rfl ?_
            refine Go.icmpNo X232 hx (hb hby at_179) (by decide) (q := 182) rfl ?_
            refine Go.iload X232 hx (hb hby at_182) rfl (q := 184) rfl ?_
            refine Go.aload X232 hx (hb hby at_184) rfl rfl (q := 186) rfl ?_
            refine Go.virt X232 hx hZ hown (wd36 hw) (wd37 hw) (notFace_of_selects (args := #[]) (mvT hZ (wd39 hw))) (wd39 hw) (wd38 hw) (wd2 hw) (wd40 hw) (by decide) (ccn1 l Z a0 hw b192 li_199 ((2 : Int32)) h231 OK231 P199_1 P199_5 P231_1) e232 A192 (by rw [hml]; rfl) (hb hby at_186) (argsL := []) (rest := [(.int 1)]) (lenOf pd8 rfl) rfl rfl (W := 1) (by first | exact Nat.le_refl _ | decide) (by decide) (by decide) (by decide) (by decide) ?_
            intro v233 T233 L233 X233 hQ233
            obtain ⟨rfl, N233q, e233⟩ := hQ233
            have N233 := Fr.app N232 N233q
            refine Go.iconst X233 hx (hb hby at_189) (r := (1 : Int32)) rfl (q := 190) rfl ?_
            refine Go.icmpNo X233 hx (hb hby at_190) (by decide) (q := 193) rfl ?_
            refine Go.iconst X233 hx (hb hby at_193) (r := (1 : Int32)) rfl (q := 194) rfl ?_
            refine Go.goto X233 hx (hb hby at_194) (q := 198) (by decide) (by decide) ?_
            refine Go.icmpNo X233 hx (hb hby at_198) (by decide) (q := 201) rfl ?_
            refine Go.iconst X233 hx (hb hby at_201) (r := (1 : Int32)) rfl (q := 202) rfl ?_
            refine Go.goto X233 hx (hb hby at_202) (q := 206) (by decide) (by decide) ?_
            refine Go.istore X233 hx (hb hby at_206) (l' := #[.val (.int pf), .val (.long t1), .second, .val (.long t2), .second, .val (.long ph), .second, .val (.int 1), .val (.int 1), .val (.ref b192), .val (.int 1), .val (.int 1), .val (.int 1), .val (.int 1), .val (.int 1), .unset, .unset, .unset, .unset, .unset]) rfl (q := 208) rfl ?_
            refine Go.iload X233 hx (hb hby at_208) rfl (q := 210) rfl ?_
            refine Go.ifNo X233 hx (hb hby at_210) (by decide) (q := 213) rfl ?_
            refine Go.lconst X233 hx (hb hby at_213) (r := (0 : Int64)) rfl (q := 214) rfl ?_
            refine Go.lloadN X233 hx (hb hby at_214) rfl (q := 215) rfl ?_
            refine Go.lloadN X233 hx (hb hby at_215) rfl (q := 216) rfl ?_
            refine Go.callS X233 hx hZ hown (wd125 hw) (wd126 hw) (wd112 hw) (wd127 hw) (by decide) (cmaxJ l Z a0 hw t1 t2 h231 OK231) e233 (by rw [hml]; rfl) (hb hby at_216) (argsL := [(.long t1), (.long t2)]) (rest := [(.long 0)]) (lenOf pd23 rfl) rfl rfl (W := 2) (by first | exact Nat.le_refl _ | decide) (by decide) (by decide) (by decide) (by decide) ?_
            intro v234 T234 L234 X234 hQ234
            obtain ⟨rfl, N234q, e234⟩ := hQ234
            have N234 := Fr.app N233 N234q
            refine Go.callS X234 hx hZ hown (wd125 hw) (wd126 hw) (wd112 hw) (wd127 hw) (by decide) (cmaxJ l Z a0 hw ((0 : Int64)) ((own_max t1 t2)) h231 OK231) e234 (by rw [hml]; rfl) (hb hby at_219) (argsL := [(.long 0), (.long (own_max t1 t2))]) (rest := []) (lenOf pd23 rfl) rfl rfl (W := 0) (by first | exact Nat.le_refl _ | decide) (by decide) (by decide) (by decide) (by decide) ?_
            intro v235 T235 L235 X235 hQ235
            obtain ⟨rfl, N235q, e235⟩ := hQ235
            have N235 := Fr.app N234 N235q
            rw [own_mxGN hc197 hc203]
            show Go pp ee below _ (T235.setTop (mkF mm 222 #[.val (.int pf), .val (.long t1), .second, .val (.long t2), .second, .val (.long ph), .second, .val (.int 1), .val (.int 1), .val (.ref b192), .val (.int 1), .val (.int 1), .val (.int 1), .val (.int 1), .val (.int 1), .unset, .unset, .unset, .unset, .unset] [(.long t1)]))
            refine Go.lstore X235 hx (hb hby at_222) (l' := #[.val (.int pf), .val (.long t1), .second, .val (.long t2), .second, .val (.long ph), .second, .val (.int 1), .val (.int 1), .val (.ref b192), .val (.int 1), .val (.int 1), .val (.int 1), .val (.int 1), .val (.int 1), .val (.long t1), .second, .unset, .unset, .unset]) rfl (q := 224) rfl ?_
            refine Go.iload X235 hx (hb hby at_224) rfl (q := 226) rfl ?_
            refine Go.ifNo X235 hx (hb hby at_226) (by decide) (q := 229) rfl ?_
            refine Go.lload X235 hx (hb hby at_229) rfl (q := 231) rfl ?_
            refine Go.lload X235 hx (hb hby at_231) rfl (q := 233) rfl ?_
            refine Go.lcmp X235 hx (hb hby at_233) rfl (q := 234) rfl ?_
            by_cases hc236 : ph < t1
            · refine Go.ifNo X235 hx (hb hby at_234) (Jvm.Free.XT.ll_le_f hc236) (q := 237) rfl ?_
              refine Go.iconst X235 hx (hb hby at_237) (r := (1 : Int32)) rfl (q := 238) rfl ?_
              refine Go.goto X235 hx (hb hby at_238) (q := 242) (by decide) (by decide) ?_
              refine Go.istore X235 hx (hb hby at_242) (l' := #[.val (.int pf), .val (.long t1), .second, .val (.long t2), .second, .val (.long ph), .second, .val (.int 1), .val (.int 1), .val (.ref b192), .val (.int 1), .val (.int 1), .val (.int 1), .val (.int 1), .val (.int 1), .val (.long t1), .second, .val (.int 1), .unset, .unset]) rfl (q := 244) rfl ?_
              refine Go.aload X235 hx (hb hby at_244) rfl rfl (q := 246) rfl ?_
              refine Go.lload X235 hx (hb hby at_246) rfl (q := 248) rfl ?_
              refine Go.virt X235 hx hZ hown (wd128 hw) (wd129 hw) (notFace_of_selects (args := #[]) (mvT hZ (wd131 hw))) (wd131 hw) (wd130 hw) (wd2 hw) (wd132 hw) (by decide) (cfg2 l Z a0 hw b192 ph t1 li_199 d_199 yA_231 yB_231 u0_231 u1_231 ((2 : Int32)) (kd_199) h231 OK231 A192 P199_1 P199_2 P199_5 P231_0 P231_1 P231_2 P231_3 P231_4 P231_5 P231_6 P231_7 g_li_199 g_d_199 ne_b192_li_199 ne_b192_d_199 P199_14 P199_10 hc236) e235 A192 (by rw [hml]; rfl) (hb hby at_248) (argsL := [(.long ph)]) (rest := []) (lenOf pd24 rfl) rfl rfl (W := 0) (by first | exact Nat.le_refl _ | decide) (by decide) (by decide) (by decide) (by decide) ?_
              intro v237 T237 L237 X237 hQ237
              obtain ⟨h237, e237⟩ : ∃ z, T237.heap = z := ⟨_, rfl⟩
              rw [e237] at hQ237
              obtain ⟨s_237, rfl, N237q, K237, P237_0, P237_1⟩ := hQ237
              have N237 := Fr.app N235 N237q
              replace A192 := A192.keep K237
              replace P193_0 := P193_0.keep K237
              replace P196_0 := P196_0.keep K237
              replace P199_0 := P199_0.keep K237 (ninS ne_b192_li_199 (ninS ne_b192_d_199 nin0))
              replace P199_1 := P199_1.keep K237 (ninS ne_b192_li_199 (ninS ne_b192_d_199 nin0))
              replace P199_2 := P199_2.keep K237 (ninS ne_b192_li_199 (ninS ne_b192_d_199 nin0))
              replace P199_3 := P199_3.keep K237 (ninS ne_b192_li_199 (ninS ne_b192_d_199 nin0))
              replace P199_4 := P199_4.keep K237 (ninS ne_b192_li_199 (ninS ne_b192_d_199 nin0))
              replace P199_5 := P199_5.keep K237
              replace P199_11 := P199_11.keep K237
              replace P199_12 := P199_12.keep K237 (ninS (Ne.symm P199_15) (ninS (Ne.symm P199_16) nin0))
              replace P199_13 := P199_13.keep K237 (ninS (Ne.symm P199_15) (ninS (Ne.symm P199_16) nin0))
              replace P202_0 := P202_0.keep K237
              replace P231_4 := P231_4.keep K237
              replace P231_6 := P231_6.keep K237
              have OK237 := ext_keep OK231 K237 (allS g_li_199 (allS g_d_199 all0))
              refine Go.istore X237 hx (hb hby at_251) (l' := #[.val (.int pf), .val (.long t1), .second, .val (.long t2), .second, .val (.long ph), .second, .val (.int 1), .val (.int 1), .val (.ref b192), .val (.int 1), .val (.int 1), .val (.int 1), .val (.int 1), .val (.int 1), .val (.long t1), .second, .val (.int 1), .val (.int 1), .unset]) rfl (q := 253) rfl ?_
              refine Go.aload X237 hx (hb hby at_253) rfl rfl (q := 255) rfl ?_
              refine Go.virt X237 hx hZ hown (wd20 hw) (wd21 hw) (notFace_of_selects (args := #[]) (mvT hZ (wd23 hw))) (wd23 hw) (wd22 hw) (wd2 hw) (wd24 hw) (by decide) (cho1 l Z a0 hw b192 li_199 h237 OK237 P199_1) e237 A192 (by rw [hml]; rfl) (hb hby at_255) (argsL := []) (rest := []) (lenOf pd21 rfl) rfl rfl (W := 0) (by first | exact Nat.le_refl _ | decide) (by decide) (by decide) (by decide) (by decide) ?_
              intro v238 T238 L238 X238 hQ238
              obtain ⟨rfl, N238q, e238⟩ := hQ238
              have N238 := Fr.app N237 N238q
              refine Go.istore X238 hx (hb hby at_258) (l' := #[.val (.int pf), .val (.long t1), .second, .val (.long t2), .second, .val (.long ph), .second, .val (.int 1), .val (.int 1), .val (.ref b192), .val (.int 1), .val (.int 1), .val (.int 1), .val (.int 1), .val (.int 1), .val (.long t1), .second, .val (.int 1), .val (.int 1), .val (.int 1)]) rfl (q := 260) rfl ?_
              refine Go.iload X238 hx (hb hby at_260) rfl (q := 262) rfl ?_
              refine Go.ifNo X238 hx (hb hby at_262) (by decide) (q := 265) rfl ?_
              refine Go.iload X238 hx (hb hby at_265) rfl (q := 267) rfl ?_
              refine Go.iload X238 hx (hb hby at_267) rfl (q := 269) rfl ?_
              refine Go.icmpNo X238 hx (hb hby at_269) (by decide) (q := 272) rfl ?_
              refine Go.iload X238 hx (hb hby at_272) rfl (q := 274) rfl ?_
              refine Go.iload X238 hx (hb hby at_274) rfl (q := 276) rfl ?_
              refine Go.icmpNo X238 hx (hb hby at_276) (by decide) (q := 279) rfl ?_
              refine Go.iload X238 hx (hb hby at_279) rfl (q := 281) rfl ?_
              refine Go.aload X238 hx (hb hby at_281) rfl rfl (q := 283) rfl ?_
              refine Go.virt X238 hx hZ hown (wd36 hw) (wd37 hw) (notFace_of_selects (args := #[]) (mvT hZ (wd39 hw))) (wd39 hw) (wd38 hw) (wd2 hw) (wd40 hw) (by decide) (ccn1 l Z a0 hw b192 li_199 s_237 h237 OK237 P199_1 P199_5 P237_0) e238 A192 (by rw [hml]; rfl) (hb hby at_283) (argsL := []) (rest := [(.int 1)]) (lenOf pd8 rfl) rfl rfl (W := 1) (by first | exact Nat.le_refl _ | decide) (by decide) (by decide) (by decide) (by decide) ?_
              intro v239 T239 L239 X239 hQ239
              obtain ⟨rfl, N239q, e239⟩ := hQ239
              have N239 := Fr.app N238 N239q
              rcases P237_1 with rfl | rfl
              · show Go pp ee below _ (T239.setTop (mkF mm 286 #[.val (.int pf), .val (.long t1), .second, .val (.long t2), .second, .val (.long ph), .second, .val (.int 1), .val (.int 1), .val (.ref b192), .val (.int 1), .val (.int 1), .val (.int 1), .val (.int 1), .val (.int 1), .val (.long t1), .second, .val (.int 1), .val (.int 1), .val (.int 1)] [(.int 2), (.int 1)]))
                refine Go.iconst X239 hx (hb hby at_286) (r := (1 : Int32)) rfl (q := 287) rfl ?_
                refine Go.icmpNo X239 hx (hb hby at_287) (by decide) (q := 290) rfl ?_
                refine Go.iconst X239 hx (hb hby at_290) (r := (1 : Int32)) rfl (q := 291) rfl ?_
                refine Go.goto X239 hx (hb hby at_291) (q := 295) (by decide) (by decide) ?_
                refine Go.icmpNo X239 hx (hb hby at_295) (by decide) (q := 298) rfl ?_
                refine Go.iconst X239 hx (hb hby at_298) (r := (1 : Int32)) rfl (q := 299) rfl ?_
                refine Go.goto X239 hx (hb hby at_299) (q := 303) (by decide) (by decide) ?_
                refine Go.istore X239 hx (hb hby at_303) (l' := #[.val (.int pf), .val (.long t1), .second, .val (.long t2), .second, .val (.long ph), .second, .val (.int 1), .val (.int 1), .val (.ref b192), .val (.int 1), .val (.int 1), .val (.int 1), .val (.int 1), .val (.int 1), .val (.long t1), .second, .val (.int 1), .val (.int 1), .val (.int 1)]) rfl (q := 305) rfl ?_
                refine Go.iload X239 hx (hb hby at_305) rfl (q := 307) rfl ?_
                exact Go.retI X239 hx hret hlk (by simp) rfl (hb hby at_307) e239 (by decide) (by decide) ⟨rfl, N239⟩
              · show Go pp ee below _ (T239.setTop (mkF mm 286 #[.val (.int pf), .val (.long t1), .second, .val (.long t2), .second, .val (.long ph), .second, .val (.int 1), .val (.int 1), .val (.ref b192), .val (.int 1), .val (.int 1), .val (.int 1), .val (.int 1), .val (.int 1), .val (.long t1), .second, .val (.int 1), .val (.int 1), .val (.int 1)] [(.int 3), (.int 1)]))
                refine Go.iconst X239 hx (hb hby at_286) (r := (1 : Int32)) rfl (q := 287) rfl ?_
                refine Go.icmpNo X239 hx (hb hby at_287) (by decide) (q := 290) rfl ?_
                refine Go.iconst X239 hx (hb hby at_290) (r := (1 : Int32)) rfl (q := 291) rfl ?_
                refine Go.goto X239 hx (hb hby at_291) (q := 295) (by decide) (by decide) ?_
                refine Go.icmpNo X239 hx (hb hby at_295) (by decide) (q := 298) rfl ?_
                refine Go.iconst X239 hx (hb hby at_298) (r := (1 : Int32)) rfl (q := 299) rfl ?_
                refine Go.goto X239 hx (hb hby at_299) (q := 303) (by decide) (by decide) ?_
                refine Go.istore X239 hx (hb hby at_303) (l' := #[.val (.int pf), .val (.long t1), .second, .val (.long t2), .second, .val (.long ph), .second, .val (.int 1), .val (.int 1), .val (.ref b192), .val (.int 1), .val (.int 1), .val (.int 1), .val (.int 1), .val (.int 1), .val (.long t1), .second, .val (.int 1), .val (.int 1), .val (.int 1)]) rfl (q := 305) rfl ?_
                refine Go.iload X239 hx (hb hby at_305) rfl (q := 307) rfl ?_
                exact Go.retI X239 hx hret hlk (by simp) rfl (hb hby at_307) e239 (by decide) (by decide) ⟨rfl, N239⟩
            · refine Go.ifYes X235 hx (hb hby at_234) (Jvm.Free.XT.ll_le_t hc236) (q := 241) (by decide) (by decide) ?_
              refine Go.iconst X235 hx (hb hby at_241) (r := (0 : Int32)) rfl (q := 242) rfl ?_
              refine Go.istore X235 hx (hb hby at_242) (l' := #[.val (.int pf), .val (.long t1), .second, .val (.long t2), .second, .val (.long ph), .second, .val (.int 1), .val (.int 1), .val (.ref b192), .val (.int 1), .val (.int 1), .val (.int 1), .val (.int 1), .val (.int 1), .val (.long t1), .second, .val (.int 0), .unset, .unset]) rfl (q := 244) rfl ?_
              refine Go.aload X235 hx (hb hby at_244) rfl rfl (q := 246) rfl ?_
              refine Go.lload X235 hx (hb hby at_246) rfl (q := 248) rfl ?_
              refine Go.virt X235 hx hZ hown (wd128 hw) (wd129 hw) (notFace_of_selects (args := #[]) (mvT hZ (wd131 hw))) (wd131 hw) (wd130 hw) (wd2 hw) (wd132 hw) (by decide) (cfgl l Z a0 hw b192 ph li_199 t1 b_196 ((0 : Int64)) h231 OK231 A192 g_b192 P199_0 P199_1 P199_2 P199_3 P199_4 hc236) e235 A192 (by rw [hml]; rfl) (hb hby at_248) (argsL := [(.long ph)]) (rest := []) (lenOf pd24 rfl) rfl rfl (W := 0) (by first | exact Nat.le_refl _ | decide) (by decide) (by decide) (by decide) (by decide) ?_
              intro v240 T240 L240 X240 hQ240
              obtain ⟨h240, e240⟩ : ∃ z, T240.heap = z := ⟨_, rfl⟩
              rw [e240] at hQ240
              obtain ⟨rfl, N240q, K240, P240_0, P240_1, P240_2, P240_3, P240_4⟩ := hQ240
              have N240 := Fr.app N235 N240q
              replace A192 := A192.keep K240
              replace P193_0 := P193_0.keep K240
              replace P196_0 := P196_0.keep K240
              replace P199_5 := P199_5.keep K240
              replace P199_11 := P199_11.keep K240
              replace P199_12 := P199_12.keep K240 (ninS (Ne.symm ne_b192_x0_199) nin0)
              replace P199_13 := P199_13.keep K240 (ninS (Ne.symm ne_b192_x0_199) nin0)
              replace P202_0 := P202_0.keep K240
              replace P231_0 := P231_0.keep K240 (ninS (Ne.symm ne_b192_li_199) nin0)
              replace P231_1 := P231_1.keep K240 (ninS (Ne.symm ne_b192_li_199) nin0)
              replace P231_2 := P231_2.keep K240 (ninS (Ne.symm ne_b192_li_199) nin0)
              replace P231_3 := P231_3.keep K240 (ninS (Ne.symm ne_b192_d_199) nin0)
              replace P231_4 := P231_4.keep K240
              replace P231_6 := P231_6.keep K240
              have OK240 := ext_keep OK231 K240 (allS g_b192 all0)
              refine Go.istore X240 hx (hb hby at_251) (l' := #[.val (.int pf), .val (.long t1), .second, .val (.long t2), .second, .val (.long ph), .second, .val (.int 1), .val (.int 1), .val (.ref b192), .val (.int 1), .val (.int 1), .val (.int 1), .val (.int 1), .val (.int 1), .val (.long t1), .second, .val (.int 0), .val (.int 0), .unset]) rfl (q := 253) rfl ?_
              refine Go.aload X240 hx (hb hby at_253) rfl rfl (q := 255) rfl ?_
              refine Go.virt X240 hx hZ hown (wd20 hw) (wd21 hw) (notFace_of_selects (args := #[]) (mvT hZ (wd23 hw))) (wd23 hw) (wd22 hw) (wd2 hw) (wd24 hw) (by decide) (cho0 l Z a0 hw b192 h240 OK240 P240_1) e240 A192 (by rw [hml]; rfl) (hb hby at_255) (argsL := []) (rest := []) (lenOf pd21 rfl) rfl rfl (W := 0) (by first | exact Nat.le_refl _ | decide) (by decide) (by decide) (by decide) (by decide) ?_
              intro v241 T241 L241 X241 hQ241
              obtain ⟨rfl, N241q, e241⟩ := hQ241
              have N241 := Fr.app N240 N241q
              refine Go.istore X241 hx (hb hby at_258) (l' := #[.val (.int pf), .val (.long t1), .second, .val (.long t2), .second, .val (.long ph), .second, .val (.int 1), .val (.int 1), .val (.ref b192), .val (.int 1), .val (.int 1), .val (.int 1), .val (.int 1), .val (.int 1), .val (.long t1), .second, .val (.int 0), .val (.int 0), .val (.int 0)]) rfl (q := 260) rfl ?_
              refine Go.iload X241 hx (hb hby at_260) rfl (q := 262) rfl ?_
              refine Go.ifNo X241 hx (hb hby at_262) (by decide) (q := 265) rfl ?_
              refine Go.iload X241 hx (hb hby at_265) rfl (q := 267) rfl ?_
              refine Go.iload X241 hx (hb hby at_267) rfl (q := 269) rfl ?_
              refine Go.icmpNo X241 hx (hb hby at_269) (by decide) (q := 272) rfl ?_
              refine Go.iload X241 hx (hb hby at_272) rfl (q := 274) rfl ?_
              refine Go.iload X241 hx (hb hby at_274) rfl (q := 276) rfl ?_
              refine Go.icmpNo X241 hx (hb hby at_276) (by decide) (q := 279) rfl ?_
              refine Go.iload X241 hx (hb hby at_279) rfl (q := 281) rfl ?_
              refine Go.aload X241 hx (hb hby at_281) rfl rfl (q := 283) rfl ?_
              refine Go.virt X241 hx hZ hown (wd36 hw) (wd37 hw) (notFace_of_selects (args := #[]) (mvT hZ (wd39 hw))) (wd39 hw) (wd38 hw) (wd2 hw) (wd40 hw) (by decide) (ccn0 l Z a0 hw b192 h240 OK240 P240_1) e241 A192 (by rw [hml]; rfl) (hb hby at_283) (argsL := []) (rest := [(.int 0)]) (lenOf pd8 rfl) rfl rfl (W := 1) (by first | exact Nat.le_refl _ | decide) (by decide) (by decide) (by decide) (by decide) ?_
              intro v242 T242 L242 X242 hQ242
              obtain ⟨rfl, N242q, e242⟩ := hQ242
              have N242 := Fr.app N241 N242q
              refine Go.iconst X242 hx (hb hby at_286) (r := (1 : Int32)) rfl (q := 287) rfl ?_
              refine Go.icmpYes X242 hx (hb hby at_287) (by decide) (q := 294) (by decide) (by decide) ?_
              refine Go.iconst X242 hx (hb hby at_294) (r := (0 : Int32)) rfl (q := 295) rfl ?_
              refine Go.icmpNo X242 hx (hb hby at_295) (by decide) (q := 298) rfl ?_
              refine Go.iconst X242 hx (hb hby at_298) (r := (1 : Int32)) rfl (q := 299) rfl ?_
              refine Go.goto X242 hx (hb hby at_299) (q := 303) (by decide) (by decide) ?_
              refine Go.istore X242 hx (hb hby at_303) (l' := #[.val (.int pf), .val (.long t1), .second, .val (.long t2), .second, .val (.long ph), .second, .val (.int 1), .val (.int 1), .val (.ref b192), .val (.int 1), .val (.int 1), .val (.int 1), .val (.int 1), .val (.int 1), .val (.long t1), .second, .val (.int 0), .val (.int 0), .val (.int 0)]) rfl (q := 305) rfl ?_
              refine Go.iload X242 hx (hb hby at_305) rfl (q := 307) rfl ?_
              exact Go.retI X242 hx hret hlk (by simp) rfl (hb hby at_307) e242 (by decide) (by decide) ⟨rfl, N242⟩
      · by_cases hc243 : t1 = (0 : Int64)
        · show Go pp ee below _ (T196.setTop (mkF mm 63 #[.val (.int pf), .val (.long t1), .second, .val (.long t2), .second, .val (.long ph), .second, .val (.int 1), .val (.int 1), .val (.ref b192), .val (.int 1), .unset, .unset, .unset, .unset, .unset, .unset, .unset, .unset, .unset] [(.ref b_196), (.long t1), (.ref b192)]))
          refine Go.virt X196 hx hZ hown (wd27 hw) (wd28 hw) (notFace_of_selects (args := #[]) (mvT hZ (wd30 hw))) (wd30 hw) (wd29 hw) (wd2 hw) (wd31 hw) (by decide) (cwAe l Z a0 hw b192 t1 b_196 ((0 : Int64)) b_193 ((0 : Int64)) h194 OK194 A192 g_b192 P194_0 P194_1 P194_2 P194_3 P194_4 hc197 hc243) e196 A192 (by rw [hml]; rfl) (hb hby at_63) (argsL := [(.long t1), (.ref b_196)]) (rest := []) (lenOf pd22 rfl) rfl rfl (W := 0) (by first | exact Nat.le_refl _ | decide) (by decide) (by decide) (by decide) (by decide) ?_
          intro v244 T244 L244 X244 hQ244
          obtain ⟨h244, e244⟩ : ∃ z, T244.heap = z := ⟨_, rfl⟩
          rw [e244] at hQ244
          obtain ⟨rfl, N244q, K244, P244_0, P244_1, P244_2, P244_3, P244_4⟩ := hQ244
          have N244 := Fr.app N196 N244q
          replace A192 := A192.keep K244
          replace P193_0 := P193_0.keep K244
          replace P196_0 := P196_0.keep K244
          have OK244 := ext_keep OK194 K244 (allS g_b192 all0)
          refine Go.iload X244 hx (hb hby at_66) rfl (q := 68) rfl ?_
          refine Go.ifNo X244 hx (hb hby at_68) (by decide) (q := 71) rfl ?_
          refine Go.lloadN X244 hx (hb hby at_71) rfl (q := 72) rfl ?_
          refine Go.lconst X244 hx (hb hby at_72) (r := (0 : Int64)) rfl (q := 73) rfl ?_
          refine Go.lcmp X244 hx (hb hby at_73) rfl (q := 74) rfl ?_
          refine Go.ifYes X244 hx (hb hby at_74) (Jvm.Free.XT.ll_eq_t hc243) (q := 81) (by decide) (by decide) ?_
          refine Go.iconst X244 hx (hb hby at_81) (r := (0 : Int32)) rfl (q := 82) rfl ?_
          refine Go.istore X244 hx (hb hby at_82) (l' := #[.val (.int pf), .val (.long t1), .second, .val (.long t2), .second, .val (.long ph), .second, .val (.int 1), .val (.int 1), .val (.ref b192), .val (.int 1), .val (.int 0), .unset, .unset, .unset, .unset, .unset, .unset, .unset, .unset]) rfl (q := 84) rfl ?_
          refine Go.aload X244 hx (hb hby at_84) rfl rfl (q := 86) rfl ?_
          refine Go.virt X244 hx hZ hown (wd20 hw) (wd21 hw) (notFace_of_selects (args := #[]) (mvT hZ (wd23 hw))) (wd23 hw) (wd22 hw) (wd2 hw) (wd24 hw) (by decide) (cho0 l Z a0 hw b192 h244 OK244 P244_1) e244 A192 (by rw [hml]; rfl) (hb hby at_86) (argsL := []) (rest := []) (lenOf pd21 rfl) rfl rfl (W := 0) (by first | exact Nat.le_refl _ | decide) (by decide) (by decide) (by decide) (by decide) ?_
          intro v245 T245 L245 X245 hQ245
          obtain ⟨rfl, N245q, e245⟩ := hQ245
          have N245 := Fr.app N244 N245q
          refine Go.istore X245 hx (hb hby at_89) (l' := #[.val (.int pf), .val (.long t1), .second, .val (.long t2), .second, .val (.long ph), .second, .val (.int 1), .val (.int 1), .val (.ref b192), .val (.int 1), .val (.int 0), .val (.int 0), .unset, .unset, .unset, .unset, .unset, .unset, .unset]) rfl (q := 91) rfl ?_
          refine Go.iload X245 hx (hb hby at_91) rfl (q := 93) rfl ?_
          refine Go.ifNo X245 hx (hb hby at_93) (by decide) (q := 96) rfl ?_
          refine Go.iload X245 hx (hb hby at_96) rfl (q := 98) rfl ?_
          refine Go.iload X245 hx (hb hby at_98) rfl (q := 100) rfl ?_
          refine Go.icmpNo X245 hx (hb hby at_100) (by decide) (q := 103) rfl ?_
          refine Go.iload X245 hx (hb hby at_103) rfl (q := 105) rfl ?_
          refine Go.aload X245 hx (hb hby at_105) rfl rfl (q := 107) rfl ?_
          refine Go.virt X245 hx hZ hown (wd36 hw) (wd37 hw) (notFace_of_selects (args := #[]) (mvT hZ (wd39 hw))) (wd39 hw) (wd38 hw) (wd2 hw) (wd40 hw) (by decide) (ccn0 l Z a0 hw b192 h244 OK244 P244_1) e245 A192 (by rw [hml]; rfl) (hb hby at_107) (argsL := []) (rest := [(.int 0)]) (lenOf pd8 rfl) rfl rfl (W := 1) (by first | exact Nat.le_refl _ | decide) (by decide) (by decide) (by decide) (by decide) ?_
          intro v246 T246 L246 X246 hQ246
          obtain ⟨rfl, N246q, e246⟩ := hQ246
          have N246 := Fr.app N245 N246q
          refine Go.iconst X246 hx (hb hby at_110) (r := (1 : Int32)) rfl (q := 111) rfl ?_
          refine Go.icmpYes X246 hx (hb hby at_111) (by decide) (q := 118) (by decide) (by decide) ?_
          refine Go.iconst X246 hx (hb hby at_118) (r := (0 : Int32)) rfl (q := 119) rfl ?_
          refine Go.icmpNo X246 hx (hb hby at_119) (by decide) (q := 122) rfl ?_
          refine Go.iconst X246 hx (hb hby at_122) (r := (1 : Int32)) rfl (q := 123) rfl ?_
          refine Go.goto X246 hx (hb hby at_123) (q := 127) (by decide) (by decide) ?_
          refine Go.istore X246 hx (hb hby at_127) (l' := #[.val (.int pf), .val (.long t1), .second, .val (.long t2), .second, .val (.long ph), .second, .val (.int 1), .val (.int 1), .val (.ref b192), .val (.int 1), .val (.int 0), .val (.int 0), .unset, .unset, .unset, .unset, .unset, .unset, .unset]) rfl (q := 129) rfl ?_
          refine Go.aload X246 hx (hb hby at_129) rfl rfl (q := 131) rfl ?_
          refine Go.lloadN X246 hx (hb hby at_131) rfl (q := 132) rfl ?_
          refine Go.iconst X246 hx (hb hby at_132) (r := (2 : Int32)) rfl (q := 133) rfl ?_
          refine Go.callS X246 hx hZ hown (wd3 hw) (wd4 hw) (wd5 hw) (wd6 hw) (by decide) (cvalueOf2 l Z a0 hw ca h244 OK244 SH SC HC) e246 (by rw [hml]; rfl) (hb hby at_133) (argsL := [(.int 2)]) (rest := [(.long t2), (.ref b192)]) (lenOf pd19 rfl) rfl rfl (W := 3) (by first | exact Nat.le_refl _ | decide) (by decide) (by decide) (by decide) (by decide) ?_
          intro v247 T247 L247 X247 hQ247
          obtain ⟨b_247, rfl, N247q, e247, P247_0⟩ := hQ247
          have N247 := Fr.app N246 N247q
          rw [e247] at P247_0
          by_cases hc248 : (0 : Int64) < t2
          · have hk249 : ¬ (t2 = (0 : Int64)) := own_gtne hc248
            show Go pp ee below _ (T247.setTop (mkF mm 136 #[.val (.int pf), .val (.long t1), .second, .val (.long t2), .second, .val (.long ph), .second, .val (.int 1), .val (.int 1), .val (.ref b192), .val (.int 1), .val (.int 0), .val (.int 0), .unset, .unset, .unset, .unset, .unset, .unset, .unset] [(.ref b_247), (.long t2), (.ref b192)]))
            refine Go.virt X247 hx hZ hown (wd27 hw) (wd28 hw) (notFace_of_selects (args := #[]) (mvT hZ (wd30 hw))) (wd30 hw) (wd29 hw) (wd2 hw) (wd31 hw) (by decide) (cwAg l Z a0 hw b192 t2 b_247 ((0 : Int64)) b_196 ((0 : Int64)) de h244 OK244 A192 g_b192 P244_0 P244_1 P244_2 P244_3 P244_4 SD LD hc248) e247 A192 (by rw [hml]; rfl) (hb hby at_136) (argsL := [(.long t2), (.ref b_247)]) (rest := []) (lenOf pd22 rfl) rfl rfl (W := 0) (by first | exact Nat.le_refl _ | decide) (by decide) (by decide) (by decide) (by decide) ?_
            intro v250 T250 L250 X250 hQ250
            obtain ⟨h250, e250⟩ : ∃ z, T250.heap = z := ⟨_, rfl⟩
            rw [e250] at hQ250
            obtain ⟨li_250, d_250, x0_250, kd_250, rfl, N250q, K250, fr250_li, fr250_d, fr250_x0, P250_0, P250_1, P250_2, P250_3, P250_4, P250_5, P250_6, P250_7, P250_8, P250_9, P250_10, P250_11, P250_12, P250_13, P250_14, P250_15, P250_16⟩ := hQ250
            have N250 := Fr.app N247 N250q
            have ne_b192_li_250 : b192 ≠ li_250 := ne_new A192.lt fr250_li
            have ne_b_193_li_250 : b_193 ≠ li_250 := ne_new P193_0.lt fr250_li
            have ne_b_196_li_250 : b_196 ≠ li_250 := ne_new P196_0.lt fr250_li
            have ne_b_247_li_250 : b_247 ≠ li_250 := ne_new P247_0.lt fr250_li
            have g_li_250 : Z.heap.size ≤ li_250 := Nat.le_trans OK244.1 fr250_li
            have ne_b192_d_250 : b192 ≠ d_250 := ne_new A192.lt fr250_d
            have ne_b_193_d_250 : b_193 ≠ d_250 := ne_new P193_0.lt fr250_d
            have ne_b_196_d_250 : b_196 ≠ d_250 := ne_new P196_0.lt fr250_d
            have ne_b_247_d_250 : b_247 ≠ d_250 := ne_new P247_0.lt fr250_d
            have g_d_250 : Z.heap.size ≤ d_250 := Nat.le_trans OK244.1 fr250_d
            have ne_b192_x0_250 : b192 ≠ x0_250 := ne_new A192.lt fr250_x0
            have ne_b_193_x0_250 : b_193 ≠ x0_250 := ne_new P193_0.lt fr250_x0
            have ne_b_196_x0_250 : b_196 ≠ x0_250 := ne_new P196_0.lt fr250_x0
            have ne_b_247_x0_250 : b_247 ≠ x0_250 := ne_new P247_0.lt fr250_x0
            have g_x0_250 : Z.heap.size ≤ x0_250 := Nat.le_trans OK244.1 fr250_x0
            replace A192 := A192.keep K250
            replace P193_0 := P193_0.keep K250
            replace P196_0 := P196_0.keep K250
            replace P247_0 := P247_0.keep K250
            have OK250 := ext_keep OK244 K250 (allS g_b192 all0)
            refine Go.iload X250 hx (hb hby at_139) rfl (q := 141) rfl ?_
            refine Go.ifNo X250 hx (hb hby at_141) (by decide) (q := 144) rfl ?_
            refine Go.lloadN X250 hx (hb hby at_144) rfl (q := 145) rfl ?_
            refine Go.lconst X250 hx (hb hby at_145) (r := (0 : Int64)) rfl (q := 146) rfl ?_
            refine Go.lcmp X250 hx (hb hby at_146) rfl (q := 147) rfl ?_
            refine Go.ifNo X250 hx (hb hby at_147) (Jvm.Free.XT.ll_ne_f hc243) (q := 150) rfl ?_
            refine Go.lloadN X250 hx (hb hby at_150) rfl (q := 151) rfl ?_
            refine Go.lconst X250 hx (hb hby at_151) (r := (0 : Int64)) rfl (q := 152) rfl ?_
            refine Go.lcmp X250 hx (hb hby at_152) rfl (q := 153) rfl ?_
            refine Go.ifNo X250 hx (hb hby at_153) (Jvm.Free.XT.ll_eq_f hk249) (q := 156) rfl ?_
            refine Go.iconst X250 hx (hb hby at_156) (r := (1 : Int32)) rfl (q := 157) rfl ?_
            refine Go.goto X250 hx (hb hby at_157) (q := 161) (by decide) (by decide) ?_
            refine Go.istore X250 hx (hb hby at_161) (l' := #[.val (.int pf), .val (.long t1), .second, .val (.long t2), .second, .val (.long ph), .second, .val (.int 1), .val (.int 1), .val (.ref b192), .val (.int 1), .val (.int 0), .val (.int 0), .val (.int 1), .unset, .unset, .unset, .unset, .unset, .unset]) rfl (q := 163) rfl ?_
            refine Go.aload X250 hx (hb hby at_163) rfl rfl (q := 165) rfl ?_
            refine Go.virt X250 hx hZ hown (wd20 hw) (wd21 hw) (notFace_of_selects (args := #[]) (mvT hZ (wd23 hw))) (wd23 hw) (wd22 hw) (wd2 hw) (wd24 hw) (by decide) (cho1 l Z a0 hw b192 li_250 h250 OK250 P250_1) e250 A192 (by rw [hml]; rfl) (hb hby at_165) (argsL := []) (rest := []) (lenOf pd21 rfl) rfl rfl (W := 0) (by first | exact Nat.le_refl _ | decide) (by decide) (by decide) (by decide) (by decide) ?_
            intro v251 T251 L251 X251 hQ251
            obtain ⟨rfl, N251q, e251⟩ := hQ251
            have N251 := Fr.app N250 N251q
            refine Go.istore X251 hx (hb hby at_168) (l' := #[.val (.int pf), .val (.long t1), .second, .val (.long t2), .second, .val (.long ph), .second, .val (.int 1), .val (.int 1), .val (.ref b192), .val (.int 1), .val (.int 0), .val (.int 0), .val (.int 1), .val (.int 1), .unset, .unset, .unset, .unset, .unset]) rfl (q := 170) rfl ?_
            refine Go.iload X251 hx (hb hby at_170) rfl (q := 172) rfl ?_
            refine Go.ifNo X251 hx (hb hby at_172) (by decide) (q := 175) rfl ?_
            refine Go.iload X251 hx (hb hby at_175) rfl (q := 177) rfl ?_
            refine Go.iload X251 hx (hb hby at_177) rfl (q := 179) rfl ?_
            refine Go.icmpNo X251 hx (hb hby at_179) (by decide) (q := 182) rfl ?_
            refine Go.iload X251 hx (hb hby at_182) rfl (q := 184) rfl ?_
            refine Go.aload X251 hx (hb hby at_184) rfl rfl (q := 186) rfl ?_
            refine Go.virt X251 hx hZ hown (wd36 hw) (wd37 hw) (notFace_of_selects (args := #[]) (mvT hZ (wd39 hw))) (wd39 hw) (wd38 hw) (wd2 hw) (wd40 hw) (by decide) (ccn1 l Z a0 hw b192 li_250 ((1 : Int32)) h250 OK250 P250_1 P250_5 P250_7) e251 A192 (by rw [hml]; rfl) (hb hby at_186) (argsL := []) (rest := [(.int 1)]) (lenOf pd8 rfl) rfl rfl (W := 1) (by first | exact Nat.le_refl _ | decide) (by decide) (by decide) (by decide) (by decide) ?_
            intro v252 T252 L252 X252 hQ252
            obtain ⟨rfl, N252q, e252⟩ := hQ252
            have N252 := Fr.app N251 N252q
            refine Go.iconst X252 hx (hb hby at_189) (r := (1 : Int32)) rfl (q := 190) rfl ?_
            refine Go.icmpNo X252 hx (hb hby at_190) (by decide) (q := 193) rfl ?_
            refine Go.iconst X252 hx (hb hby at_193) (r := (1 : Int32)) rfl (q := 194) rfl ?_
            refine Go.goto X252 hx (hb hby at_194) (q := 198) (by decide) (by decide) ?_
            refine Go.icmpNo X252 hx (hb hby at_198) (by decide) (q := 201) rfl ?_
            refine Go.iconst X252 hx (hb hby at_201) (r := (1 : Int32)) rfl (q := 202) rfl ?_
            refine Go.goto X252 hx (hb hby at_202) (q := 206) (by decide) (by decide) ?_
            refine Go.istore X252 hx (hb hby at_206) (l' := #[.val (.int pf), .val (.long t1), .second, .val (.long t2), .second, .val (.long ph), .second, .val (.int 1), .val (.int 1), .val (.ref b192), .val (.int 1), .val (.int 0), .val (.int 0), .val (.int 1), .val (.int 1), .unset, .unset, .unset, .unset, .unset]) rfl (q := 208) rfl ?_
            refine Go.iload X252 hx (hb hby at_208) rfl (q := 210) rfl ?_
            refine Go.ifNo X252 hx (hb hby at_210) (by decide) (q := 213) rfl ?_
            refine Go.lconst X252 hx (hb hby at_213) (r := (0 : Int64)) rfl (q := 214) rfl ?_
            refine Go.lloadN X252 hx (hb hby at_214) rfl (q := 215) rfl ?_
            refine Go.lloadN X252 hx (hb hby at_215) rfl (q := 216) rfl ?_
            refine Go.callS X252 hx hZ hown (wd125 hw) (wd126 hw) (wd112 hw) (wd127 hw) (by decide) (cmaxJ l Z a0 hw t1 t2 h250 OK250) e252 (by rw [hml]; rfl) (hb hby at_216) (argsL := [(.long t1), (.long t2)]) (rest := [(.long 0)]) (lenOf pd23 rfl) rfl rfl (W := 2) (by first | exact Nat.le_refl _ | decide) (by decide) (by decide) (by decide) (by decide) ?_
            intro v253 T253 L253 X253 hQ253
            obtain ⟨rfl, N253q, e253⟩ := hQ253
            have N253 := Fr.app N252 N253q
            refine Go.callS X253 hx hZ hown (wd125 hw) (wd126 hw) (wd112 hw) (wd127 hw) (by decide) (cmaxJ l Z a0 hw ((0 : Int64)) ((own_max t1 t2)) h250 OK250) e253 (by rw [hml]; rfl) (hb hby at_219) (argsL := [(.long 0), (.long (own_max t1 t2))]) (rest := []) (lenOf pd23 rfl) rfl rfl (W := 0) (by first | exact Nat.le_refl _ | decide) (by decide) (by decide) (by decide) (by decide) ?_
            intro v254 T254 L254 X254 hQ254
            obtain ⟨rfl, N254q, e254⟩ := hQ254
            have N254 := Fr.app N253 N254q
            rw [own_mxEG hc243 hc248]
            show Go pp ee below _ (T254.setTop (mkF mm 222 #[.val (.int pf), .val (.long t1), .second, .val (.long t2), .second, .val (.long ph), .second, .val (.int 1), .val (.int 1), .val (.ref b192), .val (.int 1), .val (.int 0), .val (.int 0), .val (.int 1), .val (.int 1), .unset, .unset, .unset, .unset, .unset] [(.long t2)]))
            refine Go.lstore X254 hx (hb hby at_222) (l' := #[.val (.int pf), .val (.long t1), .second, .val (.long t2), .second, .val (.long ph), .second, .val (.int 1), .val (.int 1), .val (.ref b192), .val (.int 1), .val (.int 0), .val (.int 0), .val (.int 1), .val (.int 1), .val (.long t2), .second, .unset, .unset, .unset]) rfl (q := 224) rfl ?_
            refine Go.iload X254 hx (hb hby at_224) rfl (q := 226) rfl ?_
            refine Go.ifNo X254 hx (hb hby at_226) (by decide) (q := 229) rfl ?_
            refine Go.lload X254 hx (hb hby at_229) rfl (q := 231) rfl ?_
            refine Go.lload X254 hx (hb hby at_231) rfl (q := 233) rfl ?_
            refine Go.lcmp X254 hx (hb hby at_233) rfl (q := 234) rfl ?_
            by_cases hc255 : ph < t2
            · refine Go.ifNo X254 hx (hb hby at_234) (Jvm.Free.XT.ll_le_f hc255) (q := 237) rfl ?_
              refine Go.iconst X254 hx (hb hby at_237) (r := (1 : Int32)) rfl (q := 238) rfl ?_
              refine Go.goto X254 hx (hb hby at_238) (q := 242) (by decide) (by decide) ?_
              refine Go.istore X254 hx (hb hby at_242) (l' := #[.val (.int pf), .val (.long t1), .second, .val (.long t2), .second, .val (.long ph), .second, .val (.int 1), .val (.int 1), .val (.ref b192), .val (.int 1), .val (.int 0), .val (.int 0), .val (.int 1), .val (.int 1), .val (.long t2), .second, .val (.int 1), .unset, .unset]) rfl (q := 244) rfl ?_
              refine Go.aload X254 hx (hb hby at_244) rfl rfl (q := 246) rfl ?_
              refine Go.lload X254 hx (hb hby at_246) rfl (q := 248) rfl ?_
              refine Go.virt X254 hx hZ hown (wd128 hw) (wd129 hw) (notFace_of_selects (args := #[]) (mvT hZ (wd131 hw))) (wd131 hw) (wd130 hw) (wd2 hw) (wd132 hw) (by decide) (cfg1 l Z a0 hw b192 ph t2 li_250 d_250 x0_250 ((0 : Int64)) ((1 : Int32)) (kd_250) h250 OK250 A192 P250_1 P250_2 P250_5 P250_6 P250_7 P250_8 P250_9 P250_11 P250_12 hc255) e254 A192 (by rw [hml]; rfl) (hb hby at_248) (argsL := [(.long ph)]) (rest := []) (lenOf pd24 rfl) rfl rfl (W := 0) (by first | exact Nat.le_refl _ | decide) (by decide) (by decide) (by decide) (by decide) ?_
              intro v256 T256 L256 X256 hQ256
              obtain ⟨rfl, N256q, e256⟩ := hQ256
              have N256 := Fr.app N254 N256q
              refine Go.istore X256 hx (hb hby at_251) (l' := #[.val (.int pf), .val (.long t1), .second, .val (.long t2), .second, .val (.long ph), .second, .val (.int 1), .val (.int 1), .val (.ref b192), .val (.int 1), .val (.int 0), .val (.int 0), .val (.int 1), .val (.int 1), .val (.long t2), .second, .val (.int 1), .val (.int 1), .unset]) rfl (q := 253) rfl ?_
              refine Go.aload X256 hx (hb hby at_253) rfl rfl (q := 255) rfl ?_
              refine Go.virt X256 hx hZ hown (wd20 hw) (wd21 hw) (notFace_of_selects (args := #[]) (mvT hZ (wd23 hw))) (wd23 hw) (wd22 hw) (wd2 hw) (wd24 hw) (by decide) (cho1 l Z a0 hw b192 li_250 h250 OK250 P250_1) e256 A192 (by rw [hml]; rfl) (hb hby at_255) (argsL := []) (rest := []) (lenOf pd21 rfl) rfl rfl (W := 0) (by first | exact Nat.le_refl _ | decide) (by decide) (by decide) (by decide) (by decide) ?_
              intro v257 T257 L257 X257 hQ257
              obtain ⟨rfl, N257q, e257⟩ := hQ257
              have N257 := Fr.app N256 N257q
              refine Go.istore X257 hx (hb hby at_258) (l' := #[.val (.int pf), .val (.long t1), .second, .val (.long t2), .second, .val (.long ph), .second, .val (.int 1), .val (.int 1), .val (.ref b192), .val (.int 1), .val (.int 0), .val (.int 0), .val (.int 1), .val (.int 1), .val (.long t2), .second, .val (.int 1), .val (.int 1), .val (.int 1)]) rfl (q := 260) rfl ?_
              refine Go.iload X257 hx (hb hby at_260) rfl (q := 262) rfl ?_
              refine Go.ifNo X257 hx (hb hby at_262) (by decide) (q := 265) rfl ?_
              refine Go.iload X257 hx (hb hby at_265) rfl (q := 267) rfl ?_
              refine Go.iload X257 hx (hb hby at_267) rfl (q := 269) rfl ?_
              refine Go.icmpNo X257 hx (hb hby at_269) (by decide) (q := 272) rfl ?_
              refine Go.iload X257 hx (hb hby at_272) rfl (q := 274) rfl ?_
              refine Go.iload X257 hx (hb hby at_274) rfl (q := 276) rfl ?_
              refine Go.icmpNo X257 hx (hb hby at_276) (by decide) (q := 279) rfl ?_
              refine Go.iload X257 hx (hb hby at_279) rfl (q := 281) rfl ?_
              refine Go.aload X257 hx (hb hby at_281) rfl rfl (q := 283) rfl ?_
              refine Go.virt X257 hx hZ hown (wd36 hw) (wd37 hw) (notFace_of_selects (args := #[]) (mvT hZ (wd39 hw))) (wd39 hw) (wd38 hw) (wd2 hw) (wd40 hw) (by decide) (ccn1 l Z a0 hw b192 li_250 ((1 : Int32)) h250 OK250 P250_1 P250_5 P250_7) e257 A192 (by rw [hml]; rfl) (hb hby at_283) (argsL := []) (rest := [(.int 1)]) (lenOf pd8 rfl) rfl rfl (W := 1) (by first | exact Nat.le_refl _ | decide) (by decide) (by decide) (by decide) (by decide) ?_
              intro v258 T258 L258 X258 hQ258
              obtain ⟨rfl, N258q, e258⟩ := hQ258
              have N258 := Fr.app N257 N258q
              refine Go.iconst X258 hx (hb hby at_286) (r := (1 : Int32)) rfl (q := 287) rfl ?_
              refine Go.icmpNo X258 hx (hb hby at_287) (by decide) (q := 290) rfl ?_
              refine Go.iconst X258 hx (hb hby at_290) (r := (1 : Int32)) rfl (q := 291) rfl ?_
              refine Go.goto X258 hx (hb hby at_291) (q := 295) (by decide) (by decide) ?_
              refine Go.icmpNo X258 hx (hb hby at_295) (by decide) (q := 298) rfl ?_
              refine Go.iconst X258 hx (hb hby at_298) (r := (1 : Int32)) rfl (q := 299) rfl ?_
              refine Go.goto X258 hx (hb hby at_299) (q := 303) (by decide) (by decide) ?_
              refine Go.istore X258 hx (hb hby at_303) (l' := #[.val (.int pf), .val (.long t1), .second, .val (.long t2), .second, .val (.long ph), .second, .val (.int 1), .val (.int 1), .val (.ref b192), .val (.int 1), .val (.int 0), .val (.int 0), .val (.int 1), .val (.int 1), .val (.long t2), .second, .val (.int 1), .val (.int 1), .val (.int 1)]) rfl (q := 305) rfl ?_
              refine Go.iload X258 hx (hb hby at_305) rfl (q := 307) rfl ?_
              exact Go.retI X258 hx hret hlk (by simp) rfl (hb hby at_307) e258 (by decide) (by decide) ⟨rfl, N258⟩
            · refine Go.ifYes X254 hx (hb hby at_234) (Jvm.Free.XT.ll_le_t hc255) (q := 241) (by decide) (by decide) ?_
              refine Go.iconst X254 hx (hb hby at_241) (r := (0 : Int32)) rfl (q := 242) rfl ?_
              refine Go.istore X254 hx (hb hby at_242) (l' := #[.val (.int pf), .val (.long t1), .second, .val (.long t2), .second, .val (.long ph), .second, .val (.int 1), .val (.int 1), .val (.ref b192), .val (.int 1), .val (.int 0), .val (.int 0), .val (.int 1), .val (.int 1), .val (.long t2), .second, .val (.int 0), .unset, .unset]) rfl (q := 244) rfl ?_
              refine Go.aload X254 hx (hb hby at_244) rfl rfl (q := 246) rfl ?_
              refine Go.lload X254 hx (hb hby at_246) rfl (q := 248) rfl ?_
              refine Go.virt X254 hx hZ hown (wd128 hw) (wd129 hw) (notFace_of_selects (args := #[]) (mvT hZ (wd131 hw))) (wd131 hw) (wd130 hw) (wd2 hw) (wd132 hw) (by decide) (cfgl l Z a0 hw b192 ph li_250 t2 b_247 ((0 : Int64)) h250 OK250 A192 g_b192 P250_0 P250_1 P250_2 P250_3 P250_4 hc255) e254 A192 (by rw [hml]; rfl) (hb hby at_248) (argsL := [(.long ph)]) (rest := []) (lenOf pd24 rfl) rfl rfl (W := 0) (by first | exact Nat.le_refl _ | decide) (by decide) (by decide) (by decide) (by decide) ?_
              intro v259 T259 L259 X259 hQ259
              obtain ⟨h259, e259⟩ : ∃ z, T259.heap = z := ⟨_, rfl⟩
              rw [e259] at hQ259
              obtain ⟨rfl, N259q, K259, P259_0, P259_1, P259_2, P259_3, P259_4⟩ := hQ259
              have N259 := Fr.app N254 N259q
              replace A192 := A192.keep K259
              replace P193_0 := P193_0.keep K259
              replace P196_0 := P196_0.keep K259
              replace P247_0 := P247_0.keep K259
              replace P250_5 := P250_5.keep K259
              replace P250_6 := P250_6.keep K259 (ninS (Ne.symm ne_b192_li_250) nin0)
              replace P250_7 := P250_7.keep K259 (ninS (Ne.symm ne_b192_li_250) nin0)
              replace P250_8 := P250_8.keep K259 (ninS (Ne.symm ne_b192_li_250) nin0)
              replace P250_9 := P250_9.keep K259 (ninS (Ne.symm ne_b192_d_250) nin0)
              replace P250_11 := P250_11.keep K259
              replace P250_12 := P250_12.keep K259 (ninS (Ne.symm ne_b192_x0_250) nin0)
              replace P250_13 := P250_13.keep K259 (ninS (Ne.symm ne_b192_x0_250) nin0)
              have OK259 := ext_keep OK250 K259 (allS g_b192 all0)
              refine Go.istore X259 hx (hb hby at_251) (l' := #[.val (.int pf), .val (.long t1), .second, .val (.long t2), .second, .val (.long ph), .second, .val (.int 1), .val (.int 1), .val (.ref b192), .val (.int 1), .val (.int 0), .val (.int 0), .val (.int 1), .val (.int 1), .val (.long t2), .second, .val (.int 0), .val (.int 0), .unset]) rfl (q := 253) rfl ?_
              refine Go.aload X259 hx (hb hby at_253) rfl rfl (q := 255) rfl ?_
              refine Go.virt X259 hx hZ hown (wd20 hw) (wd21 hw) (notFace_of_selects (args := #[]) (mvT hZ (wd23 hw))) (wd23 hw) (wd22 hw) (wd2 hw) (wd24 hw) (by decide) (cho0 l Z a0 hw b192 h259 OK259 P259_1) e259 A192 (by rw [hml]; rfl) (hb hby at_255) (argsL := []) (rest := []) (lenOf pd21 rfl) rfl rfl (W := 0) (by first | exact Nat.le_refl _ | decide) (by decide) (by decide) (by decide) (by decide) ?_
              intro v260 T260 L260 X260 hQ260
              obtain ⟨rfl, N260q, e260⟩ := hQ260
              have N260 := Fr.app N259 N260q
              refine Go.istore X260 hx (hb hby at_258) (l' := #[.val (.int pf), .val (.long t1), .second, .val (.long t2), .second, .val (.long ph), .second, .val (.int 1), .val (.int 1), .val (.ref b192), .val (.int 1), .val (.int 0), .val (.int 0), .val (.int 1), .val (.int 1), .val (.long t2), .second, .val (.int 0), .val (.int 0), .val (.int 0)]) rfl (q := 260) rfl ?_
              refine Go.iload X260 hx (hb hby at_260) rfl (q := 262) rfl ?_
              refine Go.ifNo X260 hx (hb hby at_262) (by decide) (q := 265) rfl ?_
              refine Go.iload X260 hx (hb hby at_265) rfl (q := 267) rfl ?_
              refine Go.iload X260 hx (hb hby at_267) rfl (q := 269) rfl ?_
              refine Go.icmpNo X260 hx (hb hby at_269) (by decide) (q := 272) rfl ?_
              refine Go.iload X260 hx (hb hby at_272) rfl (q := 274) rfl ?_
              refine Go.iload X260 hx (hb hby at_274) rfl (q := 276) rfl ?_
              refine Go.icmpNo X260 hx (hb hby at_276) (by decide) (q := 279) rfl ?_
              refine Go.iload X260 hx (hb hby at_279) rfl (q := 281) rfl ?_
              refine Go.aload X260 hx (hb hby at_281) rfl rfl (q := 283) rfl ?_
              refine Go.virt X260 hx hZ hown (wd36 hw) (wd37 hw) (notFace_of_selects (args := #[]) (mvT hZ (wd39 hw))) (wd39 hw) (wd38 hw) (wd2 hw) (wd40 hw) (by decide) (ccn0 l Z a0 hw b192 h259 OK259 P259_1) e260 A192 (by rw [hml]; rfl) (hb hby at_283) (argsL := []) (rest := [(.int 0)]) (lenOf pd8 rfl) rfl rfl (W := 1) (by first | exact Nat.le_refl _ | decide) (by decide) (by decide) (by decide) (by decide) ?_
              intro v261 T261 L261 X261 hQ261
              obtain ⟨rfl, N261q, e261⟩ := hQ261
              have N261 := Fr.app N260 N261q
              refine Go.iconst X261 hx (hb hby at_286) (r := (1 : Int32)) rfl (q := 287) rfl ?_
              refine Go.icmpYes X261 hx (hb hby at_287) (by decide) (q := 294) (by decide) (by decide) ?_
              refine Go.iconst X261 hx (hb hby at_294) (r := (0 : Int32)) rfl (q := 295) rfl ?_
              refine Go.icmpNo X261 hx (hb hby at_295) (by decide) (q := 298) rfl ?_
              refine Go.iconst X261 hx (hb hby at_298) (r := (1 : Int32)) rfl (q := 299) rfl ?_
              refine Go.goto X261 hx (hb hby at_299) (q := 303) (by decide) (by decide) ?_
              refine Go.istore X261 hx (hb hby at_303) (l' := #[.val (.int pf), .val (.long t1), .second, .val (.long t2), .second, .val (.long ph), .second, .val (.int 1), .val (.int 1), .val (.ref b192), .val (.int 1), .val (.int 0), .val (.int 0), .val (.int 1), .val (.int 1), .val (.long t2), .second, .val (.int 0), .val (.int 0), .val (.int 0)]) rfl (q := 305) rfl ?_
              refine Go.iload X261 hx (hb hby at_305) rfl (q := 307) rfl ?_
              exact Go.retI X261 hx hret hlk (by simp) rfl (hb hby at_307) e261 (by decide) (by decide) ⟨rfl, N261⟩
          · by_cases hc262 : t2 = (0 : Int64)
            · show Go pp ee below _ (T247.setTop (mkF mm 136 #[.val (.int pf), .val (.long t1), .second, .val (.long t2), .second, .val (.long ph), .second, .val (.int 1), .val (.int 1), .val (.ref b192), .val (.int 1), .val (.int 0), .val (.int 0), .unset, .unset, .unset, .unset, .unset, .unset, .unset] [(.ref b_247), (.long t2), (.ref b192)]))
              refine Go.virt X247 hx hZ hown (wd27 hw) (wd28 hw) (notFace_of_selects (args := #[]) (mvT hZ (wd30 hw))) (wd30 hw) (wd29 hw) (wd2 hw) (wd31 hw) (by decide) (cwAe l Z a0 hw b192 t2 b_247 ((0 : Int64)) b_196 ((0 : Int64)) h244 OK244 A192 g_b192 P244_0 P244_1 P244_2 P244_3 P244_4 hc248 hc262) e247 A192 (by rw [hml]; rfl) (hb hby at_136) (argsL := [(.long t2), (.ref b_247)]) (rest := []) (lenOf pd22 rfl) rfl rfl (W := 0) (by first | exact Nat.le_refl _ | decide) (by decide) (by decide) (by decide) (by decide) ?_
              intro v263 T263 L263 X263 hQ263
              obtain ⟨h263, e263⟩ : ∃ z, T263.heap = z := ⟨_, rfl⟩
              rw [e263] at hQ263
              obtain ⟨rfl, N263q, K263, P263_0, P263_1, P263_2, P263_3, P263_4⟩ := hQ263
              have N263 := Fr.app N247 N263q
              replace A192 := A192.keep K263
              replace P193_0 := P193_0.keep K263
              replace P196_0 := P196_0.keep K263
              replace P247_0 := P247_0.keep K263
              have OK263 := ext_keep OK244 K263 (allS g_b192 all0)
              refine Go.iload X263 hx (hb hby at_139) rfl (q := 141) rfl ?_
              refine Go.ifNo X263 hx (hb hby at_141) (by decide) (q := 144) rfl ?_
              refine Go.lloadN X263 hx (hb hby at_144) rfl (q := 145) rfl ?_
              refine Go.lconst X263 hx (hb hby at_145) (r := (0 : Int64)) rfl (q := 146) rfl ?_
              refine Go.lcmp X263 hx (hb hby at_146) rfl (q := 147) rfl ?_
              refine Go.ifNo X263 hx (hb hby at_147) (Jvm.Free.XT.ll_ne_f hc243) (q := 150) rfl ?_
              refine Go.lloadN X263 hx (hb hby at_150) rfl (q := 151) rfl ?_
              refine Go.lconst X263 hx (hb hby at_151) (r := (0 : Int64)) rfl (q := 152) rfl ?_
              refine Go.lcmp X263 hx (hb hby at_152) rfl (q := 153) rfl ?_
              refine Go.ifYes X263 hx (hb hby at_153) (Jvm.Free.XT.ll_eq_t hc262) (q := 160) (by decide) (by decide) ?_
              refine Go.iconst X263 hx (hb hby at_160) (r := (0 : Int32)) rfl (q := 161) rfl ?_
              refine Go.istore X263 hx (hb hby at_161) (l' := #[.val (.int pf), .val (.long t1), .second, .val (.long t2), .second, .val (.long ph), .second, .val (.int 1), .val (.int 1), .val (.ref b192), .val (.int 1), .val (.int 0), .val (.int 0), .val (.int 0), .unset, .unset, .unset, .unset, .unset, .unset]) rfl (q := 163) rfl ?_
              refine Go.aload X263 hx (hb hby at_163) rfl rfl (q := 165) rfl ?_
              refine Go.virt X263 hx hZ hown (wd20 hw) (wd21 hw) (notFace_of_selects (args := #[]) (mvT hZ (wd23 hw))) (wd23 hw) (wd22 hw) (wd2 hw) (wd24 hw) (by decide) (cho0 l Z a0 hw b192 h263 OK263 P263_1) e263 A192 (by rw [hml]; rfl) (hb hby at_165) (argsL := []) (rest := []) (lenOf pd21 rfl) rfl rfl (W := 0) (by first | exact Nat.le_refl _ | decide) (by decide) (by decide) (by decide) (by decide) ?_
              intro v264 T264 L264 X264 hQ264
              obtain ⟨rfl, N264q, e264⟩ := hQ264
              have N264 := Fr.app N263 N264q
              refine Go.istore X264 hx (hb hby at_168) (l' := #[.val (.int pf), .val (.long t1), .second, .val (.long t2), .second, .val (.long ph), .second, .val (.int 1), .val (.int 1), .val (.ref b192), .val (.int 1), .val (.int 0), .val (.int 0), .val (.int 0), .val (.int 0), .unset, .unset, .unset, .unset, .unset]) rfl (q := 170) rfl ?_
              refine Go.iload X264 hx (hb hby at_170) rfl (q := 172) rfl ?_
              refine Go.ifNo X264 hx (hb hby at_172) (by decide) (q := 175) rfl ?_
              refine Go.iload X264 hx (hb hby at_175) rfl (q := 177) rfl ?_
              refine Go.iload X264 hx (hb hby at_177) rfl (q := 179) rfl ?_
              refine Go.icmpNo X264 hx (hb hby at_179) (by decide) (q := 182) rfl ?_
              refine Go.iload X264 hx (hb hby at_182) rfl (q := 184) rfl ?_
              refine Go.aload X264 hx (hb hby at_184) rfl rfl (q := 186) rfl ?_
              refine Go.virt X264 hx hZ hown (wd36 hw) (wd37 hw) (notFace_of_selects (args := #[]) (mvT hZ (wd39 hw))) (wd39 hw) (wd38 hw) (wd2 hw) (wd40 hw) (by decide) (ccn0 l Z a0 hw b192 h263 OK263 P263_1) e264 A192 (by rw [hml]; rfl) (hb hby at_186) (argsL := []) (rest := [(.int 0)]) (lenOf pd8 rfl) rfl rfl (W := 1) (by first | exact Nat.le_refl _ | decide) (by decide) (by decide) (by decide) (by decide) ?_
              intro v265 T265 L265 X265 hQ265
              obtain ⟨rfl, N265q, e265⟩ := hQ265
              have N265 := Fr.app N264 N265q
              refine Go.iconst X265 hx (hb hby at_189) (r := (1 : Int32)) rfl (q := 190) rfl ?_
              refine Go.icmpYes X265 hx (hb hby at_190) (by decide) (q := 197) (by decide) (by decide) ?_
              refine Go.iconst X265 hx (hb hby at_197) (r := (0 : Int32)) rfl (q := 198) rfl ?_
              refine Go.icmpNo X265 hx (hb hby at_198) (by decide) (q := 201) rfl ?_
              refine Go.iconst X265 hx (hb hby at_201) (r := (1 : Int32)) rfl (q := 202) rfl ?_
              refine Go.goto X265 hx (hb hby at_202) (q := 206) (by decide) (by decide) ?_
              refine Go.istore X265 hx (hb hby at_206) (l' := #[.val (.int pf), .val (.long t1), .second, .val (.long t2), .second, .val (.long ph), .second, .val (.int 1), .val (.int 1), .val (.ref b192), .val (.int 1), .val (.int 0), .val (.int 0), .val (.int 0), .val (.int 0), .unset, .unset, .unset, .unset, .unset]) rfl (q := 208) rfl ?_
              refine Go.iload X265 hx (hb hby at_208) rfl (q := 210) rfl ?_
              refine Go.ifNo X265 hx (hb hby at_210) (by decide) (q := 213) rfl ?_
              refine Go.lconst X265 hx (hb hby at_213) (r := (0 : Int64)) rfl (q := 214) rfl ?_
              refine Go.lloadN X265 hx (hb hby at_214) rfl (q := 215) rfl ?_
              refine Go.lloadN X265 hx (hb hby at_215) rfl (q := 216) rfl ?_
              refine Go.callS X265 hx hZ hown (wd125 hw) (wd126 hw) (wd112 hw) (wd127 hw) (by decide) (cmaxJ l Z a0 hw t1 t2 h263 OK263) e265 (by rw [hml]; rfl) (hb hby at_216) (argsL := [(.long t1), (.long t2)]) (rest := [(.long 0)]) (lenOf pd23 rfl) rfl rfl (W := 2) (by first | exact Nat.le_refl _ | decide) (by decide) (by decide) (by decide) (by decide) ?_
              intro v266 T266 L266 X266 hQ266
              obtain ⟨rfl, N266q, e266⟩ := hQ266
              have N266 := Fr.app N265 N266q
              refine Go.callS X266 hx hZ hown (wd125 hw) (wd126 hw) (wd112 hw) (wd127 hw) (by decide) (cmaxJ l Z a0 hw ((0 : Int64)) ((own_max t1 t2)) h263 OK263) e266 (by rw [hml]; rfl) (hb hby at_219) (argsL := [(.long 0), (.long (own_max t1 t2))]) (rest := []) (lenOf pd23 rfl) rfl rfl (W := 0) (by first | exact Nat.le_refl _ | decide) (by decide) (by decide) (by decide) (by decide) ?_
              intro v267 T267 L267 X267 hQ267
              obtain ⟨rfl, N267q, e267⟩ := hQ267
              have N267 := Fr.app N266 N267q
              rw [own_mxEN hc243 hc248]
              show Go pp ee below _ (T267.setTop (mkF mm 222 #[.val (.int pf), .val (.long t1), .second, .val (.long t2), .second, .val (.long ph), .second, .val (.int 1), .val (.int 1), .val (.ref b192), .val (.int 1), .val (.int 0), .val (.int 0), .val (.int 0), .val (.int 0), .unset, .unset, .unset, .unset, .unset] [(.long 0)]))
              refine Go.lstore X267 hx (hb hby at_222) (l' := #[.val (.int pf), .val (.long t1), .second, .val (.long t2), .second, .val (.long ph), .second, .val (.int 1), .val (.int 1), .val (.ref b192), .val (.int 1), .val (.int 0), .val (.int 0), .val (.int 0), .val (.int 0), .val (.long 0), .second, .unset, .unset, .unset]) rfl (q := 224) rfl ?_
              refine Go.iload X267 hx (hb hby at_224) rfl (q := 226) rfl ?_
              refine Go.ifYes X267 hx (hb hby at_226) (by decide) (q := 241) (by decide) (by decide) ?_
              refine Go.iconst X267 hx (hb hby at_241) (r := (0 : Int32)) rfl (q := 242) rfl ?_
              refine Go.istore X267 hx (hb hby at_242) (l' := #[.val (.int pf), .val (.long t1), .second, .val (.long t2), .second, .val (.long ph), .second, .val (.int 1), .val (.int 1), .val (.ref b192), .val (.int 1), .val (.int 0), .val (.int 0), .val (.int 0), .val (.int 0), .val (.long 0), .second, .val (.int 0), .unset, .unset]) rfl (q := 244) rfl ?_
              refine Go.aload X267 hx (hb hby at_244) rfl rfl (q := 246) rfl ?_
              refine Go.lload X267 hx (hb hby at_246) rfl (q := 248) rfl ?_
              refine Go.virt X267 hx hZ hown (wd128 hw) (wd129 hw) (notFace_of_selects (args := #[]) (mvT hZ (wd131 hw))) (wd131 hw) (wd130 hw) (wd2 hw) (wd132 hw) (by decide) (cfg0 l Z a0 hw b192 ph h263 OK263 P263_1) e267 A192 (by rw [hml]; rfl) (hb hby at_248) (argsL := [(.long ph)]) (rest := []) (lenOf pd24 rfl) rfl rfl (W := 0) (by first | exact Nat.le_refl _ | decide) (by decide) (by decide) (by decide) (by decide) ?_
              intro v268 T268 L268 X268 hQ268
              obtain ⟨rfl, N268q, e268⟩ := hQ268
              have N268 := Fr.app N267 N268q
              refine Go.istore X268 hx (hb hby at_251) (l' := #[.val (.int pf), .val (.long t1), .second, .val (.long t2), .second, .val (.long ph), .second, .val (.int 1), .val (.int 1), .val (.ref b192), .val (.int 1), .val (.int 0), .val (.int 0), .val (.int 0), .val (.int 0), .val (.long 0), .second, .val (.int 0), .val (.int 0), .unset]) rfl (q := 253) rfl ?_
              refine Go.aload X268 hx (hb hby at_253) rfl rfl (q := 255) rfl ?_
              refine Go.virt X268 hx hZ hown (wd20 hw) (wd21 hw) (notFace_of_selects (args := #[]) (mvT hZ (wd23 hw))) (wd23 hw) (wd22 hw) (wd2 hw) (wd24 hw) (by decide) (cho0 l Z a0 hw b192 h263 OK263 P263_1) e268 A192 (by rw [hml]; rfl) (hb hby at_255) (argsL := []) (rest := []) (lenOf pd21 rfl) rfl rfl (W := 0) (by first | exact Nat.le_refl _ | decide) (by decide) (by decide) (by decide) (by decide) ?_
              intro v269 T269 L269 X269 hQ269
              obtain ⟨rfl, N269q, e269⟩ := hQ269
              have N269 := Fr.app N268 N269q
              refine Go.istore X269 hx (hb hby at_258) (l' := #[.val (.int pf), .val (.long t1), .second, .val (.long t2), .second, .val (.long ph), .second, .val (.int 1), .val (.int 1), .val (.ref b192), .val (.int 1), .val (.int 0), .val (.int 0), .val (.int 0), .val (.int 0), .val (.long 0), .second, .val (.int 0), .val (.int 0), .val (.int 0)]) rfl (q := 260) rfl ?_
              refine Go.iload X269 hx (hb hby at_260) rfl (q := 262) rfl ?_
              refine Go.ifNo X269 hx (hb hby at_262) (by decide) (q := 265) rfl ?_
              refine Go.iload X269 hx (hb hby at_265) rfl (q := 267) rfl ?_
              refine Go.iload X269 hx (hb hby at_267) rfl (q := 269) rfl ?_
              refine Go.icmpNo X269 hx (hb hby at_269) (by decide) (q := 272) rfl ?_
              refine Go.iload X269 hx (hb hby at_272) rfl (q := 274) rfl ?_
              refine Go.iload X269 hx (hb hby at_274) rfl (q := 276) rfl ?_
              refine Go.icmpNo X269 hx (hb hby at_276) (by decide) (q := 279) rfl ?_
              refine Go.iload X269 hx (hb hby at_279) rfl (q := 281) rfl ?_
              refine Go.aload X269 hx (hb hby at_281) rfl rfl (q := 283) rfl ?_
              refine Go.virt X269 hx hZ hown (wd36 hw) (wd37 hw) (notFace_of_selects (args := #[]) (mvT hZ (wd39 hw))) (wd39 hw) (wd38 hw) (wd2 hw) (wd40 hw) (by decide) (ccn0 l Z a0 hw b192 h263 OK263 P263_1) e269 A192 (by rw [hml]; rfl) (hb hby at_283) (argsL := []) (rest := [(.int 0)]) (lenOf pd8 rfl) rfl rfl (W := 1) (by first | exact Nat.le_refl _ | decide) (by decide) (by decide) (by decide) (by decide) ?_
              intro v270 T270 L270 X270 hQ270
              obtain ⟨rfl, N270q, e270⟩ := hQ270
              have N270 := Fr.app N269 N270q
              refine Go.iconst X270 hx (hb hby at_286) (r := (1 : Int32)) rfl (q := 287) rfl ?_
              refine Go.icmpYes X270 hx (hb hby at_287) (by decide) (q := 294) (by decide) (by decide) ?_
              refine Go.iconst X270 hx (hb hby at_294) (r := (0 : Int32)) rfl (q := 295) rfl ?_
              refine Go.icmpNo X270 hx (hb hby at_295) (by decide) (q := 298) rfl ?_
              refine Go.iconst X270 hx (hb hby at_298) (r := (1 : Int32)) rfl (q := 299) rfl ?_
              refine Go.goto X270 hx (hb hby at_299) (q := 303) (by decide) (by decide) ?_
              refine Go.istore X270 hx (hb hby at_303) (l' := #[.val (.int pf), .val (.long t1), .second, .val (.long t2), .second, .val (.long ph), .second, .val (.int 1), .val (.int 1), .val (.ref b192), .val (.int 1), .val (.int 0), .val (.int 0), .val (.int 0), .val (.int 0), .val (.long 0), .second, .val (.int 0), .val (.int 0), .val (.int 0)]) rfl (q := 305) rfl ?_
              refine Go.iload X270 hx (hb hby at_305) rfl (q := 307) rfl ?_
              exact Go.retI X270 hx hret hlk (by simp) rfl (hb hby at_307) e270 (by decide) (by decide) ⟨rfl, N270⟩
            · show Go pp ee below _ (T247.setTop (mkF mm 136 #[.val (.int pf), .val (.long t1), .second, .val (.long t2), .second, .val (.long ph), .second, .val (.int 1), .val (.int 1), .val (.ref b192), .val (.int 1), .val (.int 0), .val (.int 0), .unset, .unset, .unset, .unset, .unset, .unset, .unset] [(.ref b_247), (.long t2), (.ref b192)]))
              refine Go.virt X247 hx hZ hown (wd27 hw) (wd28 hw) (notFace_of_selects (args := #[]) (mvT hZ (wd30 hw))) (wd30 hw) (wd29 hw) (wd2 hw) (wd31 hw) (by decide) (cwAl l Z a0 hw b192 t2 b_247 ((0 : Int64)) b_196 ((0 : Int64)) de h244 OK244 A192 g_b192 P244_0 P244_1 P244_2 P244_3 P244_4 SD LD hc248 hc262) e247 A192 (by rw [hml]; rfl) (hb hby at_136) (argsL := [(.long t2), (.ref b_247)]) (rest := []) (lenOf pd22 rfl) rfl rfl (W := 0) (by first | exact Nat.le_refl _ | decide) (by decide) (by decide) (by decide) (by decide) ?_
              intro v271 T271 L271 X271 hQ271
              obtain ⟨h271, e271⟩ : ∃ z, T271.heap = z := ⟨_, rfl⟩
              rw [e271] at hQ271
              obtain ⟨li_271, d_271, x0_271, kd_271, rfl, N271q, K271, fr271_li, fr271_d, fr271_x0, P271_0, P271_1, P271_2, P271_3, P271_4, P271_5, P271_6, P271_7, P271_8, P271_9, P271_10, P271_11, P271_12, P271_13, P271_14, P271_15, P271_16⟩ := hQ271
              have N271 := Fr.app N247 N271q
              have ne_b192_li_271 : b192 ≠ li_271 := ne_new A192.lt fr271_li
              have ne_b_193_li_271 : b_193 ≠ li_271 := ne_new P193_0.lt fr271_li
              have ne_b_196_li_271 : b_196 ≠ li_271 := ne_new P196_0.lt fr271_li
              have ne_b_247_li_271 : b_247 ≠ li_271 := ne_new P247_0.lt fr271_li
              have g_li_271 : Z.heap.size ≤ li_271 := Nat.le_trans OK244.1 fr271_li
              have ne_b192_d_271 : b192 ≠ d_271 := ne_new A192.lt fr271_d
              have ne_b_193_d_271 : b_193 ≠ d_271 := ne_new P193_0.lt fr271_d
              have ne_b_196_d_271 : b_196 ≠ d_271 := ne_new P196_0.lt fr271_d
              have ne_b_247_d_271 : b_247 ≠ d_271 := ne_new P247_0.lt fr271_d
              have g_d_271 : Z.heap.size ≤ d_271 := Nat.le_trans OK244.1 fr271_d
              have ne_b192_x0_271 : b192 ≠ x0_271 := ne_new A192.lt fr271_x0
              have ne_b_193_x0_271 : b_193 ≠ x0_271 := ne_new P193_0.lt fr271_x0
              have ne_b_196_x0_271 : b_196 ≠ x0_271 := ne_new P196_0.lt fr271_x0
              have ne_b_247_x0_271 : b_247 ≠ x0_271 := ne_new P247_0.lt fr271_x0
              have g_x0_271 : Z.heap.size ≤ x0_271 := Nat.le_trans OK244.1 fr271_x0
              replace A192 := A192.keep K271
              replace P193_0 := P193_0.keep K271
              replace P196_0 := P196_0.keep K271
              replace P247_0 := P247_0.keep K271
              have OK271 := ext_keep OK244 K271 (allS g_b192 all0)
              refine Go.iload X271 hx (hb hby at_139) rfl (q := 141) rfl ?_
              refine Go.ifNo X271 hx (hb hby at_141) (by decide) (q := 144) rfl ?_
              refine Go.lloadN X271 hx (hb hby at_144) rfl (q := 145) rfl ?_
              refine Go.lconst X271 hx (hb hby at_145) (r := (0 : Int64)) rfl (q := 146) rfl ?_
              refine Go.lcmp X271 hx (hb hby at_146) rfl (q := 147) rfl ?_
              refine Go.ifNo X271 hx (hb hby at_147) (Jvm.Free.XT.ll_ne_f hc243) (q := 150) rfl ?_
              refine Go.lloadN X271 hx (hb hby at_150) rfl (q := 151) rfl ?_
              refine Go.lconst X271 hx (hb hby at_151) (r := (0 : Int64)) rfl (q := 152) rfl ?_
              refine Go.lcmp X271 hx (hb hby at_152) rfl (q := 153) rfl ?_
              refine Go.ifNo X271 hx (hb hby at_153) (Jvm.Free.XT.ll_eq_f hc262) (q := 156) rfl ?_
              refine Go.iconst X271 hx (hb hby at_156) (r := (1 : Int32)) rfl (q := 157) rfl ?_
              refine Go.goto X271 hx (hb hby at_157) (q := 161) (by decide) (by decide) ?_
              refine Go.istore X271 hx (hb hby at_161) (l' := #[.val (.int pf), .val (.long t1), .second, .val (.long t2), .second, .val (.long ph), .second, .val (.int 1), .val (.int 1), .val (.ref b192), .val (.int 1), .val (.int 0), .val (.int 0), .val (.int 1), .unset, .unset, .unset, .unset, .unset, .unset]) rfl (q := 163) rfl ?_
              refine Go.aload X271 hx (hb hby at_163) rfl rfl (q := 165) rfl ?_
              refine Go.virt X271 hx hZ hown (wd20 hw) (wd21 hw) (notFace_of_selects (args := #[]) (mvT hZ (wd23 hw))) (wd23 hw) (wd22 hw) (wd2 hw) (wd24 hw) (by decide) (cho1 l Z a0 hw b192 li_271 h271 OK271 P271_1) e271 A192 (by rw [hml]; rfl) (hb hby at_165) (argsL := []) (rest := []) (lenOf pd21 rfl) rfl rfl (W := 0) (by first | exact Nat.le_refl _ | decide) (by decide) (by decide) (by decide) (by decide) ?_
              intro v272 T272 L272 X272 hQ272
              obtain ⟨rfl, N272q, e272⟩ := hQ272
              have N272 := Fr.app N271 N272q
              refine Go.istore X272 hx (hb hby at_168) (l' := #[.val (.int pf), .val (.long t1), .second, .val (.long t2), .second, .val (.long ph), .second, .val (.int 1), .val (.int 1), .val (.ref b192), .val (.int 1), .val (.int 0), .val (.int 0), .val (.int 1), .val (.int 1), .unset, .unset, .unset, .unset, .unset]) rfl (q := 170) rfl ?_
              refine Go.iload X272 hx (hb hby at_170) rfl (q := 172) rfl ?_
              refine Go.ifNo X272 hx (hb hby at_172) (by decide) (q := 175) rfl ?_
              refine Go.iload X272 hx (hb hby at_175) rfl (q := 177) rfl ?_
              refine Go.iload X272 hx (hb hby at_177) rfl (q := 179) rfl ?_
              refine Go.icmpNo X272 hx (hb hby at_179) (by decide) (q := 182) rfl ?_
              refine Go.iload X272 hx (hb hby at_182) rfl (q := 184) rfl ?_
              refine Go.aload X272 hx (hb hby at_184) rfl rfl (q := 186) rfl ?_
              refine Go.virt X272 hx hZ hown (wd36 hw) (wd37 hw) (notFace_of_selects (args := #[]) (mvT hZ (wd39 hw))) (wd39 hw) (wd38 hw) (wd2 hw) (wd40 hw) (by decide) (ccn1 l Z a0 hw b192 li_271 ((1 : Int32)) h271 OK271 P271_1 P271_5 P271_7) e272 A192 (by rw [hml]; rfl) (hb hby at_186) (argsL := []) (rest := [(.int 1)]) (lenOf pd8 rfl) rfl rfl (W := 1) (by first | exact Nat.le_refl _ | decide) (by decide) (by decide) (by decide) (by decide) ?_
              intro v273 T273 L273 X273 hQ273
              obtain ⟨rfl, N273q, e273⟩ := hQ273
              have N273 := Fr.app N272 N273q
              refine Go.iconst X273 hx (hb hby at_189) (r := (1 : Int32)) rfl (q := 190) rfl ?_
              refine Go.icmpNo X273 hx (hb hby at_190) (by decide) (q := 193) rfl ?_
              refine Go.iconst X273 hx (hb hby at_193) (r := (1 : Int32)) rfl (q := 194) rfl ?_
              refine Go.goto X273 hx (hb hby at_194) (q := 198) (by decide) (by decide) ?_
              refine Go.icmpNo X273 hx (hb hby at_198) (by decide) (q := 201) rfl ?_
              refine Go.iconst X273 hx (hb hby at_201) (r := (1 : Int32)) rfl (q := 202) rfl ?_
              refine Go.goto X273 hx (hb hby at_202) (q := 206) (by decide) (by decide) ?_
              refine Go.istore X273 hx (hb hby at_206) (l' := #[.val (.int pf), .val (.long t1), .second, .val (.long t2), .second, .val (.long ph), .second, .val (.int 1), .val (.int 1), .val (.ref b192), .val (.int 1), .val (.int 0), .val (.int 0), .val (.int 1), .val (.int 1), .unset, .unset, .unset, .unset, .unset]) rfl (q := 208) rfl ?_
              refine Go.iload X273 hx (hb hby at_208) rfl (q := 210) rfl ?_
              refine Go.ifNo X273 hx (hb hby at_210) (by decide) (q := 213) rfl ?_
              refine Go.lconst X273 hx (hb hby at_213) (r := (0 : Int64)) rfl (q := 214) rfl ?_
              refine Go.lloadN X273 hx (hb hby at_214) rfl (q := 215) rfl ?_
              refine Go.lloadN X273 hx (hb hby at_215) rfl (q := 216) rfl ?_
              refine Go.callS X273 hx hZ hown (wd125 hw) (wd126 hw) (wd112 hw) (wd127 hw) (by decide) (cmaxJ l Z a0 hw t1 t2 h271 OK271) e273 (by rw [hml]; rfl) (hb hby at_216) (argsL := [(.long t1), (.long t2)]) (rest := [(.long 0)]) (lenOf pd23 rfl) rfl rfl (W := 2) (by first | exact Nat.le_refl _ | decide) (by decide) (by decide) (by decide) (by decide) ?_
              intro v274 T274 L274 X274 hQ274
              obtain ⟨rfl, N274q, e274⟩ := hQ274
              have N274 := Fr.app N273 N274q
              refine Go.callS X274 hx hZ hown (wd125 hw) (wd126 hw) (wd112 hw) (wd127 hw) (by decide) (cmaxJ l Z a0 hw ((0 : Int64)) ((own_max t1 t2)) h271 OK271) e274 (by rw [hml]; rfl) (hb hby at_219) (argsL := [(.long 0), (.long (own_max t1 t2))]) (rest := []) (lenOf pd23 rfl) rfl rfl (W := 0) (by first | exact Nat.le_refl _ | decide) (by decide) (by decide) (by decide) (by decide) ?_
              intro v275 T275 L275 X275 hQ275
              obtain ⟨rfl, N275q, e275⟩ := hQ275
              have N275 := Fr.app N274 N275q
              rw [own_mxEN hc243 hc248]
              show Go pp ee below _ (T275.setTop (mkF mm 222 #[.val (.int pf), .val (.long t1), .second, .val (.long t2), .second, .val (.long ph), .second, .val (.int 1), .val (.int 1), .val (.ref b192), .val (.int 1), .val (.int 0), .val (.int 0), .val (.int 1), .val (.int 1), .unset, .unset, .unset, .unset, .unset] [(.long 0)]))
              refine Go.lstore X275 hx (hb hby at_222) (l' := #[.val (.int pf), .val (.long t1), .second, .val (.long t2), .second, .val (.long ph), .second, .val (.int 1), .val (.int 1), .val (.ref b192), .val (.int 1), .val (.int 0), .val (.int 0), .val (.int 1), .val (.int 1), .val (.long 0), .second, .unset, .unset, .unset]) rfl (q := 224) rfl ?_
              refine Go.iload X275 hx (hb hby at_224) rfl (q := 226) rfl ?_
              refine Go.ifNo X275 hx (hb hby at_226) (by decide) (q := 229) rfl ?_
              refine Go.lload X275 hx (hb hby at_229) rfl (q := 231) rfl ?_
              refine Go.lload X275 hx (hb hby at_231) rfl (q := 233) rfl ?_
              refine Go.lcmp X275 hx (hb hby at_233) rfl (q := 234) rfl ?_
              by_cases hc276 : ph < (0 : Int64)
              · refine Go.ifNo X275 hx (hb hby at_234) (Jvm.Free.XT.ll_le_f hc276) (q := 237) rfl ?_
                refine Go.iconst X275 hx (hb hby at_237) (r := (1 : Int32)) rfl (q := 238) rfl ?_
                refine Go.goto X275 hx (hb hby at_238) (q := 242) (by decide) (by decide) ?_
                refine Go.istore X275 hx (hb hby at_242) (l' := #[.val (.int pf), .val (.long t1), .second, .val (.long t2), .second, .val (.long ph), .second, .val (.int 1), .val (.int 1), .val (.ref b192), .val (.int 1), .val (.int 0), .val (.int 0), .val (.int 1), .val (.int 1), .val (.long 0), .second, .val (.int 1), .unset, .unset]) rfl (q := 244) rfl ?_
                refine Go.aload X275 hx (hb hby at_244) rfl rfl (q := 246) rfl ?_
                refine Go.lload X275 hx (hb hby at_246) rfl (q := 248) rfl ?_
                refine Go.virt X275 hx hZ hown (wd128 hw) (wd129 hw) (notFace_of_selects (args := #[]) (mvT hZ (wd131 hw))) (wd131 hw) (wd130 hw) (wd2 hw) (wd132 hw) (by decide) (cfg1 l Z a0 hw b192 ph ((0 : Int64)) li_271 d_271 x0_271 t2 ((1 : Int32)) (kd_271) h271 OK271 A192 P271_1 P271_2 P271_5 P271_6 P271_7 P271_8 P271_9 P271_11 P271_12 hc276) e275 A192 (by rw [hml]; rfl) (hb hby at_248) (argsL := [(.long ph)]) (rest := []) (lenOf pd24 rfl) rfl rfl (W := 0) (by first | exact Nat.le_refl _ | decide) (by decide) (by decide) (by decide) (by decide) ?_
                intro v277 T277 L277 X277 hQ277
                obtain ⟨rfl, N277q, e277⟩ := hQ277
                have N277 := Fr.app N275 N277q
                refine Go.istore X277 hx (hb hby at_251) (l' := #[.val (.int pf), .val (.long t1), .second, .val (.long t2), .second, .val (.long ph), .second, .val (.int 1), .val (.int 1), .val (.ref b192), .val (.int 1), .val (.int 0), .val (.int 0), .val (.int 1), .val (.int 1), .val (.long 0), .second, .val (.int 1), .val (.int 1), .unset]) rfl (q := 253) rfl ?_
                refine Go.aload X277 hx (hb hby at_253) rfl rfl (q := 255) rfl ?_
                refine Go.virt X277 hx hZ hown (wd20 hw) (wd21 hw) (notFace_of_selects (args := #[]) (mvT hZ (wd23 hw))) (wd23 hw) (wd22 hw) (wd2 hw) (wd24 hw) (by decide) (cho1 l Z a0 hw b192 li_271 h271 OK271 P271_1) e277 A192 (by rw [hml]; rfl) (hb hby at_255) (argsL := []) (rest := []) (lenOf pd21 rfl) rfl rfl (W := 0) (by first | exact Nat.le_refl _ | decide) (by decide) (by decide) (by decide) (by decide) ?_
                intro v278 T278 L278 X278 hQ278
                obtain ⟨rfl, N278q, e278⟩ := hQ278
                have N278 := Fr.app N277 N278q
                refine Go.istore X278 hx (hb hby at_258) (l' := #[.val (.int pf), .val (.long t1), .second, .val (.long t2), .second, .val (.long ph), .second, .val (.int 1), .val (.int 1), .val (.ref b192), .val (.int 1), .val (.int 0), .val (.int 0), .val (.int 1), .val (.int 1), .val (.long 0), .second, .val (.int 1), .val (.int 1), .val (.int 1)]) rfl (q := 260) rfl ?_
                refine Go.iload X278 hx (hb hby at_260) rfl (q := 262) rfl ?_
                refine Go.ifNo X278 hx (hb hby at_262) (by decide) (q := 265) rfl ?_
                refine Go.iload X278 hx (hb hby at_265) rfl (q := 267) rfl ?_
                refine Go.iload X278 hx (hb hby at_267) rfl (q := 269) rfl ?_
                refine Go.icmpNo X278 hx (hb hby at_269) (by decide) (q := 272) rfl ?_
                refine Go.iload X278 hx (hb hby at_272) rfl (q := 274) rfl ?_
                refine Go.iload X278 hx (hb hby at_274) rfl (q := 276) rfl ?_
                refine Go.icmpNo X278 hx (hb hby at_276) (by decide) (q := 279) rfl ?_
                refine Go.iload X278 hx (hb hby at_279) rfl (q := 281) rfl ?_
                refine Go.aload X278 hx (hb hby at_281) rfl rfl (q := 283) rfl ?_
                refine Go.virt X278 hx hZ hown (wd36 hw) (wd37 hw) (notFace_of_selects (args := #[]) (mvT hZ (wd39 hw))) (wd39 hw) (wd38 hw) (wd2 hw) (wd40 hw) (by decide) (ccn1 l Z a0 hw b192 li_271 ((1 : Int32)) h271 OK271 P271_1 P271_5 P271_7) e278 A192 (by rw [hml]; rfl) (hb hby at_283) (argsL := []) (rest := [(.int 1)]) (lenOf pd8 rfl) rfl rfl (W := 1) (by first | exact Nat.le_refl _ | decide) (by decide) (by decide) (by decide) (by decide) ?_
                intro v279 T279 L279 X279 hQ279
                obtain ⟨rfl, N279q, e279⟩ := hQ279
                have N279 := Fr.app N278 N279q
                refine Go.iconst X279 hx (hb hby at_286) (r := (1 : Int32)) rfl (q := 287) rfl ?_
                refine Go.icmpNo X279 hx (hb hby at_287) (by decide) (q := 290) rfl ?_
                refine Go.iconst X279 hx (hb hby at_290) (r := (1 : Int32)) rfl (q := 291) rfl ?_
                refine Go.goto X279 hx (hb hby at_291) (q := 295) (by decide) (by decide) ?_
                refine Go.icmpNo X279 hx (hb hby at_295) (by decide) (q := 298) rfl ?_
                refine Go.iconst X279 hx (hb hby at_298) (r := (1 : Int32)) rfl (q := 299) rfl ?_
                refine Go.goto X279 hx (hb hby at_299) (q := 303) (by decide) (by decide) ?_
                refine Go.istore X279 hx (hb hby at_303) (l' := #[.val (.int pf), .val (.long t1), .second, .val (.long t2), .second, .val (.long ph), .second, .val (.int 1), .val (.int 1), .val (.ref b192), .val (.int 1), .val (.int 0), .val (.int 0), .val (.int 1), .val (.int 1), .val (.long 0), .second, .val (.int 1), .val (.int 1), .val (.int 1)]) rfl (q := 305) rfl ?_
                refine Go.iload X279 hx (hb hby at_305) rfl (q := 307) rfl ?_
                exact Go.retI X279 hx hret hlk (by simp) rfl (hb hby at_307) e279 (by decide) (by decide) ⟨rfl, N279⟩
              · refine Go.ifYes X275 hx (hb hby at_234) (Jvm.Free.XT.ll_le_t hc276) (q := 241) (by decide) (by decide) ?_
                refine Go.iconst X275 hx (hb hby at_241) (r := (0 : Int32)) rfl (q := 242) rfl ?_
                refine Go.istore X275 hx (hb hby at_242) (l' := #[.val (.int pf), .val (.long t1), .second, .val (.long t2), .second, .val (.long ph), .second, .val (.int 1), .val (.int 1), .val (.ref b192), .val (.int 1), .val (.int 0), .val (.int 0), .val (.int 1), .val (.int 1), .val (.long 0), .second, .val (.int 0), .unset, .unset]) rfl (q := 244) rfl ?_
                refine Go.aload X275 hx (hb hby at_244) rfl rfl (q := 246) rfl ?_
                refine Go.lload X275 hx (hb hby at_246) rfl (q := 248) rfl ?_
                refine Go.virt X275 hx hZ hown (wd128 hw) (wd129 hw) (notFace_of_selects (args := #[]) (mvT hZ (wd131 hw))) (wd131 hw) (wd130 hw) (wd2 hw) (wd132 hw) (by decide) (cfgl l Z a0 hw b192 ph li_271 ((0 : Int64)) b_196 ((0 : Int64)) h271 OK271 A192 g_b192 P271_0 P271_1 P271_2 P271_3 P271_4 hc276) e275 A192 (by rw [hml]; rfl) (hb hby at_248) (argsL := [(.long ph)]) (rest := []) (lenOf pd24 rfl) rfl rfl (W := 0) (by first | exact Nat.le_refl _ | decide) (by decide) (by decide) (by decide) (by decide) ?_
                intro v280 T280 L280 X280 hQ280
                obtain ⟨h280, e280⟩ : ∃ z, T280.heap = z := ⟨_, rfl⟩
                rw [e280] at hQ280
                obtain ⟨rfl, N280q, K280, P280_0, P280_1, P280_2, P280_3, P280_4⟩ := hQ280
                have N280 := Fr.app N275 N280q
                replace A192 := A192.keep K280
                replace P193_0 := P193_0.keep K280
                replace P196_0 := P196_0.keep K280
                replace P247_0 := P247_0.keep K280
                replace P271_5 := P271_5.keep K280
                replace P271_6 := P271_6.keep K280 (ninS (Ne.symm ne_b192_li_271) nin0)
                replace P271_7 := P271_7.keep K280 (ninS (Ne.symm ne_b192_li_271) nin0)
                replace P271_8 := P271_8.keep K280 (ninS (Ne.symm ne_b192_li_271) nin0)
                replace P271_9 := P271_9.keep K280 (ninS (Ne.symm ne_b192_d_271) nin0)
                replace P271_11 := P271_11.keep K280
                replace P271_12 := P271_12.keep K280 (ninS (Ne.symm ne_b192_x0_271) nin0)
                replace P271_13 := P271_13.keep K280 (ninS (Ne.symm ne_b192_x0_271) nin0)
                have OK280 := ext_keep OK271 K280 (allS g_b192 all0)
                refine Go.istore X280 hx (hb hby at_251) (l' := #[.val (.int pf), .val (.long t1), .second, .val (.long t2), .second, .val (.long ph), .second, .val (.int 1), .val (.int 1), .val (.ref b192), .val (.int 1), .val (.int 0), .val (.int 0), .val (.int 1), .val (.int 1), .val (.long 0), .second, .val (.int 0), .val (.int 0), .unset]) rfl (q := 253) rfl ?_
                refine Go.aload X280 hx (hb hby at_253) rfl rfl (q := 255) rfl ?_
                refine Go.virt X280 hx hZ hown (wd20 hw) (wd21 hw) (notFace_of_selects (args := #[]) (mvT hZ (wd23 hw))) (wd23 hw) (wd22 hw) (wd2 hw) (wd24 hw) (by decide) (cho0 l Z a0 hw b192 h280 OK280 P280_1) e280 A192 (by rw [hml]; rfl) (hb hby at_255) (argsL := []) (rest := []) (lenOf pd21 rfl) rfl rfl (W := 0) (by first | exact Nat.le_refl _ | decide) (by decide) (by decide) (by decide) (by decide) ?_
                intro v281 T281 L281 X281 hQ281
                obtain ⟨rfl, N281q, e281⟩ := hQ281
                have N281 := Fr.app N280 N281q
                refine Go.istore X281 hx (hb hby at_258) (l' := #[.val (.int pf), .val (.long t1), .second, .val (.long t2), .second, .val (.long ph), .second, .val (.int 1), .val (.int 1), .val (.ref b192), .val (.int 1), .val (.int 0), .val (.int 0), .val (.int 1), .val (.int 1), .val (.long 0), .second, .val (.int 0), .val (.int 0), .val (.int 0)]) rfl (q := 260) rfl ?_
                refine Go.iload X281 hx (hb hby at_260) rfl (q := 262) rfl ?_
                refine Go.ifNo X281 hx (hb hby at_262) (by decide) (q := 265) rfl ?_
                refine Go.iload X281 hx (hb hby at_265) rfl (q := 267) rfl ?_
                refine Go.iload X281 hx (hb hby at_267) rfl (q := 269) rfl ?_
                refine Go.icmpNo X281 hx (hb hby at_269) (by decide) (q := 272) rfl ?_
                refine Go.iload X281 hx (hb hby at_272) rfl (q := 274) rfl ?_
                refine Go.iload X281 hx (hb hby at_274) rfl (q := 276) rfl ?_
                refine Go.icmpNo X281 hx (hb hby at_276) (by decide) (q := 279) rfl ?_
                refine Go.iload X281 hx (hb hby at_279) rfl (q := 281) rfl ?_
                refine Go.aload X281 hx (hb hby at_281) rfl rfl (q := 283) rfl ?_
                refine Go.virt X281 hx hZ hown (wd36 hw) (wd37 hw) (notFace_of_selects (args := #[]) (mvT hZ (wd39 hw))) (wd39 hw) (wd38 hw) (wd2 hw) (wd40 hw) (by decide) (ccn0 l Z a0 hw b192 h280 OK280 P280_1) e281 A192 (by rw [hml]; rfl) (hb hby at_283) (argsL := []) (rest := [(.int 0)]) (lenOf pd8 rfl) rfl rfl (W := 1) (by first | exact Nat.le_refl _ | decide) (by decide) (by decide) (by decide) (by decide) ?_
                intro v282 T282 L282 X282 hQ282
                obtain ⟨rfl, N282q, e282⟩ := hQ282
                have N282 := Fr.app N281 N282q
                refine Go.iconst X282 hx (hb hby at_286) (r := (1 : Int32)) rfl (q := 287) rfl ?_
                refine Go.icmpYes X282 hx (hb hby at_287) (by decide) (q := 294) (by decide) (by decide) ?_
                refine Go.iconst X282 hx (hb hby at_294) (r := (0 : Int32)) rfl (q := 295) rfl ?_
                refine Go.icmpNo X282 hx (hb hby at_295) (by decide) (q := 298) rfl ?_
                refine Go.iconst X282 hx (hb hby at_298) (r := (1 : Int32)) rfl (q := 299) rfl ?_
                refine Go.goto X282 hx (hb hby at_299) (q := 303) (by decide) (by decide) ?_
                refine Go.istore X282 hx (hb hby at_303) (l' := #[.val (.int pf), .val (.long t1), .second, .val (.long t2), .second, .val (.long ph), .second, .val (.int 1), .val (.int 1), .val (.ref b192), .val (.int 1), .val (.int 0), .val (.int 0), .val (.int 1), .val (.int 1), .val (.long 0), .second, .val (.int 0), .val (.int 0), .val (.int 0)]) rfl (q := 305) rfl ?_
                refine Go.iload X282 hx (hb hby at_305) rfl (q := 307) rfl ?_
                exact Go.retI X282 hx hret hlk (by simp) rfl (hb hby at_307) e282 (by decide) (by decide) ⟨rfl, N282⟩
        · show Go pp ee below _ (T196.setTop (mkF mm 63 #[.val (.int pf), .val (.long t1), .second, .val (.long t2), .second, .val (.long ph), .second, .val (.int 1), .val (.int 1), .val (.ref b192), .val (.int 1), .unset, .unset, .unset, .unset, .unset, .unset, .unset, .unset, .unset] [(.ref b_196), (.long t1), (.ref b192)]))
          refine Go.virt X196 hx hZ hown (wd27 hw) (wd28 hw) (notFace_of_selects (args := #[]) (mvT hZ (wd30 hw))) (wd30 hw) (wd29 hw) (wd2 hw) (wd31 hw) (by decide) (cwAl l Z a0 hw b192 t1 b_196 ((0 : Int64)) b_193 ((0 : Int64)) de h194 OK194 A192 g_b192 P194_0 P194_1 P194_2 P194_3 P194_4 SD LD hc197 hc243) e196 A192 (by rw [hml]; rfl) (hb hby at_63) (argsL := [(.long t1), (.ref b_196)]) (rest := []) (lenOf pd22 rfl) rfl rfl (W := 0) (by first | exact Nat.le_refl _ | decide) (by decide) (by decide) (by decide) (by decide) ?_
          intro v283 T283 L283 X283 hQ283
          obtain ⟨h283, e283⟩ : ∃ z, T283.heap = z := ⟨_, rfl⟩
          rw [e283] at hQ283
          obtain ⟨li_283, d_283, x0_283, kd_283, rfl, N283q, K283, fr283_li, fr283_d, fr283_x0, P283_0, P283_1, P283_2, P283_3, P283_4, P283_5, P283_6, P283_7, P283_8, P283_9, P283_10, P283_11, P283_12, P283_13, P283_14, P283_15, P283_16⟩ := hQ283
          have N283 := Fr.app N196 N283q
          have ne_b192_li_283 : b192 ≠ li_283 := ne_new A192.lt fr283_li
          have ne_b_193_li_283 : b_193 ≠ li_283 := ne_new P193_0.lt fr283_li
          have ne_b_196_li_283 : b_196 ≠ li_283 := ne_new P196_0.lt fr283_li
          have g_li_283 : Z.heap.size ≤ li_283 := Nat.le_trans OK194.1 fr283_li
          have ne_b192_d_283 : b192 ≠ d_283 := ne_new A192.lt fr283_d
          have ne_b_193_d_283 : b_193 ≠ d_283 := ne_new P193_0.lt fr283_d
          have ne_b_196_d_283 : b_196 ≠ d_283 := ne_new P196_0.lt fr283_d
          have g_d_283 : Z.heap.size ≤ d_283 := Nat.le_trans OK194.1 fr283_d
          have ne_b192_x0_283 : b192 ≠ x0_283 := ne_new A192.lt fr283_x0
          have ne_b_193_x0_283 : b_193 ≠ x0_283 := ne_new P193_0.lt fr283_x0
          have ne_b_196_x0_283 : b_196 ≠ x0_283 := ne_new P196_0.lt fr283_x0
          have g_x0_283 : Z.heap.size ≤ x0_283 := Nat.le_trans OK194.1 fr283_x0
          replace A192 := A192.keep K283
          replace P193_0 := P193_0.keep K283
          replace P196_0 := P196_0.keep K283
          have OK283 := ext_keep OK194 K283 (allS g_b192 all0)
          refine Go.iload X283 hx (hb hby at_66) rfl (q := 68) rfl ?_
          refine Go.ifNo X283 hx (hb hby at_68) (by decide) (q := 71) rfl ?_
          refine Go.lloadN X283 hx (hb hby at_71) rfl (q := 72) rfl ?_
          refine Go.lconst X283 hx (hb hby at_72) (r := (0 : Int64)) rfl (q := 73) rfl ?_
          refine Go.lcmp X283 hx (hb hby at_73) rfl (q := 74) rfl ?_
          refine Go.ifNo X283 hx (hb hby at_74) (Jvm.Free.XT.ll_eq_f hc243) (q := 77) rfl ?_
          refine Go.iconst X283 hx (hb hby at_77) (r := (1 : Int32)) rfl (q := 78) rfl ?_
          refine Go.goto X283 hx (hb hby at_78) (q := 82) (by decide) (by decide) ?_
          refine Go.istore X283 hx (hb hby at_82) (l' := #[.val (.int pf), .val (.long t1), .second, .val (.long t2), .second, .val (.long ph), .second, .val (.int 1), .val (.int 1), .val (.ref b192), .val (.int 1), .val (.int 1), .unset, .unset, .unset, .unset, .unset, .unset, .unset, .unset]) rfl (q := 84) rfl ?_
          refine Go.aload X283 hx (hb hby at_84) rfl rfl (q := 86) rfl ?_
          refine Go.virt X283 hx hZ hown (wd20 hw) (wd21 hw) (notFace_of_selects (args := #[]) (mvT hZ (wd23 hw))) (wd23 hw) (wd22 hw) (wd2 hw) (wd24 hw) (by decide) (cho1 l Z a0 hw b192 li_283 h283 OK283 P283_1) e283 A192 (by rw [hml]; rfl) (hb hby at_86) (argsL := []) (rest := []) (lenOf pd21 rfl) rfl rfl (W := 0) (by first | exact Nat.le_refl _ | decide) (by decide) (by decide) (by decide) (by decide) ?_
          intro v284 T284 L284 X284 hQ284
          obtain ⟨rfl, N284q, e284⟩ := hQ284
          have N284 := Fr.app N283 N284q
          refine Go.istore X284 hx (hb hby at_89) (l' := #[.val (.int pf), .val (.long t1), .second, .val (.long t2), .second, .val (.long ph), .second, .val (.int 1), .val (.int 1), .val (.ref b192), .val (.int 1), .val (.int 1), .val (.int 1), .unset, .unset, .unset, .unset, .unset, .unset, .unset]) rfl (q := 91) rfl ?_
          refine Go.iload X284 hx (hb hby at_91) rfl (q := 93) rfl ?_
          refine Go.ifNo X284 hx (hb hby at_93) (by decide) (q := 96) rfl ?_
          refine Go.iload X284 hx (hb hby at_96) rfl (q := 98) rfl ?_
          refine Go.iload X284 hx (hb hby at_98) rfl (q := 100) rfl ?_
          refine Go.icmpNo X284 hx (hb hby at_100) (by decide) (q := 103) rfl ?_
          refine Go.iload X284 hx (hb hby at_103) rfl (q := 105) rfl ?_
          refine Go.aload X284 hx (hb hby at_105) rfl rfl (q := 107) rfl ?_
          refine Go.virt X284 hx hZ hown (wd36 hw) (wd37 hw) (notFace_of_selects (args := #[]) (mvT hZ (wd39 hw))) (wd39 hw) (wd38 hw) (wd2 hw) (wd40 hw) (by decide) (ccn1 l Z a0 hw b192 li_283 ((1 : Int32)) h283 OK283 P283_1 P283_5 P283_7) e284 A192 (by rw [hml]; rfl) (hb hby at_107) (argsL := []) (rest := [(.int 1)]) (lenOf pd8 rfl) rfl rfl (W := 1) (by first | exact Nat.le_refl _ | decide) (by decide) (by decide) (by decide) (by decide) ?_
          intro v285 T285 L285 X285 hQ285
          obtain ⟨rfl, N285q, e285⟩ := hQ285
          have N285 := Fr.app N284 N285q
          refine Go.iconst X285 hx (hb hby at_110) (r := (1 : Int32)) rfl (q := 111) rfl ?_
          refine Go.icmpNo X285 hx (hb hby at_111) (by decide) (q := 114) rfl ?_
          refine Go.iconst X285 hx (hb hby at_114) (r := (1 : Int32)) rfl (q := 115) rfl ?_
          refine Go.goto X285 hx (hb hby at_115) (q := 119) (by decide) (by decide) ?_
          refine Go.icmpNo X285 hx (hb hby at_119) (by decide) (q := 122) rfl ?_
          refine Go.iconst X285 hx (hb hby at_122) (r := (1 : Int32)) rfl (q := 123) rfl ?_
          refine Go.goto X285 hx (hb hby at_123) (q := 127) (by decide) (by decide) ?_
          refine Go.istore X285 hx (hb hby at_127) (l' := #[.val (.int pf), .val (.long t1), .second, .val (.long t2), .second, .val (.long ph), .second, .val (.int 1), .val (.int 1), .val (.ref b192), .val (.int 1), .val (.int 1), .val (.int 1), .unset, .unset, .unset, .unset, .unset, .unset, .unset]) rfl (q := 129) rfl ?_
          refine Go.aload X285 hx (hb hby at_129) rfl rfl (q := 131) rfl ?_
          refine Go.lloadN X285 hx (hb hby at_131) rfl (q := 132) rfl ?_
          refine Go.iconst X285 hx (hb hby at_132) (r := (2 : Int32)) rfl (q := 133) rfl ?_
          refine Go.callS X285 hx hZ hown (wd3 hw) (wd4 hw) (wd5 hw) (wd6 hw) (by decide) (cvalueOf2 l Z a0 hw ca h283 OK283 SH SC HC) e285 (by rw [hml]; rfl) (hb hby at_133) (argsL := [(.int 2)]) (rest := [(.long t2), (.ref b192)]) (lenOf pd19 rfl) rfl rfl (W := 3) (by first | exact Nat.le_refl _ | decide) (by decide) (by decide) (by decide) (by decide) ?_
          intro v286 T286 L286 X286 hQ286
          obtain ⟨b_286, rfl, N286q, e286, P286_0⟩ := hQ286
          have N286 := Fr.app N285 N286q
          rw [e286] at P286_0
          by_cases hc287 : (0 : Int64) < t2
          · have hk288 : ¬ (t2 = (0 : Int64)) := own_gtne hc287
            show Go pp ee below _ (T286.setTop (mkF mm 136 #[.val (.int pf), .val (.long t1), .second, .val (.long t2), .second, .val (.long ph), .second, .val (.int 1), .val (.int 1), .val (.ref b192), .val (.int 1), .val (.int 1), .val (.int 1), .unset, .unset, .unset, .unset, .unset, .unset, .unset] [(.ref b_286), (.long t2), (.ref b192)]))
            refine Go.virt X286 hx hZ hown (wd27 hw) (wd28 hw) (notFace_of_selects (args := #[]) (mvT hZ (wd30 hw))) (wd30 hw) (wd29 hw) (wd2 hw) (wd31 hw) (by decide) (cwBg l Z a0 hw b192 t2 b_286 ((0 : Int64)) b_193 ((0 : Int64)) li_283 d_283 x0_283 t1 ((1 : Int32)) (kd_283) b_196 h283 OK283 A192 g_b192 P283_0 P283_1 P283_2 P283_3 P283_4 P283_5 P283_6 P283_7 P283_8 P283_9 P283_11 P283_12 P283_13 g_li_283 g_d_283 g_x0_283 ne_b192_li_283 ne_b192_d_283 ne_b192_x0_283 P283_14 P283_15 P283_16 P283_10 hc287) e286 A192 (by rw [hml]; rfl) (hb hby at_136) (argsL := [(.long t2), (.ref b_286)]) (rest := []) (lenOf pd22 rfl) rfl rfl (W := 0) (by first | exact Nat.le_refl _ | decide) (by decide) (by decide) (by decide) (by decide) ?_
            intro v289 T289 L289 X289 hQ289
            obtain ⟨h289, e289⟩ : ∃ z, T289.heap = z := ⟨_, rfl⟩
            rw [e289] at hQ289
            obtain ⟨x1_289, rfl, N289q, K289, fr289_x1, P289_0, P289_1, P289_2, P289_3, P289_4, P289_5, P289_6, P289_7, P289_8, P289_9, P289_10⟩ := hQ289
            have N289 := Fr.app N286 N289q
            have ne_b192_x1_289 : b192 ≠ x1_289 := ne_new A192.lt fr289_x1
            have ne_b_193_x1_289 : b_193 ≠ x1_289 := ne_new P193_0.lt fr289_x1
            have ne_b_196_x1_289 : b_196 ≠ x1_289 := ne_new P196_0.lt fr289_x1
            have ne_li_283_x1_289 : li_283 ≠ x1_289 := ne_new P283_5.lt fr289_x1
            have ne_d_283_x1_289 : d_283 ≠ x1_289 := ne_new P283_9.lt fr289_x1
            have ne_x0_283_x1_289 : x0_283 ≠ x1_289 := ne_new P283_11.lt fr289_x1
            have ne_b_286_x1_289 : b_286 ≠ x1_289 := ne_new P286_0.lt fr289_x1
            have g_x1_289 : Z.heap.size ≤ x1_289 := Nat.le_trans OK283.1 fr289_x1
            replace A192 := A192.keep K289
            replace P193_0 := P193_0.keep K289
            replace P196_0 := P196_0.keep K289
            replace P283_5 := P283_5.keep K289
            replace P283_11 := P283_11.keep K289
            replace P283_12 := P283_12.keep K289 (ninS (Ne.symm ne_b192_x0_283) (ninS (Ne.symm P283_15) (ninS (Ne.symm P283_16) nin0)))
            replace P283_13 := P283_13.keep K289 (ninS (Ne.symm ne_b192_x0_283) (ninS (Ne.symm P283_15) (ninS (Ne.symm P283_16) nin0)))
            replace P286_0 := P286_0.keep K289
            have OK289 := ext_keep OK283 K289 (allS g_b192 (allS g_li_283 (allS g_d_283 all0)))
            refine Go.iload X289 hx (hb hby at_139) rfl (q := 141) rfl ?_
            refine Go.ifNo X289 hx (hb hby at_141) (by decide) (q := 144) rfl ?_
            refine Go.lloadN X289 hx (hb hby at_144) rfl (q := 145) rfl ?_
            refine Go.lconst X289 hx (hb hby at_145) (r := (0 : Int64)) rfl (q := 146) rfl ?_
            refine Go.lcmp X289 hx (hb hby at_146) rfl (q := 147) rfl ?_
            refine Go.ifYes X289 hx (hb hby at_147) (Jvm.Free.XT.ll_ne_t hc243) (q := 156) (by decide) (by decide) ?_
            refine Go.iconst X289 hx (hb hby at_156) (r := (1 : Int32)) rfl (q := 157) rfl ?_
            refine Go.goto X289 hx (hb hby at_157) (q := 161) (by decide) (by decide) ?_
            refine Go.istore X289 hx (hb hby at_161) (l' := #[.val (.int pf), .val (.long t1), .second, .val (.long t2), .second, .val (.long ph), .second, .val (.int 1), .val (.int 1), .val (.ref b192), .val (.int 1), .val (.int 1), .val (.int 1), .val (.int 1), .unset, .unset, .unset, .unset, .unset, .unset]) rfl (q := 163) rfl ?_
            refine Go.aload X289 hx (hb hby at_163) rfl rfl (q := 165) rfl ?_
            refine Go.virt X289 hx hZ hown (wd20 hw) (wd21 hw) (notFace_of_selects (args := #[]) (mvT hZ (wd23 hw))) (wd23 hw) (wd22 hw) (wd2 hw) (wd24 hw) (by decide) (cho1 l Z a0 hw b192 li_283 h289 OK289 P289_1) e289 A192 (by rw [hml]; rfl) (hb hby at_165) (argsL := []) (rest := []) (lenOf pd21 rfl) rfl rfl (W := 0) (by first | exact Nat.le_refl _ | decide) (by decide) (by decide) (by decide) (by decide) ?_
            intro v290 T290 L290 X290 hQ290
            obtain ⟨rfl, N290q, e290⟩ := hQ290
            have N290 := Fr.app N289 N290q
            refine Go.istore X290 hx (hb hby at_168) (l' := #[.val (.int pf), .val (.long t1), .second, .val (.long t2), .second, .val (.long ph), .second, .val (.int 1), .val (.int 1), .val (.ref b192), .val (.int 1), .val (.int 1), .val (.int 1), .val (.int 1), .val (.int 1), .unset, .unset, .unset, .unset, .unset]) rfl (q := 170) rfl ?_
            refine Go.iload X290 hx (hb hby at_170) rfl (q := 172) rfl ?_
            refine Go.ifNo X290 hx (hb hby at_172) (by decide) (q := 175) rfl ?_
            refine Go.iload X290 hx (hb hby at_175) rfl (q := 177) rfl ?_
            refine Go.iload X290 hx (hb hby at_177) rfl (q := 179) rfl ?_
            refine Go.icmpNo X290 hx (hb hby at_179) (by decide) (q := 182) rfl ?_
            refine Go.iload X290 hx (hb hby at_182) rfl (q := 184) rfl ?_
            refine Go.aload X290 hx (hb hby at_184) rfl rfl (q := 186) rfl ?_
            refine Go.virt X290 hx hZ hown (wd36 hw) (wd37 hw) (notFace_of_selects (args := #[]) (mvT hZ (wd39 hw))) (wd39 hw) (wd38 hw) (wd2 hw) (wd40 hw) (by decide) (ccn1 l Z a0 hw b192 li_283 ((2 : Int32)) h289 OK289 P289_1 P283_5 P289_6) e290 A192 (by rw [hml]; rfl) (hb hby at_186) (argsL := []) (rest := [(.int 1)]) (lenOf pd8 rfl) rfl rfl (W := 1) (by first | exact Nat.le_refl _ | decide) (by decide) (by decide) (by decide) (by decide) ?_
            intro v291 T291 L291 X291 hQ291
            obtain ⟨rfl, N291q, e291⟩ := hQ291
            have N291 := Fr.app N290 N291q
            refine Go.iconst X291 hx (hb hby at_189) (r := (1 : Int32)) rfl (q := 190) rfl ?_
            refine Go.icmpNo X291 hx (hb hby at_190) (by decide) (q := 193) rfl ?_
            refine Go.iconst X291 hx (hb hby at_193) (r := (1 : Int32)) rfl (q := 194) rfl ?_
            refine Go.goto X291 hx (hb hby at_194) (q := 198) (by decide) (by decide) ?_
            refine Go.icmpNo X291 hx (hb hby at_198) (by decide) (q := 201) rfl ?_
            refine Go.iconst X291 hx (hb hby at_201) (r := (1 : Int32)) rfl (q := 202) rfl ?_
            refine Go.goto X291 hx (hb hby at_202) (q := 206) (by decide) (by decide) ?_
            refine Go.istore X291 hx (hb hby at_206) (l' := #[.val (.int pf), .val (.long t1), .second, .val (.long t2), .second, .val (.long ph), .second, .val (.int 1), .val (.int 1), .val (.ref b192), .val (.int 1), .val (.int 1), .val (.int 1), .val (.int 1), .val (.int 1), .unset, .unset, .unset, .unset, .unset]) rfl (q := 208) rfl ?_
            refine Go.iload X291 hx (hb hby at_208) rfl (q := 210) rfl ?_
            refine Go.ifNo X291 hx (hb hby at_210) (by decide) (q := 213) rfl ?_
            refine Go.lconst X291 hx (hb hby at_213) (r := (0 : Int64)) rfl (q := 214) rfl ?_
            refine Go.lloadN X291 hx (hb hby at_214) rfl (q := 215) rfl ?_
            refine Go.lloadN X291 hx (hb hby at_215) rfl (q := 216) rfl ?_
            refine Go.callS X291 hx hZ hown (wd125 hw) (wd126 hw) (wd112 hw) (wd127 hw) (by decide) (cmaxJ l Z a0 hw t1 t2 h289 OK289) e291 (by rw [hml]; rfl) (hb hby at_216) (argsL := [(.long t1), (.long t2)]) (rest := [(.long 0)]) (lenOf pd23 rfl) rfl rfl (W := 2) (by first | exact Nat.le_refl _ | decide) (by decide) (by decide) (by decide) (by decide) ?_
            intro v292 T292 L292 X292 hQ292
            obtain ⟨rfl, N292q, e292⟩ := hQ292
            have N292 := Fr.app N291 N292q
            refine Go.callS X292 hx hZ hown (wd125 hw) (wd126 hw) (wd112 hw) (wd127 hw) (by decide) (cmaxJ l Z a0 hw ((0 : Int64)) ((own_max t1 t2)) h289 OK289) e292 (by rw [hml]; rfl) (hb hby at_219) (argsL := [(.long 0), (.long (own_max t1 t2))]) (rest := []) (lenOf pd23 rfl) rfl rfl (W := 0) (by first | exact Nat.le_refl _ | decide) (by decide) (by decide) (by decide) (by decide) ?_
            intro v293 T293 L293 X293 hQ293
            obtain ⟨rfl, N293q, e293⟩ := hQ293
            have N293 := Fr.app N292 N293q
            rw [own_mxLG hc197 hc287]
            show Go pp ee below _ (T293.setTop (mkF mm 222 #[.val (.int pf), .val (.long t1), .second, .val (.long t2), .second, .val (.long ph), .second, .val (.int 1), .val (.int 1), .val (.ref b192), .val (.int 1), .val (.int 1), .val (.int 1), .val (.int 1), .val (.int 1), .unset, .unset, .unset, .unset, .unset] [(.long t2)]))
            refine Go.lstore X293 hx (hb hby at_222) (l' := #[.val (.int pf), .val (.long t1), .second, .val (.long t2), .second, .val (.long ph), .second, .val (.int 1), .val (.int 1), .val (.ref b192), .val (.int 1), .val (.int 1), .val (.int 1), .val (.int 1), .val (.int 1), .val (.long t2), .second, .unset, .unset, .unset]) rfl (q := 224) rfl ?_
            refine Go.iload X293 hx (hb hby at_224) rfl (q := 226) rfl ?_
            refine Go.ifNo X293 hx (hb hby at_226) (by decide) (q := 229) rfl ?_
            refine Go.lload X293 hx (hb hby at_229) rfl (q := 231) rfl ?_
            refine Go.lload X293 hx (hb hby at_231) rfl (q := 233) rfl ?_
            refine Go.lcmp X293 hx (hb hby at_233) rfl (q := 234) rfl ?_
            by_cases hc294 : ph < t2
            · refine Go.ifNo X293 hx (hb hby at_234) (Jvm.Free.XT.ll_le_f hc294) (q := 237) rfl ?_
              refine Go.iconst X293 hx (hb hby at_237) (r := (1 : Int32)) rfl (q := 238) rfl ?_
              refine Go.goto X293 hx (hb hby at_238) (q := 242) (by decide) (by decide) ?_
              refine Go.istore X293 hx (hb hby at_242) (l' := #[.val (.int pf), .val (.long t1), .second, .val (.long t2), .second, .val (.long ph), .second, .val (.int 1), .val (.int 1), .val (.ref b192), .val (.int 1), .val (.int 1), .val (.int 1), .val (.int 1), .val (.int 1), .val (.long t2), .second, .val (.int 1), .unset, .unset]) rfl (q := 244) rfl ?_
              refine Go.aload X293 hx (hb hby at_244) rfl rfl (q := 246) rfl ?_
              refine Go.lload X293 hx (hb hby at_246) rfl (q := 248) rfl ?_
              refine Go.virt X293 hx hZ hown (wd128 hw) (wd129 hw) (notFace_of_selects (args := #[]) (mvT hZ (wd131 hw))) (wd131 hw) (wd130 hw) (wd2 hw) (wd132 hw) (by decide) (cfg2 l Z a0 hw b192 ph t2 li_283 d_283 x0_283 x1_289 t1 ((0 : Int64)) ((2 : Int32)) (kd_283) h289 OK289 A192 P289_1 P289_2 P283_5 P289_5 P289_6 P289_7 P289_8 P283_11 P283_12 P289_9 P289_10 g_li_283 g_d_283 ne_b192_li_283 ne_b192_d_283 P283_14 P283_10 hc294) e293 A192 (by rw [hml]; rfl) (hb hby at_248) (argsL := [(.long ph)]) (rest := []) (lenOf pd24 rfl) rfl rfl (W := 0) (by first | exact Nat.le_refl _ | decide) (by decide) (by decide) (by decide) (by decide) ?_
              intro v295 T295 L295 X295 hQ295
              obtain ⟨h295, e295⟩ : ∃ z, T295.heap = z := ⟨_, rfl⟩
              rw [e295] at hQ295
              obtain ⟨s_295, rfl, N295q, K295, P295_0, P295_1⟩ := hQ295
              have N295 := Fr.app N293 N295q
              replace A192 := A192.keep K295
              replace P193_0 := P193_0.keep K295
              replace P196_0 := P196_0.keep K295
              replace P283_5 := P283_5.keep K295
              replace P283_11 := P283_11.keep K295
              replace P283_12 := P283_12.keep K295 (ninS (Ne.symm P283_15) (ninS (Ne.symm P283_16) nin0))
              replace P283_13 := P283_13.keep K295 (ninS (Ne.symm P283_15) (ninS (Ne.symm P283_16) nin0))
              replace P286_0 := P286_0.keep K295
              replace P289_0 := P289_0.keep K295 (ninS ne_b192_li_283 (ninS ne_b192_d_283 nin0))
              replace P289_1 := P289_1.keep K295 (ninS ne_b192_li_283 (ninS ne_b192_d_283 nin0))
              replace P289_2 := P289_2.keep K295 (ninS ne_b192_li_283 (ninS ne_b192_d_283 nin0))
              replace P289_3 := P289_3.keep K295 (ninS ne_b192_li_283 (ninS ne_b192_d_283 nin0))
              replace P289_4 := P289_4.keep K295 (ninS ne_b192_li_283 (ninS ne_b192_d_283 nin0))
              replace P289_9 := P289_9.keep K295
              replace P289_10 := P289_10.keep K295 (ninS (Ne.symm ne_li_283_x1_289) (ninS (Ne.symm ne_d_283_x1_289) nin0))
              have OK295 := ext_keep OK289 K295 (allS g_li_283 (allS g_d_283 all0))
              refine Go.istore X295 hx (hb hby at_251) (l' := #[.val (.int pf), .val (.long t1), .second, .val (.long t2), .second, .val (.long ph), .second, .val (.int 1), .val (.int 1), .val (.ref b192), .val (.int 1), .val (.int 1), .val (.int 1), .val (.int 1), .val (.int 1), .val (.long t2), .second, .val (.int 1), .val (.int 1), .unset]) rfl (q := 253) rfl ?_
              refine Go.aload X295 hx (hb hby at_253) rfl rfl (q := 255) rfl ?_
              refine Go.virt X295 hx hZ hown (wd20 hw) (wd21 hw) (notFace_of_selects (args := #[]) (mvT hZ (wd23 hw))) (wd23 hw) (wd22 hw) (wd2 hw) (wd24 hw) (by decide) (cho1 l Z a0 hw b192 li_283 h295 OK295 P289_1) e295 A192 (by rw [hml]; rfl) (hb hby at_255) (argsL := []) (rest := []) (lenOf pd21 rfl) rfl rfl (W := 0) (by first | exact Nat.le_refl _ | decide) (by decide) (by decide) (by decide) (by decide) ?_
              intro v296 T296 L296 X296 hQ296
              obtain ⟨rfl, N296q, e296⟩ := hQ296
              have N296 := Fr.app N295 N296q
              refine Go.istore X296 hx (hb hby at_258) (l' := #[.val (.int pf), .val (.long t1), .second, .val (.long t2), .second, .val (.long ph), .second, .val (.int 1), .val (.int 1), .val (.ref b192), .val (.int 1), .val (.int 1), .val (.int 1), .val (.int 1), .val (.int 1), .val (.long t2), .second, .val (.int 1), .val (.int 1), .val (.int 1)]) rfl (q := 260) rfl ?_
              refine Go.iload X296 hx (hb hby at_260) rfl (q := 262) rfl ?_
              refine Go.ifNo X296 hx (hb hby at_262) (by decide) (q := 265) rfl ?_
              refine Go.iload X296 hx (hb hby at_265) rfl (q := 267) rfl ?_
              refine Go.iload X296 hx (hb hby at_267) rfl (q := 269) rfl ?_
              refine Go.icmpNo X296 hx (hb hby at_269) (by decide) (q := 272) rfl ?_
              refine Go.iload X296 hx (hb hby at_272) rfl (q := 274) rfl ?_
              refine Go.iload X296 hx (hb hby at_274) rfl (q := 276) rfl ?_
              refine Go.icmpNo X296 hx (hb hby at_276) (by decide) (q := 279) rfl ?_
              refine Go.iload X296 hx (hb hby at_279) rfl (q := 281) rfl ?_
              refine Go.aload X296 hx (hb hby at_281) rfl rfl (q := 283) rfl ?_
              refine Go.virt X296 hx hZ hown (wd36 hw) (wd37 hw) (notFace_of_selects (args := #[]) (mvT hZ (wd39 hw))) (wd39 hw) (wd38 hw) (wd2 hw) (wd40 hw) (by decide) (ccn1 l Z a0 hw b192 li_283 s_295 h295 OK295 P289_1 P283_5 P295_0) e296 A192 (by rw [hml]; rfl) (hb hby at_283) (argsL := []) (rest := [(.int 1)]) (lenOf pd8 rfl) rfl rfl (W := 1) (by first | exact Nat.le_refl _ | decide) (by decide) (by decide) (by decide) (by decide) ?_
              intro v297 T297 L297 X297 hQ297
              obtain ⟨rfl, N297q, e297⟩ := hQ297
              have N297 := Fr.app N296 N297q
              rcases P295_1 with rfl | rfl
              · show Go pp ee below _ (T297.setTop (mkF mm 286 #[.val (.int pf), .val (.long t1), .second, .val (.long t2), .second, .val (.long ph), .second, .val (.int 1), .val (.int 1), .val (.ref b192), .val (.int 1), .val (.int 1), .val (.int 1), .val (.int 1), .val (.int 1), .val (.long t2), .second, .val (.int 1), .val (.int 1), .val (.int 1)] [(.int 2), (.int 1)]))
                refine Go.iconst X297 hx (hb hby at_286) (r := (1 : Int32)) rfl (q := 287) rfl ?_
                refine Go.icmpNo X297 hx (hb hby at_287) (by decide) (q := 290) rfl ?_
                refine Go.iconst X297 hx (hb hby at_290) (r := (1 : Int32)) rfl (q := 291) rfl ?_
                refine Go.goto X297 hx (hb hby at_291) (q := 295) (by decide) (by decide) ?_
                refine Go.icmpNo X297 hx (hb hby at_295) (by decide) (q := 298) rfl ?_
                refine Go.iconst X297 hx (hb hby at_298) (r := (1 : Int32)) rfl (q := 299) rfl ?_
                refine Go.goto X297 hx (hb hby at_299) (q := 303) (by decide) (by decide) ?_
                refine Go.istore X297 hx (hb hby at_303) (l' := #[.val (.int pf), .val (.long t1), .second, .val (.long t2), .second, .val (.long ph), .second, .val (.int 1), .val (.int 1), .val (.ref b192), .val (.int 1), .val (.int 1), .val (.int 1), .val (.int 1), .val (.int 1), .val (.long t2), .second, .val (.int 1), .val (.int 1), .val (.int 1)]) rfl (q := 305) rfl ?_
                refine Go.iload X297 hx (hb hby at_305) rfl (q := 307) rfl ?_
                exact Go.retI X297 hx hret hlk (by simp) rfl (hb hby at_307) e297 (by decide) (by decide) ⟨rfl, N297⟩
              · show Go pp ee below _ (T297.setTop (mkF mm 286 #[.val (.int pf), .val (.long t1), .second, .val (.long t2), .second, .val (.long ph), .second, .val (.int 1), .val (.int 1), .val (.ref b192), .val (.int 1), .val (.int 1), .val (.int 1), .val (.int 1), .val (.int 1), .val (.long t2), .second, .val (.int 1), .val (.int 1), .val (.int 1)] [(.int 3), (.int 1)]))
                refine Go.iconst X297 hx (hb hby at_286) (r := (1 : Int32)) rfl (q := 287) rfl ?_
                refine Go.icmpNo X297 hx (hb hby at_287) (by decide) (q := 290) rfl ?_
                refine Go.iconst X297 hx (hb hby at_290) (r := (1 : Int32)) rfl (q := 291) rfl ?_
                refine Go.goto X297 hx (hb hby at_291) (q := 295) (by decide) (by decide) ?_
                refine Go.icmpNo X297 hx (hb hby at_295) (by decide) (q := 298) rfl ?_
                refine Go.iconst X297 hx (hb hby at_298) (r := (1 : Int32)) rfl (q := 299) rfl ?_
                refine Go.goto X297 hx (hb hby at_299) (q := 303) (by decide) (by decide) ?_
                refine Go.istore X297 hx (hb hby at_303) (l' := #[.val (.int pf), .val (.long t1), .second, .val (.long t2), .second, .val (.long ph), .second, .val (.int 1), .val (.int 1), .val (.ref b192), .val (.int 1), .val (.int 1), .val (.int 1), .val (.int 1), .val (.int 1), .val (.long t2), .second, .val (.int 1), .val (.int 1), .val (.int 1)]) rfl (q := 305) rfl ?_
                refine Go.iload X297 hx (hb hby at_305) rfl (q := 307) rfl ?_
                exact Go.retI X297 hx hret hlk (by simp) rfl (hb hby at_307) e297 (by decide) (by decide) ⟨rfl, N297⟩
            · refine Go.ifYes X293 hx (hb hby at_234) (Jvm.Free.XT.ll_le_t hc294) (q := 241) (by decide) (by decide) ?_
              refine Go.iconst X293 hx (hb hby at_241) (r := (0 : Int32)) rfl (q := 242) rfl ?_
              refine Go.istore X293 hx (hb hby at_242) (l' := #[.val (.int pf), .val (.long t1), .second, .val (.long t2), .second, .val (.long ph), .second, .val (.int 1), .val (.int 1), .val (.ref b192), .val (.int 1), .val (.int 1), .val (.int 1), .val (.int 1), .val (.int 1), .val (.long t2), .second, .val (.int 0), .unset, .unset]) rfl (q := 244) rfl ?_
              refine Go.aload X293 hx (hb hby at_244) rfl rfl (q := 246) rfl ?_
              refine Go.lload X293 hx (hb hby at_246) rfl (q := 248) rfl ?_
              refine Go.virt X293 hx hZ hown (wd128 hw) (wd129 hw) (notFace_of_selects (args := #[]) (mvT hZ (wd131 hw))) (wd131 hw) (wd130 hw) (wd2 hw) (wd132 hw) (by decide) (cfgl l Z a0 hw b192 ph li_283 t2 b_286 ((0 : Int64)) h289 OK289 A192 g_b192 P289_0 P289_1 P289_2 P289_3 P289_4 hc294) e293 A192 (by rw [hml]; rfl) (hb hby at_248) (argsL := [(.long ph)]) (rest := []) (lenOf pd24 rfl) rfl rfl (W := 0) (by first | exact Nat.le_refl _ | decide) (by decide) (by decide) (by decide) (by decide) ?_
              intro v298 T298 L298 X298 hQ298
              obtain ⟨h298, e298⟩ : ∃ z, T298.heap = z := ⟨_, rfl⟩
              rw [e298] at hQ298
              obtain ⟨rfl, N298q, K298, P298_0, P298_1, P298_2, P298_3, P298_4⟩ := hQ298
              have N298 := Fr.app N293 N298q
              replace A192 := A192.keep K298
              replace P193_0 := P193_0.keep K298
              replace P196_0 := P196_0.keep K298
              replace P283_5 := P283_5.keep K298
              replace P283_11 := P283_11.keep K298
              replace P283_12 := P283_12.keep K298 (ninS (Ne.symm ne_b192_x0_283) nin0)
              replace P283_13 := P283_13.keep K298 (ninS (Ne.symm ne_b192_x0_283) nin0)
              replace P286_0 := P286_0.keep K298
              replace P289_5 := P289_5.keep K298 (ninS (Ne.symm ne_b192_li_283) nin0)
              replace P289_6 := P289_6.keep K298 (ninS (Ne.symm ne_b192_li_283) nin0)
              replace P289_7 := P289_7.keep K298 (ninS (Ne.symm ne_b192_li_283) nin0)
              replace P289_8 := P289_8.keep K298 (ninS (Ne.symm ne_b192_d_283) nin0)
              replace P289_9 := P289_9.keep K298
              replace P289_10 := P289_10.keep K298 (ninS (Ne.symm ne_b192_x1_289) nin0)
              have OK298 := ext_keep OK289 K298 (allS g_b192 all0)
              refine Go.istore X298 hx (hb hby at_251) (l' := #[.val (.int pf), .val (.long t1), .second, .val (.long t2), .second, .val (.long ph), .second, .val (.int 1), .val (.int 1), .val (.ref b192), .val (.int 1), .val (.int 1), .val (.int 1), .val (.int 1), .val (.int 1), .val (.long t2), .second, .val (.int 0), .val (.int 0), .unset]) rfl (q := 253) rfl ?_
              refine Go.aload X298 hx (hb hby at_253) rfl rfl (q := 255) rfl ?_
              refine Go.virt X298 hx hZ hown (wd20 hw) (wd21 hw) (notFace_of_selects (args := #[]) (mvT hZ (wd23 hw))) (wd23 hw) (wd22 hw) (wd2 hw) (wd24 hw) (by decide) (cho0 l Z a0 hw b192 h298 OK298 P298_1) e298 A192 (by rw [hml]; rfl) (hb hby at_255) (argsL := []) (rest := []) (lenOf pd21 rfl) rfl rfl (W := 0) (by first | exact Nat.le_refl _ | decide) (by decide) (by decide) (by decide) (by decide) ?_
              intro v299 T299 L299 X299 hQ299
              obtain ⟨rfl, N299q, e299⟩ := hQ299
              have N299 := Fr.app N298 N299q
              refine Go.istore X299 hx (hb hby at_258) (l' := #[.val (.int pf), .val (.long t1), .second, .val (.long t2), .second, .val (.long ph), .second, .val (.int 1), .val (.int 1), .val (.ref b192), .val (.int 1), .val (.int 1), .val (.int 1), .val (.int 1), .val (.int 1), .val (.long t2), .second, .val (.int 0), .val (.int 0), .val (.int 0)]) rfl (q := 260) rfl ?_
              refine Go.iload X299 hx (hb hby at_260) rfl (q := 262) rfl ?_
              refine Go.ifNo X299 hx (hb hby at_262) (by decide) (q := 265) rfl ?_
              refine Go.iload X299 hx (hb hby at_265) rfl (q := 267) rfl ?_
              refine Go.iload X299 hx (hb hby at_267) rfl (q := 269) rfl ?_
              refine Go.icmpNo X299 hx (hb hby at_269) (by decide) (q := 272) rfl ?_
              refine Go.iload X299 hx (hb hby at_272) rfl (q := 274) rfl ?_
              refine Go.iload X299 hx (hb hby at_274) rfl (q := 276) rfl ?_
              refine Go.icmpNo X299 hx (hb hby at_276) (by decide) (q := 279) rfl ?_
              refine Go.iload X299 hx (hb hby at_279) rfl (q := 281) rfl ?_
              refine Go.aload X299 hx (hb hby at_281) rfl rfl (q := 283) rfl ?_
              refine Go.virt X299 hx hZ hown (wd36 hw) (wd37 hw) (notFace_of_selects (args := #[]) (mvT hZ (wd39 hw))) (wd39 hw) (wd38 hw) (wd2 hw) (wd40 hw) (by decide) (ccn0 l Z a0 hw b192 h298 OK298 P298_1) e299 A192 (by rw [hml]; rfl) (hb hby at_283) (argsL := []) (rest := [(.int 0)]) (lenOf pd8 rfl) rfl rfl (W := 1) (by first | exact Nat.le_refl _ | decide) (by decide) (by decide) (by decide) (by decide) ?_
              intro v300 T300 L300 X300 hQ300
              obtain ⟨rfl, N300q, e300⟩ := hQ300
              have N300 := Fr.app N299 N300q
              refine Go.iconst X300 hx (hb hby at_286) (r := (1 : Int32)) rfl (q := 287) rfl ?_
              refine Go.icmpYes X300 hx (hb hby at_287) (by decide) (q := 294) (by decide) (by decide) ?_
              refine Go.iconst X300 hx (hb hby at_294) (r := (0 : Int32)) rfl (q := 295) rfl ?_
              refine Go.icmpNo X300 hx (hb hby at_295) (by decide) (q := 298) rfl ?_
              refine Go.iconst X300 hx (hb hby at_298) (r := (1 : Int32)) rfl (q := 299) rfl ?_
              refine Go.goto X300 hx (hb hby at_299) (q := 303) (by decide) (by decide) ?_
              refine Go.istore X300 hx (hb hby at_303) (l' := #[.val (.int pf), .val (.long t1), .second, .val (.long t2), .second, .val (.long ph), .second, .val (.int 1), .val (.int 1), .val (.ref b192), .val (.int 1), .val (.int 1), .val (.int 1), .val (.int 1), .val (.int 1), .val (.long t2), .second, .val (.int 0), .val (.int 0), .val (.int 0)]) rfl (q := 305) rfl ?_
              refine Go.iload X300 hx (hb hby at_305) rfl (q := 307) rfl ?_
              exact Go.retI X300 hx hret hlk (by simp) rfl (hb hby at_307) e300 (by decide) (by decide) ⟨rfl, N300⟩
          · by_cases ho301 : t2 = (0 : Int64) ∨ t1 = t2
            · show Go pp ee below _ (T286.setTop (mkF mm 136 #[.val (.int pf), .val (.long t1), .second, .val (.long t2), .second, .val (.long ph), .second, .val (.int 1), .val (.int 1), .val (.ref b192), .val (.int 1), .val (.int 1), .val (.int 1), .unset, .unset, .unset, .unset, .unset, .unset, .unset] [(.ref b_286), (.long t2), (.ref b192)]))
              refine Go.virt X286 hx hZ hown (wd27 hw) (wd28 hw) (notFace_of_selects (args := #[]) (mvT hZ (wd30 hw))) (wd30 hw) (wd29 hw) (wd2 hw) (wd31 hw) (by decide) (cwBs l Z a0 hw b192 t2 b_286 ((0 : Int64)) b_193 ((0 : Int64)) li_283 d_283 x0_283 t1 ((1 : Int32)) (kd_283) b_196 h283 OK283 A192 g_b192 P283_0 P283_1 P283_2 P283_3 P283_4 P283_5 P283_6 P283_7 P283_8 P283_9 P283_11 P283_12 P283_13 g_li_283 g_d_283 g_x0_283 ne_b192_li_283 ne_b192_d_283 ne_b192_x0_283 P283_14 P283_15 P283_16 P283_10 hc287 ho301) e286 A192 (by rw [hml]; rfl) (hb hby at_136) (argsL := [(.long t2), (.ref b_286)]) (rest := []) (lenOf pd22 rfl) rfl rfl (W := 0) (by first | exact Nat.le_refl _ | decide) (by decide) (by decide) (by decide) (by decide) ?_
              intro v302 T302 L302 X302 hQ302
              obtain ⟨h302, e302⟩ : ∃ z, T302.heap = z := ⟨_, rfl⟩
              rw [e302] at hQ302
              obtain ⟨v3_302, xv2_302, rfl, N302q, K302, P302_0, P302_1, P302_2, P302_3, P302_4, P302_5, P302_6⟩ := hQ302
              have N302 := Fr.app N286 N302q
              replace A192 := A192.keep K302
              replace P193_0 := P193_0.keep K302
              replace P196_0 := P196_0.keep K302
              replace P283_5 := P283_5.keep K302
              replace P283_6 := P283_6.keep K302 (ninS (Ne.symm ne_b192_li_283) (ninS P283_15 nin0))
              replace P283_7 := P283_7.keep K302 (ninS (Ne.symm ne_b192_li_283) (ninS P283_15 nin0))
              replace P283_8 := P283_8.keep K302 (ninS (Ne.symm ne_b192_li_283) (ninS P283_15 nin0))
              replace P283_9 := P283_9.keep K302 (ninS (Ne.symm ne_b192_d_283) (ninS P283_16 nin0))
              replace P283_11 := P283_11.keep K302
              replace P286_0 := P286_0.keep K302
              have OK302 := ext_keep OK283 K302 (allS g_b192 (allS g_x0_283 all0))
              refine Go.iload X302 hx (hb hby at_139) rfl (q := 141) rfl ?_
              refine Go.ifNo X302 hx (hb hby at_141) (by decide) (q := 144) rfl ?_
              refine Go.lloadN X302 hx (hb hby at_144) rfl (q := 145) rfl ?_
              refine Go.lconst X302 hx (hb hby at_145) (r := (0 : Int64)) rfl (q := 146) rfl ?_
              refine Go.lcmp X302 hx (hb hby at_146) rfl (q := 147) rfl ?_
              refine Go.ifYes X302 hx (hb hby at_147) (Jvm.Free.XT.ll_ne_t hc243) (q := 156) (by decide) (by decide) ?_
              refine Go.iconst X302 hx (hb hby at_156) (r := (1 : Int32)) rfl (q := 157) rfl ?_
              refine Go.goto X302 hx (hb hby at_157) (q := 161) (by decide) (by decide) ?_
              refine Go.istore X302 hx (hb hby at_161) (l' := #[.val (.int pf), .val (.long t1), .second, .val (.long t2), .second, .val (.long ph), .second, .val (.int 1), .val (.int 1), .val (.ref b192), .val (.int 1), .val (.int 1), .val (.int 1), .val (.int 1), .unset, .unset, .unset, .unset, .unset, .unset]) rfl (q := 163) rfl ?_
              refine Go.aload X302 hx (hb hby at_163) rfl rfl (q := 165) rfl ?_
              refine Go.virt X302 hx hZ hown (wd20 hw) (wd21 hw) (notFace_of_selects (args := #[]) (mvT hZ (wd23 hw))) (wd23 hw) (wd22 hw) (wd2 hw) (wd24 hw) (by decide) (cho1 l Z a0 hw b192 li_283 h302 OK302 P302_1) e302 A192 (by rw [hml]; rfl) (hb hby at_165) (argsL := []) (rest := []) (lenOf pd21 rfl) rfl rfl (W := 0) (by first | exact Nat.le_refl _ | decide) (by decide) (by decide) (by decide) (by decide) ?_
              intro v303 T303 L303 X303 hQ303
              obtain ⟨rfl, N303q, e303⟩ := hQ303
              have N303 := Fr.app N302 N303q
              refine Go.istore X303 hx (hb hby at_168) (l' := #[.val (.int pf), .val (.long t1), .second, .val (.long t2), .second, .val (.long ph), .second, .val (.int 1), .val (.int 1), .val (.ref b192), .val (.int 1), .val (.int 1), .val (.int 1), .val (.int 1), .val (.int 1), .unset, .unset, .unset, .unset, .unset]) rfl (q := 170) rfl ?_
              refine Go.iload X303 hx (hb hby at_170) rfl (q := 172) rfl ?_
              refine Go.ifNo X303 hx (hb hby at_172) (by decide) (q := 175) rfl ?_
              refine Go.iload X303 hx (hb hby at_175) rfl (q := 177) rfl ?_
              refine Go.iload X303 hx (hb hby at_177) rfl (q := 179) rfl ?_
              refine Go.icmpNo X303 hx (hb hby at_179) (by decide) (q := 182) rfl ?_
              refine Go.iload X303 hx (hb hby at_182) rfl (q := 184) rfl ?_
              refine Go.aload X303 hx (hb hby at_184) rfl rfl (q := 186) rfl ?_
              refine Go.virt X303 hx hZ hown (wd36 hw) (wd37 hw) (notFace_of_selects (args := #[]) (mvT hZ (wd39 hw))) (wd39 hw) (wd38 hw) (wd2 hw) (wd40 hw) (by decide) (ccn1 l Z a0 hw b192 li_283 ((1 : Int32)) h302 OK302 P302_1 P283_5 P283_7) e303 A192 (by rw [hml]; rfl) (hb hby at_186) (argsL := []) (rest := [(.int 1)]) (lenOf pd8 rfl) rfl rfl (W := 1) (by first | exact Nat.le_refl _ | decide) (by decide) (by decide) (by decide) (by decide) ?_
              intro v304 T304 L304 X304 hQ304
              obtain ⟨rfl, N304q, e304⟩ := hQ304
              have N304 := Fr.app N303 N304q
              refine Go.iconst X304 hx (hb hby at_189) (r := (1 : Int32)) rfl (q := 190) rfl ?_
              refine Go.icmpNo X304 hx (hb hby at_190) (by decide) (q := 193) rfl ?_
              refine Go.iconst X304 hx (hb hby at_193) (r := (1 : Int32)) rfl (q := 194) rfl ?_
              refine Go.goto X304 hx (hb hby at_194) (q := 198) (by decide) (by decide) ?_
              refine Go.icmpNo X304 hx (hb hby at_198) (by decide) (q := 201) rfl ?_
              refine Go.iconst X304 hx (hb hby at_201) (r := (1 : Int32)) rfl (q := 202) rfl ?_
              refine Go.goto X304 hx (hb hby at_202) (q := 206) (by decide) (by decide) ?_
              refine Go.istore X304 hx (hb hby at_206) (l' := #[.val (.int pf), .val (.long t1), .second, .val (.long t2), .second, .val (.long ph), .second, .val (.int 1), .val (.int 1), .val (.ref b192), .val (.int 1), .val (.int 1), .val (.int 1), .val (.int 1), .val (.int 1), .unset, .unset, .unset, .unset, .unset]) rfl (q := 208) rfl ?_
              refine Go.iload X304 hx (hb hby at_208) rfl (q := 210) rfl ?_
              refine Go.ifNo X304 hx (hb hby at_210) (by decide) (q := 213) rfl ?_
              refine Go.lconst X304 hx (hb hby at_213) (r := (0 : Int64)) rfl (q := 214) rfl ?_
              refine Go.lloadN X304 hx (hb hby at_214) rfl (q := 215) rfl ?_
              refine Go.lloadN X304 hx (hb hby at_215) rfl (q := 216) rfl ?_
              refine Go.callS X304 hx hZ hown (wd125 hw) (wd126 hw) (wd112 hw) (wd127 hw) (by decide) (cmaxJ l Z a0 hw t1 t2 h302 OK302) e304 (by rw [hml]; rfl) (hb hby at_216) (argsL := [(.long t1), (.long t2)]) (rest := [(.long 0)]) (lenOf pd23 rfl) rfl rfl (W := 2) (by first | exact Nat.le_refl _ | decide) (by decide) (by decide) (by decide) (by decide) ?_
              intro v305 T305 L305 X305 hQ305
              obtain ⟨rfl, N305q, e305⟩ := hQ305
              have N305 := Fr.app N304 N305q
              refine Go.callS X305 hx hZ hown (wd125 hw) (wd126 hw) (wd112 hw) (wd127 hw) (by decide) (cmaxJ l Z a0 hw ((0 : Int64)) ((own_max t1 t2)) h302 OK302) e305 (by rw [hml]; rfl) (hb hby at_219) (argsL := [(.long 0), (.long (own_max t1 t2))]) (rest := []) (lenOf pd23 rfl) rfl rfl (W := 0) (by first | exact Nat.le_refl _ | decide) (by decide) (by decide) (by decide) (by decide) ?_
              intro v306 T306 L306 X306 hQ306
              obtain ⟨rfl, N306q, e306⟩ := hQ306
              have N306 := Fr.app N305 N306q
              rw [own_mxLN hc197 hc287]
              show Go pp ee below _ (T306.setTop (mkF mm 222 #[.val (.int pf), .val (.long t1), .second, .val (.long t2), .second, .val (.long ph), .second, .val (.int 1), .val (.int 1), .val (.ref b192), .val (.int 1), .val (.int 1), .val (.int 1), .val (.int 1), .val (.int 1), .unset, .unset, .unset, .unset, .unset] [(.long 0)]))
              refine Go.lstore X306 hx (hb hby at_222) (l' := #[.val (.int pf), .val (.long t1), .second, .val (.long t2), .second, .val (.long ph), .second, .val (.int 1), .val (.int 1), .val (.ref b192), .val (.int 1), .val (.int 1), .val (.int 1), .val (.int 1), .val (.int 1), .val (.long 0), .second, .unset, .unset, .unset]) rfl (q := 224) rfl ?_
              refine Go.iload X306 hx (hb hby at_224) rfl (q := 226) rfl ?_
              refine Go.ifNo X306 hx (hb hby at_226) (by decide) (q := 229) rfl ?_
              refine Go.lload X306 hx (hb hby at_229) rfl (q := 231) rfl ?_
              refine Go.lload X306 hx (hb hby at_231) rfl (q := 233) rfl ?_
              refine Go.lcmp X306 hx (hb hby at_233) rfl (q := 234) rfl ?_
              by_cases hc307 : ph < (0 : Int64)
              · refine Go.ifNo X306 hx (hb hby at_234) (Jvm.Free.XT.ll_le_f hc307) (q := 237) rfl ?_
                refine Go.iconst X306 hx (hb hby at_237) (r := (1 : Int32)) rfl (q := 238) rfl ?_
                refine Go.goto X306 hx (hb hby at_238) (q := 242) (by decide) (by decide) ?_
                refine Go.istore X306 hx (hb hby at_242) (l' := #[.val (.int pf), .val (.long t1), .second, .val (.long t2), .second, .val (.long ph), .second, .val (.int 1), .val (.int 1), .val (.ref b192), .val (.int 1), .val (.int 1), .val (.int 1), .val (.int 1), .val (.int 1), .val (.long 0), .second, .val (.int 1), .unset, .unset]) rfl (q := 244) rfl ?_
                refine Go.aload X306 hx (hb hby at_244) rfl rfl (q := 246) rfl ?_
                refine Go.lload X306 hx (hb hby at_246) rfl (q := 248) rfl ?_
                refine Go.virt X306 hx hZ hown (wd128 hw) (wd129 hw) (notFace_of_selects (args := #[]) (mvT hZ (wd131 hw))) (wd131 hw) (wd130 hw) (wd2 hw) (wd132 hw) (by decide) (cfg1 l Z a0 hw b192 ph ((0 : Int64)) li_283 d_283 x0_283 t1 ((1 : Int32)) (kd_283) h302 OK302 A192 P302_1 P302_2 P283_5 P283_6 P283_7 P283_8 P283_9 P283_11 P302_5 hc307) e306 A192 (by rw [hml]; rfl) (hb hby at_248) (argsL := [(.long ph)]) (rest := []) (lenOf pd24 rfl) rfl rfl (W := 0) (by first | exact Nat.le_refl _ | decide) (by decide) (by decide) (by decide) (by decide) ?_
                intro v308 T308 L308 X308 hQ308
                obtain ⟨rfl, N308q, e308⟩ := hQ308
                have N308 := Fr.app N306 N308q
                refine Go.istore X308 hx (hb hby at_251) (l' := #[.val (.int pf), .val (.long t1), .second, .val (.long t2), .second, .val (.long ph), .second, .val (.int 1), .val (.int 1), .val (.ref b192), .val (.int 1), .val (.int 1), .val (.int 1), .val (.int 1), .val (.int 1), .val (.long 0), .second, .val (.int 1), .val (.int 1), .unset]) rfl (q := 253) rfl ?_
                refine Go.aload X308 hx (hb hby at_253) rfl rfl (q := 255) rfl ?_
                refine Go.virt X308 hx hZ hown (wd20 hw) (wd21 hw) (notFace_of_selects (args := #[]) (mvT hZ (wd23 hw))) (wd23 hw) (wd22 hw) (wd2 hw) (wd24 hw) (by decide) (cho1 l Z a0 hw b192 li_283 h302 OK302 P302_1) e308 A192 (by rw [hml]; rfl) (hb hby at_255) (argsL := []) (rest := []) (lenOf pd21 rfl) rfl rfl (W := 0) (by first | exact Nat.le_refl _ | decide) (by decide) (by decide) (by decide) (by decide) ?_
                intro v309 T309 L309 X309 hQ309
                obtain ⟨rfl, N309q, e309⟩ := hQ309
                have N309 := Fr.app N308 N309q
                refine Go.istore X309 hx (hb hby at_258) (l' := #[.val (.int pf), .val (.long t1), .second, .val (.long t2), .second, .val (.long ph), .second, .val (.int 1), .val (.int 1), .val (.ref b192), .val (.int 1), .val (.int 1), .val (.int 1), .val (.int 1), .val (.int 1), .val (.long 0), .second, .val (.int 1), .val (.int 1), .val (.int 1)]) rfl (q := 260) rfl ?_
                refine Go.iload X309 hx (hb hby at_260) rfl (q := 262) rfl ?_
                refine Go.ifNo X309 hx (hb hby at_262) (by decide) (q := 265) rfl ?_
                refine Go.iload X309 hx (hb hby at_265) rfl (q := 267) rfl ?_
                refine Go.iload X309 hx (hb hby at_267) rfl (q := 269) rfl ?_
                refine Go.icmpNo X309 hx (hb hby at_269) (by decide) (q := 272) rfl ?_
                refine Go.iload X309 hx (hb hby at_272) rfl (q := 274) rfl ?_
                refine Go.iload X309 hx (hb hby at_274) rfl (q := 276) rfl ?_
                refine Go.icmpNo X309 hx (hb hby at_276) (by decide) (q := 279) rfl ?_
                refine Go.iload X309 hx (hb hby at_279) rfl (q := 281) rfl ?_
                refine Go.aload X309 hx (hb hby at_281) rfl rfl (q := 283) rfl ?_
                refine Go.virt X309 hx hZ hown (wd36 hw) (wd37 hw) (notFace_of_selects (args := #[]) (mvT hZ (wd39 hw))) (wd39 hw) (wd38 hw) (wd2 hw) (wd40 hw) (by decide) (ccn1 l Z a0 hw b192 li_283 ((1 : Int32)) h302 OK302 P302_1 P283_5 P283_7) e309 A192 (by rw [hml]; rfl) (hb hby at_283) (argsL := []) (rest := [(.int 1)]) (lenOf pd8 rfl) rfl rfl (W := 1) (by first | exact Nat.le_refl _ | decide) (by decide) (by decide) (by decide) (by decide) ?_
                intro v310 T310 L310 X310 hQ310
                obtain ⟨rfl, N310q, e310⟩ := hQ310
                have N310 := Fr.app N309 N310q
                refine Go.iconst X310 hx (hb hby at_286) (r := (1 : Int32)) rfl (q := 287) rfl ?_
                refine Go.icmpNo X310 hx (hb hby at_287) (by decide) (q := 290) rfl ?_
                refine Go.iconst X310 hx (hb hby at_290) (r := (1 : Int32)) rfl (q := 291) rfl ?_
                refine Go.goto X310 hx (hb hby at_291) (q := 295) (by decide) (by decide) ?_
                refine Go.icmpNo X310 hx (hb hby at_295) (by decide) (q := 298) rfl ?_
                refine Go.iconst X310 hx (hb hby at_298) (r := (1 : Int32)) rfl (q := 299) rfl ?_
                refine Go.goto X310 hx (hb hby at_299) (q := 303) (by decide) (by decide) ?_
                refine Go.istore X310 hx (hb hby at_303) (l' := #[.val (.int pf), .val (.long t1), .second, .val (.long t2), .second, .val (.long ph), .second, .val (.int 1), .val (.int 1), .val (.ref b192), .val (.int 1), .val (.int 1), .val (.int 1), .val (.int 1), .val (.int 1), .val (.long 0), .second, .val (.int 1), .val (.int 1), .val (.int 1)]) rfl (q := 305) rfl ?_
                refine Go.iload X310 hx (hb hby at_305) rfl (q := 307) rfl ?_
                exact Go.retI X310 hx hret hlk (by simp) rfl (hb hby at_307) e310 (by decide) (by decide) ⟨rfl, N310⟩
              · refine Go.ifYes X306 hx (hb hby at_234) (Jvm.Free.XT.ll_le_t hc307) (q := 241) (by decide) (by decide) ?_
                refine Go.iconst X306 hx (hb hby at_241) (r := (0 : Int32)) rfl (q := 242) rfl ?_
                refine Go.istore X306 hx (hb hby at_242) (l' := #[.val (.int pf), .val (.long t1), .second, .val (.long t2), .second, .val (.long ph), .second, .val (.int 1), .val (.int 1), .val (.ref b192), .val (.int 1), .val (.int 1), .val (.int 1), .val (.int 1), .val (.int 1), .val (.long 0), .second, .val (.int 0), .unset, .unset]) rfl (q := 244) rfl ?_
                refine Go.aload X306 hx (hb hby at_244) rfl rfl (q := 246) rfl ?_
                refine Go.lload X306 hx (hb hby at_246) rfl (q := 248) rfl ?_
                refine Go.virt X306 hx hZ hown (wd128 hw) (wd129 hw) (notFace_of_selects (args := #[]) (mvT hZ (wd131 hw))) (wd131 hw) (wd130 hw) (wd2 hw) (wd132 hw) (by decide) (cfgl l Z a0 hw b192 ph li_283 ((0 : Int64)) v3_302 ((0 : Int64)) h302 OK302 A192 g_b192 P302_0 P302_1 P302_2 P302_3 P302_4 hc307) e306 A192 (by rw [hml]; rfl) (hb hby at_248) (argsL := [(.long ph)]) (rest := []) (lenOf pd24 rfl) rfl rfl (W := 0) (by first | exact Nat.le_refl _ | decide) (by decide) (by decide) (by decide) (by decide) ?_
                intro v311 T311 L311 X311 hQ311
                obtain ⟨h311, e311⟩ : ∃ z, T311.heap = z := ⟨_, rfl⟩
                rw [e311] at hQ311
                obtain ⟨rfl, N311q, K311, P311_0, P311_1, P311_2, P311_3, P311_4⟩ := hQ311
                have N311 := Fr.app N306 N311q
                replace A192 := A192.keep K311
                replace P193_0 := P193_0.keep K311
                replace P196_0 := P196_0.keep K311
                replace P283_5 := P283_5.keep K311
                replace P283_6 := P283_6.keep K311 (ninS (Ne.symm ne_b192_li_283) nin0)
                replace P283_7 := P283_7.keep K311 (ninS (Ne.symm ne_b192_li_283) nin0)
                replace P283_8 := P283_8.keep K311 (ninS (Ne.symm ne_b192_li_283) nin0)
                replace P283_9 := P283_9.keep K311 (ninS (Ne.symm ne_b192_d_283) nin0)
                replace P283_11 := P283_11.keep K311
                replace P286_0 := P286_0.keep K311
                replace P302_5 := P302_5.keep K311 (ninS (Ne.symm ne_b192_x0_283) nin0)
                replace P302_6 := P302_6.keep K311 (ninS (Ne.symm ne_b192_x0_283) nin0)
                have OK311 := ext_keep OK302 K311 (allS g_b192 all0)
                refine Go.istore X311 hx (hb hby at_251) (l' := #[.val (.int pf), .val (.long t1), .second, .val (.long t2), .second, .val (.long ph), .second, .val (.int 1), .val (.int 1), .val (.ref b192), .val (.int 1), .val (.int 1), .val (.int 1), .val (.int 1), .val (.int 1), .val (.long 0), .second, .val (.int 0), .val (.int 0), .unset]) rfl (q := 253) rfl ?_
                refine Go.aload X311 hx (hb hby at_253) rfl rfl (q := 255) rfl ?_
                refine Go.virt X311 hx hZ hown (wd20 hw) (wd21 hw) (notFace_of_selects (args := #[]) (mvT hZ (wd23 hw))) (wd23 hw) (wd22 hw) (wd2 hw) (wd24 hw) (by decide) (cho0 l Z a0 hw b192 h311 OK311 P311_1) e311 A192 (by rw [hml]; rfl) (hb hby at_255) (argsL := []) (rest := []) (lenOf pd21 rfl) rfl rfl (W := 0) (by first | exact Nat.le_refl _ | decide) (by decide) (by decide) (by decide) (by decide) ?_
                intro v312 T312 L312 X312 hQ312
                obtain ⟨rfl, N312q, e312⟩ := hQ312
                have N312 := Fr.app N311 N312q
                refine Go.istore X312 hx (hb hby at_258) (l' := #[.val (.int pf), .val (.long t1), .second, .val (.long t2), .second, .val (.long ph), .second, .val (.int 1), .val (.int 1), .val (.ref b192), .val (.int 1), .val (.int 1), .val (.int 1), .val (.int 1), .val (.int 1), .val (.long 0), .second, .val (.int 0), .val (.int 0), .val (.int 0)]) rfl (q := 260) rfl ?_
                refine Go.iload X312 hx (hb hby at_260) rfl (q := 262) rfl ?_
                refine Go.ifNo X312 hx (hb hby at_262) (by decide) (q := 265) rfl ?_
                refine Go.iload X312 hx (hb hby at_265) rfl (q := 267) rfl ?_
                refine Go.iload X312 hx (hb hby at_267) rfl (q := 269) rfl ?_
                refine Go.icmpNo X312 hx (hb hby at_269) (by decide) (q := 272) rfl ?_
                refine Go.iload X312 hx (hb hby at_272) rfl (q := 274) rfl ?_
                refine Go.iload X312 hx (hb hby at_274) rfl (q := 276) rfl ?_
                refine Go.icmpNo X312 hx (hb hby at_276) (by decide) (q := 279) rfl ?_
                refine Go.iload X312 hx (hb hby at_279) rfl (q := 281) rfl ?_
                refine Go.aload X312 hx (hb hby at_281) rfl rfl (q := 283) rfl ?_
                refine Go.virt X312 hx hZ hown (wd36 hw) (wd37 hw) (notFace_of_selects (args := #[]) (mvT hZ (wd39 hw))) (wd39 hw) (wd38 hw) (wd2 hw) (wd40 hw) (by decide) (ccn0 l Z a0 hw b192 h311 OK311 P311_1) e312 A192 (by rw [hml]; rfl) (hb hby at_283) (argsL := []) (rest := [(.int 0)]) (lenOf pd8 rfl) rfl rfl (W := 1) (by first | exact Nat.le_refl _ | decide) (by decide) (by decide) (by decide) (by decide) ?_
                intro v313 T313 L313 X313 hQ313
                obtain ⟨rfl, N313q, e313⟩ := hQ313
                have N313 := Fr.app N312 N313q
                refine Go.iconst X313 hx (hb hby at_286) (r := (1 : Int32)) rfl (q := 287) rfl ?_
                refine Go.icmpYes X313 hx (hb hby at_287) (by decide) (q := 294) (by decide) (by decide) ?_
                refine Go.iconst X313 hx (hb hby at_294) (r := (0 : Int32)) rfl (q := 295) rfl ?_
                refine Go.icmpNo X313 hx (hb hby at_295) (by decide) (q := 298) rfl ?_
                refine Go.iconst X313 hx (hb hby at_298) (r := (1 : Int32)) rfl (q := 299) rfl ?_
                refine Go.goto X313 hx (hb hby at_299) (q := 303) (by decide) (by decide) ?_
                refine Go.istore X313 hx (hb hby at_303) (l' := #[.val (.int pf), .val (.long t1), .second, .val (.long t2), .second, .val (.long ph), .second, .val (.int 1), .val (.int 1), .val (.ref b192), .val (.int 1), .val (.int 1), .val (.int 1), .val (.int 1), .val (.int 1), .val (.long 0), .second, .val (.int 0), .val (.int 0), .val (.int 0)]) rfl (q := 305) rfl ?_
                refine Go.iload X313 hx (hb hby at_305) rfl (q := 307) rfl ?_
                exact Go.retI X313 hx hret hlk (by simp) rfl (hb hby at_307) e313 (by decide) (by decide) ⟨rfl, N313⟩
            · have hk314 : ¬ (t2 = (0 : Int64)) := fun q => ho301 (Or.inl q)
              have hk315 : ¬ (t1 = t2) := fun q => ho301 (Or.inr q)
              show Go pp ee below _ (T286.setTop (mkF mm 136 #[.val (.int pf), .val (.long t1), .second, .val (.long t2), .second, .val (.long ph), .second, .val (.int 1), .val (.int 1), .val (.ref b192), .val (.int 1), .val (.int 1), .val (.int 1), .unset, .unset, .unset, .unset, .unset, .unset, .unset] [(.ref b_286), (.long t2), (.ref b192)]))
              refine Go.virt X286 hx hZ hown (wd27 hw) (wd28 hw) (notFace_of_selects (args := #[]) (mvT hZ (wd30 hw))) (wd30 hw) (wd29 hw) (wd2 hw) (wd31 hw) (by decide) (cwBn l Z a0 hw b192 t2 b_286 ((0 : Int64)) b_193 ((0 : Int64)) li_283 d_283 x0_283 t1 ((1 : Int32)) (kd_283) b_196 h283 OK283 A192 g_b192 P283_0 P283_1 P283_2 P283_3 P283_4 P283_5 P283_6 P283_7 P283_8 P283_9 P283_11 P283_12 P283_13 g_li_283 g_d_283 g_x0_283 ne_b192_li_283 ne_b192_d_283 ne_b192_x0_283 P283_14 P283_15 P283_16 P283_10 hc287 hk314 hk315) e286 A192 (by rw [hml]; rfl) (hb hby at_136) (argsL := [(.long t2), (.ref b_286)]) (rest := []) (lenOf pd22 rfl) rfl rfl (W := 0) (by first | exact Nat.le_refl _ | decide) (by decide) (by decide) (by decide) (by decide) ?_
              intro v316 T316 L316 X316 hQ316
              obtain ⟨h316, e316⟩ : ∃ z, T316.heap = z := ⟨_, rfl⟩
              rw [e316] at hQ316
              obtain ⟨yA_316, yB_316, u0_316, u1_316, rfl, N316q, K316, P316_0, P316_1, P316_2, P316_3, P316_4, P316_5, P316_6, P316_7⟩ := hQ316
              have N316 := Fr.app N286 N316q
              replace A192 := A192.keep K316
              replace P193_0 := P193_0.keep K316
              replace P196_0 := P196_0.keep K316
              replace P283_0 := P283_0.keep K316 (ninS ne_b192_li_283 (ninS ne_b192_d_283 nin0))
              replace P283_1 := P283_1.keep K316 (ninS ne_b192_li_283 (ninS ne_b192_d_283 nin0))
              replace P283_2 := P283_2.keep K316 (ninS ne_b192_li_283 (ninS ne_b192_d_283 nin0))
              replace P283_3 := P283_3.keep K316 (ninS ne_b192_li_283 (ninS ne_b192_d_283 nin0))
              replace P283_4 := P283_4.keep K316 (ninS ne_b192_li_283 (ninS ne_b192_d_283 nin0))
              replace P283_5 := P283_5.keep K316
              replace P283_11 := P283_11.keep K316
              replace P283_12 := P283_12.keep K316 (ninS (Ne.symm P283_15) (ninS (Ne.symm P283_16) nin0))
              replace P283_13 := P283_13.keep K316 (ninS (Ne.symm P283_15) (ninS (Ne.symm P283_16) nin0))
              replace P286_0 := P286_0.keep K316
              have OK316 := ext_keep OK283 K316 (allS g_li_283 (allS g_d_283 all0))
              refine Go.iload X316 hx (hb hby at_139) rfl (q := 141) rfl ?_
              refine Go.ifNo X316 hx (hb hby at_141) (by decide) (q := 144) rfl ?_
              refine Go.lloadN X316 hx (hb hby at_144) rfl (q := 145) rfl ?_
              refine Go.lconst X316 hx (hb hby at_145) (r := (0 : Int64)) rfl (q := 146) rfl ?_
              refine Go.lcmp X316 hx (hb hby at_146) rfl (q := 147) rfl ?_
              refine Go.ifYes X316 hx (hb hby at_147) (Jvm.Free.XT.ll_ne_t hc243) (q := 156) (by decide) (by decide) ?_
              refine Go.iconst X316 hx (hb hby at_156) (r := (1 : Int32)) rfl (q := 157) rfl ?_
              refine Go.goto X316 hx (hb hby at_157) (q := 161) (by decide) (by decide) ?_
              refine Go.istore X316 hx (hb hby at_161) (l' := #[.val (.int pf), .val (.long t1), .second, .val (.long t2), .second, .val (.long ph), .second, .val (.int 1), .val (.int 1), .val (.ref b192), .val (.int 1), .val (.int 1), .val (.int 1), .val (.int 1), .unset, .unset, .unset, .unset, .unset, .unset]) rfl (q := 163) rfl ?_
              refine Go.aload X316 hx (hb hby at_163) rfl rfl (q := 165) rfl ?_
              refine Go.virt X316 hx hZ hown (wd20 hw) (wd21 hw) (notFace_of_selects (args := #[]) (mvT hZ (wd23 hw))) (wd23 hw) (wd22 hw) (wd2 hw) (wd24 hw) (by decide) (cho1 l Z a0 hw b192 li_283 h316 OK316 P283_1) e316 A192 (by rw [hml]; rfl) (hb hby at_165) (argsL := []) (rest := []) (lenOf pd21 rfl) rfl rfl (W := 0) (by first | exact Nat.le_refl _ | decide) (by decide) (by decide) (by decide) (by decide) ?_
              intro v317 T317 L317 X317 hQ317
              obtain ⟨rfl, N317q, e317⟩ := hQ317
              have N317 := Fr.app N316 N317q
              refine Go.istore X317 hx (hb hby at_168) (l' := #[.val (.int pf), .val (.long t1), .second, .val (.long t2), .second, .val (.long ph), .second, .val (.int 1), .val (.int 1), .val (.ref b192), .val (.int 1), .val (.int 1), .val (.int 1), .val (.int 1), .val (.int 1), .unset, .unset, .unset, .unset, .unset]) rfl (q := 170) rfl ?_
              refine Go.iload X317 hx (hb hby at_170) rfl (q := 172) rfl ?_
              refine Go.ifNo X317 hx (hb hby at_172) (by decide) (q := 175) rfl ?_
              refine Go.iload X317 hx (hb hby at_175) rfl (q := 177) rfl ?_
              refine Go.iload X317 hx (hb hby at_177) rfl (q := 179) rfl ?_
              refine Go.icmpNo X317 hx (hb hby at_179) (by decide) (q := 182) rfl ?_
              refine Go.iload X317 hx (hb hby at_182) rfl (q := 184) rfl ?_
              refine Go.aload X317 hx (hb hby at_184) rfl rfl (q := 186) rfl ?_
              refine Go.virt X317 hx hZ hown (wd36 hw) (wd37 hw) (notFace_of_selects (args := #[]) (mvT hZ (wd39 hw))) (wd39 hw) (wd38 hw) (wd2 hw) (wd40 hw) (by decide) (ccn1 l Z a0 hw b192 li_283 ((2 : Int32)) h316 OK316 P283_1 P283_5 P316_1) e317 A192 (by rw [hml]; rfl) (hb hby at_186) (argsL := []) (rest := [(.int 1)]) (lenOf pd8 rfl) rfl rfl (W := 1) (by first | exact Nat.le_refl _ | decide) (by decide) (by decide) (by decide) (by decide) ?_
              intro v318 T318 L318 X318 hQ318
              obtain ⟨rfl, N318q, e318⟩ := hQ318
              have N318 := Fr.app N317 N318q
              refine Go.iconst X318 hx (hb hby at_189) (r := (1 : Int32)) rfl (q := 190) rfl ?_
              refine Go.icmpNo X318 hx (hb hby at_190) (by decide) (q := 193) rfl ?_
              refine Go.iconst X318 hx (hb hby at_193) (r := (1 : Int32)) rfl (q := 194) rfl ?_
              refine Go.goto X318 hx (hb hby at_194) (q := 198) (by decide) (by decide) ?_
              refine Go.icmpNo X318 hx (hb hby at_198) (by decide) (q := 201) rfl ?_
              refine Go.iconst X318 hx (hb hby at_201) (r := (1 : Int32)) rfl (q := 202) rfl ?_
              refine Go.goto X318 hx (hb hby at_202) (q := 206) (by decide) (by decide) ?_
              refine Go.istore X318 hx (hb hby at_206) (l' := #[.val (.int pf), .val (.long t1), .second, .val (.long t2), .second, .val (.long ph), .second, .val (.int 1), .val (.int 1), .val (.ref b192), .val (.int 1), .val (.int 1), .val (.int 1), .val (.int 1), .val (.int 1), .unset, .unset, .unset, .unset, .unset]) rfl (q := 208) rfl ?_
              refine Go.iload X318 hx (hb hby at_208) rfl (q := 210) rfl ?_
              refine Go.ifNo X318 hx (hb hby at_210) (by decide) (q := 213) rfl ?_
              refine Go.lconst X318 hx (hb hby at_213) (r := (0 : Int64)) rfl (q := 214) rfl ?_
              refine Go.lloadN X318 hx (hb hby at_214) rfl (q := 215) rfl ?_
              refine Go.lloadN X318 hx (hb hby at_215) rfl (q := 216) rfl ?_
              refine Go.callS X318 hx hZ hown (wd125 hw) (wd126 hw) (wd112 hw) (wd127 hw) (by decide) (cmaxJ l Z a0 hw t1 t2 h316 OK316) e318 (by rw [hml]; rfl) (hb hby at_216) (argsL := [(.long t1), (.long t2)]) (rest := [(.long 0)]) (lenOf pd23 rfl) rfl rfl (W := 2) (by first | exact Nat.le_refl _ | decide) (by decide) (by decide) (by decide) (by decide) ?_
              intro v319 T319 L319 X319 hQ319
              obtain ⟨rfl, N319q, e319⟩ := hQ319
              have N319 := Fr.app N318 N319q
              refine Go.callS X319 hx hZ hown (wd125 hw) (wd126 hw) (wd112 hw) (wd127 hw) (by decide) (cmaxJ l Z a0 hw ((0 : Int64)) ((own_max t1 t2)) h316 OK316) e319 (by rw [hml]; rfl) (hb hby at_219) (argsL := [(.long 0), (.long (own_max t1 t2))]) (rest := []) (lenOf pd23 rfl) rfl rfl (W := 0) (by first | exact Nat.le_refl _ | decide) (by decide) (by decide) (by decide) (by decide) ?_
              intro v320 T320 L320 X320 hQ320
              obtain ⟨rfl, N320q, e320⟩ := hQ320
              have N320 := Fr.app N319 N320q
              rw [own_mxLN hc197 hc287]
              show Go pp ee below _ (T320.setTop (mkF mm 222 #[.val (.int pf), .val (.long t1), .second, .val (.long t2), .second, .val (.long ph), .second, .val (.int 1), .val (.int 1), .val (.ref b192), .val (.int 1), .val (.int 1), .val (.int 1), .val (.int 1), .val (.int 1), .unset, .unset, .unset, .unset, .unset] [(.long 0)]))
              refine Go.lstore X320 hx (hb hby at_222) (l' := #[.val (.int pf), .val (.long t1), .second, .val (.long t2), .second, .val (.long ph), .second, .val (.int 1), .val (.int 1), .val (.ref b192), .val (.int 1), .val (.int 1), .val (.int 1), .val (.int 1), .val (.int 1), .val (.long 0), .second, .unset, .unset, .unset]) rfl (q := 224) rfl ?_
              refine Go.iload X320 hx (hb hby at_224) rfl (q := 226) rfl ?_
              refine Go.ifNo X320 hx (hb hby at_226) (by decide) (q := 229) rfl ?_
              refine Go.lload X320 hx (hb hby at_229) rfl (q := 231) rfl ?_
              refine Go.lload X320 hx (hb hby at_231) rfl (q := 233) rfl ?_
              refine Go.lcmp X320 hx (hb hby at_233) rfl (q := 234) rfl ?_
              by_cases hc321 : ph < (0 : Int64)
              · refine Go.ifNo X320 hx (hb hby at_234) (Jvm.Free.XT.ll_le_f hc321) (q := 237) rfl ?_
                refine Go.iconst X320 hx (hb hby at_237) (r := (1 : Int32)) rfl (q := 238) rfl ?_
                refine Go.goto X320 hx (hb hby at_238) (q := 242) (by decide) (by decide) ?_
                refine Go.istore X320 hx (hb hby at_242) (l' := #[.val (.int pf), .val (.long t1), .second, .val (.long t2), .second, .val (.long ph), .second, .val (.int 1), .val (.int 1), .val (.ref b192), .val (.int 1), .val (.int 1), .val (.int 1), .val (.int 1), .val (.int 1), .val (.long 0), .second, .val (.int 1), .unset, .unset]) rfl (q := 244) rfl ?_
                refine Go.aload X320 hx (hb hby at_244) rfl rfl (q := 246) rfl ?_
                refine Go.lload X320 hx (hb hby at_246) rfl (q := 248) rfl ?_
                refine Go.virt X320 hx hZ hown (wd128 hw) (wd129 hw) (notFace_of_selects (args := #[]) (mvT hZ (wd131 hw))) (wd131 hw) (wd130 hw) (wd2 hw) (wd132 hw) (by decide) (cfg2 l Z a0 hw b192 ph ((0 : Int64)) li_283 d_283 yA_316 yB_316 u0_316 u1_316 ((2 : Int32)) (kd_283) h316 OK316 A192 P283_1 P283_2 P283_5 P316_0 P316_1 P316_2 P316_3 P316_4 P316_5 P316_6 P316_7 g_li_283 g_d_283 ne_b192_li_283 ne_b192_d_283 P283_14 P283_10 hc321) e320 A192 (by rw [hml]; rfl) (hb hby at_248) (argsL := [(.long ph)]) (rest := []) (lenOf pd24 rfl) rfl rfl (W := 0) (by first | exact Nat.le_refl _ | decide) (by decide) (by decide) (by decide) (by decide) ?_
                intro v322 T322 L322 X322 hQ322
                obtain ⟨h322, e322⟩ : ∃ z, T322.heap = z := ⟨_, rfl⟩
                rw [e322] at hQ322
                obtain ⟨s_322, rfl, N322q, K322, P322_0, P322_1⟩ := hQ322
                have N322 := Fr.app N320 N322q
                replace A192 := A192.keep K322
                replace P193_0 := P193_0.keep K322
                replace P196_0 := P196_0.keep K322
                replace P283_0 := P283_0.keep K322 (ninS ne_b192_li_283 (ninS ne_b192_d_283 nin0))
                replace P283_1 := P283_1.keep K322 (ninS ne_b192_li_283 (ninS ne_b192_d_283 nin0))
                replace P283_2 := P283_2.keep K322 (ninS ne_b192_li_283 (ninS ne_b192_d_283 nin0))
                replace P283_3 := P283_3.keep K322 (ninS ne_b192_li_283 (ninS ne_b192_d_283 nin0))
                replace P283_4 := P283_4.keep K322 (ninS ne_b192_li_283 (ninS ne_b192_d_283 nin0))
                replace P283_5 := P283_5.keep K322
                replace P283_11 := P283_11.keep K322
                replace P283_12 := P283_12.keep K322 (ninS (Ne.symm P283_15) (ninS (Ne.symm P283_16) nin0))
                replace P283_13 := P283_13.keep K322 (ninS (Ne.symm P283_15) (ninS (Ne.symm P283_16) nin0))
                replace P286_0 := P286_0.keep K322
                replace P316_4 := P316_4.keep K322
                replace P316_6 := P316_6.keep K322
                have OK322 := ext_keep OK316 K322 (allS g_li_283 (allS g_d_283 all0))
                refine Go.istore X322 hx (hb hby at_251) (l' := #[.val (.int pf), .val (.long t1), .second, .val (.long t2), .second, .val (.long ph), .second, .val (.int 1), .val (.int 1), .val (.ref b192), .val (.int 1), .val (.int 1), .val (.int 1), .val (.int 1), .val (.int 1), .val (.long 0), .second, .val (.int 1), .val (.int 1), .unset]) rfl (q := 253) rfl ?_
                refine Go.aload X322 hx (hb hby at_253) rfl rfl (q := 255) rfl ?_
                refine Go.virt X322 hx hZ hown (wd20 hw) (wd21 hw) (notFace_of_selects (args := #[]) (mvT hZ (wd23 hw))) (wd23 hw) (wd22 hw) (wd2 hw) (wd24 hw) (by decide) (cho1 l Z a0 hw b192 li_283 h322 OK322 P283_1) e322 A192 (by rw [hml]; rfl) (hb hby at_255) (argsL := []) (rest := []) (lenOf pd21 rfl) rfl rfl (W := 0) (by first | exact Nat.le_refl _ | decide) (by decide) (by decide) (by decide) (by decide) ?_
                intro v323 T323 L323 X323 hQ323
                obtain ⟨rfl, N323q, e323⟩ := hQ323
                have N323 := Fr.app N322 N323q
                refine Go.istore X323 hx (hb hby at_258) (l' := #[.val (.int pf), .val (.long t1), .second, .val (.long t2), .second, .val (.long ph), .second, .val (.int 1), .val (.int 1), .val (.ref b192), .val (.int 1), .val (.int 1), .val (.int 1), .val (.int 1), .val (.int 1), .val (.long 0), .second, .val (.int 1), .val (.int 1), .val (.int 1)]) rfl (q := 260) rfl ?_
                refine Go.iload X323 hx (hb hby at_260) rfl (q := 262) rfl ?_
                refine Go.ifNo X323 hx (hb hby at_262) (by decide) (q := 265) rfl ?_
                refine Go.iload X323 hx (hb hby at_265) rfl (q := 267) rfl ?_
                refine Go.iload X323 hx (hb hby at_267) rfl (q := 269) rfl ?_
                refine Go.icmpNo X323 hx (hb hby at_269) (by decide) (q := 272) rfl ?_
                refine Go.iload X323 hx (hb hby at_272) rfl (q := 274) rfl ?_
                refine Go.iload X323 hx (hb hby at_274) rfl (q := 276) rfl ?_
                refine Go.icmpNo X323 hx (hb hby at_276) (by decide) (q := 279) rfl ?_
                refine Go.iload X323 hx (hb hby at_279) rfl (q := 281) rfl ?_
                refine Go.aload X323 hx (hb hby at_281) rfl rfl (q := 283) rfl ?_
                refine Go.virt X323 hx hZ hown (wd36 hw) (wd37 hw) (notFace_of_selects (args := #[]) (mvT hZ (wd39 hw))) (wd39 hw) (wd38 hw) (wd2 hw) (wd40 hw) (by decide) (ccn1 l Z a0 hw b192 li_283 s_322 h322 OK322 P283_1 P283_5 P322_0) e323 A192 (by rw [hml]; rfl) (hb hby at_283) (argsL := []) (rest := [(.int 1)]) (lenOf pd8 rfl) rfl rfl (W := 1) (by first | exact Nat.le_refl _ | decide) (by decide) (by decide) (by decide) (by decide) ?_
                intro v324 T324 L324 X324 hQ324
                obtain ⟨rfl, N324q, e324⟩ := hQ324
                have N324 := Fr.app N323 N324q
                rcases P322_1 with rfl | rfl
                · show Go pp ee below _ (T324.setTop (mkF mm 286 #[.val (.int pf), .val (.long t1), .second, .val (.long t2), .second, .val (.long ph), .second, .val (.int 1), .val (.int 1), .val (.ref b192), .val (.int 1), .val (.int 1), .val (.int 1), .val (.int 1), .val (.int 1), .val (.long 0), .second, .val (.int 1), .val (.int 1), .val (.int 1)] [(.int 2), (.int 1)]))
                  refine Go.iconst X324 hx (hb hby at_286) (r := (1 : Int32)) rfl (q := 287) rfl ?_
                  refine Go.icmpNo X324 hx (hb hby at_287) (by decide) (q := 290) rfl ?_
                  refine Go.iconst X324 hx (hb hby at_290) (r := (1 : Int32)) rfl (q := 291) rfl ?_
                  refine Go.goto X324 hx (hb hby at_291) (q := 295) (by decide) (by decide) ?_
                  refine Go.icmpNo X324 hx (hb hby at_295) (by decide) (q := 298) rfl ?_
                  refine Go.iconst X324 hx (hb hby at_298) (r := (1 : Int32)) rfl (q := 299) rfl ?_
                  refine Go.goto X324 hx (hb hby at_299) (q := 303) (by decide) (by decide) ?_
                  refine Go.istore X324 hx (hb hby at_303) (l' := #[.val (.int pf), .val (.long t1), .second, .val (.long t2), .second, .val (.long ph), .second, .val (.int 1), .val (.int 1), .val (.ref b192), .val (.int 1), .val (.int 1), .val (.int 1), .val (.int 1), .val (.int 1), .val (.long 0), .second, .val (.int 1), .val (.int 1), .val (.int 1)]) rfl (q := 305) rfl ?_
                  refine Go.iload X324 hx (hb hby at_305) rfl (q := 307) rfl ?_
                  exact Go.retI X324 hx hret hlk (by simp) rfl (hb hby at_307) e324 (by decide) (by decide) ⟨rfl, N324⟩
                · show Go pp ee below _ (T324.setTop (mkF mm 286 #[.val (.int pf), .val (.long t1), .second, .val (.long t2), .second, .val (.long ph), .second, .val (.int 1), .val (.int 1), .val (.ref b192), .val (.int 1), .val (.int 1), .val (.int 1), .val (.int 1), .val (.int 1), .val (.long 0), .second, .val (.int 1), .val (.int 1), .val (.int 1)] [(.int 3), (.int 1)]))
                  refine Go.iconst X324 hx (hb hby at_286) (r := (1 : Int32)) rfl (q := 287) rfl ?_
                  refine Go.icmpNo X324 hx (hb hby at_287) (by decide) (q := 290) rfl ?_
                  refine Go.iconst X324 hx (hb hby at_290) (r := (1 : Int32)) rfl (q := 291) rfl ?_
                  refine Go.goto X324 hx (hb hby at_291) (q := 295) (by decide) (by decide) ?_
                  refine Go.icmpNo X324 hx (hb hby at_295) (by decide) (q := 298) rfl ?_
                  refine Go.iconst X324 hx (hb hby at_298) (r := (1 : Int32)) rfl (q := 299) rfl ?_
                  refine Go.goto X324 hx (hb hby at_299) (q := 303) (by decide) (by decide) ?_
                  refine Go.istore X324 hx (hb hby at_303) (l' := #[.val (.int pf), .val (.long t1), .second, .val (.long t2), .second, .val (.long ph), .second, .val (.int 1), .val (.int 1), .val (.ref b192), .val (.int 1), .val (.int 1), .val (.int 1), .val (.int 1), .val (.int 1), .val (.long 0), .second, .val (.int 1), .val (.int 1), .val (.int 1)]) rfl (q := 305) rfl ?_
                  refine Go.iload X324 hx (hb hby at_305) rfl (q := 307) rfl ?_
                  exact Go.retI X324 hx hret hlk (by simp) rfl (hb hby at_307) e324 (by decide) (by decide) ⟨rfl, N324⟩
              · refine Go.ifYes X320 hx (hb hby at_234) (Jvm.Free.XT.ll_le_t hc321) (q := 241) (by decide) (by decide) ?_
                refine Go.iconst X320 hx (hb hby at_241) (r := (0 : Int32)) rfl (q := 242) rfl ?_
                refine Go.istore X320 hx (hb hby at_242) (l' := #[.val (.int pf), .val (.long t1), .second, .val (.long t2), .second, .val (.long ph), .second, .val (.int 1), .val (.int 1), .val (.ref b192), .val (.int 1), .val (.int 1), .val (.int 1), .val (.int 1), .val (.int 1), .val (.long 0), .second, .val (.int 0), .unset, .unset]) rfl (q := 244) rfl ?_
                refine Go.aload X320 hx (hb hby at_244) rfl rfl (q := 246) rfl ?_
                refine Go.lload X320 hx (hb hby at_246) rfl (q := 248) rfl ?_
                refine Go.virt X320 hx hZ hown (wd128 hw) (wd129 hw) (notFace_of_selects (args := #[]) (mvT hZ (wd131 hw))) (wd131 hw) (wd130 hw) (wd2 hw) (wd132 hw) (by decide) (cfgl l Z a0 hw b192 ph li_283 ((0 : Int64)) b_193 ((0 : Int64)) h316 OK316 A192 g_b192 P283_0 P283_1 P283_2 P283_3 P283_4 hc321) e320 A192 (by rw [hml]; rfl) (hb hby at_248) (argsL := [(.long ph)]) (rest := []) (lenOf pd24 rfl) rfl rfl (W := 0) (by first | exact Nat.le_refl _ | decide) (by decide) (by decide) (by decide) (by decide) ?_
                intro v325 T325 L325 X325 hQ325
                obtain ⟨h325, e325⟩ : ∃ z, T325.heap = z := ⟨_, rfl⟩
                rw [e325] at hQ325
                obtain ⟨rfl, N325q, K325, P325_0, P325_1, P325_2, P325_3, P325_4⟩ := hQ325
                have N325 := Fr.app N320 N325q
                replace A192 := A192.keep K325
                replace P193_0 := P193_0.keep K325
                replace P196_0 := P196_0.keep K325
                replace P283_5 := P283_5.keep K325
                replace P283_11 := P283_11.keep K325
                replace P283_12 := P283_12.keep K325 (ninS (Ne.symm ne_b192_x0_283) nin0)
                replace P283_13 := P283_13.keep K325 (ninS (Ne.symm ne_b192_x0_283) nin0)
                replace P286_0 := P286_0.keep K325
                replace P316_0 := P316_0.keep K325 (ninS (Ne.symm ne_b192_li_283) nin0)
                replace P316_1 := P316_1.keep K325 (ninS (Ne.symm ne_b192_li_283) nin0)
                replace P316_2 := P316_2.keep K325 (ninS (Ne.symm ne_b192_li_283) nin0)
                replace P316_3 := P316_3.keep K325 (ninS (Ne.symm ne_b192_d_283) nin0)
                replace P316_4 := P316_4.keep K325
                replace P316_6 := P316_6.keep K325
                have OK325 := ext_keep OK316 K325 (allS g_b192 all0)
                refine Go.istore X325 hx (hb hby at_251) (l' := #[.val (.int pf), .val (.long t1), .second, .val (.long t2), .second, .val (.long ph), .second, .val (.int 1), .val (.int 1), .val (.ref b192), .val (.int 1), .val (.int 1), .val (.int 1), .val (.int 1), .val (.int 1), .val (.long 0), .second, .val (.int 0), .val (.int 0), .unset]) rfl (q := 253) rfl ?_
                refine Go.aload X325 hx (hb hby at_253) rfl rfl (q := 255) rfl ?_
                refine Go.virt X325 hx hZ hown (wd20 hw) (wd21 hw) (notFace_of_selects (args := #[]) (mvT hZ (wd23 hw))) (wd23 hw) (wd22 hw) (wd2 hw) (wd24 hw) (by decide) (cho0 l Z a0 hw b192 h325 OK325 P325_1) e325 A192 (by rw [hml]; rfl) (hb hby at_255) (argsL := []) (rest := []) (lenOf pd21 rfl) rfl rfl (W := 0) (by first | exact Nat.le_refl _ | decide) (by decide) (by decide) (by decide) (by decide) ?_
                intro v326 T326 L326 X326 hQ326
                obtain ⟨rfl, N326q, e326⟩ := hQ326
                have N326 := Fr.app N325 N326q
                refine Go.istore X326 hx (hb hby at_258) (l' := #[.val (.int pf), .val (.long t1), .second, .val (.long t2), .second, .val (.long ph), .second, .val (.int 1), .val (.int 1), .val (.ref b192), .val (.int 1), .val (.int 1), .val (.int 1), .val (.int 1), .val (.int 1), .val (.long 0), .second, .val (.int 0), .val (.int 0), .val (.int 0)]) rfl (q := 260) rfl ?_
                refine Go.iload X326 hx (hb hby at_260) rfl (q := 262) rfl ?_
                refine Go.ifNo X326 hx (hb hby at_262) (by decide) (q := 265) rfl ?_
                refine Go.iload X326 hx (hb hby at_265) rfl (q := 267) rfl ?_
                refine Go.iload X326 hx (hb hby at_267) rfl (q := 269) rfl ?_
                refine Go.icmpNo X326 hx (hb hby at_269) (by decide) (q := 272) rfl ?_
                refine Go.iload X326 hx (hb hby at_272) rfl (q := 274) rfl ?_
                refine Go.iload X326 hx (hb hby at_274) rfl (q := 276) rfl ?_
                refine Go.icmpNo X326 hx (hb hby at_276) (by decide) (q := 279) rfl ?_
                refine Go.iload X326 hx (hb hby at_279) rfl (q := 281) rfl ?_
                refine Go.aload X326 hx (hb hby at_281) rfl rfl (q := 283) rfl ?_
                refine Go.virt X326 hx hZ hown (wd36 hw) (wd37 hw) (notFace_of_selects (args := #[]) (mvT hZ (wd39 hw))) (wd39 hw) (wd38 hw) (wd2 hw) (wd40 hw) (by decide) (ccn0 l Z a0 hw b192 h325 OK325 P325_1) e326 A192 (by rw [hml]; rfl) (hb hby at_283) (argsL := []) (rest := [(.int 0)]) (lenOf pd8 rfl) rfl rfl (W := 1) (by first | exact Nat.le_refl _ | decide) (by decide) (by decide) (by decide) (by decide) ?_
                intro v327 T327 L327 X327 hQ327
                obtain ⟨rfl, N327q, e327⟩ := hQ327
                have N327 := Fr.app N326 N327q
                refine Go.iconst X327 hx (hb hby at_286) (r := (1 : Int32)) rfl (q := 287) rfl ?_
                refine Go.icmpYes X327 hx (hb hby at_287) (by decide) (q := 294) (by decide) (by decide) ?_
                refine Go.iconst X327 hx (hb hby at_294) (r := (0 : Int32)) rfl (q := 295) rfl ?_
                refine Go.icmpNo X327 hx (hb hby at_295) (by decide) (q := 298) rfl ?_
                refine Go.iconst X327 hx (hb hby at_298) (r := (1 : Int32)) rfl (q := 299) rfl ?_
                refine Go.goto X327 hx (hb hby at_299) (q := 303) (by decide) (by decide) ?_
                refine Go.istore X327 hx (hb hby at_303) (l' := #[.val (.int pf), .val (.long t1), .second, .val (.long t2), .second, .val (.long ph), .second, .val (.int 1), .val (.int 1), .val (.ref b192), .val (.int 1), .val (.int 1), .val (.int 1), .val (.int 1), .val (.int 1), .val (.long 0), .second, .val (.int 0), .val (.int 0), .val (.int 0)]) rfl (q := 305) rfl ?_
                refine Go.iload X327 hx (hb hby at_305) rfl (q := 307) rfl ?_
                exact Go.retI X327 hx hret hlk (by simp) rfl (hb hby at_307) e327 (by decide) (by decide) ⟨rfl, N327⟩
theorem comes_1 {Post : Tables → Env → Array Value → State → Outcome → State → Prop} (hpost : ∀ tb e args s v u, (limb_1_1.after args s (.returned v) u = true ∧ limb_1_2.after args s (.returned v) u = true ∧ True) → FrameEnd s (.returned v) u (Jvm.fieldLocs frame_1_writes args s ++ Jvm.arrayLocs frame_1_arrays args s ++ Jvm.staticLocs frame_1_statics s) 24 128 → Post tb e args s (.returned v) u) :
    ArmFor flags0 classFile x code maxLocals ret World_1 tables_1 room_1 Calls_1 rest_1 Pre_1 Post := by
  intro l hfl _ _ p e ha hc hk s m args below hf hA hF happ hP
  obtain ⟨hcalls, hrest, hpre⟩ := hP
  obtain ⟨-, -, -, hnamed, -, -, -, hat⟩ := (Spec.applies_iff hf).mp happ
  obtain ⟨hg, hn⟩ := and_e (Cond.before_iff.mp (show (Jvm.Cond.and given_1 narrow_1).before args s = true from hpre))
  obtain ⟨ga1, gb1⟩ := and_e hg
  obtain ⟨ga2, gb2⟩ := and_e gb1
  obtain ⟨ga3, gb3⟩ := and_e gb2
  obtain ⟨ga4, gb4⟩ := and_e gb3
  obtain ⟨w0, w1, w2, w3, rfl⟩ : ∃ w0 w1 w2 w3 : Value, args = #[w0, w1, w2, w3] := by
    have hs : args.size = 4 := by simpa [Cond.value, given_1] using ga1
    obtain ⟨L⟩ := args
    match L, hs with
    | [w0, w1, w2, w3], _ => exact ⟨w0, w1, w2, w3, rfl⟩
  have hw := fun d (hd : d ∈ tables_1) => atoms_spec (ws := Jvm.Cond.code x code maxLocals ret :: tables_1) hat d (List.mem_cons_of_mem _ hd)
  have hfit : Fit s := fun {y c} hc i hi => by
    obtain ⟨ha, rfl⟩ := Array.getElem?_eq_some_iff.mp hc
    have q := List.all_eq_true.mp ((Array.all_eq_true_iff_forall_mem.mp hF) _ (Array.getElem_mem ha)) i (List.mem_range.mpr hi)
    simpa [Array.getElem?_eq_getElem hi] using q
  obtain ⟨hsets, hown0⟩ := atoms_of _ (rest_1_c_eq ▸ (show rest_1_c.before _ s = true from hrest))
  have hr0 := Cond.before_iff.mp hown0
  obtain ⟨i0, ei0⟩ := is_v ga2
  obtain rfl : w0 = (.int i0) := Option.some.inj ei0
  obtain ⟨i1, ei1⟩ := isL_v ga3
  obtain rfl : w1 = (.long i1) := Option.some.inj ei1
  obtain ⟨i2, ei2⟩ := isL_v ga4
  obtain rfl : w2 = (.long i2) := Option.some.inj ei2
  obtain ⟨i3, ei3⟩ := isL_v gb4
  obtain rfl : w3 = (.long i3) := Option.some.inj ei3
  have hint : ∀ d ∈ IntBox.intClinit, d.before #[.int i0, .long i1, .long i2, .long i3] s = true := by
    intro d hd
    simp only [IntBox.intClinit, List.mem_cons, List.not_mem_nil, or_false] at hd
    rcases hd with rfl | rfl | rfl | rfl | rfl | rfl | rfl | rfl
    · exact (hsets _ (List.mem_of_getElem? (i := 0) rfl))
    · exact (hsets _ (List.mem_of_getElem? (i := 1) rfl))
    · exact (hsets _ (List.mem_of_getElem? (i := 2) rfl))
    · exact (hsets _ (List.mem_of_getElem? (i := 3) rfl))
    · exact (hsets _ (List.mem_of_getElem? (i := 4) rfl))
    · exact (hsets _ (List.mem_of_getElem? (i := 5) rfl))
    · exact (hsets _ (List.mem_of_getElem? (i := 6) rfl))
    · exact (hsets _ (List.mem_of_getElem? (i := 7) rfl))
  obtain ⟨ca, SH, SC, HC⟩ := cache_start hint
  obtain ⟨de, ede, SD, EDE⟩ := sta_exa (Cond.before_iff.mp (hsets _ (List.mem_of_getElem? (i := 15) rfl))) (wd47 hw) (hsets _ (List.mem_of_getElem? (i := 10) rfl))
  obtain ⟨clD, AD⟩ := Arr.start ede (Cond.before_iff.mp (hsets _ (List.mem_of_getElem? (i := 14) rfl)))
  obtain ⟨zD, nD⟩ := IntBox.length_fwd (hsets _ (List.mem_of_getElem? (i := 16) rfl)) ede AD.1 AD.2.1 AD.2.2
  have LD := Lng.of AD zD nD (by decide)
  obtain ⟨n, o, h1, h2, h3, _, L, rfl, ⟨rfl, N⟩, hq⟩ := law0 l s _ hw i0 i1 i2 i3 ca de s.heap ⟨Nat.le_refl _, fun _ _ q => q⟩ SH SC SD LD HC p e ha hc hk s m _ below hf ((Spec.applies_iff_loose hf).mp happ).1 ⟨rfl, State.Warmed39.refl s, rfl⟩ trivial
  refine ⟨n, _, h1, h2, h3, hpost _ _ _ _ _ _ ⟨Cond.after_iff.mpr rfl, Cond.after_iff.mpr (eq_i res_at (Term.int_eval (1)) rfl), trivial⟩ ⟨hq.1, hq.2.1, (hq.2.2.sift fun y hy => Or.inr (N y hy)).mono (by decide) (by decide)⟩⟩
theorem main_1_1 : Claimed_1_1 := comes_1 fun _ _ _ _ _ _ h hF => ⟨h.1, hF⟩
theorem main_1_2 : Claimed_1_2 := comes_1 fun _ _ _ _ _ _ h hF => ⟨h.2.1, hF⟩
end Jvm.Pilot.@@N@@
namespace Jvm.Pilot.@@N@@
open Jvm Jvm.ClassFile Sem Op Lib Jvm.Free Jvm.Stand Jvm.Pilot.@@N@@.Jvm.D
/-! MADE BY PROGRAM (witnessworld.py) out of the Statement's table words and the real class files: 31 classes; the members and pool entries that the words name. The judged class is class 1, her method 1. -/
namespace start1
open Jvm.ClassFile
def u (s : String) : CpInfo := .utf8 (stringToUtf16 s)
/-- a pool by its gaps: so many unusable entries, then the entry; so many at the end -/
def gap : Nat → List CpInfo → List CpInfo
  | 0, r => r
  | n + 1, r => .unusable :: gap n r
def poolList (es : List (Nat × CpInfo)) (last : Nat) : List CpInfo := es.foldr (fun e r => gap e.1 (e.2 :: r)) (gap last [])
def pool (es : List (Nat × CpInfo)) (last : Nat) : Array CpInfo := ⟨poolList es last⟩
def fileOf (pool : Array CpInfo) (this : Nat) (attrs : Array Attribute := #[]) (ms : Array MethodInfo := #[]) (fl : Nat := 33) (sup : Nat := 0) (ifs : Array Nat := #[]) (fds : Array FieldInfo := #[]) : ClassFile where
  minorVersion := 0
  majorVersion := 65
  constantPool := pool
  accessFlags := fl
  thisClass := this
  superClass := sup
  interfaces := ifs
  fields := fds
  methods := ms
  attributes := attrs
def plain (name : String) (sup : Option ClassId) : Class where
  name := name
  kind := .ordinary
  loader := none
  accessFlags := 33
  super := sup
  interfaces := #[]
  cf := none
  fields := #[]
  methods := #[]
  instanceTypes := #[]
  staticTypes := #[]
  resolved := #[]
  callSites := []
  init := .initialized
  statics := none
  mirror := none

def pool0 : Array CpInfo := pool [(5, u "<init>"), (0, u "()V"), (1, .class_ 10), (1, u "java/lang/Object")] 113

def k0c0 : Code := { maxStack := 0, maxLocals := 1, code := object_method_1_code, exceptionTable := #[], attributes := #[] }
def k0m0 : Method := { name := "<init>", desc := "()V", sig := { parameters := [], returnType := none }, accessFlags := 1, code := some k0c0 }
/-- java/lang/Object -/
def k0 : Class := { plain "java/lang/Object" none with
  accessFlags := 33
  interfaces := #[]
  cf := some (fileOf pool0 8 #[] #[{ accessFlags := 1, nameIndex := 5, descriptorIndex := 6, attributes := #[] }] 33 0 #[] #[])
  fields := #[]
  methods := #[k0m0]
  instanceTypes := #[]
  staticTypes := #[]
  resolved := Array.replicate 124 none
  statics := none }

def pool1 : Array CpInfo := pool [(2, .class_ 4), (1, u "java/lang/Object"), (0, u "<init>"), (0, u "()V"), (0, .class_ 8), (0, u "com/example/stampwise/stampwise/Versions"), (0, .methodref 10 11), (0, .class_ 12), (0, .nameAndType 13 14), (0, u "java/lang/Integer"), (0, u "valueOf"), (0, u "(I)Ljava/lang/Integer;"), (0, .methodref 7 16), (0, .nameAndType 5 17), (0, u "(Ljava/lang/Object;Z)V"), (0, .methodref 7 19), (0, .nameAndType 20 21), (0, u "holdsOlder"), (0, u "()Z"), (0, .methodref 7 23), (0, .nameAndType 24 25), (0, u "write"), (0, u "(JLjava/lang/Object;)V"), (0, .methodref 7 27), (0, .nameAndType 28 29), (0, u "count"), (0, u "()I"), (0, .methodref 31 32), (0, .class_ 33), (0, .nameAndType 34 35), (0, u "java/lang/Math"), (0, u "max"), (0, u "(JJ)J"), (0, .methodref 7 37), (0, .nameAndType 38 39), (0, u "forget"), (0, u "(J)Z"), (0, .class_ 41), (0, u "com/example/stampwise/stampwise/VersionsHoldsOlderPinLaw"), (2, u "law"), (0, u "(IJJJ)Z")] 3

def k1m0 : Method := { name := "<init>", desc := "()V", sig := { parameters := [], returnType := none }, accessFlags := 1, code := none }
def k1c1 : Code := { maxStack := 6, maxLocals := 20, code := code, exceptionTable := #[], attributes := #[] }
def k1m1 : Method := { name := "law", desc := "(IJJJ)Z", sig := { parameters := [.int, .long, .long, .long], returnType := some .boolean }, accessFlags := 9, code := some k1c1 }
/-- com/example/stampwise/stampwise/VersionsHoldsOlderPinLaw -/
def k1 : Class := { plain "com/example/stampwise/stampwise/VersionsHoldsOlderPinLaw" (some 0) with
  accessFlags := 49
  interfaces := #[]
  cf := some (fileOf pool1 40 #[] #[{ accessFlags := 1, nameIndex := 5, descriptorIndex := 6, attributes := #[] }, { accessFlags := 9, nameIndex := 44, descriptorIndex := 45, attributes := #[] }] 49 2 #[] #[])
  fields := #[]
  methods := #[k1m0, k1m1]
  instanceTypes := #[]
  staticTypes := #[]
  resolved := Array.replicate 49 none
  statics := none }

def pool2 : Array CpInfo := pool [(1, .methodref 2 3), (0, .class_ 4), (0, .nameAndType 5 6), (0, u "java/lang/Object"), (0, u "<init>"), (0, u "()V"), (0, .fieldref 8 9), (0, .class_ 10), (0, .nameAndType 11 12), (0, u "com/example/stampwise/stampwise/Versions"), (0, u "newestValue"), (0, u "Ljava/lang/Object;"), (0, .fieldref 8 14), (0, .nameAndType 15 16), (0, u "keepsOlder"), (0, u "Z"), (0, .fieldref 8 18), (0, .nameAndType 19 20), (0, u "newestWriteTimestamp"), (0, u "J"), (2, u "readTimestamp"), (0, .methodref 8 25), (0, .nameAndType 26 27), (0, u "olderNotAbove"), (0, u "(J)I"), (2, .fieldref 8 31), (0, .nameAndType 32 33), (0, u "older"), (0, u "Ljava/util/List;"), (0, .interfaceMethodref 35 36), (0, .class_ 37), (0, .nameAndType 38 39), (0, u "java/util/List"), (0, u "get"), (0, u "(I)Ljava/lang/Object;"), (0, .class_ 41), (0, u "com/example/stampwise/stampwise/Versions$Older"), (0, .fieldref 40 43), (0, .nameAndType 44 20), (0, u "writeTimestamp"), (3, .fieldref 40 49), (0, .nameAndType 50 12), (0, u "value"), (0, .fieldref 8 52), (0, .nameAndType 53 20), (0, u "newestReadTimestamp"), (7, .methodref 8 62), (0, .nameAndType 63 64), (0, u "olderList"), (0, u "()Ljava/util/List;"), (0, .methodref 40 66), (0, .nameAndType 5 67), (0, u "(JLjava/lang/Object;J)V"), (0, .interfaceMethodref 35 69), (0, .nameAndType 70 71), (0, u "add"), (0, u "(Ljava/lang/Object;)Z"), (0, .interfaceMethodref 35 73), (0, .nameAndType 70 74), (0, u "(ILjava/lang/Object;)V"), (0, .interfaceMethodref 35 76), (0, .nameAndType 77 78), (0, u "size"), (0, u "()I"), (0, .interfaceMethodref 35 80), (0, .nameAndType 81 82), (0, u "subList"), (0, u "(II)Ljava/util/List;"), (0, .interfaceMethodref 35 84), (0, .nameAndType 85 6), (0, u "clear"), (0, .class_ 87), (0, u "java/util/ArrayList"), (0, .methodref 86 3), (12, u "(Ljava/lang/Object;Z)V"), (11, u "write"), (0, u "(JLjava/lang/Object;)V"), (1, u "count"), (0, u "holdsOlder"), (0, u "()Z"), (0, u "forget"), (0, u "(J)Z")] 22

def k2c0 : Code := { maxStack := 2, maxLocals := 3, code := prog_29_method_1_code, exceptionTable := #[], attributes := #[] }
def k2m0 : Method := { name := "<init>", desc := "(Ljava/lang/Object;Z)V", sig := { parameters := [(.object "java/lang/Object"), .boolean], returnType := none }, accessFlags := 0, code := some k2c0 }
def k2c1 : Code := { maxStack := 9, maxLocals := 5, code := prog_29_method_8_code, exceptionTable := #[], attributes := #[] }
def k2m1 : Method := { name := "write", desc := "(JLjava/lang/Object;)V", sig := { parameters := [.long, (.object "java/lang/Object")], returnType := none }, accessFlags := 16, code := some k2c1 }
def k2c2 : Code := { maxStack := 2, maxLocals := 1, code := prog_29_method_9_code, exceptionTable := #[], attributes := #[] }
def k2m2 : Method := { name := "count", desc := "()I", sig := { parameters := [], returnType := some .int }, accessFlags := 16, code := some k2c2 }
def k2c3 : Code := { maxStack := 1, maxLocals := 1, code := prog_29_method_10_code, exceptionTable := #[], attributes := #[] }
def k2m3 : Method := { name := "holdsOlder", desc := "()Z", sig := { parameters := [], returnType := some .boolean }, accessFlags := 16, code := some k2c3 }
def k2c4 : Code := { maxStack := 4, maxLocals := 4, code := prog_29_method_11_code, exceptionTable := #[], attributes := #[] }
def k2m4 : Method := { name := "forget", desc := "(J)Z", sig := { parameters := [.long], returnType := some .boolean }, accessFlags := 16, code := some k2c4 }
def k2c5 : Code := { maxStack := 3, maxLocals := 1, code := prog_29_method_12_code, exceptionTable := #[], attributes := #[] }
def k2m5 : Method := { name := "olderList", desc := "()Ljava/util/List;", sig := { parameters := [], returnType := some (.object "java/util/List") }, accessFlags := 2, code := some k2c5 }
def k2c6 : Code := { maxStack := 4, maxLocals := 6, code := prog_29_method_14_code, exceptionTable := #[], attributes := #[] }
def k2m6 : Method := { name := "olderNotAbove", desc := "(J)I", sig := { parameters := [.long], returnType := some .int }, accessFlags := 2, code := some k2c6 }
/-- com/example/stampwise/stampwise/Versions -/
def k2 : Class := { plain "com/example/stampwise/stampwise/Versions" (some 0) with
  accessFlags := 32
  interfaces := #[]
  cf := some (fileOf pool2 8 #[.nestMembers #[40]] #[{ accessFlags := 0, nameIndex := 5, descriptorIndex := 101, attributes := #[] }, { accessFlags := 16, nameIndex := 113, descriptorIndex := 114, attributes := #[] }, { accessFlags := 16, nameIndex := 116, descriptorIndex := 78, attributes := #[] }, { accessFlags := 16, nameIndex := 117, descriptorIndex := 118, attributes := #[] }, { accessFlags := 16, nameIndex := 119, descriptorIndex := 120, attributes := #[] }, { accessFlags := 2, nameIndex := 63, descriptorIndex := 64, attributes := #[] }, { accessFlags := 2, nameIndex := 26, descriptorIndex := 27, attributes := #[] }] 32 2 #[] #[{ accessFlags := 18, nameIndex := 15, descriptorIndex := 16, attributes := #[] }, { accessFlags := 2, nameIndex := 19, descriptorIndex := 20, attributes := #[] }, { accessFlags := 2, nameIndex := 11, descriptorIndex := 12, attributes := #[] }, { accessFlags := 2, nameIndex := 53, descriptorIndex := 20, attributes := #[] }, { accessFlags := 2, nameIndex := 32, descriptorIndex := 33, attributes := #[] }, { accessFlags := 2, nameIndex := 23, descriptorIndex := 20, attributes := #[] }])
  fields := #[{ name := "keepsOlder", type := .boolean, accessFlags := 18, slot := 0, constantValue := 0 }, { name := "newestWriteTimestamp", type := .long, accessFlags := 2, slot := 1, constantValue := 0 }, { name := "newestValue", type := (.object "java/lang/Object"), accessFlags := 2, slot := 2, constantValue := 0 }, { name := "newestReadTimestamp", type := .long, accessFlags := 2, slot := 3, constantValue := 0 }, { name := "older", type := (.object "java/util/List"), accessFlags := 2, slot := 4, constantValue := 0 }, { name := "readTimestamp", type := .long, accessFlags := 2, slot := 5, constantValue := 0 }]
  methods := #[k2m0, k2m1, k2m2, k2m3, k2m4, k2m5, k2m6]
  instanceTypes := #[.boolean, .long, (.object "java/lang/Object"), .long, (.object "java/util/List"), .long]
  staticTypes := #[]
  resolved := Array.replicate 143 none
  statics := none }

def pool3 : Array CpInfo := pool [(1, .class_ 2), (0, u "java/io/Serializable"), (0, .class_ 4), (0, u "java/lang/Object")] 2

/-- java/io/Serializable -/
def k3 : Class := { plain "java/io/Serializable" (some 0) with
  accessFlags := 1537
  interfaces := #[]
  cf := some (fileOf pool3 1 #[] #[] 1537 3 #[] #[])
  fields := #[]
  methods := #[]
  instanceTypes := #[]
  staticTypes := #[]
  resolved := Array.replicate 7 none
  statics := none }

def pool4 : Array CpInfo := pool [(2, .class_ 4), (1, u "java/lang/Object"), (0, u "<init>"), (0, u "()V"), (1, .class_ 10), (1, u "java/lang/Number"), (2, .class_ 14), (0, u "java/io/Serializable"), (0, u "serialVersionUID"), (0, u "J")] 20

def k4m0 : Method := { name := "<init>", desc := "()V", sig := { parameters := [], returnType := none }, accessFlags := 1, code := none }
/-- java/lang/Number -/
def k4 : Class := { plain "java/lang/Number" (some 0) with
  accessFlags := 1057
  interfaces := #[3]
  cf := some (fileOf pool4 8 #[] #[{ accessFlags := 1, nameIndex := 5, descriptorIndex := 6, attributes := #[] }] 1057 2 #[13] #[{ accessFlags := 26, nameIndex := 15, descriptorIndex := 16, attributes := #[] }])
  fields := #[{ name := "serialVersionUID", type := .long, accessFlags := 26, slot := 0, constantValue := 0 }]
  methods := #[k4m0]
  instanceTypes := #[]
  staticTypes := #[.long]
  resolved := Array.replicate 37 none
  statics := none }

def pool5 : Array CpInfo := pool [(1, .class_ 2), (0, u "java/lang/Comparable"), (0, .class_ 4), (0, u "java/lang/Object")] 7

/-- java/lang/Comparable -/
def k5 : Class := { plain "java/lang/Comparable" (some 0) with
  accessFlags := 1537
  interfaces := #[]
  cf := some (fileOf pool5 1 #[] #[] 1537 3 #[] #[])
  fields := #[]
  methods := #[]
  instanceTypes := #[]
  staticTypes := #[]
  resolved := Array.replicate 12 none
  statics := none }

def pool6 : Array CpInfo := pool [(1, .class_ 2), (0, u "java/lang/constant/Constable"), (0, .class_ 4), (0, u "java/lang/Object")] 6

/-- java/lang/constant/Constable -/
def k6 : Class := { plain "java/lang/constant/Constable" (some 0) with
  accessFlags := 1537
  interfaces := #[]
  cf := some (fileOf pool6 1 #[] #[] 1537 3 #[] #[])
  fields := #[]
  methods := #[]
  instanceTypes := #[]
  staticTypes := #[]
  resolved := Array.replicate 11 none
  statics := none }

def pool7 : Array CpInfo := pool [(1, .class_ 2), (0, u "java/lang/constant/ConstantDesc"), (0, .class_ 4), (0, u "java/lang/Object")] 32

/-- java/lang/constant/ConstantDesc -/
def k7 : Class := { plain "java/lang/constant/ConstantDesc" (some 0) with
  accessFlags := 1537
  interfaces := #[]
  cf := some (fileOf pool7 1 #[] #[] 1537 3 #[] #[])
  fields := #[]
  methods := #[]
  instanceTypes := #[]
  staticTypes := #[]
  resolved := Array.replicate 37 none
  statics := none }

def pool8 : Array CpInfo := pool [(1, .class_ 2), (0, u "java/lang/Integer"), (16, u "digits"), (0, u "[C"), (64, u "DigitOnes"), (0, u "[B"), (2, u "DigitTens"), (97, u "valueOf"), (0, u "(I)Ljava/lang/Integer;"), (0, .class_ 190), (0, u "java/lang/Integer$IntegerCache"), (0, .fieldref 189 192), (0, .nameAndType 193 194), (0, u "high"), (0, u "I"), (0, .fieldref 189 196), (0, .nameAndType 197 198), (0, u "cache"), (0, u "[Ljava/lang/Integer;"), (4, .class_ 204), (0, u "java/lang/Number"), (2, u "value"), (94, u "TYPE"), (0, u "Ljava/lang/Class;"), (0, .class_ 305), (0, u "java/lang/Comparable"), (0, .class_ 307), (0, u "java/lang/constant/Constable"), (0, .class_ 309), (0, u "java/lang/constant/ConstantDesc"), (0, u "MIN_VALUE"), (1, u "MAX_VALUE"), (3, u "SIZE"), (1, u "BYTES"), (1, u "serialVersionUID"), (0, u "J")] 131

def k8c0 : Code := { maxStack := 3, maxLocals := 1, code := jdk_33_method_22_code, exceptionTable := #[], attributes := #[] }
def k8m0 : Method := { name := "valueOf", desc := "(I)Ljava/lang/Integer;", sig := { parameters := [.int], returnType := some (.object "java/lang/Integer") }, accessFlags := 9, code := some k8c0 }
/-- java/lang/Integer -/
def k8 : Class := { plain "java/lang/Integer" (some 4) with
  accessFlags := 49
  interfaces := #[5, 6, 7]
  cf := some (fileOf pool8 1 #[.nestMembers #[189]] #[{ accessFlags := 9, nameIndex := 187, descriptorIndex := 188, attributes := #[] }] 49 203 #[304, 306, 308] #[{ accessFlags := 25, nameIndex := 310, descriptorIndex := 194, attributes := #[] }, { accessFlags := 25, nameIndex := 312, descriptorIndex := 194, attributes := #[] }, { accessFlags := 25, nameIndex := 302, descriptorIndex := 303, attributes := #[] }, { accessFlags := 24, nameIndex := 19, descriptorIndex := 20, attributes := #[] }, { accessFlags := 24, nameIndex := 89, descriptorIndex := 86, attributes := #[] }, { accessFlags := 24, nameIndex := 85, descriptorIndex := 86, attributes := #[] }, { accessFlags := 18, nameIndex := 207, descriptorIndex := 194, attributes := #[] }, { accessFlags := 25, nameIndex := 316, descriptorIndex := 194, attributes := #[] }, { accessFlags := 25, nameIndex := 318, descriptorIndex := 194, attributes := #[] }, { accessFlags := 26, nameIndex := 320, descriptorIndex := 321, attributes := #[] }])
  fields := #[{ name := "MIN_VALUE", type := .int, accessFlags := 25, slot := 0, constantValue := 0 }, { name := "MAX_VALUE", type := .int, accessFlags := 25, slot := 1, constantValue := 0 }, { name := "TYPE", type := (.object "java/lang/Class"), accessFlags := 25, slot := 2, constantValue := 0 }, { name := "digits", type := (.array .char), accessFlags := 24, slot := 3, constantValue := 0 }, { name := "DigitTens", type := (.array .byte), accessFlags := 24, slot := 4, constantValue := 0 }, { name := "DigitOnes", type := (.array .byte), accessFlags := 24, slot := 5, constantValue := 0 }, { name := "value", type := .int, accessFlags := 18, slot := 0, constantValue := 0 }, { name := "SIZE", type := .int, accessFlags := 25, slot := 6, constantValue := 0 }, { name := "BYTES", type := .int, accessFlags := 25, slot := 7, constantValue := 0 }, { name := "serialVersionUID", type := .long, accessFlags := 26, slot := 8, constantValue := 0 }]
  methods := #[k8m0]
  instanceTypes := #[.int]
  staticTypes := #[.int, .int, (.object "java/lang/Class"), (.array .char), (.array .byte), (.array .byte), .int, .int, .long]
  resolved := Array.replicate 453 none
  statics := none }

def pool9 : Array CpInfo := pool [(2, .class_ 4), (1, u "java/lang/Object"), (0, u "<init>"), (0, u "()V"), (0, .class_ 8), (0, u "java/lang/Integer"), (7, .class_ 18), (1, u "java/lang/Integer$IntegerCache"), (0, u "$assertionsDisabled"), (0, u "Z"), (26, u "high"), (0, u "I"), (8, u "archivedCache"), (0, u "[Ljava/lang/Integer;"), (12, u "cache"), (0, u "low")] 27

def k9m0 : Method := { name := "<init>", desc := "()V", sig := { parameters := [], returnType := none }, accessFlags := 2, code := none }
/-- java/lang/Integer$IntegerCache -/
def k9 : Class := { plain "java/lang/Integer$IntegerCache" (some 0) with
  accessFlags := 48
  interfaces := #[]
  cf := some (fileOf pool9 16 #[.nestHost 7] #[{ accessFlags := 2, nameIndex := 5, descriptorIndex := 6, attributes := #[] }] 48 2 #[] #[{ accessFlags := 24, nameIndex := 72, descriptorIndex := 48, attributes := #[] }, { accessFlags := 24, nameIndex := 47, descriptorIndex := 48, attributes := #[] }, { accessFlags := 24, nameIndex := 71, descriptorIndex := 58, attributes := #[] }, { accessFlags := 8, nameIndex := 57, descriptorIndex := 58, attributes := #[] }, { accessFlags := 4120, nameIndex := 19, descriptorIndex := 20, attributes := #[] }])
  fields := #[{ name := "low", type := .int, accessFlags := 24, slot := 0, constantValue := 0 }, { name := "high", type := .int, accessFlags := 24, slot := 1, constantValue := 0 }, { name := "cache", type := (.array (.object "java/lang/Integer")), accessFlags := 24, slot := 2, constantValue := 0 }, { name := "archivedCache", type := (.array (.object "java/lang/Integer")), accessFlags := 8, slot := 3, constantValue := 0 }, { name := "$assertionsDisabled", type := .boolean, accessFlags := 4120, slot := 4, constantValue := 0 }]
  methods := #[k9m0]
  instanceTypes := #[]
  staticTypes := #[.int, .int, (.array (.object "java/lang/Integer")), (.array (.object "java/lang/Integer")), .boolean]
  resolved := Array.replicate 100 none
  statics := some 0 }

def pool10 : Array CpInfo := pool [(8, .class_ 10), (1, u "java/lang/Iterable"), (24, .class_ 36), (0, u "java/lang/Object")] 25

/-- java/lang/Iterable -/
def k10 : Class := { plain "java/lang/Iterable" (some 0) with
  accessFlags := 1537
  interfaces := #[]
  cf := some (fileOf pool10 8 #[] #[] 1537 35 #[] #[])
  fields := #[]
  methods := #[]
  instanceTypes := #[]
  staticTypes := #[]
  resolved := Array.replicate 62 none
  statics := none }

def pool11 : Array CpInfo := pool [(10, .class_ 12), (1, u "java/util/Collection"), (47, .class_ 61), (0, u "java/lang/Object"), (0, .class_ 63), (0, u "java/lang/Iterable")] 51

/-- java/util/Collection -/
def k11 : Class := { plain "java/util/Collection" (some 0) with
  accessFlags := 1537
  interfaces := #[10]
  cf := some (fileOf pool11 10 #[] #[] 1537 60 #[62] #[])
  fields := #[]
  methods := #[]
  instanceTypes := #[]
  staticTypes := #[]
  resolved := Array.replicate 115 none
  statics := none }

def pool12 : Array CpInfo := pool [(1, .methodref 2 3), (0, .class_ 4), (0, .nameAndType 5 6), (0, u "java/lang/Object"), (0, u "<init>"), (0, u "()V"), (1, .class_ 10), (1, u "java/util/AbstractCollection"), (0, u "size"), (0, u "()I"), (64, .class_ 78), (0, u "java/util/Collection")] 81

def k12c0 : Code := { maxStack := 1, maxLocals := 1, code := jdk_22_method_1_code, exceptionTable := #[], attributes := #[] }
def k12m0 : Method := { name := "<init>", desc := "()V", sig := { parameters := [], returnType := none }, accessFlags := 4, code := some k12c0 }
def k12m1 : Method := { name := "size", desc := "()I", sig := { parameters := [], returnType := some .int }, accessFlags := 1025, code := none }
/-- java/util/AbstractCollection -/
def k12 : Class := { plain "java/util/AbstractCollection" (some 0) with
  accessFlags := 1057
  interfaces := #[11]
  cf := some (fileOf pool12 8 #[] #[{ accessFlags := 4, nameIndex := 5, descriptorIndex := 6, attributes := #[] }, { accessFlags := 1025, nameIndex := 11, descriptorIndex := 12, attributes := #[] }] 1057 2 #[77] #[])
  fields := #[]
  methods := #[k12m0, k12m1]
  instanceTypes := #[]
  staticTypes := #[]
  resolved := Array.replicate 160 none
  statics := none }

def pool13 : Array CpInfo := pool [(8, .class_ 10), (1, u "java/util/SequencedCollection"), (15, .class_ 27), (0, u "java/lang/Object"), (0, .class_ 29), (0, u "java/util/Collection")] 27

/-- java/util/SequencedCollection -/
def k13 : Class := { plain "java/util/SequencedCollection" (some 0) with
  accessFlags := 1537
  interfaces := #[11]
  cf := some (fileOf pool13 8 #[] #[] 1537 26 #[28] #[])
  fields := #[]
  methods := #[]
  instanceTypes := #[]
  staticTypes := #[]
  resolved := Array.replicate 57 none
  statics := none }

def pool14 : Array CpInfo := pool [(8, .class_ 10), (1, u "java/util/List"), (49, u "add"), (0, u "(ILjava/lang/Object;)V"), (2, u "(Ljava/lang/Object;)Z"), (7, u "()V"), (2, u "get"), (0, u "(I)Ljava/lang/Object;"), (2, u "size"), (0, u "()I"), (22, .class_ 104), (0, u "java/lang/Object"), (15, .class_ 121), (0, u "java/util/SequencedCollection"), (47, u "clear"), (12, u "subList"), (0, u "(II)Ljava/util/List;")] 67

def k14m0 : Method := { name := "size", desc := "()I", sig := { parameters := [], returnType := some .int }, accessFlags := 1025, code := none }
def k14m1 : Method := { name := "add", desc := "(Ljava/lang/Object;)Z", sig := { parameters := [(.object "java/lang/Object")], returnType := some .boolean }, accessFlags := 1025, code := none }
def k14m2 : Method := { name := "clear", desc := "()V", sig := { parameters := [], returnType := none }, accessFlags := 1025, code := none }
def k14m3 : Method := { name := "get", desc := "(I)Ljava/lang/Object;", sig := { parameters := [.int], returnType := some (.object "java/lang/Object") }, accessFlags := 1025, code := none }
def k14m4 : Method := { name := "add", desc := "(ILjava/lang/Object;)V", sig := { parameters := [.int, (.object "java/lang/Object")], returnType := none }, accessFlags := 1025, code := none }
def k14m5 : Method := { name := "subList", desc := "(II)Ljava/util/List;", sig := { parameters := [.int, .int], returnType := some (.object "java/util/List") }, accessFlags := 1025, code := none }
/-- java/util/List -/
def k14 : Class := { plain "java/util/List" (some 0) with
  accessFlags := 1537
  interfaces := #[13]
  cf := some (fileOf pool14 8 #[] #[{ accessFlags := 1025, nameIndex := 79, descriptorIndex := 80, attributes := #[] }, { accessFlags := 1025, nameIndex := 60, descriptorIndex := 64, attributes := #[] }, { accessFlags := 1025, nameIndex := 169, descriptorIndex := 72, attributes := #[] }, { accessFlags := 1025, nameIndex := 75, descriptorIndex := 76, attributes := #[] }, { accessFlags := 1025, nameIndex := 60, descriptorIndex := 61, attributes := #[] }, { accessFlags := 1025, nameIndex := 182, descriptorIndex := 183, attributes := #[] }] 1537 103 #[120] #[])
  fields := #[]
  methods := #[k14m0, k14m1, k14m2, k14m3, k14m4, k14m5]
  instanceTypes := #[]
  staticTypes := #[]
  resolved := Array.replicate 251 none
  statics := none }

def pool15 : Array CpInfo := pool [(1, .methodref 2 3), (0, .class_ 4), (0, .nameAndType 5 6), (0, u "java/util/AbstractCollection"), (0, u "<init>"), (0, u "()V"), (0, .fieldref 8 9), (0, .class_ 10), (0, .nameAndType 11 12), (0, u "java/util/AbstractList"), (0, u "modCount"), (0, u "I"), (0, .methodref 8 14), (0, .nameAndType 15 16), (0, u "size"), (0, u "()I"), (42, .methodref 8 60), (0, .nameAndType 61 62), (0, u "removeRange"), (0, u "(II)V"), (14, .class_ 78), (0, u "java/util/AbstractList$Itr"), (3, .class_ 83), (0, u "java/util/AbstractList$ListItr"), (5, u "subListRangeCheck"), (0, u "(III)V"), (2, .class_ 94), (0, u "java/util/AbstractList$RandomAccessSubList"), (3, .class_ 99), (0, u "java/util/AbstractList$SubList"), (33, .class_ 134), (0, u "java/util/List"), (45, u "clear"), (27, .class_ 209), (0, u "java/util/AbstractList$SubList$1"), (0, .class_ 211), (0, u "java/util/AbstractList$RandomAccessSpliterator")] 6

def k15c0 : Code := { maxStack := 2, maxLocals := 1, code := jdk_39_method_1_code, exceptionTable := #[], attributes := #[] }
def k15m0 : Method := { name := "<init>", desc := "()V", sig := { parameters := [], returnType := none }, accessFlags := 4, code := some k15c0 }
def k15c1 : Code := { maxStack := 3, maxLocals := 1, code := jdk_39_method_9_code, exceptionTable := #[], attributes := #[] }
def k15m1 : Method := { name := "clear", desc := "()V", sig := { parameters := [], returnType := none }, accessFlags := 1, code := some k15c1 }
def k15c2 : Code := { maxStack := 4, maxLocals := 3, code := jdk_39_method_15_code, exceptionTable := #[], attributes := #[] }
def k15m2 : Method := { name := "subListRangeCheck", desc := "(III)V", sig := { parameters := [.int, .int, .int], returnType := none }, accessFlags := 8, code := some k15c2 }
def k15c3 : Code := { maxStack := 2, maxLocals := 6, code := ⟨#[0x2a, 0x1b, 0xb6, 0x00, 0x2f, 0x4e, 0x03, 0x36, 0x04, 0x1c, 0x1b, 0x64, 0x36, 0x05, 0x15, 0x04, 0x15, 0x05, 0xa2, 0x00, 0x16, 0x2d, 0xb9, 0x00, 0x22, 0x01, 0x00, 0x57, 0x2d, 0xb9, 0x00, 0x8c, 0x01, 0x00, 0x84, 0x04, 0x01, 0xa7, 0xff, 0xe9, 0xb1]⟩, exceptionTable := #[], attributes := #[] }
def k15m3 : Method := { name := "removeRange", desc := "(II)V", sig := { parameters := [.int, .int], returnType := none }, accessFlags := 4, code := some k15c3 }
/-- java/util/AbstractList -/
def k15 : Class := { plain "java/util/AbstractList" (some 12) with
  accessFlags := 1057
  interfaces := #[14]
  cf := some (fileOf pool15 8 #[.nestMembers #[93, 98, 208, 210, 82, 77]] #[{ accessFlags := 4, nameIndex := 5, descriptorIndex := 6, attributes := #[] }, { accessFlags := 1, nameIndex := 180, descriptorIndex := 6, attributes := #[] }, { accessFlags := 8, nameIndex := 89, descriptorIndex := 90, attributes := #[] }, { accessFlags := 4, nameIndex := 61, descriptorIndex := 62, attributes := #[] }] 1057 2 #[133] #[{ accessFlags := 132, nameIndex := 11, descriptorIndex := 12, attributes := #[] }])
  fields := #[{ name := "modCount", type := .int, accessFlags := 132, slot := 0, constantValue := 0 }]
  methods := #[k15m0, k15m1, k15m2, k15m3]
  instanceTypes := #[.int]
  staticTypes := #[]
  resolved := Array.replicate 218 none
  statics := none }

def pool16 : Array CpInfo := pool [(1, .class_ 2), (0, u "java/util/RandomAccess"), (0, .class_ 4), (0, u "java/lang/Object")] 2

/-- java/util/RandomAccess -/
def k16 : Class := { plain "java/util/RandomAccess" (some 0) with
  accessFlags := 1537
  interfaces := #[]
  cf := some (fileOf pool16 1 #[] #[] 1537 3 #[] #[])
  fields := #[]
  methods := #[]
  instanceTypes := #[]
  staticTypes := #[]
  resolved := Array.replicate 7 none
  statics := none }

def pool17 : Array CpInfo := pool [(1, .class_ 2), (0, u "java/lang/Cloneable"), (0, .class_ 4), (0, u "java/lang/Object")] 2

/-- java/lang/Cloneable -/
def k17 : Class := { plain "java/lang/Cloneable" (some 0) with
  accessFlags := 1537
  interfaces := #[]
  cf := some (fileOf pool17 1 #[] #[] 1537 3 #[] #[])
  fields := #[]
  methods := #[]
  instanceTypes := #[]
  staticTypes := #[]
  resolved := Array.replicate 7 none
  statics := none }

def pool18 : Array CpInfo := pool [(1, .methodref 2 3), (0, .class_ 4), (0, .nameAndType 5 6), (0, u "java/util/AbstractList"), (0, u "<init>"), (0, u "()V"), (0, .class_ 8), (0, u "java/lang/Object"), (0, .fieldref 10 11), (0, .class_ 12), (0, .nameAndType 13 14), (0, u "java/util/ArrayList"), (0, u "elementData"), (0, u "[Ljava/lang/Object;"), (2, u "EMPTY_ELEMENTDATA"), (21, .fieldref 10 40), (0, .nameAndType 41 14), (0, u "DEFAULTCAPACITY_EMPTY_ELEMENTDATA"), (5, u "()[Ljava/lang/Object;"), (0, .fieldref 10 49), (0, .nameAndType 50 51), (0, u "size"), (0, u "I"), (11, .fieldref 10 64), (0, .nameAndType 65 51), (0, u "modCount"), (3, .methodref 10 70), (0, .nameAndType 71 72), (0, u "grow"), (0, u "(I)[Ljava/lang/Object;"), (6, .methodref 80 81), (0, .class_ 82), (0, .nameAndType 83 84), (0, u "java/lang/Math"), (0, u "max"), (0, u "(II)I"), (11, u "(Ljava/lang/Object;)Z"), (15, .methodref 113 114), (0, .class_ 115), (0, .nameAndType 116 117), (0, u "java/lang/System"), (0, u "arraycopy"), (0, u "(Ljava/lang/Object;ILjava/lang/Object;II)V"), (0, .methodref 119 120), (0, .class_ 121), (0, .nameAndType 122 84), (0, u "java/util/Objects"), (0, u "checkIndex"), (0, .methodref 10 124), (0, .nameAndType 13 125), (0, u "(I)Ljava/lang/Object;"), (3, .methodref 10 130), (0, .nameAndType 71 47), (0, .methodref 10 132), (0, .nameAndType 133 134), (0, u "add"), (0, u "(Ljava/lang/Object;[Ljava/lang/Object;I)V"), (0, .methodref 10 136), (0, .nameAndType 137 138), (0, u "rangeCheckForAdd"), (0, u "(I)V"), (2, u "(ILjava/lang/Object;)V"), (6, .class_ 149), (0, u "java/util/List"), (36, u "()I"), (7, .methodref 10 195), (0, .nameAndType 196 197), (0, u "shiftTailOverGap"), (0, u "([Ljava/lang/Object;II)V"), (64, .class_ 263), (0, u "java/util/ArrayList$ListItr"), (3, .class_ 268), (0, u "java/util/ArrayList$Itr"), (3, .methodref 10 273), (0, .nameAndType 274 275), (0, u "subListRangeCheck"), (0, u "(III)V"), (0, .class_ 277), (0, u "java/util/ArrayList$SubList"), (0, .methodref 276 279), (0, .nameAndType 5 280), (0, u "(Ljava/util/ArrayList;II)V"), (9, .class_ 291), (0, u "java/util/ArrayList$ArrayListSpliterator"), (37, .class_ 330), (0, u "java/util/RandomAccess"), (0, .class_ 332), (0, u "java/lang/Cloneable"), (0, .class_ 334), (0, u "java/io/Serializable"), (0, u "serialVersionUID"), (0, u "J"), (3, u "DEFAULT_CAPACITY"), (40, u "get"), (45, u "removeRange"), (0, u "(II)V"), (30, u "subList"), (0, u "(II)Ljava/util/List;"), (39, .class_ 501), (0, u "java/util/ArrayList$SubList$2"), (0, .class_ 503), (0, u "java/util/ArrayList$SubList$1")] 5

def k18c0 : Code := { maxStack := 2, maxLocals := 1, code := jdk_38_method_2_code, exceptionTable := #[], attributes := #[] }
def k18m0 : Method := { name := "<init>", desc := "()V", sig := { parameters := [], returnType := none }, accessFlags := 1, code := some k18c0 }
def k18c1 : Code := { maxStack := 4, maxLocals := 4, code := jdk_38_method_6_code, exceptionTable := #[], attributes := #[] }
def k18m1 : Method := { name := "grow", desc := "(I)[Ljava/lang/Object;", sig := { parameters := [.int], returnType := some (.array (.object "java/lang/Object")) }, accessFlags := 2, code := some k18c1 }
def k18c2 : Code := { maxStack := 3, maxLocals := 1, code := jdk_38_method_7_code, exceptionTable := #[], attributes := #[] }
def k18m2 : Method := { name := "grow", desc := "()[Ljava/lang/Object;", sig := { parameters := [], returnType := some (.array (.object "java/lang/Object")) }, accessFlags := 2, code := some k18c2 }
def k18c3 : Code := { maxStack := 1, maxLocals := 1, code := jdk_38_method_8_code, exceptionTable := #[], attributes := #[] }
def k18m3 : Method := { name := "size", desc := "()I", sig := { parameters := [], returnType := some .int }, accessFlags := 1, code := some k18c3 }
def k18c4 : Code := { maxStack := 2, maxLocals := 2, code := jdk_38_method_18_code, exceptionTable := #[], attributes := #[] }
def k18m4 : Method := { name := "elementData", desc := "(I)Ljava/lang/Object;", sig := { parameters := [.int], returnType := some (.object "java/lang/Object") }, accessFlags := 0, code := some k18c4 }
def k18c5 : Code := { maxStack := 2, maxLocals := 2, code := jdk_38_method_20_code, exceptionTable := #[], attributes := #[] }
def k18m5 : Method := { name := "get", desc := "(I)Ljava/lang/Object;", sig := { parameters := [.int], returnType := some (.object "java/lang/Object") }, accessFlags := 1, code := some k18c5 }
def k18c6 : Code := { maxStack := 3, maxLocals := 4, code := jdk_38_method_24_code, exceptionTable := #[], attributes := #[] }
def k18m6 : Method := { name := "add", desc := "(Ljava/lang/Object;[Ljava/lang/Object;I)V", sig := { parameters := [(.object "java/lang/Object"), (.array (.object "java/lang/Object")), .int], returnType := none }, accessFlags := 2, code := some k18c6 }
def k18c7 : Code := { maxStack := 4, maxLocals := 2, code := jdk_38_method_25_code, exceptionTable := #[], attributes := #[] }
def k18m7 : Method := { name := "add", desc := "(Ljava/lang/Object;)Z", sig := { parameters := [(.object "java/lang/Object")], returnType := some .boolean }, accessFlags := 1, code := some k18c7 }
def k18c8 : Code := { maxStack := 6, maxLocals := 5, code := jdk_38_method_26_code, exceptionTable := #[], attributes := #[] }
def k18m8 : Method := { name := "add", desc := "(ILjava/lang/Object;)V", sig := { parameters := [.int, (.object "java/lang/Object")], returnType := none }, accessFlags := 1, code := some k18c8 }
def k18c9 : Code := { maxStack := 4, maxLocals := 3, code := jdk_38_method_43_code, exceptionTable := #[], attributes := #[] }
def k18m9 : Method := { name := "removeRange", desc := "(II)V", sig := { parameters := [.int, .int], returnType := none }, accessFlags := 4, code := some k18c9 }
def k18c10 : Code := { maxStack := 6, maxLocals := 6, code := jdk_38_method_44_code, exceptionTable := #[], attributes := #[] }
def k18m10 : Method := { name := "shiftTailOverGap", desc := "([Ljava/lang/Object;II)V", sig := { parameters := [(.array (.object "java/lang/Object")), .int, .int], returnType := none }, accessFlags := 2, code := some k18c10 }
def k18c11 : Code := { maxStack := 4, maxLocals := 2, code := jdk_38_method_45_code, exceptionTable := #[], attributes := #[] }
def k18m11 : Method := { name := "rangeCheckForAdd", desc := "(I)V", sig := { parameters := [.int], returnType := none }, accessFlags := 2, code := some k18c11 }
def k18c12 : Code := { maxStack := 5, maxLocals := 3, code := jdk_38_method_56_code, exceptionTable := #[], attributes := #[] }
def k18m12 : Method := { name := "subList", desc := "(II)Ljava/util/List;", sig := { parameters := [.int, .int], returnType := some (.object "java/util/List") }, accessFlags := 1, code := some k18c12 }
/-- java/util/ArrayList -/
def k18 : Class := { plain "java/util/ArrayList" (some 15) with
  accessFlags := 33
  interfaces := #[14, 16, 17, 3]
  cf := some (fileOf pool18 10 #[.nestMembers #[290, 276, 500, 502, 262, 267]] #[{ accessFlags := 1, nameIndex := 5, descriptorIndex := 6, attributes := #[] }, { accessFlags := 2, nameIndex := 71, descriptorIndex := 72, attributes := #[] }, { accessFlags := 2, nameIndex := 71, descriptorIndex := 47, attributes := #[] }, { accessFlags := 1, nameIndex := 50, descriptorIndex := 186, attributes := #[] }, { accessFlags := 0, nameIndex := 13, descriptorIndex := 125, attributes := #[] }, { accessFlags := 1, nameIndex := 381, descriptorIndex := 125, attributes := #[] }, { accessFlags := 2, nameIndex := 133, descriptorIndex := 134, attributes := #[] }, { accessFlags := 1, nameIndex := 133, descriptorIndex := 96, attributes := #[] }, { accessFlags := 1, nameIndex := 133, descriptorIndex := 141, attributes := #[] }, { accessFlags := 4, nameIndex := 427, descriptorIndex := 428, attributes := #[] }, { accessFlags := 2, nameIndex := 196, descriptorIndex := 197, attributes := #[] }, { accessFlags := 2, nameIndex := 137, descriptorIndex := 138, attributes := #[] }, { accessFlags := 1, nameIndex := 459, descriptorIndex := 460, attributes := #[] }] 33 2 #[148, 329, 331, 333] #[{ accessFlags := 26, nameIndex := 335, descriptorIndex := 336, attributes := #[] }, { accessFlags := 26, nameIndex := 340, descriptorIndex := 51, attributes := #[] }, { accessFlags := 26, nameIndex := 17, descriptorIndex := 14, attributes := #[] }, { accessFlags := 26, nameIndex := 41, descriptorIndex := 14, attributes := #[] }, { accessFlags := 128, nameIndex := 13, descriptorIndex := 14, attributes := #[] }, { accessFlags := 2, nameIndex := 50, descriptorIndex := 51, attributes := #[] }])
  fields := #[{ name := "serialVersionUID", type := .long, accessFlags := 26, slot := 0, constantValue := 0 }, { name := "DEFAULT_CAPACITY", type := .int, accessFlags := 26, slot := 1, constantValue := 0 }, { name := "EMPTY_ELEMENTDATA", type := (.array (.object "java/lang/Object")), accessFlags := 26, slot := 2, constantValue := 0 }, { name := "DEFAULTCAPACITY_EMPTY_ELEMENTDATA", type := (.array (.object "java/lang/Object")), accessFlags := 26, slot := 3, constantValue := 0 }, { name := "elementData", type := (.array (.object "java/lang/Object")), accessFlags := 128, slot := 1, constantValue := 0 }, { name := "size", type := .int, accessFlags := 2, slot := 2, constantValue := 0 }]
  methods := #[k18m0, k18m1, k18m2, k18m3, k18m4, k18m5, k18m6, k18m7, k18m8, k18m9, k18m10, k18m11, k18m12]
  instanceTypes := #[.int, (.array (.object "java/lang/Object")), .int]
  staticTypes := #[.long, .int, (.array (.object "java/lang/Object")), (.array (.object "java/lang/Object"))]
  resolved := Array.replicate 509 none
  statics := some 1 }

def pool19 : Array CpInfo := pool [(1, .methodref 2 3), (0, .class_ 4), (0, .nameAndType 5 6), (0, u "java/lang/Object"), (0, u "<init>"), (0, u "()V"), (0, .fieldref 8 9), (0, .class_ 10), (0, .nameAndType 11 12), (0, u "com/example/stampwise/stampwise/Versions$Older"), (0, u "writeTimestamp"), (0, u "J"), (0, .fieldref 8 14), (0, .nameAndType 15 16), (0, u "value"), (0, u "Ljava/lang/Object;"), (0, .fieldref 8 18), (0, .nameAndType 19 12), (0, u "readTimestamp"), (2, u "(JLjava/lang/Object;J)V"), (7, .class_ 31), (0, u "com/example/stampwise/stampwise/Versions")] 2

def k19c0 : Code := { maxStack := 3, maxLocals := 6, code := prog_30_method_1_code, exceptionTable := #[], attributes := #[] }
def k19m0 : Method := { name := "<init>", desc := "(JLjava/lang/Object;J)V", sig := { parameters := [.long, (.object "java/lang/Object"), .long], returnType := none }, accessFlags := 0, code := some k19c0 }
/-- com/example/stampwise/stampwise/Versions$Older -/
def k19 : Class := { plain "com/example/stampwise/stampwise/Versions$Older" (some 0) with
  accessFlags := 48
  interfaces := #[]
  cf := some (fileOf pool19 8 #[.nestHost 30] #[{ accessFlags := 0, nameIndex := 5, descriptorIndex := 22, attributes := #[] }] 48 2 #[] #[{ accessFlags := 16, nameIndex := 11, descriptorIndex := 12, attributes := #[] }, { accessFlags := 0, nameIndex := 15, descriptorIndex := 16, attributes := #[] }, { accessFlags := 0, nameIndex := 19, descriptorIndex := 12, attributes := #[] }])
  fields := #[{ name := "writeTimestamp", type := .long, accessFlags := 16, slot := 0, constantValue := 0 }, { name := "value", type := (.object "java/lang/Object"), accessFlags := 0, slot := 1, constantValue := 0 }, { name := "readTimestamp", type := .long, accessFlags := 0, slot := 2, constantValue := 0 }]
  methods := #[k19m0]
  instanceTypes := #[.long, (.object "java/lang/Object"), .long]
  staticTypes := #[]
  resolved := Array.replicate 34 none
  statics := none }

def pool20 : Array CpInfo := pool [(1, .class_ 2), (0, u "java/lang/Math"), (1, .class_ 6), (1, u "java/lang/Object"), (0, u "<init>"), (0, u "()V"), (89, .class_ 100), (1, u "java/lang/Math$RandomNumberGeneratorHolder"), (20, u "(JJ)J"), (50, u "negativeZeroFloatBits"), (0, u "J"), (2, u "negativeZeroDoubleBits"), (21, u "max"), (46, u "$assertionsDisabled"), (0, u "Z"), (88, u "(II)I"), (2, u "twoToTheDoubleScaleDown"), (0, u "D"), (4, u "twoToTheDoubleScaleUp"), (9, u "E"), (3, u "PI"), (2, u "TAU"), (2, u "DEGREES_TO_RADIANS"), (0, u "RADIANS_TO_DEGREES")] 94

def k20m0 : Method := { name := "<init>", desc := "()V", sig := { parameters := [], returnType := none }, accessFlags := 2, code := none }
def k20c1 : Code := { maxStack := 2, maxLocals := 2, code := jdk_29_method_65_code, exceptionTable := #[], attributes := #[] }
def k20m1 : Method := { name := "max", desc := "(II)I", sig := { parameters := [.int, .int], returnType := some .int }, accessFlags := 9, code := some k20c1 }
def k20c2 : Code := { maxStack := 4, maxLocals := 4, code := jdk_29_method_66_code, exceptionTable := #[], attributes := #[] }
def k20m2 : Method := { name := "max", desc := "(JJ)J", sig := { parameters := [.long, .long], returnType := some .long }, accessFlags := 9, code := some k20c2 }
/-- java/lang/Math -/
def k20 : Class := { plain "java/lang/Math" (some 0) with
  accessFlags := 49
  interfaces := #[]
  cf := some (fileOf pool20 1 #[.nestMembers #[98]] #[{ accessFlags := 2, nameIndex := 7, descriptorIndex := 8, attributes := #[] }, { accessFlags := 9, nameIndex := 198, descriptorIndex := 335, attributes := #[] }, { accessFlags := 9, nameIndex := 198, descriptorIndex := 121, attributes := #[] }] 49 4 #[] #[{ accessFlags := 25, nameIndex := 354, descriptorIndex := 339, attributes := #[] }, { accessFlags := 25, nameIndex := 358, descriptorIndex := 339, attributes := #[] }, { accessFlags := 25, nameIndex := 361, descriptorIndex := 339, attributes := #[] }, { accessFlags := 26, nameIndex := 364, descriptorIndex := 339, attributes := #[] }, { accessFlags := 26, nameIndex := 365, descriptorIndex := 339, attributes := #[] }, { accessFlags := 26, nameIndex := 172, descriptorIndex := 173, attributes := #[] }, { accessFlags := 26, nameIndex := 176, descriptorIndex := 173, attributes := #[] }, { accessFlags := 8, nameIndex := 344, descriptorIndex := 339, attributes := #[] }, { accessFlags := 8, nameIndex := 338, descriptorIndex := 339, attributes := #[] }, { accessFlags := 4120, nameIndex := 245, descriptorIndex := 246, attributes := #[] }])
  fields := #[{ name := "E", type := .double, accessFlags := 25, slot := 0, constantValue := 0 }, { name := "PI", type := .double, accessFlags := 25, slot := 1, constantValue := 0 }, { name := "TAU", type := .double, accessFlags := 25, slot := 2, constantValue := 0 }, { name := "DEGREES_TO_RADIANS", type := .double, accessFlags := 26, slot := 3, constantValue := 0 }, { name := "RADIANS_TO_DEGREES", type := .double, accessFlags := 26, slot := 4, constantValue := 0 }, { name := "negativeZeroFloatBits", type := .long, accessFlags := 26, slot := 5, constantValue := 0 }, { name := "negativeZeroDoubleBits", type := .long, accessFlags := 26, slot := 6, constantValue := 0 }, { name := "twoToTheDoubleScaleUp", type := .double, accessFlags := 8, slot := 7, constantValue := 0 }, { name := "twoToTheDoubleScaleDown", type := .double, accessFlags := 8, slot := 8, constantValue := 0 }, { name := "$assertionsDisabled", type := .boolean, accessFlags := 4120, slot := 9, constantValue := 0 }]
  methods := #[k20m0, k20m1, k20m2]
  instanceTypes := #[]
  staticTypes := #[.double, .double, .double, .double, .double, .long, .long, .double, .double, .boolean]
  resolved := Array.replicate 460 none
  statics := none }

def pool21 : Array CpInfo := pool [(2, .class_ 4), (1, u "java/lang/Object"), (0, u "<init>"), (0, u "()V"), (35, .class_ 44), (1, u "java/util/Objects"), (60, .methodref 106 107), (0, .class_ 108), (0, .nameAndType 109 110), (0, u "jdk/internal/util/Preconditions"), (0, u "checkIndex"), (0, u "(IILjava/util/function/BiFunction;)I"), (60, u "(II)I")] 12

def k21m0 : Method := { name := "<init>", desc := "()V", sig := { parameters := [], returnType := none }, accessFlags := 2, code := none }
def k21c1 : Code := { maxStack := 3, maxLocals := 2, code := jdk_31_method_17_code, exceptionTable := #[], attributes := #[] }
def k21m1 : Method := { name := "checkIndex", desc := "(II)I", sig := { parameters := [.int, .int], returnType := some .int }, accessFlags := 9, code := some k21c1 }
/-- java/util/Objects -/
def k21 : Class := { plain "java/util/Objects" (some 0) with
  accessFlags := 49
  interfaces := #[]
  cf := some (fileOf pool21 42 #[] #[{ accessFlags := 2, nameIndex := 5, descriptorIndex := 6, attributes := #[] }, { accessFlags := 9, nameIndex := 109, descriptorIndex := 171, attributes := #[] }] 49 2 #[] #[])
  fields := #[]
  methods := #[k21m0, k21m1]
  instanceTypes := #[]
  staticTypes := #[]
  resolved := Array.replicate 184 none
  statics := none }

def pool22 : Array CpInfo := pool [(2, .class_ 4), (1, u "java/lang/Object"), (0, u "<init>"), (0, u "()V"), (17, .class_ 26), (1, u "jdk/internal/util/Preconditions"), (6, u "checkIndex"), (21, .class_ 56), (0, u "jdk/internal/util/Preconditions$4"), (57, .class_ 115), (0, u "jdk/internal/util/Preconditions$1"), (7, u "SIOOBE_FORMATTER"), (0, u "Ljava/util/function/BiFunction;"), (0, .class_ 126), (0, u "jdk/internal/util/Preconditions$2"), (3, u "AIOOBE_FORMATTER"), (0, .class_ 132), (0, u "jdk/internal/util/Preconditions$3"), (3, u "IOOBE_FORMATTER"), (41, u "(IILjava/util/function/BiFunction;)I")] 15

def k22m0 : Method := { name := "<init>", desc := "()V", sig := { parameters := [], returnType := none }, accessFlags := 1, code := none }
def k22c1 : Code := { maxStack := 3, maxLocals := 3, code := jdk_41_method_11_code, exceptionTable := #[], attributes := #[] }
def k22m1 : Method := { name := "checkIndex", desc := "(IILjava/util/function/BiFunction;)I", sig := { parameters := [.int, .int, (.object "java/util/function/BiFunction")], returnType := some .int }, accessFlags := 9, code := some k22c1 }
/-- jdk/internal/util/Preconditions -/
def k22 : Class := { plain "jdk/internal/util/Preconditions" (some 0) with
  accessFlags := 33
  interfaces := #[]
  cf := some (fileOf pool22 24 #[.nestMembers #[55, 131, 125, 114]] #[{ accessFlags := 1, nameIndex := 5, descriptorIndex := 6, attributes := #[] }, { accessFlags := 9, nameIndex := 33, descriptorIndex := 178, attributes := #[] }] 33 2 #[] #[{ accessFlags := 25, nameIndex := 123, descriptorIndex := 124, attributes := #[] }, { accessFlags := 25, nameIndex := 130, descriptorIndex := 124, attributes := #[] }, { accessFlags := 25, nameIndex := 136, descriptorIndex := 124, attributes := #[] }])
  fields := #[{ name := "SIOOBE_FORMATTER", type := (.object "java/util/function/BiFunction"), accessFlags := 25, slot := 0, constantValue := 0 }, { name := "AIOOBE_FORMATTER", type := (.object "java/util/function/BiFunction"), accessFlags := 25, slot := 1, constantValue := 0 }, { name := "IOOBE_FORMATTER", type := (.object "java/util/function/BiFunction"), accessFlags := 25, slot := 2, constantValue := 0 }]
  methods := #[k22m0, k22m1]
  instanceTypes := #[]
  staticTypes := #[(.object "java/util/function/BiFunction"), (.object "java/util/function/BiFunction"), (.object "java/util/function/BiFunction")]
  resolved := Array.replicate 194 none
  statics := none }

def pool23 : Array CpInfo := pool [(2, .class_ 4), (1, u "java/lang/Object"), (0, u "<init>"), (0, u "()V"), (1, .class_ 10), (1, u "java/lang/System"), (0, u "allowSecurityManager"), (0, u "I"), (16, u "cons"), (0, u "Ljava/io/Console;"), (77, .class_ 110), (1, u "java/lang/System$CallersHolder"), (43, u "initialErrStream"), (0, u "Ljava/io/PrintStream;"), (19, u "security"), (0, u "Ljava/lang/SecurityManager;"), (31, .class_ 209), (0, u "java/lang/System$1"), (7, u "props"), (0, u "Ljava/util/Properties;"), (2, u "lineSeparator"), (0, u "Ljava/lang/String;"), (96, .class_ 321), (1, u "java/lang/System$LoggerFinder"), (5, .class_ 328), (0, u "java/lang/System$Logger"), (67, u "err"), (2, u "out"), (91, u "notSupportedJnuEncoding"), (15, u "in"), (17, u "initialIn"), (0, u "Ljava/io/InputStream;"), (35, u "bootLayer"), (0, u "Ljava/lang/ModuleLayer;"), (99, .class_ 664), (0, u "java/lang/System$2"), (9, u "NEVER"), (2, u "MAYBE"), (49, u "arraycopy"), (0, u "(Ljava/lang/Object;ILjava/lang/Object;II)V"), (72, .class_ 802), (0, u "java/lang/System$Logger$Level")] 31

def k23m0 : Method := { name := "<init>", desc := "()V", sig := { parameters := [], returnType := none }, accessFlags := 2, code := none }
def k23m1 : Method := { name := "arraycopy", desc := "(Ljava/lang/Object;ILjava/lang/Object;II)V", sig := { parameters := [(.object "java/lang/Object"), .int, (.object "java/lang/Object"), .int, .int], returnType := none }, accessFlags := 265, code := none }
/-- java/lang/System -/
def k23 : Class := { plain "java/lang/System" (some 0) with
  accessFlags := 49
  interfaces := #[]
  cf := some (fileOf pool23 8 #[.nestMembers #[319, 327, 801, 108, 663, 208]] #[{ accessFlags := 2, nameIndex := 5, descriptorIndex := 6, attributes := #[] }, { accessFlags := 265, nameIndex := 727, descriptorIndex := 728, attributes := #[] }] 49 2 #[] #[{ accessFlags := 25, nameIndex := 507, descriptorIndex := 526, attributes := #[] }, { accessFlags := 25, nameIndex := 399, descriptorIndex := 155, attributes := #[] }, { accessFlags := 25, nameIndex := 396, descriptorIndex := 155, attributes := #[] }, { accessFlags := 10, nameIndex := 525, descriptorIndex := 526, attributes := #[] }, { accessFlags := 26, nameIndex := 674, descriptorIndex := 12, attributes := #[] }, { accessFlags := 26, nameIndex := 677, descriptorIndex := 12, attributes := #[] }, { accessFlags := 10, nameIndex := 11, descriptorIndex := 12, attributes := #[] }, { accessFlags := 74, nameIndex := 175, descriptorIndex := 176, attributes := #[] }, { accessFlags := 10, nameIndex := 491, descriptorIndex := 222, attributes := #[] }, { accessFlags := 74, nameIndex := 29, descriptorIndex := 30, attributes := #[] }, { accessFlags := 74, nameIndex := 154, descriptorIndex := 155, attributes := #[] }, { accessFlags := 10, nameIndex := 217, descriptorIndex := 218, attributes := #[] }, { accessFlags := 10, nameIndex := 221, descriptorIndex := 222, attributes := #[] }, { accessFlags := 8, nameIndex := 562, descriptorIndex := 563, attributes := #[] }])
  fields := #[{ name := "in", type := (.object "java/io/InputStream"), accessFlags := 25, slot := 0, constantValue := 0 }, { name := "out", type := (.object "java/io/PrintStream"), accessFlags := 25, slot := 1, constantValue := 0 }, { name := "err", type := (.object "java/io/PrintStream"), accessFlags := 25, slot := 2, constantValue := 0 }, { name := "initialIn", type := (.object "java/io/InputStream"), accessFlags := 10, slot := 3, constantValue := 0 }, { name := "NEVER", type := .int, accessFlags := 26, slot := 4, constantValue := 0 }, { name := "MAYBE", type := .int, accessFlags := 26, slot := 5, constantValue := 0 }, { name := "allowSecurityManager", type := .int, accessFlags := 10, slot := 6, constantValue := 0 }, { name := "security", type := (.object "java/lang/SecurityManager"), accessFlags := 74, slot := 7, constantValue := 0 }, { name := "notSupportedJnuEncoding", type := (.object "java/lang/String"), accessFlags := 10, slot := 8, constantValue := 0 }, { name := "cons", type := (.object "java/io/Console"), accessFlags := 74, slot := 9, constantValue := 0 }, { name := "initialErrStream", type := (.object "java/io/PrintStream"), accessFlags := 74, slot := 10, constantValue := 0 }, { name := "props", type := (.object "java/util/Properties"), accessFlags := 10, slot := 11, constantValue := 0 }, { name := "lineSeparator", type := (.object "java/lang/String"), accessFlags := 10, slot := 12, constantValue := 0 }, { name := "bootLayer", type := (.object "java/lang/ModuleLayer"), accessFlags := 8, slot := 13, constantValue := 0 }]
  methods := #[k23m0, k23m1]
  instanceTypes := #[]
  staticTypes := #[(.object "java/io/InputStream"), (.object "java/io/PrintStream"), (.object "java/io/PrintStream"), (.object "java/io/InputStream"), .int, .int, .int, (.object "java/lang/SecurityManager"), (.object "java/lang/String"), (.object "java/io/Console"), (.object "java/io/PrintStream"), (.object "java/util/Properties"), (.object "java/lang/String"), (.object "java/lang/ModuleLayer")]
  resolved := Array.replicate 834 none
  statics := none }

def pool24 : Array CpInfo := pool [(1, .methodref 2 3), (0, .class_ 4), (0, .nameAndType 5 6), (0, u "java/util/AbstractList"), (0, u "<init>"), (0, u "()V"), (0, .fieldref 8 9), (0, .class_ 10), (0, .nameAndType 11 12), (0, u "java/util/ArrayList$SubList"), (0, u "root"), (0, u "Ljava/util/ArrayList;"), (0, .fieldref 8 14), (0, .nameAndType 15 16), (0, u "parent"), (0, u "Ljava/util/ArrayList$SubList;"), (0, .fieldref 8 18), (0, .nameAndType 19 20), (0, u "offset"), (0, u "I"), (0, .fieldref 8 22), (0, .nameAndType 23 20), (0, u "size"), (0, .fieldref 25 26), (0, .class_ 27), (0, .nameAndType 28 20), (0, u "java/util/ArrayList"), (0, u "modCount"), (0, .fieldref 8 26), (6, .methodref 8 37), (0, .nameAndType 38 6), (0, u "checkForComodification"), (10, u "(I)V"), (4, .methodref 8 55), (0, .nameAndType 56 49), (0, u "updateSizeAndModCount"), (3, .methodref 25 61), (0, .nameAndType 62 63), (0, u "removeRange"), (0, u "(II)V"), (8, u "()I"), (109, .class_ 183), (0, u "java/util/RandomAccess"), (3, u "(Ljava/util/ArrayList;II)V")] 82

def k24c0 : Code := { maxStack := 3, maxLocals := 4, code := jdk_130_method_1_code, exceptionTable := #[], attributes := #[] }
def k24m0 : Method := { name := "<init>", desc := "(Ljava/util/ArrayList;II)V", sig := { parameters := [(.object "java/util/ArrayList"), .int, .int], returnType := none }, accessFlags := 1, code := some k24c0 }
def k24c1 : Code := { maxStack := 1, maxLocals := 1, code := jdk_130_method_5_code, exceptionTable := #[], attributes := #[] }
def k24m1 : Method := { name := "size", desc := "()I", sig := { parameters := [], returnType := some .int }, accessFlags := 1, code := some k24c1 }
def k24c2 : Code := { maxStack := 4, maxLocals := 3, code := jdk_130_method_8_code, exceptionTable := #[], attributes := #[] }
def k24m2 : Method := { name := "removeRange", desc := "(II)V", sig := { parameters := [.int, .int], returnType := none }, accessFlags := 4, code := some k24c2 }
def k24c3 : Code := { maxStack := 2, maxLocals := 1, code := jdk_130_method_28_code, exceptionTable := #[], attributes := #[] }
def k24m3 : Method := { name := "checkForComodification", desc := "()V", sig := { parameters := [], returnType := none }, accessFlags := 2, code := some k24c3 }
def k24c4 : Code := { maxStack := 3, maxLocals := 3, code := jdk_130_method_29_code, exceptionTable := #[], attributes := #[] }
def k24m4 : Method := { name := "updateSizeAndModCount", desc := "(I)V", sig := { parameters := [.int], returnType := none }, accessFlags := 2, code := some k24c4 }
/-- java/util/ArrayList$SubList -/
def k24 : Class := { plain "java/util/ArrayList$SubList" (some 15) with
  accessFlags := 32
  interfaces := #[16]
  cf := some (fileOf pool24 8 #[.nestHost 25] #[{ accessFlags := 1, nameIndex := 5, descriptorIndex := 187, attributes := #[] }, { accessFlags := 1, nameIndex := 23, descriptorIndex := 72, attributes := #[] }, { accessFlags := 4, nameIndex := 62, descriptorIndex := 63, attributes := #[] }, { accessFlags := 2, nameIndex := 38, descriptorIndex := 6, attributes := #[] }, { accessFlags := 2, nameIndex := 56, descriptorIndex := 49, attributes := #[] }] 32 2 #[182] #[{ accessFlags := 18, nameIndex := 11, descriptorIndex := 12, attributes := #[] }, { accessFlags := 18, nameIndex := 15, descriptorIndex := 16, attributes := #[] }, { accessFlags := 18, nameIndex := 19, descriptorIndex := 20, attributes := #[] }, { accessFlags := 2, nameIndex := 23, descriptorIndex := 20, attributes := #[] }])
  fields := #[{ name := "root", type := (.object "java/util/ArrayList"), accessFlags := 18, slot := 1, constantValue := 0 }, { name := "parent", type := (.object "java/util/ArrayList$SubList"), accessFlags := 18, slot := 2, constantValue := 0 }, { name := "offset", type := .int, accessFlags := 18, slot := 3, constantValue := 0 }, { name := "size", type := .int, accessFlags := 2, slot := 4, constantValue := 0 }]
  methods := #[k24m0, k24m1, k24m2, k24m3, k24m4]
  instanceTypes := #[.int, (.object "java/util/ArrayList"), (.object "java/util/ArrayList$SubList"), .int, .int]
  staticTypes := #[]
  resolved := Array.replicate 270 none
  statics := none }

/-- the primitive byte -/
def k25 : Class := { plain "byte" none with kind := .primitive 'B', accessFlags := 0x411 }
/-- [B -/
def k26 : Class := { plain "[B" (some 0) with kind := .array 25 .byte, interfaces := #[17, 3], accessFlags := 1041 }

/-- the primitive int -/
def k27 : Class := { plain "int" none with kind := .primitive 'I', accessFlags := 0x411 }
/-- [I -/
def k28 : Class := { plain "[I" (some 0) with kind := .array 27 .int, interfaces := #[17, 3], accessFlags := 1041 }

/-- [Ljava/lang/Integer; -/
def k29 : Class := { plain "[Ljava/lang/Integer;" (some 0) with kind := .array 8 (.object "java/lang/Integer"), interfaces := #[17, 3], accessFlags := 1041 }

/-- [Ljava/lang/Object; -/
def k30 : Class := { plain "[Ljava/lang/Object;" (some 0) with kind := .array 0 (.object "java/lang/Object"), interfaces := #[17, 3], accessFlags := 1041 }

def heap : Heap := #[{ cls := 9, slots := #[.int 0, .int 127, .ref 2, .null, .int 0], vm := .statics 9 },
  { cls := 18, slots := #[.long 0, .int 0, .ref 3, .ref 4], vm := .statics 18 },
  { cls := 29, slots := #[.ref 5, .ref 6, .ref 7, .ref 8, .ref 9, .ref 10, .ref 11, .ref 12, .ref 13, .ref 14, .ref 15, .ref 16, .ref 17, .ref 18, .ref 19, .ref 20, .ref 21, .ref 22, .ref 23, .ref 24, .ref 25, .ref 26, .ref 27, .ref 28, .ref 29, .ref 30, .ref 31, .ref 32, .ref 33, .ref 34, .ref 35, .ref 36, .ref 37, .ref 38, .ref 39, .ref 40, .ref 41, .ref 42, .ref 43, .ref 44, .ref 45, .ref 46, .ref 47, .ref 48, .ref 49, .ref 50, .ref 51, .ref 52, .ref 53, .ref 54, .ref 55, .ref 56, .ref 57, .ref 58, .ref 59, .ref 60, .ref 61, .ref 62, .ref 63, .ref 64, .ref 65, .ref 66, .ref 67, .ref 68, .ref 69, .ref 70, .ref 71, .ref 72, .ref 73, .ref 74, .ref 75, .ref 76, .ref 77, .ref 78, .ref 79, .ref 80, .ref 81, .ref 82, .ref 83, .ref 84, .ref 85, .ref 86, .ref 87, .ref 88, .ref 89, .ref 90, .ref 91, .ref 92, .ref 93, .ref 94, .ref 95, .ref 96, .ref 97, .ref 98, .ref 99, .ref 100, .ref 101, .ref 102, .ref 103, .ref 104, .ref 105, .ref 106, .ref 107, .ref 108, .ref 109, .ref 110, .ref 111, .ref 112, .ref 113, .ref 114, .ref 115, .ref 116, .ref 117, .ref 118, .ref 119, .ref 120, .ref 121, .ref 122, .ref 123, .ref 124, .ref 125, .ref 126, .ref 127, .ref 128, .ref 129, .ref 130, .ref 131, .ref 132, .ref 133, .ref 134, .ref 135, .ref 136, .ref 137, .ref 138, .ref 139, .ref 140, .ref 141, .ref 142, .ref 143, .ref 144, .ref 145, .ref 146, .ref 147, .ref 148, .ref 149, .ref 150, .ref 151, .ref 152, .ref 153, .ref 154, .ref 155, .ref 156, .ref 157, .ref 158, .ref 159, .ref 160, .ref 161, .ref 162, .ref 163, .ref 164, .ref 165, .ref 166, .ref 167, .ref 168, .ref 169, .ref 170, .ref 171, .ref 172, .ref 173, .ref 174, .ref 175, .ref 176, .ref 177, .ref 178, .ref 179, .ref 180, .ref 181, .ref 182, .ref 183, .ref 184, .ref 185, .ref 186, .ref 187, .ref 188, .ref 189, .ref 190, .ref 191, .ref 192, .ref 193, .ref 194, .ref 195, .ref 196, .ref 197, .ref 198, .ref 199, .ref 200, .ref 201, .ref 202, .ref 203, .ref 204, .ref 205, .ref 206, .ref 207, .ref 208, .ref 209, .ref 210, .ref 211, .ref 212, .ref 213, .ref 214, .ref 215, .ref 216, .ref 217, .ref 218, .ref 219, .ref 220, .ref 221, .ref 222, .ref 223, .ref 224, .ref 225, .ref 226, .ref 227, .ref 228, .ref 229, .ref 230, .ref 231, .ref 232, .ref 233, .ref 234, .ref 235, .ref 236, .ref 237, .ref 238, .ref 239, .ref 240, .ref 241, .ref 242, .ref 243, .ref 244, .ref 245, .ref 246, .ref 247, .ref 248, .ref 249, .ref 250, .ref 251, .ref 252, .ref 253, .ref 254, .ref 255, .ref 256, .ref 257, .ref 258, .ref 259, .ref 260], vm := .none },
  { cls := 30, slots := #[], vm := .none },
  { cls := 30, slots := #[], vm := .none },
  { cls := 8, slots := #[.int (-128)], vm := .none },
  { cls := 8, slots := #[.int (-127)], vm := .none },
  { cls := 8, slots := #[.int (-126)], vm := .none },
  { cls := 8, slots := #[.int (-125)], vm := .none },
  { cls := 8, slots := #[.int (-124)], vm := .none },
  { cls := 8, slots := #[.int (-123)], vm := .none },
  { cls := 8, slots := #[.int (-122)], vm := .none },
  { cls := 8, slots := #[.int (-121)], vm := .none },
  { cls := 8, slots := #[.int (-120)], vm := .none },
  { cls := 8, slots := #[.int (-119)], vm := .none },
  { cls := 8, slots := #[.int (-118)], vm := .none },
  { cls := 8, slots := #[.int (-117)], vm := .none },
  { cls := 8, slots := #[.int (-116)], vm := .none },
  { cls := 8, slots := #[.int (-115)], vm := .none },
  { cls := 8, slots := #[.int (-114)], vm := .none },
  { cls := 8, slots := #[.int (-113)], vm := .none },
  { cls := 8, slots := #[.int (-112)], vm := .none },
  { cls := 8, slots := #[.int (-111)], vm := .none },
  { cls := 8, slots := #[.int (-110)], vm := .none },
  { cls := 8, slots := #[.int (-109)], vm := .none },
  { cls := 8, slots := #[.int (-108)], vm := .none },
  { cls := 8, slots := #[.int (-107)], vm := .none },
  { cls := 8, slots := #[.int (-106)], vm := .none },
  { cls := 8, slots := #[.int (-105)], vm := .none },
  { cls := 8, slots := #[.int (-104)], vm := .none },
  { cls := 8, slots := #[.int (-103)], vm := .none },
  { cls := 8, slots := #[.int (-102)], vm := .none },
  { cls := 8, slots := #[.int (-101)], vm := .none },
  { cls := 8, slots := #[.int (-100)], vm := .none },
  { cls := 8, slots := #[.int (-99)], vm := .none },
  { cls := 8, slots := #[.int (-98)], vm := .none },
  { cls := 8, slots := #[.int (-97)], vm := .none },
  { cls := 8, slots := #[.int (-96)], vm := .none },
  { cls := 8, slots := #[.int (-95)], vm := .none },
  { cls := 8, slots := #[.int (-94)], vm := .none },
  { cls := 8, slots := #[.int (-93)], vm := .none },
  { cls := 8, slots := #[.int (-92)], vm := .none },
  { cls := 8, slots := #[.int (-91)], vm := .none },
  { cls := 8, slots := #[.int (-90)], vm := .none },
  { cls := 8, slots := #[.int (-89)], vm := .none },
  { cls := 8, slots := #[.int (-88)], vm := .none },
  { cls := 8, slots := #[.int (-87)], vm := .none },
  { cls := 8, slots := #[.int (-86)], vm := .none },
  { cls := 8, slots := #[.int (-85)], vm := .none },
  { cls := 8, slots := #[.int (-84)], vm := .none },
  { cls := 8, slots := #[.int (-83)], vm := .none },
  { cls := 8, slots := #[.int (-82)], vm := .none },
  { cls := 8, slots := #[.int (-81)], vm := .none },
  { cls := 8, slots := #[.int (-80)], vm := .none },
  { cls := 8, slots := #[.int (-79)], vm := .none },
  { cls := 8, slots := #[.int (-78)], vm := .none },
  { cls := 8, slots := #[.int (-77)], vm := .none },
  { cls := 8, slots := #[.int (-76)], vm := .none },
  { cls := 8, slots := #[.int (-75)], vm := .none },
  { cls := 8, slots := #[.int (-74)], vm := .none },
  { cls := 8, slots := #[.int (-73)], vm := .none },
  { cls := 8, slots := #[.int (-72)], vm := .none },
  { cls := 8, slots := #[.int (-71)], vm := .none },
  { cls := 8, slots := #[.int (-70)], vm := .none },
  { cls := 8, slots := #[.int (-69)], vm := .none },
  { cls := 8, slots := #[.int (-68)], vm := .none },
  { cls := 8, slots := #[.int (-67)], vm := .none },
  { cls := 8, slots := #[.int (-66)], vm := .none },
  { cls := 8, slots := #[.int (-65)], vm := .none },
  { cls := 8, slots := #[.int (-64)], vm := .none },
  { cls := 8, slots := #[.int (-63)], vm := .none },
  { cls := 8, slots := #[.int (-62)], vm := .none },
  { cls := 8, slots := #[.int (-61)], vm := .none },
  { cls := 8, slots := #[.int (-60)], vm := .none },
  { cls := 8, slots := #[.int (-59)], vm := .none },
  { cls := 8, slots := #[.int (-58)], vm := .none },
  { cls := 8, slots := #[.int (-57)], vm := .none },
  { cls := 8, slots := #[.int (-56)], vm := .none },
  { cls := 8, slots := #[.int (-55)], vm := .none },
  { cls := 8, slots := #[.int (-54)], vm := .none },
  { cls := 8, slots := #[.int (-53)], vm := .none },
  { cls := 8, slots := #[.int (-52)], vm := .none },
  { cls := 8, slots := #[.int (-51)], vm := .none },
  { cls := 8, slots := #[.int (-50)], vm := .none },
  { cls := 8, slots := #[.int (-49)], vm := .none },
  { cls := 8, slots := #[.int (-48)], vm := .none },
  { cls := 8, slots := #[.int (-47)], vm := .none },
  { cls := 8, slots := #[.int (-46)], vm := .none },
  { cls := 8, slots := #[.int (-45)], vm := .none },
  { cls := 8, slots := #[.int (-44)], vm := .none },
  { cls := 8, slots := #[.int (-43)], vm := .none },
  { cls := 8, slots := #[.int (-42)], vm := .none },
  { cls := 8, slots := #[.int (-41)], vm := .none },
  { cls := 8, slots := #[.int (-40)], vm := .none },
  { cls := 8, slots := #[.int (-39)], vm := .none },
  { cls := 8, slots := #[.int (-38)], vm := .none },
  { cls := 8, slots := #[.int (-37)], vm := .none },
  { cls := 8, slots := #[.int (-36)], vm := .none },
  { cls := 8, slots := #[.int (-35)], vm := .none },
  { cls := 8, slots := #[.int (-34)], vm := .none },
  { cls := 8, slots := #[.int (-33)], vm := .none },
  { cls := 8, slots := #[.int (-32)], vm := .none },
  { cls := 8, slots := #[.int (-31)], vm := .none },
  { cls := 8, slots := #[.int (-30)], vm := .none },
  { cls := 8, slots := #[.int (-29)], vm := .none },
  { cls := 8, slots := #[.int (-28)], vm := .none },
  { cls := 8, slots := #[.int (-27)], vm := .none },
  { cls := 8, slots := #[.int (-26)], vm := .none },
  { cls := 8, slots := #[.int (-25)], vm := .none },
  { cls := 8, slots := #[.int (-24)], vm := .none },
  { cls := 8, slots := #[.int (-23)], vm := .none },
  { cls := 8, slots := #[.int (-22)], vm := .none },
  { cls := 8, slots := #[.int (-21)], vm := .none },
  { cls := 8, slots := #[.int (-20)], vm := .none },
  { cls := 8, slots := #[.int (-19)], vm := .none },
  { cls := 8, slots := #[.int (-18)], vm := .none },
  { cls := 8, slots := #[.int (-17)], vm := .none },
  { cls := 8, slots := #[.int (-16)], vm := .none },
  { cls := 8, slots := #[.int (-15)], vm := .none },
  { cls := 8, slots := #[.int (-14)], vm := .none },
  { cls := 8, slots := #[.int (-13)], vm := .none },
  { cls := 8, slots := #[.int (-12)], vm := .none },
  { cls := 8, slots := #[.int (-11)], vm := .none },
  { cls := 8, slots := #[.int (-10)], vm := .none },
  { cls := 8, slots := #[.int (-9)], vm := .none },
  { cls := 8, slots := #[.int (-8)], vm := .none },
  { cls := 8, slots := #[.int (-7)], vm := .none },
  { cls := 8, slots := #[.int (-6)], vm := .none },
  { cls := 8, slots := #[.int (-5)], vm := .none },
  { cls := 8, slots := #[.int (-4)], vm := .none },
  { cls := 8, slots := #[.int (-3)], vm := .none },
  { cls := 8, slots := #[.int (-2)], vm := .none },
  { cls := 8, slots := #[.int (-1)], vm := .none },
  { cls := 8, slots := #[.int 0], vm := .none },
  { cls := 8, slots := #[.int 1], vm := .none },
  { cls := 8, slots := #[.int 2], vm := .none },
  { cls := 8, slots := #[.int 3], vm := .none },
  { cls := 8, slots := #[.int 4], vm := .none },
  { cls := 8, slots := #[.int 5], vm := .none },
  { cls := 8, slots := #[.int 6], vm := .none },
  { cls := 8, slots := #[.int 7], vm := .none },
  { cls := 8, slots := #[.int 8], vm := .none },
  { cls := 8, slots := #[.int 9], vm := .none },
  { cls := 8, slots := #[.int 10], vm := .none },
  { cls := 8, slots := #[.int 11], vm := .none },
  { cls := 8, slots := #[.int 12], vm := .none },
  { cls := 8, slots := #[.int 13], vm := .none },
  { cls := 8, slots := #[.int 14], vm := .none },
  { cls := 8, slots := #[.int 15], vm := .none },
  { cls := 8, slots := #[.int 16], vm := .none },
  { cls := 8, slots := #[.int 17], vm := .none },
  { cls := 8, slots := #[.int 18], vm := .none },
  { cls := 8, slots := #[.int 19], vm := .none },
  { cls := 8, slots := #[.int 20], vm := .none },
  { cls := 8, slots := #[.int 21], vm := .none },
  { cls := 8, slots := #[.int 22], vm := .none },
  { cls := 8, slots := #[.int 23], vm := .none },
  { cls := 8, slots := #[.int 24], vm := .none },
  { cls := 8, slots := #[.int 25], vm := .none },
  { cls := 8, slots := #[.int 26], vm := .none },
  { cls := 8, slots := #[.int 27], vm := .none },
  { cls := 8, slots := #[.int 28], vm := .none },
  { cls := 8, slots := #[.int 29], vm := .none },
  { cls := 8, slots := #[.int 30], vm := .none },
  { cls := 8, slots := #[.int 31], vm := .none },
  { cls := 8, slots := #[.int 32], vm := .none },
  { cls := 8, slots := #[.int 33], vm := .none },
  { cls := 8, slots := #[.int 34], vm := .none },
  { cls := 8, slots := #[.int 35], vm := .none },
  { cls := 8, slots := #[.int 36], vm := .none },
  { cls := 8, slots := #[.int 37], vm := .none },
  { cls := 8, slots := #[.int 38], vm := .none },
  { cls := 8, slots := #[.int 39], vm := .none },
  { cls := 8, slots := #[.int 40], vm := .none },
  { cls := 8, slots := #[.int 41], vm := .none },
  { cls := 8, slots := #[.int 42], vm := .none },
  { cls := 8, slots := #[.int 43], vm := .none },
  { cls := 8, slots := #[.int 44], vm := .none },
  { cls := 8, slots := #[.int 45], vm := .none },
  { cls := 8, slots := #[.int 46], vm := .none },
  { cls := 8, slots := #[.int 47], vm := .none },
  { cls := 8, slots := #[.int 48], vm := .none },
  { cls := 8, slots := #[.int 49], vm := .none },
  { cls := 8, slots := #[.int 50], vm := .none },
  { cls := 8, slots := #[.int 51], vm := .none },
  { cls := 8, slots := #[.int 52], vm := .none },
  { cls := 8, slots := #[.int 53], vm := .none },
  { cls := 8, slots := #[.int 54], vm := .none },
  { cls := 8, slots := #[.int 55], vm := .none },
  { cls := 8, slots := #[.int 56], vm := .none },
  { cls := 8, slots := #[.int 57], vm := .none },
  { cls := 8, slots := #[.int 58], vm := .none },
  { cls := 8, slots := #[.int 59], vm := .none },
  { cls := 8, slots := #[.int 60], vm := .none },
  { cls := 8, slots := #[.int 61], vm := .none },
  { cls := 8, slots := #[.int 62], vm := .none },
  { cls := 8, slots := #[.int 63], vm := .none },
  { cls := 8, slots := #[.int 64], vm := .none },
  { cls := 8, slots := #[.int 65], vm := .none },
  { cls := 8, slots := #[.int 66], vm := .none },
  { cls := 8, slots := #[.int 67], vm := .none },
  { cls := 8, slots := #[.int 68], vm := .none },
  { cls := 8, slots := #[.int 69], vm := .none },
  { cls := 8, slots := #[.int 70], vm := .none },
  { cls := 8, slots := #[.int 71], vm := .none },
  { cls := 8, slots := #[.int 72], vm := .none },
  { cls := 8, slots := #[.int 73], vm := .none },
  { cls := 8, slots := #[.int 74], vm := .none },
  { cls := 8, slots := #[.int 75], vm := .none },
  { cls := 8, slots := #[.int 76], vm := .none },
  { cls := 8, slots := #[.int 77], vm := .none },
  { cls := 8, slots := #[.int 78], vm := .none },
  { cls := 8, slots := #[.int 79], vm := .none },
  { cls := 8, slots := #[.int 80], vm := .none },
  { cls := 8, slots := #[.int 81], vm := .none },
  { cls := 8, slots := #[.int 82], vm := .none },
  { cls := 8, slots := #[.int 83], vm := .none },
  { cls := 8, slots := #[.int 84], vm := .none },
  { cls := 8, slots := #[.int 85], vm := .none },
  { cls := 8, slots := #[.int 86], vm := .none },
  { cls := 8, slots := #[.int 87], vm := .none },
  { cls := 8, slots := #[.int 88], vm := .none },
  { cls := 8, slots := #[.int 89], vm := .none },
  { cls := 8, slots := #[.int 90], vm := .none },
  { cls := 8, slots := #[.int 91], vm := .none },
  { cls := 8, slots := #[.int 92], vm := .none },
  { cls := 8, slots := #[.int 93], vm := .none },
  { cls := 8, slots := #[.int 94], vm := .none },
  { cls := 8, slots := #[.int 95], vm := .none },
  { cls := 8, slots := #[.int 96], vm := .none },
  { cls := 8, slots := #[.int 97], vm := .none },
  { cls := 8, slots := #[.int 98], vm := .none },
  { cls := 8, slots := #[.int 99], vm := .none },
  { cls := 8, slots := #[.int 100], vm := .none },
  { cls := 8, slots := #[.int 101], vm := .none },
  { cls := 8, slots := #[.int 102], vm := .none },
  { cls := 8, slots := #[.int 103], vm := .none },
  { cls := 8, slots := #[.int 104], vm := .none },
  { cls := 8, slots := #[.int 105], vm := .none },
  { cls := 8, slots := #[.int 106], vm := .none },
  { cls := 8, slots := #[.int 107], vm := .none },
  { cls := 8, slots := #[.int 108], vm := .none },
  { cls := 8, slots := #[.int 109], vm := .none },
  { cls := 8, slots := #[.int 110], vm := .none },
  { cls := 8, slots := #[.int 111], vm := .none },
  { cls := 8, slots := #[.int 112], vm := .none },
  { cls := 8, slots := #[.int 113], vm := .none },
  { cls := 8, slots := #[.int 114], vm := .none },
  { cls := 8, slots := #[.int 115], vm := .none },
  { cls := 8, slots := #[.int 116], vm := .none },
  { cls := 8, slots := #[.int 117], vm := .none },
  { cls := 8, slots := #[.int 118], vm := .none },
  { cls := 8, slots := #[.int 119], vm := .none },
  { cls := 8, slots := #[.int 120], vm := .none },
  { cls := 8, slots := #[.int 121], vm := .none },
  { cls := 8, slots := #[.int 122], vm := .none },
  { cls := 8, slots := #[.int 123], vm := .none },
  { cls := 8, slots := #[.int 124], vm := .none },
  { cls := 8, slots := #[.int 125], vm := .none },
  { cls := 8, slots := #[.int 126], vm := .none },
  { cls := 8, slots := #[.int 127], vm := .none }]
def classes : Array Class := #[k0, k1, k2, k3, k4, k5, k6, k7, k8, k9, k10, k11, k12, k13, k14, k15, k16, k17, k18, k19, k20, k21, k22, k23, k24, k25, k26, k27, k28, k29, k30]
def interned : List (Array UInt16 × Addr) := []
def slotsUsed : Nat := 521
def theMethod : MethodId := ⟨1, 1⟩
def args0 : Array Value := #[.int 3, .long 1, .long 2, .long 3]
def aboutOver (below : List Frame) : State where
  vm := { classes := classes, interned := interned.toArray }
  heap := heap
  slotsUsed := slotsUsed
  threads := #[{ frames := .invoking theMethod args0 :: below }]
def below0 : List Frame := [.native { method := ⟨0, 0⟩, args := #[] }]
def about1 : State := aboutOver below0
def p0 : Program := .bare "" "" ""
def e0 : Env := launch0.env 0 0 0
theorem w_frames : about1.frames = Frame.invoking theMethod args0 :: below0 := rfl
set_option maxRecDepth 65536 in
theorem w_args : argsFit about1.vm theMethod args0 = true := by decide +kernel
set_option maxRecDepth 65536 in
theorem w_heap : heapFits about1 = true := by decide +kernel
set_option maxRecDepth 65536 in
theorem w_runnable : about1.curStatus? = some .runnable := by decide +kernel
set_option maxRecDepth 65536 in
theorem w_alone : about1.alone = true := by decide +kernel
set_option maxRecDepth 65536 in
theorem w_named : about1.methodNamed? x = some theMethod := by decide +kernel
set_option maxRecDepth 65536 in
theorem w_hears : about1.hears theMethod below0 = true := by decide +kernel
set_option maxRecDepth 65536 in
theorem w_ripe : about1.ripe theMethod args0 below0 = true := by decide +kernel
theorem w_running : about1.status = .running := rfl
set_option maxRecDepth 65536 in
theorem w_room : about1.hasRoom e0.platform room_1 = true :=
  launch0.hasRoom_least _ room_1 (by decide +kernel) (by decide +kernel) (by decide +kernel) (by decide +kernel) (by decide +kernel) (by decide +kernel)
theorem allAtoms_all (ts : List Jvm.Cond) (a : Array Jvm.Value) (st : Jvm.State) : (allAtoms ts).before a st = ts.all (fun c => c.before a st) := by
  induction ts with
  | nil => rfl
  | cons c t ih =>
    show (Jvm.Cond.and c (allAtoms t)).before a st = _
    rw [Jvm.Cond.before_and, ih, List.all_cons]
def words1 : List Jvm.Cond := Jvm.Cond.code x code maxLocals ret :: tables_1
/-- a 'code' word, met by the world's own term for the bytes: nothing is compared byte by byte -/
theorem code_word {y : MethodName} {bytes : ByteArray} {mx : Nat} {rt : Option FieldType} {a : Array Value} {s : State} {m : MethodId} {meth : Method} {c : Code} (h1 : s.methodNamed? y = some m) (h2 : s.vm.method? m = some meth) (h3 : meth.code = some c) (h4 : c.code = bytes)
    (h5 : (c.maxLocals == mx && c.exceptionTable.isEmpty && decide (c.maxStack ≤ mostOperands) && decide (meth.sig.returnType = rt) && !meth.locks && decide (parseMethodDescriptor y.desc = some meth.sig)) = true) : (Jvm.Cond.code y bytes mx rt).before a s = true := by
  simp only [Bool.and_eq_true, beq_iff_eq, Bool.not_eq_true', decide_eq_true_eq] at h5
  obtain ⟨⟨⟨⟨⟨g1, g2⟩, g3⟩, g4⟩, g5⟩, g6⟩ := h5
  simp [Cond.before, Cond.holds, Cond.value, h1, h2, h3, h4, g1, g2, g3, g4, g5, g6]
def isCode : Jvm.Cond → Bool
  | .code _ _ _ _ => true
  | _ => false
theorem all_split {L : List Jvm.Cond} {P : Jvm.Cond → Bool} (h1 : L.all (fun c => isCode c || P c) = true) (h2 : ∀ c ∈ L.filter isCode, P c = true) : L.all P = true := by
  refine List.all_eq_true.mpr fun c hc => ?_
  have h := List.all_eq_true.mp h1 c hc
  rcases Bool.eq_false_or_eq_true (isCode c) with hi | hi
  · exact h2 c (List.mem_filter.mpr ⟨hc, hi⟩)
  · simpa [hi] using h
set_option maxRecDepth 65536 in
theorem w_c0 : (Jvm.Cond.code x code maxLocals ret).before args0 about1 = true := code_word (m := ⟨1, 1⟩) (meth := k1m1) (c := k1c1) (by decide +kernel) rfl rfl rfl (by decide +kernel)
set_option maxRecDepth 65536 in
theorem w_c1 : (Jvm.Cond.code ({ cls := "java/lang/Integer", name := "valueOf", desc := "(I)Ljava/lang/Integer;" } : Jvm.MethodName) jdk_33_method_22_code (1 : Nat) (Option.some (Jvm.ClassFile.FieldType.object "java/lang/Integer"))).before args0 about1 = true := code_word (m := ⟨8, 0⟩) (meth := k8m0) (c := k8c0) (by decide +kernel) rfl rfl rfl (by decide +kernel)
set_option maxRecDepth 65536 in
theorem w_c2 : (Jvm.Cond.code ({ cls := "com/example/stampwise/stampwise/Versions", name := "<init>", desc := "(Ljava/lang/Object;Z)V" } : Jvm.MethodName) prog_29_method_1_code (3 : Nat) (Option.none : Option Jvm.ClassFile.FieldType)).before args0 about1 = true := code_word (m := ⟨2, 0⟩) (meth := k2m0) (c := k2c0) (by decide +kernel) rfl rfl rfl (by decide +kernel)
set_option maxRecDepth 65536 in
theorem w_c3 : (Jvm.Cond.code ({ cls := "java/lang/Object", name := "<init>", desc := "()V" } : Jvm.MethodName) object_method_1_code (1 : Nat) (Option.none : Option Jvm.ClassFile.FieldType)).before args0 about1 = true := code_word (m := ⟨0, 0⟩) (meth := k0m0) (c := k0c0) (by decide +kernel) rfl rfl rfl (by decide +kernel)
set_option maxRecDepth 65536 in
theorem w_c4 : (Jvm.Cond.code ({ cls := "com/example/stampwise/stampwise/Versions", name := "holdsOlder", desc := "()Z" } : Jvm.MethodName) prog_29_method_10_code (1 : Nat) (Option.some Jvm.ClassFile.FieldType.boolean)).before args0 about1 = true := code_word (m := ⟨2, 3⟩) (meth := k2m3) (c := k2c3) (by decide +kernel) rfl rfl rfl (by decide +kernel)
set_option maxRecDepth 65536 in
theorem w_c5 : (Jvm.Cond.code ({ cls := "com/example/stampwise/stampwise/Versions", name := "write", desc := "(JLjava/lang/Object;)V" } : Jvm.MethodName) prog_29_method_8_code (5 : Nat) (Option.none : Option Jvm.ClassFile.FieldType)).before args0 about1 = true := code_word (m := ⟨2, 1⟩) (meth := k2m1) (c := k2c1) (by decide +kernel) rfl rfl rfl (by decide +kernel)
set_option maxRecDepth 65536 in
theorem w_c6 : (Jvm.Cond.code ({ cls := "com/example/stampwise/stampwise/Versions", name := "count", desc := "()I" } : Jvm.MethodName) prog_29_method_9_code (1 : Nat) (Option.some Jvm.ClassFile.FieldType.int)).before args0 about1 = true := code_word (m := ⟨2, 2⟩) (meth := k2m2) (c := k2c2) (by decide +kernel) rfl rfl rfl (by decide +kernel)
set_option maxRecDepth 65536 in
theorem w_c7 : (Jvm.Cond.code ({ cls := "com/example/stampwise/stampwise/Versions", name := "olderList", desc := "()Ljava/util/List;" } : Jvm.MethodName) prog_29_method_12_code (1 : Nat) (Option.some (Jvm.ClassFile.FieldType.object "java/util/List"))).before args0 about1 = true := code_word (m := ⟨2, 5⟩) (meth := k2m5) (c := k2c5) (by decide +kernel) rfl rfl rfl (by decide +kernel)
set_option maxRecDepth 65536 in
theorem w_c8 : (Jvm.Cond.code ({ cls := "java/util/ArrayList", name := "<init>", desc := "()V" } : Jvm.MethodName) jdk_38_method_2_code (1 : Nat) (Option.none : Option Jvm.ClassFile.FieldType)).before args0 about1 = true := code_word (m := ⟨18, 0⟩) (meth := k18m0) (c := k18c0) (by decide +kernel) rfl rfl rfl (by decide +kernel)
set_option maxRecDepth 65536 in
theorem w_c9 : (Jvm.Cond.code ({ cls := "java/util/AbstractList", name := "<init>", desc := "()V" } : Jvm.MethodName) jdk_39_method_1_code (1 : Nat) (Option.none : Option Jvm.ClassFile.FieldType)).before args0 about1 = true := code_word (m := ⟨15, 0⟩) (meth := k15m0) (c := k15c0) (by decide +kernel) rfl rfl rfl (by decide +kernel)
set_option maxRecDepth 65536 in
theorem w_c10 : (Jvm.Cond.code ({ cls := "java/util/AbstractCollection", name := "<init>", desc := "()V" } : Jvm.MethodName) jdk_22_method_1_code (1 : Nat) (Option.none : Option Jvm.ClassFile.FieldType)).before args0 about1 = true := code_word (m := ⟨12, 0⟩) (meth := k12m0) (c := k12c0) (by decide +kernel) rfl rfl rfl (by decide +kernel)
set_option maxRecDepth 65536 in
theorem w_c11 : (Jvm.Cond.code ({ cls := "com/example/stampwise/stampwise/Versions$Older", name := "<init>", desc := "(JLjava/lang/Object;J)V" } : Jvm.MethodName) prog_30_method_1_code (6 : Nat) (Option.none : Option Jvm.ClassFile.FieldType)).before args0 about1 = true := code_word (m := ⟨19, 0⟩) (meth := k19m0) (c := k19c0) (by decide +kernel) rfl rfl rfl (by decide +kernel)
set_option maxRecDepth 65536 in
theorem w_c12 : (Jvm.Cond.code ({ cls := "java/util/ArrayList", name := "add", desc := "(Ljava/lang/Object;)Z" } : Jvm.MethodName) jdk_38_method_25_code (2 : Nat) (Option.some Jvm.ClassFile.FieldType.boolean)).before args0 about1 = true := code_word (m := ⟨18, 7⟩) (meth := k18m7) (c := k18c7) (by decide +kernel) rfl rfl rfl (by decide +kernel)
set_option maxRecDepth 65536 in
theorem w_c13 : (Jvm.Cond.code ({ cls := "java/util/ArrayList", name := "add", desc := "(Ljava/lang/Object;[Ljava/lang/Object;I)V" } : Jvm.MethodName) jdk_38_method_24_code (4 : Nat) (Option.none : Option Jvm.ClassFile.FieldType)).before args0 about1 = true := code_word (m := ⟨18, 6⟩) (meth := k18m6) (c := k18c6) (by decide +kernel) rfl rfl rfl (by decide +kernel)
set_option maxRecDepth 65536 in
theorem w_c14 : (Jvm.Cond.code ({ cls := "java/util/ArrayList", name := "grow", desc := "()[Ljava/lang/Object;" } : Jvm.MethodName) jdk_38_method_7_code (1 : Nat) (Option.some (Jvm.ClassFile.FieldType.array (Jvm.ClassFile.FieldType.object "java/lang/Object")))).before args0 about1 = true := code_word (m := ⟨18, 2⟩) (meth := k18m2) (c := k18c2) (by decide +kernel) rfl rfl rfl (by decide +kernel)
set_option maxRecDepth 65536 in
theorem w_c15 : (Jvm.Cond.code ({ cls := "java/util/ArrayList", name := "grow", desc := "(I)[Ljava/lang/Object;" } : Jvm.MethodName) jdk_38_method_6_code (4 : Nat) (Option.some (Jvm.ClassFile.FieldType.array (Jvm.ClassFile.FieldType.object "java/lang/Object")))).before args0 about1 = true := code_word (m := ⟨18, 1⟩) (meth := k18m1) (c := k18c1) (by decide +kernel) rfl rfl rfl (by decide +kernel)
set_option maxRecDepth 65536 in
theorem w_c16 : (Jvm.Cond.code ({ cls := "java/lang/Math", name := "max", desc := "(II)I" } : Jvm.MethodName) jdk_29_method_65_code (2 : Nat) (Option.some Jvm.ClassFile.FieldType.int)).before args0 about1 = true := code_word (m := ⟨20, 1⟩) (meth := k20m1) (c := k20c1) (by decide +kernel) rfl rfl rfl (by decide +kernel)
set_option maxRecDepth 65536 in
theorem w_c17 : (Jvm.Cond.code ({ cls := "java/util/ArrayList", name := "size", desc := "()I" } : Jvm.MethodName) jdk_38_method_8_code (1 : Nat) (Option.some Jvm.ClassFile.FieldType.int)).before args0 about1 = true := code_word (m := ⟨18, 3⟩) (meth := k18m3) (c := k18c3) (by decide +kernel) rfl rfl rfl (by decide +kernel)
set_option maxRecDepth 65536 in
theorem w_c18 : (Jvm.Cond.code ({ cls := "java/lang/Math", name := "max", desc := "(JJ)J" } : Jvm.MethodName) jdk_29_method_66_code (4 : Nat) (Option.some Jvm.ClassFile.FieldType.long)).before args0 about1 = true := code_word (m := ⟨20, 2⟩) (meth := k20m2) (c := k20c2) (by decide +kernel) rfl rfl rfl (by decide +kernel)
set_option maxRecDepth 65536 in
theorem w_c19 : (Jvm.Cond.code ({ cls := "com/example/stampwise/stampwise/Versions", name := "forget", desc := "(J)Z" } : Jvm.MethodName) prog_29_method_11_code (4 : Nat) (Option.some Jvm.ClassFile.FieldType.boolean)).before args0 about1 = true := code_word (m := ⟨2, 4⟩) (meth := k2m4) (c := k2c4) (by decide +kernel) rfl rfl rfl (by decide +kernel)
set_option maxRecDepth 65536 in
theorem w_c20 : (Jvm.Cond.code ({ cls := "com/example/stampwise/stampwise/Versions", name := "olderNotAbove", desc := "(J)I" } : Jvm.MethodName) prog_29_method_14_code (6 : Nat) (Option.some Jvm.ClassFile.FieldType.int)).before args0 about1 = true := code_word (m := ⟨2, 6⟩) (meth := k2m6) (c := k2c6) (by decide +kernel) rfl rfl rfl (by decide +kernel)
set_option maxRecDepth 65536 in
theorem w_c21 : (Jvm.Cond.code ({ cls := "java/util/ArrayList", name := "get", desc := "(I)Ljava/lang/Object;" } : Jvm.MethodName) jdk_38_method_20_code (2 : Nat) (Option.some (Jvm.ClassFile.FieldType.object "java/lang/Object"))).before args0 about1 = true := code_word (m := ⟨18, 5⟩) (meth := k18m5) (c := k18c5) (by decide +kernel) rfl rfl rfl (by decide +kernel)
set_option maxRecDepth 65536 in
theorem w_c22 : (Jvm.Cond.code ({ cls := "java/util/Objects", name := "checkIndex", desc := "(II)I" } : Jvm.MethodName) jdk_31_method_17_code (2 : Nat) (Option.some Jvm.ClassFile.FieldType.int)).before args0 about1 = true := code_word (m := ⟨21, 1⟩) (meth := k21m1) (c := k21c1) (by decide +kernel) rfl rfl rfl (by decide +kernel)
set_option maxRecDepth 65536 in
theorem w_c23 : (Jvm.Cond.code ({ cls := "jdk/internal/util/Preconditions", name := "checkIndex", desc := "(IILjava/util/function/BiFunction;)I" } : Jvm.MethodName) jdk_41_method_11_code (3 : Nat) (Option.some Jvm.ClassFile.FieldType.int)).before args0 about1 = true := code_word (m := ⟨22, 1⟩) (meth := k22m1) (c := k22c1) (by decide +kernel) rfl rfl rfl (by decide +kernel)
set_option maxRecDepth 65536 in
theorem w_c24 : (Jvm.Cond.code ({ cls := "java/util/ArrayList", name := "elementData", desc := "(I)Ljava/lang/Object;" } : Jvm.MethodName) jdk_38_method_18_code (2 : Nat) (Option.some (Jvm.ClassFile.FieldType.object "java/lang/Object"))).before args0 about1 = true := code_word (m := ⟨18, 4⟩) (meth := k18m4) (c := k18c4) (by decide +kernel) rfl rfl rfl (by decide +kernel)
set_option maxRecDepth 65536 in
theorem w_c25 : (Jvm.Cond.code ({ cls := "java/util/ArrayList", name := "add", desc := "(ILjava/lang/Object;)V" } : Jvm.MethodName) jdk_38_method_26_code (5 : Nat) (Option.none : Option Jvm.ClassFile.FieldType)).before args0 about1 = true := code_word (m := ⟨18, 8⟩) (meth := k18m8) (c := k18c8) (by decide +kernel) rfl rfl rfl (by decide +kernel)
set_option maxRecDepth 65536 in
theorem w_c26 : (Jvm.Cond.code ({ cls := "java/util/ArrayList", name := "rangeCheckForAdd", desc := "(I)V" } : Jvm.MethodName) jdk_38_method_45_code (2 : Nat) (Option.none : Option Jvm.ClassFile.FieldType)).before args0 about1 = true := code_word (m := ⟨18, 11⟩) (meth := k18m11) (c := k18c11) (by decide +kernel) rfl rfl rfl (by decide +kernel)
set_option maxRecDepth 65536 in
theorem w_c27 : (Jvm.Cond.code ({ cls := "java/util/ArrayList", name := "subList", desc := "(II)Ljava/util/List;" } : Jvm.MethodName) jdk_38_method_56_code (3 : Nat) (Option.some (Jvm.ClassFile.FieldType.object "java/util/List"))).before args0 about1 = true := code_word (m := ⟨18, 12⟩) (meth := k18m12) (c := k18c12) (by decide +kernel) rfl rfl rfl (by decide +kernel)
set_option maxRecDepth 65536 in
theorem w_c28 : (Jvm.Cond.code ({ cls := "java/util/AbstractList", name := "subListRangeCheck", desc := "(III)V" } : Jvm.MethodName) jdk_39_method_15_code (3 : Nat) (Option.none : Option Jvm.ClassFile.FieldType)).before args0 about1 = true := code_word (m := ⟨15, 2⟩) (meth := k15m2) (c := k15c2) (by decide +kernel) rfl rfl rfl (by decide +kernel)
set_option maxRecDepth 65536 in
theorem w_c29 : (Jvm.Cond.code ({ cls := "java/util/ArrayList$SubList", name := "<init>", desc := "(Ljava/util/ArrayList;II)V" } : Jvm.MethodName) jdk_130_method_1_code (4 : Nat) (Option.none : Option Jvm.ClassFile.FieldType)).before args0 about1 = true := code_word (m := ⟨24, 0⟩) (meth := k24m0) (c := k24c0) (by decide +kernel) rfl rfl rfl (by decide +kernel)
set_option maxRecDepth 65536 in
theorem w_c30 : (Jvm.Cond.code ({ cls := "java/util/AbstractList", name := "clear", desc := "()V" } : Jvm.MethodName) jdk_39_method_9_code (1 : Nat) (Option.none : Option Jvm.ClassFile.FieldType)).before args0 about1 = true := code_word (m := ⟨15, 1⟩) (meth := k15m1) (c := k15c1) (by decide +kernel) rfl rfl rfl (by decide +kernel)
set_option maxRecDepth 65536 in
theorem w_c31 : (Jvm.Cond.code ({ cls := "java/util/ArrayList$SubList", name := "size", desc := "()I" } : Jvm.MethodName) jdk_130_method_5_code (1 : Nat) (Option.some Jvm.ClassFile.FieldType.int)).before args0 about1 = true := code_word (m := ⟨24, 1⟩) (meth := k24m1) (c := k24c1) (by decide +kernel) rfl rfl rfl (by decide +kernel)
set_option maxRecDepth 65536 in
theorem w_c32 : (Jvm.Cond.code ({ cls := "java/util/ArrayList$SubList", name := "checkForComodification", desc := "()V" } : Jvm.MethodName) jdk_130_method_28_code (1 : Nat) (Option.none : Option Jvm.ClassFile.FieldType)).before args0 about1 = true := code_word (m := ⟨24, 3⟩) (meth := k24m3) (c := k24c3) (by decide +kernel) rfl rfl rfl (by decide +kernel)
set_option maxRecDepth 65536 in
theorem w_c33 : (Jvm.Cond.code ({ cls := "java/util/ArrayList$SubList", name := "removeRange", desc := "(II)V" } : Jvm.MethodName) jdk_130_method_8_code (3 : Nat) (Option.none : Option Jvm.ClassFile.FieldType)).before args0 about1 = true := code_word (m := ⟨24, 2⟩) (meth := k24m2) (c := k24c2) (by decide +kernel) rfl rfl rfl (by decide +kernel)
set_option maxRecDepth 65536 in
theorem w_c34 : (Jvm.Cond.code ({ cls := "java/util/ArrayList", name := "removeRange", desc := "(II)V" } : Jvm.MethodName) jdk_38_method_43_code (3 : Nat) (Option.none : Option Jvm.ClassFile.FieldType)).before args0 about1 = true := code_word (m := ⟨18, 9⟩) (meth := k18m9) (c := k18c9) (by decide +kernel) rfl rfl rfl (by decide +kernel)
set_option maxRecDepth 65536 in
theorem w_c35 : (Jvm.Cond.code ({ cls := "java/util/ArrayList", name := "shiftTailOverGap", desc := "([Ljava/lang/Object;II)V" } : Jvm.MethodName) jdk_38_method_44_code (6 : Nat) (Option.none : Option Jvm.ClassFile.FieldType)).before args0 about1 = true := code_word (m := ⟨18, 10⟩) (meth := k18m10) (c := k18c10) (by decide +kernel) rfl rfl rfl (by decide +kernel)
set_option maxRecDepth 65536 in
theorem w_c36 : (Jvm.Cond.code ({ cls := "java/util/ArrayList$SubList", name := "updateSizeAndModCount", desc := "(I)V" } : Jvm.MethodName) jdk_130_method_29_code (3 : Nat) (Option.none : Option Jvm.ClassFile.FieldType)).before args0 about1 = true := code_word (m := ⟨24, 4⟩) (meth := k24m4) (c := k24c4) (by decide +kernel) rfl rfl rfl (by decide +kernel)
def codes1 : List Jvm.Cond := [Jvm.Cond.code x code maxLocals ret, Jvm.Cond.code ({ cls := "java/lang/Integer", name := "valueOf", desc := "(I)Ljava/lang/Integer;" } : Jvm.MethodName) jdk_33_method_22_code (1 : Nat) (Option.some (Jvm.ClassFile.FieldType.object "java/lang/Integer")), Jvm.Cond.code ({ cls := "com/example/stampwise/stampwise/Versions", name := "<init>", desc := "(Ljava/lang/Object;Z)V" } : Jvm.MethodName) prog_29_method_1_code (3 : Nat) (Option.none : Option Jvm.ClassFile.FieldType), Jvm.Cond.code ({ cls := "java/lang/Object", name := "<init>", desc := "()V" } : Jvm.MethodName) object_method_1_code (1 : Nat) (Option.none : Option Jvm.ClassFile.FieldType), Jvm.Cond.code ({ cls := "com/example/stampwise/stampwise/Versions", name := "holdsOlder", desc := "()Z" } : Jvm.MethodName) prog_29_method_10_code (1 : Nat) (Option.some Jvm.ClassFile.FieldType.boolean), Jvm.Cond.code ({ cls := "com/example/stampwise/stampwise/Versions", name := "write", desc := "(JLjava/lang/Object;)V" } : Jvm.MethodName) prog_29_method_8_code (5 : Nat) (Option.none : Option Jvm.ClassFile.FieldType), Jvm.Cond.code ({ cls := "com/example/stampwise/stampwise/Versions", name := "count", desc := "()I" } : Jvm.MethodName) prog_29_method_9_code (1 : Nat) (Option.some Jvm.ClassFile.FieldType.int), Jvm.Cond.code ({ cls := "com/example/stampwise/stampwise/Versions", name := "olderList", desc := "()Ljava/util/List;" } : Jvm.MethodName) prog_29_method_12_code (1 : Nat) (Option.some (Jvm.ClassFile.FieldType.object "java/util/List")), Jvm.Cond.code ({ cls := "java/util/ArrayList", name := "<init>", desc := "()V" } : Jvm.MethodName) jdk_38_method_2_code (1 : Nat) (Option.none : Option Jvm.ClassFile.FieldType), Jvm.Cond.code ({ cls := "java/util/AbstractList", name := "<init>", desc := "()V" } : Jvm.MethodName) jdk_39_method_1_code (1 : Nat) (Option.none : Option Jvm.ClassFile.FieldType), Jvm.Cond.code ({ cls := "java/util/AbstractCollection", name := "<init>", desc := "()V" } : Jvm.MethodName) jdk_22_method_1_code (1 : Nat) (Option.none : Option Jvm.ClassFile.FieldType), Jvm.Cond.code ({ cls := "com/example/stampwise/stampwise/Versions$Older", name := "<init>", desc := "(JLjava/lang/Object;J)V" } : Jvm.MethodName) prog_30_method_1_code (6 : Nat) (Option.none : Option Jvm.ClassFile.FieldType), Jvm.Cond.code ({ cls := "java/util/ArrayList", name := "add", desc := "(Ljava/lang/Object;)Z" } : Jvm.MethodName) jdk_38_method_25_code (2 : Nat) (Option.some Jvm.ClassFile.FieldType.boolean), Jvm.Cond.code ({ cls := "java/util/ArrayList", name := "add", desc := "(Ljava/lang/Object;[Ljava/lang/Object;I)V" } : Jvm.MethodName) jdk_38_method_24_code (4 : Nat) (Option.none : Option Jvm.ClassFile.FieldType), Jvm.Cond.code ({ cls := "java/util/ArrayList", name := "grow", desc := "()[Ljava/lang/Object;" } : Jvm.MethodName) jdk_38_method_7_code (1 : Nat) (Option.some (Jvm.ClassFile.FieldType.array (Jvm.ClassFile.FieldType.object "java/lang/Object"))), Jvm.Cond.code ({ cls := "java/util/ArrayList", name := "grow", desc := "(I)[Ljava/lang/Object;" } : Jvm.MethodName) jdk_38_method_6_code (4 : Nat) (Option.some (Jvm.ClassFile.FieldType.array (Jvm.ClassFile.FieldType.object "java/lang/Object"))), Jvm.Cond.code ({ cls := "java/lang/Math", name := "max", desc := "(II)I" } : Jvm.MethodName) jdk_29_method_65_code (2 : Nat) (Option.some Jvm.ClassFile.FieldType.int), Jvm.Cond.code ({ cls := "java/util/ArrayList", name := "size", desc := "()I" } : Jvm.MethodName) jdk_38_method_8_code (1 : Nat) (Option.some Jvm.ClassFile.FieldType.int), Jvm.Cond.code ({ cls := "java/lang/Math", name := "max", desc := "(JJ)J" } : Jvm.MethodName) jdk_29_method_66_code (4 : Nat) (Option.some Jvm.ClassFile.FieldType.long), Jvm.Cond.code ({ cls := "com/example/stampwise/stampwise/Versions", name := "forget", desc := "(J)Z" } : Jvm.MethodName) prog_29_method_11_code (4 : Nat) (Option.some Jvm.ClassFile.FieldType.boolean), Jvm.Cond.code ({ cls := "com/example/stampwise/stampwise/Versions", name := "olderNotAbove", desc := "(J)I" } : Jvm.MethodName) prog_29_method_14_code (6 : Nat) (Option.some Jvm.ClassFile.FieldType.int), Jvm.Cond.code ({ cls := "java/util/ArrayList", name := "get", desc := "(I)Ljava/lang/Object;" } : Jvm.MethodName) jdk_38_method_20_code (2 : Nat) (Option.some (Jvm.ClassFile.FieldType.object "java/lang/Object")), Jvm.Cond.code ({ cls := "java/util/Objects", name := "checkIndex", desc := "(II)I" } : Jvm.MethodName) jdk_31_method_17_code (2 : Nat) (Option.some Jvm.ClassFile.FieldType.int), Jvm.Cond.code ({ cls := "jdk/internal/util/Preconditions", name := "checkIndex", desc := "(IILjava/util/function/BiFunction;)I" } : Jvm.MethodName) jdk_41_method_11_code (3 : Nat) (Option.some Jvm.ClassFile.FieldType.int), Jvm.Cond.code ({ cls := "java/util/ArrayList", name := "elementData", desc := "(I)Ljava/lang/Object;" } : Jvm.MethodName) jdk_38_method_18_code (2 : Nat) (Option.some (Jvm.ClassFile.FieldType.object "java/lang/Object")), Jvm.Cond.code ({ cls := "java/util/ArrayList", name := "add", desc := "(ILjava/lang/Object;)V" } : Jvm.MethodName) jdk_38_method_26_code (5 : Nat) (Option.none : Option Jvm.ClassFile.FieldType), Jvm.Cond.code ({ cls := "java/util/ArrayList", name := "rangeCheckForAdd", desc := "(I)V" } : Jvm.MethodName) jdk_38_method_45_code (2 : Nat) (Option.none : Option Jvm.ClassFile.FieldType), Jvm.Cond.code ({ cls := "java/util/ArrayList", name := "subList", desc := "(II)Ljava/util/List;" } : Jvm.MethodName) jdk_38_method_56_code (3 : Nat) (Option.some (Jvm.ClassFile.FieldType.object "java/util/List")), Jvm.Cond.code ({ cls := "java/util/AbstractList", name := "subListRangeCheck", desc := "(III)V" } : Jvm.MethodName) jdk_39_method_15_code (3 : Nat) (Option.none : Option Jvm.ClassFile.FieldType), Jvm.Cond.code ({ cls := "java/util/ArrayList$SubList", name := "<init>", desc := "(Ljava/util/ArrayList;II)V" } : Jvm.MethodName) jdk_130_method_1_code (4 : Nat) (Option.none : Option Jvm.ClassFile.FieldType), Jvm.Cond.code ({ cls := "java/util/AbstractList", name := "clear", desc := "()V" } : Jvm.MethodName) jdk_39_method_9_code (1 : Nat) (Option.none : Option Jvm.ClassFile.FieldType), Jvm.Cond.code ({ cls := "java/util/ArrayList$SubList", name := "size", desc := "()I" } : Jvm.MethodName) jdk_130_method_5_code (1 : Nat) (Option.some Jvm.ClassFile.FieldType.int), Jvm.Cond.code ({ cls := "java/util/ArrayList$SubList", name := "checkForComodification", desc := "()V" } : Jvm.MethodName) jdk_130_method_28_code (1 : Nat) (Option.none : Option Jvm.ClassFile.FieldType), Jvm.Cond.code ({ cls := "java/util/ArrayList$SubList", name := "removeRange", desc := "(II)V" } : Jvm.MethodName) jdk_130_method_8_code (3 : Nat) (Option.none : Option Jvm.ClassFile.FieldType), Jvm.Cond.code ({ cls := "java/util/ArrayList", name := "removeRange", desc := "(II)V" } : Jvm.MethodName) jdk_38_method_43_code (3 : Nat) (Option.none : Option Jvm.ClassFile.FieldType), Jvm.Cond.code ({ cls := "java/util/ArrayList", name := "shiftTailOverGap", desc := "([Ljava/lang/Object;II)V" } : Jvm.MethodName) jdk_38_method_44_code (6 : Nat) (Option.none : Option Jvm.ClassFile.FieldType), Jvm.Cond.code ({ cls := "java/util/ArrayList$SubList", name := "updateSizeAndModCount", desc := "(I)V" } : Jvm.MethodName) jdk_130_method_29_code (3 : Nat) (Option.none : Option Jvm.ClassFile.FieldType)]
set_option maxRecDepth 65536 in
theorem codes_eq : words1.filter isCode = codes1 := rfl
theorem w_codes : ∀ c ∈ words1.filter isCode, c.before args0 about1 = true := by
  rw [codes_eq]
  intro c hc
  simp only [codes1, List.mem_cons, List.not_mem_nil, or_false] at hc
  rcases hc with rfl | rfl | rfl | rfl | rfl | rfl | rfl | rfl | rfl | rfl | rfl | rfl | rfl | rfl | rfl | rfl | rfl | rfl | rfl | rfl | rfl | rfl | rfl | rfl | rfl | rfl | rfl | rfl | rfl | rfl | rfl | rfl | rfl | rfl | rfl | rfl | rfl
  · exact w_c0
  · exact w_c1
  · exact w_c2
  · exact w_c3
  · exact w_c4
  · exact w_c5
  · exact w_c6
  · exact w_c7
  · exact w_c8
  · exact w_c9
  · exact w_c10
  · exact w_c11
  · exact w_c12
  · exact w_c13
  · exact w_c14
  · exact w_c15
  · exact w_c16
  · exact w_c17
  · exact w_c18
  · exact w_c19
  · exact w_c20
  · exact w_c21
  · exact w_c22
  · exact w_c23
  · exact w_c24
  · exact w_c25
  · exact w_c26
  · exact w_c27
  · exact w_c28
  · exact w_c29
  · exact w_c30
  · exact w_c31
  · exact w_c32
  · exact w_c33
  · exact w_c34
  · exact w_c35
  · exact w_c36
set_option maxRecDepth 65536 in
theorem w_t1 : (words1.take 24).all (fun c => isCode c || c.before args0 about1) = true := by decide +kernel
set_option maxRecDepth 65536 in
theorem w_t2 : ((words1.drop 24).take 24).all (fun c => isCode c || c.before args0 about1) = true := by decide +kernel
set_option maxRecDepth 65536 in
theorem w_t3 : (((words1.drop 24).drop 24).take 24).all (fun c => isCode c || c.before args0 about1) = true := by decide +kernel
set_option maxRecDepth 65536 in
theorem w_t4 : ((((words1.drop 24).drop 24).drop 24).take 24).all (fun c => isCode c || c.before args0 about1) = true := by decide +kernel
set_option maxRecDepth 65536 in
theorem w_t5 : (((((words1.drop 24).drop 24).drop 24).drop 24).take 24).all (fun c => isCode c || c.before args0 about1) = true := by decide +kernel
set_option maxRecDepth 65536 in
theorem w_t6 : ((((((words1.drop 24).drop 24).drop 24).drop 24).drop 24).take 24).all (fun c => isCode c || c.before args0 about1) = true := by decide +kernel
set_option maxRecDepth 65536 in
theorem w_t7 : (((((((words1.drop 24).drop 24).drop 24).drop 24).drop 24).drop 24).take 24).all (fun c => isCode c || c.before args0 about1) = true := by decide +kernel
set_option maxRecDepth 65536 in
theorem w_t8 : ((((((((words1.drop 24).drop 24).drop 24).drop 24).drop 24).drop 24).drop 24).take 24).all (fun c => isCode c || c.before args0 about1) = true := by decide +kernel
set_option maxRecDepth 65536 in
theorem w_t9 : (((((((((words1.drop 24).drop 24).drop 24).drop 24).drop 24).drop 24).drop 24).drop 24).take 24).all (fun c => isCode c || c.before args0 about1) = true := by decide +kernel
set_option maxRecDepth 65536 in
theorem w_t10 : ((((((((((words1.drop 24).drop 24).drop 24).drop 24).drop 24).drop 24).drop 24).drop 24).drop 24).take 24).all (fun c => isCode c || c.before args0 about1) = true := by decide +kernel
set_option maxRecDepth 65536 in
theorem w_t11 : ((((((((((words1.drop 24).drop 24).drop 24).drop 24).drop 24).drop 24).drop 24).drop 24).drop 24).drop 24).all (fun c => isCode c || c.before args0 about1) = true := by decide +kernel
theorem w_tables : (allAtoms (Jvm.Cond.code x code maxLocals ret :: tables_1)).before args0 about1 = true := by
  rw [allAtoms_all]
  show words1.all (fun c => c.before args0 about1) = true
  refine all_split ?_ w_codes
  rw [← List.take_append_drop 24 words1, List.all_append, w_t1, ← List.take_append_drop 24 (words1.drop 24), List.all_append, w_t2, ← List.take_append_drop 24 ((words1.drop 24).drop 24), List.all_append, w_t3, ← List.take_append_drop 24 (((words1.drop 24).drop 24).drop 24), List.all_append, w_t4, ← List.take_append_drop 24 ((((words1.drop 24).drop 24).drop 24).drop 24), List.all_append, w_t5, ← List.take_append_drop 24 (((((words1.drop 24).drop 24).drop 24).drop 24).drop 24), List.all_append, w_t6, ← List.take_append_drop 24 ((((((words1.drop 24).drop 24).drop 24).drop 24).drop 24).drop 24), List.all_append, w_t7, ← List.take_append_drop 24 (((((((words1.drop 24).drop 24).drop 24).drop 24).drop 24).drop 24).drop 24), List.all_append, w_t8, ← List.take_append_drop 24 ((((((((words1.drop 24).drop 24).drop 24).drop 24).drop 24).drop 24).drop 24).drop 24), List.all_append, w_t9, ← List.take_append_drop 24 (((((((((words1.drop 24).drop 24).drop 24).drop 24).drop 24).drop 24).drop 24).drop 24).drop 24), List.all_append, w_t10, w_t11]
  rfl
set_option maxRecDepth 65536 in
theorem w_rest : rest_1_c.before args0 about1 = true := by decide +kernel
set_option maxRecDepth 65536 in
theorem w_case : (Jvm.Cond.and given_1 narrow_1).before args0 about1 = true := by decide +kernel
theorem w_applies : (headSpec (Jvm.Cond.code x code maxLocals ret :: tables_1) room_1).applies x e0.platform about1 = true :=
  (Spec.applies_iff w_frames).mpr ⟨w_running, w_runnable, w_alone, w_named, w_hears, w_ripe, w_room, w_tables⟩
theorem atStart : AtStart classFile x code maxLocals ret World_1 tables_1 room_1 Calls_1 rest_1 Pre_1 launch0 p0 e0 about1 theMethod args0 below0 :=
  ⟨lists_1, trivial, launch0.admits_env _ _ _, launch0.least_env, fairChoices_fair.cas, fairChoices_fair.clock, w_frames, w_args, w_heap, w_applies, trivial, w_rest, w_case⟩
end start1
theorem witness_1 : WitnessClaimed_1 := ⟨start1.p0, start1.e0, start1.about1, start1.theMethod, start1.args0, start1.below0, start1.atStart⟩
end Jvm.Pilot.@@N@@
