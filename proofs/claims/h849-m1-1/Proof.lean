import JvmDerived
import JvmDerived.Pilot.@@N@@Statement
import JvmDerived.Pilot.@@N@@Code
set_option linter.unusedVariables false
set_option linter.unusedSimpArgs false
namespace Jvm.RoadKit
open Sem ClassFile Op Lib Jvm.Stand Jvm.Free Jvm.LawKit
section Own
variable {p : Program} {l : Launch} {e : Env} {R : Room} {s : State} {m : MethodId} {args : Array Value} {below : List Frame} {meth : Method} {c : Code} {T T' : State} {locs : List Loc} {cells slots : Nat} {Z : State} {a0 : Array Value} {h h' h0 : Heap} {K : State → Outcome → Prop} {pc : Nat} {Ls : Array Slot} {rest : List Value} {Q : Option Value → Heap → List Loc → Prop} {k n : Nat} {a b : Addr} {ws : List Addr} {sl : Nat} {v : Value}
/-- from T the run comes to its end, and K holds there -/
def Go (p : Program) (e : Env) (below : List Frame) (K : State → Outcome → Prop) (T : State) : Prop := ∃ U o, Steps p.tables e below T U ∧ U.status = .running ∧ Ended U below o ∧ K U o
theorem Go.by (st : ∀ t, Steps p.tables e below T' t → Steps p.tables e below T t) (g : Go p e below K T') : Go p e below K T := by
  obtain ⟨U, o, q, r⟩ := g; exact ⟨U, o, st _ q, r⟩
theorem Go.on (st : Steps p.tables e below T T') (g : Go p e below K T') : Go p e below K T := by
  obtain ⟨U, o, q, r⟩ := g; exact ⟨U, o, st.trans q, r⟩
theorem Go.cast {T'' : State} (q : T = T'') (g : Go p e below K T'') : Go p e below K T := q ▸ g
def KK (s : State) (Q : Option Value → Heap → List Loc → Prop) (k n : Nat) : State → Outcome → Prop := fun U o => ∃ v L, o = .returned v ∧ Q v U.heap L ∧ FrameEnd s o U L k n
abbrev Ctr (l : Launch) (Z : State) (h0 : Heap) (y : MethodName) (bytes : ByteArray) (maxL : Nat) (ret : Option FieldType) (ws : List Cond) (rm : Room) (as' : Array Value) (Q : Option Value → Heap → List Loc → Prop) : Prop :=
  MetFree l y (head1 (Cond.code y bytes maxL ret :: ws) rm) (fun a U => a = as' ∧ Z.Warmed39 U.vm ∧ U.heap = h0) (fun _ _ _ _ _ => True) (fun _ U o U' => ∃ v L, o = .returned v ∧ Q v U'.heap L ∧ FrameEnd U o U' L rm.cells rm.slots)
theorem enter {y : MethodName} {bytes : ByteArray} {maxL : Nat} {ret : Option FieldType} {ws : List Cond} {rm : Room} {as' : Array Value} (hp : plainFor y = true)
    (H : ∀ (p : Program) (e : Env) (s : State) (m : MethodId) (below : List Frame) (meth : Method) (c : Code) (s₁ : State), p.tables.exec = Jvm.exec → c.code = bytes → c.maxLocals = maxL → Z.Warmed39 s.vm → s.vm.findClass y.cls = some m.cls → meth.name = y.name → meth.sig.returnType = ret → meth.locks = false →
      Stand p l e rm s m as' below meth c s₁ [] 0 0 → s₁.heap = h0 → s.heap = h0 → Go p e below (KK s Q rm.cells rm.slots) (s₁.setTop (entryFrame m as' maxL))) : Ctr l Z h0 y bytes maxL ret ws rm as' Q := by
  refine MetFree.of_bodySF hp hisR ?_
  intro p e s m args below meth c s₁ Bd hml0 hP hK
  obtain ⟨rfl, hZ, hh⟩ := hP
  exact H p e s m below meth c s₁ Bd.exec Bd.bytes hml0 hZ (findClass_of_methodNamed Bd.named) (name_of_methodNamed Bd.named Bd.method).1 Bd.returns Bd.notSynchronized (Stand.of_body Bd) (by rw [← hh, Bd.state]; rfl) hh
/-! returns -/
theorem Go.ret {w : Value} {t : FieldType} {i : Instr} (X : Stand p l e R s m args below meth c T locs cells slots) (hx : p.tables.exec = Jvm.exec) (hret : meth.sig.returnType = some t) (hlk : meth.locks = false) (hn : narrow t w = w)
    (hi : (i = .ireturn ∧ (t = .int ∨ t = .boolean ∨ t = .byte ∨ t = .char ∨ t = .short) ∧ ∃ z, w = .int z) ∨ (i = .lreturn ∧ t = .long ∧ ∃ z, w = .long z) ∨ (i = .dreturn ∧ t = .double ∧ ∃ z, w = .double z) ∨ (i = .freturn ∧ t = .float ∧ ∃ z, w = .float z) ∨ (i = .areturn ∧ t.isReference = true ∧ w.isRef = true))
    (hd : decode c.code pc = .ok (i, 1)) (eT : T.heap = h) (hk : cells ≤ k) (hs : slots ≤ n) (hQ : Q (some w) h locs) : Go p e below (KK s Q k n) (T.setTop (mkF m pc Ls (w :: rest))) := by
  obtain ⟨fs, hr, hrun, hended, hW, hsame⟩ := X.leave (v := some w) (fun h => by rw [hret] at h; cases h) hlk
  subst eT
  exact ⟨_, _, retOut X hx hret hn hi hd hr, hrun, hended, _, _, rfl, hQ, ⟨_, rfl⟩, hW, hsame.mono hk hs⟩
theorem Go.retI {z : Int32} {t : FieldType} (X : Stand p l e R s m args below meth c T locs cells slots) (hx : p.tables.exec = Jvm.exec) (hret : meth.sig.returnType = some t) (hlk : meth.locks = false) (ht : t = .int ∨ t = .boolean ∨ t = .byte ∨ t = .char ∨ t = .short) (hn : narrow t (.int z) = .int z)
    (hd : decode c.code pc = .ok (.ireturn, 1)) (eT : T.heap = h) (hk : cells ≤ k) (hs : slots ≤ n) (hQ : Q (some (.int z)) h locs) : Go p e below (KK s Q k n) (T.setTop (mkF m pc Ls (.int z :: rest))) :=
  Go.ret X hx hret hlk hn (Or.inl ⟨rfl, ht, z, rfl⟩) hd eT hk hs hQ
theorem Go.retJ {z : Int64} (X : Stand p l e R s m args below meth c T locs cells slots) (hx : p.tables.exec = Jvm.exec) (hret : meth.sig.returnType = some .long) (hlk : meth.locks = false)
    (hd : decode c.code pc = .ok (.lreturn, 1)) (eT : T.heap = h) (hk : cells ≤ k) (hs : slots ≤ n) (hQ : Q (some (.long z)) h locs) : Go p e below (KK s Q k n) (T.setTop (mkF m pc Ls (.long z :: rest))) :=
  Go.ret X hx hret hlk rfl (Or.inr (Or.inl ⟨rfl, rfl, z, rfl⟩)) hd eT hk hs hQ
theorem nar_ref {t : FieldType} {w : Value} (hw : w.isRef = true) : narrow t w = w := by cases w <;> first | (simp [Value.isRef] at hw; done) | (cases t <;> rfl)
theorem fits_any {C : String} {w : Value} (hw : w.isRef = true) : fits (.object C) w = true := by cases w <;> first | (simp [Value.isRef] at hw; done) | rfl
theorem Go.retA {w : Value} {t : FieldType} (X : Stand p l e R s m args below meth c T locs cells slots) (hx : p.tables.exec = Jvm.exec) (hret : meth.sig.returnType = some t) (hlk : meth.locks = false) (ht : t.isReference = true) (hw : w.isRef = true)
    (hd : decode c.code pc = .ok (.areturn, 1)) (eT : T.heap = h) (hk : cells ≤ k) (hs : slots ≤ n) (hQ : Q (some w) h locs) : Go p e below (KK s Q k n) (T.setTop (mkF m pc Ls (w :: rest))) :=
  Go.ret X hx hret hlk (nar_ref hw) (Or.inr (Or.inr (Or.inr (Or.inr ⟨rfl, ht, hw⟩)))) hd eT hk hs hQ
theorem Go.retV (X : Stand p l e R s m args below meth c T locs cells slots) (hx : p.tables.exec = Jvm.exec) (hret : meth.sig.returnType = none) (hlk : meth.locks = false)
    (hd : decode c.code pc = .ok (.return_, 1)) (eT : T.heap = h) (hk : cells ≤ k) (hs : slots ≤ n) (hQ : Q none h locs) : Go p e below (KK s Q k n) (T.setTop (mkF m pc Ls [])) := by
  obtain ⟨fs, hr, hrun, hended, hW, hsame⟩ := X.leave (v := none) (fun _ => rfl) hlk
  subst eT
  exact ⟨_, _, X.returnOut hx hret hd hr, hrun, hended, _, _, rfl, hQ, ⟨_, rfl⟩, hW, hsame.mono hk hs⟩
/-! the old cells -/
theorem ext_trans {h1 h2 h3 : Heap} (E : Ext h1 h2) (F : Ext h2 h3) : Ext h1 h3 := ⟨Nat.le_trans E.1 F.1, fun a c q => F.2 a c (E.2 a c q)⟩
theorem ext_wr {h1 h2 h3 : Heap} (E : Ext h1 h2) (W : Wr h2 h3 a sl v) (g : h1.size ≤ a) : Ext h1 h3 := by
  obtain ⟨cell, q1, q2, q3, rfl⟩ := W
  refine ⟨by simpa using E.1, fun x c q => ?_⟩
  have hx : x < h1.size := (Array.getElem?_eq_some_iff.mp q).1
  rw [Array.getElem?_setIfInBounds_ne (Nat.ne_of_gt (Nat.lt_of_lt_of_le hx g))]
  exact E.2 x c q
theorem ext_keep {h1 h2 h3 : Heap} (E : Ext h1 h2) (F : Keep h2 h3 ws) (g : ∀ x ∈ ws, h1.size ≤ x) : Ext h1 h3 := by
  refine ⟨Nat.le_trans E.1 F.1, fun x c q => F.2.1 x c (E.2 x c q) fun z => ?_⟩
  exact absurd (Array.getElem?_eq_some_iff.mp q).1 (Nat.not_lt.mpr (g x z))
theorem ne_new (q : a < h.size) (r : h.size ≤ b) : a ≠ b := Nat.ne_of_lt (Nat.lt_of_lt_of_le q r)
/-! calls -/
theorem Go.callS {own : String} {index : Nat} {y : MethodName} {bytes : ByteArray} {maxL : Nat} {ret : Option FieldType} {rm : Room} {as' : Array Value} {argsL S : List Value} (X : Stand p l e R s m args below meth c T locs cells slots) (hx : p.tables.exec = Jvm.exec) (hZ : Z.Warmed39 s.vm) (hown : s.vm.findClass own = some m.cls)
    (w1 : (Cond.methodLink own index y).before a0 Z = true) (w2 : (Cond.static y).before a0 Z = true) (w3 : (Cond.initialized y.cls).before a0 Z = true) (w4 : (Cond.code y bytes maxL ret).before a0 Z = true)
    (hy : y.cls ≠ "java/lang/invoke/MethodHandle" ∧ y.cls ≠ "java/lang/invoke/VarHandle") {Q : Option Value → Heap → List Loc → Prop} (hM : Ctr l Z h y bytes maxL ret [] rm as' Q) (eT : T.heap = h) (hsz : Ls.size = c.maxLocals)
    (hd : decode c.code pc = .ok (.invokestatic index, 3)) (hlen : ∀ sig, parseMethodDescriptor y.desc = some sig → argsL.length = sig.parameters.length) (hst : S = argsL.reverse ++ rest) (has : argsL.toArray = as')
    {W : Nat} (hW : 2 * 0 + (rest.map fun v => v.category).sum ≤ W) (hf : rm.frames + 1 ≤ R.frames) (hl : W + (maxL + 11) + rm.locals ≤ R.locals) (hc : cells + rm.cells ≤ R.cells) (hs : slots + rm.slots ≤ R.slots)
    (g : ∀ (v : Option Value) (T' : State) (L : List Loc), Stand p l e R s m args below meth c T' (locs ++ L) (cells + rm.cells) (slots + rm.slots) → Q v T'.heap L → Go p e below K (T'.setTop (mkF m (pc + 3) Ls (v.toList ++ rest)))) : Go p e below K (T.setTop (mkF m pc Ls S)) := by
  obtain ⟨v, _, ⟨T', L', k', n'⟩, -, X', ⟨Lc, hQ, l', y', z'⟩, st⟩ := Jvm.LawKit.callS X hx (y := y) hown (mvT hZ w1) (mvT hZ w2) (mvT hZ w3) (mvT hZ w4) hy (backOf (W := W) hM hZ w4 w3 hf hl) (g := mkF m pc Ls S) rfl hsz (argsL := argsL) (rest := rest) hlen hst hW hd (fun _ _ => ⟨has, eT, hc, hs⟩)
  dsimp only [Pt.U, Pt.locs, Pt.cells, Pt.slots] at X' l' y' z' st hQ
  subst l' y' z'
  exact Go.by st (g v T' Lc X' hQ)
theorem Go.init {own : String} {index : Nat} {y : MethodName} {bytes : ByteArray} {maxL : Nat} {rm : Room} {as' : Array Value} {argsL S : List Value} (X : Stand p l e R s m args below meth c T locs cells slots) (hx : p.tables.exec = Jvm.exec) (hZ : Z.Warmed39 s.vm) (hown : s.vm.findClass own = some m.cls) (hy1 : y.name = "<init>")
    (w1 : (Cond.methodLink own index y).before a0 Z = true) (w2 : (Cond.instanceMethod y).before a0 Z = true) (w3 : (Cond.initialized y.cls).before a0 Z = true) (w4 : (Cond.code y bytes maxL none).before a0 Z = true)
    (hy : y.cls ≠ "java/lang/invoke/MethodHandle" ∧ y.cls ≠ "java/lang/invoke/VarHandle") {Q : Option Value → Heap → List Loc → Prop} (hM : Ctr l Z h y bytes maxL none [] rm as' Q) (eT : T.heap = h) (hsz : Ls.size = c.maxLocals)
    (hd : decode c.code pc = .ok (.invokespecial index, 3)) (hlen : ∀ sig, parseMethodDescriptor y.desc = some sig → argsL.length = sig.parameters.length) (hst : S = argsL.reverse ++ .ref a :: rest) (has : (Value.ref a :: argsL).toArray = as')
    {W : Nat} (hW : 2 * 0 + (rest.map fun v => v.category).sum ≤ W) (hf : rm.frames + 1 ≤ R.frames) (hl : W + (maxL + 11) + rm.locals ≤ R.locals) (hc : cells + rm.cells ≤ R.cells) (hs : slots + rm.slots ≤ R.slots)
    (g : ∀ (v : Option Value) (T' : State) (L : List Loc), Stand p l e R s m args below meth c T' (locs ++ L) (cells + rm.cells) (slots + rm.slots) → Q v T'.heap L → Go p e below K (T'.setTop (mkF m (pc + 3) Ls (v.toList ++ rest)))) : Go p e below K (T.setTop (mkF m pc Ls S)) := by
  obtain ⟨v, _, ⟨T', L', k', n'⟩, -, X', ⟨Lc, hQ, l', y', z'⟩, st⟩ := X.specialBack hx (y := y) hy1 hown (mvT hZ w1) (mvT hZ w2) (mvT hZ w4) hy (backOf (W := W) hM hZ w4 w3 hf hl) (g := mkF m pc Ls S) rfl hsz (Steps.refl _) (a := a) (argsL := argsL) (rest := rest) hlen hst hW hd (fun _ _ => ⟨has, eT, hc, hs⟩)
  dsimp only [Pt.U, Pt.locs, Pt.cells, Pt.slots] at X' l' y' z' st hQ
  subst l' y' z'
  exact Go.on st (g v T' Lc X' hQ)
theorem Go.virt {own C : String} {index : Nat} {y z : MethodName} {bytes : ByteArray} {maxL : Nat} {ret : Option FieldType} {rm : Room} {as' : Array Value} {argsL S : List Value} (X : Stand p l e R s m args below meth c T locs cells slots) (hx : p.tables.exec = Jvm.exec) (hZ : Z.Warmed39 s.vm) (hown : s.vm.findClass own = some m.cls)
    (w1 : (Cond.methodLink own index y).before a0 Z = true) (w2 : (Cond.declares y).before a0 Z = true) (hnf : NotFace s y) (w5 : (Cond.selects C y z).before a0 Z = true) (w6 : (Cond.instanceMethod z).before a0 Z = true) (w3 : (Cond.initialized z.cls).before a0 Z = true) (w4 : (Cond.code z bytes maxL ret).before a0 Z = true)
    (hy : y.cls ≠ "java/lang/invoke/MethodHandle" ∧ y.cls ≠ "java/lang/invoke/VarHandle") {Q : Option Value → Heap → List Loc → Prop} (hM : Ctr l Z h z bytes maxL ret [] rm as' Q) (eT : T.heap = h) (E : Exa Z h a C) (hsz : Ls.size = c.maxLocals)
    (hd : decode c.code pc = .ok (.invokevirtual index, 3)) (hlen : ∀ sig, parseMethodDescriptor y.desc = some sig → argsL.length = sig.parameters.length) (hst : S = argsL.reverse ++ .ref a :: rest) (has : (Value.ref a :: argsL).toArray = as')
    {W : Nat} (hW : 2 * 0 + (rest.map fun v => v.category).sum ≤ W) (hf : rm.frames + 1 ≤ R.frames) (hl : W + (maxL + 11) + rm.locals ≤ R.locals) (hc : cells + rm.cells ≤ R.cells) (hs : slots + rm.slots ≤ R.slots)
    (g : ∀ (v : Option Value) (T' : State) (L : List Loc), Stand p l e R s m args below meth c T' (locs ++ L) (cells + rm.cells) (slots + rm.slots) → Q v T'.heap L → Go p e below K (T'.setTop (mkF m (pc + 3) Ls (v.toList ++ rest)))) : Go p e below K (T.setTop (mkF m pc Ls S)) := by
  obtain ⟨cq, kq, q1, q2, q3⟩ := isOf hZ eT E
  obtain ⟨v, _, ⟨T', L', k', n'⟩, -, X', ⟨Lc, hQ, l', y', z'⟩, st⟩ := X.virtualBack hx (y := y) (z := z) hown (mvT hZ w1) (mvT hZ w2) hnf (mvT hZ w5) (mvT hZ w6) hy (backOf (W := W) hM hZ w4 w3 hf hl) q1 q3 (g := mkF m pc Ls S) rfl hsz (Steps.refl _) (argsL := argsL) (rest := rest) hlen hst hW hd (fun _ _ => ⟨has, eT, hc, hs⟩)
  dsimp only [Pt.U, Pt.locs, Pt.cells, Pt.slots] at X' l' y' z' st hQ
  subst l' y' z'
  exact Go.on st (g v T' Lc X' hQ)
theorem Go.face {own C : String} {index count : Nat} {y z : MethodName} {bytes : ByteArray} {maxL : Nat} {ret : Option FieldType} {rm : Room} {as' : Array Value} {argsL S : List Value} (X : Stand p l e R s m args below meth c T locs cells slots) (hx : p.tables.exec = Jvm.exec) (hZ : Z.Warmed39 s.vm) (hown : s.vm.findClass own = some m.cls)
    (w1 : (Cond.methodLink own index y).before a0 Z = true) (w2 : (Cond.declares y).before a0 Z = true) (w7 : (Cond.interfaceMethod y.cls y.cls y.name y.desc).before a0 Z = true) (w5 : (Cond.selects C y z).before a0 Z = true) (w6 : (Cond.instanceMethod z).before a0 Z = true) (w8 : (Cond.publicMethod z).before a0 Z = true) (w9 : (Cond.unhidden C y.name y.desc).before a0 Z = true) (w10 : (Cond.castable C y.cls).before a0 Z = true) (w3 : (Cond.initialized z.cls).before a0 Z = true) (w4 : (Cond.code z bytes maxL ret).before a0 Z = true)
    (hy : y.cls ≠ "java/lang/invoke/MethodHandle" ∧ y.cls ≠ "java/lang/invoke/VarHandle") {Q : Option Value → Heap → List Loc → Prop} (hM : Ctr l Z h z bytes maxL ret [] rm as' Q) (eT : T.heap = h) (E : Exa Z h a C) (hsz : Ls.size = c.maxLocals)
    (hd : decode c.code pc = .ok (.invokeinterface index count, 5)) (hlen : ∀ sig, parseMethodDescriptor y.desc = some sig → argsL.length = sig.parameters.length) (hst : S = argsL.reverse ++ .ref a :: rest) (has : (Value.ref a :: argsL).toArray = as')
    {W : Nat} (hW : 2 * 0 + (rest.map fun v => v.category).sum ≤ W) (hf : rm.frames + 1 ≤ R.frames) (hl : W + (maxL + 11) + rm.locals ≤ R.locals) (hc : cells + rm.cells ≤ R.cells) (hs : slots + rm.slots ≤ R.slots)
    (g : ∀ (v : Option Value) (T' : State) (L : List Loc), Stand p l e R s m args below meth c T' (locs ++ L) (cells + rm.cells) (slots + rm.slots) → Q v T'.heap L → Go p e below K (T'.setTop (mkF m (pc + 5) Ls (v.toList ++ rest)))) : Go p e below K (T.setTop (mkF m pc Ls S)) := by
  obtain ⟨cq, kq, q1, q2, q3⟩ := isOf hZ eT E
  obtain ⟨v, _, ⟨T', L', k', n'⟩, -, X', ⟨Lc, hQ, l', y', z'⟩, st⟩ := X.interfaceBack hx (xi := y) (y := z) hown (mvT hZ w1) (mvT hZ w2) (mvT hZ w7 (by simp [Cond.onTables, Cond.keepsFace, Cond.keeps, Cond.steady, Cond.faceAtom]; exact hy)) (mvT hZ w5) (mvT hZ w6) (mvT hZ w8) (mvT hZ w9) (mvT hZ w10) hy (backOf (W := W) (len := 5) hM hZ w4 w3 hf hl) q1 q2 q3 (g := mkF m pc Ls S) rfl hsz (Steps.refl _) (argsL := argsL) (rest := rest) hlen hst hW hd (fun _ _ => ⟨has, eT, hc, hs⟩)
  dsimp only [Pt.U, Pt.locs, Pt.cells, Pt.slots] at X' l' y' z' st hQ
  subst l' y' z'
  exact Go.on st (g v T' Lc X' hQ)
theorem Go.priv {own : String} {index : Nat} {y : MethodName} {bytes : ByteArray} {maxL : Nat} {ret : Option FieldType} {rm : Room} {as' : Array Value} {argsL S : List Value} {C : String} (X : Stand p l e R s m args below meth c T locs cells slots) (hx : p.tables.exec = Jvm.exec) (hZ : Z.Warmed39 s.vm) (hown : s.vm.findClass own = some m.cls)
    (w1 : (Cond.methodLink own index y).before a0 Z = true) (w6 : (Cond.instanceMethod y).before a0 Z = true) (w5 : (Cond.selects y.cls y y).before a0 Z = true) (w7 : (Cond.privateMethod y).before a0 Z = true) (w3 : (Cond.initialized y.cls).before a0 Z = true) (w4 : (Cond.code y bytes maxL ret).before a0 Z = true)
    (hy : y.cls ≠ "java/lang/invoke/MethodHandle" ∧ y.cls ≠ "java/lang/invoke/VarHandle") {Q : Option Value → Heap → List Loc → Prop} (hM : Ctr l Z h y bytes maxL ret [] rm as' Q) (eT : T.heap = h) (E : Exa Z h a C) (hsz : Ls.size = c.maxLocals)
    (hd : decode c.code pc = .ok (.invokevirtual index, 3)) (hlen : ∀ sig, parseMethodDescriptor y.desc = some sig → argsL.length = sig.parameters.length) (hst : S = argsL.reverse ++ .ref a :: rest) (has : (Value.ref a :: argsL).toArray = as')
    {W : Nat} (hW : 2 * 0 + (rest.map fun v => v.category).sum ≤ W) (hf : rm.frames + 1 ≤ R.frames) (hl : W + (maxL + 11) + rm.locals ≤ R.locals) (hc : cells + rm.cells ≤ R.cells) (hs : slots + rm.slots ≤ R.slots)
    (g : ∀ (v : Option Value) (T' : State) (L : List Loc), Stand p l e R s m args below meth c T' (locs ++ L) (cells + rm.cells) (slots + rm.slots) → Q v T'.heap L → Go p e below K (T'.setTop (mkF m (pc + 3) Ls (v.toList ++ rest)))) : Go p e below K (T.setTop (mkF m pc Ls S)) := by
  obtain ⟨cq, q1, q2⟩ := E.cell
  subst eT
  obtain ⟨v, _, ⟨T', L', k', n'⟩, -, X', ⟨Lc, hQ, l', y', z'⟩, st⟩ := X.privateBack hx (y := y) hown (mvT hZ w1) (mvT hZ w6) (mvT hZ w5) (Cond.privateMethod_at (mvP hZ w7 (args := #[]))) (mvT hZ w4) hy (backOf (W := W) hM hZ w4 w3 hf hl) (g := mkF m pc Ls S) rfl hsz (Steps.refl _) (a := a) q1 q2 (argsL := argsL) (rest := rest) hlen hst hW hd (fun _ _ => ⟨has, rfl, hc, hs⟩)
  dsimp only [Pt.U, Pt.locs, Pt.cells, Pt.slots] at X' l' y' z' st hQ
  subst l' y' z'
  exact Go.on st (g v T' Lc X' hQ)
theorem Go.sup {own C : String} {index : Nat} {y : MethodName} {bytes : ByteArray} {maxL : Nat} {ret : Option FieldType} {rm : Room} {as' : Array Value} {argsL S : List Value} (X : Stand p l e R s m args below meth c T locs cells slots) (hx : p.tables.exec = Jvm.exec) (hZ : Z.Warmed39 s.vm) (hown : s.vm.findClass own = some m.cls)
    (w1 : (Cond.methodLink own index y).before a0 Z = true) (w2 : (Cond.sameMethod y.cls y.cls y.name y.desc).before a0 Z = true) (w6 : (Cond.instanceMethod y).before a0 Z = true) (w5 : (Cond.superclass own y.cls).before a0 Z = true) (hn : y.name ≠ "<init>") (w3 : (Cond.initialized y.cls).before a0 Z = true) (w4 : (Cond.code y bytes maxL ret).before a0 Z = true)
    {Q : Option Value → Heap → List Loc → Prop} (hM : Ctr l Z h y bytes maxL ret [] rm as' Q) (eT : T.heap = h) (E : Exa Z h a C) (hsz : Ls.size = c.maxLocals)
    (hd : decode c.code pc = .ok (.invokespecial index, 3)) (hlen : ∀ sig, parseMethodDescriptor y.desc = some sig → argsL.length = sig.parameters.length) (hst : S = argsL.reverse ++ .ref a :: rest) (has : (Value.ref a :: argsL).toArray = as')
    {W : Nat} (hW : 2 * 0 + (rest.map fun v => v.category).sum ≤ W) (hf : rm.frames + 1 ≤ R.frames) (hl : W + (maxL + 11) + rm.locals ≤ R.locals) (hc : cells + rm.cells ≤ R.cells) (hs : slots + rm.slots ≤ R.slots)
    (g : ∀ (v : Option Value) (T' : State) (L : List Loc), Stand p l e R s m args below meth c T' (locs ++ L) (cells + rm.cells) (slots + rm.slots) → Q v T'.heap L → Go p e below K (T'.setTop (mkF m (pc + 3) Ls (v.toList ++ rest)))) : Go p e below K (T.setTop (mkF m pc Ls S)) := by
  obtain ⟨v, _, ⟨T', L', k', n'⟩, -, X', ⟨Lc, hQ, l', y', z'⟩, st⟩ := superBack X hx hZ (y := y) hown w1 w2 w6 w5 hn (backOf (W := W) hM hZ w4 w3 hf hl) eT (Ins.self E) (g := mkF m pc Ls S) rfl hsz w4 (argsL := argsL) (rest := rest) hlen hst hW hd (fun _ _ => ⟨has, eT, hc, hs⟩)
  dsimp only [Pt.U, Pt.locs, Pt.cells, Pt.slots] at X' l' y' z' st hQ
  subst l' y' z'
  exact Go.on st (g v T' Lc X' hQ)
/-! arrays whose components are known -/
variable {cA : ClassId} {ty : FieldType} {z j : Int32} {vs : List Value} {dv : Value}
theorem Go.alen (X : Stand p l e R s m args below meth c T locs cells slots) (hx : p.tables.exec = Jvm.exec) (hZ : Z.Warmed39 s.vm) (eT : T.heap = h) (V : Arv Z h a cA ty z vs dv) (hd : decode c.code pc = .ok (.arraylength, 1))
    (g : Go p e below K (T.setTop (mkF m (pc + 1) Ls (.int z :: rest)))) : Go p e below K (T.setTop (mkF m pc Ls (.ref a :: rest))) := by
  obtain ⟨cl, A, -, S, N, -, -⟩ := V
  subst eT
  refine Go.by (fun t q => X.arraylength hx A.1 (State.isArrayOf_alike hZ.alike A.2.1) (g := mkF m pc Ls (.ref a :: rest)) rfl rfl hd _ q) ?_
  rw [len_of S N]
  exact g
/-- an array of which the length alone is known -/
def Lng (Z : State) (h : Heap) (a : Addr) (n : Int32) : Prop := ∃ (cl : Cell) (ty : FieldType), Arr Z h a cl ty ∧ cl.slots.size = n.toNatClampNeg ∧ ¬ n < 0
theorem Lng.ext (L : Lng Z h a z) (E : Ext h h') : Lng Z h' a z := by obtain ⟨cl, ty, A, r⟩ := L; exact ⟨cl, ty, A.ext E, r⟩
theorem Lng.lt (L : Lng Z h a z) : a < h.size := by obtain ⟨cl, ty, A, r⟩ := L; exact A.lt
theorem Lng.of {cl : Cell} (A : Arr Z h a cl ty) (q : cl.slots.size < 2 ^ 31) (e : cl.slots.size.toInt32 = z) (hz : ¬ z < 0) : Lng Z h a z := by
  refine ⟨cl, ty, A, ?_, hz⟩
  rw [← e]; simp only [Int32.toNatClampNeg, len_toInt q]; rfl
theorem Go.aln (X : Stand p l e R s m args below meth c T locs cells slots) (hx : p.tables.exec = Jvm.exec) (hZ : Z.Warmed39 s.vm) (eT : T.heap = h) (V : Lng Z h a z) (hd : decode c.code pc = .ok (.arraylength, 1))
    (g : Go p e below K (T.setTop (mkF m (pc + 1) Ls (.int z :: rest)))) : Go p e below K (T.setTop (mkF m pc Ls (.ref a :: rest))) := by
  obtain ⟨cl, ty, A, S, N⟩ := V
  subst eT
  refine Go.by (fun t q => X.arraylength hx A.1 (State.isArrayOf_alike hZ.alike A.2.1) (g := mkF m pc Ls (.ref a :: rest)) rfl rfl hd _ q) ?_
  rw [len_of S N]
  exact g
theorem bb (x : Int32) : x.toInt8.toInt32.toInt8.toInt32 = x.toInt8.toInt32 := by simp
theorem Go.bal {v : Value} (X : Stand p l e R s m args below meth c T locs cells slots) (hx : p.tables.exec = Jvm.exec) (hZ : Z.Warmed39 s.vm) (eT : T.heap = h) (V : Arv Z h a cA .byte z vs dv) (hj : ¬ j < 0 ∧ j < z) (hv : vs.getD j.toNatClampNeg dv = v) (hd : decode c.code pc = .ok (.baload, 1))
    (g : Go p e below K (T.setTop (mkF m (pc + 1) Ls (v :: rest)))) : Go p e below K (T.setTop (mkF m pc Ls (.int j :: .ref a :: rest))) := by
  obtain ⟨cl, A, -, S, N, H, -⟩ := V
  subst eT
  have hin := inb_of S hj
  exact Go.by (fun t q => X.baloadBytes hx (j := j) (v := v) A.1 (State.isArrayOf_alike hZ.alike A.2.1) A.2.2 hin (H.at hin hv) (g := mkF m pc Ls (.int j :: .ref a :: rest)) rfl rfl hd _ q) g
theorem Go.cal {v : Value} (X : Stand p l e R s m args below meth c T locs cells slots) (hx : p.tables.exec = Jvm.exec) (hZ : Z.Warmed39 s.vm) (eT : T.heap = h) (V : Arv Z h a cA .char z vs dv) (hj : ¬ j < 0 ∧ j < z) (hv : vs.getD j.toNatClampNeg dv = v) (hd : decode c.code pc = .ok (.caload, 1))
    (g : Go p e below K (T.setTop (mkF m (pc + 1) Ls (v :: rest)))) : Go p e below K (T.setTop (mkF m pc Ls (.int j :: .ref a :: rest))) := by
  obtain ⟨cl, A, -, S, N, H, -⟩ := V
  subst eT
  have hin := inb_of S hj
  exact Go.by (fun t q => X.caload hx (j := j) (v := v) A.1 (State.isArrayOf_alike hZ.alike A.2.1) A.2.2 hin (H.at hin hv) (g := mkF m pc Ls (.int j :: .ref a :: rest)) rfl rfl hd _ q) g
theorem Go.ial {v : Value} (X : Stand p l e R s m args below meth c T locs cells slots) (hx : p.tables.exec = Jvm.exec) (hZ : Z.Warmed39 s.vm) (eT : T.heap = h) (V : Arv Z h a cA .int z vs dv) (hj : ¬ j < 0 ∧ j < z) (hv : vs.getD j.toNatClampNeg dv = v) (hd : decode c.code pc = .ok (.iaload, 1))
    (g : Go p e below K (T.setTop (mkF m (pc + 1) Ls (v :: rest)))) : Go p e below K (T.setTop (mkF m pc Ls (.int j :: .ref a :: rest))) := by
  obtain ⟨cl, A, -, S, N, H, -⟩ := V
  subst eT
  have hin := inb_of S hj
  exact Go.by (fun t q => X.iaload hx (j := j) (v := v) A.1 (State.isArrayOf_alike hZ.alike A.2.1) A.2.2 hin (H.at hin hv) (g := mkF m pc Ls (.int j :: .ref a :: rest)) rfl rfl hd _ q) g
theorem Go.aal {v : Value} (X : Stand p l e R s m args below meth c T locs cells slots) (hx : p.tables.exec = Jvm.exec) (hZ : Z.Warmed39 s.vm) (eT : T.heap = h) (V : Arv Z h a cA ty z vs dv) (hty : ty.isReference = true) (hj : ¬ j < 0 ∧ j < z) (hv : vs.getD j.toNatClampNeg dv = v) (hd : decode c.code pc = .ok (.aaload, 1))
    (g : Go p e below K (T.setTop (mkF m (pc + 1) Ls (v :: rest)))) : Go p e below K (T.setTop (mkF m pc Ls (.int j :: .ref a :: rest))) := by
  obtain ⟨cl, A, -, S, N, H, -⟩ := V
  subst eT
  have hin := inb_of S hj
  exact Go.by (fun t q => X.aaload hx (j := j) (v := v) A.1 (State.isArrayOf_alike hZ.alike A.2.1) hty A.2.2 hin (H.at hin hv) (g := mkF m pc Ls (.int j :: .ref a :: rest)) rfl rfl hd _ q) g
theorem Go.bst {x : Int32} {i : Nat} (X : Stand p l e R s m args below meth c T locs cells slots) (hx : p.tables.exec = Jvm.exec) (hZ : Z.Warmed39 s.vm) (eT : T.heap = h) (V : Arv Z h a cA .byte z vs dv) (hj : ¬ j < 0 ∧ j < z) (hi : j.toNatClampNeg = i) (hl : i < vs.length) (hd : decode c.code pc = .ok (.bastore, 1))
    (g : ∀ (T' : State) (h' : Heap), Stand p l e R s m args below meth c T' (locs ++ [⟨a, j.toNatClampNeg⟩]) cells slots → T'.heap = h' → Wr h h' a j.toNatClampNeg (.int x.toInt8.toInt32) → Arv Z h' a cA .byte z (vs.set i (.int x.toInt8.toInt32)) dv → Go p e below K (T'.setTop (mkF m (pc + 1) Ls rest))) : Go p e below K (T.setTop (mkF m pc Ls (.int x :: .int j :: .ref a :: rest))) := by
  obtain ⟨cl, A, q1, S, N, H, G⟩ := V
  obtain ⟨T', h', X', e', W, st⟩ := stB X hx hZ eT A (j := j) (x := x) (inb_of S hj) (g := mkF m pc Ls (.int x :: .int j :: .ref a :: rest)) rfl rfl hd
  exact Go.by st (g T' h' X' e' W (Arv.set A q1 S N H G (fits_nar_byte _) W i hi hl))
theorem Go.cst {x : Int32} {i : Nat} (X : Stand p l e R s m args below meth c T locs cells slots) (hx : p.tables.exec = Jvm.exec) (hZ : Z.Warmed39 s.vm) (eT : T.heap = h) (V : Arv Z h a cA .char z vs dv) (hj : ¬ j < 0 ∧ j < z) (hi : j.toNatClampNeg = i) (hl : i < vs.length) (hd : decode c.code pc = .ok (.castore, 1))
    (g : ∀ (T' : State) (h' : Heap), Stand p l e R s m args below meth c T' (locs ++ [⟨a, j.toNatClampNeg⟩]) cells slots → T'.heap = h' → Wr h h' a j.toNatClampNeg (.int (nar .char x)) → Arv Z h' a cA .char z (vs.set i (.int (nar .char x))) dv → Go p e below K (T'.setTop (mkF m (pc + 1) Ls rest))) : Go p e below K (T.setTop (mkF m pc Ls (.int x :: .int j :: .ref a :: rest))) := by
  obtain ⟨cl, A, q1, S, N, H, G⟩ := V
  obtain ⟨T', h', X', e', W, st⟩ := stC X hx hZ eT A (j := j) (x := x) (inb_of S hj) (g := mkF m pc Ls (.int x :: .int j :: .ref a :: rest)) rfl rfl hd
  exact Go.by st (g T' h' X' e' W (Arv.set A q1 S N H G (fits_nar_char _) W i hi hl))
theorem Go.ist {x : Int32} {i : Nat} (X : Stand p l e R s m args below meth c T locs cells slots) (hx : p.tables.exec = Jvm.exec) (hZ : Z.Warmed39 s.vm) (eT : T.heap = h) (V : Arv Z h a cA .int z vs dv) (hj : ¬ j < 0 ∧ j < z) (hi : j.toNatClampNeg = i) (hl : i < vs.length) (hd : decode c.code pc = .ok (.iastore, 1))
    (g : ∀ (T' : State) (h' : Heap), Stand p l e R s m args below meth c T' (locs ++ [⟨a, j.toNatClampNeg⟩]) cells slots → T'.heap = h' → Wr h h' a j.toNatClampNeg (.int x) → Arv Z h' a cA .int z (vs.set i (.int x)) dv → Go p e below K (T'.setTop (mkF m (pc + 1) Ls rest))) : Go p e below K (T.setTop (mkF m pc Ls (.int x :: .int j :: .ref a :: rest))) := by
  obtain ⟨cl, A, q1, S, N, H, G⟩ := V
  obtain ⟨T', h', X', e', W, st⟩ := stI X hx hZ eT A (j := j) (x := x) (inb_of S hj) (g := mkF m pc Ls (.int x :: .int j :: .ref a :: rest)) rfl rfl hd
  exact Go.by st (g T' h' X' e' W (Arv.set A q1 S N H G rfl W i hi hl))
/-! from the case's words -/
theorem sta_exa {C f d K : String} (hx : (Cond.exactly (Term.static C f d) K).value args s none s [] = some true) (w1 : (Cond.initialized C).before args s = true) (w2 : (Cond.laysStatic C f d).before args s = true) : ∃ a, (Term.static C f d).eval args s none [] s = some (.ref a) ∧ Sta s s.heap C f d (.ref a) ∧ Exa s s.heap a K := by
  obtain ⟨a, ev⟩ := exa_v hx
  exact ⟨a, ev, Sta.start ev (Or.inr ⟨w1, w2⟩), Exa.start ev hx⟩
theorem fld_int {t : Term} {C f d : String} {z : Int32} (ev : t.eval args s none [] s = some (.ref a)) (hx : (Cond.eq (Term.field t C f d) (Term.int z)).value args s none s [] = some true) : Fld s s.heap a C f d (.int z) := by
  obtain ⟨x, y, e1, e2, k1, k2⟩ := cmp_v (Or.inl hx)
  have e3 : y = .int z := by rw [Term.int_eval] at e2; exact (Option.some.inj e2).symm
  subst e3
  obtain ⟨q, rfl⟩ : ∃ q, x = .int q := k2
  have e4 : q = z := by simpa [Cond.value, e1, e2] using hx
  subst e4
  rw [fld_at ev] at e1
  exact Fld.start e1
theorem eq_int {t : Term} {x z : Int32} (ev : t.eval args s none [] s = some (.int x)) (h : (Cond.eq t (Term.int z)).before args s = true) : x = z := by
  have q := Cond.before_iff.mp h
  simpa [Cond.value, ev, Term.int_eval] using q
theorem fld_ref {t : Term} {C f d : String} (ev : t.eval args s none [] s = some (.ref a)) (ev2 : (Term.field t C f d).eval args s none [] s = some (.ref b)) : Fld s s.heap a C f d (.ref b) := by
  rw [fld_at ev] at ev2; exact Fld.start ev2
theorem fld_null {t : Term} {C f d : String} (ev : t.eval args s none [] s = some (.ref a)) (hx : (Cond.eq (Term.field t C f d) Term.null).value args s none s [] = some true) : Fld s s.heap a C f d .null := by
  have q := null_v hx
  rw [fld_at ev] at q; exact Fld.start q
theorem fld_same {t u : Term} {C f d : String} (ev : t.eval args s none [] s = some (.ref a)) (ev2 : u.eval args s none [] s = some (.ref b)) (hx : (Cond.eq (Term.field t C f d) u).value args s none s [] = some true) : Fld s s.heap a C f d (.ref b) := by
  obtain ⟨x, y, e1, e2, k1, k2⟩ := cmp_v (Or.inl hx)
  cases ev2.symm.trans e2
  have hr : x.isRef = true := by
    have := k2
    simp [Kin] at this
    exact this.2
  rw [eq_R e1 e2 hr rfl] at hx
  have e3 : x = .ref b := by simpa using hx
  subst e3
  exact fld_ref ev e1
theorem elem_int {t : Term} {i v : Int32} {cl : Cell} {ty : FieldType} (ev : t.eval args s none [] s = some (.ref a)) (A : Arr s s.heap a cl ty) (hx : (Cond.eq (Term.elem t (Term.int i)) (Term.int v)).value args s none s [] = some true) : cl.slots[i.toNatClampNeg]? = some (.int v) := by
  obtain ⟨x, y, e1, e2, k1, k2⟩ := cmp_v (Or.inl hx)
  have e3 : y = .int v := by rw [Term.int_eval] at e2; exact (Option.some.inj e2).symm
  subst e3
  obtain ⟨q, rfl⟩ : ∃ q, x = .int q := k2
  have e4 : q = v := eq_int e1 (Cond.before_iff.mpr hx)
  subst e4
  exact (elem_in e1 ev (Term.int_eval _) A.1).2
theorem sta_int {C f d : String} (h0 : (Cond.initializedFor C f d).before args s = true) (h1 : (Cond.isInt (Term.static C f d)).before args s = true) : ∃ x, (Term.static C f d).eval args s none [] s = some (.int x) ∧ Sta s s.heap C f d (.int x) := by
  obtain ⟨x, ev⟩ := is_v (Cond.before_iff.mp h1)
  exact ⟨x, ev, Sta.start ev (Or.inl h0)⟩
theorem sta_ref {C f d : String} (h0 : (Cond.initializedFor C f d).before args s = true) (h1 : (Cond.isRef (Term.static C f d)).before args s = true) : ∃ x, (Term.static C f d).eval args s none [] s = some x ∧ x.isRef = true ∧ Sta s s.heap C f d x := by
  obtain ⟨x, ev, hr⟩ := isR_v (Cond.before_iff.mp h1)
  exact ⟨x, ev, hr, Sta.start ev (Or.inl h0)⟩
theorem ne_int {t : Term} {x z : Int32} (ev : t.eval args s none [] s = some (.int x)) (h : (Cond.not (Cond.eq t (Term.int z))).before args s = true) : ¬ x = z := by
  have q := not_v (Cond.before_iff.mp h)
  intro e; subst e
  rw [eq_i ev (Term.int_eval _) rfl] at q
  cases q
/-! a class whose superclasses are named is not one that can be instantiated and isn't among them -/
theorem ns_root {O D : String} {nn : Nat} (w : (Cond.noSuperclass O).before a0 Z = true) (wk : (Cond.instantiable D nn).before a0 Z = true) (hn : O ≠ D) : NS Z O D := by
  obtain ⟨c1, k1, q1, q2, q3, -, -⟩ := Cond.noSuperclass_spec w
  obtain ⟨t, -, g1, -⟩ := Cond.instantiable_spec wk
  refine ⟨c1, t, q1, g1, fun fuel => ?_⟩
  have ne := ids_ne q1 g1 hn
  cases fuel <;> simp [Vm.isSubclassAux, ne, q2, q3]
theorem ns_no {C S D : String} {nn : Nat} (w : (Cond.superclass C S).before a0 Z = true) (wk : (Cond.instantiable D nn).before a0 Z = true) (n : NS Z C D) (hn : C ≠ D) : ∃ c t, Z.vm.findClass C = some c ∧ Z.vm.findClass D = some t ∧ Z.vm.assignable c t = false := by
  obtain ⟨c1, t, q0, g0, n3⟩ := n
  obtain ⟨p1, k1, kp, q1, q2, q3, q4, q5, -, q7⟩ := Cond.superclass_spec q0 w
  obtain ⟨t', k2, g1, g2, g3, g4, -⟩ := Cond.instantiable_spec wk
  cases g0.symm.trans g1
  have ne := ids_ne q0 g0 hn
  have g5 : k2.isInterface = false := by simpa using (Bool.or_eq_false_iff.mp g4).1
  refine ⟨c1, t, q0, g0, ?_⟩
  show Z.vm.assignableAux (255 + 1) c1 t = false
  simp [Vm.assignableAux, ne, q2, g2, q5, g3, g5, Vm.isSubclass, n3]
end Own
end Jvm.RoadKit
namespace Jvm.RoadKit
open Sem ClassFile Op Lib Jvm.Stand Jvm.Free Jvm.LawKit
section OwnSteps
variable {p : Program} {l : Launch} {e : Env} {R : Room} {s : State} {m : MethodId} {args : Array Value} {below : List Frame} {meth : Method} {c : Code} {T : State} {locs : List Loc} {cells slots : Nat} {K : State → Outcome → Prop} {pc q : Nat} {Ls l' : Array Slot} {S : List Value}
theorem Go.iloadN {k : Fin 4} {v : Int32} (X : Stand p l e R s m args below meth c T locs cells slots) (hx : p.tables.exec = Jvm.exec) (hd : decode c.code pc = .ok (.iload_n k, 1)) (hl : Ls[k.val]? = some (.val (.int v))) (hp : pc + 1 = q) (g : Go p e below K (T.setTop (mkF m q Ls (.int v :: S)))) : Go p e below K (T.setTop (mkF m pc Ls S)) := by
  subst hp
  exact Go.by (fun t z => XS.iloadN X.here hx rfl hd hl z) g
theorem Go.iload {k : Nat} {v : Int32} (X : Stand p l e R s m args below meth c T locs cells slots) (hx : p.tables.exec = Jvm.exec) (hd : decode c.code pc = .ok (.iload k, 2)) (hl : Ls[k]? = some (.val (.int v))) (hp : pc + 2 = q) (g : Go p e below K (T.setTop (mkF m q Ls (.int v :: S)))) : Go p e below K (T.setTop (mkF m pc Ls S)) := by
  subst hp
  exact Go.by (fun t z => XS.iload X.here hx rfl hd hl z) g
theorem Go.istoreN {k : Fin 4} {v : Int32} (X : Stand p l e R s m args below meth c T locs cells slots) (hx : p.tables.exec = Jvm.exec) (hd : decode c.code pc = .ok (.istore_n k, 1)) (hl : storeLocals Ls k.val (.int v) = some l') (hp : pc + 1 = q) (g : Go p e below K (T.setTop (mkF m q l' S))) : Go p e below K (T.setTop (mkF m pc Ls (.int v :: S))) := by
  subst hp
  exact Go.by (fun t z => XS.istoreN X.here hx rfl hd rfl hl z) g
theorem Go.istore {k : Nat} {v : Int32} (X : Stand p l e R s m args below meth c T locs cells slots) (hx : p.tables.exec = Jvm.exec) (hd : decode c.code pc = .ok (.istore k, 2)) (hl : storeLocals Ls k (.int v) = some l') (hp : pc + 2 = q) (g : Go p e below K (T.setTop (mkF m q l' S))) : Go p e below K (T.setTop (mkF m pc Ls (.int v :: S))) := by
  subst hp
  exact Go.by (fun t z => XS.istore X.here hx rfl hd rfl hl z) g
theorem Go.lloadN {k : Fin 4} {v : Int64} (X : Stand p l e R s m args below meth c T locs cells slots) (hx : p.tables.exec = Jvm.exec) (hd : decode c.code pc = .ok (.lload_n k, 1)) (hl : Ls[k.val]? = some (.val (.long v))) (hp : pc + 1 = q) (g : Go p e below K (T.setTop (mkF m q Ls (.long v :: S)))) : Go p e below K (T.setTop (mkF m pc Ls S)) := by
  subst hp
  exact Go.by (fun t z => XS.lloadN X.here hx rfl hd hl z) g
theorem Go.lload {k : Nat} {v : Int64} (X : Stand p l e R s m args below meth c T locs cells slots) (hx : p.tables.exec = Jvm.exec) (hd : decode c.code pc = .ok (.lload k, 2)) (hl : Ls[k]? = some (.val (.long v))) (hp : pc + 2 = q) (g : Go p e below K (T.setTop (mkF m q Ls (.long v :: S)))) : Go p e below K (T.setTop (mkF m pc Ls S)) := by
  subst hp
  exact Go.by (fun t z => XS.lload X.here hx rfl hd hl z) g
theorem Go.lstoreN {k : Fin 4} {v : Int64} (X : Stand p l e R s m args below meth c T locs cells slots) (hx : p.tables.exec = Jvm.exec) (hd : decode c.code pc = .ok (.lstore_n k, 1)) (hl : storeLocals Ls k.val (.long v) = some l') (hp : pc + 1 = q) (g : Go p e below K (T.setTop (mkF m q l' S))) : Go p e below K (T.setTop (mkF m pc Ls (.long v :: S))) := by
  subst hp
  exact Go.by (fun t z => XS.lstoreN X.here hx rfl hd rfl hl z) g
theorem Go.lstore {k : Nat} {v : Int64} (X : Stand p l e R s m args below meth c T locs cells slots) (hx : p.tables.exec = Jvm.exec) (hd : decode c.code pc = .ok (.lstore k, 2)) (hl : storeLocals Ls k (.long v) = some l') (hp : pc + 2 = q) (g : Go p e below K (T.setTop (mkF m q l' S))) : Go p e below K (T.setTop (mkF m pc Ls (.long v :: S))) := by
  subst hp
  exact Go.by (fun t z => XS.lstore X.here hx rfl hd rfl hl z) g
theorem Go.aloadN {k : Fin 4} {v : Value} (X : Stand p l e R s m args below meth c T locs cells slots) (hx : p.tables.exec = Jvm.exec) (hd : decode c.code pc = .ok (.aload_n k, 1)) (hl : Ls[k.val]? = some (.val v)) (hv : v.isRef = true) (hp : pc + 1 = q) (g : Go p e below K (T.setTop (mkF m q Ls (v :: S)))) : Go p e below K (T.setTop (mkF m pc Ls S)) := by
  subst hp
  exact Go.by (fun t z => XS.aloadN X.here hx rfl hd hl hv z) g
theorem Go.aload {k : Nat} {v : Value} (X : Stand p l e R s m args below meth c T locs cells slots) (hx : p.tables.exec = Jvm.exec) (hd : decode c.code pc = .ok (.aload k, 2)) (hl : Ls[k]? = some (.val v)) (hv : v.isRef = true) (hp : pc + 2 = q) (g : Go p e below K (T.setTop (mkF m q Ls (v :: S)))) : Go p e below K (T.setTop (mkF m pc Ls S)) := by
  subst hp
  exact Go.by (fun t z => XS.aload X.here hx rfl hd hl hv z) g
theorem Go.astoreN {k : Fin 4} {v : Value} (X : Stand p l e R s m args below meth c T locs cells slots) (hx : p.tables.exec = Jvm.exec) (hd : decode c.code pc = .ok (.astore_n k, 1)) (hv : v.isRef = true) (hl : storeLocals Ls k.val v = some l') (hp : pc + 1 = q) (g : Go p e below K (T.setTop (mkF m q l' S))) : Go p e below K (T.setTop (mkF m pc Ls (v :: S))) := by
  subst hp
  exact Go.by (fun t z => XS.astoreN X.here hx rfl hd rfl hv hl z) g
theorem Go.astore {k : Nat} {v : Value} (X : Stand p l e R s m args below meth c T locs cells slots) (hx : p.tables.exec = Jvm.exec) (hd : decode c.code pc = .ok (.astore k, 2)) (hv : v.isRef = true) (hl : storeLocals Ls k v = some l') (hp : pc + 2 = q) (g : Go p e below K (T.setTop (mkF m q l' S))) : Go p e below K (T.setTop (mkF m pc Ls (v :: S))) := by
  subst hp
  exact Go.by (fun t z => XS.astore X.here hx rfl hd rfl hv hl z) g
theorem Go.iconst {i : Int} {r : Int32} (X : Stand p l e R s m args below meth c T locs cells slots) (hx : p.tables.exec = Jvm.exec) (hd : decode c.code pc = .ok (.iconst i, 1)) (hr : Int32.ofInt i = r) (hp : pc + 1 = q) (g : Go p e below K (T.setTop (mkF m q Ls (.int r :: S)))) : Go p e below K (T.setTop (mkF m pc Ls S)) := by
  subst hp hr
  exact Go.by (fun t z => XS.iconst X.here hx rfl hd z) g
theorem Go.bipush {i : Int} {r : Int32} (X : Stand p l e R s m args below meth c T locs cells slots) (hx : p.tables.exec = Jvm.exec) (hd : decode c.code pc = .ok (.bipush i, 2)) (hr : (Int8.ofInt i).toInt32 = r) (hp : pc + 2 = q) (g : Go p e below K (T.setTop (mkF m q Ls (.int r :: S)))) : Go p e below K (T.setTop (mkF m pc Ls S)) := by
  subst hp hr
  exact Go.by (fun t z => XS.bipush X.here hx rfl hd z) g
theorem Go.sipush {i : Int} {r : Int32} (X : Stand p l e R s m args below meth c T locs cells slots) (hx : p.tables.exec = Jvm.exec) (hd : decode c.code pc = .ok (.sipush i, 3)) (hr : (Int16.ofInt i).toInt32 = r) (hp : pc + 3 = q) (g : Go p e below K (T.setTop (mkF m q Ls (.int r :: S)))) : Go p e below K (T.setTop (mkF m pc Ls S)) := by
  subst hp hr
  exact Go.by (fun t z => XS.sipush X.here hx rfl hd z) g
theorem Go.lconst {k : Fin 2} {r : Int64} (X : Stand p l e R s m args below meth c T locs cells slots) (hx : p.tables.exec = Jvm.exec) (hd : decode c.code pc = .ok (.lconst k, 1)) (hr : Int64.ofNat k = r) (hp : pc + 1 = q) (g : Go p e below K (T.setTop (mkF m q Ls (.long r :: S)))) : Go p e below K (T.setTop (mkF m pc Ls S)) := by
  subst hp hr
  exact Go.by (fun t z => XS.lconst X.here hx rfl hd z) g
theorem Go.aconst_null  (X : Stand p l e R s m args below meth c T locs cells slots) (hx : p.tables.exec = Jvm.exec) (hd : decode c.code pc = .ok (.aconst_null, 1)) (hp : pc + 1 = q) (g : Go p e below K (T.setTop (mkF m q Ls (.null :: S)))) : Go p e below K (T.setTop (mkF m pc Ls S)) := by
  subst hp
  exact Go.by (fun t z => XS.aconstNull X.here hx rfl hd z) g
theorem Go.iadd {x y r : Int32} (X : Stand p l e R s m args below meth c T locs cells slots) (hx : p.tables.exec = Jvm.exec) (hd : decode c.code pc = .ok (.iadd, 1)) (hr : x + y = r) (hp : pc + 1 = q) (g : Go p e below K (T.setTop (mkF m q Ls (.int r :: S)))) : Go p e below K (T.setTop (mkF m pc Ls (.int y :: .int x :: S))) := by
  subst hp hr
  exact Go.by (fun t z => XS.iadd X.here hx rfl hd rfl z) g
theorem Go.ladd {x y r : Int64} (X : Stand p l e R s m args below meth c T locs cells slots) (hx : p.tables.exec = Jvm.exec) (hd : decode c.code pc = .ok (.ladd, 1)) (hr : x + y = r) (hp : pc + 1 = q) (g : Go p e below K (T.setTop (mkF m q Ls (.long r :: S)))) : Go p e below K (T.setTop (mkF m pc Ls (.long y :: .long x :: S))) := by
  subst hp hr
  exact Go.by (fun t z => XS.ladd X.here hx rfl hd rfl z) g
theorem Go.isub {x y r : Int32} (X : Stand p l e R s m args below meth c T locs cells slots) (hx : p.tables.exec = Jvm.exec) (hd : decode c.code pc = .ok (.isub, 1)) (hr : x - y = r) (hp : pc + 1 = q) (g : Go p e below K (T.setTop (mkF m q Ls (.int r :: S)))) : Go p e below K (T.setTop (mkF m pc Ls (.int y :: .int x :: S))) := by
  subst hp hr
  exact Go.by (fun t z => XS.isub X.here hx rfl hd rfl z) g
theorem Go.lsub {x y r : Int64} (X : Stand p l e R s m args below meth c T locs cells slots) (hx : p.tables.exec = Jvm.exec) (hd : decode c.code pc = .ok (.lsub, 1)) (hr : x - y = r) (hp : pc + 1 = q) (g : Go p e below K (T.setTop (mkF m q Ls (.long r :: S)))) : Go p e below K (T.setTop (mkF m pc Ls (.long y :: .long x :: S))) := by
  subst hp hr
  exact Go.by (fun t z => XS.lsub X.here hx rfl hd rfl z) g
theorem Go.imul {x y r : Int32} (X : Stand p l e R s m args below meth c T locs cells slots) (hx : p.tables.exec = Jvm.exec) (hd : decode c.code pc = .ok (.imul, 1)) (hr : x * y = r) (hp : pc + 1 = q) (g : Go p e below K (T.setTop (mkF m q Ls (.int r :: S)))) : Go p e below K (T.setTop (mkF m pc Ls (.int y :: .int x :: S))) := by
  subst hp hr
  exact Go.by (fun t z => XS.imul X.here hx rfl hd rfl z) g
theorem Go.lmul {x y r : Int64} (X : Stand p l e R s m args below meth c T locs cells slots) (hx : p.tables.exec = Jvm.exec) (hd : decode c.code pc = .ok (.lmul, 1)) (hr : x * y = r) (hp : pc + 1 = q) (g : Go p e below K (T.setTop (mkF m q Ls (.long r :: S)))) : Go p e below K (T.setTop (mkF m pc Ls (.long y :: .long x :: S))) := by
  subst hp hr
  exact Go.by (fun t z => XS.lmul X.here hx rfl hd rfl z) g
theorem Go.iand {x y r : Int32} (X : Stand p l e R s m args below meth c T locs cells slots) (hx : p.tables.exec = Jvm.exec) (hd : decode c.code pc = .ok (.iand, 1)) (hr : x &&& y = r) (hp : pc + 1 = q) (g : Go p e below K (T.setTop (mkF m q Ls (.int r :: S)))) : Go p e below K (T.setTop (mkF m pc Ls (.int y :: .int x :: S))) := by
  subst hp hr
  exact Go.by (fun t z => XS.iand X.here hx rfl hd rfl z) g
theorem Go.land {x y r : Int64} (X : Stand p l e R s m args below meth c T locs cells slots) (hx : p.tables.exec = Jvm.exec) (hd : decode c.code pc = .ok (.land, 1)) (hr : x &&& y = r) (hp : pc + 1 = q) (g : Go p e below K (T.setTop (mkF m q Ls (.long r :: S)))) : Go p e below K (T.setTop (mkF m pc Ls (.long y :: .long x :: S))) := by
  subst hp hr
  exact Go.by (fun t z => XS.land X.here hx rfl hd rfl z) g
theorem Go.ior {x y r : Int32} (X : Stand p l e R s m args below meth c T locs cells slots) (hx : p.tables.exec = Jvm.exec) (hd : decode c.code pc = .ok (.ior, 1)) (hr : x ||| y = r) (hp : pc + 1 = q) (g : Go p e below K (T.setTop (mkF m q Ls (.int r :: S)))) : Go p e below K (T.setTop (mkF m pc Ls (.int y :: .int x :: S))) := by
  subst hp hr
  exact Go.by (fun t z => XS.ior X.here hx rfl hd rfl z) g
theorem Go.lor {x y r : Int64} (X : Stand p l e R s m args below meth c T locs cells slots) (hx : p.tables.exec = Jvm.exec) (hd : decode c.code pc = .ok (.lor, 1)) (hr : x ||| y = r) (hp : pc + 1 = q) (g : Go p e below K (T.setTop (mkF m q Ls (.long r :: S)))) : Go p e below K (T.setTop (mkF m pc Ls (.long y :: .long x :: S))) := by
  subst hp hr
  exact Go.by (fun t z => XS.lor X.here hx rfl hd rfl z) g
theorem Go.ixor {x y r : Int32} (X : Stand p l e R s m args below meth c T locs cells slots) (hx : p.tables.exec = Jvm.exec) (hd : decode c.code pc = .ok (.ixor, 1)) (hr : x ^^^ y = r) (hp : pc + 1 = q) (g : Go p e below K (T.setTop (mkF m q Ls (.int r :: S)))) : Go p e below K (T.setTop (mkF m pc Ls (.int y :: .int x :: S))) := by
  subst hp hr
  exact Go.by (fun t z => XS.ixor X.here hx rfl hd rfl z) g
theorem Go.lxor {x y r : Int64} (X : Stand p l e R s m args below meth c T locs cells slots) (hx : p.tables.exec = Jvm.exec) (hd : decode c.code pc = .ok (.lxor, 1)) (hr : x ^^^ y = r) (hp : pc + 1 = q) (g : Go p e below K (T.setTop (mkF m q Ls (.long r :: S)))) : Go p e below K (T.setTop (mkF m pc Ls (.long y :: .long x :: S))) := by
  subst hp hr
  exact Go.by (fun t z => XS.lxor X.here hx rfl hd rfl z) g
theorem Go.idiv {x y r : Int32} (X : Stand p l e R s m args below meth c T locs cells slots) (hx : p.tables.exec = Jvm.exec) (hd : decode c.code pc = .ok (.idiv, 1)) (hy : y ≠ 0) (hr : x / y = r) (hp : pc + 1 = q) (g : Go p e below K (T.setTop (mkF m q Ls (.int r :: S)))) : Go p e below K (T.setTop (mkF m pc Ls (.int y :: .int x :: S))) := by
  subst hp hr
  exact Go.by (fun t z => XS.idiv X.here hx rfl hd rfl hy z) g
theorem Go.ineg {x r : Int32} (X : Stand p l e R s m args below meth c T locs cells slots) (hx : p.tables.exec = Jvm.exec) (hd : decode c.code pc = .ok (.ineg, 1)) (hr : -x = r) (hp : pc + 1 = q) (g : Go p e below K (T.setTop (mkF m q Ls (.int r :: S)))) : Go p e below K (T.setTop (mkF m pc Ls (.int x :: S))) := by
  subst hp hr
  exact Go.by (fun t z => XS.ineg X.here hx rfl hd rfl z) g
theorem Go.ldiv {x y r : Int64} (X : Stand p l e R s m args below meth c T locs cells slots) (hx : p.tables.exec = Jvm.exec) (hd : decode c.code pc = .ok (.ldiv, 1)) (hy : y ≠ 0) (hr : x / y = r) (hp : pc + 1 = q) (g : Go p e below K (T.setTop (mkF m q Ls (.long r :: S)))) : Go p e below K (T.setTop (mkF m pc Ls (.long y :: .long x :: S))) := by
  subst hp hr
  exact Go.by (fun t z => XS.ldiv X.here hx rfl hd rfl hy z) g
theorem Go.lneg {x r : Int64} (X : Stand p l e R s m args below meth c T locs cells slots) (hx : p.tables.exec = Jvm.exec) (hd : decode c.code pc = .ok (.lneg, 1)) (hr : -x = r) (hp : pc + 1 = q) (g : Go p e below K (T.setTop (mkF m q Ls (.long r :: S)))) : Go p e below K (T.setTop (mkF m pc Ls (.long x :: S))) := by
  subst hp hr
  exact Go.by (fun t z => XS.lneg X.here hx rfl hd rfl z) g
theorem Go.irem {x y r : Int32} (X : Stand p l e R s m args below meth c T locs cells slots) (hx : p.tables.exec = Jvm.exec) (hd : decode c.code pc = .ok (.irem, 1)) (hy : y ≠ 0) (hr : x % y = r) (hp : pc + 1 = q) (g : Go p e below K (T.setTop (mkF m q Ls (.int r :: S)))) : Go p e below K (T.setTop (mkF m pc Ls (.int y :: .int x :: S))) := by
  subst hp hr
  exact Go.by (fun t z => iremM X hx (g := mkF m pc Ls (.int y :: .int x :: S)) rfl hd rfl hy z) g
theorem Go.lrem {x y r : Int64} (X : Stand p l e R s m args below meth c T locs cells slots) (hx : p.tables.exec = Jvm.exec) (hd : decode c.code pc = .ok (.lrem, 1)) (hy : y ≠ 0) (hr : x - (x / y) * y = r) (hp : pc + 1 = q) (g : Go p e below K (T.setTop (mkF m q Ls (.long r :: S)))) : Go p e below K (T.setTop (mkF m pc Ls (.long y :: .long x :: S))) := by
  subst hp hr
  exact Go.by (fun t z => XS.lrem X.here hx rfl hd rfl hy z) g
theorem Go.ishl {x y r : Int32} (X : Stand p l e R s m args below meth c T locs cells slots) (hx : p.tables.exec = Jvm.exec) (hd : decode c.code pc = .ok (.ishl, 1)) (hr : x <<< (y &&& 31) = r) (hp : pc + 1 = q) (g : Go p e below K (T.setTop (mkF m q Ls (.int r :: S)))) : Go p e below K (T.setTop (mkF m pc Ls (.int y :: .int x :: S))) := by
  subst hp hr
  exact Go.by (fun t z => XS.ishl X.here hx rfl hd rfl z) g
theorem Go.ishr {x y r : Int32} (X : Stand p l e R s m args below meth c T locs cells slots) (hx : p.tables.exec = Jvm.exec) (hd : decode c.code pc = .ok (.ishr, 1)) (hr : x >>> (y &&& 31) = r) (hp : pc + 1 = q) (g : Go p e below K (T.setTop (mkF m q Ls (.int r :: S)))) : Go p e below K (T.setTop (mkF m pc Ls (.int y :: .int x :: S))) := by
  subst hp hr
  exact Go.by (fun t z => XS.ishr X.here hx rfl hd rfl z) g
theorem Go.iushr {x y r : Int32} (X : Stand p l e R s m args below meth c T locs cells slots) (hx : p.tables.exec = Jvm.exec) (hd : decode c.code pc = .ok (.iushr, 1)) (hr : (x.toUInt32 >>> (y &&& 31).toUInt32).toInt32 = r) (hp : pc + 1 = q) (g : Go p e below K (T.setTop (mkF m q Ls (.int r :: S)))) : Go p e below K (T.setTop (mkF m pc Ls (.int y :: .int x :: S))) := by
  subst hp hr
  exact Go.by (fun t z => XS.iushr X.here hx rfl hd rfl z) g
theorem Go.lshl {x : Int64} {y : Int32} {r : Int64} (X : Stand p l e R s m args below meth c T locs cells slots) (hx : p.tables.exec = Jvm.exec) (hd : decode c.code pc = .ok (.lshl, 1)) (hr : x <<< (y &&& 0x3f).toInt64 = r) (hp : pc + 1 = q) (g : Go p e below K (T.setTop (mkF m q Ls (.long r :: S)))) : Go p e below K (T.setTop (mkF m pc Ls (.int y :: .long x :: S))) := by
  subst hp hr
  exact Go.by (fun t z => XS.lshl X.here hx rfl hd rfl z) g
theorem Go.lshr {x : Int64} {y : Int32} {r : Int64} (X : Stand p l e R s m args below meth c T locs cells slots) (hx : p.tables.exec = Jvm.exec) (hd : decode c.code pc = .ok (.lshr, 1)) (hr : x >>> (y &&& 0x3f).toInt64 = r) (hp : pc + 1 = q) (g : Go p e below K (T.setTop (mkF m q Ls (.long r :: S)))) : Go p e below K (T.setTop (mkF m pc Ls (.int y :: .long x :: S))) := by
  subst hp hr
  exact Go.by (fun t z => XS.lshr X.here hx rfl hd rfl z) g
theorem Go.lushr {x : Int64} {y : Int32} {r : Int64} (X : Stand p l e R s m args below meth c T locs cells slots) (hx : p.tables.exec = Jvm.exec) (hd : decode c.code pc = .ok (.lushr, 1)) (hr : (x.toUInt64 >>> (y &&& 0x3f).toInt64.toUInt64).toInt64 = r) (hp : pc + 1 = q) (g : Go p e below K (T.setTop (mkF m q Ls (.long r :: S)))) : Go p e below K (T.setTop (mkF m pc Ls (.int y :: .long x :: S))) := by
  subst hp hr
  exact Go.by (fun t z => XS.lushr X.here hx rfl hd rfl z) g
theorem Go.i2b {x : Int32} {r : Int32} (X : Stand p l e R s m args below meth c T locs cells slots) (hx : p.tables.exec = Jvm.exec) (hd : decode c.code pc = .ok (.i2b, 1)) (hr : x.toInt8.toInt32 = r) (hp : pc + 1 = q) (g : Go p e below K (T.setTop (mkF m q Ls (.int r :: S)))) : Go p e below K (T.setTop (mkF m pc Ls (.int x :: S))) := by
  subst hp hr
  exact Go.by (fun t z => XS.i2b X.here hx rfl hd rfl z) g
theorem Go.i2c {x : Int32} {r : Int32} (X : Stand p l e R s m args below meth c T locs cells slots) (hx : p.tables.exec = Jvm.exec) (hd : decode c.code pc = .ok (.i2c, 1)) (hr : x.toUInt32.toUInt16.toUInt32.toInt32 = r) (hp : pc + 1 = q) (g : Go p e below K (T.setTop (mkF m q Ls (.int r :: S)))) : Go p e below K (T.setTop (mkF m pc Ls (.int x :: S))) := by
  subst hp hr
  exact Go.by (fun t z => XS.i2c X.here hx rfl hd rfl z) g
theorem Go.i2s {x : Int32} {r : Int32} (X : Stand p l e R s m args below meth c T locs cells slots) (hx : p.tables.exec = Jvm.exec) (hd : decode c.code pc = .ok (.i2s, 1)) (hr : x.toInt16.toInt32 = r) (hp : pc + 1 = q) (g : Go p e below K (T.setTop (mkF m q Ls (.int r :: S)))) : Go p e below K (T.setTop (mkF m pc Ls (.int x :: S))) := by
  subst hp hr
  exact Go.by (fun t z => XS.i2s X.here hx rfl hd rfl z) g
theorem Go.i2l {x : Int32} {r : Int64} (X : Stand p l e R s m args below meth c T locs cells slots) (hx : p.tables.exec = Jvm.exec) (hd : decode c.code pc = .ok (.i2l, 1)) (hr : x.toInt64 = r) (hp : pc + 1 = q) (g : Go p e below K (T.setTop (mkF m q Ls (.long r :: S)))) : Go p e below K (T.setTop (mkF m pc Ls (.int x :: S))) := by
  subst hp hr
  exact Go.by (fun t z => XS.i2l X.here hx rfl hd rfl z) g
theorem Go.l2i {x : Int64} {r : Int32} (X : Stand p l e R s m args below meth c T locs cells slots) (hx : p.tables.exec = Jvm.exec) (hd : decode c.code pc = .ok (.l2i, 1)) (hr : x.toInt32 = r) (hp : pc + 1 = q) (g : Go p e below K (T.setTop (mkF m q Ls (.int r :: S)))) : Go p e below K (T.setTop (mkF m pc Ls (.long x :: S))) := by
  subst hp hr
  exact Go.by (fun t z => XS.l2i X.here hx rfl hd rfl z) g
theorem Go.lcmp {x y : Int64} {r : Int32} (X : Stand p l e R s m args below meth c T locs cells slots) (hx : p.tables.exec = Jvm.exec) (hd : decode c.code pc = .ok (.lcmp, 1)) (hr : Jvm.Free.XT.cmpL x y = r) (hp : pc + 1 = q) (g : Go p e below K (T.setTop (mkF m q Ls (.int r :: S)))) : Go p e below K (T.setTop (mkF m pc Ls (.long y :: .long x :: S))) := by
  subst hp hr
  exact Go.by (fun t z => XS.lcmp X.here hx rfl hd rfl z) g
theorem Go.iinc {k : Nat} {cst : Int} {x r : Int32} (X : Stand p l e R s m args below meth c T locs cells slots) (hx : p.tables.exec = Jvm.exec) (hd : decode c.code pc = .ok (.iinc k cst, 3)) (hl : Ls[k]? = some (.val (.int x))) (hr : x + Int32.ofInt cst = r) (hl' : storeLocals Ls k (.int r) = some l') (hp : pc + 3 = q) (g : Go p e below K (T.setTop (mkF m q l' S))) : Go p e below K (T.setTop (mkF m pc Ls S)) := by
  subst hp hr
  exact Go.by (fun t z => XS.iinc X.here hx rfl hd hl hl' z) g
theorem Go.dup {x : Value} (X : Stand p l e R s m args below meth c T locs cells slots) (hx : p.tables.exec = Jvm.exec) (hd : decode c.code pc = .ok (.dup, 1)) (hc : x.category = 1) (hp : pc + 1 = q) (g : Go p e below K (T.setTop (mkF m q Ls (x :: x :: S)))) : Go p e below K (T.setTop (mkF m pc Ls (x :: S))) := by
  subst hp
  exact Go.by (fun t z => XS.dup X.here hx rfl hd rfl hc z) g
theorem Go.dup_x1 {x y : Value} (X : Stand p l e R s m args below meth c T locs cells slots) (hx : p.tables.exec = Jvm.exec) (hd : decode c.code pc = .ok (.dup_x1, 1)) (hc : x.category = 1) (hc2 : y.category = 1) (hp : pc + 1 = q) (g : Go p e below K (T.setTop (mkF m q Ls (x :: y :: x :: S)))) : Go p e below K (T.setTop (mkF m pc Ls (x :: y :: S))) := by
  subst hp
  exact Go.by (fun t z => XS.dupX1 X.here hx rfl hd rfl hc hc2 z) g
theorem Go.swap {x y : Value} (X : Stand p l e R s m args below meth c T locs cells slots) (hx : p.tables.exec = Jvm.exec) (hd : decode c.code pc = .ok (.swap, 1)) (hc : x.category = 1) (hc2 : y.category = 1) (hp : pc + 1 = q) (g : Go p e below K (T.setTop (mkF m q Ls (y :: x :: S)))) : Go p e below K (T.setTop (mkF m pc Ls (x :: y :: S))) := by
  subst hp
  exact Go.by (fun t z => XS.swap X.here hx rfl hd rfl hc hc2 z) g
theorem Go.pop {x : Value} (X : Stand p l e R s m args below meth c T locs cells slots) (hx : p.tables.exec = Jvm.exec) (hd : decode c.code pc = .ok (.pop, 1)) (hc : x.category = 1) (hp : pc + 1 = q) (g : Go p e below K (T.setTop (mkF m q Ls S))) : Go p e below K (T.setTop (mkF m pc Ls (x :: S))) := by
  subst hp
  exact Go.by (fun t z => XS.pop X.here hx rfl hd rfl hc z) g
theorem Go.goto  {o : Int} (X : Stand p l e R s m args below meth c T locs cells slots) (hx : p.tables.exec = Jvm.exec) (hd : decode c.code pc = .ok (.goto o, 3)) (ho : 0 ≤ (pc : Int) + o) (hp : ((pc : Int) + o).toNat = q) (g : Go p e below K (T.setTop (mkF m q Ls S))) : Go p e below K (T.setTop (mkF m pc Ls S)) :=
  Go.by (fun t z => XS.goto X.here hx rfl (pc0 := pc) rfl hd ho hp z) g
theorem Go.ifYes {cd : ClassFile.Cond} {x : Int32} {o : Int} (X : Stand p l e R s m args below meth c T locs cells slots) (hx : p.tables.exec = Jvm.exec) (hd : decode c.code pc = .ok (.ifCond cd o, 3)) (hc : ifCond.holds cd x = true) (ho : 0 ≤ (pc : Int) + o) (hp : ((pc : Int) + o).toNat = q) (g : Go p e below K (T.setTop (mkF m q Ls S))) : Go p e below K (T.setTop (mkF m pc Ls (.int x :: S))) :=
  Go.by (fun t z => XS.ifYes X.here hx rfl (pc0 := pc) rfl hd rfl hc ho hp z) g
theorem Go.icmpYes {cd : ClassFile.Cond} {x y : Int32} {o : Int} (X : Stand p l e R s m args below meth c T locs cells slots) (hx : p.tables.exec = Jvm.exec) (hd : decode c.code pc = .ok (.if_icmp cd o, 3)) (hc : if_icmp.holds cd x y = true) (ho : 0 ≤ (pc : Int) + o) (hp : ((pc : Int) + o).toNat = q) (g : Go p e below K (T.setTop (mkF m q Ls S))) : Go p e below K (T.setTop (mkF m pc Ls (.int y :: .int x :: S))) :=
  Go.by (fun t z => XS.icmpYes X.here hx rfl (pc0 := pc) rfl hd rfl hc ho hp z) g
theorem Go.ifnullYes  {o : Int} (X : Stand p l e R s m args below meth c T locs cells slots) (hx : p.tables.exec = Jvm.exec) (hd : decode c.code pc = .ok (.ifnull o, 3)) (ho : 0 ≤ (pc : Int) + o) (hp : ((pc : Int) + o).toNat = q) (g : Go p e below K (T.setTop (mkF m q Ls S))) : Go p e below K (T.setTop (mkF m pc Ls (.null :: S))) :=
  Go.by (fun t z => XS.ifnullYes X.here hx rfl (pc0 := pc) rfl hd rfl ho hp z) g
theorem Go.ifnonnullYes {b : Addr} {o : Int} (X : Stand p l e R s m args below meth c T locs cells slots) (hx : p.tables.exec = Jvm.exec) (hd : decode c.code pc = .ok (.ifnonnull o, 3)) (ho : 0 ≤ (pc : Int) + o) (hp : ((pc : Int) + o).toNat = q) (g : Go p e below K (T.setTop (mkF m q Ls S))) : Go p e below K (T.setTop (mkF m pc Ls (.ref b :: S))) :=
  Go.by (fun t z => XS.ifnonnullYes X.here hx rfl (pc0 := pc) rfl hd rfl ho hp z) g
theorem Go.ifNo {cd : ClassFile.Cond} {x : Int32} {o : Int} (X : Stand p l e R s m args below meth c T locs cells slots) (hx : p.tables.exec = Jvm.exec) (hd : decode c.code pc = .ok (.ifCond cd o, 3)) (hc : ifCond.holds cd x = false) (hp : pc + 3 = q) (g : Go p e below K (T.setTop (mkF m q Ls S))) : Go p e below K (T.setTop (mkF m pc Ls (.int x :: S))) := by
  subst hp
  exact Go.by (fun t z => XS.ifNo X.here hx rfl hd rfl hc z) g
theorem Go.icmpNo {cd : ClassFile.Cond} {x y : Int32} {o : Int} (X : Stand p l e R s m args below meth c T locs cells slots) (hx : p.tables.exec = Jvm.exec) (hd : decode c.code pc = .ok (.if_icmp cd o, 3)) (hc : if_icmp.holds cd x y = false) (hp : pc + 3 = q) (g : Go p e below K (T.setTop (mkF m q Ls S))) : Go p e below K (T.setTop (mkF m pc Ls (.int y :: .int x :: S))) := by
  subst hp
  exact Go.by (fun t z => XS.icmpNo X.here hx rfl hd rfl hc z) g
theorem Go.ifnullNo {b : Addr} {o : Int} (X : Stand p l e R s m args below meth c T locs cells slots) (hx : p.tables.exec = Jvm.exec) (hd : decode c.code pc = .ok (.ifnull o, 3)) (hp : pc + 3 = q) (g : Go p e below K (T.setTop (mkF m q Ls S))) : Go p e below K (T.setTop (mkF m pc Ls (.ref b :: S))) := by
  subst hp
  exact Go.by (fun t z => XS.ifnullNo X.here hx rfl hd rfl z) g
theorem Go.ifnonnullNo {o : Int} (X : Stand p l e R s m args below meth c T locs cells slots) (hx : p.tables.exec = Jvm.exec) (hd : decode c.code pc = .ok (.ifnonnull o, 3)) (hp : pc + 3 = q) (g : Go p e below K (T.setTop (mkF m q Ls S))) : Go p e below K (T.setTop (mkF m pc Ls (.null :: S))) := by
  subst hp
  exact Go.by (fun t z => XS.ifnonnullNo X.here hx rfl hd rfl z) g
theorem Go.acmp {cd : ACond} {x y : Value} {o : Int} {same : Bool} (X : Stand p l e R s m args below meth c T locs cells slots) (hx : p.tables.exec = Jvm.exec) (h1 : x.isRef = true) (h2 : y.isRef = true) (hd : decode c.code pc = .ok (.if_acmp cd o, 3)) (hq : decide (x = y) = same) (ho : 0 ≤ (pc : Int) + o) (hp : q = if acV cd same = true then ((pc : Int) + o).toNat else pc + 3) (g : Go p e below K (T.setTop (mkF m q Ls S))) : Go p e below K (T.setTop (mkF m pc Ls (y :: x :: S))) :=
  Go.by (fun t z => Jvm.RoadKit.acmp (g := mkF m pc Ls (y :: x :: S)) X hx rfl h1 h2 (pc0 := pc) (same := same) rfl hd rfl hq ho hp z) g
variable {Z : State} {a0 : Array Value} {h : Heap} {own R0 O n d host C : String} {index kk : Nat} {a : Addr} {v v' old : Value} {ty : FieldType}
theorem Go.getF (X : Stand p l e R s m args below meth c T locs cells slots) (hx : p.tables.exec = Jvm.exec) (hZ : Z.Warmed39 s.vm) (hown : s.vm.findClass own = some m.cls) (w : (Cond.fieldLink own index R0 n d).before a0 Z = true ∨ (Cond.fieldLinkNest own index R0 n d host).before a0 Z = true) (via : Via Z R0 O n d) (eT : T.heap = h) (F : Fld Z h a O n d v) (hd : decode c.code pc = .ok (.getfield index, 3)) (hp : pc + 3 = q)
    (g : ∀ T', Stand p l e R s m args below meth c T' locs cells slots → T'.heap = h → Go p e below K (T'.setTop (mkF m q Ls (v :: S)))) : Go p e below K (T.setTop (mkF m pc Ls (.ref a :: S))) := by
  subst hp
  obtain ⟨T', X', e', st⟩ := Jvm.RoadKit.getF X hx hZ hown w via eT F (g := mkF m pc Ls (.ref a :: S)) rfl rfl hd
  exact Go.by st (g T' X' e')
theorem Go.getS (X : Stand p l e R s m args below meth c T locs cells slots) (hx : p.tables.exec = Jvm.exec) (hZ : Z.Warmed39 s.vm) (hown : s.vm.findClass own = some m.cls) (w : (Cond.fieldLink own index R0 n d).before a0 Z = true ∨ (Cond.fieldLinkNest own index R0 n d host).before a0 Z = true) (via : Via Z R0 O n d) (eT : T.heap = h) (F : Sta Z h O n d v) (hd : decode c.code pc = .ok (.getstatic index, 3)) (hp : pc + 3 = q)
    (g : ∀ T', Stand p l e R s m args below meth c T' locs cells slots → T'.heap = h → Go p e below K (T'.setTop (mkF m q Ls (v :: S)))) : Go p e below K (T.setTop (mkF m pc Ls S)) := by
  subst hp
  obtain ⟨T', X', e', st⟩ := Jvm.RoadKit.getS2 X hx hZ hown w via eT F (g := mkF m pc Ls S) rfl hd
  exact Go.by st (g T' X' e')
theorem Go.putF (X : Stand p l e R s m args below meth c T locs cells slots) (hx : p.tables.exec = Jvm.exec) (hZ : Z.Warmed39 s.vm) (hown : s.vm.findClass own = some m.cls) (w : (Cond.fieldLink own index R0 n d).before a0 Z = true ∨ (Cond.fieldLinkNest own index R0 n d host).before a0 Z = true) (via : Via Z R0 O n d) (eT : T.heap = h) (F : Fld Z h a O n d old) (E : Exa Z h a C)
    (L : (Cond.lays C O n d).before a0 Z = true ∨ ((Cond.laysFinal C O n d).before a0 Z = true ∧ own = O ∧ meth.name = "<init>")) (wi : (Cond.instantiable C kk).before a0 Z = true) (hty : parseFieldDescriptor d = some ty) (hn : narrow ty v = v) (hf : fits ty v = true) (hd : decode c.code pc = .ok (.putfield index, 3)) (hp : pc + 3 = q)
    (g : ∀ T' h', Stand p l e R s m args below meth c T' (locs ++ [⟨a, slotOf Z O n d⟩]) cells slots → T'.heap = h' → Wr h h' a (slotOf Z O n d) v → Fld Z h' a O n d v → Go p e below K (T'.setTop (mkF m q Ls S))) : Go p e below K (T.setTop (mkF m pc Ls (v :: .ref a :: S))) := by
  subst hp
  obtain ⟨T', h', X', e', W, st⟩ := Jvm.RoadKit.putF X hx hZ hown w via eT F E L wi hty hn hf (g := mkF m pc Ls (v :: .ref a :: S)) rfl rfl hd
  exact Go.by st (g T' h' X' e' W (F.same W))
theorem Go.putFN (X : Stand p l e R s m args below meth c T locs cells slots) (hx : p.tables.exec = Jvm.exec) (hZ : Z.Warmed39 s.vm) (hown : s.vm.findClass own = some m.cls) (w : (Cond.fieldLink own index R0 n d).before a0 Z = true) (via : Via Z R0 O n d) (eT : T.heap = h) (F : Fld Z h a O n d old) (E : Exa Z h a C)
    (L : (Cond.lays C O n d).before a0 Z = true ∨ ((Cond.laysFinal C O n d).before a0 Z = true ∧ own = O ∧ meth.name = "<init>")) (wi : (Cond.instantiable C kk).before a0 Z = true) (hty : parseFieldDescriptor d = some ty) (hn : narrow ty v = v') (hf : fits ty v' = true) (hd : decode c.code pc = .ok (.putfield index, 3)) (hp : pc + 3 = q)
    (g : ∀ T' h', Stand p l e R s m args below meth c T' (locs ++ [⟨a, slotOf Z O n d⟩]) cells slots → T'.heap = h' → Wr h h' a (slotOf Z O n d) v' → Fld Z h' a O n d v' → Go p e below K (T'.setTop (mkF m q Ls S))) : Go p e below K (T.setTop (mkF m pc Ls (v :: .ref a :: S))) := by
  subst hp
  obtain ⟨T', h', X', e', W, st⟩ := Jvm.RoadKit.putFN X hx hZ hown w via eT F E L wi hty hn hf (g := mkF m pc Ls (v :: .ref a :: S)) rfl rfl hd
  exact Go.by st (g T' h' X' e' W (F.same W))
theorem Go.newO {nn : Nat} (X : Stand p l e R s m args below meth c T locs cells slots) (hx : p.tables.exec = Jvm.exec) (hZ : Z.Warmed39 s.vm) (hown : s.vm.findClass own = some m.cls) (w : (Cond.classLink own index C).before a0 Z = true) (wi : (Cond.instantiable C nn).before a0 Z = true) (wz : (Cond.initialized C).before a0 Z = true) (eT : T.heap = h) (hd : decode c.code pc = .ok (.new index, 3)) (hc : cells + 1 ≤ R.cells) (hl : slots + nn ≤ R.slots) (hp : pc + 3 = q)
    (g : ∀ (b : Addr) T' h', Stand p l e R s m args below meth c T' locs (cells + 1) (slots + nn) → T'.heap = h' → h.size = b → Ext h h' → Exa Z h' b C → (∀ {O nm d : String} {ty : FieldType}, Laid Z a0 C O nm d → parseFieldDescriptor d = some ty → Fld Z h' b O nm d (defaultValue ty)) → Unt h' b → Go p e below K (T'.setTop (mkF m q Ls (.ref b :: S)))) : Go p e below K (T.setTop (mkF m pc Ls S)) := by
  subst hp
  obtain ⟨T', h', X', e', E, A, D, U, st⟩ := Jvm.RoadKit.newO X hx hZ hown w wi wz eT (g := mkF m pc Ls S) rfl hd hc hl
  exact Go.by st (g _ T' h' X' e' rfl E A D U)
theorem Go.newP {aty : ArrayType} {z : Int32} {ad : String} {cap : Nat} (X : Stand p l e R s m args below meth c T locs cells slots) (hx : p.tables.exec = Jvm.exec) (hZ : Z.Warmed39 s.vm) (hd : decode c.code pc = .ok (.newarray aty, 2)) (w : (Cond.arrayClass (newarray.typeOf aty)).before a0 Z = true) (eT : T.heap = h) (hn : ¬ z < 0) (hcap : z.toNatClampNeg ≤ cap) (hb : cap * 8 ≤ 536870912) (hc : cells + 1 ≤ R.cells) (hl : slots + cap ≤ R.slots) (had : "[" ++ (newarray.typeOf aty).toString = ad) (hp : pc + 2 = q)
    (g : ∀ (b : Addr) T' h' cA, Stand p l e R s m args below meth c T' locs (cells + 1) (slots + cap) → T'.heap = h' → h.size = b → Ext h h' → Arv Z h' b cA (newarray.typeOf aty) z [] (defaultValue (newarray.typeOf aty)) → Exa Z h' b ad → Go p e below K (T'.setTop (mkF m q Ls (.ref b :: S)))) : Go p e below K (T.setTop (mkF m pc Ls (.int z :: S))) := by
  subst hp
  obtain ⟨T', h', cA, X', e', E, A, B, st⟩ := Jvm.RoadKit.newPE X hx hZ w eT (g := mkF m pc Ls (.int z :: S)) rfl hd rfl hn hcap hb hc hl had
  exact Go.by st (g _ T' h' cA X' e' rfl E (Arv.new A hn) B)
theorem Go.initO (X : Stand p l e R s m args below meth c T locs cells slots) (hx : p.tables.exec = Jvm.exec) (hZ : Z.Warmed39 s.vm) (hown : s.vm.findClass own = some m.cls) (w1 : (Cond.methodLink own index Lib.objectInit).before a0 Z = true) (w2 : (Cond.instanceMethod Lib.objectInit).before a0 Z = true) (w3 : (Cond.code Lib.objectInit ⟨#[0xb1]⟩ 1 none).before a0 Z = true) (eT : T.heap = h) (hsz : Ls.size = c.maxLocals) (hd : decode c.code pc = .ok (.invokespecial index, 3)) (hf : 1 ≤ R.frames) {W : Nat} (hW : 2 * 0 + (S.map fun v => v.category).sum ≤ W) (hl : W + 12 ≤ R.locals) (hp : pc + 3 = q)
    (g : ∀ T', Stand p l e R s m args below meth c T' locs cells slots → T'.heap = h → Go p e below K (T'.setTop (mkF m q Ls S))) : Go p e below K (T.setTop (mkF m pc Ls (.ref a :: S))) := by
  subst hp
  obtain ⟨T', X', e', st⟩ := Jvm.RoadKit.initO X hx hZ hown w1 w2 w3 eT (g := mkF m pc Ls (.ref a :: S)) rfl hsz rfl hd hf hW hl
  exact Go.by st (g T' X' e')
theorem Go.castY {D : String} (X : Stand p l e R s m args below meth c T locs cells slots) (hx : p.tables.exec = Jvm.exec) (hZ : Z.Warmed39 s.vm) (hown : s.vm.findClass own = some m.cls) (w : (Cond.classLink own index D).before a0 Z = true) (eT : T.heap = h) (F : Ins Z h a D true) (hd : decode c.code pc = .ok (.checkcast index, 3)) (hp : pc + 3 = q)
    (g : ∀ T', Stand p l e R s m args below meth c T' locs cells slots → T'.heap = h → Go p e below K (T'.setTop (mkF m q Ls (.ref a :: S)))) : Go p e below K (T.setTop (mkF m pc Ls (.ref a :: S))) := by
  subst hp
  obtain ⟨T', X', e', st⟩ := Jvm.RoadKit.castY X hx hZ hown w eT F (g := mkF m pc Ls (.ref a :: S)) rfl rfl hd
  exact Go.by st (g T' X' e')
theorem Go.instY {D : String} (X : Stand p l e R s m args below meth c T locs cells slots) (hx : p.tables.exec = Jvm.exec) (hZ : Z.Warmed39 s.vm) (hown : s.vm.findClass own = some m.cls) (w : (Cond.classLink own index D).before a0 Z = true) (eT : T.heap = h) (F : Ins Z h a D true) (hd : decode c.code pc = .ok (.instanceof index, 3)) (hp : pc + 3 = q)
    (g : ∀ T', Stand p l e R s m args below meth c T' locs cells slots → T'.heap = h → Go p e below K (T'.setTop (mkF m q Ls (.int 1 :: S)))) : Go p e below K (T.setTop (mkF m pc Ls (.ref a :: S))) := by
  subst hp
  obtain ⟨T', X', e', st⟩ := Jvm.RoadKit.instY X hx hZ hown w eT F (g := mkF m pc Ls (.ref a :: S)) rfl rfl hd
  exact Go.by st (g T' X' e')
theorem Go.instNo {D : String} (X : Stand p l e R s m args below meth c T locs cells slots) (hx : p.tables.exec = Jvm.exec) (hZ : Z.Warmed39 s.vm) (hown : s.vm.findClass own = some m.cls) (w : (Cond.classLink own index D).before a0 Z = true) (eT : T.heap = h) (E : Exa Z h a C) (F : ∃ c t, Z.vm.findClass C = some c ∧ Z.vm.findClass D = some t ∧ Z.vm.assignable c t = false) (hd : decode c.code pc = .ok (.instanceof index, 3)) (hp : pc + 3 = q)
    (g : ∀ T', Stand p l e R s m args below meth c T' locs cells slots → T'.heap = h → Go p e below K (T'.setTop (mkF m q Ls (.int 0 :: S)))) : Go p e below K (T.setTop (mkF m pc Ls (.ref a :: S))) := by
  subst hp
  obtain ⟨T', X', e', st⟩ := Jvm.RoadKit.instNo X hx hZ hown w eT E F (g := mkF m pc Ls (.ref a :: S)) rfl rfl hd
  exact Go.by st (g T' X' e')
theorem Go.ldcI {z : Int32} (X : Stand p l e R s m args below meth c T locs cells slots) (hx : p.tables.exec = Jvm.exec) (hZ : Z.Warmed39 s.vm) (hown : s.vm.findClass own = some m.cls) (w : (Cond.constant own index z).before a0 Z = true) (hd : decode c.code pc = .ok (.ldc index, 2)) (hp : pc + 2 = q) (g : Go p e below K (T.setTop (mkF m q Ls (.int z :: S)))) : Go p e below K (T.setTop (mkF m pc Ls S)) := by
  subst hp
  exact Go.by (X.ldcInt hx hown (mvT hZ w) (g := mkF m pc Ls S) rfl hd) g
theorem Go.ldcwI {z : Int32} (X : Stand p l e R s m args below meth c T locs cells slots) (hx : p.tables.exec = Jvm.exec) (hZ : Z.Warmed39 s.vm) (hown : s.vm.findClass own = some m.cls) (w : (Cond.constant own index z).before a0 Z = true) (hd : decode c.code pc = .ok (.ldc_w index, 3)) (hp : pc + 3 = q) (g : Go p e below K (T.setTop (mkF m q Ls (.int z :: S)))) : Go p e below K (T.setTop (mkF m pc Ls S)) := by
  subst hp
  exact Go.by (X.ldcwInt hx hown (mvT hZ w) (g := mkF m pc Ls S) rfl hd) g
theorem Go.ldc2 {z : Int64} (X : Stand p l e R s m args below meth c T locs cells slots) (hx : p.tables.exec = Jvm.exec) (hZ : Z.Warmed39 s.vm) (hown : s.vm.findClass own = some m.cls) (w : (Cond.constantLong own index z).before a0 Z = true) (hd : decode c.code pc = .ok (.ldc2_w index, 3)) (hp : pc + 3 = q) (g : Go p e below K (T.setTop (mkF m q Ls (.long z :: S)))) : Go p e below K (T.setTop (mkF m pc Ls S)) := by
  subst hp
  exact Go.by (X.ldc2Long hx hown (mvT hZ w) (g := mkF m pc Ls S) rfl hd) g

end OwnSteps
end Jvm.RoadKit
namespace Jvm.Pilot.@@N@@
open Jvm Jvm.ClassFile Sem Op Lib Jvm.Free Jvm.Stand Jvm.LawKit Jvm.RoadKit Bundle Jvm.Pilot.@@N@@.Jvm.D
theorem wd0 {Z : State} {a0 : Array Value} (hw : ∀ d ∈ tables_1, d.before a0 Z = true) : (Jvm.Cond.methodLink "com/example/match_before_write/matchbeforewrite/RepresentationOfPinLaw" (7 : Nat) ({ cls := "com/example/match_before_write/matchbeforewrite/RepresentationOfPinLaw", name := "make", desc := "(IBBB)[B" } : Jvm.MethodName)).before a0 Z = true := hw _ (List.mem_of_getElem? (i := 0) rfl)
theorem wd1 {Z : State} {a0 : Array Value} (hw : ∀ d ∈ tables_1, d.before a0 Z = true) : (Jvm.Cond.static ({ cls := "com/example/match_before_write/matchbeforewrite/RepresentationOfPinLaw", name := "make", desc := "(IBBB)[B" } : Jvm.MethodName)).before a0 Z = true := hw _ (List.mem_of_getElem? (i := 1) rfl)
theorem wd2 {Z : State} {a0 : Array Value} (hw : ∀ d ∈ tables_1, d.before a0 Z = true) : (Jvm.Cond.initialized "com/example/match_before_write/matchbeforewrite/RepresentationOfPinLaw").before a0 Z = true := hw _ (List.mem_of_getElem? (i := 2) rfl)
theorem wd3 {Z : State} {a0 : Array Value} (hw : ∀ d ∈ tables_1, d.before a0 Z = true) : (Jvm.Cond.code ({ cls := "com/example/match_before_write/matchbeforewrite/RepresentationOfPinLaw", name := "make", desc := "(IBBB)[B" } : Jvm.MethodName) method_2_code (4 : Nat) (Option.some (Jvm.ClassFile.FieldType.array Jvm.ClassFile.FieldType.byte))).before a0 Z = true := hw _ (List.mem_of_getElem? (i := 3) rfl)
theorem wd4 {Z : State} {a0 : Array Value} (hw : ∀ d ∈ tables_1, d.before a0 Z = true) : (Jvm.Cond.arrayClass Jvm.ClassFile.FieldType.byte).before a0 Z = true := hw _ (List.mem_of_getElem? (i := 4) rfl)
theorem wd5 {Z : State} {a0 : Array Value} (hw : ∀ d ∈ tables_1, d.before a0 Z = true) : (Jvm.Cond.methodLink "com/example/match_before_write/matchbeforewrite/RepresentationOfPinLaw" (13 : Nat) ({ cls := "com/example/match_before_write/matchbeforewrite/Representation", name := "of", desc := "([B)Lcom/example/match_before_write/matchbeforewrite/Representation;" } : Jvm.MethodName)).before a0 Z = true := hw _ (List.mem_of_getElem? (i := 5) rfl)
theorem wd6 {Z : State} {a0 : Array Value} (hw : ∀ d ∈ tables_1, d.before a0 Z = true) : (Jvm.Cond.static ({ cls := "com/example/match_before_write/matchbeforewrite/Representation", name := "of", desc := "([B)Lcom/example/match_before_write/matchbeforewrite/Representation;" } : Jvm.MethodName)).before a0 Z = true := hw _ (List.mem_of_getElem? (i := 6) rfl)
theorem wd7 {Z : State} {a0 : Array Value} (hw : ∀ d ∈ tables_1, d.before a0 Z = true) : (Jvm.Cond.initialized "com/example/match_before_write/matchbeforewrite/Representation").before a0 Z = true := hw _ (List.mem_of_getElem? (i := 7) rfl)
theorem wd8 {Z : State} {a0 : Array Value} (hw : ∀ d ∈ tables_1, d.before a0 Z = true) : (Jvm.Cond.code ({ cls := "com/example/match_before_write/matchbeforewrite/Representation", name := "of", desc := "([B)Lcom/example/match_before_write/matchbeforewrite/Representation;" } : Jvm.MethodName) prog_13_method_2_code (1 : Nat) (Option.some (Jvm.ClassFile.FieldType.object "com/example/match_before_write/matchbeforewrite/Representation"))).before a0 Z = true := hw _ (List.mem_of_getElem? (i := 8) rfl)
theorem wd9 {Z : State} {a0 : Array Value} (hw : ∀ d ∈ tables_1, d.before a0 Z = true) : (Jvm.Cond.classLink "com/example/match_before_write/matchbeforewrite/Representation" (8 : Nat) "com/example/match_before_write/matchbeforewrite/Representation").before a0 Z = true := hw _ (List.mem_of_getElem? (i := 9) rfl)
theorem wd10 {Z : State} {a0 : Array Value} (hw : ∀ d ∈ tables_1, d.before a0 Z = true) : (Jvm.Cond.instantiable "com/example/match_before_write/matchbeforewrite/Representation" (6 : Nat)).before a0 Z = true := hw _ (List.mem_of_getElem? (i := 10) rfl)
theorem wd11 {Z : State} {a0 : Array Value} (hw : ∀ d ∈ tables_1, d.before a0 Z = true) : (Jvm.Cond.methodLink "com/example/match_before_write/matchbeforewrite/Representation" (28 : Nat) ({ cls := "[B", name := "clone", desc := "()Ljava/lang/Object;" } : Jvm.MethodName)).before a0 Z = true := hw _ (List.mem_of_getElem? (i := 11) rfl)
theorem wd12 {Z : State} {a0 : Array Value} (hw : ∀ d ∈ tables_1, d.before a0 Z = true) : (Jvm.Cond.sameMethod "[B" "java/lang/Object" "clone" "()Ljava/lang/Object;").before a0 Z = true := hw _ (List.mem_of_getElem? (i := 12) rfl)
theorem wd14 {Z : State} {a0 : Array Value} (hw : ∀ d ∈ tables_1, d.before a0 Z = true) : (Jvm.Cond.instanceMethod ({ cls := "java/lang/Object", name := "clone", desc := "()Ljava/lang/Object;" } : Jvm.MethodName)).before a0 Z = true := hw _ (List.mem_of_getElem? (i := 14) rfl)
theorem wd15 {Z : State} {a0 : Array Value} (hw : ∀ d ∈ tables_1, d.before a0 Z = true) : (Jvm.Cond.selects "[B" ({ cls := "[B", name := "clone", desc := "()Ljava/lang/Object;" } : Jvm.MethodName) ({ cls := "java/lang/Object", name := "clone", desc := "()Ljava/lang/Object;" } : Jvm.MethodName)).before a0 Z = true := hw _ (List.mem_of_getElem? (i := 15) rfl)
theorem wd16 {Z : State} {a0 : Array Value} (hw : ∀ d ∈ tables_1, d.before a0 Z = true) : (Jvm.Cond.native ({ cls := "java/lang/Object", name := "clone", desc := "()Ljava/lang/Object;" } : Jvm.MethodName)).before a0 Z = true := hw _ (List.mem_of_getElem? (i := 16) rfl)
theorem wd17 {Z : State} {a0 : Array Value} (hw : ∀ d ∈ tables_1, d.before a0 Z = true) : (Jvm.Cond.castable "[B" "java/lang/Cloneable").before a0 Z = true := hw _ (List.mem_of_getElem? (i := 17) rfl)
theorem wd18 {Z : State} {a0 : Array Value} (hw : ∀ d ∈ tables_1, d.before a0 Z = true) : (Jvm.Cond.classLink "com/example/match_before_write/matchbeforewrite/Representation" (29 : Nat) "[B").before a0 Z = true := hw _ (List.mem_of_getElem? (i := 18) rfl)
theorem wd20 {Z : State} {a0 : Array Value} (hw : ∀ d ∈ tables_1, d.before a0 Z = true) : (Jvm.Cond.methodLink "com/example/match_before_write/matchbeforewrite/Representation" (33 : Nat) ({ cls := "com/example/match_before_write/matchbeforewrite/Representation", name := "<init>", desc := "([BLcom/example/match_before_write/matchbeforewrite/EntityTag;Ljava/time/Instant;ZZ)V" } : Jvm.MethodName)).before a0 Z = true := hw _ (List.mem_of_getElem? (i := 20) rfl)
theorem wd21 {Z : State} {a0 : Array Value} (hw : ∀ d ∈ tables_1, d.before a0 Z = true) : (Jvm.Cond.instanceMethod ({ cls := "com/example/match_before_write/matchbeforewrite/Representation", name := "<init>", desc := "([BLcom/example/match_before_write/matchbeforewrite/EntityTag;Ljava/time/Instant;ZZ)V" } : Jvm.MethodName)).before a0 Z = true := hw _ (List.mem_of_getElem? (i := 21) rfl)
theorem wd22 {Z : State} {a0 : Array Value} (hw : ∀ d ∈ tables_1, d.before a0 Z = true) : (Jvm.Cond.code ({ cls := "com/example/match_before_write/matchbeforewrite/Representation", name := "<init>", desc := "([BLcom/example/match_before_write/matchbeforewrite/EntityTag;Ljava/time/Instant;ZZ)V" } : Jvm.MethodName) prog_13_method_1_code (6 : Nat) (Option.none : Option Jvm.ClassFile.FieldType)).before a0 Z = true := hw _ (List.mem_of_getElem? (i := 22) rfl)
theorem wd23 {Z : State} {a0 : Array Value} (hw : ∀ d ∈ tables_1, d.before a0 Z = true) : (Jvm.Cond.methodLink "com/example/match_before_write/matchbeforewrite/Representation" (1 : Nat) ({ cls := "java/lang/Object", name := "<init>", desc := "()V" } : Jvm.MethodName)).before a0 Z = true := hw _ (List.mem_of_getElem? (i := 23) rfl)
theorem wd24 {Z : State} {a0 : Array Value} (hw : ∀ d ∈ tables_1, d.before a0 Z = true) : (Jvm.Cond.instanceMethod ({ cls := "java/lang/Object", name := "<init>", desc := "()V" } : Jvm.MethodName)).before a0 Z = true := hw _ (List.mem_of_getElem? (i := 24) rfl)
theorem wd25 {Z : State} {a0 : Array Value} (hw : ∀ d ∈ tables_1, d.before a0 Z = true) : (Jvm.Cond.code ({ cls := "java/lang/Object", name := "<init>", desc := "()V" } : Jvm.MethodName) object_method_1_code (1 : Nat) (Option.none : Option Jvm.ClassFile.FieldType)).before a0 Z = true := hw _ (List.mem_of_getElem? (i := 25) rfl)
theorem wd26 {Z : State} {a0 : Array Value} (hw : ∀ d ∈ tables_1, d.before a0 Z = true) : (Jvm.Cond.fieldLink "com/example/match_before_write/matchbeforewrite/Representation" (7 : Nat) "com/example/match_before_write/matchbeforewrite/Representation" "content" "[B").before a0 Z = true := hw _ (List.mem_of_getElem? (i := 26) rfl)
theorem wd27 {Z : State} {a0 : Array Value} (hw : ∀ d ∈ tables_1, d.before a0 Z = true) : (Jvm.Cond.laysFinal "com/example/match_before_write/matchbeforewrite/Representation" "com/example/match_before_write/matchbeforewrite/Representation" "content" "[B").before a0 Z = true := hw _ (List.mem_of_getElem? (i := 27) rfl)
theorem wd28 {Z : State} {a0 : Array Value} (hw : ∀ d ∈ tables_1, d.before a0 Z = true) : (Jvm.Cond.fieldLink "com/example/match_before_write/matchbeforewrite/Representation" (13 : Nat) "com/example/match_before_write/matchbeforewrite/Representation" "tag" "Lcom/example/match_before_write/matchbeforewrite/EntityTag;").before a0 Z = true := hw _ (List.mem_of_getElem? (i := 28) rfl)
theorem wd29 {Z : State} {a0 : Array Value} (hw : ∀ d ∈ tables_1, d.before a0 Z = true) : (Jvm.Cond.lays "com/example/match_before_write/matchbeforewrite/Representation" "com/example/match_before_write/matchbeforewrite/Representation" "tag" "Lcom/example/match_before_write/matchbeforewrite/EntityTag;").before a0 Z = true := hw _ (List.mem_of_getElem? (i := 29) rfl)
theorem wd30 {Z : State} {a0 : Array Value} (hw : ∀ d ∈ tables_1, d.before a0 Z = true) : (Jvm.Cond.fieldLink "com/example/match_before_write/matchbeforewrite/Representation" (17 : Nat) "com/example/match_before_write/matchbeforewrite/Representation" "lastModified" "Ljava/time/Instant;").before a0 Z = true := hw _ (List.mem_of_getElem? (i := 30) rfl)
theorem wd31 {Z : State} {a0 : Array Value} (hw : ∀ d ∈ tables_1, d.before a0 Z = true) : (Jvm.Cond.laysFinal "com/example/match_before_write/matchbeforewrite/Representation" "com/example/match_before_write/matchbeforewrite/Representation" "lastModified" "Ljava/time/Instant;").before a0 Z = true := hw _ (List.mem_of_getElem? (i := 31) rfl)
theorem wd32 {Z : State} {a0 : Array Value} (hw : ∀ d ∈ tables_1, d.before a0 Z = true) : (Jvm.Cond.fieldLink "com/example/match_before_write/matchbeforewrite/Representation" (21 : Nat) "com/example/match_before_write/matchbeforewrite/Representation" "sharesItsSecond" "Z").before a0 Z = true := hw _ (List.mem_of_getElem? (i := 32) rfl)
theorem wd33 {Z : State} {a0 : Array Value} (hw : ∀ d ∈ tables_1, d.before a0 Z = true) : (Jvm.Cond.laysFinal "com/example/match_before_write/matchbeforewrite/Representation" "com/example/match_before_write/matchbeforewrite/Representation" "sharesItsSecond" "Z").before a0 Z = true := hw _ (List.mem_of_getElem? (i := 33) rfl)
theorem wd34 {Z : State} {a0 : Array Value} (hw : ∀ d ∈ tables_1, d.before a0 Z = true) : (Jvm.Cond.fieldLink "com/example/match_before_write/matchbeforewrite/Representation" (25 : Nat) "com/example/match_before_write/matchbeforewrite/Representation" "removal" "Z").before a0 Z = true := hw _ (List.mem_of_getElem? (i := 34) rfl)
theorem wd35 {Z : State} {a0 : Array Value} (hw : ∀ d ∈ tables_1, d.before a0 Z = true) : (Jvm.Cond.laysFinal "com/example/match_before_write/matchbeforewrite/Representation" "com/example/match_before_write/matchbeforewrite/Representation" "removal" "Z").before a0 Z = true := hw _ (List.mem_of_getElem? (i := 35) rfl)
theorem wd36 {Z : State} {a0 : Array Value} (hw : ∀ d ∈ tables_1, d.before a0 Z = true) : (Jvm.Cond.methodLink "com/example/match_before_write/matchbeforewrite/RepresentationOfPinLaw" (19 : Nat) ({ cls := "com/example/match_before_write/matchbeforewrite/Representation", name := "length", desc := "()I" } : Jvm.MethodName)).before a0 Z = true := hw _ (List.mem_of_getElem? (i := 36) rfl)
theorem wd37 {Z : State} {a0 : Array Value} (hw : ∀ d ∈ tables_1, d.before a0 Z = true) : (Jvm.Cond.declares ({ cls := "com/example/match_before_write/matchbeforewrite/Representation", name := "length", desc := "()I" } : Jvm.MethodName)).before a0 Z = true := hw _ (List.mem_of_getElem? (i := 37) rfl)
theorem wd38 {Z : State} {a0 : Array Value} (hw : ∀ d ∈ tables_1, d.before a0 Z = true) : (Jvm.Cond.instanceMethod ({ cls := "com/example/match_before_write/matchbeforewrite/Representation", name := "length", desc := "()I" } : Jvm.MethodName)).before a0 Z = true := hw _ (List.mem_of_getElem? (i := 38) rfl)
theorem wd39 {Z : State} {a0 : Array Value} (hw : ∀ d ∈ tables_1, d.before a0 Z = true) : (Jvm.Cond.selects "com/example/match_before_write/matchbeforewrite/Representation" ({ cls := "com/example/match_before_write/matchbeforewrite/Representation", name := "length", desc := "()I" } : Jvm.MethodName) ({ cls := "com/example/match_before_write/matchbeforewrite/Representation", name := "length", desc := "()I" } : Jvm.MethodName)).before a0 Z = true := hw _ (List.mem_of_getElem? (i := 39) rfl)
theorem wd40 {Z : State} {a0 : Array Value} (hw : ∀ d ∈ tables_1, d.before a0 Z = true) : (Jvm.Cond.code ({ cls := "com/example/match_before_write/matchbeforewrite/Representation", name := "length", desc := "()I" } : Jvm.MethodName) prog_13_method_8_code (1 : Nat) (Option.some Jvm.ClassFile.FieldType.int)).before a0 Z = true := hw _ (List.mem_of_getElem? (i := 40) rfl)
theorem wd41 {Z : State} {a0 : Array Value} (hw : ∀ d ∈ tables_1, d.before a0 Z = true) : (Jvm.Cond.methodLink "com/example/match_before_write/matchbeforewrite/RepresentationOfPinLaw" (23 : Nat) ({ cls := "com/example/match_before_write/matchbeforewrite/Representation", name := "lastModified", desc := "()Ljava/time/Instant;" } : Jvm.MethodName)).before a0 Z = true := hw _ (List.mem_of_getElem? (i := 41) rfl)
theorem wd42 {Z : State} {a0 : Array Value} (hw : ∀ d ∈ tables_1, d.before a0 Z = true) : (Jvm.Cond.declares ({ cls := "com/example/match_before_write/matchbeforewrite/Representation", name := "lastModified", desc := "()Ljava/time/Instant;" } : Jvm.MethodName)).before a0 Z = true := hw _ (List.mem_of_getElem? (i := 42) rfl)
theorem wd43 {Z : State} {a0 : Array Value} (hw : ∀ d ∈ tables_1, d.before a0 Z = true) : (Jvm.Cond.instanceMethod ({ cls := "com/example/match_before_write/matchbeforewrite/Representation", name := "lastModified", desc := "()Ljava/time/Instant;" } : Jvm.MethodName)).before a0 Z = true := hw _ (List.mem_of_getElem? (i := 43) rfl)
theorem wd44 {Z : State} {a0 : Array Value} (hw : ∀ d ∈ tables_1, d.before a0 Z = true) : (Jvm.Cond.selects "com/example/match_before_write/matchbeforewrite/Representation" ({ cls := "com/example/match_before_write/matchbeforewrite/Representation", name := "lastModified", desc := "()Ljava/time/Instant;" } : Jvm.MethodName) ({ cls := "com/example/match_before_write/matchbeforewrite/Representation", name := "lastModified", desc := "()Ljava/time/Instant;" } : Jvm.MethodName)).before a0 Z = true := hw _ (List.mem_of_getElem? (i := 44) rfl)
theorem wd45 {Z : State} {a0 : Array Value} (hw : ∀ d ∈ tables_1, d.before a0 Z = true) : (Jvm.Cond.code ({ cls := "com/example/match_before_write/matchbeforewrite/Representation", name := "lastModified", desc := "()Ljava/time/Instant;" } : Jvm.MethodName) prog_13_method_14_code (1 : Nat) (Option.some (Jvm.ClassFile.FieldType.object "java/time/Instant"))).before a0 Z = true := hw _ (List.mem_of_getElem? (i := 45) rfl)
theorem wd46 {Z : State} {a0 : Array Value} (hw : ∀ d ∈ tables_1, d.before a0 Z = true) : (Jvm.Cond.methodLink "com/example/match_before_write/matchbeforewrite/RepresentationOfPinLaw" (27 : Nat) ({ cls := "com/example/match_before_write/matchbeforewrite/Representation", name := "sharesItsSecond", desc := "()Z" } : Jvm.MethodName)).before a0 Z = true := hw _ (List.mem_of_getElem? (i := 46) rfl)
theorem wd47 {Z : State} {a0 : Array Value} (hw : ∀ d ∈ tables_1, d.before a0 Z = true) : (Jvm.Cond.declares ({ cls := "com/example/match_before_write/matchbeforewrite/Representation", name := "sharesItsSecond", desc := "()Z" } : Jvm.MethodName)).before a0 Z = true := hw _ (List.mem_of_getElem? (i := 47) rfl)
theorem wd48 {Z : State} {a0 : Array Value} (hw : ∀ d ∈ tables_1, d.before a0 Z = true) : (Jvm.Cond.instanceMethod ({ cls := "com/example/match_before_write/matchbeforewrite/Representation", name := "sharesItsSecond", desc := "()Z" } : Jvm.MethodName)).before a0 Z = true := hw _ (List.mem_of_getElem? (i := 48) rfl)
theorem wd49 {Z : State} {a0 : Array Value} (hw : ∀ d ∈ tables_1, d.before a0 Z = true) : (Jvm.Cond.selects "com/example/match_before_write/matchbeforewrite/Representation" ({ cls := "com/example/match_before_write/matchbeforewrite/Representation", name := "sharesItsSecond", desc := "()Z" } : Jvm.MethodName) ({ cls := "com/example/match_before_write/matchbeforewrite/Representation", name := "sharesItsSecond", desc := "()Z" } : Jvm.MethodName)).before a0 Z = true := hw _ (List.mem_of_getElem? (i := 49) rfl)
theorem wd50 {Z : State} {a0 : Array Value} (hw : ∀ d ∈ tables_1, d.before a0 Z = true) : (Jvm.Cond.code ({ cls := "com/example/match_before_write/matchbeforewrite/Representation", name := "sharesItsSecond", desc := "()Z" } : Jvm.MethodName) prog_13_method_15_code (1 : Nat) (Option.some Jvm.ClassFile.FieldType.boolean)).before a0 Z = true := hw _ (List.mem_of_getElem? (i := 50) rfl)
theorem wd51 {Z : State} {a0 : Array Value} (hw : ∀ d ∈ tables_1, d.before a0 Z = true) : (Jvm.Cond.methodLink "com/example/match_before_write/matchbeforewrite/RepresentationOfPinLaw" (31 : Nat) ({ cls := "com/example/match_before_write/matchbeforewrite/Representation", name := "isRemoval", desc := "()Z" } : Jvm.MethodName)).before a0 Z = true := hw _ (List.mem_of_getElem? (i := 51) rfl)
theorem wd52 {Z : State} {a0 : Array Value} (hw : ∀ d ∈ tables_1, d.before a0 Z = true) : (Jvm.Cond.declares ({ cls := "com/example/match_before_write/matchbeforewrite/Representation", name := "isRemoval", desc := "()Z" } : Jvm.MethodName)).before a0 Z = true := hw _ (List.mem_of_getElem? (i := 52) rfl)
theorem wd53 {Z : State} {a0 : Array Value} (hw : ∀ d ∈ tables_1, d.before a0 Z = true) : (Jvm.Cond.instanceMethod ({ cls := "com/example/match_before_write/matchbeforewrite/Representation", name := "isRemoval", desc := "()Z" } : Jvm.MethodName)).before a0 Z = true := hw _ (List.mem_of_getElem? (i := 53) rfl)
theorem wd54 {Z : State} {a0 : Array Value} (hw : ∀ d ∈ tables_1, d.before a0 Z = true) : (Jvm.Cond.selects "com/example/match_before_write/matchbeforewrite/Representation" ({ cls := "com/example/match_before_write/matchbeforewrite/Representation", name := "isRemoval", desc := "()Z" } : Jvm.MethodName) ({ cls := "com/example/match_before_write/matchbeforewrite/Representation", name := "isRemoval", desc := "()Z" } : Jvm.MethodName)).before a0 Z = true := hw _ (List.mem_of_getElem? (i := 54) rfl)
theorem wd55 {Z : State} {a0 : Array Value} (hw : ∀ d ∈ tables_1, d.before a0 Z = true) : (Jvm.Cond.code ({ cls := "com/example/match_before_write/matchbeforewrite/Representation", name := "isRemoval", desc := "()Z" } : Jvm.MethodName) prog_13_method_16_code (1 : Nat) (Option.some Jvm.ClassFile.FieldType.boolean)).before a0 Z = true := hw _ (List.mem_of_getElem? (i := 55) rfl)
theorem wd56 {Z : State} {a0 : Array Value} (hw : ∀ d ∈ tables_1, d.before a0 Z = true) : (Jvm.Cond.methodLink "com/example/match_before_write/matchbeforewrite/RepresentationOfPinLaw" (34 : Nat) ({ cls := "com/example/match_before_write/matchbeforewrite/Representation", name := "hasSameBytesAs", desc := "(Lcom/example/match_before_write/matchbeforewrite/Representation;)Z" } : Jvm.MethodName)).before a0 Z = true := hw _ (List.mem_of_getElem? (i := 56) rfl)
theorem wd57 {Z : State} {a0 : Array Value} (hw : ∀ d ∈ tables_1, d.before a0 Z = true) : (Jvm.Cond.declares ({ cls := "com/example/match_before_write/matchbeforewrite/Representation", name := "hasSameBytesAs", desc := "(Lcom/example/match_before_write/matchbeforewrite/Representation;)Z" } : Jvm.MethodName)).before a0 Z = true := hw _ (List.mem_of_getElem? (i := 57) rfl)
theorem wd58 {Z : State} {a0 : Array Value} (hw : ∀ d ∈ tables_1, d.before a0 Z = true) : (Jvm.Cond.instanceMethod ({ cls := "com/example/match_before_write/matchbeforewrite/Representation", name := "hasSameBytesAs", desc := "(Lcom/example/match_before_write/matchbeforewrite/Representation;)Z" } : Jvm.MethodName)).before a0 Z = true := hw _ (List.mem_of_getElem? (i := 58) rfl)
theorem wd59 {Z : State} {a0 : Array Value} (hw : ∀ d ∈ tables_1, d.before a0 Z = true) : (Jvm.Cond.selects "com/example/match_before_write/matchbeforewrite/Representation" ({ cls := "com/example/match_before_write/matchbeforewrite/Representation", name := "hasSameBytesAs", desc := "(Lcom/example/match_before_write/matchbeforewrite/Representation;)Z" } : Jvm.MethodName) ({ cls := "com/example/match_before_write/matchbeforewrite/Representation", name := "hasSameBytesAs", desc := "(Lcom/example/match_before_write/matchbeforewrite/Representation;)Z" } : Jvm.MethodName)).before a0 Z = true := hw _ (List.mem_of_getElem? (i := 59) rfl)
theorem wd60 {Z : State} {a0 : Array Value} (hw : ∀ d ∈ tables_1, d.before a0 Z = true) : (Jvm.Cond.code ({ cls := "com/example/match_before_write/matchbeforewrite/Representation", name := "hasSameBytesAs", desc := "(Lcom/example/match_before_write/matchbeforewrite/Representation;)Z" } : Jvm.MethodName) prog_13_method_13_code (2 : Nat) (Option.some Jvm.ClassFile.FieldType.boolean)).before a0 Z = true := hw _ (List.mem_of_getElem? (i := 60) rfl)
theorem wd61 {Z : State} {a0 : Array Value} (hw : ∀ d ∈ tables_1, d.before a0 Z = true) : (Jvm.Cond.methodLink "com/example/match_before_write/matchbeforewrite/Representation" (107 : Nat) ({ cls := "java/util/Arrays", name := "equals", desc := "([B[B)Z" } : Jvm.MethodName)).before a0 Z = true := hw _ (List.mem_of_getElem? (i := 61) rfl)
theorem wd62 {Z : State} {a0 : Array Value} (hw : ∀ d ∈ tables_1, d.before a0 Z = true) : (Jvm.Cond.static ({ cls := "java/util/Arrays", name := "equals", desc := "([B[B)Z" } : Jvm.MethodName)).before a0 Z = true := hw _ (List.mem_of_getElem? (i := 62) rfl)
theorem wd63 {Z : State} {a0 : Array Value} (hw : ∀ d ∈ tables_1, d.before a0 Z = true) : (Jvm.Cond.initialized "java/util/Arrays").before a0 Z = true := hw _ (List.mem_of_getElem? (i := 63) rfl)
theorem wd64 {Z : State} {a0 : Array Value} (hw : ∀ d ∈ tables_1, d.before a0 Z = true) : (Jvm.Cond.code ({ cls := "java/util/Arrays", name := "equals", desc := "([B[B)Z" } : Jvm.MethodName) jdk_65_method_89_code (3 : Nat) (Option.some Jvm.ClassFile.FieldType.boolean)).before a0 Z = true := hw _ (List.mem_of_getElem? (i := 64) rfl)
theorem wd65 {Z : State} {a0 : Array Value} (hw : ∀ d ∈ tables_1, d.before a0 Z = true) : (Jvm.Cond.methodLink "java/util/Arrays" (272 : Nat) ({ cls := "jdk/internal/util/ArraysSupport", name := "mismatch", desc := "([B[BI)I" } : Jvm.MethodName)).before a0 Z = true := hw _ (List.mem_of_getElem? (i := 65) rfl)
theorem wd66 {Z : State} {a0 : Array Value} (hw : ∀ d ∈ tables_1, d.before a0 Z = true) : (Jvm.Cond.static ({ cls := "jdk/internal/util/ArraysSupport", name := "mismatch", desc := "([B[BI)I" } : Jvm.MethodName)).before a0 Z = true := hw _ (List.mem_of_getElem? (i := 66) rfl)
theorem wd67 {Z : State} {a0 : Array Value} (hw : ∀ d ∈ tables_1, d.before a0 Z = true) : (Jvm.Cond.initialized "jdk/internal/util/ArraysSupport").before a0 Z = true := hw _ (List.mem_of_getElem? (i := 67) rfl)
theorem wd68 {Z : State} {a0 : Array Value} (hw : ∀ d ∈ tables_1, d.before a0 Z = true) : (Jvm.Cond.code ({ cls := "jdk/internal/util/ArraysSupport", name := "mismatch", desc := "([B[BI)I" } : Jvm.MethodName) jdk_48_method_13_code (4 : Nat) (Option.some Jvm.ClassFile.FieldType.int)).before a0 Z = true := hw _ (List.mem_of_getElem? (i := 68) rfl)
theorem wd69 {Z : State} {a0 : Array Value} (hw : ∀ d ∈ tables_1, d.before a0 Z = true) : (Jvm.Cond.methodLink "com/example/match_before_write/matchbeforewrite/RepresentationOfPinLaw" (38 : Nat) ({ cls := "com/example/match_before_write/matchbeforewrite/RepresentationOfPinLaw", name := "same", desc := "([B[B)Z" } : Jvm.MethodName)).before a0 Z = true := hw _ (List.mem_of_getElem? (i := 69) rfl)
theorem wd70 {Z : State} {a0 : Array Value} (hw : ∀ d ∈ tables_1, d.before a0 Z = true) : (Jvm.Cond.static ({ cls := "com/example/match_before_write/matchbeforewrite/RepresentationOfPinLaw", name := "same", desc := "([B[B)Z" } : Jvm.MethodName)).before a0 Z = true := hw _ (List.mem_of_getElem? (i := 70) rfl)
theorem wd71 {Z : State} {a0 : Array Value} (hw : ∀ d ∈ tables_1, d.before a0 Z = true) : (Jvm.Cond.code ({ cls := "com/example/match_before_write/matchbeforewrite/RepresentationOfPinLaw", name := "same", desc := "([B[B)Z" } : Jvm.MethodName) method_3_code (2 : Nat) (Option.some Jvm.ClassFile.FieldType.boolean)).before a0 Z = true := hw _ (List.mem_of_getElem? (i := 71) rfl)
theorem d1_0 : decode method_2_code 0 = .ok (.iload_n 0, 1) := by decide +kernel
theorem d1_1 : decode method_2_code 1 = .ok (.ifCond .ne 7, 3) := by decide +kernel
theorem d1_4 : decode method_2_code 4 = .ok (.iconst 0, 1) := by decide +kernel
theorem d1_5 : decode method_2_code 5 = .ok (.newarray .byte, 2) := by decide +kernel
theorem d1_7 : decode method_2_code 7 = .ok (.areturn, 1) := by decide +kernel
theorem d1_8 : decode method_2_code 8 = .ok (.iload_n 0, 1) := by decide +kernel
theorem d1_9 : decode method_2_code 9 = .ok (.iconst 1, 1) := by decide +kernel
theorem d1_10 : decode method_2_code 10 = .ok (.if_icmp .ne 11, 3) := by decide +kernel
theorem d1_13 : decode method_2_code 13 = .ok (.iconst 1, 1) := by decide +kernel
theorem d1_14 : decode method_2_code 14 = .ok (.newarray .byte, 2) := by decide +kernel
theorem d1_16 : decode method_2_code 16 = .ok (.dup, 1) := by decide +kernel
theorem d1_17 : decode method_2_code 17 = .ok (.iconst 0, 1) := by decide +kernel
theorem d1_18 : decode method_2_code 18 = .ok (.iload_n 1, 1) := by decide +kernel
theorem d1_19 : decode method_2_code 19 = .ok (.bastore, 1) := by decide +kernel
theorem d1_20 : decode method_2_code 20 = .ok (.areturn, 1) := by decide +kernel
theorem d1_21 : decode method_2_code 21 = .ok (.iload_n 0, 1) := by decide +kernel
theorem d1_22 : decode method_2_code 22 = .ok (.iconst 2, 1) := by decide +kernel
theorem d1_23 : decode method_2_code 23 = .ok (.if_icmp .ne 15, 3) := by decide +kernel
theorem d1_26 : decode method_2_code 26 = .ok (.iconst 2, 1) := by decide +kernel
theorem d1_27 : decode method_2_code 27 = .ok (.newarray .byte, 2) := by decide +kernel
theorem d1_29 : decode method_2_code 29 = .ok (.dup, 1) := by decide +kernel
theorem d1_30 : decode method_2_code 30 = .ok (.iconst 0, 1) := by decide +kernel
theorem d1_31 : decode method_2_code 31 = .ok (.iload_n 1, 1) := by decide +kernel
theorem d1_32 : decode method_2_code 32 = .ok (.bastore, 1) := by decide +kernel
theorem d1_33 : decode method_2_code 33 = .ok (.dup, 1) := by decide +kernel
theorem d1_34 : decode method_2_code 34 = .ok (.iconst 1, 1) := by decide +kernel
theorem d1_35 : decode method_2_code 35 = .ok (.iload_n 2, 1) := by decide +kernel
theorem d1_36 : decode method_2_code 36 = .ok (.bastore, 1) := by decide +kernel
theorem d1_37 : decode method_2_code 37 = .ok (.areturn, 1) := by decide +kernel
theorem d1_38 : decode method_2_code 38 = .ok (.iconst 3, 1) := by decide +kernel
theorem d1_39 : decode method_2_code 39 = .ok (.newarray .byte, 2) := by decide +kernel
theorem d1_41 : decode method_2_code 41 = .ok (.dup, 1) := by decide +kernel
theorem d1_42 : decode method_2_code 42 = .ok (.iconst 0, 1) := by decide +kernel
theorem d1_43 : decode method_2_code 43 = .ok (.iload_n 1, 1) := by decide +kernel
theorem d1_44 : decode method_2_code 44 = .ok (.bastore, 1) := by decide +kernel
theorem d1_45 : decode method_2_code 45 = .ok (.dup, 1) := by decide +kernel
theorem d1_46 : decode method_2_code 46 = .ok (.iconst 1, 1) := by decide +kernel
theorem d1_47 : decode method_2_code 47 = .ok (.iload_n 2, 1) := by decide +kernel
theorem d1_48 : decode method_2_code 48 = .ok (.bastore, 1) := by decide +kernel
theorem d1_49 : decode method_2_code 49 = .ok (.dup, 1) := by decide +kernel
theorem d1_50 : decode method_2_code 50 = .ok (.iconst 2, 1) := by decide +kernel
theorem d1_51 : decode method_2_code 51 = .ok (.iload_n 3, 1) := by decide +kernel
theorem d1_52 : decode method_2_code 52 = .ok (.bastore, 1) := by decide +kernel
theorem d1_53 : decode method_2_code 53 = .ok (.areturn, 1) := by decide +kernel
theorem d2_0 : decode prog_13_method_2_code 0 = .ok (.new 8, 3) := by decide +kernel
theorem d2_3 : decode prog_13_method_2_code 3 = .ok (.dup, 1) := by decide +kernel
theorem d2_4 : decode prog_13_method_2_code 4 = .ok (.aload_n 0, 1) := by decide +kernel
theorem d2_5 : decode prog_13_method_2_code 5 = .ok (.invokevirtual 28, 3) := by decide +kernel
theorem d2_8 : decode prog_13_method_2_code 8 = .ok (.checkcast 29, 3) := by decide +kernel
theorem d2_11 : decode prog_13_method_2_code 11 = .ok (.aconst_null, 1) := by decide +kernel
theorem d2_12 : decode prog_13_method_2_code 12 = .ok (.aconst_null, 1) := by decide +kernel
theorem d2_13 : decode prog_13_method_2_code 13 = .ok (.iconst 0, 1) := by decide +kernel
theorem d2_14 : decode prog_13_method_2_code 14 = .ok (.iconst 0, 1) := by decide +kernel
theorem d2_15 : decode prog_13_method_2_code 15 = .ok (.invokespecial 33, 3) := by decide +kernel
theorem d2_18 : decode prog_13_method_2_code 18 = .ok (.areturn, 1) := by decide +kernel
theorem d3_0 : decode prog_13_method_1_code 0 = .ok (.aload_n 0, 1) := by decide +kernel
theorem d3_1 : decode prog_13_method_1_code 1 = .ok (.invokespecial 1, 3) := by decide +kernel
theorem d3_4 : decode prog_13_method_1_code 4 = .ok (.aload_n 0, 1) := by decide +kernel
theorem d3_5 : decode prog_13_method_1_code 5 = .ok (.aload_n 1, 1) := by decide +kernel
theorem d3_6 : decode prog_13_method_1_code 6 = .ok (.putfield 7, 3) := by decide +kernel
theorem d3_9 : decode prog_13_method_1_code 9 = .ok (.aload_n 0, 1) := by decide +kernel
theorem d3_10 : decode prog_13_method_1_code 10 = .ok (.aload_n 2, 1) := by decide +kernel
theorem d3_11 : decode prog_13_method_1_code 11 = .ok (.putfield 13, 3) := by decide +kernel
theorem d3_14 : decode prog_13_method_1_code 14 = .ok (.aload_n 0, 1) := by decide +kernel
theorem d3_15 : decode prog_13_method_1_code 15 = .ok (.aload_n 3, 1) := by decide +kernel
theorem d3_16 : decode prog_13_method_1_code 16 = .ok (.putfield 17, 3) := by decide +kernel
theorem d3_19 : decode prog_13_method_1_code 19 = .ok (.aload_n 0, 1) := by decide +kernel
theorem d3_20 : decode prog_13_method_1_code 20 = .ok (.iload 4, 2) := by decide +kernel
theorem d3_22 : decode prog_13_method_1_code 22 = .ok (.putfield 21, 3) := by decide +kernel
theorem d3_25 : decode prog_13_method_1_code 25 = .ok (.aload_n 0, 1) := by decide +kernel
theorem d3_26 : decode prog_13_method_1_code 26 = .ok (.iload 5, 2) := by decide +kernel
theorem d3_28 : decode prog_13_method_1_code 28 = .ok (.putfield 25, 3) := by decide +kernel
theorem d3_31 : decode prog_13_method_1_code 31 = .ok (.return_, 1) := by decide +kernel
theorem d5_0 : decode prog_13_method_8_code 0 = .ok (.aload_n 0, 1) := by decide +kernel
theorem d5_1 : decode prog_13_method_8_code 1 = .ok (.getfield 7, 3) := by decide +kernel
theorem d5_4 : decode prog_13_method_8_code 4 = .ok (.arraylength, 1) := by decide +kernel
theorem d5_5 : decode prog_13_method_8_code 5 = .ok (.ireturn, 1) := by decide +kernel
theorem d6_0 : decode prog_13_method_14_code 0 = .ok (.aload_n 0, 1) := by decide +kernel
theorem d6_1 : decode prog_13_method_14_code 1 = .ok (.getfield 17, 3) := by decide +kernel
theorem d6_4 : decode prog_13_method_14_code 4 = .ok (.areturn, 1) := by decide +kernel
theorem d7_0 : decode prog_13_method_15_code 0 = .ok (.aload_n 0, 1) := by decide +kernel
theorem d7_1 : decode prog_13_method_15_code 1 = .ok (.getfield 21, 3) := by decide +kernel
theorem d7_4 : decode prog_13_method_15_code 4 = .ok (.ireturn, 1) := by decide +kernel
theorem d8_0 : decode prog_13_method_16_code 0 = .ok (.aload_n 0, 1) := by decide +kernel
theorem d8_1 : decode prog_13_method_16_code 1 = .ok (.getfield 25, 3) := by decide +kernel
theorem d8_4 : decode prog_13_method_16_code 4 = .ok (.ireturn, 1) := by decide +kernel
theorem d9_0 : decode prog_13_method_13_code 0 = .ok (.aload_n 0, 1) := by decide +kernel
theorem d9_1 : decode prog_13_method_13_code 1 = .ok (.getfield 7, 3) := by decide +kernel
theorem d9_4 : decode prog_13_method_13_code 4 = .ok (.aload_n 1, 1) := by decide +kernel
theorem d9_5 : decode prog_13_method_13_code 5 = .ok (.getfield 7, 3) := by decide +kernel
theorem d9_8 : decode prog_13_method_13_code 8 = .ok (.invokestatic 107, 3) := by decide +kernel
theorem d9_11 : decode prog_13_method_13_code 11 = .ok (.ireturn, 1) := by decide +kernel
theorem d10_0 : decode jdk_65_method_89_code 0 = .ok (.aload_n 0, 1) := by decide +kernel
theorem d10_1 : decode jdk_65_method_89_code 1 = .ok (.aload_n 1, 1) := by decide +kernel
theorem d10_2 : decode jdk_65_method_89_code 2 = .ok (.if_acmp .ne 5, 3) := by decide +kernel
theorem d10_7 : decode jdk_65_method_89_code 7 = .ok (.aload_n 0, 1) := by decide +kernel
theorem d10_8 : decode jdk_65_method_89_code 8 = .ok (.ifnull 7, 3) := by decide +kernel
theorem d10_11 : decode jdk_65_method_89_code 11 = .ok (.aload_n 1, 1) := by decide +kernel
theorem d10_12 : decode jdk_65_method_89_code 12 = .ok (.ifnonnull 5, 3) := by decide +kernel
theorem d10_17 : decode jdk_65_method_89_code 17 = .ok (.aload_n 0, 1) := by decide +kernel
theorem d10_18 : decode jdk_65_method_89_code 18 = .ok (.arraylength, 1) := by decide +kernel
theorem d10_19 : decode jdk_65_method_89_code 19 = .ok (.istore_n 2, 1) := by decide +kernel
theorem d10_20 : decode jdk_65_method_89_code 20 = .ok (.aload_n 1, 1) := by decide +kernel
theorem d10_21 : decode jdk_65_method_89_code 21 = .ok (.arraylength, 1) := by decide +kernel
theorem d10_22 : decode jdk_65_method_89_code 22 = .ok (.iload_n 2, 1) := by decide +kernel
theorem d10_23 : decode jdk_65_method_89_code 23 = .ok (.if_icmp .eq 5, 3) := by decide +kernel
theorem d10_26 : decode jdk_65_method_89_code 26 = .ok (.iconst 0, 1) := by decide +kernel
theorem d10_27 : decode jdk_65_method_89_code 27 = .ok (.ireturn, 1) := by decide +kernel
theorem d10_28 : decode jdk_65_method_89_code 28 = .ok (.aload_n 0, 1) := by decide +kernel
theorem d10_29 : decode jdk_65_method_89_code 29 = .ok (.aload_n 1, 1) := by decide +kernel
theorem d10_30 : decode jdk_65_method_89_code 30 = .ok (.iload_n 2, 1) := by decide +kernel
theorem d10_31 : decode jdk_65_method_89_code 31 = .ok (.invokestatic 272, 3) := by decide +kernel
theorem d10_34 : decode jdk_65_method_89_code 34 = .ok (.ifCond .ge 7, 3) := by decide +kernel
theorem d10_37 : decode jdk_65_method_89_code 37 = .ok (.iconst 1, 1) := by decide +kernel
theorem d10_38 : decode jdk_65_method_89_code 38 = .ok (.goto 4, 3) := by decide +kernel
theorem d10_41 : decode jdk_65_method_89_code 41 = .ok (.iconst 0, 1) := by decide +kernel
theorem d10_42 : decode jdk_65_method_89_code 42 = .ok (.ireturn, 1) := by decide +kernel
theorem d11_0 : decode jdk_48_method_13_code 0 = .ok (.iconst 0, 1) := by decide +kernel
theorem d11_1 : decode jdk_48_method_13_code 1 = .ok (.istore_n 3, 1) := by decide +kernel
theorem d11_2 : decode jdk_48_method_13_code 2 = .ok (.iload_n 2, 1) := by decide +kernel
theorem d11_3 : decode jdk_48_method_13_code 3 = .ok (.bipush 7, 2) := by decide +kernel
theorem d11_5 : decode jdk_48_method_13_code 5 = .ok (.if_icmp .le 44, 3) := by decide +kernel
theorem d11_49 : decode jdk_48_method_13_code 49 = .ok (.iload_n 3, 1) := by decide +kernel
theorem d11_50 : decode jdk_48_method_13_code 50 = .ok (.iload_n 2, 1) := by decide +kernel
theorem d11_51 : decode jdk_48_method_13_code 51 = .ok (.if_icmp .ge 20, 3) := by decide +kernel
theorem d11_54 : decode jdk_48_method_13_code 54 = .ok (.aload_n 0, 1) := by decide +kernel
theorem d11_55 : decode jdk_48_method_13_code 55 = .ok (.iload_n 3, 1) := by decide +kernel
theorem d11_56 : decode jdk_48_method_13_code 56 = .ok (.baload, 1) := by decide +kernel
theorem d11_57 : decode jdk_48_method_13_code 57 = .ok (.aload_n 1, 1) := by decide +kernel
theorem d11_58 : decode jdk_48_method_13_code 58 = .ok (.iload_n 3, 1) := by decide +kernel
theorem d11_59 : decode jdk_48_method_13_code 59 = .ok (.baload, 1) := by decide +kernel
theorem d11_60 : decode jdk_48_method_13_code 60 = .ok (.if_icmp .eq 5, 3) := by decide +kernel
theorem d11_63 : decode jdk_48_method_13_code 63 = .ok (.iload_n 3, 1) := by decide +kernel
theorem d11_64 : decode jdk_48_method_13_code 64 = .ok (.ireturn, 1) := by decide +kernel
theorem d11_65 : decode jdk_48_method_13_code 65 = .ok (.iinc 3 1, 3) := by decide +kernel
theorem d11_68 : decode jdk_48_method_13_code 68 = .ok (.goto (-19), 3) := by decide +kernel
theorem d11_71 : decode jdk_48_method_13_code 71 = .ok (.iconst (-1), 1) := by decide +kernel
theorem d11_72 : decode jdk_48_method_13_code 72 = .ok (.ireturn, 1) := by decide +kernel
theorem d12_0 : decode method_3_code 0 = .ok (.aload_n 0, 1) := by decide +kernel
theorem d12_1 : decode method_3_code 1 = .ok (.arraylength, 1) := by decide +kernel
theorem d12_2 : decode method_3_code 2 = .ok (.aload_n 1, 1) := by decide +kernel
theorem d12_3 : decode method_3_code 3 = .ok (.arraylength, 1) := by decide +kernel
theorem d12_4 : decode method_3_code 4 = .ok (.if_icmp .eq 5, 3) := by decide +kernel
theorem d12_7 : decode method_3_code 7 = .ok (.iconst 0, 1) := by decide +kernel
theorem d12_8 : decode method_3_code 8 = .ok (.ireturn, 1) := by decide +kernel
theorem d12_9 : decode method_3_code 9 = .ok (.aload_n 0, 1) := by decide +kernel
theorem d12_10 : decode method_3_code 10 = .ok (.arraylength, 1) := by decide +kernel
theorem d12_11 : decode method_3_code 11 = .ok (.ifCond .le 14, 3) := by decide +kernel
theorem d12_14 : decode method_3_code 14 = .ok (.aload_n 0, 1) := by decide +kernel
theorem d12_15 : decode method_3_code 15 = .ok (.iconst 0, 1) := by decide +kernel
theorem d12_16 : decode method_3_code 16 = .ok (.baload, 1) := by decide +kernel
theorem d12_17 : decode method_3_code 17 = .ok (.aload_n 1, 1) := by decide +kernel
theorem d12_18 : decode method_3_code 18 = .ok (.iconst 0, 1) := by decide +kernel
theorem d12_19 : decode method_3_code 19 = .ok (.baload, 1) := by decide +kernel
theorem d12_20 : decode method_3_code 20 = .ok (.if_icmp .eq 5, 3) := by decide +kernel
theorem d12_23 : decode method_3_code 23 = .ok (.iconst 0, 1) := by decide +kernel
theorem d12_24 : decode method_3_code 24 = .ok (.ireturn, 1) := by decide +kernel
theorem d12_25 : decode method_3_code 25 = .ok (.aload_n 0, 1) := by decide +kernel
theorem d12_26 : decode method_3_code 26 = .ok (.arraylength, 1) := by decide +kernel
theorem d12_27 : decode method_3_code 27 = .ok (.iconst 1, 1) := by decide +kernel
theorem d12_28 : decode method_3_code 28 = .ok (.if_icmp .le 14, 3) := by decide +kernel
theorem d12_31 : decode method_3_code 31 = .ok (.aload_n 0, 1) := by decide +kernel
theorem d12_32 : decode method_3_code 32 = .ok (.iconst 1, 1) := by decide +kernel
theorem d12_33 : decode method_3_code 33 = .ok (.baload, 1) := by decide +kernel
theorem d12_34 : decode method_3_code 34 = .ok (.aload_n 1, 1) := by decide +kernel
theorem d12_35 : decode method_3_code 35 = .ok (.iconst 1, 1) := by decide +kernel
theorem d12_36 : decode method_3_code 36 = .ok (.baload, 1) := by decide +kernel
theorem d12_37 : decode method_3_code 37 = .ok (.if_icmp .eq 5, 3) := by decide +kernel
theorem d12_40 : decode method_3_code 40 = .ok (.iconst 0, 1) := by decide +kernel
theorem d12_41 : decode method_3_code 41 = .ok (.ireturn, 1) := by decide +kernel
theorem d12_42 : decode method_3_code 42 = .ok (.aload_n 0, 1) := by decide +kernel
theorem d12_43 : decode method_3_code 43 = .ok (.arraylength, 1) := by decide +kernel
theorem d12_44 : decode method_3_code 44 = .ok (.iconst 2, 1) := by decide +kernel
theorem d12_45 : decode method_3_code 45 = .ok (.if_icmp .le 14, 3) := by decide +kernel
theorem d12_48 : decode method_3_code 48 = .ok (.aload_n 0, 1) := by decide +kernel
theorem d12_49 : decode method_3_code 49 = .ok (.iconst 2, 1) := by decide +kernel
theorem d12_50 : decode method_3_code 50 = .ok (.baload, 1) := by decide +kernel
theorem d12_51 : decode method_3_code 51 = .ok (.aload_n 1, 1) := by decide +kernel
theorem d12_52 : decode method_3_code 52 = .ok (.iconst 2, 1) := by decide +kernel
theorem d12_53 : decode method_3_code 53 = .ok (.baload, 1) := by decide +kernel
theorem d12_54 : decode method_3_code 54 = .ok (.if_icmp .eq 5, 3) := by decide +kernel
theorem d12_57 : decode method_3_code 57 = .ok (.iconst 0, 1) := by decide +kernel
theorem d12_58 : decode method_3_code 58 = .ok (.ireturn, 1) := by decide +kernel
theorem d12_59 : decode method_3_code 59 = .ok (.iconst 1, 1) := by decide +kernel
theorem d12_60 : decode method_3_code 60 = .ok (.ireturn, 1) := by decide +kernel
theorem pd0 : parseMethodDescriptor "([BLcom/example/match_before_write/matchbeforewrite/EntityTag;Ljava/time/Instant;ZZ)V" = some ⟨[(.array .byte), (.object "com/example/match_before_write/matchbeforewrite/EntityTag"), (.object "java/time/Instant"), .boolean, .boolean], none⟩ := by decide +kernel
theorem pd1 : parseMethodDescriptor "([B[BI)I" = some ⟨[(.array .byte), (.array .byte), .int], some .int⟩ := by decide +kernel
theorem pd2 : parseMethodDescriptor "([B[B)Z" = some ⟨[(.array .byte), (.array .byte)], some .boolean⟩ := by decide +kernel
theorem pd3 : parseMethodDescriptor "(IBBB)[B" = some ⟨[.int, .byte, .byte, .byte], some (.array .byte)⟩ := by decide +kernel
theorem pd4 : parseMethodDescriptor "([B)Lcom/example/match_before_write/matchbeforewrite/Representation;" = some ⟨[(.array .byte)], some (.object "com/example/match_before_write/matchbeforewrite/Representation")⟩ := by decide +kernel
theorem pd5 : parseMethodDescriptor "()I" = some ⟨[], some .int⟩ := by decide +kernel
theorem pd6 : parseMethodDescriptor "()Ljava/time/Instant;" = some ⟨[], some (.object "java/time/Instant")⟩ := by decide +kernel
theorem pd7 : parseMethodDescriptor "()Z" = some ⟨[], some .boolean⟩ := by decide +kernel
theorem pd8 : parseMethodDescriptor "(Lcom/example/match_before_write/matchbeforewrite/Representation;)Z" = some ⟨[(.object "com/example/match_before_write/matchbeforewrite/Representation")], some .boolean⟩ := by decide +kernel
theorem pn0 : plainName "com/example/match_before_write/matchbeforewrite/RepresentationOfPinLaw" = true := by first | (simp [plainName, overriddenIn]; done) | decide +kernel
theorem pn1 : plainName "com/example/match_before_write/matchbeforewrite/Representation" = true := by first | (simp [plainName, overriddenIn]; done) | decide +kernel
theorem pn2 : plainName "jdk/internal/util/ArraysSupport" = true := by first | (simp [plainName, overriddenIn]; done) | decide +kernel
theorem pn3 : plainName "java/util/Arrays" = true := by first | (simp [plainName, overriddenIn]; done) | decide +kernel
theorem ef_make0 (m : MethodId) (x1 : Int32) (x2 : Int32) (x3 : Int32) : entryFrame m #[(.int (0 : Int32)), (.int x1), (.int x2), (.int x3)] 4 = mkF m 0 #[.val (.int (0 : Int32)), .val (.int x1), .val (.int x2), .val (.int x3)] [] := by first | (simp [entryFrame, mkF, argsToLocals, Value.category, maxLocals]; done) | rfl
theorem ef_make1 (m : MethodId) (x1 : Int32) (x2 : Int32) (x3 : Int32) : entryFrame m #[(.int (1 : Int32)), (.int x1), (.int x2), (.int x3)] 4 = mkF m 0 #[.val (.int (1 : Int32)), .val (.int x1), .val (.int x2), .val (.int x3)] [] := by first | (simp [entryFrame, mkF, argsToLocals, Value.category, maxLocals]; done) | rfl
theorem ef_make2 (m : MethodId) (x1 : Int32) (x2 : Int32) (x3 : Int32) : entryFrame m #[(.int (2 : Int32)), (.int x1), (.int x2), (.int x3)] 4 = mkF m 0 #[.val (.int (2 : Int32)), .val (.int x1), .val (.int x2), .val (.int x3)] [] := by first | (simp [entryFrame, mkF, argsToLocals, Value.category, maxLocals]; done) | rfl
theorem ef_make3 (m : MethodId) (x1 : Int32) (x2 : Int32) (x3 : Int32) : entryFrame m #[(.int (3 : Int32)), (.int x1), (.int x2), (.int x3)] 4 = mkF m 0 #[.val (.int (3 : Int32)), .val (.int x1), .val (.int x2), .val (.int x3)] [] := by first | (simp [entryFrame, mkF, argsToLocals, Value.category, maxLocals]; done) | rfl
theorem ef_crep (m : MethodId) (x0 : Addr) (x1 : Addr) : entryFrame m #[(.ref x0), (.ref x1), .null, .null, (.int (0 : Int32)), (.int (0 : Int32))] 6 = mkF m 0 #[.val (.ref x0), .val (.ref x1), .val .null, .val .null, .val (.int (0 : Int32)), .val (.int (0 : Int32))] [] := by first | (simp [entryFrame, mkF, argsToLocals, Value.category, maxLocals]; done) | rfl
theorem ef_of0 (m : MethodId) (x0 : Addr) : entryFrame m #[(.ref x0)] 1 = mkF m 0 #[.val (.ref x0)] [] := by first | (simp [entryFrame, mkF, argsToLocals, Value.category, maxLocals]; done) | rfl
theorem ef_of1 (m : MethodId) (x0 : Addr) : entryFrame m #[(.ref x0)] 1 = mkF m 0 #[.val (.ref x0)] [] := by first | (simp [entryFrame, mkF, argsToLocals, Value.category, maxLocals]; done) | rfl
theorem ef_of2 (m : MethodId) (x0 : Addr) : entryFrame m #[(.ref x0)] 1 = mkF m 0 #[.val (.ref x0)] [] := by first | (simp [entryFrame, mkF, argsToLocals, Value.category, maxLocals]; done) | rfl
theorem ef_of3 (m : MethodId) (x0 : Addr) : entryFrame m #[(.ref x0)] 1 = mkF m 0 #[.val (.ref x0)] [] := by first | (simp [entryFrame, mkF, argsToLocals, Value.category, maxLocals]; done) | rfl
theorem ef_clen (m : MethodId) (x0 : Addr) : entryFrame m #[(.ref x0)] 1 = mkF m 0 #[.val (.ref x0)] [] := by first | (simp [entryFrame, mkF, argsToLocals, Value.category, maxLocals]; done) | rfl
theorem ef_clast (m : MethodId) (x0 : Addr) : entryFrame m #[(.ref x0)] 1 = mkF m 0 #[.val (.ref x0)] [] := by first | (simp [entryFrame, mkF, argsToLocals, Value.category, maxLocals]; done) | rfl
theorem ef_cshar (m : MethodId) (x0 : Addr) : entryFrame m #[(.ref x0)] 1 = mkF m 0 #[.val (.ref x0)] [] := by first | (simp [entryFrame, mkF, argsToLocals, Value.category, maxLocals]; done) | rfl
theorem ef_cremo (m : MethodId) (x0 : Addr) : entryFrame m #[(.ref x0)] 1 = mkF m 0 #[.val (.ref x0)] [] := by first | (simp [entryFrame, mkF, argsToLocals, Value.category, maxLocals]; done) | rfl
theorem ef_cmis0_0 (m : MethodId) (x0 : Addr) (x1 : Addr) : entryFrame m #[(.ref x0), (.ref x1), (.int (0 : Int32))] 4 = mkF m 0 #[.val (.ref x0), .val (.ref x1), .val (.int (0 : Int32)), .unset] [] := by first | (simp [entryFrame, mkF, argsToLocals, Value.category, maxLocals]; done) | rfl
theorem ef_ceq0_0 (m : MethodId) (x0 : Addr) (x1 : Addr) : entryFrame m #[(.ref x0), (.ref x1)] 3 = mkF m 0 #[.val (.ref x0), .val (.ref x1), .unset] [] := by first | (simp [entryFrame, mkF, argsToLocals, Value.category, maxLocals]; done) | rfl
theorem ef_csam0_0 (m : MethodId) (x0 : Addr) (x1 : Addr) : entryFrame m #[(.ref x0), (.ref x1)] 2 = mkF m 0 #[.val (.ref x0), .val (.ref x1)] [] := by first | (simp [entryFrame, mkF, argsToLocals, Value.category, maxLocals]; done) | rfl
theorem ef_chs0_0 (m : MethodId) (x0 : Addr) (x1 : Addr) : entryFrame m #[(.ref x0), (.ref x1)] 2 = mkF m 0 #[.val (.ref x0), .val (.ref x1)] [] := by first | (simp [entryFrame, mkF, argsToLocals, Value.category, maxLocals]; done) | rfl
theorem ef_ceqd0_1 (m : MethodId) (x0 : Addr) (x1 : Addr) : entryFrame m #[(.ref x0), (.ref x1)] 3 = mkF m 0 #[.val (.ref x0), .val (.ref x1), .unset] [] := by first | (simp [entryFrame, mkF, argsToLocals, Value.category, maxLocals]; done) | rfl
theorem ef_csamd0_1 (m : MethodId) (x0 : Addr) (x1 : Addr) : entryFrame m #[(.ref x0), (.ref x1)] 2 = mkF m 0 #[.val (.ref x0), .val (.ref x1)] [] := by first | (simp [entryFrame, mkF, argsToLocals, Value.category, maxLocals]; done) | rfl
theorem ef_chsd0_1 (m : MethodId) (x0 : Addr) (x1 : Addr) : entryFrame m #[(.ref x0), (.ref x1)] 2 = mkF m 0 #[.val (.ref x0), .val (.ref x1)] [] := by first | (simp [entryFrame, mkF, argsToLocals, Value.category, maxLocals]; done) | rfl
theorem ef_ceqd0_2 (m : MethodId) (x0 : Addr) (x1 : Addr) : entryFrame m #[(.ref x0), (.ref x1)] 3 = mkF m 0 #[.val (.ref x0), .val (.ref x1), .unset] [] := by first | (simp [entryFrame, mkF, argsToLocals, Value.category, maxLocals]; done) | rfl
theorem ef_csamd0_2 (m : MethodId) (x0 : Addr) (x1 : Addr) : entryFrame m #[(.ref x0), (.ref x1)] 2 = mkF m 0 #[.val (.ref x0), .val (.ref x1)] [] := by first | (simp [entryFrame, mkF, argsToLocals, Value.category, maxLocals]; done) | rfl
theorem ef_chsd0_2 (m : MethodId) (x0 : Addr) (x1 : Addr) : entryFrame m #[(.ref x0), (.ref x1)] 2 = mkF m 0 #[.val (.ref x0), .val (.ref x1)] [] := by first | (simp [entryFrame, mkF, argsToLocals, Value.category, maxLocals]; done) | rfl
theorem ef_ceqd0_3 (m : MethodId) (x0 : Addr) (x1 : Addr) : entryFrame m #[(.ref x0), (.ref x1)] 3 = mkF m 0 #[.val (.ref x0), .val (.ref x1), .unset] [] := by first | (simp [entryFrame, mkF, argsToLocals, Value.category, maxLocals]; done) | rfl
theorem ef_csamd0_3 (m : MethodId) (x0 : Addr) (x1 : Addr) : entryFrame m #[(.ref x0), (.ref x1)] 2 = mkF m 0 #[.val (.ref x0), .val (.ref x1)] [] := by first | (simp [entryFrame, mkF, argsToLocals, Value.category, maxLocals]; done) | rfl
theorem ef_chsd0_3 (m : MethodId) (x0 : Addr) (x1 : Addr) : entryFrame m #[(.ref x0), (.ref x1)] 2 = mkF m 0 #[.val (.ref x0), .val (.ref x1)] [] := by first | (simp [entryFrame, mkF, argsToLocals, Value.category, maxLocals]; done) | rfl
theorem ef_cmis1_1 (m : MethodId) (x0 : Addr) (x1 : Addr) : entryFrame m #[(.ref x0), (.ref x1), (.int (1 : Int32))] 4 = mkF m 0 #[.val (.ref x0), .val (.ref x1), .val (.int (1 : Int32)), .unset] [] := by first | (simp [entryFrame, mkF, argsToLocals, Value.category, maxLocals]; done) | rfl
theorem ef_ceq1_1 (m : MethodId) (x0 : Addr) (x1 : Addr) : entryFrame m #[(.ref x0), (.ref x1)] 3 = mkF m 0 #[.val (.ref x0), .val (.ref x1), .unset] [] := by first | (simp [entryFrame, mkF, argsToLocals, Value.category, maxLocals]; done) | rfl
theorem ef_csam1_1 (m : MethodId) (x0 : Addr) (x1 : Addr) : entryFrame m #[(.ref x0), (.ref x1)] 2 = mkF m 0 #[.val (.ref x0), .val (.ref x1)] [] := by first | (simp [entryFrame, mkF, argsToLocals, Value.category, maxLocals]; done) | rfl
theorem ef_chs1_1 (m : MethodId) (x0 : Addr) (x1 : Addr) : entryFrame m #[(.ref x0), (.ref x1)] 2 = mkF m 0 #[.val (.ref x0), .val (.ref x1)] [] := by first | (simp [entryFrame, mkF, argsToLocals, Value.category, maxLocals]; done) | rfl
theorem ef_cmis1_0 (m : MethodId) (x0 : Addr) (x1 : Addr) : entryFrame m #[(.ref x0), (.ref x1), (.int (1 : Int32))] 4 = mkF m 0 #[.val (.ref x0), .val (.ref x1), .val (.int (1 : Int32)), .unset] [] := by first | (simp [entryFrame, mkF, argsToLocals, Value.category, maxLocals]; done) | rfl
theorem ef_ceq1_0 (m : MethodId) (x0 : Addr) (x1 : Addr) : entryFrame m #[(.ref x0), (.ref x1)] 3 = mkF m 0 #[.val (.ref x0), .val (.ref x1), .unset] [] := by first | (simp [entryFrame, mkF, argsToLocals, Value.category, maxLocals]; done) | rfl
theorem ef_csam1_0 (m : MethodId) (x0 : Addr) (x1 : Addr) : entryFrame m #[(.ref x0), (.ref x1)] 2 = mkF m 0 #[.val (.ref x0), .val (.ref x1)] [] := by first | (simp [entryFrame, mkF, argsToLocals, Value.category, maxLocals]; done) | rfl
theorem ef_chs1_0 (m : MethodId) (x0 : Addr) (x1 : Addr) : entryFrame m #[(.ref x0), (.ref x1)] 2 = mkF m 0 #[.val (.ref x0), .val (.ref x1)] [] := by first | (simp [entryFrame, mkF, argsToLocals, Value.category, maxLocals]; done) | rfl
theorem ef_ceqd1_0 (m : MethodId) (x0 : Addr) (x1 : Addr) : entryFrame m #[(.ref x0), (.ref x1)] 3 = mkF m 0 #[.val (.ref x0), .val (.ref x1), .unset] [] := by first | (simp [entryFrame, mkF, argsToLocals, Value.category, maxLocals]; done) | rfl
theorem ef_csamd1_0 (m : MethodId) (x0 : Addr) (x1 : Addr) : entryFrame m #[(.ref x0), (.ref x1)] 2 = mkF m 0 #[.val (.ref x0), .val (.ref x1)] [] := by first | (simp [entryFrame, mkF, argsToLocals, Value.category, maxLocals]; done) | rfl
theorem ef_chsd1_0 (m : MethodId) (x0 : Addr) (x1 : Addr) : entryFrame m #[(.ref x0), (.ref x1)] 2 = mkF m 0 #[.val (.ref x0), .val (.ref x1)] [] := by first | (simp [entryFrame, mkF, argsToLocals, Value.category, maxLocals]; done) | rfl
theorem ef_ceqd1_2 (m : MethodId) (x0 : Addr) (x1 : Addr) : entryFrame m #[(.ref x0), (.ref x1)] 3 = mkF m 0 #[.val (.ref x0), .val (.ref x1), .unset] [] := by first | (simp [entryFrame, mkF, argsToLocals, Value.category, maxLocals]; done) | rfl
theorem ef_csamd1_2 (m : MethodId) (x0 : Addr) (x1 : Addr) : entryFrame m #[(.ref x0), (.ref x1)] 2 = mkF m 0 #[.val (.ref x0), .val (.ref x1)] [] := by first | (simp [entryFrame, mkF, argsToLocals, Value.category, maxLocals]; done) | rfl
theorem ef_chsd1_2 (m : MethodId) (x0 : Addr) (x1 : Addr) : entryFrame m #[(.ref x0), (.ref x1)] 2 = mkF m 0 #[.val (.ref x0), .val (.ref x1)] [] := by first | (simp [entryFrame, mkF, argsToLocals, Value.category, maxLocals]; done) | rfl
theorem ef_ceqd1_3 (m : MethodId) (x0 : Addr) (x1 : Addr) : entryFrame m #[(.ref x0), (.ref x1)] 3 = mkF m 0 #[.val (.ref x0), .val (.ref x1), .unset] [] := by first | (simp [entryFrame, mkF, argsToLocals, Value.category, maxLocals]; done) | rfl
theorem ef_csamd1_3 (m : MethodId) (x0 : Addr) (x1 : Addr) : entryFrame m #[(.ref x0), (.ref x1)] 2 = mkF m 0 #[.val (.ref x0), .val (.ref x1)] [] := by first | (simp [entryFrame, mkF, argsToLocals, Value.category, maxLocals]; done) | rfl
theorem ef_chsd1_3 (m : MethodId) (x0 : Addr) (x1 : Addr) : entryFrame m #[(.ref x0), (.ref x1)] 2 = mkF m 0 #[.val (.ref x0), .val (.ref x1)] [] := by first | (simp [entryFrame, mkF, argsToLocals, Value.category, maxLocals]; done) | rfl
theorem ef_cmis2_2 (m : MethodId) (x0 : Addr) (x1 : Addr) : entryFrame m #[(.ref x0), (.ref x1), (.int (2 : Int32))] 4 = mkF m 0 #[.val (.ref x0), .val (.ref x1), .val (.int (2 : Int32)), .unset] [] := by first | (simp [entryFrame, mkF, argsToLocals, Value.category, maxLocals]; done) | rfl
theorem ef_ceq2_2 (m : MethodId) (x0 : Addr) (x1 : Addr) : entryFrame m #[(.ref x0), (.ref x1)] 3 = mkF m 0 #[.val (.ref x0), .val (.ref x1), .unset] [] := by first | (simp [entryFrame, mkF, argsToLocals, Value.category, maxLocals]; done) | rfl
theorem ef_csam2_2 (m : MethodId) (x0 : Addr) (x1 : Addr) : entryFrame m #[(.ref x0), (.ref x1)] 2 = mkF m 0 #[.val (.ref x0), .val (.ref x1)] [] := by first | (simp [entryFrame, mkF, argsToLocals, Value.category, maxLocals]; done) | rfl
theorem ef_chs2_2 (m : MethodId) (x0 : Addr) (x1 : Addr) : entryFrame m #[(.ref x0), (.ref x1)] 2 = mkF m 0 #[.val (.ref x0), .val (.ref x1)] [] := by first | (simp [entryFrame, mkF, argsToLocals, Value.category, maxLocals]; done) | rfl
theorem ef_cmis2_1 (m : MethodId) (x0 : Addr) (x1 : Addr) : entryFrame m #[(.ref x0), (.ref x1), (.int (2 : Int32))] 4 = mkF m 0 #[.val (.ref x0), .val (.ref x1), .val (.int (2 : Int32)), .unset] [] := by first | (simp [entryFrame, mkF, argsToLocals, Value.category, maxLocals]; done) | rfl
theorem ef_ceq2_1 (m : MethodId) (x0 : Addr) (x1 : Addr) : entryFrame m #[(.ref x0), (.ref x1)] 3 = mkF m 0 #[.val (.ref x0), .val (.ref x1), .unset] [] := by first | (simp [entryFrame, mkF, argsToLocals, Value.category, maxLocals]; done) | rfl
theorem ef_csam2_1 (m : MethodId) (x0 : Addr) (x1 : Addr) : entryFrame m #[(.ref x0), (.ref x1)] 2 = mkF m 0 #[.val (.ref x0), .val (.ref x1)] [] := by first | (simp [entryFrame, mkF, argsToLocals, Value.category, maxLocals]; done) | rfl
theorem ef_chs2_1 (m : MethodId) (x0 : Addr) (x1 : Addr) : entryFrame m #[(.ref x0), (.ref x1)] 2 = mkF m 0 #[.val (.ref x0), .val (.ref x1)] [] := by first | (simp [entryFrame, mkF, argsToLocals, Value.category, maxLocals]; done) | rfl
theorem ef_cmis2_0 (m : MethodId) (x0 : Addr) (x1 : Addr) : entryFrame m #[(.ref x0), (.ref x1), (.int (2 : Int32))] 4 = mkF m 0 #[.val (.ref x0), .val (.ref x1), .val (.int (2 : Int32)), .unset] [] := by first | (simp [entryFrame, mkF, argsToLocals, Value.category, maxLocals]; done) | rfl
theorem ef_ceq2_0 (m : MethodId) (x0 : Addr) (x1 : Addr) : entryFrame m #[(.ref x0), (.ref x1)] 3 = mkF m 0 #[.val (.ref x0), .val (.ref x1), .unset] [] := by first | (simp [entryFrame, mkF, argsToLocals, Value.category, maxLocals]; done) | rfl
theorem ef_csam2_0 (m : MethodId) (x0 : Addr) (x1 : Addr) : entryFrame m #[(.ref x0), (.ref x1)] 2 = mkF m 0 #[.val (.ref x0), .val (.ref x1)] [] := by first | (simp [entryFrame, mkF, argsToLocals, Value.category, maxLocals]; done) | rfl
theorem ef_chs2_0 (m : MethodId) (x0 : Addr) (x1 : Addr) : entryFrame m #[(.ref x0), (.ref x1)] 2 = mkF m 0 #[.val (.ref x0), .val (.ref x1)] [] := by first | (simp [entryFrame, mkF, argsToLocals, Value.category, maxLocals]; done) | rfl
theorem ef_ceqd2_0 (m : MethodId) (x0 : Addr) (x1 : Addr) : entryFrame m #[(.ref x0), (.ref x1)] 3 = mkF m 0 #[.val (.ref x0), .val (.ref x1), .unset] [] := by first | (simp [entryFrame, mkF, argsToLocals, Value.category, maxLocals]; done) | rfl
theorem ef_csamd2_0 (m : MethodId) (x0 : Addr) (x1 : Addr) : entryFrame m #[(.ref x0), (.ref x1)] 2 = mkF m 0 #[.val (.ref x0), .val (.ref x1)] [] := by first | (simp [entryFrame, mkF, argsToLocals, Value.category, maxLocals]; done) | rfl
theorem ef_chsd2_0 (m : MethodId) (x0 : Addr) (x1 : Addr) : entryFrame m #[(.ref x0), (.ref x1)] 2 = mkF m 0 #[.val (.ref x0), .val (.ref x1)] [] := by first | (simp [entryFrame, mkF, argsToLocals, Value.category, maxLocals]; done) | rfl
theorem ef_ceqd2_1 (m : MethodId) (x0 : Addr) (x1 : Addr) : entryFrame m #[(.ref x0), (.ref x1)] 3 = mkF m 0 #[.val (.ref x0), .val (.ref x1), .unset] [] := by first | (simp [entryFrame, mkF, argsToLocals, Value.category, maxLocals]; done) | rfl
theorem ef_csamd2_1 (m : MethodId) (x0 : Addr) (x1 : Addr) : entryFrame m #[(.ref x0), (.ref x1)] 2 = mkF m 0 #[.val (.ref x0), .val (.ref x1)] [] := by first | (simp [entryFrame, mkF, argsToLocals, Value.category, maxLocals]; done) | rfl
theorem ef_chsd2_1 (m : MethodId) (x0 : Addr) (x1 : Addr) : entryFrame m #[(.ref x0), (.ref x1)] 2 = mkF m 0 #[.val (.ref x0), .val (.ref x1)] [] := by first | (simp [entryFrame, mkF, argsToLocals, Value.category, maxLocals]; done) | rfl
theorem ef_ceqd2_3 (m : MethodId) (x0 : Addr) (x1 : Addr) : entryFrame m #[(.ref x0), (.ref x1)] 3 = mkF m 0 #[.val (.ref x0), .val (.ref x1), .unset] [] := by first | (simp [entryFrame, mkF, argsToLocals, Value.category, maxLocals]; done) | rfl
theorem ef_csamd2_3 (m : MethodId) (x0 : Addr) (x1 : Addr) : entryFrame m #[(.ref x0), (.ref x1)] 2 = mkF m 0 #[.val (.ref x0), .val (.ref x1)] [] := by first | (simp [entryFrame, mkF, argsToLocals, Value.category, maxLocals]; done) | rfl
theorem ef_chsd2_3 (m : MethodId) (x0 : Addr) (x1 : Addr) : entryFrame m #[(.ref x0), (.ref x1)] 2 = mkF m 0 #[.val (.ref x0), .val (.ref x1)] [] := by first | (simp [entryFrame, mkF, argsToLocals, Value.category, maxLocals]; done) | rfl
theorem ef_cmis3_3 (m : MethodId) (x0 : Addr) (x1 : Addr) : entryFrame m #[(.ref x0), (.ref x1), (.int (3 : Int32))] 4 = mkF m 0 #[.val (.ref x0), .val (.ref x1), .val (.int (3 : Int32)), .unset] [] := by first | (simp [entryFrame, mkF, argsToLocals, Value.category, maxLocals]; done) | rfl
theorem ef_ceq3_3 (m : MethodId) (x0 : Addr) (x1 : Addr) : entryFrame m #[(.ref x0), (.ref x1)] 3 = mkF m 0 #[.val (.ref x0), .val (.ref x1), .unset] [] := by first | (simp [entryFrame, mkF, argsToLocals, Value.category, maxLocals]; done) | rfl
theorem ef_csam3_3 (m : MethodId) (x0 : Addr) (x1 : Addr) : entryFrame m #[(.ref x0), (.ref x1)] 2 = mkF m 0 #[.val (.ref x0), .val (.ref x1)] [] := by first | (simp [entryFrame, mkF, argsToLocals, Value.category, maxLocals]; done) | rfl
theorem ef_chs3_3 (m : MethodId) (x0 : Addr) (x1 : Addr) : entryFrame m #[(.ref x0), (.ref x1)] 2 = mkF m 0 #[.val (.ref x0), .val (.ref x1)] [] := by first | (simp [entryFrame, mkF, argsToLocals, Value.category, maxLocals]; done) | rfl
theorem ef_cmis3_2 (m : MethodId) (x0 : Addr) (x1 : Addr) : entryFrame m #[(.ref x0), (.ref x1), (.int (3 : Int32))] 4 = mkF m 0 #[.val (.ref x0), .val (.ref x1), .val (.int (3 : Int32)), .unset] [] := by first | (simp [entryFrame, mkF, argsToLocals, Value.category, maxLocals]; done) | rfl
theorem ef_ceq3_2 (m : MethodId) (x0 : Addr) (x1 : Addr) : entryFrame m #[(.ref x0), (.ref x1)] 3 = mkF m 0 #[.val (.ref x0), .val (.ref x1), .unset] [] := by first | (simp [entryFrame, mkF, argsToLocals, Value.category, maxLocals]; done) | rfl
theorem ef_csam3_2 (m : MethodId) (x0 : Addr) (x1 : Addr) : entryFrame m #[(.ref x0), (.ref x1)] 2 = mkF m 0 #[.val (.ref x0), .val (.ref x1)] [] := by first | (simp [entryFrame, mkF, argsToLocals, Value.category, maxLocals]; done) | rfl
theorem ef_chs3_2 (m : MethodId) (x0 : Addr) (x1 : Addr) : entryFrame m #[(.ref x0), (.ref x1)] 2 = mkF m 0 #[.val (.ref x0), .val (.ref x1)] [] := by first | (simp [entryFrame, mkF, argsToLocals, Value.category, maxLocals]; done) | rfl
theorem ef_cmis3_1 (m : MethodId) (x0 : Addr) (x1 : Addr) : entryFrame m #[(.ref x0), (.ref x1), (.int (3 : Int32))] 4 = mkF m 0 #[.val (.ref x0), .val (.ref x1), .val (.int (3 : Int32)), .unset] [] := by first | (simp [entryFrame, mkF, argsToLocals, Value.category, maxLocals]; done) | rfl
theorem ef_ceq3_1 (m : MethodId) (x0 : Addr) (x1 : Addr) : entryFrame m #[(.ref x0), (.ref x1)] 3 = mkF m 0 #[.val (.ref x0), .val (.ref x1), .unset] [] := by first | (simp [entryFrame, mkF, argsToLocals, Value.category, maxLocals]; done) | rfl
theorem ef_csam3_1 (m : MethodId) (x0 : Addr) (x1 : Addr) : entryFrame m #[(.ref x0), (.ref x1)] 2 = mkF m 0 #[.val (.ref x0), .val (.ref x1)] [] := by first | (simp [entryFrame, mkF, argsToLocals, Value.category, maxLocals]; done) | rfl
theorem ef_chs3_1 (m : MethodId) (x0 : Addr) (x1 : Addr) : entryFrame m #[(.ref x0), (.ref x1)] 2 = mkF m 0 #[.val (.ref x0), .val (.ref x1)] [] := by first | (simp [entryFrame, mkF, argsToLocals, Value.category, maxLocals]; done) | rfl
theorem ef_cmis3_0 (m : MethodId) (x0 : Addr) (x1 : Addr) : entryFrame m #[(.ref x0), (.ref x1), (.int (3 : Int32))] 4 = mkF m 0 #[.val (.ref x0), .val (.ref x1), .val (.int (3 : Int32)), .unset] [] := by first | (simp [entryFrame, mkF, argsToLocals, Value.category, maxLocals]; done) | rfl
theorem ef_ceq3_0 (m : MethodId) (x0 : Addr) (x1 : Addr) : entryFrame m #[(.ref x0), (.ref x1)] 3 = mkF m 0 #[.val (.ref x0), .val (.ref x1), .unset] [] := by first | (simp [entryFrame, mkF, argsToLocals, Value.category, maxLocals]; done) | rfl
theorem ef_csam3_0 (m : MethodId) (x0 : Addr) (x1 : Addr) : entryFrame m #[(.ref x0), (.ref x1)] 2 = mkF m 0 #[.val (.ref x0), .val (.ref x1)] [] := by first | (simp [entryFrame, mkF, argsToLocals, Value.category, maxLocals]; done) | rfl
theorem ef_chs3_0 (m : MethodId) (x0 : Addr) (x1 : Addr) : entryFrame m #[(.ref x0), (.ref x1)] 2 = mkF m 0 #[.val (.ref x0), .val (.ref x1)] [] := by first | (simp [entryFrame, mkF, argsToLocals, Value.category, maxLocals]; done) | rfl
theorem ef_ceqd3_0 (m : MethodId) (x0 : Addr) (x1 : Addr) : entryFrame m #[(.ref x0), (.ref x1)] 3 = mkF m 0 #[.val (.ref x0), .val (.ref x1), .unset] [] := by first | (simp [entryFrame, mkF, argsToLocals, Value.category, maxLocals]; done) | rfl
theorem ef_csamd3_0 (m : MethodId) (x0 : Addr) (x1 : Addr) : entryFrame m #[(.ref x0), (.ref x1)] 2 = mkF m 0 #[.val (.ref x0), .val (.ref x1)] [] := by first | (simp [entryFrame, mkF, argsToLocals, Value.category, maxLocals]; done) | rfl
theorem ef_chsd3_0 (m : MethodId) (x0 : Addr) (x1 : Addr) : entryFrame m #[(.ref x0), (.ref x1)] 2 = mkF m 0 #[.val (.ref x0), .val (.ref x1)] [] := by first | (simp [entryFrame, mkF, argsToLocals, Value.category, maxLocals]; done) | rfl
theorem ef_ceqd3_1 (m : MethodId) (x0 : Addr) (x1 : Addr) : entryFrame m #[(.ref x0), (.ref x1)] 3 = mkF m 0 #[.val (.ref x0), .val (.ref x1), .unset] [] := by first | (simp [entryFrame, mkF, argsToLocals, Value.category, maxLocals]; done) | rfl
theorem ef_csamd3_1 (m : MethodId) (x0 : Addr) (x1 : Addr) : entryFrame m #[(.ref x0), (.ref x1)] 2 = mkF m 0 #[.val (.ref x0), .val (.ref x1)] [] := by first | (simp [entryFrame, mkF, argsToLocals, Value.category, maxLocals]; done) | rfl
theorem ef_chsd3_1 (m : MethodId) (x0 : Addr) (x1 : Addr) : entryFrame m #[(.ref x0), (.ref x1)] 2 = mkF m 0 #[.val (.ref x0), .val (.ref x1)] [] := by first | (simp [entryFrame, mkF, argsToLocals, Value.category, maxLocals]; done) | rfl
theorem ef_ceqd3_2 (m : MethodId) (x0 : Addr) (x1 : Addr) : entryFrame m #[(.ref x0), (.ref x1)] 3 = mkF m 0 #[.val (.ref x0), .val (.ref x1), .unset] [] := by first | (simp [entryFrame, mkF, argsToLocals, Value.category, maxLocals]; done) | rfl
theorem ef_csamd3_2 (m : MethodId) (x0 : Addr) (x1 : Addr) : entryFrame m #[(.ref x0), (.ref x1)] 2 = mkF m 0 #[.val (.ref x0), .val (.ref x1)] [] := by first | (simp [entryFrame, mkF, argsToLocals, Value.category, maxLocals]; done) | rfl
theorem ef_chsd3_2 (m : MethodId) (x0 : Addr) (x1 : Addr) : entryFrame m #[(.ref x0), (.ref x1)] 2 = mkF m 0 #[.val (.ref x0), .val (.ref x1)] [] := by first | (simp [entryFrame, mkF, argsToLocals, Value.category, maxLocals]; done) | rfl
theorem ef_law0 (m : MethodId) (x0 : Int32) (x1 : Int32) (x2 : Int32) (x3 : Int32) (x4 : Int32) : entryFrame m #[(.int x0), (.int x1), (.int x2), (.int x3), (.int x4)] maxLocals = mkF m 0 #[.val (.int x0), .val (.int x1), .val (.int x2), .val (.int x3), .val (.int x4), .unset, .unset, .unset, .unset, .unset, .unset, .unset, .unset, .unset, .unset, .unset, .unset, .unset, .unset, .unset] [] := by first | (simp [entryFrame, mkF, argsToLocals, Value.category, maxLocals]; done) | rfl
theorem own_and3 (x : Int32) : x &&& (3 : Int32) = 0 ∨ x &&& (3 : Int32) = 1 ∨ x &&& (3 : Int32) = 2 ∨ x &&& (3 : Int32) = 3 := by
  have h := c_and x 3 (by decide)
  have e0 : (0 : Int32).toInt = 0 := rfl
  have e1 : (1 : Int32).toInt = 1 := rfl
  have e2 : (2 : Int32).toInt = 2 := rfl
  have e3 : (3 : Int32).toInt = 3 := rfl
  simp only [← Int32.toInt_inj]
  omega
def Q_make0 (Z : State) (b0 : Int32) (b1 : Int32) (b2 : Int32) (h0 : Heap) (vR : Option Value) (hR : Heap) (LR : List Loc) : Prop := ∃ b : Addr, ∃ kb : ClassId, vR = some (.ref b) ∧ Fr Z.heap.size LR ∧ Keep h0 hR [] ∧ h0.size ≤ b ∧ Arv Z hR b kb .byte (0 : Int32) [] (.int (0 : Int32)) ∧ Exa Z hR b "[B"
set_option maxRecDepth 65536 in
set_option maxHeartbeats 40000000 in
theorem make0 (l : Launch) (Z : State) (a0 : Array Value) (hw : ∀ d ∈ tables_1, d.before a0 Z = true) (b0 : Int32) (b1 : Int32) (b2 : Int32) (h0 : Heap) (O0 : Ext Z.heap h0) (hb0 : (b0.toInt8.toInt32) = b0) (hb1 : (b1.toInt8.toInt32) = b1) (hb2 : (b2.toInt8.toInt32) = b2) :
    Ctr l Z h0 (⟨"com/example/match_before_write/matchbeforewrite/RepresentationOfPinLaw", "make", "(IBBB)[B"⟩ : MethodName) method_2_code 4 (some (.array .byte)) [] ({ frames := 0, cells := 1, slots := 0, locals := 0 } : Room) #[(.int (0 : Int32)), (.int b0), (.int b1), (.int b2)] (Q_make0 Z b0 b1 b2 h0) := by
  refine enter (plainFor_of_name pn0) ?_
  intro pp ee ss mm below meth cc s₁ hx hby hml hZ hown hnm hret hlk X0 e0 hs0
  replace hown : ss.vm.findClass "com/example/match_before_write/matchbeforewrite/RepresentationOfPinLaw" = some mm.cls := hown
  refine Go.cast (congrArg s₁.setTop (ef_make0 mm b0 b1 b2)) ?_
  have N0 := Fr.nil Z.heap.size
  have KP := Keep.refl h0 []
  show Go pp ee below _ (s₁.setTop (mkF mm 0 #[.val (.int (0 : Int32)), .val (.int b0), .val (.int b1), .val (.int b2)] []))
  refine Go.iloadN X0 hx (hb hby d1_0) rfl (q := 1) rfl ?_
  refine Go.ifNo X0 hx (hb hby d1_1) (by decide) (q := 4) rfl ?_
  refine Go.iconst X0 hx (hb hby d1_4) (r := (0 : Int32)) rfl (q := 5) rfl ?_
  refine Go.newP X0 hx hZ (hb hby d1_5) (wd4 hw) e0 (by decide) (cap := 0) (by decide) (by decide) (by decide) (by decide) (ad := "[B") rfl (q := 7) rfl ?_
  intro b101 T101 h101 k101 X101 e101 q101 E101 V101 B101
  have g_b101 : Z.heap.size ≤ b101 := Nat.le_trans O0.1 (Nat.le_of_eq q101)
  have z_b101 : h0.size ≤ b101 := Nat.le_trans KP.1 (Nat.le_of_eq q101)
  have OE101 := ext_trans O0 E101
  replace KP := KP.ext E101
  replace V101 : Arv Z h101 b101 k101 .byte (0 : Int32) [] (.int (0 : Int32)) := V101
  exact Go.retA X101 hx hret hlk rfl rfl (hb hby d1_7) e101 (by decide) (by decide) ⟨b101, k101, rfl, N0, KP, z_b101, V101, B101⟩
def Q_make1 (Z : State) (b0 : Int32) (b1 : Int32) (b2 : Int32) (h0 : Heap) (vR : Option Value) (hR : Heap) (LR : List Loc) : Prop := ∃ b : Addr, ∃ kb : ClassId, vR = some (.ref b) ∧ Fr Z.heap.size LR ∧ Keep h0 hR [] ∧ h0.size ≤ b ∧ Arv Z hR b kb .byte (1 : Int32) [(.int b0)] (.int (0 : Int32)) ∧ Exa Z hR b "[B"
set_option maxRecDepth 65536 in
set_option maxHeartbeats 40000000 in
theorem make1 (l : Launch) (Z : State) (a0 : Array Value) (hw : ∀ d ∈ tables_1, d.before a0 Z = true) (b0 : Int32) (b1 : Int32) (b2 : Int32) (h0 : Heap) (O0 : Ext Z.heap h0) (hb0 : (b0.toInt8.toInt32) = b0) (hb1 : (b1.toInt8.toInt32) = b1) (hb2 : (b2.toInt8.toInt32) = b2) :
    Ctr l Z h0 (⟨"com/example/match_before_write/matchbeforewrite/RepresentationOfPinLaw", "make", "(IBBB)[B"⟩ : MethodName) method_2_code 4 (some (.array .byte)) [] ({ frames := 0, cells := 1, slots := 1, locals := 0 } : Room) #[(.int (1 : Int32)), (.int b0), (.int b1), (.int b2)] (Q_make1 Z b0 b1 b2 h0) := by
  refine enter (plainFor_of_name pn0) ?_
  intro pp ee ss mm below meth cc s₁ hx hby hml hZ hown hnm hret hlk X0 e0 hs0
  replace hown : ss.vm.findClass "com/example/match_before_write/matchbeforewrite/RepresentationOfPinLaw" = some mm.cls := hown
  refine Go.cast (congrArg s₁.setTop (ef_make1 mm b0 b1 b2)) ?_
  have N0 := Fr.nil Z.heap.size
  have KP := Keep.refl h0 []
  show Go pp ee below _ (s₁.setTop (mkF mm 0 #[.val (.int (1 : Int32)), .val (.int b0), .val (.int b1), .val (.int b2)] []))
  refine Go.iloadN X0 hx (hb hby d1_0) rfl (q := 1) rfl ?_
  refine Go.ifYes X0 hx (hb hby d1_1) (by decide) (q := 8) (by decide) (by decide) ?_
  refine Go.iloadN X0 hx (hb hby d1_8) rfl (q := 9) rfl ?_
  refine Go.iconst X0 hx (hb hby d1_9) (r := (1 : Int32)) rfl (q := 10) rfl ?_
  refine Go.icmpNo X0 hx (hb hby d1_10) (by decide) (q := 13) rfl ?_
  refine Go.iconst X0 hx (hb hby d1_13) (r := (1 : Int32)) rfl (q := 14) rfl ?_
  refine Go.newP X0 hx hZ (hb hby d1_14) (wd4 hw) e0 (by decide) (cap := 1) (by decide) (by decide) (by decide) (by decide) (ad := "[B") rfl (q := 16) rfl ?_
  intro b101 T101 h101 k101 X101 e101 q101 E101 V101 B101
  have g_b101 : Z.heap.size ≤ b101 := Nat.le_trans O0.1 (Nat.le_of_eq q101)
  have z_b101 : h0.size ≤ b101 := Nat.le_trans KP.1 (Nat.le_of_eq q101)
  have OE101 := ext_trans O0 E101
  replace KP := KP.ext E101
  replace V101 : Arv Z h101 b101 k101 .byte (1 : Int32) [(.int (0 : Int32))] (.int (0 : Int32)) := V101.pad (pad_rep [] (.int (0 : Int32)) 1)
  refine Go.dup X101 hx (hb hby d1_16) rfl (q := 17) rfl ?_
  refine Go.iconst X101 hx (hb hby d1_17) (r := (0 : Int32)) rfl (q := 18) rfl ?_
  refine Go.iloadN X101 hx (hb hby d1_18) rfl (q := 19) rfl ?_
  refine Go.bst X101 hx hZ e101 V101 ⟨by decide, by decide⟩ (i := 0) rfl (Nat.le_of_ble_eq_true rfl) (hb hby d1_19) ?_
  intro T102 h102 X102 e102 W102 V102
  rw [hb0] at V102
  replace V102 : Arv Z h102 b101 k101 .byte (1 : Int32) [(.int b0)] (.int (0 : Int32)) := V102
  have N102 := Fr.snoc X102 N0 g_b101
  replace B101 := B101.wr W102
  have OW102 := ext_wr OE101 W102 g_b101
  replace KP := KP.wr W102 (Or.inr z_b101)
  exact Go.retA X102 hx hret hlk rfl rfl (hb hby d1_20) e102 (by decide) (by decide) ⟨b101, k101, rfl, N102, KP, z_b101, V102, B101⟩
def Q_make2 (Z : State) (b0 : Int32) (b1 : Int32) (b2 : Int32) (h0 : Heap) (vR : Option Value) (hR : Heap) (LR : List Loc) : Prop := ∃ b : Addr, ∃ kb : ClassId, vR = some (.ref b) ∧ Fr Z.heap.size LR ∧ Keep h0 hR [] ∧ h0.size ≤ b ∧ Arv Z hR b kb .byte (2 : Int32) [(.int b0), (.int b1)] (.int (0 : Int32)) ∧ Exa Z hR b "[B"
set_option maxRecDepth 65536 in
set_option maxHeartbeats 40000000 in
theorem make2 (l : Launch) (Z : State) (a0 : Array Value) (hw : ∀ d ∈ tables_1, d.before a0 Z = true) (b0 : Int32) (b1 : Int32) (b2 : Int32) (h0 : Heap) (O0 : Ext Z.heap h0) (hb0 : (b0.toInt8.toInt32) = b0) (hb1 : (b1.toInt8.toInt32) = b1) (hb2 : (b2.toInt8.toInt32) = b2) :
    Ctr l Z h0 (⟨"com/example/match_before_write/matchbeforewrite/RepresentationOfPinLaw", "make", "(IBBB)[B"⟩ : MethodName) method_2_code 4 (some (.array .byte)) [] ({ frames := 0, cells := 1, slots := 2, locals := 0 } : Room) #[(.int (2 : Int32)), (.int b0), (.int b1), (.int b2)] (Q_make2 Z b0 b1 b2 h0) := by
  refine enter (plainFor_of_name pn0) ?_
  intro pp ee ss mm below meth cc s₁ hx hby hml hZ hown hnm hret hlk X0 e0 hs0
  replace hown : ss.vm.findClass "com/example/match_before_write/matchbeforewrite/RepresentationOfPinLaw" = some mm.cls := hown
  refine Go.cast (congrArg s₁.setTop (ef_make2 mm b0 b1 b2)) ?_
  have N0 := Fr.nil Z.heap.size
  have KP := Keep.refl h0 []
  show Go pp ee below _ (s₁.setTop (mkF mm 0 #[.val (.int (2 : Int32)), .val (.int b0), .val (.int b1), .val (.int b2)] []))
  refine Go.iloadN X0 hx (hb hby d1_0) rfl (q := 1) rfl ?_
  refine Go.ifYes X0 hx (hb hby d1_1) (by decide) (q := 8) (by decide) (by decide) ?_
  refine Go.iloadN X0 hx (hb hby d1_8) rfl (q := 9) rfl ?_
  refine Go.iconst X0 hx (hb hby d1_9) (r := (1 : Int32)) rfl (q := 10) rfl ?_
  refine Go.icmpYes X0 hx (hb hby d1_10) (by decide) (q := 21) (by decide) (by decide) ?_
  refine Go.iloadN X0 hx (hb hby d1_21) rfl (q := 22) rfl ?_
  refine Go.iconst X0 hx (hb hby d1_22) (r := (2 : Int32)) rfl (q := 23) rfl ?_
  refine Go.icmpNo X0 hx (hb hby d1_23) (by decide) (q := 26) rfl ?_
  refine Go.iconst X0 hx (hb hby d1_26) (r := (2 : Int32)) rfl (q := 27) rfl ?_
  refine Go.newP X0 hx hZ (hb hby d1_27) (wd4 hw) e0 (by decide) (cap := 2) (by decide) (by decide) (by decide) (by decide) (ad := "[B") rfl (q := 29) rfl ?_
  intro b101 T101 h101 k101 X101 e101 q101 E101 V101 B101
  have g_b101 : Z.heap.size ≤ b101 := Nat.le_trans O0.1 (Nat.le_of_eq q101)
  have z_b101 : h0.size ≤ b101 := Nat.le_trans KP.1 (Nat.le_of_eq q101)
  have OE101 := ext_trans O0 E101
  replace KP := KP.ext E101
  replace V101 : Arv Z h101 b101 k101 .byte (2 : Int32) [(.int (0 : Int32)), (.int (0 : Int32))] (.int (0 : Int32)) := V101.pad (pad_rep [] (.int (0 : Int32)) 2)
  refine Go.dup X101 hx (hb hby d1_29) rfl (q := 30) rfl ?_
  refine Go.iconst X101 hx (hb hby d1_30) (r := (0 : Int32)) rfl (q := 31) rfl ?_
  refine Go.iloadN X101 hx (hb hby d1_31) rfl (q := 32) rfl ?_
  refine Go.bst X101 hx hZ e101 V101 ⟨by decide, by decide⟩ (i := 0) rfl (Nat.le_of_ble_eq_true rfl) (hb hby d1_32) ?_
  intro T102 h102 X102 e102 W102 V102
  rw [hb0] at V102
  replace V102 : Arv Z h102 b101 k101 .byte (2 : Int32) [(.int b0), (.int (0 : Int32))] (.int (0 : Int32)) := V102
  have N102 := Fr.snoc X102 N0 g_b101
  replace B101 := B101.wr W102
  have OW102 := ext_wr OE101 W102 g_b101
  replace KP := KP.wr W102 (Or.inr z_b101)
  refine Go.dup X102 hx (hb hby d1_33) rfl (q := 34) rfl ?_
  refine Go.iconst X102 hx (hb hby d1_34) (r := (1 : Int32)) rfl (q := 35) rfl ?_
  refine Go.iloadN X102 hx (hb hby d1_35) rfl (q := 36) rfl ?_
  refine Go.bst X102 hx hZ e102 V102 ⟨by decide, by decide⟩ (i := 1) rfl (Nat.le_of_ble_eq_true rfl) (hb hby d1_36) ?_
  intro T103 h103 X103 e103 W103 V103
  rw [hb1] at V103
  replace V103 : Arv Z h103 b101 k101 .byte (2 : Int32) [(.int b0), (.int b1)] (.int (0 : Int32)) := V103
  have N103 := Fr.snoc X103 N102 g_b101
  replace B101 := B101.wr W103
  have OW103 := ext_wr OW102 W103 g_b101
  replace KP := KP.wr W103 (Or.inr z_b101)
  exact Go.retA X103 hx hret hlk rfl rfl (hb hby d1_37) e103 (by decide) (by decide) ⟨b101, k101, rfl, N103, KP, z_b101, V103, B101⟩
def Q_make3 (Z : State) (b0 : Int32) (b1 : Int32) (b2 : Int32) (h0 : Heap) (vR : Option Value) (hR : Heap) (LR : List Loc) : Prop := ∃ b : Addr, ∃ kb : ClassId, vR = some (.ref b) ∧ Fr Z.heap.size LR ∧ Keep h0 hR [] ∧ h0.size ≤ b ∧ Arv Z hR b kb .byte (3 : Int32) [(.int b0), (.int b1), (.int b2)] (.int (0 : Int32)) ∧ Exa Z hR b "[B"
set_option maxRecDepth 65536 in
set_option maxHeartbeats 40000000 in
theorem make3 (l : Launch) (Z : State) (a0 : Array Value) (hw : ∀ d ∈ tables_1, d.before a0 Z = true) (b0 : Int32) (b1 : Int32) (b2 : Int32) (h0 : Heap) (O0 : Ext Z.heap h0) (hb0 : (b0.toInt8.toInt32) = b0) (hb1 : (b1.toInt8.toInt32) = b1) (hb2 : (b2.toInt8.toInt32) = b2) :
    Ctr l Z h0 (⟨"com/example/match_before_write/matchbeforewrite/RepresentationOfPinLaw", "make", "(IBBB)[B"⟩ : MethodName) method_2_code 4 (some (.array .byte)) [] ({ frames := 0, cells := 1, slots := 3, locals := 0 } : Room) #[(.int (3 : Int32)), (.int b0), (.int b1), (.int b2)] (Q_make3 Z b0 b1 b2 h0) := by
  refine enter (plainFor_of_name pn0) ?_
  intro pp ee ss mm below meth cc s₁ hx hby hml hZ hown hnm hret hlk X0 e0 hs0
  replace hown : ss.vm.findClass "com/example/match_before_write/matchbeforewrite/RepresentationOfPinLaw" = some mm.cls := hown
  refine Go.cast (congrArg s₁.setTop (ef_make3 mm b0 b1 b2)) ?_
  have N0 := Fr.nil Z.heap.size
  have KP := Keep.refl h0 []
  show Go pp ee below _ (s₁.setTop (mkF mm 0 #[.val (.int (3 : Int32)), .val (.int b0), .val (.int b1), .val (.int b2)] []))
  refine Go.iloadN X0 hx (hb hby d1_0) rfl (q := 1) rfl ?_
  refine Go.ifYes X0 hx (hb hby d1_1) (by decide) (q := 8) (by decide) (by decide) ?_
  refine Go.iloadN X0 hx (hb hby d1_8) rfl (q := 9) rfl ?_
  refine Go.iconst X0 hx (hb hby d1_9) (r := (1 : Int32)) rfl (q := 10) rfl ?_
  refine Go.icmpYes X0 hx (hb hby d1_10) (by decide) (q := 21) (by decide) (by decide) ?_
  refine Go.iloadN X0 hx (hb hby d1_21) rfl (q := 22) rfl ?_
  refine Go.iconst X0 hx (hb hby d1_22) (r := (2 : Int32)) rfl (q := 23) rfl ?_
  refine Go.icmpYes X0 hx (hb hby d1_23) (by decide) (q := 38) (by decide) (by decide) ?_
  refine Go.iconst X0 hx (hb hby d1_38) (r := (3 : Int32)) rfl (q := 39) rfl ?_
  refine Go.newP X0 hx hZ (hb hby d1_39) (wd4 hw) e0 (by decide) (cap := 3) (by decide) (by decide) (by decide) (by decide) (ad := "[B") rfl (q := 41) rfl ?_
  intro b101 T101 h101 k101 X101 e101 q101 E101 V101 B101
  have g_b101 : Z.heap.size ≤ b101 := Nat.le_trans O0.1 (Nat.le_of_eq q101)
  have z_b101 : h0.size ≤ b101 := Nat.le_trans KP.1 (Nat.le_of_eq q101)
  have OE101 := ext_trans O0 E101
  replace KP := KP.ext E101
  replace V101 : Arv Z h101 b101 k101 .byte (3 : Int32) [(.int (0 : Int32)), (.int (0 : Int32)), (.int (0 : Int32))] (.int (0 : Int32)) := V101.pad (pad_rep [] (.int (0 : Int32)) 3)
  refine Go.dup X101 hx (hb hby d1_41) rfl (q := 42) rfl ?_
  refine Go.iconst X101 hx (hb hby d1_42) (r := (0 : Int32)) rfl (q := 43) rfl ?_
  refine Go.iloadN X101 hx (hb hby d1_43) rfl (q := 44) rfl ?_
  refine Go.bst X101 hx hZ e101 V101 ⟨by decide, by decide⟩ (i := 0) rfl (Nat.le_of_ble_eq_true rfl) (hb hby d1_44) ?_
  intro T102 h102 X102 e102 W102 V102
  rw [hb0] at V102
  replace V102 : Arv Z h102 b101 k101 .byte (3 : Int32) [(.int b0), (.int (0 : Int32)), (.int (0 : Int32))] (.int (0 : Int32)) := V102
  have N102 := Fr.snoc X102 N0 g_b101
  replace B101 := B101.wr W102
  have OW102 := ext_wr OE101 W102 g_b101
  replace KP := KP.wr W102 (Or.inr z_b101)
  refine Go.dup X102 hx (hb hby d1_45) rfl (q := 46) rfl ?_
  refine Go.iconst X102 hx (hb hby d1_46) (r := (1 : Int32)) rfl (q := 47) rfl ?_
  refine Go.iloadN X102 hx (hb hby d1_47) rfl (q := 48) rfl ?_
  refine Go.bst X102 hx hZ e102 V102 ⟨by decide, by decide⟩ (i := 1) rfl (Nat.le_of_ble_eq_true rfl) (hb hby d1_48) ?_
  intro T103 h103 X103 e103 W103 V103
  rw [hb1] at V103
  replace V103 : Arv Z h103 b101 k101 .byte (3 : Int32) [(.int b0), (.int b1), (.int (0 : Int32))] (.int (0 : Int32)) := V103
  have N103 := Fr.snoc X103 N102 g_b101
  replace B101 := B101.wr W103
  have OW103 := ext_wr OW102 W103 g_b101
  replace KP := KP.wr W103 (Or.inr z_b101)
  refine Go.dup X103 hx (hb hby d1_49) rfl (q := 50) rfl ?_
  refine Go.iconst X103 hx (hb hby d1_50) (r := (2 : Int32)) rfl (q := 51) rfl ?_
  refine Go.iloadN X103 hx (hb hby d1_51) rfl (q := 52) rfl ?_
  refine Go.bst X103 hx hZ e103 V103 ⟨by decide, by decide⟩ (i := 2) rfl (Nat.le_of_ble_eq_true rfl) (hb hby d1_52) ?_
  intro T104 h104 X104 e104 W104 V104
  rw [hb2] at V104
  replace V104 : Arv Z h104 b101 k101 .byte (3 : Int32) [(.int b0), (.int b1), (.int b2)] (.int (0 : Int32)) := V104
  have N104 := Fr.snoc X104 N103 g_b101
  replace B101 := B101.wr W104
  have OW104 := ext_wr OW103 W104 g_b101
  replace KP := KP.wr W104 (Or.inr z_b101)
  exact Go.retA X104 hx hret hlk rfl rfl (hb hby d1_53) e104 (by decide) (by decide) ⟨b101, k101, rfl, N104, KP, z_b101, V104, B101⟩
def Q_crep (Z : State) (o : Addr) (cn : Addr) (h0 : Heap) (vR : Option Value) (hR : Heap) (LR : List Loc) : Prop := vR = none ∧ Fr Z.heap.size LR ∧ Keep h0 hR [o] ∧ Fld Z hR o "com/example/match_before_write/matchbeforewrite/Representation" "content" "[B" (.ref cn) ∧ Fld Z hR o "com/example/match_before_write/matchbeforewrite/Representation" "lastModified" "Ljava/time/Instant;" .null ∧ Fld Z hR o "com/example/match_before_write/matchbeforewrite/Representation" "sharesItsSecond" "Z" (.int (0 : Int32)) ∧ Fld Z hR o "com/example/match_before_write/matchbeforewrite/Representation" "removal" "Z" (.int (0 : Int32))
set_option maxRecDepth 65536 in
set_option maxHeartbeats 40000000 in
theorem crep (l : Launch) (Z : State) (a0 : Array Value) (hw : ∀ d ∈ tables_1, d.before a0 Z = true) (o : Addr) (cn : Addr) (h0 : Heap) (O0 : Ext Z.heap h0) (E : Exa Z h0 o "com/example/match_before_write/matchbeforewrite/Representation") (F1 : Fld Z h0 o "com/example/match_before_write/matchbeforewrite/Representation" "content" "[B" .null) (F2 : Fld Z h0 o "com/example/match_before_write/matchbeforewrite/Representation" "tag" "Lcom/example/match_before_write/matchbeforewrite/EntityTag;" .null) (F3 : Fld Z h0 o "com/example/match_before_write/matchbeforewrite/Representation" "lastModified" "Ljava/time/Instant;" .null) (F4 : Fld Z h0 o "com/example/match_before_write/matchbeforewrite/Representation" "sharesItsSecond" "Z" (.int (0 : Int32))) (F5 : Fld Z h0 o "com/example/match_before_write/matchbeforewrite/Representation" "removal" "Z" (.int (0 : Int32))) (g : Z.heap.size ≤ o) :
    Ctr l Z h0 (⟨"com/example/match_before_write/matchbeforewrite/Representation", "<init>", "([BLcom/example/match_before_write/matchbeforewrite/EntityTag;Ljava/time/Instant;ZZ)V"⟩ : MethodName) prog_13_method_1_code 6 none [] ({ frames := 1, cells := 0, slots := 0, locals := 12 } : Room) #[(.ref o), (.ref cn), .null, .null, (.int (0 : Int32)), (.int (0 : Int32))] (Q_crep Z o cn h0) := by
  refine enter (plainFor_of_name pn1) ?_
  intro pp ee ss mm below meth cc s₁ hx hby hml hZ hown hnm hret hlk X0 e0 hs0
  replace hown : ss.vm.findClass "com/example/match_before_write/matchbeforewrite/Representation" = some mm.cls := hown
  refine Go.cast (congrArg s₁.setTop (ef_crep mm o cn)) ?_
  have N0 := Fr.nil Z.heap.size
  have KP := Keep.refl h0 [o]
  show Go pp ee below _ (s₁.setTop (mkF mm 0 #[.val (.ref o), .val (.ref cn), .val .null, .val .null, .val (.int (0 : Int32)), .val (.int (0 : Int32))] []))
  refine Go.aloadN X0 hx (hb hby d3_0) rfl rfl (q := 1) rfl ?_
  refine Go.initO X0 hx hZ hown (wd23 hw) (wd24 hw) (wd25 hw) e0 (by rw [hml]; rfl) (hb hby d3_1) (by decide) (W := 0) (by exact Nat.le_refl _) (by decide) (q := 4) rfl ?_
  intro T101 X101 e101
  refine Go.aloadN X101 hx (hb hby d3_4) rfl rfl (q := 5) rfl ?_
  refine Go.aloadN X101 hx (hb hby d3_5) rfl rfl (q := 6) rfl ?_
  refine Go.putF X101 hx hZ hown (host := "") (Or.inl (wd26 hw)) Via.refl e101 F1 E (Or.inr ⟨(wd27 hw), rfl, hnm⟩) (wd10 hw) (ty := (.array .byte)) (by decide) rfl rfl (hb hby d3_6) (q := 9) rfl ?_
  intro T102 h102 X102 e102 W102 F102
  have N102 := Fr.snoc X102 N0 g
  replace E := E.wr W102
  replace F2 := F2.other W102 (Or.inr (slot_ne (Or.inl (wd29 hw)) (Or.inr (wd27 hw)) (by decide) (t := (.object "com/example/match_before_write/matchbeforewrite/EntityTag")) (t' := (.array .byte)) (by decide) (by decide)))
  replace F3 := F3.other W102 (Or.inr (slot_ne (Or.inr (wd31 hw)) (Or.inr (wd27 hw)) (by decide) (t := (.object "java/time/Instant")) (t' := (.array .byte)) (by decide) (by decide)))
  replace F4 := F4.other W102 (Or.inr (slot_ne (Or.inr (wd33 hw)) (Or.inr (wd27 hw)) (by decide) (t := .boolean) (t' := (.array .byte)) (by decide) (by decide)))
  replace F5 := F5.other W102 (Or.inr (slot_ne (Or.inr (wd35 hw)) (Or.inr (wd27 hw)) (by decide) (t := .boolean) (t' := (.array .byte)) (by decide) (by decide)))
  have OW102 := ext_wr O0 W102 g
  replace KP := KP.wr W102 (Or.inl (List.mem_of_getElem? (i := 0) rfl))
  refine Go.aloadN X102 hx (hb hby d3_9) rfl rfl (q := 10) rfl ?_
  refine Go.aloadN X102 hx (hb hby d3_10) rfl rfl (q := 11) rfl ?_
  refine Go.putF X102 hx hZ hown (host := "") (Or.inl (wd28 hw)) Via.refl e102 F2 E (Or.inl (wd29 hw)) (wd10 hw) (ty := (.object "com/example/match_before_write/matchbeforewrite/EntityTag")) (by decide) rfl rfl (hb hby d3_11) (q := 14) rfl ?_
  intro T103 h103 X103 e103 W103 F103
  have N103 := Fr.snoc X103 N102 g
  replace E := E.wr W103
  replace F3 := F3.other W103 (Or.inr (slot_ne (Or.inr (wd31 hw)) (Or.inl (wd29 hw)) (by decide) (t := (.object "java/time/Instant")) (t' := (.object "com/example/match_before_write/matchbeforewrite/EntityTag")) (by decide) (by decide)))
  replace F4 := F4.other W103 (Or.inr (slot_ne (Or.inr (wd33 hw)) (Or.inl (wd29 hw)) (by decide) (t := .boolean) (t' := (.object "com/example/match_before_write/matchbeforewrite/EntityTag")) (by decide) (by decide)))
  replace F5 := F5.other W103 (Or.inr (slot_ne (Or.inr (wd35 hw)) (Or.inl (wd29 hw)) (by decide) (t := .boolean) (t' := (.object "com/example/match_before_write/matchbeforewrite/EntityTag")) (by decide) (by decide)))
  replace F102 := F102.other W103 (Or.inr (slot_ne (Or.inr (wd27 hw)) (Or.inl (wd29 hw)) (by decide) (t := (.array .byte)) (t' := (.object "com/example/match_before_write/matchbeforewrite/EntityTag")) (by decide) (by decide)))
  have OW103 := ext_wr OW102 W103 g
  replace KP := KP.wr W103 (Or.inl (List.mem_of_getElem? (i := 0) rfl))
  refine Go.aloadN X103 hx (hb hby d3_14) rfl rfl (q := 15) rfl ?_
  refine Go.aloadN X103 hx (hb hby d3_15) rfl rfl (q := 16) rfl ?_
  refine Go.putF X103 hx hZ hown (host := "") (Or.inl (wd30 hw)) Via.refl e103 F3 E (Or.inr ⟨(wd31 hw), rfl, hnm⟩) (wd10 hw) (ty := (.object "java/time/Instant")) (by decide) rfl rfl (hb hby d3_16) (q := 19) rfl ?_
  intro T104 h104 X104 e104 W104 F104
  have N104 := Fr.snoc X104 N103 g
  replace E := E.wr W104
  replace F4 := F4.other W104 (Or.inr (slot_ne (Or.inr (wd33 hw)) (Or.inr (wd31 hw)) (by decide) (t := .boolean) (t' := (.object "java/time/Instant")) (by decide) (by decide)))
  replace F5 := F5.other W104 (Or.inr (slot_ne (Or.inr (wd35 hw)) (Or.inr (wd31 hw)) (by decide) (t := .boolean) (t' := (.object "java/time/Instant")) (by decide) (by decide)))
  replace F102 := F102.other W104 (Or.inr (slot_ne (Or.inr (wd27 hw)) (Or.inr (wd31 hw)) (by decide) (t := (.array .byte)) (t' := (.object "java/time/Instant")) (by decide) (by decide)))
  replace F103 := F103.other W104 (Or.inr (slot_ne (Or.inl (wd29 hw)) (Or.inr (wd31 hw)) (by decide) (t := (.object "com/example/match_before_write/matchbeforewrite/EntityTag")) (t' := (.object "java/time/Instant")) (by decide) (by decide)))
  have OW104 := ext_wr OW103 W104 g
  replace KP := KP.wr W104 (Or.inl (List.mem_of_getElem? (i := 0) rfl))
  refine Go.aloadN X104 hx (hb hby d3_19) rfl rfl (q := 20) rfl ?_
  refine Go.iload X104 hx (hb hby d3_20) rfl (q := 22) rfl ?_
  refine Go.putF X104 hx hZ hown (host := "") (Or.inl (wd32 hw)) Via.refl e104 F4 E (Or.inr ⟨(wd33 hw), rfl, hnm⟩) (wd10 hw) (ty := .boolean) (by decide) rfl rfl (hb hby d3_22) (q := 25) rfl ?_
  intro T105 h105 X105 e105 W105 F105
  have N105 := Fr.snoc X105 N104 g
  replace E := E.wr W105
  replace F5 := F5.other W105 (Or.inr (slot_ne (Or.inr (wd35 hw)) (Or.inr (wd33 hw)) (by decide) (t := .boolean) (t' := .boolean) (by decide) (by decide)))
  replace F102 := F102.other W105 (Or.inr (slot_ne (Or.inr (wd27 hw)) (Or.inr (wd33 hw)) (by decide) (t := (.array .byte)) (t' := .boolean) (by decide) (by decide)))
  replace F103 := F103.other W105 (Or.inr (slot_ne (Or.inl (wd29 hw)) (Or.inr (wd33 hw)) (by decide) (t := (.object "com/example/match_before_write/matchbeforewrite/EntityTag")) (t' := .boolean) (by decide) (by decide)))
  replace F104 := F104.other W105 (Or.inr (slot_ne (Or.inr (wd31 hw)) (Or.inr (wd33 hw)) (by decide) (t := (.object "java/time/Instant")) (t' := .boolean) (by decide) (by decide)))
  have OW105 := ext_wr OW104 W105 g
  replace KP := KP.wr W105 (Or.inl (List.mem_of_getElem? (i := 0) rfl))
  refine Go.aloadN X105 hx (hb hby d3_25) rfl rfl (q := 26) rfl ?_
  refine Go.iload X105 hx (hb hby d3_26) rfl (q := 28) rfl ?_
  refine Go.putF X105 hx hZ hown (host := "") (Or.inl (wd34 hw)) Via.refl e105 F5 E (Or.inr ⟨(wd35 hw), rfl, hnm⟩) (wd10 hw) (ty := .boolean) (by decide) rfl rfl (hb hby d3_28) (q := 31) rfl ?_
  intro T106 h106 X106 e106 W106 F106
  have N106 := Fr.snoc X106 N105 g
  replace E := E.wr W106
  replace F102 := F102.other W106 (Or.inr (slot_ne (Or.inr (wd27 hw)) (Or.inr (wd35 hw)) (by decide) (t := (.array .byte)) (t' := .boolean) (by decide) (by decide)))
  replace F103 := F103.other W106 (Or.inr (slot_ne (Or.inl (wd29 hw)) (Or.inr (wd35 hw)) (by decide) (t := (.object "com/example/match_before_write/matchbeforewrite/EntityTag")) (t' := .boolean) (by decide) (by decide)))
  replace F104 := F104.other W106 (Or.inr (slot_ne (Or.inr (wd31 hw)) (Or.inr (wd35 hw)) (by decide) (t := (.object "java/time/Instant")) (t' := .boolean) (by decide) (by decide)))
  replace F105 := F105.other W106 (Or.inr (slot_ne (Or.inr (wd33 hw)) (Or.inr (wd35 hw)) (by decide) (t := .boolean) (t' := .boolean) (by decide) (by decide)))
  have OW106 := ext_wr OW105 W106 g
  replace KP := KP.wr W106 (Or.inl (List.mem_of_getElem? (i := 0) rfl))
  exact Go.retV X106 hx hret hlk (hb hby d3_31) e106 (by decide) (by decide) ⟨rfl, N106, KP, F102, F104, F105, F106⟩
def Q_of0 (Z : State) (a : Addr) (ka : ClassId) (h0 : Heap) (vR : Option Value) (hR : Heap) (LR : List Loc) : Prop := ∃ b : Addr, ∃ cn : Addr, ∃ kc : ClassId, vR = some (.ref b) ∧ Fr Z.heap.size LR ∧ Keep h0 hR [] ∧ h0.size ≤ b ∧ h0.size ≤ cn ∧ Exa Z hR b "com/example/match_before_write/matchbeforewrite/Representation" ∧ Fld Z hR b "com/example/match_before_write/matchbeforewrite/Representation" "content" "[B" (.ref cn) ∧ Arv Z hR cn kc .byte (0 : Int32) [] (.int (0 : Int32)) ∧ Fld Z hR b "com/example/match_before_write/matchbeforewrite/Representation" "lastModified" "Ljava/time/Instant;" .null ∧ Fld Z hR b "com/example/match_before_write/matchbeforewrite/Representation" "sharesItsSecond" "Z" (.int (0 : Int32)) ∧ Fld Z hR b "com/example/match_before_write/matchbeforewrite/Representation" "removal" "Z" (.int (0 : Int32))
set_option maxRecDepth 65536 in
set_option maxHeartbeats 40000000 in
theorem of0 (l : Launch) (Z : State) (a0 : Array Value) (hw : ∀ d ∈ tables_1, d.before a0 Z = true) (a : Addr) (ka : ClassId) (h0 : Heap) (O0 : Ext Z.heap h0) (Va : Arv Z h0 a ka .byte (0 : Int32) [] (.int (0 : Int32))) (Ea : Exa Z h0 a "[B") :
    Ctr l Z h0 (⟨"com/example/match_before_write/matchbeforewrite/Representation", "of", "([B)Lcom/example/match_before_write/matchbeforewrite/Representation;"⟩ : MethodName) prog_13_method_2_code 1 (some (.object "com/example/match_before_write/matchbeforewrite/Representation")) [] ({ frames := 2, cells := 2, slots := 6, locals := 30 } : Room) #[(.ref a)] (Q_of0 Z a ka h0) := by
  refine enter (plainFor_of_name pn1) ?_
  intro pp ee ss mm below meth cc s₁ hx hby hml hZ hown hnm hret hlk X0 e0 hs0
  replace hown : ss.vm.findClass "com/example/match_before_write/matchbeforewrite/Representation" = some mm.cls := hown
  refine Go.cast (congrArg s₁.setTop (ef_of0 mm a)) ?_
  have N0 := Fr.nil Z.heap.size
  have KP := Keep.refl h0 []
  show Go pp ee below _ (s₁.setTop (mkF mm 0 #[.val (.ref a)] []))
  refine Go.newO X0 hx hZ hown (wd9 hw) (wd10 hw) (wd7 hw) e0 (hb hby d2_0) (by decide) (by decide) (q := 3) rfl ?_
  intro b101 T101 h101 X101 e101 q101 E101 A101 D101 U101
  have ne_a_b101 : a ≠ b101 := ne_new Va.lt (Nat.le_of_eq q101)
  have g_b101 : Z.heap.size ≤ b101 := Nat.le_trans O0.1 (Nat.le_of_eq q101)
  have z_b101 : h0.size ≤ b101 := Nat.le_trans KP.1 (Nat.le_of_eq q101)
  replace Va := Va.ext E101
  replace Ea := Ea.ext E101
  have OE101 := ext_trans O0 E101
  replace KP := KP.ext E101
  have F101_content : Fld Z h101 b101 "com/example/match_before_write/matchbeforewrite/Representation" "content" "[B" .null := D101 (Or.inr (wd27 hw)) (ty := (.array .byte)) (by decide)
  have F101_tag : Fld Z h101 b101 "com/example/match_before_write/matchbeforewrite/Representation" "tag" "Lcom/example/match_before_write/matchbeforewrite/EntityTag;" .null := D101 (Or.inl (wd29 hw)) (ty := (.object "com/example/match_before_write/matchbeforewrite/EntityTag")) (by decide)
  have F101_lastModified : Fld Z h101 b101 "com/example/match_before_write/matchbeforewrite/Representation" "lastModified" "Ljava/time/Instant;" .null := D101 (Or.inr (wd31 hw)) (ty := (.object "java/time/Instant")) (by decide)
  have F101_sharesItsSecond : Fld Z h101 b101 "com/example/match_before_write/matchbeforewrite/Representation" "sharesItsSecond" "Z" (.int (0 : Int32)) := D101 (Or.inr (wd33 hw)) (ty := .boolean) (by decide)
  have F101_removal : Fld Z h101 b101 "com/example/match_before_write/matchbeforewrite/Representation" "removal" "Z" (.int (0 : Int32)) := D101 (Or.inr (wd35 hw)) (ty := .boolean) (by decide)
  clear D101
  refine Go.dup X101 hx (hb hby d2_3) rfl (q := 4) rfl ?_
  refine Go.aloadN X101 hx (hb hby d2_4) rfl rfl (q := 5) rfl ?_
  obtain ⟨T102, h102, X102, e102, E102, V102, B102, st102⟩ := cloneH X101 hx hZ hown (wd11 hw) (wd12 hw) (wd16 hw) (wd14 hw) (wd15 hw) (wd17 hw) e101 Va.arh Ea (g := (mkF mm 5 #[.val (.ref a)] [(.ref a), (.ref b101), (.ref b101)])) rfl (by rw [hml]; rfl) rfl (hb hby d2_5) (by decide) (W := 2) (cap := 0) (by show 2 * 0 + _ ≤ _; exact Nat.le_of_eq rfl) (by decide) (by decide) (by decide) (by decide)
  obtain ⟨b102, q102⟩ : ∃ z, z = h101.size := ⟨_, rfl⟩
  rw [← q102] at V102 B102 st102
  refine Go.by st102 ?_
  have ne_a_b102 : a ≠ b102 := ne_new Va.lt (Nat.le_of_eq q102.symm)
  have ne_b101_b102 : b101 ≠ b102 := ne_new A101.lt (Nat.le_of_eq q102.symm)
  have g_b102 : Z.heap.size ≤ b102 := Nat.le_trans OE101.1 (Nat.le_of_eq q102.symm)
  have z_b102 : h0.size ≤ b102 := Nat.le_trans KP.1 (Nat.le_of_eq q102.symm)
  replace Va := Va.ext E102
  replace Ea := Ea.ext E102
  replace A101 := A101.ext E102
  replace F101_content := F101_content.ext E102
  replace F101_tag := F101_tag.ext E102
  replace F101_lastModified := F101_lastModified.ext E102
  replace F101_sharesItsSecond := F101_sharesItsSecond.ext E102
  replace F101_removal := F101_removal.ext E102
  have OE102 := ext_trans OE101 E102
  replace KP := KP.ext E102
  replace V102 : Arv Z h102 b102 ka .byte (0 : Int32) [] (.int (0 : Int32)) := V102
  show Go pp ee below _ (T102.setTop (mkF mm 8 #[.val (.ref a)] [(.ref b102), (.ref b101), (.ref b101)]))
  refine Go.castY X102 hx hZ hown (wd18 hw) e102 (Ins.self B102) (hb hby d2_8) (q := 11) rfl ?_
  intro T103 X103 e103
  refine Go.aconst_null X103 hx (hb hby d2_11) (q := 12) rfl ?_
  refine Go.aconst_null X103 hx (hb hby d2_12) (q := 13) rfl ?_
  refine Go.iconst X103 hx (hb hby d2_13) (r := (0 : Int32)) rfl (q := 14) rfl ?_
  refine Go.iconst X103 hx (hb hby d2_14) (r := (0 : Int32)) rfl (q := 15) rfl ?_
  refine Go.init X103 hx hZ hown rfl (wd20 hw) (wd21 hw) (wd7 hw) (wd22 hw) (by decide) (crep l Z a0 hw b101 b102 h102 OE102 A101 F101_content F101_tag F101_lastModified F101_sharesItsSecond F101_removal g_b101) e103 (by rw [hml]; rfl) (hb hby d2_15) (argsL := [(.ref b102), .null, .null, (.int (0 : Int32)), (.int (0 : Int32))]) (rest := [(.ref b101)]) (lenOf pd0 rfl) rfl rfl (W := 1) (by first | exact Nat.le_refl _ | decide) (by decide) (by decide) (by decide) (by decide) ?_
  intro v104 T104 L104 X104 hQ104
  obtain ⟨h104, e104⟩ : ∃ z, T104.heap = z := ⟨_, rfl⟩
  rw [e104] at hQ104
  obtain ⟨rfl, N104q, K104, P104_0, P104_1, P104_2, P104_3⟩ := hQ104
  have N104 := Fr.app N0 N104q
  replace Va := Va.keep K104 (ninS ne_a_b101 nin0)
  replace Ea := Ea.keep K104
  replace A101 := A101.keep K104
  replace B102 := B102.keep K104
  replace V102 := V102.keep K104 (ninS (Ne.symm ne_b101_b102) nin0)
  have OK104 := ext_keep OE102 K104 (allS g_b101 all0)
  replace KP := KP.trans K104 (allS (Or.inr z_b101) all0)
  exact Go.retA X104 hx hret hlk rfl rfl (hb hby d2_18) e104 (by decide) (by decide) ⟨b101, b102, ka, rfl, N104, KP, z_b101, z_b102, A101, P104_0, V102, P104_1, P104_2, P104_3⟩
def Q_of1 (Z : State) (a : Addr) (ka : ClassId) (x0 : Int32) (h0 : Heap) (vR : Option Value) (hR : Heap) (LR : List Loc) : Prop := ∃ b : Addr, ∃ cn : Addr, ∃ kc : ClassId, vR = some (.ref b) ∧ Fr Z.heap.size LR ∧ Keep h0 hR [] ∧ h0.size ≤ b ∧ h0.size ≤ cn ∧ Exa Z hR b "com/example/match_before_write/matchbeforewrite/Representation" ∧ Fld Z hR b "com/example/match_before_write/matchbeforewrite/Representation" "content" "[B" (.ref cn) ∧ Arv Z hR cn kc .byte (1 : Int32) [(.int x0)] (.int (0 : Int32)) ∧ Fld Z hR b "com/example/match_before_write/matchbeforewrite/Representation" "lastModified" "Ljava/time/Instant;" .null ∧ Fld Z hR b "com/example/match_before_write/matchbeforewrite/Representation" "sharesItsSecond" "Z" (.int (0 : Int32)) ∧ Fld Z hR b "com/example/match_before_write/matchbeforewrite/Representation" "removal" "Z" (.int (0 : Int32))
set_option maxRecDepth 65536 in
set_option maxHeartbeats 40000000 in
theorem of1 (l : Launch) (Z : State) (a0 : Array Value) (hw : ∀ d ∈ tables_1, d.before a0 Z = true) (a : Addr) (ka : ClassId) (x0 : Int32) (h0 : Heap) (O0 : Ext Z.heap h0) (Va : Arv Z h0 a ka .byte (1 : Int32) [(.int x0)] (.int (0 : Int32))) (Ea : Exa Z h0 a "[B") :
    Ctr l Z h0 (⟨"com/example/match_before_write/matchbeforewrite/Representation", "of", "([B)Lcom/example/match_before_write/matchbeforewrite/Representation;"⟩ : MethodName) prog_13_method_2_code 1 (some (.object "com/example/match_before_write/matchbeforewrite/Representation")) [] ({ frames := 2, cells := 2, slots := 7, locals := 30 } : Room) #[(.ref a)] (Q_of1 Z a ka x0 h0) := by
  refine enter (plainFor_of_name pn1) ?_
  intro pp ee ss mm below meth cc s₁ hx hby hml hZ hown hnm hret hlk X0 e0 hs0
  replace hown : ss.vm.findClass "com/example/match_before_write/matchbeforewrite/Representation" = some mm.cls := hown
  refine Go.cast (congrArg s₁.setTop (ef_of1 mm a)) ?_
  have N0 := Fr.nil Z.heap.size
  have KP := Keep.refl h0 []
  show Go pp ee below _ (s₁.setTop (mkF mm 0 #[.val (.ref a)] []))
  refine Go.newO X0 hx hZ hown (wd9 hw) (wd10 hw) (wd7 hw) e0 (hb hby d2_0) (by decide) (by decide) (q := 3) rfl ?_
  intro b101 T101 h101 X101 e101 q101 E101 A101 D101 U101
  have ne_a_b101 : a ≠ b101 := ne_new Va.lt (Nat.le_of_eq q101)
  have g_b101 : Z.heap.size ≤ b101 := Nat.le_trans O0.1 (Nat.le_of_eq q101)
  have z_b101 : h0.size ≤ b101 := Nat.le_trans KP.1 (Nat.le_of_eq q101)
  replace Va := Va.ext E101
  replace Ea := Ea.ext E101
  have OE101 := ext_trans O0 E101
  replace KP := KP.ext E101
  have F101_content : Fld Z h101 b101 "com/example/match_before_write/matchbeforewrite/Representation" "content" "[B" .null := D101 (Or.inr (wd27 hw)) (ty := (.array .byte)) (by decide)
  have F101_tag : Fld Z h101 b101 "com/example/match_before_write/matchbeforewrite/Representation" "tag" "Lcom/example/match_before_write/matchbeforewrite/EntityTag;" .null := D101 (Or.inl (wd29 hw)) (ty := (.object "com/example/match_before_write/matchbeforewrite/EntityTag")) (by decide)
  have F101_lastModified : Fld Z h101 b101 "com/example/match_before_write/matchbeforewrite/Representation" "lastModified" "Ljava/time/Instant;" .null := D101 (Or.inr (wd31 hw)) (ty := (.object "java/time/Instant")) (by decide)
  have F101_sharesItsSecond : Fld Z h101 b101 "com/example/match_before_write/matchbeforewrite/Representation" "sharesItsSecond" "Z" (.int (0 : Int32)) := D101 (Or.inr (wd33 hw)) (ty := .boolean) (by decide)
  have F101_removal : Fld Z h101 b101 "com/example/match_before_write/matchbeforewrite/Representation" "removal" "Z" (.int (0 : Int32)) := D101 (Or.inr (wd35 hw)) (ty := .boolean) (by decide)
  clear D101
  refine Go.dup X101 hx (hb hby d2_3) rfl (q := 4) rfl ?_
  refine Go.aloadN X101 hx (hb hby d2_4) rfl rfl (q := 5) rfl ?_
  obtain ⟨T102, h102, X102, e102, E102, V102, B102, st102⟩ := cloneH X101 hx hZ hown (wd11 hw) (wd12 hw) (wd16 hw) (wd14 hw) (wd15 hw) (wd17 hw) e101 Va.arh Ea (g := (mkF mm 5 #[.val (.ref a)] [(.ref a), (.ref b101), (.ref b101)])) rfl (by rw [hml]; rfl) rfl (hb hby d2_5) (by decide) (W := 2) (cap := 1) (by show 2 * 0 + _ ≤ _; exact Nat.le_of_eq rfl) (by decide) (by decide) (by decide) (by decide)
  obtain ⟨b102, q102⟩ : ∃ z, z = h101.size := ⟨_, rfl⟩
  rw [← q102] at V102 B102 st102
  refine Go.by st102 ?_
  have ne_a_b102 : a ≠ b102 := ne_new Va.lt (Nat.le_of_eq q102.symm)
  have ne_b101_b102 : b101 ≠ b102 := ne_new A101.lt (Nat.le_of_eq q102.symm)
  have g_b102 : Z.heap.size ≤ b102 := Nat.le_trans OE101.1 (Nat.le_of_eq q102.symm)
  have z_b102 : h0.size ≤ b102 := Nat.le_trans KP.1 (Nat.le_of_eq q102.symm)
  replace Va := Va.ext E102
  replace Ea := Ea.ext E102
  replace A101 := A101.ext E102
  replace F101_content := F101_content.ext E102
  replace F101_tag := F101_tag.ext E102
  replace F101_lastModified := F101_lastModified.ext E102
  replace F101_sharesItsSecond := F101_sharesItsSecond.ext E102
  replace F101_removal := F101_removal.ext E102
  have OE102 := ext_trans OE101 E102
  replace KP := KP.ext E102
  replace V102 : Arv Z h102 b102 ka .byte (1 : Int32) [(.int x0)] (.int (0 : Int32)) := V102
  show Go pp ee below _ (T102.setTop (mkF mm 8 #[.val (.ref a)] [(.ref b102), (.ref b101), (.ref b101)]))
  refine Go.castY X102 hx hZ hown (wd18 hw) e102 (Ins.self B102) (hb hby d2_8) (q := 11) rfl ?_
  intro T103 X103 e103
  refine Go.aconst_null X103 hx (hb hby d2_11) (q := 12) rfl ?_
  refine Go.aconst_null X103 hx (hb hby d2_12) (q := 13) rfl ?_
  refine Go.iconst X103 hx (hb hby d2_13) (r := (0 : Int32)) rfl (q := 14) rfl ?_
  refine Go.iconst X103 hx (hb hby d2_14) (r := (0 : Int32)) rfl (q := 15) rfl ?_
  refine Go.init X103 hx hZ hown rfl (wd20 hw) (wd21 hw) (wd7 hw) (wd22 hw) (by decide) (crep l Z a0 hw b101 b102 h102 OE102 A101 F101_content F101_tag F101_lastModified F101_sharesItsSecond F101_removal g_b101) e103 (by rw [hml]; rfl) (hb hby d2_15) (argsL := [(.ref b102), .null, .null, (.int (0 : Int32)), (.int (0 : Int32))]) (rest := [(.ref b101)]) (lenOf pd0 rfl) rfl rfl (W := 1) (by first | exact Nat.le_refl _ | decide) (by decide) (by decide) (by decide) (by decide) ?_
  intro v104 T104 L104 X104 hQ104
  obtain ⟨h104, e104⟩ : ∃ z, T104.heap = z := ⟨_, rfl⟩
  rw [e104] at hQ104
  obtain ⟨rfl, N104q, K104, P104_0, P104_1, P104_2, P104_3⟩ := hQ104
  have N104 := Fr.app N0 N104q
  replace Va := Va.keep K104 (ninS ne_a_b101 nin0)
  replace Ea := Ea.keep K104
  replace A101 := A101.keep K104
  replace B102 := B102.keep K104
  replace V102 := V102.keep K104 (ninS (Ne.symm ne_b101_b102) nin0)
  have OK104 := ext_keep OE102 K104 (allS g_b101 all0)
  replace KP := KP.trans K104 (allS (Or.inr z_b101) all0)
  exact Go.retA X104 hx hret hlk rfl rfl (hb hby d2_18) e104 (by decide) (by decide) ⟨b101, b102, ka, rfl, N104, KP, z_b101, z_b102, A101, P104_0, V102, P104_1, P104_2, P104_3⟩
def Q_of2 (Z : State) (a : Addr) (ka : ClassId) (x0 : Int32) (x1 : Int32) (h0 : Heap) (vR : Option Value) (hR : Heap) (LR : List Loc) : Prop := ∃ b : Addr, ∃ cn : Addr, ∃ kc : ClassId, vR = some (.ref b) ∧ Fr Z.heap.size LR ∧ Keep h0 hR [] ∧ h0.size ≤ b ∧ h0.size ≤ cn ∧ Exa Z hR b "com/example/match_before_write/matchbeforewrite/Representation" ∧ Fld Z hR b "com/example/match_before_write/matchbeforewrite/Representation" "content" "[B" (.ref cn) ∧ Arv Z hR cn kc .byte (2 : Int32) [(.int x0), (.int x1)] (.int (0 : Int32)) ∧ Fld Z hR b "com/example/match_before_write/matchbeforewrite/Representation" "lastModified" "Ljava/time/Instant;" .null ∧ Fld Z hR b "com/example/match_before_write/matchbeforewrite/Representation" "sharesItsSecond" "Z" (.int (0 : Int32)) ∧ Fld Z hR b "com/example/match_before_write/matchbeforewrite/Representation" "removal" "Z" (.int (0 : Int32))
set_option maxRecDepth 65536 in
set_option maxHeartbeats 40000000 in
theorem of2 (l : Launch) (Z : State) (a0 : Array Value) (hw : ∀ d ∈ tables_1, d.before a0 Z = true) (a : Addr) (ka : ClassId) (x0 : Int32) (x1 : Int32) (h0 : Heap) (O0 : Ext Z.heap h0) (Va : Arv Z h0 a ka .byte (2 : Int32) [(.int x0), (.int x1)] (.int (0 : Int32))) (Ea : Exa Z h0 a "[B") :
    Ctr l Z h0 (⟨"com/example/match_before_write/matchbeforewrite/Representation", "of", "([B)Lcom/example/match_before_write/matchbeforewrite/Representation;"⟩ : MethodName) prog_13_method_2_code 1 (some (.object "com/example/match_before_write/matchbeforewrite/Representation")) [] ({ frames := 2, cells := 2, slots := 8, locals := 30 } : Room) #[(.ref a)] (Q_of2 Z a ka x0 x1 h0) := by
  refine enter (plainFor_of_name pn1) ?_
  intro pp ee ss mm below meth cc s₁ hx hby hml hZ hown hnm hret hlk X0 e0 hs0
  replace hown : ss.vm.findClass "com/example/match_before_write/matchbeforewrite/Representation" = some mm.cls := hown
  refine Go.cast (congrArg s₁.setTop (ef_of2 mm a)) ?_
  have N0 := Fr.nil Z.heap.size
  have KP := Keep.refl h0 []
  show Go pp ee below _ (s₁.setTop (mkF mm 0 #[.val (.ref a)] []))
  refine Go.newO X0 hx hZ hown (wd9 hw) (wd10 hw) (wd7 hw) e0 (hb hby d2_0) (by decide) (by decide) (q := 3) rfl ?_
  intro b101 T101 h101 X101 e101 q101 E101 A101 D101 U101
  have ne_a_b101 : a ≠ b101 := ne_new Va.lt (Nat.le_of_eq q101)
  have g_b101 : Z.heap.size ≤ b101 := Nat.le_trans O0.1 (Nat.le_of_eq q101)
  have z_b101 : h0.size ≤ b101 := Nat.le_trans KP.1 (Nat.le_of_eq q101)
  replace Va := Va.ext E101
  replace Ea := Ea.ext E101
  have OE101 := ext_trans O0 E101
  replace KP := KP.ext E101
  have F101_content : Fld Z h101 b101 "com/example/match_before_write/matchbeforewrite/Representation" "content" "[B" .null := D101 (Or.inr (wd27 hw)) (ty := (.array .byte)) (by decide)
  have F101_tag : Fld Z h101 b101 "com/example/match_before_write/matchbeforewrite/Representation" "tag" "Lcom/example/match_before_write/matchbeforewrite/EntityTag;" .null := D101 (Or.inl (wd29 hw)) (ty := (.object "com/example/match_before_write/matchbeforewrite/EntityTag")) (by decide)
  have F101_lastModified : Fld Z h101 b101 "com/example/match_before_write/matchbeforewrite/Representation" "lastModified" "Ljava/time/Instant;" .null := D101 (Or.inr (wd31 hw)) (ty := (.object "java/time/Instant")) (by decide)
  have F101_sharesItsSecond : Fld Z h101 b101 "com/example/match_before_write/matchbeforewrite/Representation" "sharesItsSecond" "Z" (.int (0 : Int32)) := D101 (Or.inr (wd33 hw)) (ty := .boolean) (by decide)
  have F101_removal : Fld Z h101 b101 "com/example/match_before_write/matchbeforewrite/Representation" "removal" "Z" (.int (0 : Int32)) := D101 (Or.inr (wd35 hw)) (ty := .boolean) (by decide)
  clear D101
  refine Go.dup X101 hx (hb hby d2_3) rfl (q := 4) rfl ?_
  refine Go.aloadN X101 hx (hb hby d2_4) rfl rfl (q := 5) rfl ?_
  obtain ⟨T102, h102, X102, e102, E102, V102, B102, st102⟩ := cloneH X101 hx hZ hown (wd11 hw) (wd12 hw) (wd16 hw) (wd14 hw) (wd15 hw) (wd17 hw) e101 Va.arh Ea (g := (mkF mm 5 #[.val (.ref a)] [(.ref a), (.ref b101), (.ref b101)])) rfl (by rw [hml]; rfl) rfl (hb hby d2_5) (by decide) (W := 2) (cap := 2) (by show 2 * 0 + _ ≤ _; exact Nat.le_of_eq rfl) (by decide) (by decide) (by decide) (by decide)
  obtain ⟨b102, q102⟩ : ∃ z, z = h101.size := ⟨_, rfl⟩
  rw [← q102] at V102 B102 st102
  refine Go.by st102 ?_
  have ne_a_b102 : a ≠ b102 := ne_new Va.lt (Nat.le_of_eq q102.symm)
  have ne_b101_b102 : b101 ≠ b102 := ne_new A101.lt (Nat.le_of_eq q102.symm)
  have g_b102 : Z.heap.size ≤ b102 := Nat.le_trans OE101.1 (Nat.le_of_eq q102.symm)
  have z_b102 : h0.size ≤ b102 := Nat.le_trans KP.1 (Nat.le_of_eq q102.symm)
  replace Va := Va.ext E102
  replace Ea := Ea.ext E102
  replace A101 := A101.ext E102
  replace F101_content := F101_content.ext E102
  replace F101_tag := F101_tag.ext E102
  replace F101_lastModified := F101_lastModified.ext E102
  replace F101_sharesItsSecond := F101_sharesItsSecond.ext E102
  replace F101_removal := F101_removal.ext E102
  have OE102 := ext_trans OE101 E102
  replace KP := KP.ext E102
  replace V102 : Arv Z h102 b102 ka .byte (2 : Int32) [(.int x0), (.int x1)] (.int (0 : Int32)) := V102
  show Go pp ee below _ (T102.setTop (mkF mm 8 #[.val (.ref a)] [(.ref b102), (.ref b101), (.ref b101)]))
  refine Go.castY X102 hx hZ hown (wd18 hw) e102 (Ins.self B102) (hb hby d2_8) (q := 11) rfl ?_
  intro T103 X103 e103
  refine Go.aconst_null X103 hx (hb hby d2_11) (q := 12) rfl ?_
  refine Go.aconst_null X103 hx (hb hby d2_12) (q := 13) rfl ?_
  refine Go.iconst X103 hx (hb hby d2_13) (r := (0 : Int32)) rfl (q := 14) rfl ?_
  refine Go.iconst X103 hx (hb hby d2_14) (r := (0 : Int32)) rfl (q := 15) rfl ?_
  refine Go.init X103 hx hZ hown rfl (wd20 hw) (wd21 hw) (wd7 hw) (wd22 hw) (by decide) (crep l Z a0 hw b101 b102 h102 OE102 A101 F101_content F101_tag F101_lastModified F101_sharesItsSecond F101_removal g_b101) e103 (by rw [hml]; rfl) (hb hby d2_15) (argsL := [(.ref b102), .null, .null, (.int (0 : Int32)), (.int (0 : Int32))]) (rest := [(.ref b101)]) (lenOf pd0 rfl) rfl rfl (W := 1) (by first | exact Nat.le_refl _ | decide) (by decide) (by decide) (by decide) (by decide) ?_
  intro v104 T104 L104 X104 hQ104
  obtain ⟨h104, e104⟩ : ∃ z, T104.heap = z := ⟨_, rfl⟩
  rw [e104] at hQ104
  obtain ⟨rfl, N104q, K104, P104_0, P104_1, P104_2, P104_3⟩ := hQ104
  have N104 := Fr.app N0 N104q
  replace Va := Va.keep K104 (ninS ne_a_b101 nin0)
  replace Ea := Ea.keep K104
  replace A101 := A101.keep K104
  replace B102 := B102.keep K104
  replace V102 := V102.keep K104 (ninS (Ne.symm ne_b101_b102) nin0)
  have OK104 := ext_keep OE102 K104 (allS g_b101 all0)
  replace KP := KP.trans K104 (allS (Or.inr z_b101) all0)
  exact Go.retA X104 hx hret hlk rfl rfl (hb hby d2_18) e104 (by decide) (by decide) ⟨b101, b102, ka, rfl, N104, KP, z_b101, z_b102, A101, P104_0, V102, P104_1, P104_2, P104_3⟩
def Q_of3 (Z : State) (a : Addr) (ka : ClassId) (x0 : Int32) (x1 : Int32) (x2 : Int32) (h0 : Heap) (vR : Option Value) (hR : Heap) (LR : List Loc) : Prop := ∃ b : Addr, ∃ cn : Addr, ∃ kc : ClassId, vR = some (.ref b) ∧ Fr Z.heap.size LR ∧ Keep h0 hR [] ∧ h0.size ≤ b ∧ h0.size ≤ cn ∧ Exa Z hR b "com/example/match_before_write/matchbeforewrite/Representation" ∧ Fld Z hR b "com/example/match_before_write/matchbeforewrite/Representation" "content" "[B" (.ref cn) ∧ Arv Z hR cn kc .byte (3 : Int32) [(.int x0), (.int x1), (.int x2)] (.int (0 : Int32)) ∧ Fld Z hR b "com/example/match_before_write/matchbeforewrite/Representation" "lastModified" "Ljava/time/Instant;" .null ∧ Fld Z hR b "com/example/match_before_write/matchbeforewrite/Representation" "sharesItsSecond" "Z" (.int (0 : Int32)) ∧ Fld Z hR b "com/example/match_before_write/matchbeforewrite/Representation" "removal" "Z" (.int (0 : Int32))
set_option maxRecDepth 65536 in
set_option maxHeartbeats 40000000 in
theorem of3 (l : Launch) (Z : State) (a0 : Array Value) (hw : ∀ d ∈ tables_1, d.before a0 Z = true) (a : Addr) (ka : ClassId) (x0 : Int32) (x1 : Int32) (x2 : Int32) (h0 : Heap) (O0 : Ext Z.heap h0) (Va : Arv Z h0 a ka .byte (3 : Int32) [(.int x0), (.int x1), (.int x2)] (.int (0 : Int32))) (Ea : Exa Z h0 a "[B") :
    Ctr l Z h0 (⟨"com/example/match_before_write/matchbeforewrite/Representation", "of", "([B)Lcom/example/match_before_write/matchbeforewrite/Representation;"⟩ : MethodName) prog_13_method_2_code 1 (some (.object "com/example/match_before_write/matchbeforewrite/Representation")) [] ({ frames := 2, cells := 2, slots := 9, locals := 30 } : Room) #[(.ref a)] (Q_of3 Z a ka x0 x1 x2 h0) := by
  refine enter (plainFor_of_name pn1) ?_
  intro pp ee ss mm below meth cc s₁ hx hby hml hZ hown hnm hret hlk X0 e0 hs0
  replace hown : ss.vm.findClass "com/example/match_before_write/matchbeforewrite/Representation" = some mm.cls := hown
  refine Go.cast (congrArg s₁.setTop (ef_of3 mm a)) ?_
  have N0 := Fr.nil Z.heap.size
  have KP := Keep.refl h0 []
  show Go pp ee below _ (s₁.setTop (mkF mm 0 #[.val (.ref a)] []))
  refine Go.newO X0 hx hZ hown (wd9 hw) (wd10 hw) (wd7 hw) e0 (hb hby d2_0) (by decide) (by decide) (q := 3) rfl ?_
  intro b101 T101 h101 X101 e101 q101 E101 A101 D101 U101
  have ne_a_b101 : a ≠ b101 := ne_new Va.lt (Nat.le_of_eq q101)
  have g_b101 : Z.heap.size ≤ b101 := Nat.le_trans O0.1 (Nat.le_of_eq q101)
  have z_b101 : h0.size ≤ b101 := Nat.le_trans KP.1 (Nat.le_of_eq q101)
  replace Va := Va.ext E101
  replace Ea := Ea.ext E101
  have OE101 := ext_trans O0 E101
  replace KP := KP.ext E101
  have F101_content : Fld Z h101 b101 "com/example/match_before_write/matchbeforewrite/Representation" "content" "[B" .null := D101 (Or.inr (wd27 hw)) (ty := (.array .byte)) (by decide)
  have F101_tag : Fld Z h101 b101 "com/example/match_before_write/matchbeforewrite/Representation" "tag" "Lcom/example/match_before_write/matchbeforewrite/EntityTag;" .null := D101 (Or.inl (wd29 hw)) (ty := (.object "com/example/match_before_write/matchbeforewrite/EntityTag")) (by decide)
  have F101_lastModified : Fld Z h101 b101 "com/example/match_before_write/matchbeforewrite/Representation" "lastModified" "Ljava/time/Instant;" .null := D101 (Or.inr (wd31 hw)) (ty := (.object "java/time/Instant")) (by decide)
  have F101_sharesItsSecond : Fld Z h101 b101 "com/example/match_before_write/matchbeforewrite/Representation" "sharesItsSecond" "Z" (.int (0 : Int32)) := D101 (Or.inr (wd33 hw)) (ty := .boolean) (by decide)
  have F101_removal : Fld Z h101 b101 "com/example/match_before_write/matchbeforewrite/Representation" "removal" "Z" (.int (0 : Int32)) := D101 (Or.inr (wd35 hw)) (ty := .boolean) (by decide)
  clear D101
  refine Go.dup X101 hx (hb hby d2_3) rfl (q := 4) rfl ?_
  refine Go.aloadN X101 hx (hb hby d2_4) rfl rfl (q := 5) rfl ?_
  obtain ⟨T102, h102, X102, e102, E102, V102, B102, st102⟩ := cloneH X101 hx hZ hown (wd11 hw) (wd12 hw) (wd16 hw) (wd14 hw) (wd15 hw) (wd17 hw) e101 Va.arh Ea (g := (mkF mm 5 #[.val (.ref a)] [(.ref a), (.ref b101), (.ref b101)])) rfl (by rw [hml]; rfl) rfl (hb hby d2_5) (by decide) (W := 2) (cap := 3) (by show 2 * 0 + _ ≤ _; exact Nat.le_of_eq rfl) (by decide) (by decide) (by decide) (by decide)
  obtain ⟨b102, q102⟩ : ∃ z, z = h101.size := ⟨_, rfl⟩
  rw [← q102] at V102 B102 st102
  refine Go.by st102 ?_
  have ne_a_b102 : a ≠ b102 := ne_new Va.lt (Nat.le_of_eq q102.symm)
  have ne_b101_b102 : b101 ≠ b102 := ne_new A101.lt (Nat.le_of_eq q102.symm)
  have g_b102 : Z.heap.size ≤ b102 := Nat.le_trans OE101.1 (Nat.le_of_eq q102.symm)
  have z_b102 : h0.size ≤ b102 := Nat.le_trans KP.1 (Nat.le_of_eq q102.symm)
  replace Va := Va.ext E102
  replace Ea := Ea.ext E102
  replace A101 := A101.ext E102
  replace F101_content := F101_content.ext E102
  replace F101_tag := F101_tag.ext E102
  replace F101_lastModified := F101_lastModified.ext E102
  replace F101_sharesItsSecond := F101_sharesItsSecond.ext E102
  replace F101_removal := F101_removal.ext E102
  have OE102 := ext_trans OE101 E102
  replace KP := KP.ext E102
  replace V102 : Arv Z h102 b102 ka .byte (3 : Int32) [(.int x0), (.int x1), (.int x2)] (.int (0 : Int32)) := V102
  show Go pp ee below _ (T102.setTop (mkF mm 8 #[.val (.ref a)] [(.ref b102), (.ref b101), (.ref b101)]))
  refine Go.castY X102 hx hZ hown (wd18 hw) e102 (Ins.self B102) (hb hby d2_8) (q := 11) rfl ?_
  intro T103 X103 e103
  refine Go.aconst_null X103 hx (hb hby d2_11) (q := 12) rfl ?_
  refine Go.aconst_null X103 hx (hb hby d2_12) (q := 13) rfl ?_
  refine Go.iconst X103 hx (hb hby d2_13) (r := (0 : Int32)) rfl (q := 14) rfl ?_
  refine Go.iconst X103 hx (hb hby d2_14) (r := (0 : Int32)) rfl (q := 15) rfl ?_
  refine Go.init X103 hx hZ hown rfl (wd20 hw) (wd21 hw) (wd7 hw) (wd22 hw) (by decide) (crep l Z a0 hw b101 b102 h102 OE102 A101 F101_content F101_tag F101_lastModified F101_sharesItsSecond F101_removal g_b101) e103 (by rw [hml]; rfl) (hb hby d2_15) (argsL := [(.ref b102), .null, .null, (.int (0 : Int32)), (.int (0 : Int32))]) (rest := [(.ref b101)]) (lenOf pd0 rfl) rfl rfl (W := 1) (by first | exact Nat.le_refl _ | decide) (by decide) (by decide) (by decide) (by decide) ?_
  intro v104 T104 L104 X104 hQ104
  obtain ⟨h104, e104⟩ : ∃ z, T104.heap = z := ⟨_, rfl⟩
  rw [e104] at hQ104
  obtain ⟨rfl, N104q, K104, P104_0, P104_1, P104_2, P104_3⟩ := hQ104
  have N104 := Fr.app N0 N104q
  replace Va := Va.keep K104 (ninS ne_a_b101 nin0)
  replace Ea := Ea.keep K104
  replace A101 := A101.keep K104
  replace B102 := B102.keep K104
  replace V102 := V102.keep K104 (ninS (Ne.symm ne_b101_b102) nin0)
  have OK104 := ext_keep OE102 K104 (allS g_b101 all0)
  replace KP := KP.trans K104 (allS (Or.inr z_b101) all0)
  exact Go.retA X104 hx hret hlk rfl rfl (hb hby d2_18) e104 (by decide) (by decide) ⟨b101, b102, ka, rfl, N104, KP, z_b101, z_b102, A101, P104_0, V102, P104_1, P104_2, P104_3⟩
def Q_clen (Z : State) (o : Addr) (cn : Addr) (kv : ClassId) (n : Int32) (vs : List Value) (h0 : Heap) (vR : Option Value) (hR : Heap) (LR : List Loc) : Prop := vR = some (.int n) ∧ Fr Z.heap.size LR ∧ hR = h0
set_option maxRecDepth 65536 in
set_option maxHeartbeats 40000000 in
theorem clen (l : Launch) (Z : State) (a0 : Array Value) (hw : ∀ d ∈ tables_1, d.before a0 Z = true) (o : Addr) (cn : Addr) (kv : ClassId) (n : Int32) (vs : List Value) (h0 : Heap) (O0 : Ext Z.heap h0) (F : Fld Z h0 o "com/example/match_before_write/matchbeforewrite/Representation" "content" "[B" (.ref cn)) (V : Arv Z h0 cn kv .byte n vs (.int (0 : Int32))) :
    Ctr l Z h0 (⟨"com/example/match_before_write/matchbeforewrite/Representation", "length", "()I"⟩ : MethodName) prog_13_method_8_code 1 (some .int) [] ({ frames := 0, cells := 0, slots := 0, locals := 0 } : Room) #[(.ref o)] (Q_clen Z o cn kv n vs h0) := by
  refine enter (plainFor_of_name pn1) ?_
  intro pp ee ss mm below meth cc s₁ hx hby hml hZ hown hnm hret hlk X0 e0 hs0
  replace hown : ss.vm.findClass "com/example/match_before_write/matchbeforewrite/Representation" = some mm.cls := hown
  refine Go.cast (congrArg s₁.setTop (ef_clen mm o)) ?_
  have N0 := Fr.nil Z.heap.size
  show Go pp ee below _ (s₁.setTop (mkF mm 0 #[.val (.ref o)] []))
  refine Go.aloadN X0 hx (hb hby d5_0) rfl rfl (q := 1) rfl ?_
  refine Go.getF X0 hx hZ hown (host := "") (Or.inl (wd26 hw)) Via.refl e0 F (hb hby d5_1) (q := 4) rfl ?_
  intro T101 X101 e101
  refine Go.alen X101 hx hZ e101 V (hb hby d5_4) ?_
  exact Go.retI X101 hx hret hlk (Or.inl rfl) rfl (hb hby d5_5) e101 (by decide) (by decide) ⟨rfl, N0, rfl⟩
def Q_clast (Z : State) (o : Addr) (h0 : Heap) (vR : Option Value) (hR : Heap) (LR : List Loc) : Prop := vR = some .null ∧ Fr Z.heap.size LR ∧ hR = h0
set_option maxRecDepth 65536 in
set_option maxHeartbeats 40000000 in
theorem clast (l : Launch) (Z : State) (a0 : Array Value) (hw : ∀ d ∈ tables_1, d.before a0 Z = true) (o : Addr) (h0 : Heap) (O0 : Ext Z.heap h0) (F : Fld Z h0 o "com/example/match_before_write/matchbeforewrite/Representation" "lastModified" "Ljava/time/Instant;" .null) :
    Ctr l Z h0 (⟨"com/example/match_before_write/matchbeforewrite/Representation", "lastModified", "()Ljava/time/Instant;"⟩ : MethodName) prog_13_method_14_code 1 (some (.object "java/time/Instant")) [] ({ frames := 0, cells := 0, slots := 0, locals := 0 } : Room) #[(.ref o)] (Q_clast Z o h0) := by
  refine enter (plainFor_of_name pn1) ?_
  intro pp ee ss mm below meth cc s₁ hx hby hml hZ hown hnm hret hlk X0 e0 hs0
  replace hown : ss.vm.findClass "com/example/match_before_write/matchbeforewrite/Representation" = some mm.cls := hown
  refine Go.cast (congrArg s₁.setTop (ef_clast mm o)) ?_
  have N0 := Fr.nil Z.heap.size
  show Go pp ee below _ (s₁.setTop (mkF mm 0 #[.val (.ref o)] []))
  refine Go.aloadN X0 hx (hb hby d6_0) rfl rfl (q := 1) rfl ?_
  refine Go.getF X0 hx hZ hown (host := "") (Or.inl (wd30 hw)) Via.refl e0 F (hb hby d6_1) (q := 4) rfl ?_
  intro T101 X101 e101
  exact Go.retA X101 hx hret hlk rfl rfl (hb hby d6_4) e101 (by decide) (by decide) ⟨rfl, N0, rfl⟩
def Q_cshar (Z : State) (o : Addr) (h0 : Heap) (vR : Option Value) (hR : Heap) (LR : List Loc) : Prop := vR = some (.int (0 : Int32)) ∧ Fr Z.heap.size LR ∧ hR = h0
set_option maxRecDepth 65536 in
set_option maxHeartbeats 40000000 in
theorem cshar (l : Launch) (Z : State) (a0 : Array Value) (hw : ∀ d ∈ tables_1, d.before a0 Z = true) (o : Addr) (h0 : Heap) (O0 : Ext Z.heap h0) (F : Fld Z h0 o "com/example/match_before_write/matchbeforewrite/Representation" "sharesItsSecond" "Z" (.int (0 : Int32))) :
    Ctr l Z h0 (⟨"com/example/match_before_write/matchbeforewrite/Representation", "sharesItsSecond", "()Z"⟩ : MethodName) prog_13_method_15_code 1 (some .boolean) [] ({ frames := 0, cells := 0, slots := 0, locals := 0 } : Room) #[(.ref o)] (Q_cshar Z o h0) := by
  refine enter (plainFor_of_name pn1) ?_
  intro pp ee ss mm below meth cc s₁ hx hby hml hZ hown hnm hret hlk X0 e0 hs0
  replace hown : ss.vm.findClass "com/example/match_before_write/matchbeforewrite/Representation" = some mm.cls := hown
  refine Go.cast (congrArg s₁.setTop (ef_cshar mm o)) ?_
  have N0 := Fr.nil Z.heap.size
  show Go pp ee below _ (s₁.setTop (mkF mm 0 #[.val (.ref o)] []))
  refine Go.aloadN X0 hx (hb hby d7_0) rfl rfl (q := 1) rfl ?_
  refine Go.getF X0 hx hZ hown (host := "") (Or.inl (wd32 hw)) Via.refl e0 F (hb hby d7_1) (q := 4) rfl ?_
  intro T101 X101 e101
  exact Go.retI X101 hx hret hlk (by simp) rfl (hb hby d7_4) e101 (by decide) (by decide) ⟨rfl, N0, rfl⟩
def Q_cremo (Z : State) (o : Addr) (h0 : Heap) (vR : Option Value) (hR : Heap) (LR : List Loc) : Prop := vR = some (.int (0 : Int32)) ∧ Fr Z.heap.size LR ∧ hR = h0
set_option maxRecDepth 65536 in
set_option maxHeartbeats 40000000 in
theorem cremo (l : Launch) (Z : State) (a0 : Array Value) (hw : ∀ d ∈ tables_1, d.before a0 Z = true) (o : Addr) (h0 : Heap) (O0 : Ext Z.heap h0) (F : Fld Z h0 o "com/example/match_before_write/matchbeforewrite/Representation" "removal" "Z" (.int (0 : Int32))) :
    Ctr l Z h0 (⟨"com/example/match_before_write/matchbeforewrite/Representation", "isRemoval", "()Z"⟩ : MethodName) prog_13_method_16_code 1 (some .boolean) [] ({ frames := 0, cells := 0, slots := 0, locals := 0 } : Room) #[(.ref o)] (Q_cremo Z o h0) := by
  refine enter (plainFor_of_name pn1) ?_
  intro pp ee ss mm below meth cc s₁ hx hby hml hZ hown hnm hret hlk X0 e0 hs0
  replace hown : ss.vm.findClass "com/example/match_before_write/matchbeforewrite/Representation" = some mm.cls := hown
  refine Go.cast (congrArg s₁.setTop (ef_cremo mm o)) ?_
  have N0 := Fr.nil Z.heap.size
  show Go pp ee below _ (s₁.setTop (mkF mm 0 #[.val (.ref o)] []))
  refine Go.aloadN X0 hx (hb hby d8_0) rfl rfl (q := 1) rfl ?_
  refine Go.getF X0 hx hZ hown (host := "") (Or.inl (wd34 hw)) Via.refl e0 F (hb hby d8_1) (q := 4) rfl ?_
  intro T101 X101 e101
  exact Go.retI X101 hx hret hlk (by simp) rfl (hb hby d8_4) e101 (by decide) (by decide) ⟨rfl, N0, rfl⟩
def Q_cmis0_0 (Z : State) (c1 : Addr) (c2 : Addr) (k1 : ClassId) (k2 : ClassId) (h0 : Heap) (vR : Option Value) (hR : Heap) (LR : List Loc) : Prop := vR = some (.int (-1 : Int32)) ∧ Fr Z.heap.size LR ∧ hR = h0
set_option maxRecDepth 65536 in
set_option maxHeartbeats 40000000 in
theorem cmis0_0 (l : Launch) (Z : State) (a0 : Array Value) (hw : ∀ d ∈ tables_1, d.before a0 Z = true) (c1 : Addr) (c2 : Addr) (k1 : ClassId) (k2 : ClassId) (h0 : Heap) (O0 : Ext Z.heap h0) (V1 : Arv Z h0 c1 k1 .byte (0 : Int32) [] (.int (0 : Int32))) (V2 : Arv Z h0 c2 k2 .byte (0 : Int32) [] (.int (0 : Int32))) :
    Ctr l Z h0 (⟨"jdk/internal/util/ArraysSupport", "mismatch", "([B[BI)I"⟩ : MethodName) jdk_48_method_13_code 4 (some .int) [] ({ frames := 0, cells := 0, slots := 0, locals := 0 } : Room) #[(.ref c1), (.ref c2), (.int (0 : Int32))] (Q_cmis0_0 Z c1 c2 k1 k2 h0) := by
  refine enter (plainFor_of_name pn2) ?_
  intro pp ee ss mm below meth cc s₁ hx hby hml hZ hown hnm hret hlk X0 e0 hs0
  replace hown : ss.vm.findClass "jdk/internal/util/ArraysSupport" = some mm.cls := hown
  refine Go.cast (congrArg s₁.setTop (ef_cmis0_0 mm c1 c2)) ?_
  have N0 := Fr.nil Z.heap.size
  show Go pp ee below _ (s₁.setTop (mkF mm 0 #[.val (.ref c1), .val (.ref c2), .val (.int (0 : Int32)), .unset] []))
  refine Go.iconst X0 hx (hb hby d11_0) (r := (0 : Int32)) rfl (q := 1) rfl ?_
  refine Go.istoreN X0 hx (hb hby d11_1) (l' := #[.val (.ref c1), .val (.ref c2), .val (.int (0 : Int32)), .val (.int (0 : Int32))]) rfl (q := 2) rfl ?_
  refine Go.iloadN X0 hx (hb hby d11_2) rfl (q := 3) rfl ?_
  refine Go.bipush X0 hx (hb hby d11_3) (r := (7 : Int32)) rfl (q := 5) rfl ?_
  refine Go.icmpYes X0 hx (hb hby d11_5) (by decide) (q := 49) (by decide) (by decide) ?_
  refine Go.iloadN X0 hx (hb hby d11_49) rfl (q := 50) rfl ?_
  refine Go.iloadN X0 hx (hb hby d11_50) rfl (q := 51) rfl ?_
  refine Go.icmpYes X0 hx (hb hby d11_51) (by decide) (q := 71) (by decide) (by decide) ?_
  refine Go.iconst X0 hx (hb hby d11_71) (r := (-1 : Int32)) rfl (q := 72) rfl ?_
  exact Go.retI X0 hx hret hlk (Or.inl rfl) rfl (hb hby d11_72) e0 (by decide) (by decide) ⟨rfl, N0, rfl⟩
def Q_ceq0_0 (Z : State) (c1 : Addr) (c2 : Addr) (k1 : ClassId) (k2 : ClassId) (h0 : Heap) (vR : Option Value) (hR : Heap) (LR : List Loc) : Prop := vR = some (.int (1 : Int32)) ∧ Fr Z.heap.size LR ∧ hR = h0
set_option maxRecDepth 65536 in
set_option maxHeartbeats 40000000 in
theorem ceq0_0 (l : Launch) (Z : State) (a0 : Array Value) (hw : ∀ d ∈ tables_1, d.before a0 Z = true) (c1 : Addr) (c2 : Addr) (k1 : ClassId) (k2 : ClassId) (h0 : Heap) (O0 : Ext Z.heap h0) (V1 : Arv Z h0 c1 k1 .byte (0 : Int32) [] (.int (0 : Int32))) (V2 : Arv Z h0 c2 k2 .byte (0 : Int32) [] (.int (0 : Int32))) (nn : c1 ≠ c2) :
    Ctr l Z h0 (⟨"java/util/Arrays", "equals", "([B[B)Z"⟩ : MethodName) jdk_65_method_89_code 3 (some .boolean) [] ({ frames := 1, cells := 0, slots := 0, locals := 15 } : Room) #[(.ref c1), (.ref c2)] (Q_ceq0_0 Z c1 c2 k1 k2 h0) := by
  refine enter (plainFor_of_name pn3) ?_
  intro pp ee ss mm below meth cc s₁ hx hby hml hZ hown hnm hret hlk X0 e0 hs0
  replace hown : ss.vm.findClass "java/util/Arrays" = some mm.cls := hown
  refine Go.cast (congrArg s₁.setTop (ef_ceq0_0 mm c1 c2)) ?_
  have N0 := Fr.nil Z.heap.size
  show Go pp ee below _ (s₁.setTop (mkF mm 0 #[.val (.ref c1), .val (.ref c2), .unset] []))
  refine Go.aloadN X0 hx (hb hby d10_0) rfl rfl (q := 1) rfl ?_
  refine Go.aloadN X0 hx (hb hby d10_1) rfl rfl (q := 2) rfl ?_
  refine Go.acmp X0 hx rfl rfl (hb hby d10_2) (same := false) (decide_eq_false fun q => nn (Value.ref.inj q)) (q := 7) (by decide) (by decide) ?_
  refine Go.aloadN X0 hx (hb hby d10_7) rfl rfl (q := 8) rfl ?_
  refine Go.ifnullNo X0 hx (hb hby d10_8) (q := 11) rfl ?_
  refine Go.aloadN X0 hx (hb hby d10_11) rfl rfl (q := 12) rfl ?_
  refine Go.ifnonnullYes X0 hx (hb hby d10_12) (q := 17) (by decide) (by decide) ?_
  refine Go.aloadN X0 hx (hb hby d10_17) rfl rfl (q := 18) rfl ?_
  refine Go.alen X0 hx hZ e0 V1 (hb hby d10_18) ?_
  refine Go.istoreN X0 hx (hb hby d10_19) (l' := #[.val (.ref c1), .val (.ref c2), .val (.int (0 : Int32))]) rfl (q := 20) rfl ?_
  refine Go.aloadN X0 hx (hb hby d10_20) rfl rfl (q := 21) rfl ?_
  refine Go.alen X0 hx hZ e0 V2 (hb hby d10_21) ?_
  refine Go.iloadN X0 hx (hb hby d10_22) rfl (q := 23) rfl ?_
  refine Go.icmpYes X0 hx (hb hby d10_23) (by decide) (q := 28) (by decide) (by decide) ?_
  refine Go.aloadN X0 hx (hb hby d10_28) rfl rfl (q := 29) rfl ?_
  refine Go.aloadN X0 hx (hb hby d10_29) rfl rfl (q := 30) rfl ?_
  refine Go.iloadN X0 hx (hb hby d10_30) rfl (q := 31) rfl ?_
  refine Go.callS X0 hx hZ hown (wd65 hw) (wd66 hw) (wd67 hw) (wd68 hw) (by decide) (cmis0_0 l Z a0 hw c1 c2 (k1) (k2) h0 O0 V1 V2) e0 (by rw [hml]; rfl) (hb hby d10_31) (argsL := [(.ref c1), (.ref c2), (.int (0 : Int32))]) (rest := []) (lenOf pd1 rfl) rfl rfl (W := 0) (by first | exact Nat.le_refl _ | decide) (by decide) (by decide) (by decide) (by decide) ?_
  intro v101 T101 L101 X101 hQ101
  obtain ⟨rfl, N101q, e101⟩ := hQ101
  have N101 := Fr.app N0 N101q
  refine Go.ifNo X101 hx (hb hby d10_34) (by decide) (q := 37) rfl ?_
  refine Go.iconst X101 hx (hb hby d10_37) (r := (1 : Int32)) rfl (q := 38) rfl ?_
  refine Go.goto X101 hx (hb hby d10_38) (q := 42) (by decide) (by decide) ?_
  exact Go.retI X101 hx hret hlk (by simp) rfl (hb hby d10_42) e101 (by decide) (by decide) ⟨rfl, N101, rfl⟩
def Q_csam0_0 (Z : State) (c1 : Addr) (c2 : Addr) (k1 : ClassId) (k2 : ClassId) (h0 : Heap) (vR : Option Value) (hR : Heap) (LR : List Loc) : Prop := vR = some (.int (1 : Int32)) ∧ Fr Z.heap.size LR ∧ hR = h0
set_option maxRecDepth 65536 in
set_option maxHeartbeats 40000000 in
theorem csam0_0 (l : Launch) (Z : State) (a0 : Array Value) (hw : ∀ d ∈ tables_1, d.before a0 Z = true) (c1 : Addr) (c2 : Addr) (k1 : ClassId) (k2 : ClassId) (h0 : Heap) (O0 : Ext Z.heap h0) (V1 : Arv Z h0 c1 k1 .byte (0 : Int32) [] (.int (0 : Int32))) (V2 : Arv Z h0 c2 k2 .byte (0 : Int32) [] (.int (0 : Int32))) :
    Ctr l Z h0 (⟨"com/example/match_before_write/matchbeforewrite/RepresentationOfPinLaw", "same", "([B[B)Z"⟩ : MethodName) method_3_code 2 (some .boolean) [] ({ frames := 0, cells := 0, slots := 0, locals := 0 } : Room) #[(.ref c1), (.ref c2)] (Q_csam0_0 Z c1 c2 k1 k2 h0) := by
  refine enter (plainFor_of_name pn0) ?_
  intro pp ee ss mm below meth cc s₁ hx hby hml hZ hown hnm hret hlk X0 e0 hs0
  replace hown : ss.vm.findClass "com/example/match_before_write/matchbeforewrite/RepresentationOfPinLaw" = some mm.cls := hown
  refine Go.cast (congrArg s₁.setTop (ef_csam0_0 mm c1 c2)) ?_
  have N0 := Fr.nil Z.heap.size
  show Go pp ee below _ (s₁.setTop (mkF mm 0 #[.val (.ref c1), .val (.ref c2)] []))
  refine Go.aloadN X0 hx (hb hby d12_0) rfl rfl (q := 1) rfl ?_
  refine Go.alen X0 hx hZ e0 V1 (hb hby d12_1) ?_
  refine Go.aloadN X0 hx (hb hby d12_2) rfl rfl (q := 3) rfl ?_
  refine Go.alen X0 hx hZ e0 V2 (hb hby d12_3) ?_
  refine Go.icmpYes X0 hx (hb hby d12_4) (by decide) (q := 9) (by decide) (by decide) ?_
  refine Go.aloadN X0 hx (hb hby d12_9) rfl rfl (q := 10) rfl ?_
  refine Go.alen X0 hx hZ e0 V1 (hb hby d12_10) ?_
  refine Go.ifYes X0 hx (hb hby d12_11) (by decide) (q := 25) (by decide) (by decide) ?_
  refine Go.aloadN X0 hx (hb hby d12_25) rfl rfl (q := 26) rfl ?_
  refine Go.alen X0 hx hZ e0 V1 (hb hby d12_26) ?_
  refine Go.iconst X0 hx (hb hby d12_27) (r := (1 : Int32)) rfl (q := 28) rfl ?_
  refine Go.icmpYes X0 hx (hb hby d12_28) (by decide) (q := 42) (by decide) (by decide) ?_
  refine Go.aloadN X0 hx (hb hby d12_42) rfl rfl (q := 43) rfl ?_
  refine Go.alen X0 hx hZ e0 V1 (hb hby d12_43) ?_
  refine Go.iconst X0 hx (hb hby d12_44) (r := (2 : Int32)) rfl (q := 45) rfl ?_
  refine Go.icmpYes X0 hx (hb hby d12_45) (by decide) (q := 59) (by decide) (by decide) ?_
  refine Go.iconst X0 hx (hb hby d12_59) (r := (1 : Int32)) rfl (q := 60) rfl ?_
  exact Go.retI X0 hx hret hlk (by simp) rfl (hb hby d12_60) e0 (by decide) (by decide) ⟨rfl, N0, rfl⟩
def Q_chs0_0 (Z : State) (o : Addr) (q : Addr) (c1 : Addr) (c2 : Addr) (k1 : ClassId) (k2 : ClassId) (h0 : Heap) (vR : Option Value) (hR : Heap) (LR : List Loc) : Prop := vR = some (.int (1 : Int32)) ∧ Fr Z.heap.size LR ∧ hR = h0
set_option maxRecDepth 65536 in
set_option maxHeartbeats 40000000 in
theorem chs0_0 (l : Launch) (Z : State) (a0 : Array Value) (hw : ∀ d ∈ tables_1, d.before a0 Z = true) (o : Addr) (q : Addr) (c1 : Addr) (c2 : Addr) (k1 : ClassId) (k2 : ClassId) (h0 : Heap) (O0 : Ext Z.heap h0) (Fo : Fld Z h0 o "com/example/match_before_write/matchbeforewrite/Representation" "content" "[B" (.ref c1)) (Fq : Fld Z h0 q "com/example/match_before_write/matchbeforewrite/Representation" "content" "[B" (.ref c2)) (V1 : Arv Z h0 c1 k1 .byte (0 : Int32) [] (.int (0 : Int32))) (V2 : Arv Z h0 c2 k2 .byte (0 : Int32) [] (.int (0 : Int32))) (nn : c1 ≠ c2) :
    Ctr l Z h0 (⟨"com/example/match_before_write/matchbeforewrite/Representation", "hasSameBytesAs", "(Lcom/example/match_before_write/matchbeforewrite/Representation;)Z"⟩ : MethodName) prog_13_method_13_code 2 (some .boolean) [] ({ frames := 2, cells := 0, slots := 0, locals := 29 } : Room) #[(.ref o), (.ref q)] (Q_chs0_0 Z o q c1 c2 k1 k2 h0) := by
  refine enter (plainFor_of_name pn1) ?_
  intro pp ee ss mm below meth cc s₁ hx hby hml hZ hown hnm hret hlk X0 e0 hs0
  replace hown : ss.vm.findClass "com/example/match_before_write/matchbeforewrite/Representation" = some mm.cls := hown
  refine Go.cast (congrArg s₁.setTop (ef_chs0_0 mm o q)) ?_
  have N0 := Fr.nil Z.heap.size
  show Go pp ee below _ (s₁.setTop (mkF mm 0 #[.val (.ref o), .val (.ref q)] []))
  refine Go.aloadN X0 hx (hb hby d9_0) rfl rfl (q := 1) rfl ?_
  refine Go.getF X0 hx hZ hown (host := "") (Or.inl (wd26 hw)) Via.refl e0 Fo (hb hby d9_1) (q := 4) rfl ?_
  intro T101 X101 e101
  refine Go.aloadN X101 hx (hb hby d9_4) rfl rfl (q := 5) rfl ?_
  refine Go.getF X101 hx hZ hown (host := "") (Or.inl (wd26 hw)) Via.refl e101 Fq (hb hby d9_5) (q := 8) rfl ?_
  intro T102 X102 e102
  refine Go.callS X102 hx hZ hown (wd61 hw) (wd62 hw) (wd63 hw) (wd64 hw) (by decide) (ceq0_0 l Z a0 hw c1 c2 (k1) (k2) h0 O0 V1 V2 nn) e102 (by rw [hml]; rfl) (hb hby d9_8) (argsL := [(.ref c1), (.ref c2)]) (rest := []) (lenOf pd2 rfl) rfl rfl (W := 0) (by first | exact Nat.le_refl _ | decide) (by decide) (by decide) (by decide) (by decide) ?_
  intro v103 T103 L103 X103 hQ103
  obtain ⟨rfl, N103q, e103⟩ := hQ103
  have N103 := Fr.app N0 N103q
  exact Go.retI X103 hx hret hlk (by simp) rfl (hb hby d9_11) e103 (by decide) (by decide) ⟨rfl, N103, rfl⟩
def Q_ceqd0_1 (Z : State) (c1 : Addr) (c2 : Addr) (k1 : ClassId) (k2 : ClassId) (y0 : Int32) (h0 : Heap) (vR : Option Value) (hR : Heap) (LR : List Loc) : Prop := vR = some (.int (0 : Int32)) ∧ Fr Z.heap.size LR ∧ hR = h0
set_option maxRecDepth 65536 in
set_option maxHeartbeats 40000000 in
theorem ceqd0_1 (l : Launch) (Z : State) (a0 : Array Value) (hw : ∀ d ∈ tables_1, d.before a0 Z = true) (c1 : Addr) (c2 : Addr) (k1 : ClassId) (k2 : ClassId) (y0 : Int32) (h0 : Heap) (O0 : Ext Z.heap h0) (V1 : Arv Z h0 c1 k1 .byte (0 : Int32) [] (.int (0 : Int32))) (V2 : Arv Z h0 c2 k2 .byte (1 : Int32) [(.int y0)] (.int (0 : Int32))) (nn : c1 ≠ c2) :
    Ctr l Z h0 (⟨"java/util/Arrays", "equals", "([B[B)Z"⟩ : MethodName) jdk_65_method_89_code 3 (some .boolean) [] ({ frames := 0, cells := 0, slots := 0, locals := 0 } : Room) #[(.ref c1), (.ref c2)] (Q_ceqd0_1 Z c1 c2 k1 k2 y0 h0) := by
  refine enter (plainFor_of_name pn3) ?_
  intro pp ee ss mm below meth cc s₁ hx hby hml hZ hown hnm hret hlk X0 e0 hs0
  replace hown : ss.vm.findClass "java/util/Arrays" = some mm.cls := hown
  refine Go.cast (congrArg s₁.setTop (ef_ceqd0_1 mm c1 c2)) ?_
  have N0 := Fr.nil Z.heap.size
  show Go pp ee below _ (s₁.setTop (mkF mm 0 #[.val (.ref c1), .val (.ref c2), .unset] []))
  refine Go.aloadN X0 hx (hb hby d10_0) rfl rfl (q := 1) rfl ?_
  refine Go.aloadN X0 hx (hb hby d10_1) rfl rfl (q := 2) rfl ?_
  refine Go.acmp X0 hx rfl rfl (hb hby d10_2) (same := false) (decide_eq_false fun q => nn (Value.ref.inj q)) (q := 7) (by decide) (by decide) ?_
  refine Go.aloadN X0 hx (hb hby d10_7) rfl rfl (q := 8) rfl ?_
  refine Go.ifnullNo X0 hx (hb hby d10_8) (q := 11) rfl ?_
  refine Go.aloadN X0 hx (hb hby d10_11) rfl rfl (q := 12) rfl ?_
  refine Go.ifnonnullYes X0 hx (hb hby d10_12) (q := 17) (by decide) (by decide) ?_
  refine Go.aloadN X0 hx (hb hby d10_17) rfl rfl (q := 18) rfl ?_
  refine Go.alen X0 hx hZ e0 V1 (hb hby d10_18) ?_
  refine Go.istoreN X0 hx (hb hby d10_19) (l' := #[.val (.ref c1), .val (.ref c2), .val (.int (0 : Int32))]) rfl (q := 20) rfl ?_
  refine Go.aloadN X0 hx (hb hby d10_20) rfl rfl (q := 21) rfl ?_
  refine Go.alen X0 hx hZ e0 V2 (hb hby d10_21) ?_
  refine Go.iloadN X0 hx (hb hby d10_22) rfl (q := 23) rfl ?_
  refine Go.icmpNo X0 hx (hb hby d10_23) (by decide) (q := 26) rfl ?_
  refine Go.iconst X0 hx (hb hby d10_26) (r := (0 : Int32)) rfl (q := 27) rfl ?_
  exact Go.retI X0 hx hret hlk (by simp) rfl (hb hby d10_27) e0 (by decide) (by decide) ⟨rfl, N0, rfl⟩
def Q_csamd0_1 (Z : State) (c1 : Addr) (c2 : Addr) (k1 : ClassId) (k2 : ClassId) (y0 : Int32) (h0 : Heap) (vR : Option Value) (hR : Heap) (LR : List Loc) : Prop := vR = some (.int (0 : Int32)) ∧ Fr Z.heap.size LR ∧ hR = h0
set_option maxRecDepth 65536 in
set_option maxHeartbeats 40000000 in
theorem csamd0_1 (l : Launch) (Z : State) (a0 : Array Value) (hw : ∀ d ∈ tables_1, d.before a0 Z = true) (c1 : Addr) (c2 : Addr) (k1 : ClassId) (k2 : ClassId) (y0 : Int32) (h0 : Heap) (O0 : Ext Z.heap h0) (V1 : Arv Z h0 c1 k1 .byte (0 : Int32) [] (.int (0 : Int32))) (V2 : Arv Z h0 c2 k2 .byte (1 : Int32) [(.int y0)] (.int (0 : Int32))) :
    Ctr l Z h0 (⟨"com/example/match_before_write/matchbeforewrite/RepresentationOfPinLaw", "same", "([B[B)Z"⟩ : MethodName) method_3_code 2 (some .boolean) [] ({ frames := 0, cells := 0, slots := 0, locals := 0 } : Room) #[(.ref c1), (.ref c2)] (Q_csamd0_1 Z c1 c2 k1 k2 y0 h0) := by
  refine enter (plainFor_of_name pn0) ?_
  intro pp ee ss mm below meth cc s₁ hx hby hml hZ hown hnm hret hlk X0 e0 hs0
  replace hown : ss.vm.findClass "com/example/match_before_write/matchbeforewrite/RepresentationOfPinLaw" = some mm.cls := hown
  refine Go.cast (congrArg s₁.setTop (ef_csamd0_1 mm c1 c2)) ?_
  have N0 := Fr.nil Z.heap.size
  show Go pp ee below _ (s₁.setTop (mkF mm 0 #[.val (.ref c1), .val (.ref c2)] []))
  refine Go.aloadN X0 hx (hb hby d12_0) rfl rfl (q := 1) rfl ?_
  refine Go.alen X0 hx hZ e0 V1 (hb hby d12_1) ?_
  refine Go.aloadN X0 hx (hb hby d12_2) rfl rfl (q := 3) rfl ?_
  refine Go.alen X0 hx hZ e0 V2 (hb hby d12_3) ?_
  refine Go.icmpNo X0 hx (hb hby d12_4) (by decide) (q := 7) rfl ?_
  refine Go.iconst X0 hx (hb hby d12_7) (r := (0 : Int32)) rfl (q := 8) rfl ?_
  exact Go.retI X0 hx hret hlk (by simp) rfl (hb hby d12_8) e0 (by decide) (by decide) ⟨rfl, N0, rfl⟩
def Q_chsd0_1 (Z : State) (o : Addr) (q : Addr) (c1 : Addr) (c2 : Addr) (k1 : ClassId) (k2 : ClassId) (y0 : Int32) (h0 : Heap) (vR : Option Value) (hR : Heap) (LR : List Loc) : Prop := vR = some (.int (0 : Int32)) ∧ Fr Z.heap.size LR ∧ hR = h0
set_option maxRecDepth 65536 in
set_option maxHeartbeats 40000000 in
theorem chsd0_1 (l : Launch) (Z : State) (a0 : Array Value) (hw : ∀ d ∈ tables_1, d.before a0 Z = true) (o : Addr) (q : Addr) (c1 : Addr) (c2 : Addr) (k1 : ClassId) (k2 : ClassId) (y0 : Int32) (h0 : Heap) (O0 : Ext Z.heap h0) (Fo : Fld Z h0 o "com/example/match_before_write/matchbeforewrite/Representation" "content" "[B" (.ref c1)) (Fq : Fld Z h0 q "com/example/match_before_write/matchbeforewrite/Representation" "content" "[B" (.ref c2)) (V1 : Arv Z h0 c1 k1 .byte (0 : Int32) [] (.int (0 : Int32))) (V2 : Arv Z h0 c2 k2 .byte (1 : Int32) [(.int y0)] (.int (0 : Int32))) (nn : c1 ≠ c2) :
    Ctr l Z h0 (⟨"com/example/match_before_write/matchbeforewrite/Representation", "hasSameBytesAs", "(Lcom/example/match_before_write/matchbeforewrite/Representation;)Z"⟩ : MethodName) prog_13_method_13_code 2 (some .boolean) [] ({ frames := 1, cells := 0, slots := 0, locals := 14 } : Room) #[(.ref o), (.ref q)] (Q_chsd0_1 Z o q c1 c2 k1 k2 y0 h0) := by
  refine enter (plainFor_of_name pn1) ?_
  intro pp ee ss mm below meth cc s₁ hx hby hml hZ hown hnm hret hlk X0 e0 hs0
  replace hown : ss.vm.findClass "com/example/match_before_write/matchbeforewrite/Representation" = some mm.cls := hown
  refine Go.cast (congrArg s₁.setTop (ef_chsd0_1 mm o q)) ?_
  have N0 := Fr.nil Z.heap.size
  show Go pp ee below _ (s₁.setTop (mkF mm 0 #[.val (.ref o), .val (.ref q)] []))
  refine Go.aloadN X0 hx (hb hby d9_0) rfl rfl (q := 1) rfl ?_
  refine Go.getF X0 hx hZ hown (host := "") (Or.inl (wd26 hw)) Via.refl e0 Fo (hb hby d9_1) (q := 4) rfl ?_
  intro T101 X101 e101
  refine Go.aloadN X101 hx (hb hby d9_4) rfl rfl (q := 5) rfl ?_
  refine Go.getF X101 hx hZ hown (host := "") (Or.inl (wd26 hw)) Via.refl e101 Fq (hb hby d9_5) (q := 8) rfl ?_
  intro T102 X102 e102
  refine Go.callS X102 hx hZ hown (wd61 hw) (wd62 hw) (wd63 hw) (wd64 hw) (by decide) (ceqd0_1 l Z a0 hw c1 c2 (k1) (k2) y0 h0 O0 V1 V2 nn) e102 (by rw [hml]; rfl) (hb hby d9_8) (argsL := [(.ref c1), (.ref c2)]) (rest := []) (lenOf pd2 rfl) rfl rfl (W := 0) (by first | exact Nat.le_refl _ | decide) (by decide) (by decide) (by decide) (by decide) ?_
  intro v103 T103 L103 X103 hQ103
  obtain ⟨rfl, N103q, e103⟩ := hQ103
  have N103 := Fr.app N0 N103q
  exact Go.retI X103 hx hret hlk (by simp) rfl (hb hby d9_11) e103 (by decide) (by decide) ⟨rfl, N103, rfl⟩
def Q_ceqd0_2 (Z : State) (c1 : Addr) (c2 : Addr) (k1 : ClassId) (k2 : ClassId) (y0 : Int32) (y1 : Int32) (h0 : Heap) (vR : Option Value) (hR : Heap) (LR : List Loc) : Prop := vR = some (.int (0 : Int32)) ∧ Fr Z.heap.size LR ∧ hR = h0
set_option maxRecDepth 65536 in
set_option maxHeartbeats 40000000 in
theorem ceqd0_2 (l : Launch) (Z : State) (a0 : Array Value) (hw : ∀ d ∈ tables_1, d.before a0 Z = true) (c1 : Addr) (c2 : Addr) (k1 : ClassId) (k2 : ClassId) (y0 : Int32) (y1 : Int32) (h0 : Heap) (O0 : Ext Z.heap h0) (V1 : Arv Z h0 c1 k1 .byte (0 : Int32) [] (.int (0 : Int32))) (V2 : Arv Z h0 c2 k2 .byte (2 : Int32) [(.int y0), (.int y1)] (.int (0 : Int32))) (nn : c1 ≠ c2) :
    Ctr l Z h0 (⟨"java/util/Arrays", "equals", "([B[B)Z"⟩ : MethodName) jdk_65_method_89_code 3 (some .boolean) [] ({ frames := 0, cells := 0, slots := 0, locals := 0 } : Room) #[(.ref c1), (.ref c2)] (Q_ceqd0_2 Z c1 c2 k1 k2 y0 y1 h0) := by
  refine enter (plainFor_of_name pn3) ?_
  intro pp ee ss mm below meth cc s₁ hx hby hml hZ hown hnm hret hlk X0 e0 hs0
  replace hown : ss.vm.findClass "java/util/Arrays" = some mm.cls := hown
  refine Go.cast (congrArg s₁.setTop (ef_ceqd0_2 mm c1 c2)) ?_
  have N0 := Fr.nil Z.heap.size
  show Go pp ee below _ (s₁.setTop (mkF mm 0 #[.val (.ref c1), .val (.ref c2), .unset] []))
  refine Go.aloadN X0 hx (hb hby d10_0) rfl rfl (q := 1) rfl ?_
  refine Go.aloadN X0 hx (hb hby d10_1) rfl rfl (q := 2) rfl ?_
  refine Go.acmp X0 hx rfl rfl (hb hby d10_2) (same := false) (decide_eq_false fun q => nn (Value.ref.inj q)) (q := 7) (by decide) (by decide) ?_
  refine Go.aloadN X0 hx (hb hby d10_7) rfl rfl (q := 8) rfl ?_
  refine Go.ifnullNo X0 hx (hb hby d10_8) (q := 11) rfl ?_
  refine Go.aloadN X0 hx (hb hby d10_11) rfl rfl (q := 12) rfl ?_
  refine Go.ifnonnullYes X0 hx (hb hby d10_12) (q := 17) (by decide) (by decide) ?_
  refine Go.aloadN X0 hx (hb hby d10_17) rfl rfl (q := 18) rfl ?_
  refine Go.alen X0 hx hZ e0 V1 (hb hby d10_18) ?_
  refine Go.istoreN X0 hx (hb hby d10_19) (l' := #[.val (.ref c1), .val (.ref c2), .val (.int (0 : Int32))]) rfl (q := 20) rfl ?_
  refine Go.aloadN X0 hx (hb hby d10_20) rfl rfl (q := 21) rfl ?_
  refine Go.alen X0 hx hZ e0 V2 (hb hby d10_21) ?_
  refine Go.iloadN X0 hx (hb hby d10_22) rfl (q := 23) rfl ?_
  refine Go.icmpNo X0 hx (hb hby d10_23) (by decide) (q := 26) rfl ?_
  refine Go.iconst X0 hx (hb hby d10_26) (r := (0 : Int32)) rfl (q := 27) rfl ?_
  exact Go.retI X0 hx hret hlk (by simp) rfl (hb hby d10_27) e0 (by decide) (by decide) ⟨rfl, N0, rfl⟩
def Q_csamd0_2 (Z : State) (c1 : Addr) (c2 : Addr) (k1 : ClassId) (k2 : ClassId) (y0 : Int32) (y1 : Int32) (h0 : Heap) (vR : Option Value) (hR : Heap) (LR : List Loc) : Prop := vR = some (.int (0 : Int32)) ∧ Fr Z.heap.size LR ∧ hR = h0
set_option maxRecDepth 65536 in
set_option maxHeartbeats 40000000 in
theorem csamd0_2 (l : Launch) (Z : State) (a0 : Array Value) (hw : ∀ d ∈ tables_1, d.before a0 Z = true) (c1 : Addr) (c2 : Addr) (k1 : ClassId) (k2 : ClassId) (y0 : Int32) (y1 : Int32) (h0 : Heap) (O0 : Ext Z.heap h0) (V1 : Arv Z h0 c1 k1 .byte (0 : Int32) [] (.int (0 : Int32))) (V2 : Arv Z h0 c2 k2 .byte (2 : Int32) [(.int y0), (.int y1)] (.int (0 : Int32))) :
    Ctr l Z h0 (⟨"com/example/match_before_write/matchbeforewrite/RepresentationOfPinLaw", "same", "([B[B)Z"⟩ : MethodName) method_3_code 2 (some .boolean) [] ({ frames := 0, cells := 0, slots := 0, locals := 0 } : Room) #[(.ref c1), (.ref c2)] (Q_csamd0_2 Z c1 c2 k1 k2 y0 y1 h0) := by
  refine enter (plainFor_of_name pn0) ?_
  intro pp ee ss mm below meth cc s₁ hx hby hml hZ hown hnm hret hlk X0 e0 hs0
  replace hown : ss.vm.findClass "com/example/match_before_write/matchbeforewrite/RepresentationOfPinLaw" = some mm.cls := hown
  refine Go.cast (congrArg s₁.setTop (ef_csamd0_2 mm c1 c2)) ?_
  have N0 := Fr.nil Z.heap.size
  show Go pp ee below _ (s₁.setTop (mkF mm 0 #[.val (.ref c1), .val (.ref c2)] []))
  refine Go.aloadN X0 hx (hb hby d12_0) rfl rfl (q := 1) rfl ?_
  refine Go.alen X0 hx hZ e0 V1 (hb hby d12_1) ?_
  refine Go.aloadN X0 hx (hb hby d12_2) rfl rfl (q := 3) rfl ?_
  refine Go.alen X0 hx hZ e0 V2 (hb hby d12_3) ?_
  refine Go.icmpNo X0 hx (hb hby d12_4) (by decide) (q := 7) rfl ?_
  refine Go.iconst X0 hx (hb hby d12_7) (r := (0 : Int32)) rfl (q := 8) rfl ?_
  exact Go.retI X0 hx hret hlk (by simp) rfl (hb hby d12_8) e0 (by decide) (by decide) ⟨rfl, N0, rfl⟩
def Q_chsd0_2 (Z : State) (o : Addr) (q : Addr) (c1 : Addr) (c2 : Addr) (k1 : ClassId) (k2 : ClassId) (y0 : Int32) (y1 : Int32) (h0 : Heap) (vR : Option Value) (hR : Heap) (LR : List Loc) : Prop := vR = some (.int (0 : Int32)) ∧ Fr Z.heap.size LR ∧ hR = h0
set_option maxRecDepth 65536 in
set_option maxHeartbeats 40000000 in
theorem chsd0_2 (l : Launch) (Z : State) (a0 : Array Value) (hw : ∀ d ∈ tables_1, d.before a0 Z = true) (o : Addr) (q : Addr) (c1 : Addr) (c2 : Addr) (k1 : ClassId) (k2 : ClassId) (y0 : Int32) (y1 : Int32) (h0 : Heap) (O0 : Ext Z.heap h0) (Fo : Fld Z h0 o "com/example/match_before_write/matchbeforewrite/Representation" "content" "[B" (.ref c1)) (Fq : Fld Z h0 q "com/example/match_before_write/matchbeforewrite/Representation" "content" "[B" (.ref c2)) (V1 : Arv Z h0 c1 k1 .byte (0 : Int32) [] (.int (0 : Int32))) (V2 : Arv Z h0 c2 k2 .byte (2 : Int32) [(.int y0), (.int y1)] (.int (0 : Int32))) (nn : c1 ≠ c2) :
    Ctr l Z h0 (⟨"com/example/match_before_write/matchbeforewrite/Representation", "hasSameBytesAs", "(Lcom/example/match_before_write/matchbeforewrite/Representation;)Z"⟩ : MethodName) prog_13_method_13_code 2 (some .boolean) [] ({ frames := 1, cells := 0, slots := 0, locals := 14 } : Room) #[(.ref o), (.ref q)] (Q_chsd0_2 Z o q c1 c2 k1 k2 y0 y1 h0) := by
  refine enter (plainFor_of_name pn1) ?_
  intro pp ee ss mm below meth cc s₁ hx hby hml hZ hown hnm hret hlk X0 e0 hs0
  replace hown : ss.vm.findClass "com/example/match_before_write/matchbeforewrite/Representation" = some mm.cls := hown
  refine Go.cast (congrArg s₁.setTop (ef_chsd0_2 mm o q)) ?_
  have N0 := Fr.nil Z.heap.size
  show Go pp ee below _ (s₁.setTop (mkF mm 0 #[.val (.ref o), .val (.ref q)] []))
  refine Go.aloadN X0 hx (hb hby d9_0) rfl rfl (q := 1) rfl ?_
  refine Go.getF X0 hx hZ hown (host := "") (Or.inl (wd26 hw)) Via.refl e0 Fo (hb hby d9_1) (q := 4) rfl ?_
  intro T101 X101 e101
  refine Go.aloadN X101 hx (hb hby d9_4) rfl rfl (q := 5) rfl ?_
  refine Go.getF X101 hx hZ hown (host := "") (Or.inl (wd26 hw)) Via.refl e101 Fq (hb hby d9_5) (q := 8) rfl ?_
  intro T102 X102 e102
  refine Go.callS X102 hx hZ hown (wd61 hw) (wd62 hw) (wd63 hw) (wd64 hw) (by decide) (ceqd0_2 l Z a0 hw c1 c2 (k1) (k2) y0 y1 h0 O0 V1 V2 nn) e102 (by rw [hml]; rfl) (hb hby d9_8) (argsL := [(.ref c1), (.ref c2)]) (rest := []) (lenOf pd2 rfl) rfl rfl (W := 0) (by first | exact Nat.le_refl _ | decide) (by decide) (by decide) (by decide) (by decide) ?_
  intro v103 T103 L103 X103 hQ103
  obtain ⟨rfl, N103q, e103⟩ := hQ103
  have N103 := Fr.app N0 N103q
  exact Go.retI X103 hx hret hlk (by simp) rfl (hb hby d9_11) e103 (by decide) (by decide) ⟨rfl, N103, rfl⟩
def Q_ceqd0_3 (Z : State) (c1 : Addr) (c2 : Addr) (k1 : ClassId) (k2 : ClassId) (y0 : Int32) (y1 : Int32) (y2 : Int32) (h0 : Heap) (vR : Option Value) (hR : Heap) (LR : List Loc) : Prop := vR = some (.int (0 : Int32)) ∧ Fr Z.heap.size LR ∧ hR = h0
set_option maxRecDepth 65536 in
set_option maxHeartbeats 40000000 in
theorem ceqd0_3 (l : Launch) (Z : State) (a0 : Array Value) (hw : ∀ d ∈ tables_1, d.before a0 Z = true) (c1 : Addr) (c2 : Addr) (k1 : ClassId) (k2 : ClassId) (y0 : Int32) (y1 : Int32) (y2 : Int32) (h0 : Heap) (O0 : Ext Z.heap h0) (V1 : Arv Z h0 c1 k1 .byte (0 : Int32) [] (.int (0 : Int32))) (V2 : Arv Z h0 c2 k2 .byte (3 : Int32) [(.int y0), (.int y1), (.int y2)] (.int (0 : Int32))) (nn : c1 ≠ c2) :
    Ctr l Z h0 (⟨"java/util/Arrays", "equals", "([B[B)Z"⟩ : MethodName) jdk_65_method_89_code 3 (some .boolean) [] ({ frames := 0, cells := 0, slots := 0, locals := 0 } : Room) #[(.ref c1), (.ref c2)] (Q_ceqd0_3 Z c1 c2 k1 k2 y0 y1 y2 h0) := by
  refine enter (plainFor_of_name pn3) ?_
  intro pp ee ss mm below meth cc s₁ hx hby hml hZ hown hnm hret hlk X0 e0 hs0
  replace hown : ss.vm.findClass "java/util/Arrays" = some mm.cls := hown
  refine Go.cast (congrArg s₁.setTop (ef_ceqd0_3 mm c1 c2)) ?_
  have N0 := Fr.nil Z.heap.size
  show Go pp ee below _ (s₁.setTop (mkF mm 0 #[.val (.ref c1), .val (.ref c2), .unset] []))
  refine Go.aloadN X0 hx (hb hby d10_0) rfl rfl (q := 1) rfl ?_
  refine Go.aloadN X0 hx (hb hby d10_1) rfl rfl (q := 2) rfl ?_
  refine Go.acmp X0 hx rfl rfl (hb hby d10_2) (same := false) (decide_eq_false fun q => nn (Value.ref.inj q)) (q := 7) (by decide) (by decide) ?_
  refine Go.aloadN X0 hx (hb hby d10_7) rfl rfl (q := 8) rfl ?_
  refine Go.ifnullNo X0 hx (hb hby d10_8) (q := 11) rfl ?_
  refine Go.aloadN X0 hx (hb hby d10_11) rfl rfl (q := 12) rfl ?_
  refine Go.ifnonnullYes X0 hx (hb hby d10_12) (q := 17) (by decide) (by decide) ?_
  refine Go.aloadN X0 hx (hb hby d10_17) rfl rfl (q := 18) rfl ?_
  refine Go.alen X0 hx hZ e0 V1 (hb hby d10_18) ?_
  refine Go.istoreN X0 hx (hb hby d10_19) (l' := #[.val (.ref c1), .val (.ref c2), .val (.int (0 : Int32))]) rfl (q := 20) rfl ?_
  refine Go.aloadN X0 hx (hb hby d10_20) rfl rfl (q := 21) rfl ?_
  refine Go.alen X0 hx hZ e0 V2 (hb hby d10_21) ?_
  refine Go.iloadN X0 hx (hb hby d10_22) rfl (q := 23) rfl ?_
  refine Go.icmpNo X0 hx (hb hby d10_23) (by decide) (q := 26) rfl ?_
  refine Go.iconst X0 hx (hb hby d10_26) (r := (0 : Int32)) rfl (q := 27) rfl ?_
  exact Go.retI X0 hx hret hlk (by simp) rfl (hb hby d10_27) e0 (by decide) (by decide) ⟨rfl, N0, rfl⟩
def Q_csamd0_3 (Z : State) (c1 : Addr) (c2 : Addr) (k1 : ClassId) (k2 : ClassId) (y0 : Int32) (y1 : Int32) (y2 : Int32) (h0 : Heap) (vR : Option Value) (hR : Heap) (LR : List Loc) : Prop := vR = some (.int (0 : Int32)) ∧ Fr Z.heap.size LR ∧ hR = h0
set_option maxRecDepth 65536 in
set_option maxHeartbeats 40000000 in
theorem csamd0_3 (l : Launch) (Z : State) (a0 : Array Value) (hw : ∀ d ∈ tables_1, d.before a0 Z = true) (c1 : Addr) (c2 : Addr) (k1 : ClassId) (k2 : ClassId) (y0 : Int32) (y1 : Int32) (y2 : Int32) (h0 : Heap) (O0 : Ext Z.heap h0) (V1 : Arv Z h0 c1 k1 .byte (0 : Int32) [] (.int (0 : Int32))) (V2 : Arv Z h0 c2 k2 .byte (3 : Int32) [(.int y0), (.int y1), (.int y2)] (.int (0 : Int32))) :
    Ctr l Z h0 (⟨"com/example/match_before_write/matchbeforewrite/RepresentationOfPinLaw", "same", "([B[B)Z"⟩ : MethodName) method_3_code 2 (some .boolean) [] ({ frames := 0, cells := 0, slots := 0, locals := 0 } : Room) #[(.ref c1), (.ref c2)] (Q_csamd0_3 Z c1 c2 k1 k2 y0 y1 y2 h0) := by
  refine enter (plainFor_of_name pn0) ?_
  intro pp ee ss mm below meth cc s₁ hx hby hml hZ hown hnm hret hlk X0 e0 hs0
  replace hown : ss.vm.findClass "com/example/match_before_write/matchbeforewrite/RepresentationOfPinLaw" = some mm.cls := hown
  refine Go.cast (congrArg s₁.setTop (ef_csamd0_3 mm c1 c2)) ?_
  have N0 := Fr.nil Z.heap.size
  show Go pp ee below _ (s₁.setTop (mkF mm 0 #[.val (.ref c1), .val (.ref c2)] []))
  refine Go.aloadN X0 hx (hb hby d12_0) rfl rfl (q := 1) rfl ?_
  refine Go.alen X0 hx hZ e0 V1 (hb hby d12_1) ?_
  refine Go.aloadN X0 hx (hb hby d12_2) rfl rfl (q := 3) rfl ?_
  refine Go.alen X0 hx hZ e0 V2 (hb hby d12_3) ?_
  refine Go.icmpNo X0 hx (hb hby d12_4) (by decide) (q := 7) rfl ?_
  refine Go.iconst X0 hx (hb hby d12_7) (r := (0 : Int32)) rfl (q := 8) rfl ?_
  exact Go.retI X0 hx hret hlk (by simp) rfl (hb hby d12_8) e0 (by decide) (by decide) ⟨rfl, N0, rfl⟩
def Q_chsd0_3 (Z : State) (o : Addr) (q : Addr) (c1 : Addr) (c2 : Addr) (k1 : ClassId) (k2 : ClassId) (y0 : Int32) (y1 : Int32) (y2 : Int32) (h0 : Heap) (vR : Option Value) (hR : Heap) (LR : List Loc) : Prop := vR = some (.int (0 : Int32)) ∧ Fr Z.heap.size LR ∧ hR = h0
set_option maxRecDepth 65536 in
set_option maxHeartbeats 40000000 in
theorem chsd0_3 (l : Launch) (Z : State) (a0 : Array Value) (hw : ∀ d ∈ tables_1, d.before a0 Z = true) (o : Addr) (q : Addr) (c1 : Addr) (c2 : Addr) (k1 : ClassId) (k2 : ClassId) (y0 : Int32) (y1 : Int32) (y2 : Int32) (h0 : Heap) (O0 : Ext Z.heap h0) (Fo : Fld Z h0 o "com/example/match_before_write/matchbeforewrite/Representation" "content" "[B" (.ref c1)) (Fq : Fld Z h0 q "com/example/match_before_write/matchbeforewrite/Representation" "content" "[B" (.ref c2)) (V1 : Arv Z h0 c1 k1 .byte (0 : Int32) [] (.int (0 : Int32))) (V2 : Arv Z h0 c2 k2 .byte (3 : Int32) [(.int y0), (.int y1), (.int y2)] (.int (0 : Int32))) (nn : c1 ≠ c2) :
    Ctr l Z h0 (⟨"com/example/match_before_write/matchbeforewrite/Representation", "hasSameBytesAs", "(Lcom/example/match_before_write/matchbeforewrite/Representation;)Z"⟩ : MethodName) prog_13_method_13_code 2 (some .boolean) [] ({ frames := 1, cells := 0, slots := 0, locals := 14 } : Room) #[(.ref o), (.ref q)] (Q_chsd0_3 Z o q c1 c2 k1 k2 y0 y1 y2 h0) := by
  refine enter (plainFor_of_name pn1) ?_
  intro pp ee ss mm below meth cc s₁ hx hby hml hZ hown hnm hret hlk X0 e0 hs0
  replace hown : ss.vm.findClass "com/example/match_before_write/matchbeforewrite/Representation" = some mm.cls := hown
  refine Go.cast (congrArg s₁.setTop (ef_chsd0_3 mm o q)) ?_
  have N0 := Fr.nil Z.heap.size
  show Go pp ee below _ (s₁.setTop (mkF mm 0 #[.val (.ref o), .val (.ref q)] []))
  refine Go.aloadN X0 hx (hb hby d9_0) rfl rfl (q := 1) rfl ?_
  refine Go.getF X0 hx hZ hown (host := "") (Or.inl (wd26 hw)) Via.refl e0 Fo (hb hby d9_1) (q := 4) rfl ?_
  intro T101 X101 e101
  refine Go.aloadN X101 hx (hb hby d9_4) rfl rfl (q := 5) rfl ?_
  refine Go.getF X101 hx hZ hown (host := "") (Or.inl (wd26 hw)) Via.refl e101 Fq (hb hby d9_5) (q := 8) rfl ?_
  intro T102 X102 e102
  refine Go.callS X102 hx hZ hown (wd61 hw) (wd62 hw) (wd63 hw) (wd64 hw) (by decide) (ceqd0_3 l Z a0 hw c1 c2 (k1) (k2) y0 y1 y2 h0 O0 V1 V2 nn) e102 (by rw [hml]; rfl) (hb hby d9_8) (argsL := [(.ref c1), (.ref c2)]) (rest := []) (lenOf pd2 rfl) rfl rfl (W := 0) (by first | exact Nat.le_refl _ | decide) (by decide) (by decide) (by decide) (by decide) ?_
  intro v103 T103 L103 X103 hQ103
  obtain ⟨rfl, N103q, e103⟩ := hQ103
  have N103 := Fr.app N0 N103q
  exact Go.retI X103 hx hret hlk (by simp) rfl (hb hby d9_11) e103 (by decide) (by decide) ⟨rfl, N103, rfl⟩
def Q_cmis1_1 (Z : State) (c1 : Addr) (c2 : Addr) (k1 : ClassId) (k2 : ClassId) (x0 : Int32) (y0 : Int32) (h0 : Heap) (vR : Option Value) (hR : Heap) (LR : List Loc) : Prop := vR = some (.int (-1 : Int32)) ∧ Fr Z.heap.size LR ∧ hR = h0
set_option maxRecDepth 65536 in
set_option maxHeartbeats 40000000 in
theorem cmis1_1 (l : Launch) (Z : State) (a0 : Array Value) (hw : ∀ d ∈ tables_1, d.before a0 Z = true) (c1 : Addr) (c2 : Addr) (k1 : ClassId) (k2 : ClassId) (x0 : Int32) (y0 : Int32) (h0 : Heap) (O0 : Ext Z.heap h0) (V1 : Arv Z h0 c1 k1 .byte (1 : Int32) [(.int x0)] (.int (0 : Int32))) (V2 : Arv Z h0 c2 k2 .byte (1 : Int32) [(.int y0)] (.int (0 : Int32))) (xe0 : x0 = y0) :
    Ctr l Z h0 (⟨"jdk/internal/util/ArraysSupport", "mismatch", "([B[BI)I"⟩ : MethodName) jdk_48_method_13_code 4 (some .int) [] ({ frames := 0, cells := 0, slots := 0, locals := 0 } : Room) #[(.ref c1), (.ref c2), (.int (1 : Int32))] (Q_cmis1_1 Z c1 c2 k1 k2 x0 y0 h0) := by
  refine enter (plainFor_of_name pn2) ?_
  intro pp ee ss mm below meth cc s₁ hx hby hml hZ hown hnm hret hlk X0 e0 hs0
  replace hown : ss.vm.findClass "jdk/internal/util/ArraysSupport" = some mm.cls := hown
  refine Go.cast (congrArg s₁.setTop (ef_cmis1_1 mm c1 c2)) ?_
  have N0 := Fr.nil Z.heap.size
  show Go pp ee below _ (s₁.setTop (mkF mm 0 #[.val (.ref c1), .val (.ref c2), .val (.int (1 : Int32)), .unset] []))
  refine Go.iconst X0 hx (hb hby d11_0) (r := (0 : Int32)) rfl (q := 1) rfl ?_
  refine Go.istoreN X0 hx (hb hby d11_1) (l' := #[.val (.ref c1), .val (.ref c2), .val (.int (1 : Int32)), .val (.int (0 : Int32))]) rfl (q := 2) rfl ?_
  refine Go.iloadN X0 hx (hb hby d11_2) rfl (q := 3) rfl ?_
  refine Go.bipush X0 hx (hb hby d11_3) (r := (7 : Int32)) rfl (q := 5) rfl ?_
  refine Go.icmpYes X0 hx (hb hby d11_5) (by decide) (q := 49) (by decide) (by decide) ?_
  refine Go.iloadN X0 hx (hb hby d11_49) rfl (q := 50) rfl ?_
  refine Go.iloadN X0 hx (hb hby d11_50) rfl (q := 51) rfl ?_
  refine Go.icmpNo X0 hx (hb hby d11_51) (by decide) (q := 54) rfl ?_
  refine Go.aloadN X0 hx (hb hby d11_54) rfl rfl (q := 55) rfl ?_
  refine Go.iloadN X0 hx (hb hby d11_55) rfl (q := 56) rfl ?_
  refine Go.bal X0 hx hZ e0 V1 ⟨by decide, by decide⟩ (v := (.int x0)) rfl (hb hby d11_56) ?_
  refine Go.aloadN X0 hx (hb hby d11_57) rfl rfl (q := 58) rfl ?_
  refine Go.iloadN X0 hx (hb hby d11_58) rfl (q := 59) rfl ?_
  refine Go.bal X0 hx hZ e0 V2 ⟨by decide, by decide⟩ (v := (.int y0)) rfl (hb hby d11_59) ?_
  refine Go.icmpYes X0 hx (hb hby d11_60) (Jvm.Free.XT.ii_eq_t xe0) (q := 65) (by decide) (by decide) ?_
  refine Go.iinc X0 hx (hb hby d11_65) rfl (r := (1 : Int32)) rfl (l' := #[.val (.ref c1), .val (.ref c2), .val (.int (1 : Int32)), .val (.int (1 : Int32))]) rfl (q := 68) rfl ?_
  refine Go.goto X0 hx (hb hby d11_68) (q := 49) (by decide) (by decide) ?_
  refine Go.iloadN X0 hx (hb hby d11_49) rfl (q := 50) rfl ?_
  refine Go.iloadN X0 hx (hb hby d11_50) rfl (q := 51) rfl ?_
  refine Go.icmpYes X0 hx (hb hby d11_51) (by decide) (q := 71) (by decide) (by decide) ?_
  refine Go.iconst X0 hx (hb hby d11_71) (r := (-1 : Int32)) rfl (q := 72) rfl ?_
  exact Go.retI X0 hx hret hlk (Or.inl rfl) rfl (hb hby d11_72) e0 (by decide) (by decide) ⟨rfl, N0, rfl⟩
def Q_ceq1_1 (Z : State) (c1 : Addr) (c2 : Addr) (k1 : ClassId) (k2 : ClassId) (x0 : Int32) (y0 : Int32) (h0 : Heap) (vR : Option Value) (hR : Heap) (LR : List Loc) : Prop := vR = some (.int (1 : Int32)) ∧ Fr Z.heap.size LR ∧ hR = h0
set_option maxRecDepth 65536 in
set_option maxHeartbeats 40000000 in
theorem ceq1_1 (l : Launch) (Z : State) (a0 : Array Value) (hw : ∀ d ∈ tables_1, d.before a0 Z = true) (c1 : Addr) (c2 : Addr) (k1 : ClassId) (k2 : ClassId) (x0 : Int32) (y0 : Int32) (h0 : Heap) (O0 : Ext Z.heap h0) (V1 : Arv Z h0 c1 k1 .byte (1 : Int32) [(.int x0)] (.int (0 : Int32))) (V2 : Arv Z h0 c2 k2 .byte (1 : Int32) [(.int y0)] (.int (0 : Int32))) (nn : c1 ≠ c2) (xe0 : x0 = y0) :
    Ctr l Z h0 (⟨"java/util/Arrays", "equals", "([B[B)Z"⟩ : MethodName) jdk_65_method_89_code 3 (some .boolean) [] ({ frames := 1, cells := 0, slots := 0, locals := 15 } : Room) #[(.ref c1), (.ref c2)] (Q_ceq1_1 Z c1 c2 k1 k2 x0 y0 h0) := by
  refine enter (plainFor_of_name pn3) ?_
  intro pp ee ss mm below meth cc s₁ hx hby hml hZ hown hnm hret hlk X0 e0 hs0
  replace hown : ss.vm.findClass "java/util/Arrays" = some mm.cls := hown
  refine Go.cast (congrArg s₁.setTop (ef_ceq1_1 mm c1 c2)) ?_
  have N0 := Fr.nil Z.heap.size
  show Go pp ee below _ (s₁.setTop (mkF mm 0 #[.val (.ref c1), .val (.ref c2), .unset] []))
  refine Go.aloadN X0 hx (hb hby d10_0) rfl rfl (q := 1) rfl ?_
  refine Go.aloadN X0 hx (hb hby d10_1) rfl rfl (q := 2) rfl ?_
  refine Go.acmp X0 hx rfl rfl (hb hby d10_2) (same := false) (decide_eq_false fun q => nn (Value.ref.inj q)) (q := 7) (by decide) (by decide) ?_
  refine Go.aloadN X0 hx (hb hby d10_7) rfl rfl (q := 8) rfl ?_
  refine Go.ifnullNo X0 hx (hb hby d10_8) (q := 11) rfl ?_
  refine Go.aloadN X0 hx (hb hby d10_11) rfl rfl (q := 12) rfl ?_
  refine Go.ifnonnullYes X0 hx (hb hby d10_12) (q := 17) (by decide) (by decide) ?_
  refine Go.aloadN X0 hx (hb hby d10_17) rfl rfl (q := 18) rfl ?_
  refine Go.alen X0 hx hZ e0 V1 (hb hby d10_18) ?_
  refine Go.istoreN X0 hx (hb hby d10_19) (l' := #[.val (.ref c1), .val (.ref c2), .val (.int (1 : Int32))]) rfl (q := 20) rfl ?_
  refine Go.aloadN X0 hx (hb hby d10_20) rfl rfl (q := 21) rfl ?_
  refine Go.alen X0 hx hZ e0 V2 (hb hby d10_21) ?_
  refine Go.iloadN X0 hx (hb hby d10_22) rfl (q := 23) rfl ?_
  refine Go.icmpYes X0 hx (hb hby d10_23) (by decide) (q := 28) (by decide) (by decide) ?_
  refine Go.aloadN X0 hx (hb hby d10_28) rfl rfl (q := 29) rfl ?_
  refine Go.aloadN X0 hx (hb hby d10_29) rfl rfl (q := 30) rfl ?_
  refine Go.iloadN X0 hx (hb hby d10_30) rfl (q := 31) rfl ?_
  refine Go.callS X0 hx hZ hown (wd65 hw) (wd66 hw) (wd67 hw) (wd68 hw) (by decide) (cmis1_1 l Z a0 hw c1 c2 (k1) (k2) x0 y0 h0 O0 V1 V2 xe0) e0 (by rw [hml]; rfl) (hb hby d10_31) (argsL := [(.ref c1), (.ref c2), (.int (1 : Int32))]) (rest := []) (lenOf pd1 rfl) rfl rfl (W := 0) (by first | exact Nat.le_refl _ | decide) (by decide) (by decide) (by decide) (by decide) ?_
  intro v101 T101 L101 X101 hQ101
  obtain ⟨rfl, N101q, e101⟩ := hQ101
  have N101 := Fr.app N0 N101q
  refine Go.ifNo X101 hx (hb hby d10_34) (by decide) (q := 37) rfl ?_
  refine Go.iconst X101 hx (hb hby d10_37) (r := (1 : Int32)) rfl (q := 38) rfl ?_
  refine Go.goto X101 hx (hb hby d10_38) (q := 42) (by decide) (by decide) ?_
  exact Go.retI X101 hx hret hlk (by simp) rfl (hb hby d10_42) e101 (by decide) (by decide) ⟨rfl, N101, rfl⟩
def Q_csam1_1 (Z : State) (c1 : Addr) (c2 : Addr) (k1 : ClassId) (k2 : ClassId) (x0 : Int32) (y0 : Int32) (h0 : Heap) (vR : Option Value) (hR : Heap) (LR : List Loc) : Prop := vR = some (.int (1 : Int32)) ∧ Fr Z.heap.size LR ∧ hR = h0
set_option maxRecDepth 65536 in
set_option maxHeartbeats 40000000 in
theorem csam1_1 (l : Launch) (Z : State) (a0 : Array Value) (hw : ∀ d ∈ tables_1, d.before a0 Z = true) (c1 : Addr) (c2 : Addr) (k1 : ClassId) (k2 : ClassId) (x0 : Int32) (y0 : Int32) (h0 : Heap) (O0 : Ext Z.heap h0) (V1 : Arv Z h0 c1 k1 .byte (1 : Int32) [(.int x0)] (.int (0 : Int32))) (V2 : Arv Z h0 c2 k2 .byte (1 : Int32) [(.int y0)] (.int (0 : Int32))) (xe0 : x0 = y0) :
    Ctr l Z h0 (⟨"com/example/match_before_write/matchbeforewrite/RepresentationOfPinLaw", "same", "([B[B)Z"⟩ : MethodName) method_3_code 2 (some .boolean) [] ({ frames := 0, cells := 0, slots := 0, locals := 0 } : Room) #[(.ref c1), (.ref c2)] (Q_csam1_1 Z c1 c2 k1 k2 x0 y0 h0) := by
  refine enter (plainFor_of_name pn0) ?_
  intro pp ee ss mm below meth cc s₁ hx hby hml hZ hown hnm hret hlk X0 e0 hs0
  replace hown : ss.vm.findClass "com/example/match_before_write/matchbeforewrite/RepresentationOfPinLaw" = some mm.cls := hown
  refine Go.cast (congrArg s₁.setTop (ef_csam1_1 mm c1 c2)) ?_
  have N0 := Fr.nil Z.heap.size
  show Go pp ee below _ (s₁.setTop (mkF mm 0 #[.val (.ref c1), .val (.ref c2)] []))
  refine Go.aloadN X0 hx (hb hby d12_0) rfl rfl (q := 1) rfl ?_
  refine Go.alen X0 hx hZ e0 V1 (hb hby d12_1) ?_
  refine Go.aloadN X0 hx (hb hby d12_2) rfl rfl (q := 3) rfl ?_
  refine Go.alen X0 hx hZ e0 V2 (hb hby d12_3) ?_
  refine Go.icmpYes X0 hx (hb hby d12_4) (by decide) (q := 9) (by decide) (by decide) ?_
  refine Go.aloadN X0 hx (hb hby d12_9) rfl rfl (q := 10) rfl ?_
  refine Go.alen X0 hx hZ e0 V1 (hb hby d12_10) ?_
  refine Go.ifNo X0 hx (hb hby d12_11) (by decide) (q := 14) rfl ?_
  refine Go.aloadN X0 hx (hb hby d12_14) rfl rfl (q := 15) rfl ?_
  refine Go.iconst X0 hx (hb hby d12_15) (r := (0 : Int32)) rfl (q := 16) rfl ?_
  refine Go.bal X0 hx hZ e0 V1 ⟨by decide, by decide⟩ (v := (.int x0)) rfl (hb hby d12_16) ?_
  refine Go.aloadN X0 hx (hb hby d12_17) rfl rfl (q := 18) rfl ?_
  refine Go.iconst X0 hx (hb hby d12_18) (r := (0 : Int32)) rfl (q := 19) rfl ?_
  refine Go.bal X0 hx hZ e0 V2 ⟨by decide, by decide⟩ (v := (.int y0)) rfl (hb hby d12_19) ?_
  refine Go.icmpYes X0 hx (hb hby d12_20) (Jvm.Free.XT.ii_eq_t xe0) (q := 25) (by decide) (by decide) ?_
  refine Go.aloadN X0 hx (hb hby d12_25) rfl rfl (q := 26) rfl ?_
  refine Go.alen X0 hx hZ e0 V1 (hb hby d12_26) ?_
  refine Go.iconst X0 hx (hb hby d12_27) (r := (1 : Int32)) rfl (q := 28) rfl ?_
  refine Go.icmpYes X0 hx (hb hby d12_28) (by decide) (q := 42) (by decide) (by decide) ?_
  refine Go.aloadN X0 hx (hb hby d12_42) rfl rfl (q := 43) rfl ?_
  refine Go.alen X0 hx hZ e0 V1 (hb hby d12_43) ?_
  refine Go.iconst X0 hx (hb hby d12_44) (r := (2 : Int32)) rfl (q := 45) rfl ?_
  refine Go.icmpYes X0 hx (hb hby d12_45) (by decide) (q := 59) (by decide) (by decide) ?_
  refine Go.iconst X0 hx (hb hby d12_59) (r := (1 : Int32)) rfl (q := 60) rfl ?_
  exact Go.retI X0 hx hret hlk (by simp) rfl (hb hby d12_60) e0 (by decide) (by decide) ⟨rfl, N0, rfl⟩
def Q_chs1_1 (Z : State) (o : Addr) (q : Addr) (c1 : Addr) (c2 : Addr) (k1 : ClassId) (k2 : ClassId) (x0 : Int32) (y0 : Int32) (h0 : Heap) (vR : Option Value) (hR : Heap) (LR : List Loc) : Prop := vR = some (.int (1 : Int32)) ∧ Fr Z.heap.size LR ∧ hR = h0
set_option maxRecDepth 65536 in
set_option maxHeartbeats 40000000 in
theorem chs1_1 (l : Launch) (Z : State) (a0 : Array Value) (hw : ∀ d ∈ tables_1, d.before a0 Z = true) (o : Addr) (q : Addr) (c1 : Addr) (c2 : Addr) (k1 : ClassId) (k2 : ClassId) (x0 : Int32) (y0 : Int32) (h0 : Heap) (O0 : Ext Z.heap h0) (Fo : Fld Z h0 o "com/example/match_before_write/matchbeforewrite/Representation" "content" "[B" (.ref c1)) (Fq : Fld Z h0 q "com/example/match_before_write/matchbeforewrite/Representation" "content" "[B" (.ref c2)) (V1 : Arv Z h0 c1 k1 .byte (1 : Int32) [(.int x0)] (.int (0 : Int32))) (V2 : Arv Z h0 c2 k2 .byte (1 : Int32) [(.int y0)] (.int (0 : Int32))) (nn : c1 ≠ c2) (xe0 : x0 = y0) :
    Ctr l Z h0 (⟨"com/example/match_before_write/matchbeforewrite/Representation", "hasSameBytesAs", "(Lcom/example/match_before_write/matchbeforewrite/Representation;)Z"⟩ : MethodName) prog_13_method_13_code 2 (some .boolean) [] ({ frames := 2, cells := 0, slots := 0, locals := 29 } : Room) #[(.ref o), (.ref q)] (Q_chs1_1 Z o q c1 c2 k1 k2 x0 y0 h0) := by
  refine enter (plainFor_of_name pn1) ?_
  intro pp ee ss mm below meth cc s₁ hx hby hml hZ hown hnm hret hlk X0 e0 hs0
  replace hown : ss.vm.findClass "com/example/match_before_write/matchbeforewrite/Representation" = some mm.cls := hown
  refine Go.cast (congrArg s₁.setTop (ef_chs1_1 mm o q)) ?_
  have N0 := Fr.nil Z.heap.size
  show Go pp ee below _ (s₁.setTop (mkF mm 0 #[.val (.ref o), .val (.ref q)] []))
  refine Go.aloadN X0 hx (hb hby d9_0) rfl rfl (q := 1) rfl ?_
  refine Go.getF X0 hx hZ hown (host := "") (Or.inl (wd26 hw)) Via.refl e0 Fo (hb hby d9_1) (q := 4) rfl ?_
  intro T101 X101 e101
  refine Go.aloadN X101 hx (hb hby d9_4) rfl rfl (q := 5) rfl ?_
  refine Go.getF X101 hx hZ hown (host := "") (Or.inl (wd26 hw)) Via.refl e101 Fq (hb hby d9_5) (q := 8) rfl ?_
  intro T102 X102 e102
  refine Go.callS X102 hx hZ hown (wd61 hw) (wd62 hw) (wd63 hw) (wd64 hw) (by decide) (ceq1_1 l Z a0 hw c1 c2 (k1) (k2) x0 y0 h0 O0 V1 V2 nn xe0) e102 (by rw [hml]; rfl) (hb hby d9_8) (argsL := [(.ref c1), (.ref c2)]) (rest := []) (lenOf pd2 rfl) rfl rfl (W := 0) (by first | exact Nat.le_refl _ | decide) (by decide) (by decide) (by decide) (by decide) ?_
  intro v103 T103 L103 X103 hQ103
  obtain ⟨rfl, N103q, e103⟩ := hQ103
  have N103 := Fr.app N0 N103q
  exact Go.retI X103 hx hret hlk (by simp) rfl (hb hby d9_11) e103 (by decide) (by decide) ⟨rfl, N103, rfl⟩
def Q_cmis1_0 (Z : State) (c1 : Addr) (c2 : Addr) (k1 : ClassId) (k2 : ClassId) (x0 : Int32) (y0 : Int32) (h0 : Heap) (vR : Option Value) (hR : Heap) (LR : List Loc) : Prop := vR = some (.int (0 : Int32)) ∧ Fr Z.heap.size LR ∧ hR = h0
set_option maxRecDepth 65536 in
set_option maxHeartbeats 40000000 in
theorem cmis1_0 (l : Launch) (Z : State) (a0 : Array Value) (hw : ∀ d ∈ tables_1, d.before a0 Z = true) (c1 : Addr) (c2 : Addr) (k1 : ClassId) (k2 : ClassId) (x0 : Int32) (y0 : Int32) (h0 : Heap) (O0 : Ext Z.heap h0) (V1 : Arv Z h0 c1 k1 .byte (1 : Int32) [(.int x0)] (.int (0 : Int32))) (V2 : Arv Z h0 c2 k2 .byte (1 : Int32) [(.int y0)] (.int (0 : Int32))) (ne : ¬ (x0 = y0)) :
    Ctr l Z h0 (⟨"jdk/internal/util/ArraysSupport", "mismatch", "([B[BI)I"⟩ : MethodName) jdk_48_method_13_code 4 (some .int) [] ({ frames := 0, cells := 0, slots := 0, locals := 0 } : Room) #[(.ref c1), (.ref c2), (.int (1 : Int32))] (Q_cmis1_0 Z c1 c2 k1 k2 x0 y0 h0) := by
  refine enter (plainFor_of_name pn2) ?_
  intro pp ee ss mm below meth cc s₁ hx hby hml hZ hown hnm hret hlk X0 e0 hs0
  replace hown : ss.vm.findClass "jdk/internal/util/ArraysSupport" = some mm.cls := hown
  refine Go.cast (congrArg s₁.setTop (ef_cmis1_0 mm c1 c2)) ?_
  have N0 := Fr.nil Z.heap.size
  show Go pp ee below _ (s₁.setTop (mkF mm 0 #[.val (.ref c1), .val (.ref c2), .val (.int (1 : Int32)), .unset] []))
  refine Go.iconst X0 hx (hb hby d11_0) (r := (0 : Int32)) rfl (q := 1) rfl ?_
  refine Go.istoreN X0 hx (hb hby d11_1) (l' := #[.val (.ref c1), .val (.ref c2), .val (.int (1 : Int32)), .val (.int (0 : Int32))]) rfl (q := 2) rfl ?_
  refine Go.iloadN X0 hx (hb hby d11_2) rfl (q := 3) rfl ?_
  refine Go.bipush X0 hx (hb hby d11_3) (r := (7 : Int32)) rfl (q := 5) rfl ?_
  refine Go.icmpYes X0 hx (hb hby d11_5) (by decide) (q := 49) (by decide) (by decide) ?_
  refine Go.iloadN X0 hx (hb hby d11_49) rfl (q := 50) rfl ?_
  refine Go.iloadN X0 hx (hb hby d11_50) rfl (q := 51) rfl ?_
  refine Go.icmpNo X0 hx (hb hby d11_51) (by decide) (q := 54) rfl ?_
  refine Go.aloadN X0 hx (hb hby d11_54) rfl rfl (q := 55) rfl ?_
  refine Go.iloadN X0 hx (hb hby d11_55) rfl (q := 56) rfl ?_
  refine Go.bal X0 hx hZ e0 V1 ⟨by decide, by decide⟩ (v := (.int x0)) rfl (hb hby d11_56) ?_
  refine Go.aloadN X0 hx (hb hby d11_57) rfl rfl (q := 58) rfl ?_
  refine Go.iloadN X0 hx (hb hby d11_58) rfl (q := 59) rfl ?_
  refine Go.bal X0 hx hZ e0 V2 ⟨by decide, by decide⟩ (v := (.int y0)) rfl (hb hby d11_59) ?_
  refine Go.icmpNo X0 hx (hb hby d11_60) (Jvm.Free.XT.ii_eq_f ne) (q := 63) rfl ?_
  refine Go.iloadN X0 hx (hb hby d11_63) rfl (q := 64) rfl ?_
  exact Go.retI X0 hx hret hlk (Or.inl rfl) rfl (hb hby d11_64) e0 (by decide) (by decide) ⟨rfl, N0, rfl⟩
def Q_ceq1_0 (Z : State) (c1 : Addr) (c2 : Addr) (k1 : ClassId) (k2 : ClassId) (x0 : Int32) (y0 : Int32) (h0 : Heap) (vR : Option Value) (hR : Heap) (LR : List Loc) : Prop := vR = some (.int (0 : Int32)) ∧ Fr Z.heap.size LR ∧ hR = h0
set_option maxRecDepth 65536 in
set_option maxHeartbeats 40000000 in
theorem ceq1_0 (l : Launch) (Z : State) (a0 : Array Value) (hw : ∀ d ∈ tables_1, d.before a0 Z = true) (c1 : Addr) (c2 : Addr) (k1 : ClassId) (k2 : ClassId) (x0 : Int32) (y0 : Int32) (h0 : Heap) (O0 : Ext Z.heap h0) (V1 : Arv Z h0 c1 k1 .byte (1 : Int32) [(.int x0)] (.int (0 : Int32))) (V2 : Arv Z h0 c2 k2 .byte (1 : Int32) [(.int y0)] (.int (0 : Int32))) (nn : c1 ≠ c2) (ne : ¬ (x0 = y0)) :
    Ctr l Z h0 (⟨"java/util/Arrays", "equals", "([B[B)Z"⟩ : MethodName) jdk_65_method_89_code 3 (some .boolean) [] ({ frames := 1, cells := 0, slots := 0, locals := 15 } : Room) #[(.ref c1), (.ref c2)] (Q_ceq1_0 Z c1 c2 k1 k2 x0 y0 h0) := by
  refine enter (plainFor_of_name pn3) ?_
  intro pp ee ss mm below meth cc s₁ hx hby hml hZ hown hnm hret hlk X0 e0 hs0
  replace hown : ss.vm.findClass "java/util/Arrays" = some mm.cls := hown
  refine Go.cast (congrArg s₁.setTop (ef_ceq1_0 mm c1 c2)) ?_
  have N0 := Fr.nil Z.heap.size
  show Go pp ee below _ (s₁.setTop (mkF mm 0 #[.val (.ref c1), .val (.ref c2), .unset] []))
  refine Go.aloadN X0 hx (hb hby d10_0) rfl rfl (q := 1) rfl ?_
  refine Go.aloadN X0 hx (hb hby d10_1) rfl rfl (q := 2) rfl ?_
  refine Go.acmp X0 hx rfl rfl (hb hby d10_2) (same := false) (decide_eq_false fun q => nn (Value.ref.inj q)) (q := 7) (by decide) (by decide) ?_
  refine Go.aloadN X0 hx (hb hby d10_7) rfl rfl (q := 8) rfl ?_
  refine Go.ifnullNo X0 hx (hb hby d10_8) (q := 11) rfl ?_
  refine Go.aloadN X0 hx (hb hby d10_11) rfl rfl (q := 12) rfl ?_
  refine Go.ifnonnullYes X0 hx (hb hby d10_12) (q := 17) (by decide) (by decide) ?_
  refine Go.aloadN X0 hx (hb hby d10_17) rfl rfl (q := 18) rfl ?_
  refine Go.alen X0 hx hZ e0 V1 (hb hby d10_18) ?_
  refine Go.istoreN X0 hx (hb hby d10_19) (l' := #[.val (.ref c1), .val (.ref c2), .val (.int (1 : Int32))]) rfl (q := 20) rfl ?_
  refine Go.aloadN X0 hx (hb hby d10_20) rfl rfl (q := 21) rfl ?_
  refine Go.alen X0 hx hZ e0 V2 (hb hby d10_21) ?_
  refine Go.iloadN X0 hx (hb hby d10_22) rfl (q := 23) rfl ?_
  refine Go.icmpYes X0 hx (hb hby d10_23) (by decide) (q := 28) (by decide) (by decide) ?_
  refine Go.aloadN X0 hx (hb hby d10_28) rfl rfl (q := 29) rfl ?_
  refine Go.aloadN X0 hx (hb hby d10_29) rfl rfl (q := 30) rfl ?_
  refine Go.iloadN X0 hx (hb hby d10_30) rfl (q := 31) rfl ?_
  refine Go.callS X0 hx hZ hown (wd65 hw) (wd66 hw) (wd67 hw) (wd68 hw) (by decide) (cmis1_0 l Z a0 hw c1 c2 (k1) (k2) x0 y0 h0 O0 V1 V2 ne) e0 (by rw [hml]; rfl) (hb hby d10_31) (argsL := [(.ref c1), (.ref c2), (.int (1 : Int32))]) (rest := []) (lenOf pd1 rfl) rfl rfl (W := 0) (by first | exact Nat.le_refl _ | decide) (by decide) (by decide) (by decide) (by decide) ?_
  intro v101 T101 L101 X101 hQ101
  obtain ⟨rfl, N101q, e101⟩ := hQ101
  have N101 := Fr.app N0 N101q
  refine Go.ifYes X101 hx (hb hby d10_34) (by decide) (q := 41) (by decide) (by decide) ?_
  refine Go.iconst X101 hx (hb hby d10_41) (r := (0 : Int32)) rfl (q := 42) rfl ?_
  exact Go.retI X101 hx hret hlk (by simp) rfl (hb hby d10_42) e101 (by decide) (by decide) ⟨rfl, N101, rfl⟩
def Q_csam1_0 (Z : State) (c1 : Addr) (c2 : Addr) (k1 : ClassId) (k2 : ClassId) (x0 : Int32) (y0 : Int32) (h0 : Heap) (vR : Option Value) (hR : Heap) (LR : List Loc) : Prop := vR = some (.int (0 : Int32)) ∧ Fr Z.heap.size LR ∧ hR = h0
set_option maxRecDepth 65536 in
set_option maxHeartbeats 40000000 in
theorem csam1_0 (l : Launch) (Z : State) (a0 : Array Value) (hw : ∀ d ∈ tables_1, d.before a0 Z = true) (c1 : Addr) (c2 : Addr) (k1 : ClassId) (k2 : ClassId) (x0 : Int32) (y0 : Int32) (h0 : Heap) (O0 : Ext Z.heap h0) (V1 : Arv Z h0 c1 k1 .byte (1 : Int32) [(.int x0)] (.int (0 : Int32))) (V2 : Arv Z h0 c2 k2 .byte (1 : Int32) [(.int y0)] (.int (0 : Int32))) (ne : ¬ (x0 = y0)) :
    Ctr l Z h0 (⟨"com/example/match_before_write/matchbeforewrite/RepresentationOfPinLaw", "same", "([B[B)Z"⟩ : MethodName) method_3_code 2 (some .boolean) [] ({ frames := 0, cells := 0, slots := 0, locals := 0 } : Room) #[(.ref c1), (.ref c2)] (Q_csam1_0 Z c1 c2 k1 k2 x0 y0 h0) := by
  refine enter (plainFor_of_name pn0) ?_
  intro pp ee ss mm below meth cc s₁ hx hby hml hZ hown hnm hret hlk X0 e0 hs0
  replace hown : ss.vm.findClass "com/example/match_before_write/matchbeforewrite/RepresentationOfPinLaw" = some mm.cls := hown
  refine Go.cast (congrArg s₁.setTop (ef_csam1_0 mm c1 c2)) ?_
  have N0 := Fr.nil Z.heap.size
  show Go pp ee below _ (s₁.setTop (mkF mm 0 #[.val (.ref c1), .val (.ref c2)] []))
  refine Go.aloadN X0 hx (hb hby d12_0) rfl rfl (q := 1) rfl ?_
  refine Go.alen X0 hx hZ e0 V1 (hb hby d12_1) ?_
  refine Go.aloadN X0 hx (hb hby d12_2) rfl rfl (q := 3) rfl ?_
  refine Go.alen X0 hx hZ e0 V2 (hb hby d12_3) ?_
  refine Go.icmpYes X0 hx (hb hby d12_4) (by decide) (q := 9) (by decide) (by decide) ?_
  refine Go.aloadN X0 hx (hb hby d12_9) rfl rfl (q := 10) rfl ?_
  refine Go.alen X0 hx hZ e0 V1 (hb hby d12_10) ?_
  refine Go.ifNo X0 hx (hb hby d12_11) (by decide) (q := 14) rfl ?_
  refine Go.aloadN X0 hx (hb hby d12_14) rfl rfl (q := 15) rfl ?_
  refine Go.iconst X0 hx (hb hby d12_15) (r := (0 : Int32)) rfl (q := 16) rfl ?_
  refine Go.bal X0 hx hZ e0 V1 ⟨by decide, by decide⟩ (v := (.int x0)) rfl (hb hby d12_16) ?_
  refine Go.aloadN X0 hx (hb hby d12_17) rfl rfl (q := 18) rfl ?_
  refine Go.iconst X0 hx (hb hby d12_18) (r := (0 : Int32)) rfl (q := 19) rfl ?_
  refine Go.bal X0 hx hZ e0 V2 ⟨by decide, by decide⟩ (v := (.int y0)) rfl (hb hby d12_19) ?_
  refine Go.icmpNo X0 hx (hb hby d12_20) (Jvm.Free.XT.ii_eq_f ne) (q := 23) rfl ?_
  refine Go.iconst X0 hx (hb hby d12_23) (r := (0 : Int32)) rfl (q := 24) rfl ?_
  exact Go.retI X0 hx hret hlk (by simp) rfl (hb hby d12_24) e0 (by decide) (by decide) ⟨rfl, N0, rfl⟩
def Q_chs1_0 (Z : State) (o : Addr) (q : Addr) (c1 : Addr) (c2 : Addr) (k1 : ClassId) (k2 : ClassId) (x0 : Int32) (y0 : Int32) (h0 : Heap) (vR : Option Value) (hR : Heap) (LR : List Loc) : Prop := vR = some (.int (0 : Int32)) ∧ Fr Z.heap.size LR ∧ hR = h0
set_option maxRecDepth 65536 in
set_option maxHeartbeats 40000000 in
theorem chs1_0 (l : Launch) (Z : State) (a0 : Array Value) (hw : ∀ d ∈ tables_1, d.before a0 Z = true) (o : Addr) (q : Addr) (c1 : Addr) (c2 : Addr) (k1 : ClassId) (k2 : ClassId) (x0 : Int32) (y0 : Int32) (h0 : Heap) (O0 : Ext Z.heap h0) (Fo : Fld Z h0 o "com/example/match_before_write/matchbeforewrite/Representation" "content" "[B" (.ref c1)) (Fq : Fld Z h0 q "com/example/match_before_write/matchbeforewrite/Representation" "content" "[B" (.ref c2)) (V1 : Arv Z h0 c1 k1 .byte (1 : Int32) [(.int x0)] (.int (0 : Int32))) (V2 : Arv Z h0 c2 k2 .byte (1 : Int32) [(.int y0)] (.int (0 : Int32))) (nn : c1 ≠ c2) (ne : ¬ (x0 = y0)) :
    Ctr l Z h0 (⟨"com/example/match_before_write/matchbeforewrite/Representation", "hasSameBytesAs", "(Lcom/example/match_before_write/matchbeforewrite/Representation;)Z"⟩ : MethodName) prog_13_method_13_code 2 (some .boolean) [] ({ frames := 2, cells := 0, slots := 0, locals := 29 } : Room) #[(.ref o), (.ref q)] (Q_chs1_0 Z o q c1 c2 k1 k2 x0 y0 h0) := by
  refine enter (plainFor_of_name pn1) ?_
  intro pp ee ss mm below meth cc s₁ hx hby hml hZ hown hnm hret hlk X0 e0 hs0
  replace hown : ss.vm.findClass "com/example/match_before_write/matchbeforewrite/Representation" = some mm.cls := hown
  refine Go.cast (congrArg s₁.setTop (ef_chs1_0 mm o q)) ?_
  have N0 := Fr.nil Z.heap.size
  show Go pp ee below _ (s₁.setTop (mkF mm 0 #[.val (.ref o), .val (.ref q)] []))
  refine Go.aloadN X0 hx (hb hby d9_0) rfl rfl (q := 1) rfl ?_
  refine Go.getF X0 hx hZ hown (host := "") (Or.inl (wd26 hw)) Via.refl e0 Fo (hb hby d9_1) (q := 4) rfl ?_
  intro T101 X101 e101
  refine Go.aloadN X101 hx (hb hby d9_4) rfl rfl (q := 5) rfl ?_
  refine Go.getF X101 hx hZ hown (host := "") (Or.inl (wd26 hw)) Via.refl e101 Fq (hb hby d9_5) (q := 8) rfl ?_
  intro T102 X102 e102
  refine Go.callS X102 hx hZ hown (wd61 hw) (wd62 hw) (wd63 hw) (wd64 hw) (by decide) (ceq1_0 l Z a0 hw c1 c2 (k1) (k2) x0 y0 h0 O0 V1 V2 nn ne) e102 (by rw [hml]; rfl) (hb hby d9_8) (argsL := [(.ref c1), (.ref c2)]) (rest := []) (lenOf pd2 rfl) rfl rfl (W := 0) (by first | exact Nat.le_refl _ | decide) (by decide) (by decide) (by decide) (by decide) ?_
  intro v103 T103 L103 X103 hQ103
  obtain ⟨rfl, N103q, e103⟩ := hQ103
  have N103 := Fr.app N0 N103q
  exact Go.retI X103 hx hret hlk (by simp) rfl (hb hby d9_11) e103 (by decide) (by decide) ⟨rfl, N103, rfl⟩
def Q_ceqd1_0 (Z : State) (c1 : Addr) (c2 : Addr) (k1 : ClassId) (k2 : ClassId) (x0 : Int32) (h0 : Heap) (vR : Option Value) (hR : Heap) (LR : List Loc) : Prop := vR = some (.int (0 : Int32)) ∧ Fr Z.heap.size LR ∧ hR = h0
set_option maxRecDepth 65536 in
set_option maxHeartbeats 40000000 in
theorem ceqd1_0 (l : Launch) (Z : State) (a0 : Array Value) (hw : ∀ d ∈ tables_1, d.before a0 Z = true) (c1 : Addr) (c2 : Addr) (k1 : ClassId) (k2 : ClassId) (x0 : Int32) (h0 : Heap) (O0 : Ext Z.heap h0) (V1 : Arv Z h0 c1 k1 .byte (1 : Int32) [(.int x0)] (.int (0 : Int32))) (V2 : Arv Z h0 c2 k2 .byte (0 : Int32) [] (.int (0 : Int32))) (nn : c1 ≠ c2) :
    Ctr l Z h0 (⟨"java/util/Arrays", "equals", "([B[B)Z"⟩ : MethodName) jdk_65_method_89_code 3 (some .boolean) [] ({ frames := 0, cells := 0, slots := 0, locals := 0 } : Room) #[(.ref c1), (.ref c2)] (Q_ceqd1_0 Z c1 c2 k1 k2 x0 h0) := by
  refine enter (plainFor_of_name pn3) ?_
  intro pp ee ss mm below meth cc s₁ hx hby hml hZ hown hnm hret hlk X0 e0 hs0
  replace hown : ss.vm.findClass "java/util/Arrays" = some mm.cls := hown
  refine Go.cast (congrArg s₁.setTop (ef_ceqd1_0 mm c1 c2)) ?_
  have N0 := Fr.nil Z.heap.size
  show Go pp ee below _ (s₁.setTop (mkF mm 0 #[.val (.ref c1), .val (.ref c2), .unset] []))
  refine Go.aloadN X0 hx (hb hby d10_0) rfl rfl (q := 1) rfl ?_
  refine Go.aloadN X0 hx (hb hby d10_1) rfl rfl (q := 2) rfl ?_
  refine Go.acmp X0 hx rfl rfl (hb hby d10_2) (same := false) (decide_eq_false fun q => nn (Value.ref.inj q)) (q := 7) (by decide) (by decide) ?_
  refine Go.aloadN X0 hx (hb hby d10_7) rfl rfl (q := 8) rfl ?_
  refine Go.ifnullNo X0 hx (hb hby d10_8) (q := 11) rfl ?_
  refine Go.aloadN X0 hx (hb hby d10_11) rfl rfl (q := 12) rfl ?_
  refine Go.ifnonnullYes X0 hx (hb hby d10_12) (q := 17) (by decide) (by decide) ?_
  refine Go.aloadN X0 hx (hb hby d10_17) rfl rfl (q := 18) rfl ?_
  refine Go.alen X0 hx hZ e0 V1 (hb hby d10_18) ?_
  refine Go.istoreN X0 hx (hb hby d10_19) (l' := #[.val (.ref c1), .val (.ref c2), .val (.int (1 : Int32))]) rfl (q := 20) rfl ?_
  refine Go.aloadN X0 hx (hb hby d10_20) rfl rfl (q := 21) rfl ?_
  refine Go.alen X0 hx hZ e0 V2 (hb hby d10_21) ?_
  refine Go.iloadN X0 hx (hb hby d10_22) rfl (q := 23) rfl ?_
  refine Go.icmpNo X0 hx (hb hby d10_23) (by decide) (q := 26) rfl ?_
  refine Go.iconst X0 hx (hb hby d10_26) (r := (0 : Int32)) rfl (q := 27) rfl ?_
  exact Go.retI X0 hx hret hlk (by simp) rfl (hb hby d10_27) e0 (by decide) (by decide) ⟨rfl, N0, rfl⟩
def Q_csamd1_0 (Z : State) (c1 : Addr) (c2 : Addr) (k1 : ClassId) (k2 : ClassId) (x0 : Int32) (h0 : Heap) (vR : Option Value) (hR : Heap) (LR : List Loc) : Prop := vR = some (.int (0 : Int32)) ∧ Fr Z.heap.size LR ∧ hR = h0
set_option maxRecDepth 65536 in
set_option maxHeartbeats 40000000 in
theorem csamd1_0 (l : Launch) (Z : State) (a0 : Array Value) (hw : ∀ d ∈ tables_1, d.before a0 Z = true) (c1 : Addr) (c2 : Addr) (k1 : ClassId) (k2 : ClassId) (x0 : Int32) (h0 : Heap) (O0 : Ext Z.heap h0) (V1 : Arv Z h0 c1 k1 .byte (1 : Int32) [(.int x0)] (.int (0 : Int32))) (V2 : Arv Z h0 c2 k2 .byte (0 : Int32) [] (.int (0 : Int32))) :
    Ctr l Z h0 (⟨"com/example/match_before_write/matchbeforewrite/RepresentationOfPinLaw", "same", "([B[B)Z"⟩ : MethodName) method_3_code 2 (some .boolean) [] ({ frames := 0, cells := 0, slots := 0, locals := 0 } : Room) #[(.ref c1), (.ref c2)] (Q_csamd1_0 Z c1 c2 k1 k2 x0 h0) := by
  refine enter (plainFor_of_name pn0) ?_
  intro pp ee ss mm below meth cc s₁ hx hby hml hZ hown hnm hret hlk X0 e0 hs0
  replace hown : ss.vm.findClass "com/example/match_before_write/matchbeforewrite/RepresentationOfPinLaw" = some mm.cls := hown
  refine Go.cast (congrArg s₁.setTop (ef_csamd1_0 mm c1 c2)) ?_
  have N0 := Fr.nil Z.heap.size
  show Go pp ee below _ (s₁.setTop (mkF mm 0 #[.val (.ref c1), .val (.ref c2)] []))
  refine Go.aloadN X0 hx (hb hby d12_0) rfl rfl (q := 1) rfl ?_
  refine Go.alen X0 hx hZ e0 V1 (hb hby d12_1) ?_
  refine Go.aloadN X0 hx (hb hby d12_2) rfl rfl (q := 3) rfl ?_
  refine Go.alen X0 hx hZ e0 V2 (hb hby d12_3) ?_
  refine Go.icmpNo X0 hx (hb hby d12_4) (by decide) (q := 7) rfl ?_
  refine Go.iconst X0 hx (hb hby d12_7) (r := (0 : Int32)) rfl (q := 8) rfl ?_
  exact Go.retI X0 hx hret hlk (by simp) rfl (hb hby d12_8) e0 (by decide) (by decide) ⟨rfl, N0, rfl⟩
def Q_chsd1_0 (Z : State) (o : Addr) (q : Addr) (c1 : Addr) (c2 : Addr) (k1 : ClassId) (k2 : ClassId) (x0 : Int32) (h0 : Heap) (vR : Option Value) (hR : Heap) (LR : List Loc) : Prop := vR = some (.int (0 : Int32)) ∧ Fr Z.heap.size LR ∧ hR = h0
set_option maxRecDepth 65536 in
set_option maxHeartbeats 40000000 in
theorem chsd1_0 (l : Launch) (Z : State) (a0 : Array Value) (hw : ∀ d ∈ tables_1, d.before a0 Z = true) (o : Addr) (q : Addr) (c1 : Addr) (c2 : Addr) (k1 : ClassId) (k2 : ClassId) (x0 : Int32) (h0 : Heap) (O0 : Ext Z.heap h0) (Fo : Fld Z h0 o "com/example/match_before_write/matchbeforewrite/Representation" "content" "[B" (.ref c1)) (Fq : Fld Z h0 q "com/example/match_before_write/matchbeforewrite/Representation" "content" "[B" (.ref c2)) (V1 : Arv Z h0 c1 k1 .byte (1 : Int32) [(.int x0)] (.int (0 : Int32))) (V2 : Arv Z h0 c2 k2 .byte (0 : Int32) [] (.int (0 : Int32))) (nn : c1 ≠ c2) :
    Ctr l Z h0 (⟨"com/example/match_before_write/matchbeforewrite/Representation", "hasSameBytesAs", "(Lcom/example/match_before_write/matchbeforewrite/Representation;)Z"⟩ : MethodName) prog_13_method_13_code 2 (some .boolean) [] ({ frames := 1, cells := 0, slots := 0, locals := 14 } : Room) #[(.ref o), (.ref q)] (Q_chsd1_0 Z o q c1 c2 k1 k2 x0 h0) := by
  refine enter (plainFor_of_name pn1) ?_
  intro pp ee ss mm below meth cc s₁ hx hby hml hZ hown hnm hret hlk X0 e0 hs0
  replace hown : ss.vm.findClass "com/example/match_before_write/matchbeforewrite/Representation" = some mm.cls := hown
  refine Go.cast (congrArg s₁.setTop (ef_chsd1_0 mm o q)) ?_
  have N0 := Fr.nil Z.heap.size
  show Go pp ee below _ (s₁.setTop (mkF mm 0 #[.val (.ref o), .val (.ref q)] []))
  refine Go.aloadN X0 hx (hb hby d9_0) rfl rfl (q := 1) rfl ?_
  refine Go.getF X0 hx hZ hown (host := "") (Or.inl (wd26 hw)) Via.refl e0 Fo (hb hby d9_1) (q := 4) rfl ?_
  intro T101 X101 e101
  refine Go.aloadN X101 hx (hb hby d9_4) rfl rfl (q := 5) rfl ?_
  refine Go.getF X101 hx hZ hown (host := "") (Or.inl (wd26 hw)) Via.refl e101 Fq (hb hby d9_5) (q := 8) rfl ?_
  intro T102 X102 e102
  refine Go.callS X102 hx hZ hown (wd61 hw) (wd62 hw) (wd63 hw) (wd64 hw) (by decide) (ceqd1_0 l Z a0 hw c1 c2 (k1) (k2) x0 h0 O0 V1 V2 nn) e102 (by rw [hml]; rfl) (hb hby d9_8) (argsL := [(.ref c1), (.ref c2)]) (rest := []) (lenOf pd2 rfl) rfl rfl (W := 0) (by first | exact Nat.le_refl _ | decide) (by decide) (by decide) (by decide) (by decide) ?_
  intro v103 T103 L103 X103 hQ103
  obtain ⟨rfl, N103q, e103⟩ := hQ103
  have N103 := Fr.app N0 N103q
  exact Go.retI X103 hx hret hlk (by simp) rfl (hb hby d9_11) e103 (by decide) (by decide) ⟨rfl, N103, rfl⟩
def Q_ceqd1_2 (Z : State) (c1 : Addr) (c2 : Addr) (k1 : ClassId) (k2 : ClassId) (x0 : Int32) (y0 : Int32) (y1 : Int32) (h0 : Heap) (vR : Option Value) (hR : Heap) (LR : List Loc) : Prop := vR = some (.int (0 : Int32)) ∧ Fr Z.heap.size LR ∧ hR = h0
set_option maxRecDepth 65536 in
set_option maxHeartbeats 40000000 in
theorem ceqd1_2 (l : Launch) (Z : State) (a0 : Array Value) (hw : ∀ d ∈ tables_1, d.before a0 Z = true) (c1 : Addr) (c2 : Addr) (k1 : ClassId) (k2 : ClassId) (x0 : Int32) (y0 : Int32) (y1 : Int32) (h0 : Heap) (O0 : Ext Z.heap h0) (V1 : Arv Z h0 c1 k1 .byte (1 : Int32) [(.int x0)] (.int (0 : Int32))) (V2 : Arv Z h0 c2 k2 .byte (2 : Int32) [(.int y0), (.int y1)] (.int (0 : Int32))) (nn : c1 ≠ c2) :
    Ctr l Z h0 (⟨"java/util/Arrays", "equals", "([B[B)Z"⟩ : MethodName) jdk_65_method_89_code 3 (some .boolean) [] ({ frames := 0, cells := 0, slots := 0, locals := 0 } : Room) #[(.ref c1), (.ref c2)] (Q_ceqd1_2 Z c1 c2 k1 k2 x0 y0 y1 h0) := by
  refine enter (plainFor_of_name pn3) ?_
  intro pp ee ss mm below meth cc s₁ hx hby hml hZ hown hnm hret hlk X0 e0 hs0
  replace hown : ss.vm.findClass "java/util/Arrays" = some mm.cls := hown
  refine Go.cast (congrArg s₁.setTop (ef_ceqd1_2 mm c1 c2)) ?_
  have N0 := Fr.nil Z.heap.size
  show Go pp ee below _ (s₁.setTop (mkF mm 0 #[.val (.ref c1), .val (.ref c2), .unset] []))
  refine Go.aloadN X0 hx (hb hby d10_0) rfl rfl (q := 1) rfl ?_
  refine Go.aloadN X0 hx (hb hby d10_1) rfl rfl (q := 2) rfl ?_
  refine Go.acmp X0 hx rfl rfl (hb hby d10_2) (same := false) (decide_eq_false fun q => nn (Value.ref.inj q)) (q := 7) (by decide) (by decide) ?_
  refine Go.aloadN X0 hx (hb hby d10_7) rfl rfl (q := 8) rfl ?_
  refine Go.ifnullNo X0 hx (hb hby d10_8) (q := 11) rfl ?_
  refine Go.aloadN X0 hx (hb hby d10_11) rfl rfl (q := 12) rfl ?_
  refine Go.ifnonnullYes X0 hx (hb hby d10_12) (q := 17) (by decide) (by decide) ?_
  refine Go.aloadN X0 hx (hb hby d10_17) rfl rfl (q := 18) rfl ?_
  refine Go.alen X0 hx hZ e0 V1 (hb hby d10_18) ?_
  refine Go.istoreN X0 hx (hb hby d10_19) (l' := #[.val (.ref c1), .val (.ref c2), .val (.int (1 : Int32))]) rfl (q := 20) rfl ?_
  refine Go.aloadN X0 hx (hb hby d10_20) rfl rfl (q := 21) rfl ?_
  refine Go.alen X0 hx hZ e0 V2 (hb hby d10_21) ?_
  refine Go.iloadN X0 hx (hb hby d10_22) rfl (q := 23) rfl ?_
  refine Go.icmpNo X0 hx (hb hby d10_23) (by decide) (q := 26) rfl ?_
  refine Go.iconst X0 hx (hb hby d10_26) (r := (0 : Int32)) rfl (q := 27) rfl ?_
  exact Go.retI X0 hx hret hlk (by simp) rfl (hb hby d10_27) e0 (by decide) (by decide) ⟨rfl, N0, rfl⟩
def Q_csamd1_2 (Z : State) (c1 : Addr) (c2 : Addr) (k1 : ClassId) (k2 : ClassId) (x0 : Int32) (y0 : Int32) (y1 : Int32) (h0 : Heap) (vR : Option Value) (hR : Heap) (LR : List Loc) : Prop := vR = some (.int (0 : Int32)) ∧ Fr Z.heap.size LR ∧ hR = h0
set_option maxRecDepth 65536 in
set_option maxHeartbeats 40000000 in
theorem csamd1_2 (l : Launch) (Z : State) (a0 : Array Value) (hw : ∀ d ∈ tables_1, d.before a0 Z = true) (c1 : Addr) (c2 : Addr) (k1 : ClassId) (k2 : ClassId) (x0 : Int32) (y0 : Int32) (y1 : Int32) (h0 : Heap) (O0 : Ext Z.heap h0) (V1 : Arv Z h0 c1 k1 .byte (1 : Int32) [(.int x0)] (.int (0 : Int32))) (V2 : Arv Z h0 c2 k2 .byte (2 : Int32) [(.int y0), (.int y1)] (.int (0 : Int32))) :
    Ctr l Z h0 (⟨"com/example/match_before_write/matchbeforewrite/RepresentationOfPinLaw", "same", "([B[B)Z"⟩ : MethodName) method_3_code 2 (some .boolean) [] ({ frames := 0, cells := 0, slots := 0, locals := 0 } : Room) #[(.ref c1), (.ref c2)] (Q_csamd1_2 Z c1 c2 k1 k2 x0 y0 y1 h0) := by
  refine enter (plainFor_of_name pn0) ?_
  intro pp ee ss mm below meth cc s₁ hx hby hml hZ hown hnm hret hlk X0 e0 hs0
  replace hown : ss.vm.findClass "com/example/match_before_write/matchbeforewrite/RepresentationOfPinLaw" = some mm.cls := hown
  refine Go.cast (congrArg s₁.setTop (ef_csamd1_2 mm c1 c2)) ?_
  have N0 := Fr.nil Z.heap.size
  show Go pp ee below _ (s₁.setTop (mkF mm 0 #[.val (.ref c1), .val (.ref c2)] []))
  refine Go.aloadN X0 hx (hb hby d12_0) rfl rfl (q := 1) rfl ?_
  refine Go.alen X0 hx hZ e0 V1 (hb hby d12_1) ?_
  refine Go.aloadN X0 hx (hb hby d12_2) rfl rfl (q := 3) rfl ?_
  refine Go.alen X0 hx hZ e0 V2 (hb hby d12_3) ?_
  refine Go.icmpNo X0 hx (hb hby d12_4) (by decide) (q := 7) rfl ?_
  refine Go.iconst X0 hx (hb hby d12_7) (r := (0 : Int32)) rfl (q := 8) rfl ?_
  exact Go.retI X0 hx hret hlk (by simp) rfl (hb hby d12_8) e0 (by decide) (by decide) ⟨rfl, N0, rfl⟩
def Q_chsd1_2 (Z : State) (o : Addr) (q : Addr) (c1 : Addr) (c2 : Addr) (k1 : ClassId) (k2 : ClassId) (x0 : Int32) (y0 : Int32) (y1 : Int32) (h0 : Heap) (vR : Option Value) (hR : Heap) (LR : List Loc) : Prop := vR = some (.int (0 : Int32)) ∧ Fr Z.heap.size LR ∧ hR = h0
set_option maxRecDepth 65536 in
set_option maxHeartbeats 40000000 in
theorem chsd1_2 (l : Launch) (Z : State) (a0 : Array Value) (hw : ∀ d ∈ tables_1, d.before a0 Z = true) (o : Addr) (q : Addr) (c1 : Addr) (c2 : Addr) (k1 : ClassId) (k2 : ClassId) (x0 : Int32) (y0 : Int32) (y1 : Int32) (h0 : Heap) (O0 : Ext Z.heap h0) (Fo : Fld Z h0 o "com/example/match_before_write/matchbeforewrite/Representation" "content" "[B" (.ref c1)) (Fq : Fld Z h0 q "com/example/match_before_write/matchbeforewrite/Representation" "content" "[B" (.ref c2)) (V1 : Arv Z h0 c1 k1 .byte (1 : Int32) [(.int x0)] (.int (0 : Int32))) (V2 : Arv Z h0 c2 k2 .byte (2 : Int32) [(.int y0), (.int y1)] (.int (0 : Int32))) (nn : c1 ≠ c2) :
    Ctr l Z h0 (⟨"com/example/match_before_write/matchbeforewrite/Representation", "hasSameBytesAs", "(Lcom/example/match_before_write/matchbeforewrite/Representation;)Z"⟩ : MethodName) prog_13_method_13_code 2 (some .boolean) [] ({ frames := 1, cells := 0, slots := 0, locals := 14 } : Room) #[(.ref o), (.ref q)] (Q_chsd1_2 Z o q c1 c2 k1 k2 x0 y0 y1 h0) := by
  refine enter (plainFor_of_name pn1) ?_
  intro pp ee ss mm below meth cc s₁ hx hby hml hZ hown hnm hret hlk X0 e0 hs0
  replace hown : ss.vm.findClass "com/example/match_before_write/matchbeforewrite/Representation" = some mm.cls := hown
  refine Go.cast (congrArg s₁.setTop (ef_chsd1_2 mm o q)) ?_
  have N0 := Fr.nil Z.heap.size
  show Go pp ee below _ (s₁.setTop (mkF mm 0 #[.val (.ref o), .val (.ref q)] []))
  refine Go.aloadN X0 hx (hb hby d9_0) rfl rfl (q := 1) rfl ?_
  refine Go.getF X0 hx hZ hown (host := "") (Or.inl (wd26 hw)) Via.refl e0 Fo (hb hby d9_1) (q := 4) rfl ?_
  intro T101 X101 e101
  refine Go.aloadN X101 hx (hb hby d9_4) rfl rfl (q := 5) rfl ?_
  refine Go.getF X101 hx hZ hown (host := "") (Or.inl (wd26 hw)) Via.refl e101 Fq (hb hby d9_5) (q := 8) rfl ?_
  intro T102 X102 e102
  refine Go.callS X102 hx hZ hown (wd61 hw) (wd62 hw) (wd63 hw) (wd64 hw) (by decide) (ceqd1_2 l Z a0 hw c1 c2 (k1) (k2) x0 y0 y1 h0 O0 V1 V2 nn) e102 (by rw [hml]; rfl) (hb hby d9_8) (argsL := [(.ref c1), (.ref c2)]) (rest := []) (lenOf pd2 rfl) rfl rfl (W := 0) (by first | exact Nat.le_refl _ | decide) (by decide) (by decide) (by decide) (by decide) ?_
  intro v103 T103 L103 X103 hQ103
  obtain ⟨rfl, N103q, e103⟩ := hQ103
  have N103 := Fr.app N0 N103q
  exact Go.retI X103 hx hret hlk (by simp) rfl (hb hby d9_11) e103 (by decide) (by decide) ⟨rfl, N103, rfl⟩
def Q_ceqd1_3 (Z : State) (c1 : Addr) (c2 : Addr) (k1 : ClassId) (k2 : ClassId) (x0 : Int32) (y0 : Int32) (y1 : Int32) (y2 : Int32) (h0 : Heap) (vR : Option Value) (hR : Heap) (LR : List Loc) : Prop := vR = some (.int (0 : Int32)) ∧ Fr Z.heap.size LR ∧ hR = h0
set_option maxRecDepth 65536 in
set_option maxHeartbeats 40000000 in
theorem ceqd1_3 (l : Launch) (Z : State) (a0 : Array Value) (hw : ∀ d ∈ tables_1, d.before a0 Z = true) (c1 : Addr) (c2 : Addr) (k1 : ClassId) (k2 : ClassId) (x0 : Int32) (y0 : Int32) (y1 : Int32) (y2 : Int32) (h0 : Heap) (O0 : Ext Z.heap h0) (V1 : Arv Z h0 c1 k1 .byte (1 : Int32) [(.int x0)] (.int (0 : Int32))) (V2 : Arv Z h0 c2 k2 .byte (3 : Int32) [(.int y0), (.int y1), (.int y2)] (.int (0 : Int32))) (nn : c1 ≠ c2) :
    Ctr l Z h0 (⟨"java/util/Arrays", "equals", "([B[B)Z"⟩ : MethodName) jdk_65_method_89_code 3 (some .boolean) [] ({ frames := 0, cells := 0, slots := 0, locals := 0 } : Room) #[(.ref c1), (.ref c2)] (Q_ceqd1_3 Z c1 c2 k1 k2 x0 y0 y1 y2 h0) := by
  refine enter (plainFor_of_name pn3) ?_
  intro pp ee ss mm below meth cc s₁ hx hby hml hZ hown hnm hret hlk X0 e0 hs0
  replace hown : ss.vm.findClass "java/util/Arrays" = some mm.cls := hown
  refine Go.cast (congrArg s₁.setTop (ef_ceqd1_3 mm c1 c2)) ?_
  have N0 := Fr.nil Z.heap.size
  show Go pp ee below _ (s₁.setTop (mkF mm 0 #[.val (.ref c1), .val (.ref c2), .unset] []))
  refine Go.aloadN X0 hx (hb hby d10_0) rfl rfl (q := 1) rfl ?_
  refine Go.aloadN X0 hx (hb hby d10_1) rfl rfl (q := 2) rfl ?_
  refine Go.acmp X0 hx rfl rfl (hb hby d10_2) (same := false) (decide_eq_false fun q => nn (Value.ref.inj q)) (q := 7) (by decide) (by decide) ?_
  refine Go.aloadN X0 hx (hb hby d10_7) rfl rfl (q := 8) rfl ?_
  refine Go.ifnullNo X0 hx (hb hby d10_8) (q := 11) rfl ?_
  refine Go.aloadN X0 hx (hb hby d10_11) rfl rfl (q := 12) rfl ?_
  refine Go.ifnonnullYes X0 hx (hb hby d10_12) (q := 17) (by decide) (by decide) ?_
  refine Go.aloadN X0 hx (hb hby d10_17) rfl rfl (q := 18) rfl ?_
  refine Go.alen X0 hx hZ e0 V1 (hb hby d10_18) ?_
  refine Go.istoreN X0 hx (hb hby d10_19) (l' := #[.val (.ref c1), .val (.ref c2), .val (.int (1 : Int32))]) rfl (q := 20) rfl ?_
  refine Go.aloadN X0 hx (hb hby d10_20) rfl rfl (q := 21) rfl ?_
  refine Go.alen X0 hx hZ e0 V2 (hb hby d10_21) ?_
  refine Go.iloadN X0 hx (hb hby d10_22) rfl (q := 23) rfl ?_
  refine Go.icmpNo X0 hx (hb hby d10_23) (by decide) (q := 26) rfl ?_
  refine Go.iconst X0 hx (hb hby d10_26) (r := (0 : Int32)) rfl (q := 27) rfl ?_
  exact Go.retI X0 hx hret hlk (by simp) rfl (hb hby d10_27) e0 (by decide) (by decide) ⟨rfl, N0, rfl⟩
def Q_csamd1_3 (Z : State) (c1 : Addr) (c2 : Addr) (k1 : ClassId) (k2 : ClassId) (x0 : Int32) (y0 : Int32) (y1 : Int32) (y2 : Int32) (h0 : Heap) (vR : Option Value) (hR : Heap) (LR : List Loc) : Prop := vR = some (.int (0 : Int32)) ∧ Fr Z.heap.size LR ∧ hR = h0
set_option maxRecDepth 65536 in
set_option maxHeartbeats 40000000 in
theorem csamd1_3 (l : Launch) (Z : State) (a0 : Array Value) (hw : ∀ d ∈ tables_1, d.before a0 Z = true) (c1 : Addr) (c2 : Addr) (k1 : ClassId) (k2 : ClassId) (x0 : Int32) (y0 : Int32) (y1 : Int32) (y2 : Int32) (h0 : Heap) (O0 : Ext Z.heap h0) (V1 : Arv Z h0 c1 k1 .byte (1 : Int32) [(.int x0)] (.int (0 : Int32))) (V2 : Arv Z h0 c2 k2 .byte (3 : Int32) [(.int y0), (.int y1), (.int y2)] (.int (0 : Int32))) :
    Ctr l Z h0 (⟨"com/example/match_before_write/matchbeforewrite/RepresentationOfPinLaw", "same", "([B[B)Z"⟩ : MethodName) method_3_code 2 (some .boolean) [] ({ frames := 0, cells := 0, slots := 0, locals := 0 } : Room) #[(.ref c1), (.ref c2)] (Q_csamd1_3 Z c1 c2 k1 k2 x0 y0 y1 y2 h0) := by
  refine enter (plainFor_of_name pn0) ?_
  intro pp ee ss mm below meth cc s₁ hx hby hml hZ hown hnm hret hlk X0 e0 hs0
  replace hown : ss.vm.findClass "com/example/match_before_write/matchbeforewrite/RepresentationOfPinLaw" = some mm.cls := hown
  refine Go.cast (congrArg s₁.setTop (ef_csamd1_3 mm c1 c2)) ?_
  have N0 := Fr.nil Z.heap.size
  show Go pp ee below _ (s₁.setTop (mkF mm 0 #[.val (.ref c1), .val (.ref c2)] []))
  refine Go.aloadN X0 hx (hb hby d12_0) rfl rfl (q := 1) rfl ?_
  refine Go.alen X0 hx hZ e0 V1 (hb hby d12_1) ?_
  refine Go.aloadN X0 hx (hb hby d12_2) rfl rfl (q := 3) rfl ?_
  refine Go.alen X0 hx hZ e0 V2 (hb hby d12_3) ?_
  refine Go.icmpNo X0 hx (hb hby d12_4) (by decide) (q := 7) rfl ?_
  refine Go.iconst X0 hx (hb hby d12_7) (r := (0 : Int32)) rfl (q := 8) rfl ?_
  exact Go.retI X0 hx hret hlk (by simp) rfl (hb hby d12_8) e0 (by decide) (by decide) ⟨rfl, N0, rfl⟩
def Q_chsd1_3 (Z : State) (o : Addr) (q : Addr) (c1 : Addr) (c2 : Addr) (k1 : ClassId) (k2 : ClassId) (x0 : Int32) (y0 : Int32) (y1 : Int32) (y2 : Int32) (h0 : Heap) (vR : Option Value) (hR : Heap) (LR : List Loc) : Prop := vR = some (.int (0 : Int32)) ∧ Fr Z.heap.size LR ∧ hR = h0
set_option maxRecDepth 65536 in
set_option maxHeartbeats 40000000 in
theorem chsd1_3 (l : Launch) (Z : State) (a0 : Array Value) (hw : ∀ d ∈ tables_1, d.before a0 Z = true) (o : Addr) (q : Addr) (c1 : Addr) (c2 : Addr) (k1 : ClassId) (k2 : ClassId) (x0 : Int32) (y0 : Int32) (y1 : Int32) (y2 : Int32) (h0 : Heap) (O0 : Ext Z.heap h0) (Fo : Fld Z h0 o "com/example/match_before_write/matchbeforewrite/Representation" "content" "[B" (.ref c1)) (Fq : Fld Z h0 q "com/example/match_before_write/matchbeforewrite/Representation" "content" "[B" (.ref c2)) (V1 : Arv Z h0 c1 k1 .byte (1 : Int32) [(.int x0)] (.int (0 : Int32))) (V2 : Arv Z h0 c2 k2 .byte (3 : Int32) [(.int y0), (.int y1), (.int y2)] (.int (0 : Int32))) (nn : c1 ≠ c2) :
    Ctr l Z h0 (⟨"com/example/match_before_write/matchbeforewrite/Representation", "hasSameBytesAs", "(Lcom/example/match_before_write/matchbeforewrite/Representation;)Z"⟩ : MethodName) prog_13_method_13_code 2 (some .boolean) [] ({ frames := 1, cells := 0, slots := 0, locals := 14 } : Room) #[(.ref o), (.ref q)] (Q_chsd1_3 Z o q c1 c2 k1 k2 x0 y0 y1 y2 h0) := by
  refine enter (plainFor_of_name pn1) ?_
  intro pp ee ss mm below meth cc s₁ hx hby hml hZ hown hnm hret hlk X0 e0 hs0
  replace hown : ss.vm.findClass "com/example/match_before_write/matchbeforewrite/Representation" = some mm.cls := hown
  refine Go.cast (congrArg s₁.setTop (ef_chsd1_3 mm o q)) ?_
  have N0 := Fr.nil Z.heap.size
  show Go pp ee below _ (s₁.setTop (mkF mm 0 #[.val (.ref o), .val (.ref q)] []))
  refine Go.aloadN X0 hx (hb hby d9_0) rfl rfl (q := 1) rfl ?_
  refine Go.getF X0 hx hZ hown (host := "") (Or.inl (wd26 hw)) Via.refl e0 Fo (hb hby d9_1) (q := 4) rfl ?_
  intro T101 X101 e101
  refine Go.aloadN X101 hx (hb hby d9_4) rfl rfl (q := 5) rfl ?_
  refine Go.getF X101 hx hZ hown (host := "") (Or.inl (wd26 hw)) Via.refl e101 Fq (hb hby d9_5) (q := 8) rfl ?_
  intro T102 X102 e102
  refine Go.callS X102 hx hZ hown (wd61 hw) (wd62 hw) (wd63 hw) (wd64 hw) (by decide) (ceqd1_3 l Z a0 hw c1 c2 (k1) (k2) x0 y0 y1 y2 h0 O0 V1 V2 nn) e102 (by rw [hml]; rfl) (hb hby d9_8) (argsL := [(.ref c1), (.ref c2)]) (rest := []) (lenOf pd2 rfl) rfl rfl (W := 0) (by first | exact Nat.le_refl _ | decide) (by decide) (by decide) (by decide) (by decide) ?_
  intro v103 T103 L103 X103 hQ103
  obtain ⟨rfl, N103q, e103⟩ := hQ103
  have N103 := Fr.app N0 N103q
  exact Go.retI X103 hx hret hlk (by simp) rfl (hb hby d9_11) e103 (by decide) (by decide) ⟨rfl, N103, rfl⟩
def Q_cmis2_2 (Z : State) (c1 : Addr) (c2 : Addr) (k1 : ClassId) (k2 : ClassId) (x0 : Int32) (x1 : Int32) (y0 : Int32) (y1 : Int32) (h0 : Heap) (vR : Option Value) (hR : Heap) (LR : List Loc) : Prop := vR = some (.int (-1 : Int32)) ∧ Fr Z.heap.size LR ∧ hR = h0
set_option maxRecDepth 65536 in
set_option maxHeartbeats 40000000 in
theorem cmis2_2 (l : Launch) (Z : State) (a0 : Array Value) (hw : ∀ d ∈ tables_1, d.before a0 Z = true) (c1 : Addr) (c2 : Addr) (k1 : ClassId) (k2 : ClassId) (x0 : Int32) (x1 : Int32) (y0 : Int32) (y1 : Int32) (h0 : Heap) (O0 : Ext Z.heap h0) (V1 : Arv Z h0 c1 k1 .byte (2 : Int32) [(.int x0), (.int x1)] (.int (0 : Int32))) (V2 : Arv Z h0 c2 k2 .byte (2 : Int32) [(.int y0), (.int y1)] (.int (0 : Int32))) (xe0 : x0 = y0) (xe1 : x1 = y1) :
    Ctr l Z h0 (⟨"jdk/internal/util/ArraysSupport", "mismatch", "([B[BI)I"⟩ : MethodName) jdk_48_method_13_code 4 (some .int) [] ({ frames := 0, cells := 0, slots := 0, locals := 0 } : Room) #[(.ref c1), (.ref c2), (.int (2 : Int32))] (Q_cmis2_2 Z c1 c2 k1 k2 x0 x1 y0 y1 h0) := by
  refine enter (plainFor_of_name pn2) ?_
  intro pp ee ss mm below meth cc s₁ hx hby hml hZ hown hnm hret hlk X0 e0 hs0
  replace hown : ss.vm.findClass "jdk/internal/util/ArraysSupport" = some mm.cls := hown
  refine Go.cast (congrArg s₁.setTop (ef_cmis2_2 mm c1 c2)) ?_
  have N0 := Fr.nil Z.heap.size
  show Go pp ee below _ (s₁.setTop (mkF mm 0 #[.val (.ref c1), .val (.ref c2), .val (.int (2 : Int32)), .unset] []))
  refine Go.iconst X0 hx (hb hby d11_0) (r := (0 : Int32)) rfl (q := 1) rfl ?_
  refine Go.istoreN X0 hx (hb hby d11_1) (l' := #[.val (.ref c1), .val (.ref c2), .val (.int (2 : Int32)), .val (.int (0 : Int32))]) rfl (q := 2) rfl ?_
  refine Go.iloadN X0 hx (hb hby d11_2) rfl (q := 3) rfl ?_
  refine Go.bipush X0 hx (hb hby d11_3) (r := (7 : Int32)) rfl (q := 5) rfl ?_
  refine Go.icmpYes X0 hx (hb hby d11_5) (by decide) (q := 49) (by decide) (by decide) ?_
  refine Go.iloadN X0 hx (hb hby d11_49) rfl (q := 50) rfl ?_
  refine Go.iloadN X0 hx (hb hby d11_50) rfl (q := 51) rfl ?_
  refine Go.icmpNo X0 hx (hb hby d11_51) (by decide) (q := 54) rfl ?_
  refine Go.aloadN X0 hx (hb hby d11_54) rfl rfl (q := 55) rfl ?_
  refine Go.iloadN X0 hx (hb hby d11_55) rfl (q := 56) rfl ?_
  refine Go.bal X0 hx hZ e0 V1 ⟨by decide, by decide⟩ (v := (.int x0)) rfl (hb hby d11_56) ?_
  refine Go.aloadN X0 hx (hb hby d11_57) rfl rfl (q := 58) rfl ?_
  refine Go.iloadN X0 hx (hb hby d11_58) rfl (q := 59) rfl ?_
  refine Go.bal X0 hx hZ e0 V2 ⟨by decide, by decide⟩ (v := (.int y0)) rfl (hb hby d11_59) ?_
  refine Go.icmpYes X0 hx (hb hby d11_60) (Jvm.Free.XT.ii_eq_t xe0) (q := 65) (by decide) (by decide) ?_
  refine Go.iinc X0 hx (hb hby d11_65) rfl (r := (1 : Int32)) rfl (l' := #[.val (.ref c1), .val (.ref c2), .val (.int (2 : Int32)), .val (.int (1 : Int32))]) rfl (q := 68) rfl ?_
  refine Go.goto X0 hx (hb hby d11_68) (q := 49) (by decide) (by decide) ?_
  refine Go.iloadN X0 hx (hb hby d11_49) rfl (q := 50) rfl ?_
  refine Go.iloadN X0 hx (hb hby d11_50) rfl (q := 51) rfl ?_
  refine Go.icmpNo X0 hx (hb hby d11_51) (by decide) (q := 54) rfl ?_
  refine Go.aloadN X0 hx (hb hby d11_54) rfl rfl (q := 55) rfl ?_
  refine Go.iloadN X0 hx (hb hby d11_55) rfl (q := 56) rfl ?_
  refine Go.bal X0 hx hZ e0 V1 ⟨by decide, by decide⟩ (v := (.int x1)) rfl (hb hby d11_56) ?_
  refine Go.aloadN X0 hx (hb hby d11_57) rfl rfl (q := 58) rfl ?_
  refine Go.iloadN X0 hx (hb hby d11_58) rfl (q := 59) rfl ?_
  refine Go.bal X0 hx hZ e0 V2 ⟨by decide, by decide⟩ (v := (.int y1)) rfl (hb hby d11_59) ?_
  refine Go.icmpYes X0 hx (hb hby d11_60) (Jvm.Free.XT.ii_eq_t xe1) (q := 65) (by decide) (by decide) ?_
  refine Go.iinc X0 hx (hb hby d11_65) rfl (r := (2 : Int32)) rfl (l' := #[.val (.ref c1), .val (.ref c2), .val (.int (2 : Int32)), .val (.int (2 : Int32))]) rfl (q := 68) rfl ?_
  refine Go.goto X0 hx (hb hby d11_68) (q := 49) (by decide) (by decide) ?_
  refine Go.iloadN X0 hx (hb hby d11_49) rfl (q := 50) rfl ?_
  refine Go.iloadN X0 hx (hb hby d11_50) rfl (q := 51) rfl ?_
  refine Go.icmpYes X0 hx (hb hby d11_51) (by decide) (q := 71) (by decide) (by decide) ?_
  refine Go.iconst X0 hx (hb hby d11_71) (r := (-1 : Int32)) rfl (q := 72) rfl ?_
  exact Go.retI X0 hx hret hlk (Or.inl rfl) rfl (hb hby d11_72) e0 (by decide) (by decide) ⟨rfl, N0, rfl⟩
def Q_ceq2_2 (Z : State) (c1 : Addr) (c2 : Addr) (k1 : ClassId) (k2 : ClassId) (x0 : Int32) (x1 : Int32) (y0 : Int32) (y1 : Int32) (h0 : Heap) (vR : Option Value) (hR : Heap) (LR : List Loc) : Prop := vR = some (.int (1 : Int32)) ∧ Fr Z.heap.size LR ∧ hR = h0
set_option maxRecDepth 65536 in
set_option maxHeartbeats 40000000 in
theorem ceq2_2 (l : Launch) (Z : State) (a0 : Array Value) (hw : ∀ d ∈ tables_1, d.before a0 Z = true) (c1 : Addr) (c2 : Addr) (k1 : ClassId) (k2 : ClassId) (x0 : Int32) (x1 : Int32) (y0 : Int32) (y1 : Int32) (h0 : Heap) (O0 : Ext Z.heap h0) (V1 : Arv Z h0 c1 k1 .byte (2 : Int32) [(.int x0), (.int x1)] (.int (0 : Int32))) (V2 : Arv Z h0 c2 k2 .byte (2 : Int32) [(.int y0), (.int y1)] (.int (0 : Int32))) (nn : c1 ≠ c2) (xe0 : x0 = y0) (xe1 : x1 = y1) :
    Ctr l Z h0 (⟨"java/util/Arrays", "equals", "([B[B)Z"⟩ : MethodName) jdk_65_method_89_code 3 (some .boolean) [] ({ frames := 1, cells := 0, slots := 0, locals := 15 } : Room) #[(.ref c1), (.ref c2)] (Q_ceq2_2 Z c1 c2 k1 k2 x0 x1 y0 y1 h0) := by
  refine enter (plainFor_of_name pn3) ?_
  intro pp ee ss mm below meth cc s₁ hx hby hml hZ hown hnm hret hlk X0 e0 hs0
  replace hown : ss.vm.findClass "java/util/Arrays" = some mm.cls := hown
  refine Go.cast (congrArg s₁.setTop (ef_ceq2_2 mm c1 c2)) ?_
  have N0 := Fr.nil Z.heap.size
  show Go pp ee below _ (s₁.setTop (mkF mm 0 #[.val (.ref c1), .val (.ref c2), .unset] []))
  refine Go.aloadN X0 hx (hb hby d10_0) rfl rfl (q := 1) rfl ?_
  refine Go.aloadN X0 hx (hb hby d10_1) rfl rfl (q := 2) rfl ?_
  refine Go.acmp X0 hx rfl rfl (hb hby d10_2) (same := false) (decide_eq_false fun q => nn (Value.ref.inj q)) (q := 7) (by decide) (by decide) ?_
  refine Go.aloadN X0 hx (hb hby d10_7) rfl rfl (q := 8) rfl ?_
  refine Go.ifnullNo X0 hx (hb hby d10_8) (q := 11) rfl ?_
  refine Go.aloadN X0 hx (hb hby d10_11) rfl rfl (q := 12) rfl ?_
  refine Go.ifnonnullYes X0 hx (hb hby d10_12) (q := 17) (by decide) (by decide) ?_
  refine Go.aloadN X0 hx (hb hby d10_17) rfl rfl (q := 18) rfl ?_
  refine Go.alen X0 hx hZ e0 V1 (hb hby d10_18) ?_
  refine Go.istoreN X0 hx (hb hby d10_19) (l' := #[.val (.ref c1), .val (.ref c2), .val (.int (2 : Int32))]) rfl (q := 20) rfl ?_
  refine Go.aloadN X0 hx (hb hby d10_20) rfl rfl (q := 21) rfl ?_
  refine Go.alen X0 hx hZ e0 V2 (hb hby d10_21) ?_
  refine Go.iloadN X0 hx (hb hby d10_22) rfl (q := 23) rfl ?_
  refine Go.icmpYes X0 hx (hb hby d10_23) (by decide) (q := 28) (by decide) (by decide) ?_
  refine Go.aloadN X0 hx (hb hby d10_28) rfl rfl (q := 29) rfl ?_
  refine Go.aloadN X0 hx (hb hby d10_29) rfl rfl (q := 30) rfl ?_
  refine Go.iloadN X0 hx (hb hby d10_30) rfl (q := 31) rfl ?_
  refine Go.callS X0 hx hZ hown (wd65 hw) (wd66 hw) (wd67 hw) (wd68 hw) (by decide) (cmis2_2 l Z a0 hw c1 c2 (k1) (k2) x0 x1 y0 y1 h0 O0 V1 V2 xe0 xe1) e0 (by rw [hml]; rfl) (hb hby d10_31) (argsL := [(.ref c1), (.ref c2), (.int (2 : Int32))]) (rest := []) (lenOf pd1 rfl) rfl rfl (W := 0) (by first | exact Nat.le_refl _ | decide) (by decide) (by decide) (by decide) (by decide) ?_
  intro v101 T101 L101 X101 hQ101
  obtain ⟨rfl, N101q, e101⟩ := hQ101
  have N101 := Fr.app N0 N101q
  refine Go.ifNo X101 hx (hb hby d10_34) (by decide) (q := 37) rfl ?_
  refine Go.iconst X101 hx (hb hby d10_37) (r := (1 : Int32)) rfl (q := 38) rfl ?_
  refine Go.goto X101 hx (hb hby d10_38) (q := 42) (by decide) (by decide) ?_
  exact Go.retI X101 hx hret hlk (by simp) rfl (hb hby d10_42) e101 (by decide) (by decide) ⟨rfl, N101, rfl⟩
def Q_csam2_2 (Z : State) (c1 : Addr) (c2 : Addr) (k1 : ClassId) (k2 : ClassId) (x0 : Int32) (x1 : Int32) (y0 : Int32) (y1 : Int32) (h0 : Heap) (vR : Option Value) (hR : Heap) (LR : List Loc) : Prop := vR = some (.int (1 : Int32)) ∧ Fr Z.heap.size LR ∧ hR = h0
set_option maxRecDepth 65536 in
set_option maxHeartbeats 40000000 in
theorem csam2_2 (l : Launch) (Z : State) (a0 : Array Value) (hw : ∀ d ∈ tables_1, d.before a0 Z = true) (c1 : Addr) (c2 : Addr) (k1 : ClassId) (k2 : ClassId) (x0 : Int32) (x1 : Int32) (y0 : Int32) (y1 : Int32) (h0 : Heap) (O0 : Ext Z.heap h0) (V1 : Arv Z h0 c1 k1 .byte (2 : Int32) [(.int x0), (.int x1)] (.int (0 : Int32))) (V2 : Arv Z h0 c2 k2 .byte (2 : Int32) [(.int y0), (.int y1)] (.int (0 : Int32))) (xe0 : x0 = y0) (xe1 : x1 = y1) :
    Ctr l Z h0 (⟨"com/example/match_before_write/matchbeforewrite/RepresentationOfPinLaw", "same", "([B[B)Z"⟩ : MethodName) method_3_code 2 (some .boolean) [] ({ frames := 0, cells := 0, slots := 0, locals := 0 } : Room) #[(.ref c1), (.ref c2)] (Q_csam2_2 Z c1 c2 k1 k2 x0 x1 y0 y1 h0) := by
  refine enter (plainFor_of_name pn0) ?_
  intro pp ee ss mm below meth cc s₁ hx hby hml hZ hown hnm hret hlk X0 e0 hs0
  replace hown : ss.vm.findClass "com/example/match_before_write/matchbeforewrite/RepresentationOfPinLaw" = some mm.cls := hown
  refine Go.cast (congrArg s₁.setTop (ef_csam2_2 mm c1 c2)) ?_
  have N0 := Fr.nil Z.heap.size
  show Go pp ee below _ (s₁.setTop (mkF mm 0 #[.val (.ref c1), .val (.ref c2)] []))
  refine Go.aloadN X0 hx (hb hby d12_0) rfl rfl (q := 1) rfl ?_
  refine Go.alen X0 hx hZ e0 V1 (hb hby d12_1) ?_
  refine Go.aloadN X0 hx (hb hby d12_2) rfl rfl (q := 3) rfl ?_
  refine Go.alen X0 hx hZ e0 V2 (hb hby d12_3) ?_
  refine Go.icmpYes X0 hx (hb hby d12_4) (by decide) (q := 9) (by decide) (by decide) ?_
  refine Go.aloadN X0 hx (hb hby d12_9) rfl rfl (q := 10) rfl ?_
  refine Go.alen X0 hx hZ e0 V1 (hb hby d12_10) ?_
  refine Go.ifNo X0 hx (hb hby d12_11) (by decide) (q := 14) rfl ?_
  refine Go.aloadN X0 hx (hb hby d12_14) rfl rfl (q := 15) rfl ?_
  refine Go.iconst X0 hx (hb hby d12_15) (r := (0 : Int32)) rfl (q := 16) rfl ?_
  refine Go.bal X0 hx hZ e0 V1 ⟨by decide, by decide⟩ (v := (.int x0)) rfl (hb hby d12_16) ?_
  refine Go.aloadN X0 hx (hb hby d12_17) rfl rfl (q := 18) rfl ?_
  refine Go.iconst X0 hx (hb hby d12_18) (r := (0 : Int32)) rfl (q := 19) rfl ?_
  refine Go.bal X0 hx hZ e0 V2 ⟨by decide, by decide⟩ (v := (.int y0)) rfl (hb hby d12_19) ?_
  refine Go.icmpYes X0 hx (hb hby d12_20) (Jvm.Free.XT.ii_eq_t xe0) (q := 25) (by decide) (by decide) ?_
  refine Go.aloadN X0 hx (hb hby d12_25) rfl rfl (q := 26) rfl ?_
  refine Go.alen X0 hx hZ e0 V1 (hb hby d12_26) ?_
  refine Go.iconst X0 hx (hb hby d12_27) (r := (1 : Int32)) rfl (q := 28) rfl ?_
  refine Go.icmpNo X0 hx (hb hby d12_28) (by decide) (q := 31) rfl ?_
  refine Go.aloadN X0 hx (hb hby d12_31) rfl rfl (q := 32) rfl ?_
  refine Go.iconst X0 hx (hb hby d12_32) (r := (1 : Int32)) rfl (q := 33) rfl ?_
  refine Go.bal X0 hx hZ e0 V1 ⟨by decide, by decide⟩ (v := (.int x1)) rfl (hb hby d12_33) ?_
  refine Go.aloadN X0 hx (hb hby d12_34) rfl rfl (q := 35) rfl ?_
  refine Go.iconst X0 hx (hb hby d12_35) (r := (1 : Int32)) rfl (q := 36) rfl ?_
  refine Go.bal X0 hx hZ e0 V2 ⟨by decide, by decide⟩ (v := (.int y1)) rfl (hb hby d12_36) ?_
  refine Go.icmpYes X0 hx (hb hby d12_37) (Jvm.Free.XT.ii_eq_t xe1) (q := 42) (by decide) (by decide) ?_
  refine Go.aloadN X0 hx (hb hby d12_42) rfl rfl (q := 43) rfl ?_
  refine Go.alen X0 hx hZ e0 V1 (hb hby d12_43) ?_
  refine Go.iconst X0 hx (hb hby d12_44) (r := (2 : Int32)) rfl (q := 45) rfl ?_
  refine Go.icmpYes X0 hx (hb hby d12_45) (by decide) (q := 59) (by decide) (by decide) ?_
  refine Go.iconst X0 hx (hb hby d12_59) (r := (1 : Int32)) rfl (q := 60) rfl ?_
  exact Go.retI X0 hx hret hlk (by simp) rfl (hb hby d12_60) e0 (by decide) (by decide) ⟨rfl, N0, rfl⟩
def Q_chs2_2 (Z : State) (o : Addr) (q : Addr) (c1 : Addr) (c2 : Addr) (k1 : ClassId) (k2 : ClassId) (x0 : Int32) (x1 : Int32) (y0 : Int32) (y1 : Int32) (h0 : Heap) (vR : Option Value) (hR : Heap) (LR : List Loc) : Prop := vR = some (.int (1 : Int32)) ∧ Fr Z.heap.size LR ∧ hR = h0
set_option maxRecDepth 65536 in
set_option maxHeartbeats 40000000 in
theorem chs2_2 (l : Launch) (Z : State) (a0 : Array Value) (hw : ∀ d ∈ tables_1, d.before a0 Z = true) (o : Addr) (q : Addr) (c1 : Addr) (c2 : Addr) (k1 : ClassId) (k2 : ClassId) (x0 : Int32) (x1 : Int32) (y0 : Int32) (y1 : Int32) (h0 : Heap) (O0 : Ext Z.heap h0) (Fo : Fld Z h0 o "com/example/match_before_write/matchbeforewrite/Representation" "content" "[B" (.ref c1)) (Fq : Fld Z h0 q "com/example/match_before_write/matchbeforewrite/Representation" "content" "[B" (.ref c2)) (V1 : Arv Z h0 c1 k1 .byte (2 : Int32) [(.int x0), (.int x1)] (.int (0 : Int32))) (V2 : Arv Z h0 c2 k2 .byte (2 : Int32) [(.int y0), (.int y1)] (.int (0 : Int32))) (nn : c1 ≠ c2) (xe0 : x0 = y0) (xe1 : x1 = y1) :
    Ctr l Z h0 (⟨"com/example/match_before_write/matchbeforewrite/Representation", "hasSameBytesAs", "(Lcom/example/match_before_write/matchbeforewrite/Representation;)Z"⟩ : MethodName) prog_13_method_13_code 2 (some .boolean) [] ({ frames := 2, cells := 0, slots := 0, locals := 29 } : Room) #[(.ref o), (.ref q)] (Q_chs2_2 Z o q c1 c2 k1 k2 x0 x1 y0 y1 h0) := by
  refine enter (plainFor_of_name pn1) ?_
  intro pp ee ss mm below meth cc s₁ hx hby hml hZ hown hnm hret hlk X0 e0 hs0
  replace hown : ss.vm.findClass "com/example/match_before_write/matchbeforewrite/Representation" = some mm.cls := hown
  refine Go.cast (congrArg s₁.setTop (ef_chs2_2 mm o q)) ?_
  have N0 := Fr.nil Z.heap.size
  show Go pp ee below _ (s₁.setTop (mkF mm 0 #[.val (.ref o), .val (.ref q)] []))
  refine Go.aloadN X0 hx (hb hby d9_0) rfl rfl (q := 1) rfl ?_
  refine Go.getF X0 hx hZ hown (host := "") (Or.inl (wd26 hw)) Via.refl e0 Fo (hb hby d9_1) (q := 4) rfl ?_
  intro T101 X101 e101
  refine Go.aloadN X101 hx (hb hby d9_4) rfl rfl (q := 5) rfl ?_
  refine Go.getF X101 hx hZ hown (host := "") (Or.inl (wd26 hw)) Via.refl e101 Fq (hb hby d9_5) (q := 8) rfl ?_
  intro T102 X102 e102
  refine Go.callS X102 hx hZ hown (wd61 hw) (wd62 hw) (wd63 hw) (wd64 hw) (by decide) (ceq2_2 l Z a0 hw c1 c2 (k1) (k2) x0 x1 y0 y1 h0 O0 V1 V2 nn xe0 xe1) e102 (by rw [hml]; rfl) (hb hby d9_8) (argsL := [(.ref c1), (.ref c2)]) (rest := []) (lenOf pd2 rfl) rfl rfl (W := 0) (by first | exact Nat.le_refl _ | decide) (by decide) (by decide) (by decide) (by decide) ?_
  intro v103 T103 L103 X103 hQ103
  obtain ⟨rfl, N103q, e103⟩ := hQ103
  have N103 := Fr.app N0 N103q
  exact Go.retI X103 hx hret hlk (by simp) rfl (hb hby d9_11) e103 (by decide) (by decide) ⟨rfl, N103, rfl⟩
def Q_cmis2_1 (Z : State) (c1 : Addr) (c2 : Addr) (k1 : ClassId) (k2 : ClassId) (x0 : Int32) (x1 : Int32) (y0 : Int32) (y1 : Int32) (h0 : Heap) (vR : Option Value) (hR : Heap) (LR : List Loc) : Prop := vR = some (.int (1 : Int32)) ∧ Fr Z.heap.size LR ∧ hR = h0
set_option maxRecDepth 65536 in
set_option maxHeartbeats 40000000 in
theorem cmis2_1 (l : Launch) (Z : State) (a0 : Array Value) (hw : ∀ d ∈ tables_1, d.before a0 Z = true) (c1 : Addr) (c2 : Addr) (k1 : ClassId) (k2 : ClassId) (x0 : Int32) (x1 : Int32) (y0 : Int32) (y1 : Int32) (h0 : Heap) (O0 : Ext Z.heap h0) (V1 : Arv Z h0 c1 k1 .byte (2 : Int32) [(.int x0), (.int x1)] (.int (0 : Int32))) (V2 : Arv Z h0 c2 k2 .byte (2 : Int32) [(.int y0), (.int y1)] (.int (0 : Int32))) (xe0 : x0 = y0) (ne : ¬ (x1 = y1)) :
    Ctr l Z h0 (⟨"jdk/internal/util/ArraysSupport", "mismatch", "([B[BI)I"⟩ : MethodName) jdk_48_method_13_code 4 (some .int) [] ({ frames := 0, cells := 0, slots := 0, locals := 0 } : Room) #[(.ref c1), (.ref c2), (.int (2 : Int32))] (Q_cmis2_1 Z c1 c2 k1 k2 x0 x1 y0 y1 h0) := by
  refine enter (plainFor_of_name pn2) ?_
  intro pp ee ss mm below meth cc s₁ hx hby hml hZ hown hnm hret hlk X0 e0 hs0
  replace hown : ss.vm.findClass "jdk/internal/util/ArraysSupport" = some mm.cls := hown
  refine Go.cast (congrArg s₁.setTop (ef_cmis2_1 mm c1 c2)) ?_
  have N0 := Fr.nil Z.heap.size
  show Go pp ee below _ (s₁.setTop (mkF mm 0 #[.val (.ref c1), .val (.ref c2), .val (.int (2 : Int32)), .unset] []))
  refine Go.iconst X0 hx (hb hby d11_0) (r := (0 : Int32)) rfl (q := 1) rfl ?_
  refine Go.istoreN X0 hx (hb hby d11_1) (l' := #[.val (.ref c1), .val (.ref c2), .val (.int (2 : Int32)), .val (.int (0 : Int32))]) rfl (q := 2) rfl ?_
  refine Go.iloadN X0 hx (hb hby d11_2) rfl (q := 3) rfl ?_
  refine Go.bipush X0 hx (hb hby d11_3) (r := (7 : Int32)) rfl (q := 5) rfl ?_
  refine Go.icmpYes X0 hx (hb hby d11_5) (by decide) (q := 49) (by decide) (by decide) ?_
  refine Go.iloadN X0 hx (hb hby d11_49) rfl (q := 50) rfl ?_
  refine Go.iloadN X0 hx (hb hby d11_50) rfl (q := 51) rfl ?_
  refine Go.icmpNo X0 hx (hb hby d11_51) (by decide) (q := 54) rfl ?_
  refine Go.aloadN X0 hx (hb hby d11_54) rfl rfl (q := 55) rfl ?_
  refine Go.iloadN X0 hx (hb hby d11_55) rfl (q := 56) rfl ?_
  refine Go.bal X0 hx hZ e0 V1 ⟨by decide, by decide⟩ (v := (.int x0)) rfl (hb hby d11_56) ?_
  refine Go.aloadN X0 hx (hb hby d11_57) rfl rfl (q := 58) rfl ?_
  refine Go.iloadN X0 hx (hb hby d11_58) rfl (q := 59) rfl ?_
  refine Go.bal X0 hx hZ e0 V2 ⟨by decide, by decide⟩ (v := (.int y0)) rfl (hb hby d11_59) ?_
  refine Go.icmpYes X0 hx (hb hby d11_60) (Jvm.Free.XT.ii_eq_t xe0) (q := 65) (by decide) (by decide) ?_
  refine Go.iinc X0 hx (hb hby d11_65) rfl (r := (1 : Int32)) rfl (l' := #[.val (.ref c1), .val (.ref c2), .val (.int (2 : Int32)), .val (.int (1 : Int32))]) rfl (q := 68) rfl ?_
  refine Go.goto X0 hx (hb hby d11_68) (q := 49) (by decide) (by decide) ?_
  refine Go.iloadN X0 hx (hb hby d11_49) rfl (q := 50) rfl ?_
  refine Go.iloadN X0 hx (hb hby d11_50) rfl (q := 51) rfl ?_
  refine Go.icmpNo X0 hx (hb hby d11_51) (by decide) (q := 54) rfl ?_
  refine Go.aloadN X0 hx (hb hby d11_54) rfl rfl (q := 55) rfl ?_
  refine Go.iloadN X0 hx (hb hby d11_55) rfl (q := 56) rfl ?_
  refine Go.bal X0 hx hZ e0 V1 ⟨by decide, by decide⟩ (v := (.int x1)) rfl (hb hby d11_56) ?_
  refine Go.aloadN X0 hx (hb hby d11_57) rfl rfl (q := 58) rfl ?_
  refine Go.iloadN X0 hx (hb hby d11_58) rfl (q := 59) rfl ?_
  refine Go.bal X0 hx hZ e0 V2 ⟨by decide, by decide⟩ (v := (.int y1)) rfl (hb hby d11_59) ?_
  refine Go.icmpNo X0 hx (hb hby d11_60) (Jvm.Free.XT.ii_eq_f ne) (q := 63) rfl ?_
  refine Go.iloadN X0 hx (hb hby d11_63) rfl (q := 64) rfl ?_
  exact Go.retI X0 hx hret hlk (Or.inl rfl) rfl (hb hby d11_64) e0 (by decide) (by decide) ⟨rfl, N0, rfl⟩
def Q_ceq2_1 (Z : State) (c1 : Addr) (c2 : Addr) (k1 : ClassId) (k2 : ClassId) (x0 : Int32) (x1 : Int32) (y0 : Int32) (y1 : Int32) (h0 : Heap) (vR : Option Value) (hR : Heap) (LR : List Loc) : Prop := vR = some (.int (0 : Int32)) ∧ Fr Z.heap.size LR ∧ hR = h0
set_option maxRecDepth 65536 in
set_option maxHeartbeats 40000000 in
theorem ceq2_1 (l : Launch) (Z : State) (a0 : Array Value) (hw : ∀ d ∈ tables_1, d.before a0 Z = true) (c1 : Addr) (c2 : Addr) (k1 : ClassId) (k2 : ClassId) (x0 : Int32) (x1 : Int32) (y0 : Int32) (y1 : Int32) (h0 : Heap) (O0 : Ext Z.heap h0) (V1 : Arv Z h0 c1 k1 .byte (2 : Int32) [(.int x0), (.int x1)] (.int (0 : Int32))) (V2 : Arv Z h0 c2 k2 .byte (2 : Int32) [(.int y0), (.int y1)] (.int (0 : Int32))) (nn : c1 ≠ c2) (xe0 : x0 = y0) (ne : ¬ (x1 = y1)) :
    Ctr l Z h0 (⟨"java/util/Arrays", "equals", "([B[B)Z"⟩ : MethodName) jdk_65_method_89_code 3 (some .boolean) [] ({ frames := 1, cells := 0, slots := 0, locals := 15 } : Room) #[(.ref c1), (.ref c2)] (Q_ceq2_1 Z c1 c2 k1 k2 x0 x1 y0 y1 h0) := by
  refine enter (plainFor_of_name pn3) ?_
  intro pp ee ss mm below meth cc s₁ hx hby hml hZ hown hnm hret hlk X0 e0 hs0
  replace hown : ss.vm.findClass "java/util/Arrays" = some mm.cls := hown
  refine Go.cast (congrArg s₁.setTop (ef_ceq2_1 mm c1 c2)) ?_
  have N0 := Fr.nil Z.heap.size
  show Go pp ee below _ (s₁.setTop (mkF mm 0 #[.val (.ref c1), .val (.ref c2), .unset] []))
  refine Go.aloadN X0 hx (hb hby d10_0) rfl rfl (q := 1) rfl ?_
  refine Go.aloadN X0 hx (hb hby d10_1) rfl rfl (q := 2) rfl ?_
  refine Go.acmp X0 hx rfl rfl (hb hby d10_2) (same := false) (decide_eq_false fun q => nn (Value.ref.inj q)) (q := 7) (by decide) (by decide) ?_
  refine Go.aloadN X0 hx (hb hby d10_7) rfl rfl (q := 8) rfl ?_
  refine Go.ifnullNo X0 hx (hb hby d10_8) (q := 11) rfl ?_
  refine Go.aloadN X0 hx (hb hby d10_11) rfl rfl (q := 12) rfl ?_
  refine Go.ifnonnullYes X0 hx (hb hby d10_12) (q := 17) (by decide) (by decide) ?_
  refine Go.aloadN X0 hx (hb hby d10_17) rfl rfl (q := 18) rfl ?_
  refine Go.alen X0 hx hZ e0 V1 (hb hby d10_18) ?_
  refine Go.istoreN X0 hx (hb hby d10_19) (l' := #[.val (.ref c1), .val (.ref c2), .val (.int (2 : Int32))]) rfl (q := 20) rfl ?_
  refine Go.aloadN X0 hx (hb hby d10_20) rfl rfl (q := 21) rfl ?_
  refine Go.alen X0 hx hZ e0 V2 (hb hby d10_21) ?_
  refine Go.iloadN X0 hx (hb hby d10_22) rfl (q := 23) rfl ?_
  refine Go.icmpYes X0 hx (hb hby d10_23) (by decide) (q := 28) (by decide) (by decide) ?_
  refine Go.aloadN X0 hx (hb hby d10_28) rfl rfl (q := 29) rfl ?_
  refine Go.aloadN X0 hx (hb hby d10_29) rfl rfl (q := 30) rfl ?_
  refine Go.iloadN X0 hx (hb hby d10_30) rfl (q := 31) rfl ?_
  refine Go.callS X0 hx hZ hown (wd65 hw) (wd66 hw) (wd67 hw) (wd68 hw) (by decide) (cmis2_1 l Z a0 hw c1 c2 (k1) (k2) x0 x1 y0 y1 h0 O0 V1 V2 xe0 ne) e0 (by rw [hml]; rfl) (hb hby d10_31) (argsL := [(.ref c1), (.ref c2), (.int (2 : Int32))]) (rest := []) (lenOf pd1 rfl) rfl rfl (W := 0) (by first | exact Nat.le_refl _ | decide) (by decide) (by decide) (by decide) (by decide) ?_
  intro v101 T101 L101 X101 hQ101
  obtain ⟨rfl, N101q, e101⟩ := hQ101
  have N101 := Fr.app N0 N101q
  refine Go.ifYes X101 hx (hb hby d10_34) (by decide) (q := 41) (by decide) (by decide) ?_
  refine Go.iconst X101 hx (hb hby d10_41) (r := (0 : Int32)) rfl (q := 42) rfl ?_
  exact Go.retI X101 hx hret hlk (by simp) rfl (hb hby d10_42) e101 (by decide) (by decide) ⟨rfl, N101, rfl⟩
def Q_csam2_1 (Z : State) (c1 : Addr) (c2 : Addr) (k1 : ClassId) (k2 : ClassId) (x0 : Int32) (x1 : Int32) (y0 : Int32) (y1 : Int32) (h0 : Heap) (vR : Option Value) (hR : Heap) (LR : List Loc) : Prop := vR = some (.int (0 : Int32)) ∧ Fr Z.heap.size LR ∧ hR = h0
set_option maxRecDepth 65536 in
set_option maxHeartbeats 40000000 in
theorem csam2_1 (l : Launch) (Z : State) (a0 : Array Value) (hw : ∀ d ∈ tables_1, d.before a0 Z = true) (c1 : Addr) (c2 : Addr) (k1 : ClassId) (k2 : ClassId) (x0 : Int32) (x1 : Int32) (y0 : Int32) (y1 : Int32) (h0 : Heap) (O0 : Ext Z.heap h0) (V1 : Arv Z h0 c1 k1 .byte (2 : Int32) [(.int x0), (.int x1)] (.int (0 : Int32))) (V2 : Arv Z h0 c2 k2 .byte (2 : Int32) [(.int y0), (.int y1)] (.int (0 : Int32))) (xe0 : x0 = y0) (ne : ¬ (x1 = y1)) :
    Ctr l Z h0 (⟨"com/example/match_before_write/matchbeforewrite/RepresentationOfPinLaw", "same", "([B[B)Z"⟩ : MethodName) method_3_code 2 (some .boolean) [] ({ frames := 0, cells := 0, slots := 0, locals := 0 } : Room) #[(.ref c1), (.ref c2)] (Q_csam2_1 Z c1 c2 k1 k2 x0 x1 y0 y1 h0) := by
  refine enter (plainFor_of_name pn0) ?_
  intro pp ee ss mm below meth cc s₁ hx hby hml hZ hown hnm hret hlk X0 e0 hs0
  replace hown : ss.vm.findClass "com/example/match_before_write/matchbeforewrite/RepresentationOfPinLaw" = some mm.cls := hown
  refine Go.cast (congrArg s₁.setTop (ef_csam2_1 mm c1 c2)) ?_
  have N0 := Fr.nil Z.heap.size
  show Go pp ee below _ (s₁.setTop (mkF mm 0 #[.val (.ref c1), .val (.ref c2)] []))
  refine Go.aloadN X0 hx (hb hby d12_0) rfl rfl (q := 1) rfl ?_
  refine Go.alen X0 hx hZ e0 V1 (hb hby d12_1) ?_
  refine Go.aloadN X0 hx (hb hby d12_2) rfl rfl (q := 3) rfl ?_
  refine Go.alen X0 hx hZ e0 V2 (hb hby d12_3) ?_
  refine Go.icmpYes X0 hx (hb hby d12_4) (by decide) (q := 9) (by decide) (by decide) ?_
  refine Go.aloadN X0 hx (hb hby d12_9) rfl rfl (q := 10) rfl ?_
  refine Go.alen X0 hx hZ e0 V1 (hb hby d12_10) ?_
  refine Go.ifNo X0 hx (hb hby d12_11) (by decide) (q := 14) rfl ?_
  refine Go.aloadN X0 hx (hb hby d12_14) rfl rfl (q := 15) rfl ?_
  refine Go.iconst X0 hx (hb hby d12_15) (r := (0 : Int32)) rfl (q := 16) rfl ?_
  refine Go.bal X0 hx hZ e0 V1 ⟨by decide, by decide⟩ (v := (.int x0)) rfl (hb hby d12_16) ?_
  refine Go.aloadN X0 hx (hb hby d12_17) rfl rfl (q := 18) rfl ?_
  refine Go.iconst X0 hx (hb hby d12_18) (r := (0 : Int32)) rfl (q := 19) rfl ?_
  refine Go.bal X0 hx hZ e0 V2 ⟨by decide, by decide⟩ (v := (.int y0)) rfl (hb hby d12_19) ?_
  refine Go.icmpYes X0 hx (hb hby d12_20) (Jvm.Free.XT.ii_eq_t xe0) (q := 25) (by decide) (by decide) ?_
  refine Go.aloadN X0 hx (hb hby d12_25) rfl rfl (q := 26) rfl ?_
  refine Go.alen X0 hx hZ e0 V1 (hb hby d12_26) ?_
  refine Go.iconst X0 hx (hb hby d12_27) (r := (1 : Int32)) rfl (q := 28) rfl ?_
  refine Go.icmpNo X0 hx (hb hby d12_28) (by decide) (q := 31) rfl ?_
  refine Go.aloadN X0 hx (hb hby d12_31) rfl rfl (q := 32) rfl ?_
  refine Go.iconst X0 hx (hb hby d12_32) (r := (1 : Int32)) rfl (q := 33) rfl ?_
  refine Go.bal X0 hx hZ e0 V1 ⟨by decide, by decide⟩ (v := (.int x1)) rfl (hb hby d12_33) ?_
  refine Go.aloadN X0 hx (hb hby d12_34) rfl rfl (q := 35) rfl ?_
  refine Go.iconst X0 hx (hb hby d12_35) (r := (1 : Int32)) rfl (q := 36) rfl ?_
  refine Go.bal X0 hx hZ e0 V2 ⟨by decide, by decide⟩ (v := (.int y1)) rfl (hb hby d12_36) ?_
  refine Go.icmpNo X0 hx (hb hby d12_37) (Jvm.Free.XT.ii_eq_f ne) (q := 40) rfl ?_
  refine Go.iconst X0 hx (hb hby d12_40) (r := (0 : Int32)) rfl (q := 41) rfl ?_
  exact Go.retI X0 hx hret hlk (by simp) rfl (hb hby d12_41) e0 (by decide) (by decide) ⟨rfl, N0, rfl⟩
def Q_chs2_1 (Z : State) (o : Addr) (q : Addr) (c1 : Addr) (c2 : Addr) (k1 : ClassId) (k2 : ClassId) (x0 : Int32) (x1 : Int32) (y0 : Int32) (y1 : Int32) (h0 : Heap) (vR : Option Value) (hR : Heap) (LR : List Loc) : Prop := vR = some (.int (0 : Int32)) ∧ Fr Z.heap.size LR ∧ hR = h0
set_option maxRecDepth 65536 in
set_option maxHeartbeats 40000000 in
theorem chs2_1 (l : Launch) (Z : State) (a0 : Array Value) (hw : ∀ d ∈ tables_1, d.before a0 Z = true) (o : Addr) (q : Addr) (c1 : Addr) (c2 : Addr) (k1 : ClassId) (k2 : ClassId) (x0 : Int32) (x1 : Int32) (y0 : Int32) (y1 : Int32) (h0 : Heap) (O0 : Ext Z.heap h0) (Fo : Fld Z h0 o "com/example/match_before_write/matchbeforewrite/Representation" "content" "[B" (.ref c1)) (Fq : Fld Z h0 q "com/example/match_before_write/matchbeforewrite/Representation" "content" "[B" (.ref c2)) (V1 : Arv Z h0 c1 k1 .byte (2 : Int32) [(.int x0), (.int x1)] (.int (0 : Int32))) (V2 : Arv Z h0 c2 k2 .byte (2 : Int32) [(.int y0), (.int y1)] (.int (0 : Int32))) (nn : c1 ≠ c2) (xe0 : x0 = y0) (ne : ¬ (x1 = y1)) :
    Ctr l Z h0 (⟨"com/example/match_before_write/matchbeforewrite/Representation", "hasSameBytesAs", "(Lcom/example/match_before_write/matchbeforewrite/Representation;)Z"⟩ : MethodName) prog_13_method_13_code 2 (some .boolean) [] ({ frames := 2, cells := 0, slots := 0, locals := 29 } : Room) #[(.ref o), (.ref q)] (Q_chs2_1 Z o q c1 c2 k1 k2 x0 x1 y0 y1 h0) := by
  refine enter (plainFor_of_name pn1) ?_
  intro pp ee ss mm below meth cc s₁ hx hby hml hZ hown hnm hret hlk X0 e0 hs0
  replace hown : ss.vm.findClass "com/example/match_before_write/matchbeforewrite/Representation" = some mm.cls := hown
  refine Go.cast (congrArg s₁.setTop (ef_chs2_1 mm o q)) ?_
  have N0 := Fr.nil Z.heap.size
  show Go pp ee below _ (s₁.setTop (mkF mm 0 #[.val (.ref o), .val (.ref q)] []))
  refine Go.aloadN X0 hx (hb hby d9_0) rfl rfl (q := 1) rfl ?_
  refine Go.getF X0 hx hZ hown (host := "") (Or.inl (wd26 hw)) Via.refl e0 Fo (hb hby d9_1) (q := 4) rfl ?_
  intro T101 X101 e101
  refine Go.aloadN X101 hx (hb hby d9_4) rfl rfl (q := 5) rfl ?_
  refine Go.getF X101 hx hZ hown (host := "") (Or.inl (wd26 hw)) Via.refl e101 Fq (hb hby d9_5) (q := 8) rfl ?_
  intro T102 X102 e102
  refine Go.callS X102 hx hZ hown (wd61 hw) (wd62 hw) (wd63 hw) (wd64 hw) (by decide) (ceq2_1 l Z a0 hw c1 c2 (k1) (k2) x0 x1 y0 y1 h0 O0 V1 V2 nn xe0 ne) e102 (by rw [hml]; rfl) (hb hby d9_8) (argsL := [(.ref c1), (.ref c2)]) (rest := []) (lenOf pd2 rfl) rfl rfl (W := 0) (by first | exact Nat.le_refl _ | decide) (by decide) (by decide) (by decide) (by decide) ?_
  intro v103 T103 L103 X103 hQ103
  obtain ⟨rfl, N103q, e103⟩ := hQ103
  have N103 := Fr.app N0 N103q
  exact Go.retI X103 hx hret hlk (by simp) rfl (hb hby d9_11) e103 (by decide) (by decide) ⟨rfl, N103, rfl⟩
def Q_cmis2_0 (Z : State) (c1 : Addr) (c2 : Addr) (k1 : ClassId) (k2 : ClassId) (x0 : Int32) (x1 : Int32) (y0 : Int32) (y1 : Int32) (h0 : Heap) (vR : Option Value) (hR : Heap) (LR : List Loc) : Prop := vR = some (.int (0 : Int32)) ∧ Fr Z.heap.size LR ∧ hR = h0
set_option maxRecDepth 65536 in
set_option maxHeartbeats 40000000 in
theorem cmis2_0 (l : Launch) (Z : State) (a0 : Array Value) (hw : ∀ d ∈ tables_1, d.before a0 Z = true) (c1 : Addr) (c2 : Addr) (k1 : ClassId) (k2 : ClassId) (x0 : Int32) (x1 : Int32) (y0 : Int32) (y1 : Int32) (h0 : Heap) (O0 : Ext Z.heap h0) (V1 : Arv Z h0 c1 k1 .byte (2 : Int32) [(.int x0), (.int x1)] (.int (0 : Int32))) (V2 : Arv Z h0 c2 k2 .byte (2 : Int32) [(.int y0), (.int y1)] (.int (0 : Int32))) (ne : ¬ (x0 = y0)) :
    Ctr l Z h0 (⟨"jdk/internal/util/ArraysSupport", "mismatch", "([B[BI)I"⟩ : MethodName) jdk_48_method_13_code 4 (some .int) [] ({ frames := 0, cells := 0, slots := 0, locals := 0 } : Room) #[(.ref c1), (.ref c2), (.int (2 : Int32))] (Q_cmis2_0 Z c1 c2 k1 k2 x0 x1 y0 y1 h0) := by
  refine enter (plainFor_of_name pn2) ?_
  intro pp ee ss mm below meth cc s₁ hx hby hml hZ hown hnm hret hlk X0 e0 hs0
  replace hown : ss.vm.findClass "jdk/internal/util/ArraysSupport" = some mm.cls := hown
  refine Go.cast (congrArg s₁.setTop (ef_cmis2_0 mm c1 c2)) ?_
  have N0 := Fr.nil Z.heap.size
  show Go pp ee below _ (s₁.setTop (mkF mm 0 #[.val (.ref c1), .val (.ref c2), .val (.int (2 : Int32)), .unset] []))
  refine Go.iconst X0 hx (hb hby d11_0) (r := (0 : Int32)) rfl (q := 1) rfl ?_
  refine Go.istoreN X0 hx (hb hby d11_1) (l' := #[.val (.ref c1), .val (.ref c2), .val (.int (2 : Int32)), .val (.int (0 : Int32))]) rfl (q := 2) rfl ?_
  refine Go.iloadN X0 hx (hb hby d11_2) rfl (q := 3) rfl ?_
  refine Go.bipush X0 hx (hb hby d11_3) (r := (7 : Int32)) rfl (q := 5) rfl ?_
  refine Go.icmpYes X0 hx (hb hby d11_5) (by decide) (q := 49) (by decide) (by decide) ?_
  refine Go.iloadN X0 hx (hb hby d11_49) rfl (q := 50) rfl ?_
  refine Go.iloadN X0 hx (hb hby d11_50) rfl (q := 51) rfl ?_
  refine Go.icmpNo X0 hx (hb hby d11_51) (by decide) (q := 54) rfl ?_
  refine Go.aloadN X0 hx (hb hby d11_54) rfl rfl (q := 55) rfl ?_
  refine Go.iloadN X0 hx (hb hby d11_55) rfl (q := 56) rfl ?_
  refine Go.bal X0 hx hZ e0 V1 ⟨by decide, by decide⟩ (v := (.int x0)) rfl (hb hby d11_56) ?_
  refine Go.aloadN X0 hx (hb hby d11_57) rfl rfl (q := 58) rfl ?_
  refine Go.iloadN X0 hx (hb hby d11_58) rfl (q := 59) rfl ?_
  refine Go.bal X0 hx hZ e0 V2 ⟨by decide, by decide⟩ (v := (.int y0)) rfl (hb hby d11_59) ?_
  refine Go.icmpNo X0 hx (hb hby d11_60) (Jvm.Free.XT.ii_eq_f ne) (q := 63) rfl ?_
  refine Go.iloadN X0 hx (hb hby d11_63) rfl (q := 64) rfl ?_
  exact Go.retI X0 hx hret hlk (Or.inl rfl) rfl (hb hby d11_64) e0 (by decide) (by decide) ⟨rfl, N0, rfl⟩
def Q_ceq2_0 (Z : State) (c1 : Addr) (c2 : Addr) (k1 : ClassId) (k2 : ClassId) (x0 : Int32) (x1 : Int32) (y0 : Int32) (y1 : Int32) (h0 : Heap) (vR : Option Value) (hR : Heap) (LR : List Loc) : Prop := vR = some (.int (0 : Int32)) ∧ Fr Z.heap.size LR ∧ hR = h0
set_option maxRecDepth 65536 in
set_option maxHeartbeats 40000000 in
theorem ceq2_0 (l : Launch) (Z : State) (a0 : Array Value) (hw : ∀ d ∈ tables_1, d.before a0 Z = true) (c1 : Addr) (c2 : Addr) (k1 : ClassId) (k2 : ClassId) (x0 : Int32) (x1 : Int32) (y0 : Int32) (y1 : Int32) (h0 : Heap) (O0 : Ext Z.heap h0) (V1 : Arv Z h0 c1 k1 .byte (2 : Int32) [(.int x0), (.int x1)] (.int (0 : Int32))) (V2 : Arv Z h0 c2 k2 .byte (2 : Int32) [(.int y0), (.int y1)] (.int (0 : Int32))) (nn : c1 ≠ c2) (ne : ¬ (x0 = y0)) :
    Ctr l Z h0 (⟨"java/util/Arrays", "equals", "([B[B)Z"⟩ : MethodName) jdk_65_method_89_code 3 (some .boolean) [] ({ frames := 1, cells := 0, slots := 0, locals := 15 } : Room) #[(.ref c1), (.ref c2)] (Q_ceq2_0 Z c1 c2 k1 k2 x0 x1 y0 y1 h0) := by
  refine enter (plainFor_of_name pn3) ?_
  intro pp ee ss mm below meth cc s₁ hx hby hml hZ hown hnm hret hlk X0 e0 hs0
  replace hown : ss.vm.findClass "java/util/Arrays" = some mm.cls := hown
  refine Go.cast (congrArg s₁.setTop (ef_ceq2_0 mm c1 c2)) ?_
  have N0 := Fr.nil Z.heap.size
  show Go pp ee below _ (s₁.setTop (mkF mm 0 #[.val (.ref c1), .val (.ref c2), .unset] []))
  refine Go.aloadN X0 hx (hb hby d10_0) rfl rfl (q := 1) rfl ?_
  refine Go.aloadN X0 hx (hb hby d10_1) rfl rfl (q := 2) rfl ?_
  refine Go.acmp X0 hx rfl rfl (hb hby d10_2) (same := false) (decide_eq_false fun q => nn (Value.ref.inj q)) (q := 7) (by decide) (by decide) ?_
  refine Go.aloadN X0 hx (hb hby d10_7) rfl rfl (q := 8) rfl ?_
  refine Go.ifnullNo X0 hx (hb hby d10_8) (q := 11) rfl ?_
  refine Go.aloadN X0 hx (hb hby d10_11) rfl rfl (q := 12) rfl ?_
  refine Go.ifnonnullYes X0 hx (hb hby d10_12) (q := 17) (by decide) (by decide) ?_
  refine Go.aloadN X0 hx (hb hby d10_17) rfl rfl (q := 18) rfl ?_
  refine Go.alen X0 hx hZ e0 V1 (hb hby d10_18) ?_
  refine Go.istoreN X0 hx (hb hby d10_19) (l' := #[.val (.ref c1), .val (.ref c2), .val (.int (2 : Int32))]) rfl (q := 20) rfl ?_
  refine Go.aloadN X0 hx (hb hby d10_20) rfl rfl (q := 21) rfl ?_
  refine Go.alen X0 hx hZ e0 V2 (hb hby d10_21) ?_
  refine Go.iloadN X0 hx (hb hby d10_22) rfl (q := 23) rfl ?_
  refine Go.icmpYes X0 hx (hb hby d10_23) (by decide) (q := 28) (by decide) (by decide) ?_
  refine Go.aloadN X0 hx (hb hby d10_28) rfl rfl (q := 29) rfl ?_
  refine Go.aloadN X0 hx (hb hby d10_29) rfl rfl (q := 30) rfl ?_
  refine Go.iloadN X0 hx (hb hby d10_30) rfl (q := 31) rfl ?_
  refine Go.callS X0 hx hZ hown (wd65 hw) (wd66 hw) (wd67 hw) (wd68 hw) (by decide) (cmis2_0 l Z a0 hw c1 c2 (k1) (k2) x0 x1 y0 y1 h0 O0 V1 V2 ne) e0 (by rw [hml]; rfl) (hb hby d10_31) (argsL := [(.ref c1), (.ref c2), (.int (2 : Int32))]) (rest := []) (lenOf pd1 rfl) rfl rfl (W := 0) (by first | exact Nat.le_refl _ | decide) (by decide) (by decide) (by decide) (by decide) ?_
  intro v101 T101 L101 X101 hQ101
  obtain ⟨rfl, N101q, e101⟩ := hQ101
  have N101 := Fr.app N0 N101q
  refine Go.ifYes X101 hx (hb hby d10_34) (by decide) (q := 41) (by decide) (by decide) ?_
  refine Go.iconst X101 hx (hb hby d10_41) (r := (0 : Int32)) rfl (q := 42) rfl ?_
  exact Go.retI X101 hx hret hlk (by simp) rfl (hb hby d10_42) e101 (by decide) (by decide) ⟨rfl, N101, rfl⟩
def Q_csam2_0 (Z : State) (c1 : Addr) (c2 : Addr) (k1 : ClassId) (k2 : ClassId) (x0 : Int32) (x1 : Int32) (y0 : Int32) (y1 : Int32) (h0 : Heap) (vR : Option Value) (hR : Heap) (LR : List Loc) : Prop := vR = some (.int (0 : Int32)) ∧ Fr Z.heap.size LR ∧ hR = h0
set_option maxRecDepth 65536 in
set_option maxHeartbeats 40000000 in
theorem csam2_0 (l : Launch) (Z : State) (a0 : Array Value) (hw : ∀ d ∈ tables_1, d.before a0 Z = true) (c1 : Addr) (c2 : Addr) (k1 : ClassId) (k2 : ClassId) (x0 : Int32) (x1 : Int32) (y0 : Int32) (y1 : Int32) (h0 : Heap) (O0 : Ext Z.heap h0) (V1 : Arv Z h0 c1 k1 .byte (2 : Int32) [(.int x0), (.int x1)] (.int (0 : Int32))) (V2 : Arv Z h0 c2 k2 .byte (2 : Int32) [(.int y0), (.int y1)] (.int (0 : Int32))) (ne : ¬ (x0 = y0)) :
    Ctr l Z h0 (⟨"com/example/match_before_write/matchbeforewrite/RepresentationOfPinLaw", "same", "([B[B)Z"⟩ : MethodName) method_3_code 2 (some .boolean) [] ({ frames := 0, cells := 0, slots := 0, locals := 0 } : Room) #[(.ref c1), (.ref c2)] (Q_csam2_0 Z c1 c2 k1 k2 x0 x1 y0 y1 h0) := by
  refine enter (plainFor_of_name pn0) ?_
  intro pp ee ss mm below meth cc s₁ hx hby hml hZ hown hnm hret hlk X0 e0 hs0
  replace hown : ss.vm.findClass "com/example/match_before_write/matchbeforewrite/RepresentationOfPinLaw" = some mm.cls := hown
  refine Go.cast (congrArg s₁.setTop (ef_csam2_0 mm c1 c2)) ?_
  have N0 := Fr.nil Z.heap.size
  show Go pp ee below _ (s₁.setTop (mkF mm 0 #[.val (.ref c1), .val (.ref c2)] []))
  refine Go.aloadN X0 hx (hb hby d12_0) rfl rfl (q := 1) rfl ?_
  refine Go.alen X0 hx hZ e0 V1 (hb hby d12_1) ?_
  refine Go.aloadN X0 hx (hb hby d12_2) rfl rfl (q := 3) rfl ?_
  refine Go.alen X0 hx hZ e0 V2 (hb hby d12_3) ?_
  refine Go.icmpYes X0 hx (hb hby d12_4) (by decide) (q := 9) (by decide) (by decide) ?_
  refine Go.aloadN X0 hx (hb hby d12_9) rfl rfl (q := 10) rfl ?_
  refine Go.alen X0 hx hZ e0 V1 (hb hby d12_10) ?_
  refine Go.ifNo X0 hx (hb hby d12_11) (by decide) (q := 14) rfl ?_
  refine Go.aloadN X0 hx (hb hby d12_14) rfl rfl (q := 15) rfl ?_
  refine Go.iconst X0 hx (hb hby d12_15) (r := (0 : Int32)) rfl (q := 16) rfl ?_
  refine Go.bal X0 hx hZ e0 V1 ⟨by decide, by decide⟩ (v := (.int x0)) rfl (hb hby d12_16) ?_
  refine Go.aloadN X0 hx (hb hby d12_17) rfl rfl (q := 18) rfl ?_
  refine Go.iconst X0 hx (hb hby d12_18) (r := (0 : Int32)) rfl (q := 19) rfl ?_
  refine Go.bal X0 hx hZ e0 V2 ⟨by decide, by decide⟩ (v := (.int y0)) rfl (hb hby d12_19) ?_
  refine Go.icmpNo X0 hx (hb hby d12_20) (Jvm.Free.XT.ii_eq_f ne) (q := 23) rfl ?_
  refine Go.iconst X0 hx (hb hby d12_23) (r := (0 : Int32)) rfl (q := 24) rfl ?_
  exact Go.retI X0 hx hret hlk (by simp) rfl (hb hby d12_24) e0 (by decide) (by decide) ⟨rfl, N0, rfl⟩
def Q_chs2_0 (Z : State) (o : Addr) (q : Addr) (c1 : Addr) (c2 : Addr) (k1 : ClassId) (k2 : ClassId) (x0 : Int32) (x1 : Int32) (y0 : Int32) (y1 : Int32) (h0 : Heap) (vR : Option Value) (hR : Heap) (LR : List Loc) : Prop := vR = some (.int (0 : Int32)) ∧ Fr Z.heap.size LR ∧ hR = h0
set_option maxRecDepth 65536 in
set_option maxHeartbeats 40000000 in
theorem chs2_0 (l : Launch) (Z : State) (a0 : Array Value) (hw : ∀ d ∈ tables_1, d.before a0 Z = true) (o : Addr) (q : Addr) (c1 : Addr) (c2 : Addr) (k1 : ClassId) (k2 : ClassId) (x0 : Int32) (x1 : Int32) (y0 : Int32) (y1 : Int32) (h0 : Heap) (O0 : Ext Z.heap h0) (Fo : Fld Z h0 o "com/example/match_before_write/matchbeforewrite/Representation" "content" "[B" (.ref c1)) (Fq : Fld Z h0 q "com/example/match_before_write/matchbeforewrite/Representation" "content" "[B" (.ref c2)) (V1 : Arv Z h0 c1 k1 .byte (2 : Int32) [(.int x0), (.int x1)] (.int (0 : Int32))) (V2 : Arv Z h0 c2 k2 .byte (2 : Int32) [(.int y0), (.int y1)] (.int (0 : Int32))) (nn : c1 ≠ c2) (ne : ¬ (x0 = y0)) :
    Ctr l Z h0 (⟨"com/example/match_before_write/matchbeforewrite/Representation", "hasSameBytesAs", "(Lcom/example/match_before_write/matchbeforewrite/Representation;)Z"⟩ : MethodName) prog_13_method_13_code 2 (some .boolean) [] ({ frames := 2, cells := 0, slots := 0, locals := 29 } : Room) #[(.ref o), (.ref q)] (Q_chs2_0 Z o q c1 c2 k1 k2 x0 x1 y0 y1 h0) := by
  refine enter (plainFor_of_name pn1) ?_
  intro pp ee ss mm below meth cc s₁ hx hby hml hZ hown hnm hret hlk X0 e0 hs0
  replace hown : ss.vm.findClass "com/example/match_before_write/matchbeforewrite/Representation" = some mm.cls := hown
  refine Go.cast (congrArg s₁.setTop (ef_chs2_0 mm o q)) ?_
  have N0 := Fr.nil Z.heap.size
  show Go pp ee below _ (s₁.setTop (mkF mm 0 #[.val (.ref o), .val (.ref q)] []))
  refine Go.aloadN X0 hx (hb hby d9_0) rfl rfl (q := 1) rfl ?_
  refine Go.getF X0 hx hZ hown (host := "") (Or.inl (wd26 hw)) Via.refl e0 Fo (hb hby d9_1) (q := 4) rfl ?_
  intro T101 X101 e101
  refine Go.aloadN X101 hx (hb hby d9_4) rfl rfl (q := 5) rfl ?_
  refine Go.getF X101 hx hZ hown (host := "") (Or.inl (wd26 hw)) Via.refl e101 Fq (hb hby d9_5) (q := 8) rfl ?_
  intro T102 X102 e102
  refine Go.callS X102 hx hZ hown (wd61 hw) (wd62 hw) (wd63 hw) (wd64 hw) (by decide) (ceq2_0 l Z a0 hw c1 c2 (k1) (k2) x0 x1 y0 y1 h0 O0 V1 V2 nn ne) e102 (by rw [hml]; rfl) (hb hby d9_8) (argsL := [(.ref c1), (.ref c2)]) (rest := []) (lenOf pd2 rfl) rfl rfl (W := 0) (by first | exact Nat.le_refl _ | decide) (by decide) (by decide) (by decide) (by decide) ?_
  intro v103 T103 L103 X103 hQ103
  obtain ⟨rfl, N103q, e103⟩ := hQ103
  have N103 := Fr.app N0 N103q
  exact Go.retI X103 hx hret hlk (by simp) rfl (hb hby d9_11) e103 (by decide) (by decide) ⟨rfl, N103, rfl⟩
def Q_ceqd2_0 (Z : State) (c1 : Addr) (c2 : Addr) (k1 : ClassId) (k2 : ClassId) (x0 : Int32) (x1 : Int32) (h0 : Heap) (vR : Option Value) (hR : Heap) (LR : List Loc) : Prop := vR = some (.int (0 : Int32)) ∧ Fr Z.heap.size LR ∧ hR = h0
set_option maxRecDepth 65536 in
set_option maxHeartbeats 40000000 in
theorem ceqd2_0 (l : Launch) (Z : State) (a0 : Array Value) (hw : ∀ d ∈ tables_1, d.before a0 Z = true) (c1 : Addr) (c2 : Addr) (k1 : ClassId) (k2 : ClassId) (x0 : Int32) (x1 : Int32) (h0 : Heap) (O0 : Ext Z.heap h0) (V1 : Arv Z h0 c1 k1 .byte (2 : Int32) [(.int x0), (.int x1)] (.int (0 : Int32))) (V2 : Arv Z h0 c2 k2 .byte (0 : Int32) [] (.int (0 : Int32))) (nn : c1 ≠ c2) :
    Ctr l Z h0 (⟨"java/util/Arrays", "equals", "([B[B)Z"⟩ : MethodName) jdk_65_method_89_code 3 (some .boolean) [] ({ frames := 0, cells := 0, slots := 0, locals := 0 } : Room) #[(.ref c1), (.ref c2)] (Q_ceqd2_0 Z c1 c2 k1 k2 x0 x1 h0) := by
  refine enter (plainFor_of_name pn3) ?_
  intro pp ee ss mm below meth cc s₁ hx hby hml hZ hown hnm hret hlk X0 e0 hs0
  replace hown : ss.vm.findClass "java/util/Arrays" = some mm.cls := hown
  refine Go.cast (congrArg s₁.setTop (ef_ceqd2_0 mm c1 c2)) ?_
  have N0 := Fr.nil Z.heap.size
  show Go pp ee below _ (s₁.setTop (mkF mm 0 #[.val (.ref c1), .val (.ref c2), .unset] []))
  refine Go.aloadN X0 hx (hb hby d10_0) rfl rfl (q := 1) rfl ?_
  refine Go.aloadN X0 hx (hb hby d10_1) rfl rfl (q := 2) rfl ?_
  refine Go.acmp X0 hx rfl rfl (hb hby d10_2) (same := false) (decide_eq_false fun q => nn (Value.ref.inj q)) (q := 7) (by decide) (by decide) ?_
  refine Go.aloadN X0 hx (hb hby d10_7) rfl rfl (q := 8) rfl ?_
  refine Go.ifnullNo X0 hx (hb hby d10_8) (q := 11) rfl ?_
  refine Go.aloadN X0 hx (hb hby d10_11) rfl rfl (q := 12) rfl ?_
  refine Go.ifnonnullYes X0 hx (hb hby d10_12) (q := 17) (by decide) (by decide) ?_
  refine Go.aloadN X0 hx (hb hby d10_17) rfl rfl (q := 18) rfl ?_
  refine Go.alen X0 hx hZ e0 V1 (hb hby d10_18) ?_
  refine Go.istoreN X0 hx (hb hby d10_19) (l' := #[.val (.ref c1), .val (.ref c2), .val (.int (2 : Int32))]) rfl (q := 20) rfl ?_
  refine Go.aloadN X0 hx (hb hby d10_20) rfl rfl (q := 21) rfl ?_
  refine Go.alen X0 hx hZ e0 V2 (hb hby d10_21) ?_
  refine Go.iloadN X0 hx (hb hby d10_22) rfl (q := 23) rfl ?_
  refine Go.icmpNo X0 hx (hb hby d10_23) (by decide) (q := 26) rfl ?_
  refine Go.iconst X0 hx (hb hby d10_26) (r := (0 : Int32)) rfl (q := 27) rfl ?_
  exact Go.retI X0 hx hret hlk (by simp) rfl (hb hby d10_27) e0 (by decide) (by decide) ⟨rfl, N0, rfl⟩
def Q_csamd2_0 (Z : State) (c1 : Addr) (c2 : Addr) (k1 : ClassId) (k2 : ClassId) (x0 : Int32) (x1 : Int32) (h0 : Heap) (vR : Option Value) (hR : Heap) (LR : List Loc) : Prop := vR = some (.int (0 : Int32)) ∧ Fr Z.heap.size LR ∧ hR = h0
set_option maxRecDepth 65536 in
set_option maxHeartbeats 40000000 in
theorem csamd2_0 (l : Launch) (Z : State) (a0 : Array Value) (hw : ∀ d ∈ tables_1, d.before a0 Z = true) (c1 : Addr) (c2 : Addr) (k1 : ClassId) (k2 : ClassId) (x0 : Int32) (x1 : Int32) (h0 : Heap) (O0 : Ext Z.heap h0) (V1 : Arv Z h0 c1 k1 .byte (2 : Int32) [(.int x0), (.int x1)] (.int (0 : Int32))) (V2 : Arv Z h0 c2 k2 .byte (0 : Int32) [] (.int (0 : Int32))) :
    Ctr l Z h0 (⟨"com/example/match_before_write/matchbeforewrite/RepresentationOfPinLaw", "same", "([B[B)Z"⟩ : MethodName) method_3_code 2 (some .boolean) [] ({ frames := 0, cells := 0, slots := 0, locals := 0 } : Room) #[(.ref c1), (.ref c2)] (Q_csamd2_0 Z c1 c2 k1 k2 x0 x1 h0) := by
  refine enter (plainFor_of_name pn0) ?_
  intro pp ee ss mm below meth cc s₁ hx hby hml hZ hown hnm hret hlk X0 e0 hs0
  replace hown : ss.vm.findClass "com/example/match_before_write/matchbeforewrite/RepresentationOfPinLaw" = some mm.cls := hown
  refine Go.cast (congrArg s₁.setTop (ef_csamd2_0 mm c1 c2)) ?_
  have N0 := Fr.nil Z.heap.size
  show Go pp ee below _ (s₁.setTop (mkF mm 0 #[.val (.ref c1), .val (.ref c2)] []))
  refine Go.aloadN X0 hx (hb hby d12_0) rfl rfl (q := 1) rfl ?_
  refine Go.alen X0 hx hZ e0 V1 (hb hby d12_1) ?_
  refine Go.aloadN X0 hx (hb hby d12_2) rfl rfl (q := 3) rfl ?_
  refine Go.alen X0 hx hZ e0 V2 (hb hby d12_3) ?_
  refine Go.icmpNo X0 hx (hb hby d12_4) (by decide) (q := 7) rfl ?_
  refine Go.iconst X0 hx (hb hby d12_7) (r := (0 : Int32)) rfl (q := 8) rfl ?_
  exact Go.retI X0 hx hret hlk (by simp) rfl (hb hby d12_8) e0 (by decide) (by decide) ⟨rfl, N0, rfl⟩
def Q_chsd2_0 (Z : State) (o : Addr) (q : Addr) (c1 : Addr) (c2 : Addr) (k1 : ClassId) (k2 : ClassId) (x0 : Int32) (x1 : Int32) (h0 : Heap) (vR : Option Value) (hR : Heap) (LR : List Loc) : Prop := vR = some (.int (0 : Int32)) ∧ Fr Z.heap.size LR ∧ hR = h0
set_option maxRecDepth 65536 in
set_option maxHeartbeats 40000000 in
theorem chsd2_0 (l : Launch) (Z : State) (a0 : Array Value) (hw : ∀ d ∈ tables_1, d.before a0 Z = true) (o : Addr) (q : Addr) (c1 : Addr) (c2 : Addr) (k1 : ClassId) (k2 : ClassId) (x0 : Int32) (x1 : Int32) (h0 : Heap) (O0 : Ext Z.heap h0) (Fo : Fld Z h0 o "com/example/match_before_write/matchbeforewrite/Representation" "content" "[B" (.ref c1)) (Fq : Fld Z h0 q "com/example/match_before_write/matchbeforewrite/Representation" "content" "[B" (.ref c2)) (V1 : Arv Z h0 c1 k1 .byte (2 : Int32) [(.int x0), (.int x1)] (.int (0 : Int32))) (V2 : Arv Z h0 c2 k2 .byte (0 : Int32) [] (.int (0 : Int32))) (nn : c1 ≠ c2) :
    Ctr l Z h0 (⟨"com/example/match_before_write/matchbeforewrite/Representation", "hasSameBytesAs", "(Lcom/example/match_before_write/matchbeforewrite/Representation;)Z"⟩ : MethodName) prog_13_method_13_code 2 (some .boolean) [] ({ frames := 1, cells := 0, slots := 0, locals := 14 } : Room) #[(.ref o), (.ref q)] (Q_chsd2_0 Z o q c1 c2 k1 k2 x0 x1 h0) := by
  refine enter (plainFor_of_name pn1) ?_
  intro pp ee ss mm below meth cc s₁ hx hby hml hZ hown hnm hret hlk X0 e0 hs0
  replace hown : ss.vm.findClass "com/example/match_before_write/matchbeforewrite/Representation" = some mm.cls := hown
  refine Go.cast (congrArg s₁.setTop (ef_chsd2_0 mm o q)) ?_
  have N0 := Fr.nil Z.heap.size
  show Go pp ee below _ (s₁.setTop (mkF mm 0 #[.val (.ref o), .val (.ref q)] []))
  refine Go.aloadN X0 hx (hb hby d9_0) rfl rfl (q := 1) rfl ?_
  refine Go.getF X0 hx hZ hown (host := "") (Or.inl (wd26 hw)) Via.refl e0 Fo (hb hby d9_1) (q := 4) rfl ?_
  intro T101 X101 e101
  refine Go.aloadN X101 hx (hb hby d9_4) rfl rfl (q := 5) rfl ?_
  refine Go.getF X101 hx hZ hown (host := "") (Or.inl (wd26 hw)) Via.refl e101 Fq (hb hby d9_5) (q := 8) rfl ?_
  intro T102 X102 e102
  refine Go.callS X102 hx hZ hown (wd61 hw) (wd62 hw) (wd63 hw) (wd64 hw) (by decide) (ceqd2_0 l Z a0 hw c1 c2 (k1) (k2) x0 x1 h0 O0 V1 V2 nn) e102 (by rw [hml]; rfl) (hb hby d9_8) (argsL := [(.ref c1), (.ref c2)]) (rest := []) (lenOf pd2 rfl) rfl rfl (W := 0) (by first | exact Nat.le_refl _ | decide) (by decide) (by decide) (by decide) (by decide) ?_
  intro v103 T103 L103 X103 hQ103
  obtain ⟨rfl, N103q, e103⟩ := hQ103
  have N103 := Fr.app N0 N103q
  exact Go.retI X103 hx hret hlk (by simp) rfl (hb hby d9_11) e103 (by decide) (by decide) ⟨rfl, N103, rfl⟩
def Q_ceqd2_1 (Z : State) (c1 : Addr) (c2 : Addr) (k1 : ClassId) (k2 : ClassId) (x0 : Int32) (x1 : Int32) (y0 : Int32) (h0 : Heap) (vR : Option Value) (hR : Heap) (LR : List Loc) : Prop := vR = some (.int (0 : Int32)) ∧ Fr Z.heap.size LR ∧ hR = h0
set_option maxRecDepth 65536 in
set_option maxHeartbeats 40000000 in
theorem ceqd2_1 (l : Launch) (Z : State) (a0 : Array Value) (hw : ∀ d ∈ tables_1, d.before a0 Z = true) (c1 : Addr) (c2 : Addr) (k1 : ClassId) (k2 : ClassId) (x0 : Int32) (x1 : Int32) (y0 : Int32) (h0 : Heap) (O0 : Ext Z.heap h0) (V1 : Arv Z h0 c1 k1 .byte (2 : Int32) [(.int x0), (.int x1)] (.int (0 : Int32))) (V2 : Arv Z h0 c2 k2 .byte (1 : Int32) [(.int y0)] (.int (0 : Int32))) (nn : c1 ≠ c2) :
    Ctr l Z h0 (⟨"java/util/Arrays", "equals", "([B[B)Z"⟩ : MethodName) jdk_65_method_89_code 3 (some .boolean) [] ({ frames := 0, cells := 0, slots := 0, locals := 0 } : Room) #[(.ref c1), (.ref c2)] (Q_ceqd2_1 Z c1 c2 k1 k2 x0 x1 y0 h0) := by
  refine enter (plainFor_of_name pn3) ?_
  intro pp ee ss mm below meth cc s₁ hx hby hml hZ hown hnm hret hlk X0 e0 hs0
  replace hown : ss.vm.findClass "java/util/Arrays" = some mm.cls := hown
  refine Go.cast (congrArg s₁.setTop (ef_ceqd2_1 mm c1 c2)) ?_
  have N0 := Fr.nil Z.heap.size
  show Go pp ee below _ (s₁.setTop (mkF mm 0 #[.val (.ref c1), .val (.ref c2), .unset] []))
  refine Go.aloadN X0 hx (hb hby d10_0) rfl rfl (q := 1) rfl ?_
  refine Go.aloadN X0 hx (hb hby d10_1) rfl rfl (q := 2) rfl ?_
  refine Go.acmp X0 hx rfl rfl (hb hby d10_2) (same := false) (decide_eq_false fun q => nn (Value.ref.inj q)) (q := 7) (by decide) (by decide) ?_
  refine Go.aloadN X0 hx (hb hby d10_7) rfl rfl (q := 8) rfl ?_
  refine Go.ifnullNo X0 hx (hb hby d10_8) (q := 11) rfl ?_
  refine Go.aloadN X0 hx (hb hby d10_11) rfl rfl (q := 12) rfl ?_
  refine Go.ifnonnullYes X0 hx (hb hby d10_12) (q := 17) (by decide) (by decide) ?_
  refine Go.aloadN X0 hx (hb hby d10_17) rfl rfl (q := 18) rfl ?_
  refine Go.alen X0 hx hZ e0 V1 (hb hby d10_18) ?_
  refine Go.istoreN X0 hx (hb hby d10_19) (l' := #[.val (.ref c1), .val (.ref c2), .val (.int (2 : Int32))]) rfl (q := 20) rfl ?_
  refine Go.aloadN X0 hx (hb hby d10_20) rfl rfl (q := 21) rfl ?_
  refine Go.alen X0 hx hZ e0 V2 (hb hby d10_21) ?_
  refine Go.iloadN X0 hx (hb hby d10_22) rfl (q := 23) rfl ?_
  refine Go.icmpNo X0 hx (hb hby d10_23) (by decide) (q := 26) rfl ?_
  refine Go.iconst X0 hx (hb hby d10_26) (r := (0 : Int32)) rfl (q := 27) rfl ?_
  exact Go.retI X0 hx hret hlk (by simp) rfl (hb hby d10_27) e0 (by decide) (by decide) ⟨rfl, N0, rfl⟩
def Q_csamd2_1 (Z : State) (c1 : Addr) (c2 : Addr) (k1 : ClassId) (k2 : ClassId) (x0 : Int32) (x1 : Int32) (y0 : Int32) (h0 : Heap) (vR : Option Value) (hR : Heap) (LR : List Loc) : Prop := vR = some (.int (0 : Int32)) ∧ Fr Z.heap.size LR ∧ hR = h0
set_option maxRecDepth 65536 in
set_option maxHeartbeats 40000000 in
theorem csamd2_1 (l : Launch) (Z : State) (a0 : Array Value) (hw : ∀ d ∈ tables_1, d.before a0 Z = true) (c1 : Addr) (c2 : Addr) (k1 : ClassId) (k2 : ClassId) (x0 : Int32) (x1 : Int32) (y0 : Int32) (h0 : Heap) (O0 : Ext Z.heap h0) (V1 : Arv Z h0 c1 k1 .byte (2 : Int32) [(.int x0), (.int x1)] (.int (0 : Int32))) (V2 : Arv Z h0 c2 k2 .byte (1 : Int32) [(.int y0)] (.int (0 : Int32))) :
    Ctr l Z h0 (⟨"com/example/match_before_write/matchbeforewrite/RepresentationOfPinLaw", "same", "([B[B)Z"⟩ : MethodName) method_3_code 2 (some .boolean) [] ({ frames := 0, cells := 0, slots := 0, locals := 0 } : Room) #[(.ref c1), (.ref c2)] (Q_csamd2_1 Z c1 c2 k1 k2 x0 x1 y0 h0) := by
  refine enter (plainFor_of_name pn0) ?_
  intro pp ee ss mm below meth cc s₁ hx hby hml hZ hown hnm hret hlk X0 e0 hs0
  replace hown : ss.vm.findClass "com/example/match_before_write/matchbeforewrite/RepresentationOfPinLaw" = some mm.cls := hown
  refine Go.cast (congrArg s₁.setTop (ef_csamd2_1 mm c1 c2)) ?_
  have N0 := Fr.nil Z.heap.size
  show Go pp ee below _ (s₁.setTop (mkF mm 0 #[.val (.ref c1), .val (.ref c2)] []))
  refine Go.aloadN X0 hx (hb hby d12_0) rfl rfl (q := 1) rfl ?_
  refine Go.alen X0 hx hZ e0 V1 (hb hby d12_1) ?_
  refine Go.aloadN X0 hx (hb hby d12_2) rfl rfl (q := 3) rfl ?_
  refine Go.alen X0 hx hZ e0 V2 (hb hby d12_3) ?_
  refine Go.icmpNo X0 hx (hb hby d12_4) (by decide) (q := 7) rfl ?_
  refine Go.iconst X0 hx (hb hby d12_7) (r := (0 : Int32)) rfl (q := 8) rfl ?_
  exact Go.retI X0 hx hret hlk (by simp) rfl (hb hby d12_8) e0 (by decide) (by decide) ⟨rfl, N0, rfl⟩
def Q_chsd2_1 (Z : State) (o : Addr) (q : Addr) (c1 : Addr) (c2 : Addr) (k1 : ClassId) (k2 : ClassId) (x0 : Int32) (x1 : Int32) (y0 : Int32) (h0 : Heap) (vR : Option Value) (hR : Heap) (LR : List Loc) : Prop := vR = some (.int (0 : Int32)) ∧ Fr Z.heap.size LR ∧ hR = h0
set_option maxRecDepth 65536 in
set_option maxHeartbeats 40000000 in
theorem chsd2_1 (l : Launch) (Z : State) (a0 : Array Value) (hw : ∀ d ∈ tables_1, d.before a0 Z = true) (o : Addr) (q : Addr) (c1 : Addr) (c2 : Addr) (k1 : ClassId) (k2 : ClassId) (x0 : Int32) (x1 : Int32) (y0 : Int32) (h0 : Heap) (O0 : Ext Z.heap h0) (Fo : Fld Z h0 o "com/example/match_before_write/matchbeforewrite/Representation" "content" "[B" (.ref c1)) (Fq : Fld Z h0 q "com/example/match_before_write/matchbeforewrite/Representation" "content" "[B" (.ref c2)) (V1 : Arv Z h0 c1 k1 .byte (2 : Int32) [(.int x0), (.int x1)] (.int (0 : Int32))) (V2 : Arv Z h0 c2 k2 .byte (1 : Int32) [(.int y0)] (.int (0 : Int32))) (nn : c1 ≠ c2) :
    Ctr l Z h0 (⟨"com/example/match_before_write/matchbeforewrite/Representation", "hasSameBytesAs", "(Lcom/example/match_before_write/matchbeforewrite/Representation;)Z"⟩ : MethodName) prog_13_method_13_code 2 (some .boolean) [] ({ frames := 1, cells := 0, slots := 0, locals := 14 } : Room) #[(.ref o), (.ref q)] (Q_chsd2_1 Z o q c1 c2 k1 k2 x0 x1 y0 h0) := by
  refine enter (plainFor_of_name pn1) ?_
  intro pp ee ss mm below meth cc s₁ hx hby hml hZ hown hnm hret hlk X0 e0 hs0
  replace hown : ss.vm.findClass "com/example/match_before_write/matchbeforewrite/Representation" = some mm.cls := hown
  refine Go.cast (congrArg s₁.setTop (ef_chsd2_1 mm o q)) ?_
  have N0 := Fr.nil Z.heap.size
  show Go pp ee below _ (s₁.setTop (mkF mm 0 #[.val (.ref o), .val (.ref q)] []))
  refine Go.aloadN X0 hx (hb hby d9_0) rfl rfl (q := 1) rfl ?_
  refine Go.getF X0 hx hZ hown (host := "") (Or.inl (wd26 hw)) Via.refl e0 Fo (hb hby d9_1) (q := 4) rfl ?_
  intro T101 X101 e101
  refine Go.aloadN X101 hx (hb hby d9_4) rfl rfl (q := 5) rfl ?_
  refine Go.getF X101 hx hZ hown (host := "") (Or.inl (wd26 hw)) Via.refl e101 Fq (hb hby d9_5) (q := 8) rfl ?_
  intro T102 X102 e102
  refine Go.callS X102 hx hZ hown (wd61 hw) (wd62 hw) (wd63 hw) (wd64 hw) (by decide) (ceqd2_1 l Z a0 hw c1 c2 (k1) (k2) x0 x1 y0 h0 O0 V1 V2 nn) e102 (by rw [hml]; rfl) (hb hby d9_8) (argsL := [(.ref c1), (.ref c2)]) (rest := []) (lenOf pd2 rfl) rfl rfl (W := 0) (by first | exact Nat.le_refl _ | decide) (by decide) (by decide) (by decide) (by decide) ?_
  intro v103 T103 L103 X103 hQ103
  obtain ⟨rfl, N103q, e103⟩ := hQ103
  have N103 := Fr.app N0 N103q
  exact Go.retI X103 hx hret hlk (by simp) rfl (hb hby d9_11) e103 (by decide) (by decide) ⟨rfl, N103, rfl⟩
def Q_ceqd2_3 (Z : State) (c1 : Addr) (c2 : Addr) (k1 : ClassId) (k2 : ClassId) (x0 : Int32) (x1 : Int32) (y0 : Int32) (y1 : Int32) (y2 : Int32) (h0 : Heap) (vR : Option Value) (hR : Heap) (LR : List Loc) : Prop := vR = some (.int (0 : Int32)) ∧ Fr Z.heap.size LR ∧ hR = h0
set_option maxRecDepth 65536 in
set_option maxHeartbeats 40000000 in
theorem ceqd2_3 (l : Launch) (Z : State) (a0 : Array Value) (hw : ∀ d ∈ tables_1, d.before a0 Z = true) (c1 : Addr) (c2 : Addr) (k1 : ClassId) (k2 : ClassId) (x0 : Int32) (x1 : Int32) (y0 : Int32) (y1 : Int32) (y2 : Int32) (h0 : Heap) (O0 : Ext Z.heap h0) (V1 : Arv Z h0 c1 k1 .byte (2 : Int32) [(.int x0), (.int x1)] (.int (0 : Int32))) (V2 : Arv Z h0 c2 k2 .byte (3 : Int32) [(.int y0), (.int y1), (.int y2)] (.int (0 : Int32))) (nn : c1 ≠ c2) :
    Ctr l Z h0 (⟨"java/util/Arrays", "equals", "([B[B)Z"⟩ : MethodName) jdk_65_method_89_code 3 (some .boolean) [] ({ frames := 0, cells := 0, slots := 0, locals := 0 } : Room) #[(.ref c1), (.ref c2)] (Q_ceqd2_3 Z c1 c2 k1 k2 x0 x1 y0 y1 y2 h0) := by
  refine enter (plainFor_of_name pn3) ?_
  intro pp ee ss mm below meth cc s₁ hx hby hml hZ hown hnm hret hlk X0 e0 hs0
  replace hown : ss.vm.findClass "java/util/Arrays" = some mm.cls := hown
  refine Go.cast (congrArg s₁.setTop (ef_ceqd2_3 mm c1 c2)) ?_
  have N0 := Fr.nil Z.heap.size
  show Go pp ee below _ (s₁.setTop (mkF mm 0 #[.val (.ref c1), .val (.ref c2), .unset] []))
  refine Go.aloadN X0 hx (hb hby d10_0) rfl rfl (q := 1) rfl ?_
  refine Go.aloadN X0 hx (hb hby d10_1) rfl rfl (q := 2) rfl ?_
  refine Go.acmp X0 hx rfl rfl (hb hby d10_2) (same := false) (decide_eq_false fun q => nn (Value.ref.inj q)) (q := 7) (by decide) (by decide) ?_
  refine Go.aloadN X0 hx (hb hby d10_7) rfl rfl (q := 8) rfl ?_
  refine Go.ifnullNo X0 hx (hb hby d10_8) (q := 11) rfl ?_
  refine Go.aloadN X0 hx (hb hby d10_11) rfl rfl (q := 12) rfl ?_
  refine Go.ifnonnullYes X0 hx (hb hby d10_12) (q := 17) (by decide) (by decide) ?_
  refine Go.aloadN X0 hx (hb hby d10_17) rfl rfl (q := 18) rfl ?_
  refine Go.alen X0 hx hZ e0 V1 (hb hby d10_18) ?_
  refine Go.istoreN X0 hx (hb hby d10_19) (l' := #[.val (.ref c1), .val (.ref c2), .val (.int (2 : Int32))]) rfl (q := 20) rfl ?_
  refine Go.aloadN X0 hx (hb hby d10_20) rfl rfl (q := 21) rfl ?_
  refine Go.alen X0 hx hZ e0 V2 (hb hby d10_21) ?_
  refine Go.iloadN X0 hx (hb hby d10_22) rfl (q := 23) rfl ?_
  refine Go.icmpNo X0 hx (hb hby d10_23) (by decide) (q := 26) rfl ?_
  refine Go.iconst X0 hx (hb hby d10_26) (r := (0 : Int32)) rfl (q := 27) rfl ?_
  exact Go.retI X0 hx hret hlk (by simp) rfl (hb hby d10_27) e0 (by decide) (by decide) ⟨rfl, N0, rfl⟩
def Q_csamd2_3 (Z : State) (c1 : Addr) (c2 : Addr) (k1 : ClassId) (k2 : ClassId) (x0 : Int32) (x1 : Int32) (y0 : Int32) (y1 : Int32) (y2 : Int32) (h0 : Heap) (vR : Option Value) (hR : Heap) (LR : List Loc) : Prop := vR = some (.int (0 : Int32)) ∧ Fr Z.heap.size LR ∧ hR = h0
set_option maxRecDepth 65536 in
set_option maxHeartbeats 40000000 in
theorem csamd2_3 (l : Launch) (Z : State) (a0 : Array Value) (hw : ∀ d ∈ tables_1, d.before a0 Z = true) (c1 : Addr) (c2 : Addr) (k1 : ClassId) (k2 : ClassId) (x0 : Int32) (x1 : Int32) (y0 : Int32) (y1 : Int32) (y2 : Int32) (h0 : Heap) (O0 : Ext Z.heap h0) (V1 : Arv Z h0 c1 k1 .byte (2 : Int32) [(.int x0), (.int x1)] (.int (0 : Int32))) (V2 : Arv Z h0 c2 k2 .byte (3 : Int32) [(.int y0), (.int y1), (.int y2)] (.int (0 : Int32))) :
    Ctr l Z h0 (⟨"com/example/match_before_write/matchbeforewrite/RepresentationOfPinLaw", "same", "([B[B)Z"⟩ : MethodName) method_3_code 2 (some .boolean) [] ({ frames := 0, cells := 0, slots := 0, locals := 0 } : Room) #[(.ref c1), (.ref c2)] (Q_csamd2_3 Z c1 c2 k1 k2 x0 x1 y0 y1 y2 h0) := by
  refine enter (plainFor_of_name pn0) ?_
  intro pp ee ss mm below meth cc s₁ hx hby hml hZ hown hnm hret hlk X0 e0 hs0
  replace hown : ss.vm.findClass "com/example/match_before_write/matchbeforewrite/RepresentationOfPinLaw" = some mm.cls := hown
  refine Go.cast (congrArg s₁.setTop (ef_csamd2_3 mm c1 c2)) ?_
  have N0 := Fr.nil Z.heap.size
  show Go pp ee below _ (s₁.setTop (mkF mm 0 #[.val (.ref c1), .val (.ref c2)] []))
  refine Go.aloadN X0 hx (hb hby d12_0) rfl rfl (q := 1) rfl ?_
  refine Go.alen X0 hx hZ e0 V1 (hb hby d12_1) ?_
  refine Go.aloadN X0 hx (hb hby d12_2) rfl rfl (q := 3) rfl ?_
  refine Go.alen X0 hx hZ e0 V2 (hb hby d12_3) ?_
  refine Go.icmpNo X0 hx (hb hby d12_4) (by decide) (q := 7) rfl ?_
  refine Go.iconst X0 hx (hb hby d12_7) (r := (0 : Int32)) rfl (q := 8) rfl ?_
  exact Go.retI X0 hx hret hlk (by simp) rfl (hb hby d12_8) e0 (by decide) (by decide) ⟨rfl, N0, rfl⟩
def Q_chsd2_3 (Z : State) (o : Addr) (q : Addr) (c1 : Addr) (c2 : Addr) (k1 : ClassId) (k2 : ClassId) (x0 : Int32) (x1 : Int32) (y0 : Int32) (y1 : Int32) (y2 : Int32) (h0 : Heap) (vR : Option Value) (hR : Heap) (LR : List Loc) : Prop := vR = some (.int (0 : Int32)) ∧ Fr Z.heap.size LR ∧ hR = h0
set_option maxRecDepth 65536 in
set_option maxHeartbeats 40000000 in
theorem chsd2_3 (l : Launch) (Z : State) (a0 : Array Value) (hw : ∀ d ∈ tables_1, d.before a0 Z = true) (o : Addr) (q : Addr) (c1 : Addr) (c2 : Addr) (k1 : ClassId) (k2 : ClassId) (x0 : Int32) (x1 : Int32) (y0 : Int32) (y1 : Int32) (y2 : Int32) (h0 : Heap) (O0 : Ext Z.heap h0) (Fo : Fld Z h0 o "com/example/match_before_write/matchbeforewrite/Representation" "content" "[B" (.ref c1)) (Fq : Fld Z h0 q "com/example/match_before_write/matchbeforewrite/Representation" "content" "[B" (.ref c2)) (V1 : Arv Z h0 c1 k1 .byte (2 : Int32) [(.int x0), (.int x1)] (.int (0 : Int32))) (V2 : Arv Z h0 c2 k2 .byte (3 : Int32) [(.int y0), (.int y1), (.int y2)] (.int (0 : Int32))) (nn : c1 ≠ c2) :
    Ctr l Z h0 (⟨"com/example/match_before_write/matchbeforewrite/Representation", "hasSameBytesAs", "(Lcom/example/match_before_write/matchbeforewrite/Representation;)Z"⟩ : MethodName) prog_13_method_13_code 2 (some .boolean) [] ({ frames := 1, cells := 0, slots := 0, locals := 14 } : Room) #[(.ref o), (.ref q)] (Q_chsd2_3 Z o q c1 c2 k1 k2 x0 x1 y0 y1 y2 h0) := by
  refine enter (plainFor_of_name pn1) ?_
  intro pp ee ss mm below meth cc s₁ hx hby hml hZ hown hnm hret hlk X0 e0 hs0
  replace hown : ss.vm.findClass "com/example/match_before_write/matchbeforewrite/Representation" = some mm.cls := hown
  refine Go.cast (congrArg s₁.setTop (ef_chsd2_3 mm o q)) ?_
  have N0 := Fr.nil Z.heap.size
  show Go pp ee below _ (s₁.setTop (mkF mm 0 #[.val (.ref o), .val (.ref q)] []))
  refine Go.aloadN X0 hx (hb hby d9_0) rfl rfl (q := 1) rfl ?_
  refine Go.getF X0 hx hZ hown (host := "") (Or.inl (wd26 hw)) Via.refl e0 Fo (hb hby d9_1) (q := 4) rfl ?_
  intro T101 X101 e101
  refine Go.aloadN X101 hx (hb hby d9_4) rfl rfl (q := 5) rfl ?_
  refine Go.getF X101 hx hZ hown (host := "") (Or.inl (wd26 hw)) Via.refl e101 Fq (hb hby d9_5) (q := 8) rfl ?_
  intro T102 X102 e102
  refine Go.callS X102 hx hZ hown (wd61 hw) (wd62 hw) (wd63 hw) (wd64 hw) (by decide) (ceqd2_3 l Z a0 hw c1 c2 (k1) (k2) x0 x1 y0 y1 y2 h0 O0 V1 V2 nn) e102 (by rw [hml]; rfl) (hb hby d9_8) (argsL := [(.ref c1), (.ref c2)]) (rest := []) (lenOf pd2 rfl) rfl rfl (W := 0) (by first | exact Nat.le_refl _ | decide) (by decide) (by decide) (by decide) (by decide) ?_
  intro v103 T103 L103 X103 hQ103
  obtain ⟨rfl, N103q, e103⟩ := hQ103
  have N103 := Fr.app N0 N103q
  exact Go.retI X103 hx hret hlk (by simp) rfl (hb hby d9_11) e103 (by decide) (by decide) ⟨rfl, N103, rfl⟩
def Q_cmis3_3 (Z : State) (c1 : Addr) (c2 : Addr) (k1 : ClassId) (k2 : ClassId) (x0 : Int32) (x1 : Int32) (x2 : Int32) (y0 : Int32) (y1 : Int32) (y2 : Int32) (h0 : Heap) (vR : Option Value) (hR : Heap) (LR : List Loc) : Prop := vR = some (.int (-1 : Int32)) ∧ Fr Z.heap.size LR ∧ hR = h0
set_option maxRecDepth 65536 in
set_option maxHeartbeats 40000000 in
theorem cmis3_3 (l : Launch) (Z : State) (a0 : Array Value) (hw : ∀ d ∈ tables_1, d.before a0 Z = true) (c1 : Addr) (c2 : Addr) (k1 : ClassId) (k2 : ClassId) (x0 : Int32) (x1 : Int32) (x2 : Int32) (y0 : Int32) (y1 : Int32) (y2 : Int32) (h0 : Heap) (O0 : Ext Z.heap h0) (V1 : Arv Z h0 c1 k1 .byte (3 : Int32) [(.int x0), (.int x1), (.int x2)] (.int (0 : Int32))) (V2 : Arv Z h0 c2 k2 .byte (3 : Int32) [(.int y0), (.int y1), (.int y2)] (.int (0 : Int32))) (xe0 : x0 = y0) (xe1 : x1 = y1) (xe2 : x2 = y2) :
    Ctr l Z h0 (⟨"jdk/internal/util/ArraysSupport", "mismatch", "([B[BI)I"⟩ : MethodName) jdk_48_method_13_code 4 (some .int) [] ({ frames := 0, cells := 0, slots := 0, locals := 0 } : Room) #[(.ref c1), (.ref c2), (.int (3 : Int32))] (Q_cmis3_3 Z c1 c2 k1 k2 x0 x1 x2 y0 y1 y2 h0) := by
  refine enter (plainFor_of_name pn2) ?_
  intro pp ee ss mm below meth cc s₁ hx hby hml hZ hown hnm hret hlk X0 e0 hs0
  replace hown : ss.vm.findClass "jdk/internal/util/ArraysSupport" = some mm.cls := hown
  refine Go.cast (congrArg s₁.setTop (ef_cmis3_3 mm c1 c2)) ?_
  have N0 := Fr.nil Z.heap.size
  show Go pp ee below _ (s₁.setTop (mkF mm 0 #[.val (.ref c1), .val (.ref c2), .val (.int (3 : Int32)), .unset] []))
  refine Go.iconst X0 hx (hb hby d11_0) (r := (0 : Int32)) rfl (q := 1) rfl ?_
  refine Go.istoreN X0 hx (hb hby d11_1) (l' := #[.val (.ref c1), .val (.ref c2), .val (.int (3 : Int32)), .val (.int (0 : Int32))]) rfl (q := 2) rfl ?_
  refine Go.iloadN X0 hx (hb hby d11_2) rfl (q := 3) rfl ?_
  refine Go.bipush X0 hx (hb hby d11_3) (r := (7 : Int32)) rfl (q := 5) rfl ?_
  refine Go.icmpYes X0 hx (hb hby d11_5) (by decide) (q := 49) (by decide) (by decide) ?_
  refine Go.iloadN X0 hx (hb hby d11_49) rfl (q := 50) rfl ?_
  refine Go.iloadN X0 hx (hb hby d11_50) rfl (q := 51) rfl ?_
  refine Go.icmpNo X0 hx (hb hby d11_51) (by decide) (q := 54) rfl ?_
  refine Go.aloadN X0 hx (hb hby d11_54) rfl rfl (q := 55) rfl ?_
  refine Go.iloadN X0 hx (hb hby d11_55) rfl (q := 56) rfl ?_
  refine Go.bal X0 hx hZ e0 V1 ⟨by decide, by decide⟩ (v := (.int x0)) rfl (hb hby d11_56) ?_
  refine Go.aloadN X0 hx (hb hby d11_57) rfl rfl (q := 58) rfl ?_
  refine Go.iloadN X0 hx (hb hby d11_58) rfl (q := 59) rfl ?_
  refine Go.bal X0 hx hZ e0 V2 ⟨by decide, by decide⟩ (v := (.int y0)) rfl (hb hby d11_59) ?_
  refine Go.icmpYes X0 hx (hb hby d11_60) (Jvm.Free.XT.ii_eq_t xe0) (q := 65) (by decide) (by decide) ?_
  refine Go.iinc X0 hx (hb hby d11_65) rfl (r := (1 : Int32)) rfl (l' := #[.val (.ref c1), .val (.ref c2), .val (.int (3 : Int32)), .val (.int (1 : Int32))]) rfl (q := 68) rfl ?_
  refine Go.goto X0 hx (hb hby d11_68) (q := 49) (by decide) (by decide) ?_
  refine Go.iloadN X0 hx (hb hby d11_49) rfl (q := 50) rfl ?_
  refine Go.iloadN X0 hx (hb hby d11_50) rfl (q := 51) rfl ?_
  refine Go.icmpNo X0 hx (hb hby d11_51) (by decide) (q := 54) rfl ?_
  refine Go.aloadN X0 hx (hb hby d11_54) rfl rfl (q := 55) rfl ?_
  refine Go.iloadN X0 hx (hb hby d11_55) rfl (q := 56) rfl ?_
  refine Go.bal X0 hx hZ e0 V1 ⟨by decide, by decide⟩ (v := (.int x1)) rfl (hb hby d11_56) ?_
  refine Go.aloadN X0 hx (hb hby d11_57) rfl rfl (q := 58) rfl ?_
  refine Go.iloadN X0 hx (hb hby d11_58) rfl (q := 59) rfl ?_
  refine Go.bal X0 hx hZ e0 V2 ⟨by decide, by decide⟩ (v := (.int y1)) rfl (hb hby d11_59) ?_
  refine Go.icmpYes X0 hx (hb hby d11_60) (Jvm.Free.XT.ii_eq_t xe1) (q := 65) (by decide) (by decide) ?_
  refine Go.iinc X0 hx (hb hby d11_65) rfl (r := (2 : Int32)) rfl (l' := #[.val (.ref c1), .val (.ref c2), .val (.int (3 : Int32)), .val (.int (2 : Int32))]) rfl (q := 68) rfl ?_
  refine Go.goto X0 hx (hb hby d11_68) (q := 49) (by decide) (by decide) ?_
  refine Go.iloadN X0 hx (hb hby d11_49) rfl (q := 50) rfl ?_
  refine Go.iloadN X0 hx (hb hby d11_50) rfl (q := 51) rfl ?_
  refine Go.icmpNo X0 hx (hb hby d11_51) (by decide) (q := 54) rfl ?_
  refine Go.aloadN X0 hx (hb hby d11_54) rfl rfl (q := 55) rfl ?_
  refine Go.iloadN X0 hx (hb hby d11_55) rfl (q := 56) rfl ?_
  refine Go.bal X0 hx hZ e0 V1 ⟨by decide, by decide⟩ (v := (.int x2)) rfl (hb hby d11_56) ?_
  refine Go.aloadN X0 hx (hb hby d11_57) rfl rfl (q := 58) rfl ?_
  refine Go.iloadN X0 hx (hb hby d11_58) rfl (q := 59) rfl ?_
  refine Go.bal X0 hx hZ e0 V2 ⟨by decide, by decide⟩ (v := (.int y2)) rfl (hb hby d11_59) ?_
  refine Go.icmpYes X0 hx (hb hby d11_60) (Jvm.Free.XT.ii_eq_t xe2) (q := 65) (by decide) (by decide) ?_
  refine Go.iinc X0 hx (hb hby d11_65) rfl (r := (3 : Int32)) rfl (l' := #[.val (.ref c1), .val (.ref c2), .val (.int (3 : Int32)), .val (.int (3 : Int32))]) rfl (q := 68) rfl ?_
  refine Go.goto X0 hx (hb hby d11_68) (q := 49) (by decide) (by decide) ?_
  refine Go.iloadN X0 hx (hb hby d11_49) rfl (q := 50) rfl ?_
  refine Go.iloadN X0 hx (hb hby d11_50) rfl (q := 51) rfl ?_
  refine Go.icmpYes X0 hx (hb hby d11_51) (by decide) (q := 71) (by decide) (by decide) ?_
  refine Go.iconst X0 hx (hb hby d11_71) (r := (-1 : Int32)) rfl (q := 72) rfl ?_
  exact Go.retI X0 hx hret hlk (Or.inl rfl) rfl (hb hby d11_72) e0 (by decide) (by decide) ⟨rfl, N0, rfl⟩
def Q_ceq3_3 (Z : State) (c1 : Addr) (c2 : Addr) (k1 : ClassId) (k2 : ClassId) (x0 : Int32) (x1 : Int32) (x2 : Int32) (y0 : Int32) (y1 : Int32) (y2 : Int32) (h0 : Heap) (vR : Option Value) (hR : Heap) (LR : List Loc) : Prop := vR = some (.int (1 : Int32)) ∧ Fr Z.heap.size LR ∧ hR = h0
set_option maxRecDepth 65536 in
set_option maxHeartbeats 40000000 in
theorem ceq3_3 (l : Launch) (Z : State) (a0 : Array Value) (hw : ∀ d ∈ tables_1, d.before a0 Z = true) (c1 : Addr) (c2 : Addr) (k1 : ClassId) (k2 : ClassId) (x0 : Int32) (x1 : Int32) (x2 : Int32) (y0 : Int32) (y1 : Int32) (y2 : Int32) (h0 : Heap) (O0 : Ext Z.heap h0) (V1 : Arv Z h0 c1 k1 .byte (3 : Int32) [(.int x0), (.int x1), (.int x2)] (.int (0 : Int32))) (V2 : Arv Z h0 c2 k2 .byte (3 : Int32) [(.int y0), (.int y1), (.int y2)] (.int (0 : Int32))) (nn : c1 ≠ c2) (xe0 : x0 = y0) (xe1 : x1 = y1) (xe2 : x2 = y2) :
    Ctr l Z h0 (⟨"java/util/Arrays", "equals", "([B[B)Z"⟩ : MethodName) jdk_65_method_89_code 3 (some .boolean) [] ({ frames := 1, cells := 0, slots := 0, locals := 15 } : Room) #[(.ref c1), (.ref c2)] (Q_ceq3_3 Z c1 c2 k1 k2 x0 x1 x2 y0 y1 y2 h0) := by
  refine enter (plainFor_of_name pn3) ?_
  intro pp ee ss mm below meth cc s₁ hx hby hml hZ hown hnm hret hlk X0 e0 hs0
  replace hown : ss.vm.findClass "java/util/Arrays" = some mm.cls := hown
  refine Go.cast (congrArg s₁.setTop (ef_ceq3_3 mm c1 c2)) ?_
  have N0 := Fr.nil Z.heap.size
  show Go pp ee below _ (s₁.setTop (mkF mm 0 #[.val (.ref c1), .val (.ref c2), .unset] []))
  refine Go.aloadN X0 hx (hb hby d10_0) rfl rfl (q := 1) rfl ?_
  refine Go.aloadN X0 hx (hb hby d10_1) rfl rfl (q := 2) rfl ?_
  refine Go.acmp X0 hx rfl rfl (hb hby d10_2) (same := false) (decide_eq_false fun q => nn (Value.ref.inj q)) (q := 7) (by decide) (by decide) ?_
  refine Go.aloadN X0 hx (hb hby d10_7) rfl rfl (q := 8) rfl ?_
  refine Go.ifnullNo X0 hx (hb hby d10_8) (q := 11) rfl ?_
  refine Go.aloadN X0 hx (hb hby d10_11) rfl rfl (q := 12) rfl ?_
  refine Go.ifnonnullYes X0 hx (hb hby d10_12) (q := 17) (by decide) (by decide) ?_
  refine Go.aloadN X0 hx (hb hby d10_17) rfl rfl (q := 18) rfl ?_
  refine Go.alen X0 hx hZ e0 V1 (hb hby d10_18) ?_
  refine Go.istoreN X0 hx (hb hby d10_19) (l' := #[.val (.ref c1), .val (.ref c2), .val (.int (3 : Int32))]) rfl (q := 20) rfl ?_
  refine Go.aloadN X0 hx (hb hby d10_20) rfl rfl (q := 21) rfl ?_
  refine Go.alen X0 hx hZ e0 V2 (hb hby d10_21) ?_
  refine Go.iloadN X0 hx (hb hby d10_22) rfl (q := 23) rfl ?_
  refine Go.icmpYes X0 hx (hb hby d10_23) (by decide) (q := 28) (by decide) (by decide) ?_
  refine Go.aloadN X0 hx (hb hby d10_28) rfl rfl (q := 29) rfl ?_
  refine Go.aloadN X0 hx (hb hby d10_29) rfl rfl (q := 30) rfl ?_
  refine Go.iloadN X0 hx (hb hby d10_30) rfl (q := 31) rfl ?_
  refine Go.callS X0 hx hZ hown (wd65 hw) (wd66 hw) (wd67 hw) (wd68 hw) (by decide) (cmis3_3 l Z a0 hw c1 c2 (k1) (k2) x0 x1 x2 y0 y1 y2 h0 O0 V1 V2 xe0 xe1 xe2) e0 (by rw [hml]; rfl) (hb hby d10_31) (argsL := [(.ref c1), (.ref c2), (.int (3 : Int32))]) (rest := []) (lenOf pd1 rfl) rfl rfl (W := 0) (by first | exact Nat.le_refl _ | decide) (by decide) (by decide) (by decide) (by decide) ?_
  intro v101 T101 L101 X101 hQ101
  obtain ⟨rfl, N101q, e101⟩ := hQ101
  have N101 := Fr.app N0 N101q
  refine Go.ifNo X101 hx (hb hby d10_34) (by decide) (q := 37) rfl ?_
  refine Go.iconst X101 hx (hb hby d10_37) (r := (1 : Int32)) rfl (q := 38) rfl ?_
  refine Go.goto X101 hx (hb hby d10_38) (q := 42) (by decide) (by decide) ?_
  exact Go.retI X101 hx hret hlk (by simp) rfl (hb hby d10_42) e101 (by decide) (by decide) ⟨rfl, N101, rfl⟩
def Q_csam3_3 (Z : State) (c1 : Addr) (c2 : Addr) (k1 : ClassId) (k2 : ClassId) (x0 : Int32) (x1 : Int32) (x2 : Int32) (y0 : Int32) (y1 : Int32) (y2 : Int32) (h0 : Heap) (vR : Option Value) (hR : Heap) (LR : List Loc) : Prop := vR = some (.int (1 : Int32)) ∧ Fr Z.heap.size LR ∧ hR = h0
set_option maxRecDepth 65536 in
set_option maxHeartbeats 40000000 in
theorem csam3_3 (l : Launch) (Z : State) (a0 : Array Value) (hw : ∀ d ∈ tables_1, d.before a0 Z = true) (c1 : Addr) (c2 : Addr) (k1 : ClassId) (k2 : ClassId) (x0 : Int32) (x1 : Int32) (x2 : Int32) (y0 : Int32) (y1 : Int32) (y2 : Int32) (h0 : Heap) (O0 : Ext Z.heap h0) (V1 : Arv Z h0 c1 k1 .byte (3 : Int32) [(.int x0), (.int x1), (.int x2)] (.int (0 : Int32))) (V2 : Arv Z h0 c2 k2 .byte (3 : Int32) [(.int y0), (.int y1), (.int y2)] (.int (0 : Int32))) (xe0 : x0 = y0) (xe1 : x1 = y1) (xe2 : x2 = y2) :
    Ctr l Z h0 (⟨"com/example/match_before_write/matchbeforewrite/RepresentationOfPinLaw", "same", "([B[B)Z"⟩ : MethodName) method_3_code 2 (some .boolean) [] ({ frames := 0, cells := 0, slots := 0, locals := 0 } : Room) #[(.ref c1), (.ref c2)] (Q_csam3_3 Z c1 c2 k1 k2 x0 x1 x2 y0 y1 y2 h0) := by
  refine enter (plainFor_of_name pn0) ?_
  intro pp ee ss mm below meth cc s₁ hx hby hml hZ hown hnm hret hlk X0 e0 hs0
  replace hown : ss.vm.findClass "com/example/match_before_write/matchbeforewrite/RepresentationOfPinLaw" = some mm.cls := hown
  refine Go.cast (congrArg s₁.setTop (ef_csam3_3 mm c1 c2)) ?_
  have N0 := Fr.nil Z.heap.size
  show Go pp ee below _ (s₁.setTop (mkF mm 0 #[.val (.ref c1), .val (.ref c2)] []))
  refine Go.aloadN X0 hx (hb hby d12_0) rfl rfl (q := 1) rfl ?_
  refine Go.alen X0 hx hZ e0 V1 (hb hby d12_1) ?_
  refine Go.aloadN X0 hx (hb hby d12_2) rfl rfl (q := 3) rfl ?_
  refine Go.alen X0 hx hZ e0 V2 (hb hby d12_3) ?_
  refine Go.icmpYes X0 hx (hb hby d12_4) (by decide) (q := 9) (by decide) (by decide) ?_
  refine Go.aloadN X0 hx (hb hby d12_9) rfl rfl (q := 10) rfl ?_
  refine Go.alen X0 hx hZ e0 V1 (hb hby d12_10) ?_
  refine Go.ifNo X0 hx (hb hby d12_11) (by decide) (q := 14) rfl ?_
  refine Go.aloadN X0 hx (hb hby d12_14) rfl rfl (q := 15) rfl ?_
  refine Go.iconst X0 hx (hb hby d12_15) (r := (0 : Int32)) rfl (q := 16) rfl ?_
  refine Go.bal X0 hx hZ e0 V1 ⟨by decide, by decide⟩ (v := (.int x0)) rfl (hb hby d12_16) ?_
  refine Go.aloadN X0 hx (hb hby d12_17) rfl rfl (q := 18) rfl ?_
  refine Go.iconst X0 hx (hb hby d12_18) (r := (0 : Int32)) rfl (q := 19) rfl ?_
  refine Go.bal X0 hx hZ e0 V2 ⟨by decide, by decide⟩ (v := (.int y0)) rfl (hb hby d12_19) ?_
  refine Go.icmpYes X0 hx (hb hby d12_20) (Jvm.Free.XT.ii_eq_t xe0) (q := 25) (by decide) (by decide) ?_
  refine Go.aloadN X0 hx (hb hby d12_25) rfl rfl (q := 26) rfl ?_
  refine Go.alen X0 hx hZ e0 V1 (hb hby d12_26) ?_
  refine Go.iconst X0 hx (hb hby d12_27) (r := (1 : Int32)) rfl (q := 28) rfl ?_
  refine Go.icmpNo X0 hx (hb hby d12_28) (by decide) (q := 31) rfl ?_
  refine Go.aloadN X0 hx (hb hby d12_31) rfl rfl (q := 32) rfl ?_
  refine Go.iconst X0 hx (hb hby d12_32) (r := (1 : Int32)) rfl (q := 33) rfl ?_
  refine Go.bal X0 hx hZ e0 V1 ⟨by decide, by decide⟩ (v := (.int x1)) rfl (hb hby d12_33) ?_
  refine Go.aloadN X0 hx (hb hby d12_34) rfl rfl (q := 35) rfl ?_
  refine Go.iconst X0 hx (hb hby d12_35) (r := (1 : Int32)) rfl (q := 36) rfl ?_
  refine Go.bal X0 hx hZ e0 V2 ⟨by decide, by decide⟩ (v := (.int y1)) rfl (hb hby d12_36) ?_
  refine Go.icmpYes X0 hx (hb hby d12_37) (Jvm.Free.XT.ii_eq_t xe1) (q := 42) (by decide) (by decide) ?_
  refine Go.aloadN X0 hx (hb hby d12_42) rfl rfl (q := 43) rfl ?_
  refine Go.alen X0 hx hZ e0 V1 (hb hby d12_43) ?_
  refine Go.iconst X0 hx (hb hby d12_44) (r := (2 : Int32)) rfl (q := 45) rfl ?_
  refine Go.icmpNo X0 hx (hb hby d12_45) (by decide) (q := 48) rfl ?_
  refine Go.aloadN X0 hx (hb hby d12_48) rfl rfl (q := 49) rfl ?_
  refine Go.iconst X0 hx (hb hby d12_49) (r := (2 : Int32)) rfl (q := 50) rfl ?_
  refine Go.bal X0 hx hZ e0 V1 ⟨by decide, by decide⟩ (v := (.int x2)) rfl (hb hby d12_50) ?_
  refine Go.aloadN X0 hx (hb hby d12_51) rfl rfl (q := 52) rfl ?_
  refine Go.iconst X0 hx (hb hby d12_52) (r := (2 : Int32)) rfl (q := 53) rfl ?_
  refine Go.bal X0 hx hZ e0 V2 ⟨by decide, by decide⟩ (v := (.int y2)) rfl (hb hby d12_53) ?_
  refine Go.icmpYes X0 hx (hb hby d12_54) (Jvm.Free.XT.ii_eq_t xe2) (q := 59) (by decide) (by decide) ?_
  refine Go.iconst X0 hx (hb hby d12_59) (r := (1 : Int32)) rfl (q := 60) rfl ?_
  exact Go.retI X0 hx hret hlk (by simp) rfl (hb hby d12_60) e0 (by decide) (by decide) ⟨rfl, N0, rfl⟩
def Q_chs3_3 (Z : State) (o : Addr) (q : Addr) (c1 : Addr) (c2 : Addr) (k1 : ClassId) (k2 : ClassId) (x0 : Int32) (x1 : Int32) (x2 : Int32) (y0 : Int32) (y1 : Int32) (y2 : Int32) (h0 : Heap) (vR : Option Value) (hR : Heap) (LR : List Loc) : Prop := vR = some (.int (1 : Int32)) ∧ Fr Z.heap.size LR ∧ hR = h0
set_option maxRecDepth 65536 in
set_option maxHeartbeats 40000000 in
theorem chs3_3 (l : Launch) (Z : State) (a0 : Array Value) (hw : ∀ d ∈ tables_1, d.before a0 Z = true) (o : Addr) (q : Addr) (c1 : Addr) (c2 : Addr) (k1 : ClassId) (k2 : ClassId) (x0 : Int32) (x1 : Int32) (x2 : Int32) (y0 : Int32) (y1 : Int32) (y2 : Int32) (h0 : Heap) (O0 : Ext Z.heap h0) (Fo : Fld Z h0 o "com/example/match_before_write/matchbeforewrite/Representation" "content" "[B" (.ref c1)) (Fq : Fld Z h0 q "com/example/match_before_write/matchbeforewrite/Representation" "content" "[B" (.ref c2)) (V1 : Arv Z h0 c1 k1 .byte (3 : Int32) [(.int x0), (.int x1), (.int x2)] (.int (0 : Int32))) (V2 : Arv Z h0 c2 k2 .byte (3 : Int32) [(.int y0), (.int y1), (.int y2)] (.int (0 : Int32))) (nn : c1 ≠ c2) (xe0 : x0 = y0) (xe1 : x1 = y1) (xe2 : x2 = y2) :
    Ctr l Z h0 (⟨"com/example/match_before_write/matchbeforewrite/Representation", "hasSameBytesAs", "(Lcom/example/match_before_write/matchbeforewrite/Representation;)Z"⟩ : MethodName) prog_13_method_13_code 2 (some .boolean) [] ({ frames := 2, cells := 0, slots := 0, locals := 29 } : Room) #[(.ref o), (.ref q)] (Q_chs3_3 Z o q c1 c2 k1 k2 x0 x1 x2 y0 y1 y2 h0) := by
  refine enter (plainFor_of_name pn1) ?_
  intro pp ee ss mm below meth cc s₁ hx hby hml hZ hown hnm hret hlk X0 e0 hs0
  replace hown : ss.vm.findClass "com/example/match_before_write/matchbeforewrite/Representation" = some mm.cls := hown
  refine Go.cast (congrArg s₁.setTop (ef_chs3_3 mm o q)) ?_
  have N0 := Fr.nil Z.heap.size
  show Go pp ee below _ (s₁.setTop (mkF mm 0 #[.val (.ref o), .val (.ref q)] []))
  refine Go.aloadN X0 hx (hb hby d9_0) rfl rfl (q := 1) rfl ?_
  refine Go.getF X0 hx hZ hown (host := "") (Or.inl (wd26 hw)) Via.refl e0 Fo (hb hby d9_1) (q := 4) rfl ?_
  intro T101 X101 e101
  refine Go.aloadN X101 hx (hb hby d9_4) rfl rfl (q := 5) rfl ?_
  refine Go.getF X101 hx hZ hown (host := "") (Or.inl (wd26 hw)) Via.refl e101 Fq (hb hby d9_5) (q := 8) rfl ?_
  intro T102 X102 e102
  refine Go.callS X102 hx hZ hown (wd61 hw) (wd62 hw) (wd63 hw) (wd64 hw) (by decide) (ceq3_3 l Z a0 hw c1 c2 (k1) (k2) x0 x1 x2 y0 y1 y2 h0 O0 V1 V2 nn xe0 xe1 xe2) e102 (by rw [hml]; rfl) (hb hby d9_8) (argsL := [(.ref c1), (.ref c2)]) (rest := []) (lenOf pd2 rfl) rfl rfl (W := 0) (by first | exact Nat.le_refl _ | decide) (by decide) (by decide) (by decide) (by decide) ?_
  intro v103 T103 L103 X103 hQ103
  obtain ⟨rfl, N103q, e103⟩ := hQ103
  have N103 := Fr.app N0 N103q
  exact Go.retI X103 hx hret hlk (by simp) rfl (hb hby d9_11) e103 (by decide) (by decide) ⟨rfl, N103, rfl⟩
def Q_cmis3_2 (Z : State) (c1 : Addr) (c2 : Addr) (k1 : ClassId) (k2 : ClassId) (x0 : Int32) (x1 : Int32) (x2 : Int32) (y0 : Int32) (y1 : Int32) (y2 : Int32) (h0 : Heap) (vR : Option Value) (hR : Heap) (LR : List Loc) : Prop := vR = some (.int (2 : Int32)) ∧ Fr Z.heap.size LR ∧ hR = h0
set_option maxRecDepth 65536 in
set_option maxHeartbeats 40000000 in
theorem cmis3_2 (l : Launch) (Z : State) (a0 : Array Value) (hw : ∀ d ∈ tables_1, d.before a0 Z = true) (c1 : Addr) (c2 : Addr) (k1 : ClassId) (k2 : ClassId) (x0 : Int32) (x1 : Int32) (x2 : Int32) (y0 : Int32) (y1 : Int32) (y2 : Int32) (h0 : Heap) (O0 : Ext Z.heap h0) (V1 : Arv Z h0 c1 k1 .byte (3 : Int32) [(.int x0), (.int x1), (.int x2)] (.int (0 : Int32))) (V2 : Arv Z h0 c2 k2 .byte (3 : Int32) [(.int y0), (.int y1), (.int y2)] (.int (0 : Int32))) (xe0 : x0 = y0) (xe1 : x1 = y1) (ne : ¬ (x2 = y2)) :
    Ctr l Z h0 (⟨"jdk/internal/util/ArraysSupport", "mismatch", "([B[BI)I"⟩ : MethodName) jdk_48_method_13_code 4 (some .int) [] ({ frames := 0, cells := 0, slots := 0, locals := 0 } : Room) #[(.ref c1), (.ref c2), (.int (3 : Int32))] (Q_cmis3_2 Z c1 c2 k1 k2 x0 x1 x2 y0 y1 y2 h0) := by
  refine enter (plainFor_of_name pn2) ?_
  intro pp ee ss mm below meth cc s₁ hx hby hml hZ hown hnm hret hlk X0 e0 hs0
  replace hown : ss.vm.findClass "jdk/internal/util/ArraysSupport" = some mm.cls := hown
  refine Go.cast (congrArg s₁.setTop (ef_cmis3_2 mm c1 c2)) ?_
  have N0 := Fr.nil Z.heap.size
  show Go pp ee below _ (s₁.setTop (mkF mm 0 #[.val (.ref c1), .val (.ref c2), .val (.int (3 : Int32)), .unset] []))
  refine Go.iconst X0 hx (hb hby d11_0) (r := (0 : Int32)) rfl (q := 1) rfl ?_
  refine Go.istoreN X0 hx (hb hby d11_1) (l' := #[.val (.ref c1), .val (.ref c2), .val (.int (3 : Int32)), .val (.int (0 : Int32))]) rfl (q := 2) rfl ?_
  refine Go.iloadN X0 hx (hb hby d11_2) rfl (q := 3) rfl ?_
  refine Go.bipush X0 hx (hb hby d11_3) (r := (7 : Int32)) rfl (q := 5) rfl ?_
  refine Go.icmpYes X0 hx (hb hby d11_5) (by decide) (q := 49) (by decide) (by decide) ?_
  refine Go.iloadN X0 hx (hb hby d11_49) rfl (q := 50) rfl ?_
  refine Go.iloadN X0 hx (hb hby d11_50) rfl (q := 51) rfl ?_
  refine Go.icmpNo X0 hx (hb hby d11_51) (by decide) (q := 54) rfl ?_
  refine Go.aloadN X0 hx (hb hby d11_54) rfl rfl (q := 55) rfl ?_
  refine Go.iloadN X0 hx (hb hby d11_55) rfl (q := 56) rfl ?_
  refine Go.bal X0 hx hZ e0 V1 ⟨by decide, by decide⟩ (v := (.int x0)) rfl (hb hby d11_56) ?_
  refine Go.aloadN X0 hx (hb hby d11_57) rfl rfl (q := 58) rfl ?_
  refine Go.iloadN X0 hx (hb hby d11_58) rfl (q := 59) rfl ?_
  refine Go.bal X0 hx hZ e0 V2 ⟨by decide, by decide⟩ (v := (.int y0)) rfl (hb hby d11_59) ?_
  refine Go.icmpYes X0 hx (hb hby d11_60) (Jvm.Free.XT.ii_eq_t xe0) (q := 65) (by decide) (by decide) ?_
  refine Go.iinc X0 hx (hb hby d11_65) rfl (r := (1 : Int32)) rfl (l' := #[.val (.ref c1), .val (.ref c2), .val (.int (3 : Int32)), .val (.int (1 : Int32))]) rfl (q := 68) rfl ?_
  refine Go.goto X0 hx (hb hby d11_68) (q := 49) (by decide) (by decide) ?_
  refine Go.iloadN X0 hx (hb hby d11_49) rfl (q := 50) rfl ?_
  refine Go.iloadN X0 hx (hb hby d11_50) rfl (q := 51) rfl ?_
  refine Go.icmpNo X0 hx (hb hby d11_51) (by decide) (q := 54) rfl ?_
  refine Go.aloadN X0 hx (hb hby d11_54) rfl rfl (q := 55) rfl ?_
  refine Go.iloadN X0 hx (hb hby d11_55) rfl (q := 56) rfl ?_
  refine Go.bal X0 hx hZ e0 V1 ⟨by decide, by decide⟩ (v := (.int x1)) rfl (hb hby d11_56) ?_
  refine Go.aloadN X0 hx (hb hby d11_57) rfl rfl (q := 58) rfl ?_
  refine Go.iloadN X0 hx (hb hby d11_58) rfl (q := 59) rfl ?_
  refine Go.bal X0 hx hZ e0 V2 ⟨by decide, by decide⟩ (v := (.int y1)) rfl (hb hby d11_59) ?_
  refine Go.icmpYes X0 hx (hb hby d11_60) (Jvm.Free.XT.ii_eq_t xe1) (q := 65) (by decide) (by decide) ?_
  refine Go.iinc X0 hx (hb hby d11_65) rfl (r := (2 : Int32)) rfl (l' := #[.val (.ref c1), .val (.ref c2), .val (.int (3 : Int32)), .val (.int (2 : Int32))]) rfl (q := 68) rfl ?_
  refine Go.goto X0 hx (hb hby d11_68) (q := 49) (by decide) (by decide) ?_
  refine Go.iloadN X0 hx (hb hby d11_49) rfl (q := 50) rfl ?_
  refine Go.iloadN X0 hx (hb hby d11_50) rfl (q := 51) rfl ?_
  refine Go.icmpNo X0 hx (hb hby d11_51) (by decide) (q := 54) rfl ?_
  refine Go.aloadN X0 hx (hb hby d11_54) rfl rfl (q := 55) rfl ?_
  refine Go.iloadN X0 hx (hb hby d11_55) rfl (q := 56) rfl ?_
  refine Go.bal X0 hx hZ e0 V1 ⟨by decide, by decide⟩ (v := (.int x2)) rfl (hb hby d11_56) ?_
  refine Go.aloadN X0 hx (hb hby d11_57) rfl rfl (q := 58) rfl ?_
  refine Go.iloadN X0 hx (hb hby d11_58) rfl (q := 59) rfl ?_
  refine Go.bal X0 hx hZ e0 V2 ⟨by decide, by decide⟩ (v := (.int y2)) rfl (hb hby d11_59) ?_
  refine Go.icmpNo X0 hx (hb hby d11_60) (Jvm.Free.XT.ii_eq_f ne) (q := 63) rfl ?_
  refine Go.iloadN X0 hx (hb hby d11_63) rfl (q := 64) rfl ?_
  exact Go.retI X0 hx hret hlk (Or.inl rfl) rfl (hb hby d11_64) e0 (by decide) (by decide) ⟨rfl, N0, rfl⟩
def Q_ceq3_2 (Z : State) (c1 : Addr) (c2 : Addr) (k1 : ClassId) (k2 : ClassId) (x0 : Int32) (x1 : Int32) (x2 : Int32) (y0 : Int32) (y1 : Int32) (y2 : Int32) (h0 : Heap) (vR : Option Value) (hR : Heap) (LR : List Loc) : Prop := vR = some (.int (0 : Int32)) ∧ Fr Z.heap.size LR ∧ hR = h0
set_option maxRecDepth 65536 in
set_option maxHeartbeats 40000000 in
theorem ceq3_2 (l : Launch) (Z : State) (a0 : Array Value) (hw : ∀ d ∈ tables_1, d.before a0 Z = true) (c1 : Addr) (c2 : Addr) (k1 : ClassId) (k2 : ClassId) (x0 : Int32) (x1 : Int32) (x2 : Int32) (y0 : Int32) (y1 : Int32) (y2 : Int32) (h0 : Heap) (O0 : Ext Z.heap h0) (V1 : Arv Z h0 c1 k1 .byte (3 : Int32) [(.int x0), (.int x1), (.int x2)] (.int (0 : Int32))) (V2 : Arv Z h0 c2 k2 .byte (3 : Int32) [(.int y0), (.int y1), (.int y2)] (.int (0 : Int32))) (nn : c1 ≠ c2) (xe0 : x0 = y0) (xe1 : x1 = y1) (ne : ¬ (x2 = y2)) :
    Ctr l Z h0 (⟨"java/util/Arrays", "equals", "([B[B)Z"⟩ : MethodName) jdk_65_method_89_code 3 (some .boolean) [] ({ frames := 1, cells := 0, slots := 0, locals := 15 } : Room) #[(.ref c1), (.ref c2)] (Q_ceq3_2 Z c1 c2 k1 k2 x0 x1 x2 y0 y1 y2 h0) := by
  refine enter (plainFor_of_name pn3) ?_
  intro pp ee ss mm below meth cc s₁ hx hby hml hZ hown hnm hret hlk X0 e0 hs0
  replace hown : ss.vm.findClass "java/util/Arrays" = some mm.cls := hown
  refine Go.cast (congrArg s₁.setTop (ef_ceq3_2 mm c1 c2)) ?_
  have N0 := Fr.nil Z.heap.size
  show Go pp ee below _ (s₁.setTop (mkF mm 0 #[.val (.ref c1), .val (.ref c2), .unset] []))
  refine Go.aloadN X0 hx (hb hby d10_0) rfl rfl (q := 1) rfl ?_
  refine Go.aloadN X0 hx (hb hby d10_1) rfl rfl (q := 2) rfl ?_
  refine Go.acmp X0 hx rfl rfl (hb hby d10_2) (same := false) (decide_eq_false fun q => nn (Value.ref.inj q)) (q := 7) (by decide) (by decide) ?_
  refine Go.aloadN X0 hx (hb hby d10_7) rfl rfl (q := 8) rfl ?_
  refine Go.ifnullNo X0 hx (hb hby d10_8) (q := 11) rfl ?_
  refine Go.aloadN X0 hx (hb hby d10_11) rfl rfl (q := 12) rfl ?_
  refine Go.ifnonnullYes X0 hx (hb hby d10_12) (q := 17) (by decide) (by decide) ?_
  refine Go.aloadN X0 hx (hb hby d10_17) rfl rfl (q := 18) rfl ?_
  refine Go.alen X0 hx hZ e0 V1 (hb hby d10_18) ?_
  refine Go.istoreN X0 hx (hb hby d10_19) (l' := #[.val (.ref c1), .val (.ref c2), .val (.int (3 : Int32))]) rfl (q := 20) rfl ?_
  refine Go.aloadN X0 hx (hb hby d10_20) rfl rfl (q := 21) rfl ?_
  refine Go.alen X0 hx hZ e0 V2 (hb hby d10_21) ?_
  refine Go.iloadN X0 hx (hb hby d10_22) rfl (q := 23) rfl ?_
  refine Go.icmpYes X0 hx (hb hby d10_23) (by decide) (q := 28) (by decide) (by decide) ?_
  refine Go.aloadN X0 hx (hb hby d10_28) rfl rfl (q := 29) rfl ?_
  refine Go.aloadN X0 hx (hb hby d10_29) rfl rfl (q := 30) rfl ?_
  refine Go.iloadN X0 hx (hb hby d10_30) rfl (q := 31) rfl ?_
  refine Go.callS X0 hx hZ hown (wd65 hw) (wd66 hw) (wd67 hw) (wd68 hw) (by decide) (cmis3_2 l Z a0 hw c1 c2 (k1) (k2) x0 x1 x2 y0 y1 y2 h0 O0 V1 V2 xe0 xe1 ne) e0 (by rw [hml]; rfl) (hb hby d10_31) (argsL := [(.ref c1), (.ref c2), (.int (3 : Int32))]) (rest := []) (lenOf pd1 rfl) rfl rfl (W := 0) (by first | exact Nat.le_refl _ | decide) (by decide) (by decide) (by decide) (by decide) ?_
  intro v101 T101 L101 X101 hQ101
  obtain ⟨rfl, N101q, e101⟩ := hQ101
  have N101 := Fr.app N0 N101q
  refine Go.ifYes X101 hx (hb hby d10_34) (by decide) (q := 41) (by decide) (by decide) ?_
  refine Go.iconst X101 hx (hb hby d10_41) (r := (0 : Int32)) rfl (q := 42) rfl ?_
  exact Go.retI X101 hx hret hlk (by simp) rfl (hb hby d10_42) e101 (by decide) (by decide) ⟨rfl, N101, rfl⟩
def Q_csam3_2 (Z : State) (c1 : Addr) (c2 : Addr) (k1 : ClassId) (k2 : ClassId) (x0 : Int32) (x1 : Int32) (x2 : Int32) (y0 : Int32) (y1 : Int32) (y2 : Int32) (h0 : Heap) (vR : Option Value) (hR : Heap) (LR : List Loc) : Prop := vR = some (.int (0 : Int32)) ∧ Fr Z.heap.size LR ∧ hR = h0
set_option maxRecDepth 65536 in
set_option maxHeartbeats 40000000 in
theorem csam3_2 (l : Launch) (Z : State) (a0 : Array Value) (hw : ∀ d ∈ tables_1, d.before a0 Z = true) (c1 : Addr) (c2 : Addr) (k1 : ClassId) (k2 : ClassId) (x0 : Int32) (x1 : Int32) (x2 : Int32) (y0 : Int32) (y1 : Int32) (y2 : Int32) (h0 : Heap) (O0 : Ext Z.heap h0) (V1 : Arv Z h0 c1 k1 .byte (3 : Int32) [(.int x0), (.int x1), (.int x2)] (.int (0 : Int32))) (V2 : Arv Z h0 c2 k2 .byte (3 : Int32) [(.int y0), (.int y1), (.int y2)] (.int (0 : Int32))) (xe0 : x0 = y0) (xe1 : x1 = y1) (ne : ¬ (x2 = y2)) :
    Ctr l Z h0 (⟨"com/example/match_before_write/matchbeforewrite/RepresentationOfPinLaw", "same", "([B[B)Z"⟩ : MethodName) method_3_code 2 (some .boolean) [] ({ frames := 0, cells := 0, slots := 0, locals := 0 } : Room) #[(.ref c1), (.ref c2)] (Q_csam3_2 Z c1 c2 k1 k2 x0 x1 x2 y0 y1 y2 h0) := by
  refine enter (plainFor_of_name pn0) ?_
  intro pp ee ss mm below meth cc s₁ hx hby hml hZ hown hnm hret hlk X0 e0 hs0
  replace hown : ss.vm.findClass "com/example/match_before_write/matchbeforewrite/RepresentationOfPinLaw" = some mm.cls := hown
  refine Go.cast (congrArg s₁.setTop (ef_csam3_2 mm c1 c2)) ?_
  have N0 := Fr.nil Z.heap.size
  show Go pp ee below _ (s₁.setTop (mkF mm 0 #[.val (.ref c1), .val (.ref c2)] []))
  refine Go.aloadN X0 hx (hb hby d12_0) rfl rfl (q := 1) rfl ?_
  refine Go.alen X0 hx hZ e0 V1 (hb hby d12_1) ?_
  refine Go.aloadN X0 hx (hb hby d12_2) rfl rfl (q := 3) rfl ?_
  refine Go.alen X0 hx hZ e0 V2 (hb hby d12_3) ?_
  refine Go.icmpYes X0 hx (hb hby d12_4) (by decide) (q := 9) (by decide) (by decide) ?_
  refine Go.aloadN X0 hx (hb hby d12_9) rfl rfl (q := 10) rfl ?_
  refine Go.alen X0 hx hZ e0 V1 (hb hby d12_10) ?_
  refine Go.ifNo X0 hx (hb hby d12_11) (by decide) (q := 14) rfl ?_
  refine Go.aloadN X0 hx (hb hby d12_14) rfl rfl (q := 15) rfl ?_
  refine Go.iconst X0 hx (hb hby d12_15) (r := (0 : Int32)) rfl (q := 16) rfl ?_
  refine Go.bal X0 hx hZ e0 V1 ⟨by decide, by decide⟩ (v := (.int x0)) rfl (hb hby d12_16) ?_
  refine Go.aloadN X0 hx (hb hby d12_17) rfl rfl (q := 18) rfl ?_
  refine Go.iconst X0 hx (hb hby d12_18) (r := (0 : Int32)) rfl (q := 19) rfl ?_
  refine Go.bal X0 hx hZ e0 V2 ⟨by decide, by decide⟩ (v := (.int y0)) rfl (hb hby d12_19) ?_
  refine Go.icmpYes X0 hx (hb hby d12_20) (Jvm.Free.XT.ii_eq_t xe0) (q := 25) (by decide) (by decide) ?_
  refine Go.aloadN X0 hx (hb hby d12_25) rfl rfl (q := 26) rfl ?_
  refine Go.alen X0 hx hZ e0 V1 (hb hby d12_26) ?_
  refine Go.iconst X0 hx (hb hby d12_27) (r := (1 : Int32)) rfl (q := 28) rfl ?_
  refine Go.icmpNo X0 hx (hb hby d12_28) (by decide) (q := 31) rfl ?_
  refine Go.aloadN X0 hx (hb hby d12_31) rfl rfl (q := 32) rfl ?_
  refine Go.iconst X0 hx (hb hby d12_32) (r := (1 : Int32)) rfl (q := 33) rfl ?_
  refine Go.bal X0 hx hZ e0 V1 ⟨by decide, by decide⟩ (v := (.int x1)) rfl (hb hby d12_33) ?_
  refine Go.aloadN X0 hx (hb hby d12_34) rfl rfl (q := 35) rfl ?_
  refine Go.iconst X0 hx (hb hby d12_35) (r := (1 : Int32)) rfl (q := 36) rfl ?_
  refine Go.bal X0 hx hZ e0 V2 ⟨by decide, by decide⟩ (v := (.int y1)) rfl (hb hby d12_36) ?_
  refine Go.icmpYes X0 hx (hb hby d12_37) (Jvm.Free.XT.ii_eq_t xe1) (q := 42) (by decide) (by decide) ?_
  refine Go.aloadN X0 hx (hb hby d12_42) rfl rfl (q := 43) rfl ?_
  refine Go.alen X0 hx hZ e0 V1 (hb hby d12_43) ?_
  refine Go.iconst X0 hx (hb hby d12_44) (r := (2 : Int32)) rfl (q := 45) rfl ?_
  refine Go.icmpNo X0 hx (hb hby d12_45) (by decide) (q := 48) rfl ?_
  refine Go.aloadN X0 hx (hb hby d12_48) rfl rfl (q := 49) rfl ?_
  refine Go.iconst X0 hx (hb hby d12_49) (r := (2 : Int32)) rfl (q := 50) rfl ?_
  refine Go.bal X0 hx hZ e0 V1 ⟨by decide, by decide⟩ (v := (.int x2)) rfl (hb hby d12_50) ?_
  refine Go.aloadN X0 hx (hb hby d12_51) rfl rfl (q := 52) rfl ?_
  refine Go.iconst X0 hx (hb hby d12_52) (r := (2 : Int32)) rfl (q := 53) rfl ?_
  refine Go.bal X0 hx hZ e0 V2 ⟨by decide, by decide⟩ (v := (.int y2)) rfl (hb hby d12_53) ?_
  refine Go.icmpNo X0 hx (hb hby d12_54) (Jvm.Free.XT.ii_eq_f ne) (q := 57) rfl ?_
  refine Go.iconst X0 hx (hb hby d12_57) (r := (0 : Int32)) rfl (q := 58) rfl ?_
  exact Go.retI X0 hx hret hlk (by simp) rfl (hb hby d12_58) e0 (by decide) (by decide) ⟨rfl, N0, rfl⟩
def Q_chs3_2 (Z : State) (o : Addr) (q : Addr) (c1 : Addr) (c2 : Addr) (k1 : ClassId) (k2 : ClassId) (x0 : Int32) (x1 : Int32) (x2 : Int32) (y0 : Int32) (y1 : Int32) (y2 : Int32) (h0 : Heap) (vR : Option Value) (hR : Heap) (LR : List Loc) : Prop := vR = some (.int (0 : Int32)) ∧ Fr Z.heap.size LR ∧ hR = h0
set_option maxRecDepth 65536 in
set_option maxHeartbeats 40000000 in
theorem chs3_2 (l : Launch) (Z : State) (a0 : Array Value) (hw : ∀ d ∈ tables_1, d.before a0 Z = true) (o : Addr) (q : Addr) (c1 : Addr) (c2 : Addr) (k1 : ClassId) (k2 : ClassId) (x0 : Int32) (x1 : Int32) (x2 : Int32) (y0 : Int32) (y1 : Int32) (y2 : Int32) (h0 : Heap) (O0 : Ext Z.heap h0) (Fo : Fld Z h0 o "com/example/match_before_write/matchbeforewrite/Representation" "content" "[B" (.ref c1)) (Fq : Fld Z h0 q "com/example/match_before_write/matchbeforewrite/Representation" "content" "[B" (.ref c2)) (V1 : Arv Z h0 c1 k1 .byte (3 : Int32) [(.int x0), (.int x1), (.int x2)] (.int (0 : Int32))) (V2 : Arv Z h0 c2 k2 .byte (3 : Int32) [(.int y0), (.int y1), (.int y2)] (.int (0 : Int32))) (nn : c1 ≠ c2) (xe0 : x0 = y0) (xe1 : x1 = y1) (ne : ¬ (x2 = y2)) :
    Ctr l Z h0 (⟨"com/example/match_before_write/matchbeforewrite/Representation", "hasSameBytesAs", "(Lcom/example/match_before_write/matchbeforewrite/Representation;)Z"⟩ : MethodName) prog_13_method_13_code 2 (some .boolean) [] ({ frames := 2, cells := 0, slots := 0, locals := 29 } : Room) #[(.ref o), (.ref q)] (Q_chs3_2 Z o q c1 c2 k1 k2 x0 x1 x2 y0 y1 y2 h0) := by
  refine enter (plainFor_of_name pn1) ?_
  intro pp ee ss mm below meth cc s₁ hx hby hml hZ hown hnm hret hlk X0 e0 hs0
  replace hown : ss.vm.findClass "com/example/match_before_write/matchbeforewrite/Representation" = some mm.cls := hown
  refine Go.cast (congrArg s₁.setTop (ef_chs3_2 mm o q)) ?_
  have N0 := Fr.nil Z.heap.size
  show Go pp ee below _ (s₁.setTop (mkF mm 0 #[.val (.ref o), .val (.ref q)] []))
  refine Go.aloadN X0 hx (hb hby d9_0) rfl rfl (q := 1) rfl ?_
  refine Go.getF X0 hx hZ hown (host := "") (Or.inl (wd26 hw)) Via.refl e0 Fo (hb hby d9_1) (q := 4) rfl ?_
  intro T101 X101 e101
  refine Go.aloadN X101 hx (hb hby d9_4) rfl rfl (q := 5) rfl ?_
  refine Go.getF X101 hx hZ hown (host := "") (Or.inl (wd26 hw)) Via.refl e101 Fq (hb hby d9_5) (q := 8) rfl ?_
  intro T102 X102 e102
  refine Go.callS X102 hx hZ hown (wd61 hw) (wd62 hw) (wd63 hw) (wd64 hw) (by decide) (ceq3_2 l Z a0 hw c1 c2 (k1) (k2) x0 x1 x2 y0 y1 y2 h0 O0 V1 V2 nn xe0 xe1 ne) e102 (by rw [hml]; rfl) (hb hby d9_8) (argsL := [(.ref c1), (.ref c2)]) (rest := []) (lenOf pd2 rfl) rfl rfl (W := 0) (by first | exact Nat.le_refl _ | decide) (by decide) (by decide) (by decide) (by decide) ?_
  intro v103 T103 L103 X103 hQ103
  obtain ⟨rfl, N103q, e103⟩ := hQ103
  have N103 := Fr.app N0 N103q
  exact Go.retI X103 hx hret hlk (by simp) rfl (hb hby d9_11) e103 (by decide) (by decide) ⟨rfl, N103, rfl⟩
def Q_cmis3_1 (Z : State) (c1 : Addr) (c2 : Addr) (k1 : ClassId) (k2 : ClassId) (x0 : Int32) (x1 : Int32) (x2 : Int32) (y0 : Int32) (y1 : Int32) (y2 : Int32) (h0 : Heap) (vR : Option Value) (hR : Heap) (LR : List Loc) : Prop := vR = some (.int (1 : Int32)) ∧ Fr Z.heap.size LR ∧ hR = h0
set_option maxRecDepth 65536 in
set_option maxHeartbeats 40000000 in
theorem cmis3_1 (l : Launch) (Z : State) (a0 : Array Value) (hw : ∀ d ∈ tables_1, d.before a0 Z = true) (c1 : Addr) (c2 : Addr) (k1 : ClassId) (k2 : ClassId) (x0 : Int32) (x1 : Int32) (x2 : Int32) (y0 : Int32) (y1 : Int32) (y2 : Int32) (h0 : Heap) (O0 : Ext Z.heap h0) (V1 : Arv Z h0 c1 k1 .byte (3 : Int32) [(.int x0), (.int x1), (.int x2)] (.int (0 : Int32))) (V2 : Arv Z h0 c2 k2 .byte (3 : Int32) [(.int y0), (.int y1), (.int y2)] (.int (0 : Int32))) (xe0 : x0 = y0) (ne : ¬ (x1 = y1)) :
    Ctr l Z h0 (⟨"jdk/internal/util/ArraysSupport", "mismatch", "([B[BI)I"⟩ : MethodName) jdk_48_method_13_code 4 (some .int) [] ({ frames := 0, cells := 0, slots := 0, locals := 0 } : Room) #[(.ref c1), (.ref c2), (.int (3 : Int32))] (Q_cmis3_1 Z c1 c2 k1 k2 x0 x1 x2 y0 y1 y2 h0) := by
  refine enter (plainFor_of_name pn2) ?_
  intro pp ee ss mm below meth cc s₁ hx hby hml hZ hown hnm hret hlk X0 e0 hs0
  replace hown : ss.vm.findClass "jdk/internal/util/ArraysSupport" = some mm.cls := hown
  refine Go.cast (congrArg s₁.setTop (ef_cmis3_1 mm c1 c2)) ?_
  have N0 := Fr.nil Z.heap.size
  show Go pp ee below _ (s₁.setTop (mkF mm 0 #[.val (.ref c1), .val (.ref c2), .val (.int (3 : Int32)), .unset] []))
  refine Go.iconst X0 hx (hb hby d11_0) (r := (0 : Int32)) rfl (q := 1) rfl ?_
  refine Go.istoreN X0 hx (hb hby d11_1) (l' := #[.val (.ref c1), .val (.ref c2), .val (.int (3 : Int32)), .val (.int (0 : Int32))]) rfl (q := 2) rfl ?_
  refine Go.iloadN X0 hx (hb hby d11_2) rfl (q := 3) rfl ?_
  refine Go.bipush X0 hx (hb hby d11_3) (r := (7 : Int32)) rfl (q := 5) rfl ?_
  refine Go.icmpYes X0 hx (hb hby d11_5) (by decide) (q := 49) (by decide) (by decide) ?_
  refine Go.iloadN X0 hx (hb hby d11_49) rfl (q := 50) rfl ?_
  refine Go.iloadN X0 hx (hb hby d11_50) rfl (q := 51) rfl ?_
  refine Go.icmpNo X0 hx (hb hby d11_51) (by decide) (q := 54) rfl ?_
  refine Go.aloadN X0 hx (hb hby d11_54) rfl rfl (q := 55) rfl ?_
  refine Go.iloadN X0 hx (hb hby d11_55) rfl (q := 56) rfl ?_
  refine Go.bal X0 hx hZ e0 V1 ⟨by decide, by decide⟩ (v := (.int x0)) rfl (hb hby d11_56) ?_
  refine Go.aloadN X0 hx (hb hby d11_57) rfl rfl (q := 58) rfl ?_
  refine Go.iloadN X0 hx (hb hby d11_58) rfl (q := 59) rfl ?_
  refine Go.bal X0 hx hZ e0 V2 ⟨by decide, by decide⟩ (v := (.int y0)) rfl (hb hby d11_59) ?_
  refine Go.icmpYes X0 hx (hb hby d11_60) (Jvm.Free.XT.ii_eq_t xe0) (q := 65) (by decide) (by decide) ?_
  refine Go.iinc X0 hx (hb hby d11_65) rfl (r := (1 : Int32)) rfl (l' := #[.val (.ref c1), .val (.ref c2), .val (.int (3 : Int32)), .val (.int (1 : Int32))]) rfl (q := 68) rfl ?_
  refine Go.goto X0 hx (hb hby d11_68) (q := 49) (by decide) (by decide) ?_
  refine Go.iloadN X0 hx (hb hby d11_49) rfl (q := 50) rfl ?_
  refine Go.iloadN X0 hx (hb hby d11_50) rfl (q := 51) rfl ?_
  refine Go.icmpNo X0 hx (hb hby d11_51) (by decide) (q := 54) rfl ?_
  refine Go.aloadN X0 hx (hb hby d11_54) rfl rfl (q := 55) rfl ?_
  refine Go.iloadN X0 hx (hb hby d11_55) rfl (q := 56) rfl ?_
  refine Go.bal X0 hx hZ e0 V1 ⟨by decide, by decide⟩ (v := (.int x1)) rfl (hb hby d11_56) ?_
  refine Go.aloadN X0 hx (hb hby d11_57) rfl rfl (q := 58) rfl ?_
  refine Go.iloadN X0 hx (hb hby d11_58) rfl (q := 59) rfl ?_
  refine Go.bal X0 hx hZ e0 V2 ⟨by decide, by decide⟩ (v := (.int y1)) rfl (hb hby d11_59) ?_
  refine Go.icmpNo X0 hx (hb hby d11_60) (Jvm.Free.XT.ii_eq_f ne) (q := 63) rfl ?_
  refine Go.iloadN X0 hx (hb hby d11_63) rfl (q := 64) rfl ?_
  exact Go.retI X0 hx hret hlk (Or.inl rfl) rfl (hb hby d11_64) e0 (by decide) (by decide) ⟨rfl, N0, rfl⟩
def Q_ceq3_1 (Z : State) (c1 : Addr) (c2 : Addr) (k1 : ClassId) (k2 : ClassId) (x0 : Int32) (x1 : Int32) (x2 : Int32) (y0 : Int32) (y1 : Int32) (y2 : Int32) (h0 : Heap) (vR : Option Value) (hR : Heap) (LR : List Loc) : Prop := vR = some (.int (0 : Int32)) ∧ Fr Z.heap.size LR ∧ hR = h0
set_option maxRecDepth 65536 in
set_option maxHeartbeats 40000000 in
theorem ceq3_1 (l : Launch) (Z : State) (a0 : Array Value) (hw : ∀ d ∈ tables_1, d.before a0 Z = true) (c1 : Addr) (c2 : Addr) (k1 : ClassId) (k2 : ClassId) (x0 : Int32) (x1 : Int32) (x2 : Int32) (y0 : Int32) (y1 : Int32) (y2 : Int32) (h0 : Heap) (O0 : Ext Z.heap h0) (V1 : Arv Z h0 c1 k1 .byte (3 : Int32) [(.int x0), (.int x1), (.int x2)] (.int (0 : Int32))) (V2 : Arv Z h0 c2 k2 .byte (3 : Int32) [(.int y0), (.int y1), (.int y2)] (.int (0 : Int32))) (nn : c1 ≠ c2) (xe0 : x0 = y0) (ne : ¬ (x1 = y1)) :
    Ctr l Z h0 (⟨"java/util/Arrays", "equals", "([B[B)Z"⟩ : MethodName) jdk_65_method_89_code 3 (some .boolean) [] ({ frames := 1, cells := 0, slots := 0, locals := 15 } : Room) #[(.ref c1), (.ref c2)] (Q_ceq3_1 Z c1 c2 k1 k2 x0 x1 x2 y0 y1 y2 h0) := by
  refine enter (plainFor_of_name pn3) ?_
  intro pp ee ss mm below meth cc s₁ hx hby hml hZ hown hnm hret hlk X0 e0 hs0
  replace hown : ss.vm.findClass "java/util/Arrays" = some mm.cls := hown
  refine Go.cast (congrArg s₁.setTop (ef_ceq3_1 mm c1 c2)) ?_
  have N0 := Fr.nil Z.heap.size
  show Go pp ee below _ (s₁.setTop (mkF mm 0 #[.val (.ref c1), .val (.ref c2), .unset] []))
  refine Go.aloadN X0 hx (hb hby d10_0) rfl rfl (q := 1) rfl ?_
  refine Go.aloadN X0 hx (hb hby d10_1) rfl rfl (q := 2) rfl ?_
  refine Go.acmp X0 hx rfl rfl (hb hby d10_2) (same := false) (decide_eq_false fun q => nn (Value.ref.inj q)) (q := 7) (by decide) (by decide) ?_
  refine Go.aloadN X0 hx (hb hby d10_7) rfl rfl (q := 8) rfl ?_
  refine Go.ifnullNo X0 hx (hb hby d10_8) (q := 11) rfl ?_
  refine Go.aloadN X0 hx (hb hby d10_11) rfl rfl (q := 12) rfl ?_
  refine Go.ifnonnullYes X0 hx (hb hby d10_12) (q := 17) (by decide) (by decide) ?_
  refine Go.aloadN X0 hx (hb hby d10_17) rfl rfl (q := 18) rfl ?_
  refine Go.alen X0 hx hZ e0 V1 (hb hby d10_18) ?_
  refine Go.istoreN X0 hx (hb hby d10_19) (l' := #[.val (.ref c1), .val (.ref c2), .val (.int (3 : Int32))]) rfl (q := 20) rfl ?_
  refine Go.aloadN X0 hx (hb hby d10_20) rfl rfl (q := 21) rfl ?_
  refine Go.alen X0 hx hZ e0 V2 (hb hby d10_21) ?_
  refine Go.iloadN X0 hx (hb hby d10_22) rfl (q := 23) rfl ?_
  refine Go.icmpYes X0 hx (hb hby d10_23) (by decide) (q := 28) (by decide) (by decide) ?_
  refine Go.aloadN X0 hx (hb hby d10_28) rfl rfl (q := 29) rfl ?_
  refine Go.aloadN X0 hx (hb hby d10_29) rfl rfl (q := 30) rfl ?_
  refine Go.iloadN X0 hx (hb hby d10_30) rfl (q := 31) rfl ?_
  refine Go.callS X0 hx hZ hown (wd65 hw) (wd66 hw) (wd67 hw) (wd68 hw) (by decide) (cmis3_1 l Z a0 hw c1 c2 (k1) (k2) x0 x1 x2 y0 y1 y2 h0 O0 V1 V2 xe0 ne) e0 (by rw [hml]; rfl) (hb hby d10_31) (argsL := [(.ref c1), (.ref c2), (.int (3 : Int32))]) (rest := []) (lenOf pd1 rfl) rfl rfl (W := 0) (by first | exact Nat.le_refl _ | decide) (by decide) (by decide) (by decide) (by decide) ?_
  intro v101 T101 L101 X101 hQ101
  obtain ⟨rfl, N101q, e101⟩ := hQ101
  have N101 := Fr.app N0 N101q
  refine Go.ifYes X101 hx (hb hby d10_34) (by decide) (q := 41) (by decide) (by decide) ?_
  refine Go.iconst X101 hx (hb hby d10_41) (r := (0 : Int32)) rfl (q := 42) rfl ?_
  exact Go.retI X101 hx hret hlk (by simp) rfl (hb hby d10_42) e101 (by decide) (by decide) ⟨rfl, N101, rfl⟩
def Q_csam3_1 (Z : State) (c1 : Addr) (c2 : Addr) (k1 : ClassId) (k2 : ClassId) (x0 : Int32) (x1 : Int32) (x2 : Int32) (y0 : Int32) (y1 : Int32) (y2 : Int32) (h0 : Heap) (vR : Option Value) (hR : Heap) (LR : List Loc) : Prop := vR = some (.int (0 : Int32)) ∧ Fr Z.heap.size LR ∧ hR = h0
set_option maxRecDepth 65536 in
set_option maxHeartbeats 40000000 in
theorem csam3_1 (l : Launch) (Z : State) (a0 : Array Value) (hw : ∀ d ∈ tables_1, d.before a0 Z = true) (c1 : Addr) (c2 : Addr) (k1 : ClassId) (k2 : ClassId) (x0 : Int32) (x1 : Int32) (x2 : Int32) (y0 : Int32) (y1 : Int32) (y2 : Int32) (h0 : Heap) (O0 : Ext Z.heap h0) (V1 : Arv Z h0 c1 k1 .byte (3 : Int32) [(.int x0), (.int x1), (.int x2)] (.int (0 : Int32))) (V2 : Arv Z h0 c2 k2 .byte (3 : Int32) [(.int y0), (.int y1), (.int y2)] (.int (0 : Int32))) (xe0 : x0 = y0) (ne : ¬ (x1 = y1)) :
    Ctr l Z h0 (⟨"com/example/match_before_write/matchbeforewrite/RepresentationOfPinLaw", "same", "([B[B)Z"⟩ : MethodName) method_3_code 2 (some .boolean) [] ({ frames := 0, cells := 0, slots := 0, locals := 0 } : Room) #[(.ref c1), (.ref c2)] (Q_csam3_1 Z c1 c2 k1 k2 x0 x1 x2 y0 y1 y2 h0) := by
  refine enter (plainFor_of_name pn0) ?_
  intro pp ee ss mm below meth cc s₁ hx hby hml hZ hown hnm hret hlk X0 e0 hs0
  replace hown : ss.vm.findClass "com/example/match_before_write/matchbeforewrite/RepresentationOfPinLaw" = some mm.cls := hown
  refine Go.cast (congrArg s₁.setTop (ef_csam3_1 mm c1 c2)) ?_
  have N0 := Fr.nil Z.heap.size
  show Go pp ee below _ (s₁.setTop (mkF mm 0 #[.val (.ref c1), .val (.ref c2)] []))
  refine Go.aloadN X0 hx (hb hby d12_0) rfl rfl (q := 1) rfl ?_
  refine Go.alen X0 hx hZ e0 V1 (hb hby d12_1) ?_
  refine Go.aloadN X0 hx (hb hby d12_2) rfl rfl (q := 3) rfl ?_
  refine Go.alen X0 hx hZ e0 V2 (hb hby d12_3) ?_
  refine Go.icmpYes X0 hx (hb hby d12_4) (by decide) (q := 9) (by decide) (by decide) ?_
  refine Go.aloadN X0 hx (hb hby d12_9) rfl rfl (q := 10) rfl ?_
  refine Go.alen X0 hx hZ e0 V1 (hb hby d12_10) ?_
  refine Go.ifNo X0 hx (hb hby d12_11) (by decide) (q := 14) rfl ?_
  refine Go.aloadN X0 hx (hb hby d12_14) rfl rfl (q := 15) rfl ?_
  refine Go.iconst X0 hx (hb hby d12_15) (r := (0 : Int32)) rfl (q := 16) rfl ?_
  refine Go.bal X0 hx hZ e0 V1 ⟨by decide, by decide⟩ (v := (.int x0)) rfl (hb hby d12_16) ?_
  refine Go.aloadN X0 hx (hb hby d12_17) rfl rfl (q := 18) rfl ?_
  refine Go.iconst X0 hx (hb hby d12_18) (r := (0 : Int32)) rfl (q := 19) rfl ?_
  refine Go.bal X0 hx hZ e0 V2 ⟨by decide, by decide⟩ (v := (.int y0)) rfl (hb hby d12_19) ?_
  refine Go.icmpYes X0 hx (hb hby d12_20) (Jvm.Free.XT.ii_eq_t xe0) (q := 25) (by decide) (by decide) ?_
  refine Go.aloadN X0 hx (hb hby d12_25) rfl rfl (q := 26) rfl ?_
  refine Go.alen X0 hx hZ e0 V1 (hb hby d12_26) ?_
  refine Go.iconst X0 hx (hb hby d12_27) (r := (1 : Int32)) rfl (q := 28) rfl ?_
  refine Go.icmpNo X0 hx (hb hby d12_28) (by decide) (q := 31) rfl ?_
  refine Go.aloadN X0 hx (hb hby d12_31) rfl rfl (q := 32) rfl ?_
  refine Go.iconst X0 hx (hb hby d12_32) (r := (1 : Int32)) rfl (q := 33) rfl ?_
  refine Go.bal X0 hx hZ e0 V1 ⟨by decide, by decide⟩ (v := (.int x1)) rfl (hb hby d12_33) ?_
  refine Go.aloadN X0 hx (hb hby d12_34) rfl rfl (q := 35) rfl ?_
  refine Go.iconst X0 hx (hb hby d12_35) (r := (1 : Int32)) rfl (q := 36) rfl ?_
  refine Go.bal X0 hx hZ e0 V2 ⟨by decide, by decide⟩ (v := (.int y1)) rfl (hb hby d12_36) ?_
  refine Go.icmpNo X0 hx (hb hby d12_37) (Jvm.Free.XT.ii_eq_f ne) (q := 40) rfl ?_
  refine Go.iconst X0 hx (hb hby d12_40) (r := (0 : Int32)) rfl (q := 41) rfl ?_
  exact Go.retI X0 hx hret hlk (by simp) rfl (hb hby d12_41) e0 (by decide) (by decide) ⟨rfl, N0, rfl⟩
def Q_chs3_1 (Z : State) (o : Addr) (q : Addr) (c1 : Addr) (c2 : Addr) (k1 : ClassId) (k2 : ClassId) (x0 : Int32) (x1 : Int32) (x2 : Int32) (y0 : Int32) (y1 : Int32) (y2 : Int32) (h0 : Heap) (vR : Option Value) (hR : Heap) (LR : List Loc) : Prop := vR = some (.int (0 : Int32)) ∧ Fr Z.heap.size LR ∧ hR = h0
set_option maxRecDepth 65536 in
set_option maxHeartbeats 40000000 in
theorem chs3_1 (l : Launch) (Z : State) (a0 : Array Value) (hw : ∀ d ∈ tables_1, d.before a0 Z = true) (o : Addr) (q : Addr) (c1 : Addr) (c2 : Addr) (k1 : ClassId) (k2 : ClassId) (x0 : Int32) (x1 : Int32) (x2 : Int32) (y0 : Int32) (y1 : Int32) (y2 : Int32) (h0 : Heap) (O0 : Ext Z.heap h0) (Fo : Fld Z h0 o "com/example/match_before_write/matchbeforewrite/Representation" "content" "[B" (.ref c1)) (Fq : Fld Z h0 q "com/example/match_before_write/matchbeforewrite/Representation" "content" "[B" (.ref c2)) (V1 : Arv Z h0 c1 k1 .byte (3 : Int32) [(.int x0), (.int x1), (.int x2)] (.int (0 : Int32))) (V2 : Arv Z h0 c2 k2 .byte (3 : Int32) [(.int y0), (.int y1), (.int y2)] (.int (0 : Int32))) (nn : c1 ≠ c2) (xe0 : x0 = y0) (ne : ¬ (x1 = y1)) :
    Ctr l Z h0 (⟨"com/example/match_before_write/matchbeforewrite/Representation", "hasSameBytesAs", "(Lcom/example/match_before_write/matchbeforewrite/Representation;)Z"⟩ : MethodName) prog_13_method_13_code 2 (some .boolean) [] ({ frames := 2, cells := 0, slots := 0, locals := 29 } : Room) #[(.ref o), (.ref q)] (Q_chs3_1 Z o q c1 c2 k1 k2 x0 x1 x2 y0 y1 y2 h0) := by
  refine enter (plainFor_of_name pn1) ?_
  intro pp ee ss mm below meth cc s₁ hx hby hml hZ hown hnm hret hlk X0 e0 hs0
  replace hown : ss.vm.findClass "com/example/match_before_write/matchbeforewrite/Representation" = some mm.cls := hown
  refine Go.cast (congrArg s₁.setTop (ef_chs3_1 mm o q)) ?_
  have N0 := Fr.nil Z.heap.size
  show Go pp ee below _ (s₁.setTop (mkF mm 0 #[.val (.ref o), .val (.ref q)] []))
  refine Go.aloadN X0 hx (hb hby d9_0) rfl rfl (q := 1) rfl ?_
  refine Go.getF X0 hx hZ hown (host := "") (Or.inl (wd26 hw)) Via.refl e0 Fo (hb hby d9_1) (q := 4) rfl ?_
  intro T101 X101 e101
  refine Go.aloadN X101 hx (hb hby d9_4) rfl rfl (q := 5) rfl ?_
  refine Go.getF X101 hx hZ hown (host := "") (Or.inl (wd26 hw)) Via.refl e101 Fq (hb hby d9_5) (q := 8) rfl ?_
  intro T102 X102 e102
  refine Go.callS X102 hx hZ hown (wd61 hw) (wd62 hw) (wd63 hw) (wd64 hw) (by decide) (ceq3_1 l Z a0 hw c1 c2 (k1) (k2) x0 x1 x2 y0 y1 y2 h0 O0 V1 V2 nn xe0 ne) e102 (by rw [hml]; rfl) (hb hby d9_8) (argsL := [(.ref c1), (.ref c2)]) (rest := []) (lenOf pd2 rfl) rfl rfl (W := 0) (by first | exact Nat.le_refl _ | decide) (by decide) (by decide) (by decide) (by decide) ?_
  intro v103 T103 L103 X103 hQ103
  obtain ⟨rfl, N103q, e103⟩ := hQ103
  have N103 := Fr.app N0 N103q
  exact Go.retI X103 hx hret hlk (by simp) rfl (hb hby d9_11) e103 (by decide) (by decide) ⟨rfl, N103, rfl⟩
def Q_cmis3_0 (Z : State) (c1 : Addr) (c2 : Addr) (k1 : ClassId) (k2 : ClassId) (x0 : Int32) (x1 : Int32) (x2 : Int32) (y0 : Int32) (y1 : Int32) (y2 : Int32) (h0 : Heap) (vR : Option Value) (hR : Heap) (LR : List Loc) : Prop := vR = some (.int (0 : Int32)) ∧ Fr Z.heap.size LR ∧ hR = h0
set_option maxRecDepth 65536 in
set_option maxHeartbeats 40000000 in
theorem cmis3_0 (l : Launch) (Z : State) (a0 : Array Value) (hw : ∀ d ∈ tables_1, d.before a0 Z = true) (c1 : Addr) (c2 : Addr) (k1 : ClassId) (k2 : ClassId) (x0 : Int32) (x1 : Int32) (x2 : Int32) (y0 : Int32) (y1 : Int32) (y2 : Int32) (h0 : Heap) (O0 : Ext Z.heap h0) (V1 : Arv Z h0 c1 k1 .byte (3 : Int32) [(.int x0), (.int x1), (.int x2)] (.int (0 : Int32))) (V2 : Arv Z h0 c2 k2 .byte (3 : Int32) [(.int y0), (.int y1), (.int y2)] (.int (0 : Int32))) (ne : ¬ (x0 = y0)) :
    Ctr l Z h0 (⟨"jdk/internal/util/ArraysSupport", "mismatch", "([B[BI)I"⟩ : MethodName) jdk_48_method_13_code 4 (some .int) [] ({ frames := 0, cells := 0, slots := 0, locals := 0 } : Room) #[(.ref c1), (.ref c2), (.int (3 : Int32))] (Q_cmis3_0 Z c1 c2 k1 k2 x0 x1 x2 y0 y1 y2 h0) := by
  refine enter (plainFor_of_name pn2) ?_
  intro pp ee ss mm below meth cc s₁ hx hby hml hZ hown hnm hret hlk X0 e0 hs0
  replace hown : ss.vm.findClass "jdk/internal/util/ArraysSupport" = some mm.cls := hown
  refine Go.cast (congrArg s₁.setTop (ef_cmis3_0 mm c1 c2)) ?_
  have N0 := Fr.nil Z.heap.size
  show Go pp ee below _ (s₁.setTop (mkF mm 0 #[.val (.ref c1), .val (.ref c2), .val (.int (3 : Int32)), .unset] []))
  refine Go.iconst X0 hx (hb hby d11_0) (r := (0 : Int32)) rfl (q := 1) rfl ?_
  refine Go.istoreN X0 hx (hb hby d11_1) (l' := #[.val (.ref c1), .val (.ref c2), .val (.int (3 : Int32)), .val (.int (0 : Int32))]) rfl (q := 2) rfl ?_
  refine Go.iloadN X0 hx (hb hby d11_2) rfl (q := 3) rfl ?_
  refine Go.bipush X0 hx (hb hby d11_3) (r := (7 : Int32)) rfl (q := 5) rfl ?_
  refine Go.icmpYes X0 hx (hb hby d11_5) (by decide) (q := 49) (by decide) (by decide) ?_
  refine Go.iloadN X0 hx (hb hby d11_49) rfl (q := 50) rfl ?_
  refine Go.iloadN X0 hx (hb hby d11_50) rfl (q := 51) rfl ?_
  refine Go.icmpNo X0 hx (hb hby d11_51) (by decide) (q := 54) rfl ?_
  refine Go.aloadN X0 hx (hb hby d11_54) rfl rfl (q := 55) rfl ?_
  refine Go.iloadN X0 hx (hb hby d11_55) rfl (q := 56) rfl ?_
  refine Go.bal X0 hx hZ e0 V1 ⟨by decide, by decide⟩ (v := (.int x0)) rfl (hb hby d11_56) ?_
  refine Go.aloadN X0 hx (hb hby d11_57) rfl rfl (q := 58) rfl ?_
  refine Go.iloadN X0 hx (hb hby d11_58) rfl (q := 59) rfl ?_
  refine Go.bal X0 hx hZ e0 V2 ⟨by decide, by decide⟩ (v := (.int y0)) rfl (hb hby d11_59) ?_
  refine Go.icmpNo X0 hx (hb hby d11_60) (Jvm.Free.XT.ii_eq_f ne) (q := 63) rfl ?_
  refine Go.iloadN X0 hx (hb hby d11_63) rfl (q := 64) rfl ?_
  exact Go.retI X0 hx hret hlk (Or.inl rfl) rfl (hb hby d11_64) e0 (by decide) (by decide) ⟨rfl, N0, rfl⟩
def Q_ceq3_0 (Z : State) (c1 : Addr) (c2 : Addr) (k1 : ClassId) (k2 : ClassId) (x0 : Int32) (x1 : Int32) (x2 : Int32) (y0 : Int32) (y1 : Int32) (y2 : Int32) (h0 : Heap) (vR : Option Value) (hR : Heap) (LR : List Loc) : Prop := vR = some (.int (0 : Int32)) ∧ Fr Z.heap.size LR ∧ hR = h0
set_option maxRecDepth 65536 in
set_option maxHeartbeats 40000000 in
theorem ceq3_0 (l : Launch) (Z : State) (a0 : Array Value) (hw : ∀ d ∈ tables_1, d.before a0 Z = true) (c1 : Addr) (c2 : Addr) (k1 : ClassId) (k2 : ClassId) (x0 : Int32) (x1 : Int32) (x2 : Int32) (y0 : Int32) (y1 : Int32) (y2 : Int32) (h0 : Heap) (O0 : Ext Z.heap h0) (V1 : Arv Z h0 c1 k1 .byte (3 : Int32) [(.int x0), (.int x1), (.int x2)] (.int (0 : Int32))) (V2 : Arv Z h0 c2 k2 .byte (3 : Int32) [(.int y0), (.int y1), (.int y2)] (.int (0 : Int32))) (nn : c1 ≠ c2) (ne : ¬ (x0 = y0)) :
    Ctr l Z h0 (⟨"java/util/Arrays", "equals", "([B[B)Z"⟩ : MethodName) jdk_65_method_89_code 3 (some .boolean) [] ({ frames := 1, cells := 0, slots := 0, locals := 15 } : Room) #[(.ref c1), (.ref c2)] (Q_ceq3_0 Z c1 c2 k1 k2 x0 x1 x2 y0 y1 y2 h0) := by
  refine enter (plainFor_of_name pn3) ?_
  intro pp ee ss mm below meth cc s₁ hx hby hml hZ hown hnm hret hlk X0 e0 hs0
  replace hown : ss.vm.findClass "java/util/Arrays" = some mm.cls := hown
  refine Go.cast (congrArg s₁.setTop (ef_ceq3_0 mm c1 c2)) ?_
  have N0 := Fr.nil Z.heap.size
  show Go pp ee below _ (s₁.setTop (mkF mm 0 #[.val (.ref c1), .val (.ref c2), .unset] []))
  refine Go.aloadN X0 hx (hb hby d10_0) rfl rfl (q := 1) rfl ?_
  refine Go.aloadN X0 hx (hb hby d10_1) rfl rfl (q := 2) rfl ?_
  refine Go.acmp X0 hx rfl rfl (hb hby d10_2) (same := false) (decide_eq_false fun q => nn (Value.ref.inj q)) (q := 7) (by decide) (by decide) ?_
  refine Go.aloadN X0 hx (hb hby d10_7) rfl rfl (q := 8) rfl ?_
  refine Go.ifnullNo X0 hx (hb hby d10_8) (q := 11) rfl ?_
  refine Go.aloadN X0 hx (hb hby d10_11) rfl rfl (q := 12) rfl ?_
  refine Go.ifnonnullYes X0 hx (hb hby d10_12) (q := 17) (by decide) (by decide) ?_
  refine Go.aloadN X0 hx (hb hby d10_17) rfl rfl (q := 18) rfl ?_
  refine Go.alen X0 hx hZ e0 V1 (hb hby d10_18) ?_
  refine Go.istoreN X0 hx (hb hby d10_19) (l' := #[.val (.ref c1), .val (.ref c2), .val (.int (3 : Int32))]) rfl (q := 20) rfl ?_
  refine Go.aloadN X0 hx (hb hby d10_20) rfl rfl (q := 21) rfl ?_
  refine Go.alen X0 hx hZ e0 V2 (hb hby d10_21) ?_
  refine Go.iloadN X0 hx (hb hby d10_22) rfl (q := 23) rfl ?_
  refine Go.icmpYes X0 hx (hb hby d10_23) (by decide) (q := 28) (by decide) (by decide) ?_
  refine Go.aloadN X0 hx (hb hby d10_28) rfl rfl (q := 29) rfl ?_
  refine Go.aloadN X0 hx (hb hby d10_29) rfl rfl (q := 30) rfl ?_
  refine Go.iloadN X0 hx (hb hby d10_30) rfl (q := 31) rfl ?_
  refine Go.callS X0 hx hZ hown (wd65 hw) (wd66 hw) (wd67 hw) (wd68 hw) (by decide) (cmis3_0 l Z a0 hw c1 c2 (k1) (k2) x0 x1 x2 y0 y1 y2 h0 O0 V1 V2 ne) e0 (by rw [hml]; rfl) (hb hby d10_31) (argsL := [(.ref c1), (.ref c2), (.int (3 : Int32))]) (rest := []) (lenOf pd1 rfl) rfl rfl (W := 0) (by first | exact Nat.le_refl _ | decide) (by decide) (by decide) (by decide) (by decide) ?_
  intro v101 T101 L101 X101 hQ101
  obtain ⟨rfl, N101q, e101⟩ := hQ101
  have N101 := Fr.app N0 N101q
  refine Go.ifYes X101 hx (hb hby d10_34) (by decide) (q := 41) (by decide) (by decide) ?_
  refine Go.iconst X101 hx (hb hby d10_41) (r := (0 : Int32)) rfl (q := 42) rfl ?_
  exact Go.retI X101 hx hret hlk (by simp) rfl (hb hby d10_42) e101 (by decide) (by decide) ⟨rfl, N101, rfl⟩
def Q_csam3_0 (Z : State) (c1 : Addr) (c2 : Addr) (k1 : ClassId) (k2 : ClassId) (x0 : Int32) (x1 : Int32) (x2 : Int32) (y0 : Int32) (y1 : Int32) (y2 : Int32) (h0 : Heap) (vR : Option Value) (hR : Heap) (LR : List Loc) : Prop := vR = some (.int (0 : Int32)) ∧ Fr Z.heap.size LR ∧ hR = h0
set_option maxRecDepth 65536 in
set_option maxHeartbeats 40000000 in
theorem csam3_0 (l : Launch) (Z : State) (a0 : Array Value) (hw : ∀ d ∈ tables_1, d.before a0 Z = true) (c1 : Addr) (c2 : Addr) (k1 : ClassId) (k2 : ClassId) (x0 : Int32) (x1 : Int32) (x2 : Int32) (y0 : Int32) (y1 : Int32) (y2 : Int32) (h0 : Heap) (O0 : Ext Z.heap h0) (V1 : Arv Z h0 c1 k1 .byte (3 : Int32) [(.int x0), (.int x1), (.int x2)] (.int (0 : Int32))) (V2 : Arv Z h0 c2 k2 .byte (3 : Int32) [(.int y0), (.int y1), (.int y2)] (.int (0 : Int32))) (ne : ¬ (x0 = y0)) :
    Ctr l Z h0 (⟨"com/example/match_before_write/matchbeforewrite/RepresentationOfPinLaw", "same", "([B[B)Z"⟩ : MethodName) method_3_code 2 (some .boolean) [] ({ frames := 0, cells := 0, slots := 0, locals := 0 } : Room) #[(.ref c1), (.ref c2)] (Q_csam3_0 Z c1 c2 k1 k2 x0 x1 x2 y0 y1 y2 h0) := by
  refine enter (plainFor_of_name pn0) ?_
  intro pp ee ss mm below meth cc s₁ hx hby hml hZ hown hnm hret hlk X0 e0 hs0
  replace hown : ss.vm.findClass "com/example/match_before_write/matchbeforewrite/RepresentationOfPinLaw" = some mm.cls := hown
  refine Go.cast (congrArg s₁.setTop (ef_csam3_0 mm c1 c2)) ?_
  have N0 := Fr.nil Z.heap.size
  show Go pp ee below _ (s₁.setTop (mkF mm 0 #[.val (.ref c1), .val (.ref c2)] []))
  refine Go.aloadN X0 hx (hb hby d12_0) rfl rfl (q := 1) rfl ?_
  refine Go.alen X0 hx hZ e0 V1 (hb hby d12_1) ?_
  refine Go.aloadN X0 hx (hb hby d12_2) rfl rfl (q := 3) rfl ?_
  refine Go.alen X0 hx hZ e0 V2 (hb hby d12_3) ?_
  refine Go.icmpYes X0 hx (hb hby d12_4) (by decide) (q := 9) (by decide) (by decide) ?_
  refine Go.aloadN X0 hx (hb hby d12_9) rfl rfl (q := 10) rfl ?_
  refine Go.alen X0 hx hZ e0 V1 (hb hby d12_10) ?_
  refine Go.ifNo X0 hx (hb hby d12_11) (by decide) (q := 14) rfl ?_
  refine Go.aloadN X0 hx (hb hby d12_14) rfl rfl (q := 15) rfl ?_
  refine Go.iconst X0 hx (hb hby d12_15) (r := (0 : Int32)) rfl (q := 16) rfl ?_
  refine Go.bal X0 hx hZ e0 V1 ⟨by decide, by decide⟩ (v := (.int x0)) rfl (hb hby d12_16) ?_
  refine Go.aloadN X0 hx (hb hby d12_17) rfl rfl (q := 18) rfl ?_
  refine Go.iconst X0 hx (hb hby d12_18) (r := (0 : Int32)) rfl (q := 19) rfl ?_
  refine Go.bal X0 hx hZ e0 V2 ⟨by decide, by decide⟩ (v := (.int y0)) rfl (hb hby d12_19) ?_
  refine Go.icmpNo X0 hx (hb hby d12_20) (Jvm.Free.XT.ii_eq_f ne) (q := 23) rfl ?_
  refine Go.iconst X0 hx (hb hby d12_23) (r := (0 : Int32)) rfl (q := 24) rfl ?_
  exact Go.retI X0 hx hret hlk (by simp) rfl (hb hby d12_24) e0 (by decide) (by decide) ⟨rfl, N0, rfl⟩
def Q_chs3_0 (Z : State) (o : Addr) (q : Addr) (c1 : Addr) (c2 : Addr) (k1 : ClassId) (k2 : ClassId) (x0 : Int32) (x1 : Int32) (x2 : Int32) (y0 : Int32) (y1 : Int32) (y2 : Int32) (h0 : Heap) (vR : Option Value) (hR : Heap) (LR : List Loc) : Prop := vR = some (.int (0 : Int32)) ∧ Fr Z.heap.size LR ∧ hR = h0
set_option maxRecDepth 65536 in
set_option maxHeartbeats 40000000 in
theorem chs3_0 (l : Launch) (Z : State) (a0 : Array Value) (hw : ∀ d ∈ tables_1, d.before a0 Z = true) (o : Addr) (q : Addr) (c1 : Addr) (c2 : Addr) (k1 : ClassId) (k2 : ClassId) (x0 : Int32) (x1 : Int32) (x2 : Int32) (y0 : Int32) (y1 : Int32) (y2 : Int32) (h0 : Heap) (O0 : Ext Z.heap h0) (Fo : Fld Z h0 o "com/example/match_before_write/matchbeforewrite/Representation" "content" "[B" (.ref c1)) (Fq : Fld Z h0 q "com/example/match_before_write/matchbeforewrite/Representation" "content" "[B" (.ref c2)) (V1 : Arv Z h0 c1 k1 .byte (3 : Int32) [(.int x0), (.int x1), (.int x2)] (.int (0 : Int32))) (V2 : Arv Z h0 c2 k2 .byte (3 : Int32) [(.int y0), (.int y1), (.int y2)] (.int (0 : Int32))) (nn : c1 ≠ c2) (ne : ¬ (x0 = y0)) :
    Ctr l Z h0 (⟨"com/example/match_before_write/matchbeforewrite/Representation", "hasSameBytesAs", "(Lcom/example/match_before_write/matchbeforewrite/Representation;)Z"⟩ : MethodName) prog_13_method_13_code 2 (some .boolean) [] ({ frames := 2, cells := 0, slots := 0, locals := 29 } : Room) #[(.ref o), (.ref q)] (Q_chs3_0 Z o q c1 c2 k1 k2 x0 x1 x2 y0 y1 y2 h0) := by
  refine enter (plainFor_of_name pn1) ?_
  intro pp ee ss mm below meth cc s₁ hx hby hml hZ hown hnm hret hlk X0 e0 hs0
  replace hown : ss.vm.findClass "com/example/match_before_write/matchbeforewrite/Representation" = some mm.cls := hown
  refine Go.cast (congrArg s₁.setTop (ef_chs3_0 mm o q)) ?_
  have N0 := Fr.nil Z.heap.size
  show Go pp ee below _ (s₁.setTop (mkF mm 0 #[.val (.ref o), .val (.ref q)] []))
  refine Go.aloadN X0 hx (hb hby d9_0) rfl rfl (q := 1) rfl ?_
  refine Go.getF X0 hx hZ hown (host := "") (Or.inl (wd26 hw)) Via.refl e0 Fo (hb hby d9_1) (q := 4) rfl ?_
  intro T101 X101 e101
  refine Go.aloadN X101 hx (hb hby d9_4) rfl rfl (q := 5) rfl ?_
  refine Go.getF X101 hx hZ hown (host := "") (Or.inl (wd26 hw)) Via.refl e101 Fq (hb hby d9_5) (q := 8) rfl ?_
  intro T102 X102 e102
  refine Go.callS X102 hx hZ hown (wd61 hw) (wd62 hw) (wd63 hw) (wd64 hw) (by decide) (ceq3_0 l Z a0 hw c1 c2 (k1) (k2) x0 x1 x2 y0 y1 y2 h0 O0 V1 V2 nn ne) e102 (by rw [hml]; rfl) (hb hby d9_8) (argsL := [(.ref c1), (.ref c2)]) (rest := []) (lenOf pd2 rfl) rfl rfl (W := 0) (by first | exact Nat.le_refl _ | decide) (by decide) (by decide) (by decide) (by decide) ?_
  intro v103 T103 L103 X103 hQ103
  obtain ⟨rfl, N103q, e103⟩ := hQ103
  have N103 := Fr.app N0 N103q
  exact Go.retI X103 hx hret hlk (by simp) rfl (hb hby d9_11) e103 (by decide) (by decide) ⟨rfl, N103, rfl⟩
def Q_ceqd3_0 (Z : State) (c1 : Addr) (c2 : Addr) (k1 : ClassId) (k2 : ClassId) (x0 : Int32) (x1 : Int32) (x2 : Int32) (h0 : Heap) (vR : Option Value) (hR : Heap) (LR : List Loc) : Prop := vR = some (.int (0 : Int32)) ∧ Fr Z.heap.size LR ∧ hR = h0
set_option maxRecDepth 65536 in
set_option maxHeartbeats 40000000 in
theorem ceqd3_0 (l : Launch) (Z : State) (a0 : Array Value) (hw : ∀ d ∈ tables_1, d.before a0 Z = true) (c1 : Addr) (c2 : Addr) (k1 : ClassId) (k2 : ClassId) (x0 : Int32) (x1 : Int32) (x2 : Int32) (h0 : Heap) (O0 : Ext Z.heap h0) (V1 : Arv Z h0 c1 k1 .byte (3 : Int32) [(.int x0), (.int x1), (.int x2)] (.int (0 : Int32))) (V2 : Arv Z h0 c2 k2 .byte (0 : Int32) [] (.int (0 : Int32))) (nn : c1 ≠ c2) :
    Ctr l Z h0 (⟨"java/util/Arrays", "equals", "([B[B)Z"⟩ : MethodName) jdk_65_method_89_code 3 (some .boolean) [] ({ frames := 0, cells := 0, slots := 0, locals := 0 } : Room) #[(.ref c1), (.ref c2)] (Q_ceqd3_0 Z c1 c2 k1 k2 x0 x1 x2 h0) := by
  refine enter (plainFor_of_name pn3) ?_
  intro pp ee ss mm below meth cc s₁ hx hby hml hZ hown hnm hret hlk X0 e0 hs0
  replace hown : ss.vm.findClass "java/util/Arrays" = some mm.cls := hown
  refine Go.cast (congrArg s₁.setTop (ef_ceqd3_0 mm c1 c2)) ?_
  have N0 := Fr.nil Z.heap.size
  show Go pp ee below _ (s₁.setTop (mkF mm 0 #[.val (.ref c1), .val (.ref c2), .unset] []))
  refine Go.aloadN X0 hx (hb hby d10_0) rfl rfl (q := 1) rfl ?_
  refine Go.aloadN X0 hx (hb hby d10_1) rfl rfl (q := 2) rfl ?_
  refine Go.acmp X0 hx rfl rfl (hb hby d10_2) (same := false) (decide_eq_false fun q => nn (Value.ref.inj q)) (q := 7) (by decide) (by decide) ?_
  refine Go.aloadN X0 hx (hb hby d10_7) rfl rfl (q := 8) rfl ?_
  refine Go.ifnullNo X0 hx (hb hby d10_8) (q := 11) rfl ?_
  refine Go.aloadN X0 hx (hb hby d10_11) rfl rfl (q := 12) rfl ?_
  refine Go.ifnonnullYes X0 hx (hb hby d10_12) (q := 17) (by decide) (by decide) ?_
  refine Go.aloadN X0 hx (hb hby d10_17) rfl rfl (q := 18) rfl ?_
  refine Go.alen X0 hx hZ e0 V1 (hb hby d10_18) ?_
  refine Go.istoreN X0 hx (hb hby d10_19) (l' := #[.val (.ref c1), .val (.ref c2), .val (.int (3 : Int32))]) rfl (q := 20) rfl ?_
  refine Go.aloadN X0 hx (hb hby d10_20) rfl rfl (q := 21) rfl ?_
  refine Go.alen X0 hx hZ e0 V2 (hb hby d10_21) ?_
  refine Go.iloadN X0 hx (hb hby d10_22) rfl (q := 23) rfl ?_
  refine Go.icmpNo X0 hx (hb hby d10_23) (by decide) (q := 26) rfl ?_
  refine Go.iconst X0 hx (hb hby d10_26) (r := (0 : Int32)) rfl (q := 27) rfl ?_
  exact Go.retI X0 hx hret hlk (by simp) rfl (hb hby d10_27) e0 (by decide) (by decide) ⟨rfl, N0, rfl⟩
def Q_csamd3_0 (Z : State) (c1 : Addr) (c2 : Addr) (k1 : ClassId) (k2 : ClassId) (x0 : Int32) (x1 : Int32) (x2 : Int32) (h0 : Heap) (vR : Option Value) (hR : Heap) (LR : List Loc) : Prop := vR = some (.int (0 : Int32)) ∧ Fr Z.heap.size LR ∧ hR = h0
set_option maxRecDepth 65536 in
set_option maxHeartbeats 40000000 in
theorem csamd3_0 (l : Launch) (Z : State) (a0 : Array Value) (hw : ∀ d ∈ tables_1, d.before a0 Z = true) (c1 : Addr) (c2 : Addr) (k1 : ClassId) (k2 : ClassId) (x0 : Int32) (x1 : Int32) (x2 : Int32) (h0 : Heap) (O0 : Ext Z.heap h0) (V1 : Arv Z h0 c1 k1 .byte (3 : Int32) [(.int x0), (.int x1), (.int x2)] (.int (0 : Int32))) (V2 : Arv Z h0 c2 k2 .byte (0 : Int32) [] (.int (0 : Int32))) :
    Ctr l Z h0 (⟨"com/example/match_before_write/matchbeforewrite/RepresentationOfPinLaw", "same", "([B[B)Z"⟩ : MethodName) method_3_code 2 (some .boolean) [] ({ frames := 0, cells := 0, slots := 0, locals := 0 } : Room) #[(.ref c1), (.ref c2)] (Q_csamd3_0 Z c1 c2 k1 k2 x0 x1 x2 h0) := by
  refine enter (plainFor_of_name pn0) ?_
  intro pp ee ss mm below meth cc s₁ hx hby hml hZ hown hnm hret hlk X0 e0 hs0
  replace hown : ss.vm.findClass "com/example/match_before_write/matchbeforewrite/RepresentationOfPinLaw" = some mm.cls := hown
  refine Go.cast (congrArg s₁.setTop (ef_csamd3_0 mm c1 c2)) ?_
  have N0 := Fr.nil Z.heap.size
  show Go pp ee below _ (s₁.setTop (mkF mm 0 #[.val (.ref c1), .val (.ref c2)] []))
  refine Go.aloadN X0 hx (hb hby d12_0) rfl rfl (q := 1) rfl ?_
  refine Go.alen X0 hx hZ e0 V1 (hb hby d12_1) ?_
  refine Go.aloadN X0 hx (hb hby d12_2) rfl rfl (q := 3) rfl ?_
  refine Go.alen X0 hx hZ e0 V2 (hb hby d12_3) ?_
  refine Go.icmpNo X0 hx (hb hby d12_4) (by decide) (q := 7) rfl ?_
  refine Go.iconst X0 hx (hb hby d12_7) (r := (0 : Int32)) rfl (q := 8) rfl ?_
  exact Go.retI X0 hx hret hlk (by simp) rfl (hb hby d12_8) e0 (by decide) (by decide) ⟨rfl, N0, rfl⟩
def Q_chsd3_0 (Z : State) (o : Addr) (q : Addr) (c1 : Addr) (c2 : Addr) (k1 : ClassId) (k2 : ClassId) (x0 : Int32) (x1 : Int32) (x2 : Int32) (h0 : Heap) (vR : Option Value) (hR : Heap) (LR : List Loc) : Prop := vR = some (.int (0 : Int32)) ∧ Fr Z.heap.size LR ∧ hR = h0
set_option maxRecDepth 65536 in
set_option maxHeartbeats 40000000 in
theorem chsd3_0 (l : Launch) (Z : State) (a0 : Array Value) (hw : ∀ d ∈ tables_1, d.before a0 Z = true) (o : Addr) (q : Addr) (c1 : Addr) (c2 : Addr) (k1 : ClassId) (k2 : ClassId) (x0 : Int32) (x1 : Int32) (x2 : Int32) (h0 : Heap) (O0 : Ext Z.heap h0) (Fo : Fld Z h0 o "com/example/match_before_write/matchbeforewrite/Representation" "content" "[B" (.ref c1)) (Fq : Fld Z h0 q "com/example/match_before_write/matchbeforewrite/Representation" "content" "[B" (.ref c2)) (V1 : Arv Z h0 c1 k1 .byte (3 : Int32) [(.int x0), (.int x1), (.int x2)] (.int (0 : Int32))) (V2 : Arv Z h0 c2 k2 .byte (0 : Int32) [] (.int (0 : Int32))) (nn : c1 ≠ c2) :
    Ctr l Z h0 (⟨"com/example/match_before_write/matchbeforewrite/Representation", "hasSameBytesAs", "(Lcom/example/match_before_write/matchbeforewrite/Representation;)Z"⟩ : MethodName) prog_13_method_13_code 2 (some .boolean) [] ({ frames := 1, cells := 0, slots := 0, locals := 14 } : Room) #[(.ref o), (.ref q)] (Q_chsd3_0 Z o q c1 c2 k1 k2 x0 x1 x2 h0) := by
  refine enter (plainFor_of_name pn1) ?_
  intro pp ee ss mm below meth cc s₁ hx hby hml hZ hown hnm hret hlk X0 e0 hs0
  replace hown : ss.vm.findClass "com/example/match_before_write/matchbeforewrite/Representation" = some mm.cls := hown
  refine Go.cast (congrArg s₁.setTop (ef_chsd3_0 mm o q)) ?_
  have N0 := Fr.nil Z.heap.size
  show Go pp ee below _ (s₁.setTop (mkF mm 0 #[.val (.ref o), .val (.ref q)] []))
  refine Go.aloadN X0 hx (hb hby d9_0) rfl rfl (q := 1) rfl ?_
  refine Go.getF X0 hx hZ hown (host := "") (Or.inl (wd26 hw)) Via.refl e0 Fo (hb hby d9_1) (q := 4) rfl ?_
  intro T101 X101 e101
  refine Go.aloadN X101 hx (hb hby d9_4) rfl rfl (q := 5) rfl ?_
  refine Go.getF X101 hx hZ hown (host := "") (Or.inl (wd26 hw)) Via.refl e101 Fq (hb hby d9_5) (q := 8) rfl ?_
  intro T102 X102 e102
  refine Go.callS X102 hx hZ hown (wd61 hw) (wd62 hw) (wd63 hw) (wd64 hw) (by decide) (ceqd3_0 l Z a0 hw c1 c2 (k1) (k2) x0 x1 x2 h0 O0 V1 V2 nn) e102 (by rw [hml]; rfl) (hb hby d9_8) (argsL := [(.ref c1), (.ref c2)]) (rest := []) (lenOf pd2 rfl) rfl rfl (W := 0) (by first | exact Nat.le_refl _ | decide) (by decide) (by decide) (by decide) (by decide) ?_
  intro v103 T103 L103 X103 hQ103
  obtain ⟨rfl, N103q, e103⟩ := hQ103
  have N103 := Fr.app N0 N103q
  exact Go.retI X103 hx hret hlk (by simp) rfl (hb hby d9_11) e103 (by decide) (by decide) ⟨rfl, N103, rfl⟩
def Q_ceqd3_1 (Z : State) (c1 : Addr) (c2 : Addr) (k1 : ClassId) (k2 : ClassId) (x0 : Int32) (x1 : Int32) (x2 : Int32) (y0 : Int32) (h0 : Heap) (vR : Option Value) (hR : Heap) (LR : List Loc) : Prop := vR = some (.int (0 : Int32)) ∧ Fr Z.heap.size LR ∧ hR = h0
set_option maxRecDepth 65536 in
set_option maxHeartbeats 40000000 in
theorem ceqd3_1 (l : Launch) (Z : State) (a0 : Array Value) (hw : ∀ d ∈ tables_1, d.before a0 Z = true) (c1 : Addr) (c2 : Addr) (k1 : ClassId) (k2 : ClassId) (x0 : Int32) (x1 : Int32) (x2 : Int32) (y0 : Int32) (h0 : Heap) (O0 : Ext Z.heap h0) (V1 : Arv Z h0 c1 k1 .byte (3 : Int32) [(.int x0), (.int x1), (.int x2)] (.int (0 : Int32))) (V2 : Arv Z h0 c2 k2 .byte (1 : Int32) [(.int y0)] (.int (0 : Int32))) (nn : c1 ≠ c2) :
    Ctr l Z h0 (⟨"java/util/Arrays", "equals", "([B[B)Z"⟩ : MethodName) jdk_65_method_89_code 3 (some .boolean) [] ({ frames := 0, cells := 0, slots := 0, locals := 0 } : Room) #[(.ref c1), (.ref c2)] (Q_ceqd3_1 Z c1 c2 k1 k2 x0 x1 x2 y0 h0) := by
  refine enter (plainFor_of_name pn3) ?_
  intro pp ee ss mm below meth cc s₁ hx hby hml hZ hown hnm hret hlk X0 e0 hs0
  replace hown : ss.vm.findClass "java/util/Arrays" = some mm.cls := hown
  refine Go.cast (congrArg s₁.setTop (ef_ceqd3_1 mm c1 c2)) ?_
  have N0 := Fr.nil Z.heap.size
  show Go pp ee below _ (s₁.setTop (mkF mm 0 #[.val (.ref c1), .val (.ref c2), .unset] []))
  refine Go.aloadN X0 hx (hb hby d10_0) rfl rfl (q := 1) rfl ?_
  refine Go.aloadN X0 hx (hb hby d10_1) rfl rfl (q := 2) rfl ?_
  refine Go.acmp X0 hx rfl rfl (hb hby d10_2) (same := false) (decide_eq_false fun q => nn (Value.ref.inj q)) (q := 7) (by decide) (by decide) ?_
  refine Go.aloadN X0 hx (hb hby d10_7) rfl rfl (q := 8) rfl ?_
  refine Go.ifnullNo X0 hx (hb hby d10_8) (q := 11) rfl ?_
  refine Go.aloadN X0 hx (hb hby d10_11) rfl rfl (q := 12) rfl ?_
  refine Go.ifnonnullYes X0 hx (hb hby d10_12) (q := 17) (by decide) (by decide) ?_
  refine Go.aloadN X0 hx (hb hby d10_17) rfl rfl (q := 18) rfl ?_
  refine Go.alen X0 hx hZ e0 V1 (hb hby d10_18) ?_
  refine Go.istoreN X0 hx (hb hby d10_19) (l' := #[.val (.ref c1), .val (.ref c2), .val (.int (3 : Int32))]) rfl (q := 20) rfl ?_
  refine Go.aloadN X0 hx (hb hby d10_20) rfl rfl (q := 21) rfl ?_
  refine Go.alen X0 hx hZ e0 V2 (hb hby d10_21) ?_
  refine Go.iloadN X0 hx (hb hby d10_22) rfl (q := 23) rfl ?_
  refine Go.icmpNo X0 hx (hb hby d10_23) (by decide) (q := 26) rfl ?_
  refine Go.iconst X0 hx (hb hby d10_26) (r := (0 : Int32)) rfl (q := 27) rfl ?_
  exact Go.retI X0 hx hret hlk (by simp) rfl (hb hby d10_27) e0 (by decide) (by decide) ⟨rfl, N0, rfl⟩
def Q_csamd3_1 (Z : State) (c1 : Addr) (c2 : Addr) (k1 : ClassId) (k2 : ClassId) (x0 : Int32) (x1 : Int32) (x2 : Int32) (y0 : Int32) (h0 : Heap) (vR : Option Value) (hR : Heap) (LR : List Loc) : Prop := vR = some (.int (0 : Int32)) ∧ Fr Z.heap.size LR ∧ hR = h0
set_option maxRecDepth 65536 in
set_option maxHeartbeats 40000000 in
theorem csamd3_1 (l : Launch) (Z : State) (a0 : Array Value) (hw : ∀ d ∈ tables_1, d.before a0 Z = true) (c1 : Addr) (c2 : Addr) (k1 : ClassId) (k2 : ClassId) (x0 : Int32) (x1 : Int32) (x2 : Int32) (y0 : Int32) (h0 : Heap) (O0 : Ext Z.heap h0) (V1 : Arv Z h0 c1 k1 .byte (3 : Int32) [(.int x0), (.int x1), (.int x2)] (.int (0 : Int32))) (V2 : Arv Z h0 c2 k2 .byte (1 : Int32) [(.int y0)] (.int (0 : Int32))) :
    Ctr l Z h0 (⟨"com/example/match_before_write/matchbeforewrite/RepresentationOfPinLaw", "same", "([B[B)Z"⟩ : MethodName) method_3_code 2 (some .boolean) [] ({ frames := 0, cells := 0, slots := 0, locals := 0 } : Room) #[(.ref c1), (.ref c2)] (Q_csamd3_1 Z c1 c2 k1 k2 x0 x1 x2 y0 h0) := by
  refine enter (plainFor_of_name pn0) ?_
  intro pp ee ss mm below meth cc s₁ hx hby hml hZ hown hnm hret hlk X0 e0 hs0
  replace hown : ss.vm.findClass "com/example/match_before_write/matchbeforewrite/RepresentationOfPinLaw" = some mm.cls := hown
  refine Go.cast (congrArg s₁.setTop (ef_csamd3_1 mm c1 c2)) ?_
  have N0 := Fr.nil Z.heap.size
  show Go pp ee below _ (s₁.setTop (mkF mm 0 #[.val (.ref c1), .val (.ref c2)] []))
  refine Go.aloadN X0 hx (hb hby d12_0) rfl rfl (q := 1) rfl ?_
  refine Go.alen X0 hx hZ e0 V1 (hb hby d12_1) ?_
  refine Go.aloadN X0 hx (hb hby d12_2) rfl rfl (q := 3) rfl ?_
  refine Go.alen X0 hx hZ e0 V2 (hb hby d12_3) ?_
  refine Go.icmpNo X0 hx (hb hby d12_4) (by decide) (q := 7) rfl ?_
  refine Go.iconst X0 hx (hb hby d12_7) (r := (0 : Int32)) rfl (q := 8) rfl ?_
  exact Go.retI X0 hx hret hlk (by simp) rfl (hb hby d12_8) e0 (by decide) (by decide) ⟨rfl, N0, rfl⟩
def Q_chsd3_1 (Z : State) (o : Addr) (q : Addr) (c1 : Addr) (c2 : Addr) (k1 : ClassId) (k2 : ClassId) (x0 : Int32) (x1 : Int32) (x2 : Int32) (y0 : Int32) (h0 : Heap) (vR : Option Value) (hR : Heap) (LR : List Loc) : Prop := vR = some (.int (0 : Int32)) ∧ Fr Z.heap.size LR ∧ hR = h0
set_option maxRecDepth 65536 in
set_option maxHeartbeats 40000000 in
theorem chsd3_1 (l : Launch) (Z : State) (a0 : Array Value) (hw : ∀ d ∈ tables_1, d.before a0 Z = true) (o : Addr) (q : Addr) (c1 : Addr) (c2 : Addr) (k1 : ClassId) (k2 : ClassId) (x0 : Int32) (x1 : Int32) (x2 : Int32) (y0 : Int32) (h0 : Heap) (O0 : Ext Z.heap h0) (Fo : Fld Z h0 o "com/example/match_before_write/matchbeforewrite/Representation" "content" "[B" (.ref c1)) (Fq : Fld Z h0 q "com/example/match_before_write/matchbeforewrite/Representation" "content" "[B" (.ref c2)) (V1 : Arv Z h0 c1 k1 .byte (3 : Int32) [(.int x0), (.int x1), (.int x2)] (.int (0 : Int32))) (V2 : Arv Z h0 c2 k2 .byte (1 : Int32) [(.int y0)] (.int (0 : Int32))) (nn : c1 ≠ c2) :
    Ctr l Z h0 (⟨"com/example/match_before_write/matchbeforewrite/Representation", "hasSameBytesAs", "(Lcom/example/match_before_write/matchbeforewrite/Representation;)Z"⟩ : MethodName) prog_13_method_13_code 2 (some .boolean) [] ({ frames := 1, cells := 0, slots := 0, locals := 14 } : Room) #[(.ref o), (.ref q)] (Q_chsd3_1 Z o q c1 c2 k1 k2 x0 x1 x2 y0 h0) := by
  refine enter (plainFor_of_name pn1) ?_
  intro pp ee ss mm below meth cc s₁ hx hby hml hZ hown hnm hret hlk X0 e0 hs0
  replace hown : ss.vm.findClass "com/example/match_before_write/matchbeforewrite/Representation" = some mm.cls := hown
  refine Go.cast (congrArg s₁.setTop (ef_chsd3_1 mm o q)) ?_
  have N0 := Fr.nil Z.heap.size
  show Go pp ee below _ (s₁.setTop (mkF mm 0 #[.val (.ref o), .val (.ref q)] []))
  refine Go.aloadN X0 hx (hb hby d9_0) rfl rfl (q := 1) rfl ?_
  refine Go.getF X0 hx hZ hown (host := "") (Or.inl (wd26 hw)) Via.refl e0 Fo (hb hby d9_1) (q := 4) rfl ?_
  intro T101 X101 e101
  refine Go.aloadN X101 hx (hb hby d9_4) rfl rfl (q := 5) rfl ?_
  refine Go.getF X101 hx hZ hown (host := "") (Or.inl (wd26 hw)) Via.refl e101 Fq (hb hby d9_5) (q := 8) rfl ?_
  intro T102 X102 e102
  refine Go.callS X102 hx hZ hown (wd61 hw) (wd62 hw) (wd63 hw) (wd64 hw) (by decide) (ceqd3_1 l Z a0 hw c1 c2 (k1) (k2) x0 x1 x2 y0 h0 O0 V1 V2 nn) e102 (by rw [hml]; rfl) (hb hby d9_8) (argsL := [(.ref c1), (.ref c2)]) (rest := []) (lenOf pd2 rfl) rfl rfl (W := 0) (by first | exact Nat.le_refl _ | decide) (by decide) (by decide) (by decide) (by decide) ?_
  intro v103 T103 L103 X103 hQ103
  obtain ⟨rfl, N103q, e103⟩ := hQ103
  have N103 := Fr.app N0 N103q
  exact Go.retI X103 hx hret hlk (by simp) rfl (hb hby d9_11) e103 (by decide) (by decide) ⟨rfl, N103, rfl⟩
def Q_ceqd3_2 (Z : State) (c1 : Addr) (c2 : Addr) (k1 : ClassId) (k2 : ClassId) (x0 : Int32) (x1 : Int32) (x2 : Int32) (y0 : Int32) (y1 : Int32) (h0 : Heap) (vR : Option Value) (hR : Heap) (LR : List Loc) : Prop := vR = some (.int (0 : Int32)) ∧ Fr Z.heap.size LR ∧ hR = h0
set_option maxRecDepth 65536 in
set_option maxHeartbeats 40000000 in
theorem ceqd3_2 (l : Launch) (Z : State) (a0 : Array Value) (hw : ∀ d ∈ tables_1, d.before a0 Z = true) (c1 : Addr) (c2 : Addr) (k1 : ClassId) (k2 : ClassId) (x0 : Int32) (x1 : Int32) (x2 : Int32) (y0 : Int32) (y1 : Int32) (h0 : Heap) (O0 : Ext Z.heap h0) (V1 : Arv Z h0 c1 k1 .byte (3 : Int32) [(.int x0), (.int x1), (.int x2)] (.int (0 : Int32))) (V2 : Arv Z h0 c2 k2 .byte (2 : Int32) [(.int y0), (.int y1)] (.int (0 : Int32))) (nn : c1 ≠ c2) :
    Ctr l Z h0 (⟨"java/util/Arrays", "equals", "([B[B)Z"⟩ : MethodName) jdk_65_method_89_code 3 (some .boolean) [] ({ frames := 0, cells := 0, slots := 0, locals := 0 } : Room) #[(.ref c1), (.ref c2)] (Q_ceqd3_2 Z c1 c2 k1 k2 x0 x1 x2 y0 y1 h0) := by
  refine enter (plainFor_of_name pn3) ?_
  intro pp ee ss mm below meth cc s₁ hx hby hml hZ hown hnm hret hlk X0 e0 hs0
  replace hown : ss.vm.findClass "java/util/Arrays" = some mm.cls := hown
  refine Go.cast (congrArg s₁.setTop (ef_ceqd3_2 mm c1 c2)) ?_
  have N0 := Fr.nil Z.heap.size
  show Go pp ee below _ (s₁.setTop (mkF mm 0 #[.val (.ref c1), .val (.ref c2), .unset] []))
  refine Go.aloadN X0 hx (hb hby d10_0) rfl rfl (q := 1) rfl ?_
  refine Go.aloadN X0 hx (hb hby d10_1) rfl rfl (q := 2) rfl ?_
  refine Go.acmp X0 hx rfl rfl (hb hby d10_2) (same := false) (decide_eq_false fun q => nn (Value.ref.inj q)) (q := 7) (by decide) (by decide) ?_
  refine Go.aloadN X0 hx (hb hby d10_7) rfl rfl (q := 8) rfl ?_
  refine Go.ifnullNo X0 hx (hb hby d10_8) (q := 11) rfl ?_
  refine Go.aloadN X0 hx (hb hby d10_11) rfl rfl (q := 12) rfl ?_
  refine Go.ifnonnullYes X0 hx (hb hby d10_12) (q := 17) (by decide) (by decide) ?_
  refine Go.aloadN X0 hx (hb hby d10_17) rfl rfl (q := 18) rfl ?_
  refine Go.alen X0 hx hZ e0 V1 (hb hby d10_18) ?_
  refine Go.istoreN X0 hx (hb hby d10_19) (l' := #[.val (.ref c1), .val (.ref c2), .val (.int (3 : Int32))]) rfl (q := 20) rfl ?_
  refine Go.aloadN X0 hx (hb hby d10_20) rfl rfl (q := 21) rfl ?_
  refine Go.alen X0 hx hZ e0 V2 (hb hby d10_21) ?_
  refine Go.iloadN X0 hx (hb hby d10_22) rfl (q := 23) rfl ?_
  refine Go.icmpNo X0 hx (hb hby d10_23) (by decide) (q := 26) rfl ?_
  refine Go.iconst X0 hx (hb hby d10_26) (r := (0 : Int32)) rfl (q := 27) rfl ?_
  exact Go.retI X0 hx hret hlk (by simp) rfl (hb hby d10_27) e0 (by decide) (by decide) ⟨rfl, N0, rfl⟩
def Q_csamd3_2 (Z : State) (c1 : Addr) (c2 : Addr) (k1 : ClassId) (k2 : ClassId) (x0 : Int32) (x1 : Int32) (x2 : Int32) (y0 : Int32) (y1 : Int32) (h0 : Heap) (vR : Option Value) (hR : Heap) (LR : List Loc) : Prop := vR = some (.int (0 : Int32)) ∧ Fr Z.heap.size LR ∧ hR = h0
set_option maxRecDepth 65536 in
set_option maxHeartbeats 40000000 in
theorem csamd3_2 (l : Launch) (Z : State) (a0 : Array Value) (hw : ∀ d ∈ tables_1, d.before a0 Z = true) (c1 : Addr) (c2 : Addr) (k1 : ClassId) (k2 : ClassId) (x0 : Int32) (x1 : Int32) (x2 : Int32) (y0 : Int32) (y1 : Int32) (h0 : Heap) (O0 : Ext Z.heap h0) (V1 : Arv Z h0 c1 k1 .byte (3 : Int32) [(.int x0), (.int x1), (.int x2)] (.int (0 : Int32))) (V2 : Arv Z h0 c2 k2 .byte (2 : Int32) [(.int y0), (.int y1)] (.int (0 : Int32))) :
    Ctr l Z h0 (⟨"com/example/match_before_write/matchbeforewrite/RepresentationOfPinLaw", "same", "([B[B)Z"⟩ : MethodName) method_3_code 2 (some .boolean) [] ({ frames := 0, cells := 0, slots := 0, locals := 0 } : Room) #[(.ref c1), (.ref c2)] (Q_csamd3_2 Z c1 c2 k1 k2 x0 x1 x2 y0 y1 h0) := by
  refine enter (plainFor_of_name pn0) ?_
  intro pp ee ss mm below meth cc s₁ hx hby hml hZ hown hnm hret hlk X0 e0 hs0
  replace hown : ss.vm.findClass "com/example/match_before_write/matchbeforewrite/RepresentationOfPinLaw" = some mm.cls := hown
  refine Go.cast (congrArg s₁.setTop (ef_csamd3_2 mm c1 c2)) ?_
  have N0 := Fr.nil Z.heap.size
  show Go pp ee below _ (s₁.setTop (mkF mm 0 #[.val (.ref c1), .val (.ref c2)] []))
  refine Go.aloadN X0 hx (hb hby d12_0) rfl rfl (q := 1) rfl ?_
  refine Go.alen X0 hx hZ e0 V1 (hb hby d12_1) ?_
  refine Go.aloadN X0 hx (hb hby d12_2) rfl rfl (q := 3) rfl ?_
  refine Go.alen X0 hx hZ e0 V2 (hb hby d12_3) ?_
  refine Go.icmpNo X0 hx (hb hby d12_4) (by decide) (q := 7) rfl ?_
  refine Go.iconst X0 hx (hb hby d12_7) (r := (0 : Int32)) rfl (q := 8) rfl ?_
  exact Go.retI X0 hx hret hlk (by simp) rfl (hb hby d12_8) e0 (by decide) (by decide) ⟨rfl, N0, rfl⟩
def Q_chsd3_2 (Z : State) (o : Addr) (q : Addr) (c1 : Addr) (c2 : Addr) (k1 : ClassId) (k2 : ClassId) (x0 : Int32) (x1 : Int32) (x2 : Int32) (y0 : Int32) (y1 : Int32) (h0 : Heap) (vR : Option Value) (hR : Heap) (LR : List Loc) : Prop := vR = some (.int (0 : Int32)) ∧ Fr Z.heap.size LR ∧ hR = h0
set_option maxRecDepth 65536 in
set_option maxHeartbeats 40000000 in
theorem chsd3_2 (l : Launch) (Z : State) (a0 : Array Value) (hw : ∀ d ∈ tables_1, d.before a0 Z = true) (o : Addr) (q : Addr) (c1 : Addr) (c2 : Addr) (k1 : ClassId) (k2 : ClassId) (x0 : Int32) (x1 : Int32) (x2 : Int32) (y0 : Int32) (y1 : Int32) (h0 : Heap) (O0 : Ext Z.heap h0) (Fo : Fld Z h0 o "com/example/match_before_write/matchbeforewrite/Representation" "content" "[B" (.ref c1)) (Fq : Fld Z h0 q "com/example/match_before_write/matchbeforewrite/Representation" "content" "[B" (.ref c2)) (V1 : Arv Z h0 c1 k1 .byte (3 : Int32) [(.int x0), (.int x1), (.int x2)] (.int (0 : Int32))) (V2 : Arv Z h0 c2 k2 .byte (2 : Int32) [(.int y0), (.int y1)] (.int (0 : Int32))) (nn : c1 ≠ c2) :
    Ctr l Z h0 (⟨"com/example/match_before_write/matchbeforewrite/Representation", "hasSameBytesAs", "(Lcom/example/match_before_write/matchbeforewrite/Representation;)Z"⟩ : MethodName) prog_13_method_13_code 2 (some .boolean) [] ({ frames := 1, cells := 0, slots := 0, locals := 14 } : Room) #[(.ref o), (.ref q)] (Q_chsd3_2 Z o q c1 c2 k1 k2 x0 x1 x2 y0 y1 h0) := by
  refine enter (plainFor_of_name pn1) ?_
  intro pp ee ss mm below meth cc s₁ hx hby hml hZ hown hnm hret hlk X0 e0 hs0
  replace hown : ss.vm.findClass "com/example/match_before_write/matchbeforewrite/Representation" = some mm.cls := hown
  refine Go.cast (congrArg s₁.setTop (ef_chsd3_2 mm o q)) ?_
  have N0 := Fr.nil Z.heap.size
  show Go pp ee below _ (s₁.setTop (mkF mm 0 #[.val (.ref o), .val (.ref q)] []))
  refine Go.aloadN X0 hx (hb hby d9_0) rfl rfl (q := 1) rfl ?_
  refine Go.getF X0 hx hZ hown (host := "") (Or.inl (wd26 hw)) Via.refl e0 Fo (hb hby d9_1) (q := 4) rfl ?_
  intro T101 X101 e101
  refine Go.aloadN X101 hx (hb hby d9_4) rfl rfl (q := 5) rfl ?_
  refine Go.getF X101 hx hZ hown (host := "") (Or.inl (wd26 hw)) Via.refl e101 Fq (hb hby d9_5) (q := 8) rfl ?_
  intro T102 X102 e102
  refine Go.callS X102 hx hZ hown (wd61 hw) (wd62 hw) (wd63 hw) (wd64 hw) (by decide) (ceqd3_2 l Z a0 hw c1 c2 (k1) (k2) x0 x1 x2 y0 y1 h0 O0 V1 V2 nn) e102 (by rw [hml]; rfl) (hb hby d9_8) (argsL := [(.ref c1), (.ref c2)]) (rest := []) (lenOf pd2 rfl) rfl rfl (W := 0) (by first | exact Nat.le_refl _ | decide) (by decide) (by decide) (by decide) (by decide) ?_
  intro v103 T103 L103 X103 hQ103
  obtain ⟨rfl, N103q, e103⟩ := hQ103
  have N103 := Fr.app N0 N103q
  exact Go.retI X103 hx hret hlk (by simp) rfl (hb hby d9_11) e103 (by decide) (by decide) ⟨rfl, N103, rfl⟩
def Q_law0 (Z : State) (pl : Int32) (pm : Int32) (px : Int32) (py : Int32) (pk : Int32) (h0 : Heap) (vR : Option Value) (hR : Heap) (LR : List Loc) : Prop := vR = some (.int (1 : Int32)) ∧ Fr Z.heap.size LR
set_option maxRecDepth 65536 in
set_option maxHeartbeats 40000000 in
theorem law0 (l : Launch) (Z : State) (a0 : Array Value) (hw : ∀ d ∈ tables_1, d.before a0 Z = true) (pl : Int32) (pm : Int32) (px : Int32) (py : Int32) (pk : Int32) (h0 : Heap) (O0 : Ext Z.heap h0) :
    Ctr l Z h0 x code maxLocals ret tables_1 room_1 #[(.int pl), (.int pm), (.int px), (.int py), (.int pk)] (Q_law0 Z pl pm px py pk h0) := by
  refine enter (plainFor_of_name pn0) ?_
  intro pp ee ss mm below meth cc s₁ hx hby hml hZ hown hnm hret hlk X0 e0 hs0
  replace hown : ss.vm.findClass "com/example/match_before_write/matchbeforewrite/RepresentationOfPinLaw" = some mm.cls := hown
  refine Go.cast (congrArg s₁.setTop (ef_law0 mm pl pm px py pk)) ?_
  have N0 := Fr.nil Z.heap.size
  show Go pp ee below _ (s₁.setTop (mkF mm 0 #[.val (.int pl), .val (.int pm), .val (.int px), .val (.int py), .val (.int pk), .unset, .unset, .unset, .unset, .unset, .unset, .unset, .unset, .unset, .unset, .unset, .unset, .unset, .unset, .unset] []))
  refine Go.iloadN X0 hx (hb hby at_0) rfl (q := 1) rfl ?_
  refine Go.iconst X0 hx (hb hby at_1) (r := (3 : Int32)) rfl (q := 2) rfl ?_
  refine Go.iand X0 hx (hb hby at_2) rfl (q := 3) rfl ?_
  have hk := own_and3 pl
  generalize (pl &&& (3 : Int32)) = k at hk ⊢
  rcases hk with rfl | rfl | rfl | rfl
  · show Go pp ee below _ (s₁.setTop (mkF mm 3 #[.val (.int pl), .val (.int pm), .val (.int px), .val (.int py), .val (.int pk), .unset, .unset, .unset, .unset, .unset, .unset, .unset, .unset, .unset, .unset, .unset, .unset, .unset, .unset, .unset] [(.int (0 : Int32))]))
    refine Go.istore X0 hx (hb hby at_3) (l' := #[.val (.int pl), .val (.int pm), .val (.int px), .val (.int py), .val (.int pk), .val (.int (0 : Int32)), .unset, .unset, .unset, .unset, .unset, .unset, .unset, .unset, .unset, .unset, .unset, .unset, .unset, .unset]) rfl (q := 5) rfl ?_
    refine Go.iloadN X0 hx (hb hby at_5) rfl (q := 6) rfl ?_
    refine Go.iconst X0 hx (hb hby at_6) (r := (3 : Int32)) rfl (q := 7) rfl ?_
    refine Go.iand X0 hx (hb hby at_7) rfl (q := 8) rfl ?_
    have hk := own_and3 pm
    generalize (pm &&& (3 : Int32)) = k at hk ⊢
    rcases hk with rfl | rfl | rfl | rfl
    · show Go pp ee below _ (s₁.setTop (mkF mm 8 #[.val (.int pl), .val (.int pm), .val (.int px), .val (.int py), .val (.int pk), .val (.int (0 : Int32)), .unset, .unset, .unset, .unset, .unset, .unset, .unset, .unset, .unset, .unset, .unset, .unset, .unset, .unset] [(.int (0 : Int32))]))
      refine Go.istore X0 hx (hb hby at_8) (l' := #[.val (.int pl), .val (.int pm), .val (.int px), .val (.int py), .val (.int pk), .val (.int (0 : Int32)), .val (.int (0 : Int32)), .unset, .unset, .unset, .unset, .unset, .unset, .unset, .unset, .unset, .unset, .unset, .unset, .unset]) rfl (q := 10) rfl ?_
      refine Go.iloadN X0 hx (hb hby at_10) rfl (q := 11) rfl ?_
      refine Go.i2b X0 hx (hb hby at_11) rfl (q := 12) rfl ?_
      have hA0 := bb px
      generalize (px.toInt8.toInt32) = A0 at hA0 ⊢
      refine Go.istore X0 hx (hb hby at_12) (l' := #[.val (.int pl), .val (.int pm), .val (.int px), .val (.int py), .val (.int pk), .val (.int (0 : Int32)), .val (.int (0 : Int32)), .val (.int A0), .unset, .unset, .unset, .unset, .unset, .unset, .unset, .unset, .unset, .unset, .unset, .unset]) rfl (q := 14) rfl ?_
      refine Go.iloadN X0 hx (hb hby at_14) rfl (q := 15) rfl ?_
      refine Go.bipush X0 hx (hb hby at_15) (r := (8 : Int32)) rfl (q := 17) rfl ?_
      refine Go.iushr X0 hx (hb hby at_17) rfl (q := 18) rfl ?_
      refine Go.i2b X0 hx (hb hby at_18) rfl (q := 19) rfl ?_
      have hA1 := bb ((px.toUInt32 >>> ((8 : Int32) &&& 31).toUInt32).toInt32)
      generalize (((px.toUInt32 >>> ((8 : Int32) &&& 31).toUInt32).toInt32).toInt8.toInt32) = A1 at hA1 ⊢
      refine Go.istore X0 hx (hb hby at_19) (l' := #[.val (.int pl), .val (.int pm), .val (.int px), .val (.int py), .val (.int pk), .val (.int (0 : Int32)), .val (.int (0 : Int32)), .val (.int A0), .val (.int A1), .unset, .unset, .unset, .unset, .unset, .unset, .unset, .unset, .unset, .unset, .unset]) rfl (q := 21) rfl ?_
      refine Go.iloadN X0 hx (hb hby at_21) rfl (q := 22) rfl ?_
      refine Go.bipush X0 hx (hb hby at_22) (r := (16 : Int32)) rfl (q := 24) rfl ?_
      refine Go.iushr X0 hx (hb hby at_24) rfl (q := 25) rfl ?_
      refine Go.i2b X0 hx (hb hby at_25) rfl (q := 26) rfl ?_
      have hA2 := bb ((px.toUInt32 >>> ((16 : Int32) &&& 31).toUInt32).toInt32)
      generalize (((px.toUInt32 >>> ((16 : Int32) &&& 31).toUInt32).toInt32).toInt8.toInt32) = A2 at hA2 ⊢
      refine Go.istore X0 hx (hb hby at_26) (l' := #[.val (.int pl), .val (.int pm), .val (.int px), .val (.int py), .val (.int pk), .val (.int (0 : Int32)), .val (.int (0 : Int32)), .val (.int A0), .val (.int A1), .val (.int A2), .unset, .unset, .unset, .unset, .unset, .unset, .unset, .unset, .unset, .unset]) rfl (q := 28) rfl ?_
      refine Go.iload X0 hx (hb hby at_28) rfl (q := 30) rfl ?_
      refine Go.iconst X0 hx (hb hby at_30) (r := (1 : Int32)) rfl (q := 31) rfl ?_
      refine Go.iand X0 hx (hb hby at_31) rfl (q := 32) rfl ?_
      have J42 : ∀ (C0 : Int32), (C0.toInt8.toInt32) = C0 → Go pp ee below (KK ss (Q_law0 Z pl pm px py pk h0) room_1.cells room_1.slots) (s₁.setTop (mkF mm 42 #[.val (.int pl), .val (.int pm), .val (.int px), .val (.int py), .val (.int pk), .val (.int (0 : Int32)), .val (.int (0 : Int32)), .val (.int A0), .val (.int A1), .val (.int A2), .unset, .unset, .unset, .unset, .unset, .unset, .unset, .unset, .unset, .unset] [(.int C0)])) := by
        intro C0 hC0
        refine Go.istore X0 hx (hb hby at_42) (l' := #[.val (.int pl), .val (.int pm), .val (.int px), .val (.int py), .val (.int pk), .val (.int (0 : Int32)), .val (.int (0 : Int32)), .val (.int A0), .val (.int A1), .val (.int A2), .val (.int C0), .unset, .unset, .unset, .unset, .unset, .unset, .unset, .unset, .unset]) rfl (q := 44) rfl ?_
        refine Go.iload X0 hx (hb hby at_44) rfl (q := 46) rfl ?_
        refine Go.iconst X0 hx (hb hby at_46) (r := (2 : Int32)) rfl (q := 47) rfl ?_
        refine Go.iand X0 hx (hb hby at_47) rfl (q := 48) rfl ?_
        have J61 : ∀ (C1 : Int32), (C1.toInt8.toInt32) = C1 → Go pp ee below (KK ss (Q_law0 Z pl pm px py pk h0) room_1.cells room_1.slots) (s₁.setTop (mkF mm 61 #[.val (.int pl), .val (.int pm), .val (.int px), .val (.int py), .val (.int pk), .val (.int (0 : Int32)), .val (.int (0 : Int32)), .val (.int A0), .val (.int A1), .val (.int A2), .val (.int C0), .unset, .unset, .unset, .unset, .unset, .unset, .unset, .unset, .unset] [(.int C1)])) := by
          intro C1 hC1
          refine Go.istore X0 hx (hb hby at_61) (l' := #[.val (.int pl), .val (.int pm), .val (.int px), .val (.int py), .val (.int pk), .val (.int (0 : Int32)), .val (.int (0 : Int32)), .val (.int A0), .val (.int A1), .val (.int A2), .val (.int C0), .val (.int C1), .unset, .unset, .unset, .unset, .unset, .unset, .unset, .unset]) rfl (q := 63) rfl ?_
          refine Go.iload X0 hx (hb hby at_63) rfl (q := 65) rfl ?_
          refine Go.iconst X0 hx (hb hby at_65) (r := (4 : Int32)) rfl (q := 66) rfl ?_
          refine Go.iand X0 hx (hb hby at_66) rfl (q := 67) rfl ?_
          have J80 : ∀ (C2 : Int32), (C2.toInt8.toInt32) = C2 → Go pp ee below (KK ss (Q_law0 Z pl pm px py pk h0) room_1.cells room_1.slots) (s₁.setTop (mkF mm 80 #[.val (.int pl), .val (.int pm), .val (.int px), .val (.int py), .val (.int pk), .val (.int (0 : Int32)), .val (.int (0 : Int32)), .val (.int A0), .val (.int A1), .val (.int A2), .val (.int C0), .val (.int C1), .unset, .unset, .unset, .unset, .unset, .unset, .unset, .unset] [(.int C2)])) := by
            intro C2 hC2
            refine Go.istore X0 hx (hb hby at_80) (l' := #[.val (.int pl), .val (.int pm), .val (.int px), .val (.int py), .val (.int pk), .val (.int (0 : Int32)), .val (.int (0 : Int32)), .val (.int A0), .val (.int A1), .val (.int A2), .val (.int C0), .val (.int C1), .val (.int C2), .unset, .unset, .unset, .unset, .unset, .unset, .unset]) rfl (q := 82) rfl ?_
            refine Go.iload X0 hx (hb hby at_82) rfl (q := 84) rfl ?_
            refine Go.iload X0 hx (hb hby at_84) rfl (q := 86) rfl ?_
            refine Go.iload X0 hx (hb hby at_86) rfl (q := 88) rfl ?_
            refine Go.iload X0 hx (hb hby at_88) rfl (q := 90) rfl ?_
            refine Go.callS X0 hx hZ hown (wd0 hw) (wd1 hw) (wd2 hw) (wd3 hw) (by decide) (make0 l Z a0 hw A0 A1 A2 h0 O0 hA0 hA1 hA2) e0 (by rw [hml]; rfl) (hb hby at_90) (argsL := [(.int (0 : Int32)), (.int A0), (.int A1), (.int A2)]) (rest := []) (lenOf pd3 rfl) rfl rfl (W := 0) (by first | exact Nat.le_refl _ | decide) (by decide) (by decide) (by decide) (by decide) ?_
            intro v101 T101 L101 X101 hQ101
            obtain ⟨h101, e101⟩ : ∃ z, T101.heap = z := ⟨_, rfl⟩
            rw [e101] at hQ101
            obtain ⟨b_101, kb_101, rfl, N101q, K101, fr101_b, P101_0, P101_1⟩ := hQ101
            have N101 := Fr.app N0 N101q
            have g_b_101 : Z.heap.size ≤ b_101 := Nat.le_trans O0.1 fr101_b
            have OK101 := ext_keep O0 K101 all0
            refine Go.astore X101 hx (hb hby at_93) rfl (l' := #[.val (.int pl), .val (.int pm), .val (.int px), .val (.int py), .val (.int pk), .val (.int (0 : Int32)), .val (.int (0 : Int32)), .val (.int A0), .val (.int A1), .val (.int A2), .val (.int C0), .val (.int C1), .val (.int C2), .val (.ref b_101), .unset, .unset, .unset, .unset, .unset, .unset]) rfl (q := 95) rfl ?_
            refine Go.iload X101 hx (hb hby at_95) rfl (q := 97) rfl ?_
            refine Go.iload X101 hx (hb hby at_97) rfl (q := 99) rfl ?_
            refine Go.iload X101 hx (hb hby at_99) rfl (q := 101) rfl ?_
            refine Go.iload X101 hx (hb hby at_101) rfl (q := 103) rfl ?_
            refine Go.callS X101 hx hZ hown (wd0 hw) (wd1 hw) (wd2 hw) (wd3 hw) (by decide) (make0 l Z a0 hw A0 A1 A2 h101 OK101 hA0 hA1 hA2) e101 (by rw [hml]; rfl) (hb hby at_103) (argsL := [(.int (0 : Int32)), (.int A0), (.int A1), (.int A2)]) (rest := []) (lenOf pd3 rfl) rfl rfl (W := 0) (by first | exact Nat.le_refl _ | decide) (by decide) (by decide) (by decide) (by decide) ?_
            intro v102 T102 L102 X102 hQ102
            obtain ⟨h102, e102⟩ : ∃ z, T102.heap = z := ⟨_, rfl⟩
            rw [e102] at hQ102
            obtain ⟨b_102, kb_102, rfl, N102q, K102, fr102_b, P102_0, P102_1⟩ := hQ102
            have N102 := Fr.app N101 N102q
            have ne_b_101_b_102 : b_101 ≠ b_102 := ne_new P101_0.lt fr102_b
            have g_b_102 : Z.heap.size ≤ b_102 := Nat.le_trans OK101.1 fr102_b
            replace P101_0 := P101_0.keep K102 nin0
            replace P101_1 := P101_1.keep K102
            have OK102 := ext_keep OK101 K102 all0
            refine Go.astore X102 hx (hb hby at_106) rfl (l' := #[.val (.int pl), .val (.int pm), .val (.int px), .val (.int py), .val (.int pk), .val (.int (0 : Int32)), .val (.int (0 : Int32)), .val (.int A0), .val (.int A1), .val (.int A2), .val (.int C0), .val (.int C1), .val (.int C2), .val (.ref b_101), .val (.ref b_102), .unset, .unset, .unset, .unset, .unset]) rfl (q := 108) rfl ?_
            refine Go.iload X102 hx (hb hby at_108) rfl (q := 110) rfl ?_
            refine Go.iload X102 hx (hb hby at_110) rfl (q := 112) rfl ?_
            refine Go.iload X102 hx (hb hby at_112) rfl (q := 114) rfl ?_
            refine Go.iload X102 hx (hb hby at_114) rfl (q := 116) rfl ?_
            refine Go.callS X102 hx hZ hown (wd0 hw) (wd1 hw) (wd2 hw) (wd3 hw) (by decide) (make0 l Z a0 hw C0 C1 C2 h102 OK102 hC0 hC1 hC2) e102 (by rw [hml]; rfl) (hb hby at_116) (argsL := [(.int (0 : Int32)), (.int C0), (.int C1), (.int C2)]) (rest := []) (lenOf pd3 rfl) rfl rfl (W := 0) (by first | exact Nat.le_refl _ | decide) (by decide) (by decide) (by decide) (by decide) ?_
            intro v103 T103 L103 X103 hQ103
            obtain ⟨h103, e103⟩ : ∃ z, T103.heap = z := ⟨_, rfl⟩
            rw [e103] at hQ103
            obtain ⟨b_103, kb_103, rfl, N103q, K103, fr103_b, P103_0, P103_1⟩ := hQ103
            have N103 := Fr.app N102 N103q
            have ne_b_101_b_103 : b_101 ≠ b_103 := ne_new P101_0.lt fr103_b
            have ne_b_102_b_103 : b_102 ≠ b_103 := ne_new P102_0.lt fr103_b
            have g_b_103 : Z.heap.size ≤ b_103 := Nat.le_trans OK102.1 fr103_b
            replace P101_0 := P101_0.keep K103 nin0
            replace P101_1 := P101_1.keep K103
            replace P102_0 := P102_0.keep K103 nin0
            replace P102_1 := P102_1.keep K103
            have OK103 := ext_keep OK102 K103 all0
            refine Go.astore X103 hx (hb hby at_119) rfl (l' := #[.val (.int pl), .val (.int pm), .val (.int px), .val (.int py), .val (.int pk), .val (.int (0 : Int32)), .val (.int (0 : Int32)), .val (.int A0), .val (.int A1), .val (.int A2), .val (.int C0), .val (.int C1), .val (.int C2), .val (.ref b_101), .val (.ref b_102), .val (.ref b_103), .unset, .unset, .unset, .unset]) rfl (q := 121) rfl ?_
            refine Go.aload X103 hx (hb hby at_121) rfl rfl (q := 123) rfl ?_
            refine Go.callS X103 hx hZ hown (wd5 hw) (wd6 hw) (wd7 hw) (wd8 hw) (by decide) (of0 l Z a0 hw b_101 (kb_101) h103 OK103 P101_0 P101_1) e103 (by rw [hml]; rfl) (hb hby at_123) (argsL := [(.ref b_101)]) (rest := []) (lenOf pd4 rfl) rfl rfl (W := 0) (by first | exact Nat.le_refl _ | decide) (by decide) (by decide) (by decide) (by decide) ?_
            intro v104 T104 L104 X104 hQ104
            obtain ⟨h104, e104⟩ : ∃ z, T104.heap = z := ⟨_, rfl⟩
            rw [e104] at hQ104
            obtain ⟨b_104, cn_104, kc_104, rfl, N104q, K104, fr104_b, fr104_cn, P104_0, P104_1, P104_2, P104_3, P104_4, P104_5⟩ := hQ104
            have N104 := Fr.app N103 N104q
            have ne_b_101_b_104 : b_101 ≠ b_104 := ne_new P101_0.lt fr104_b
            have ne_b_102_b_104 : b_102 ≠ b_104 := ne_new P102_0.lt fr104_b
            have ne_b_103_b_104 : b_103 ≠ b_104 := ne_new P103_0.lt fr104_b
            have g_b_104 : Z.heap.size ≤ b_104 := Nat.le_trans OK103.1 fr104_b
            have ne_b_101_cn_104 : b_101 ≠ cn_104 := ne_new P101_0.lt fr104_cn
            have ne_b_102_cn_104 : b_102 ≠ cn_104 := ne_new P102_0.lt fr104_cn
            have ne_b_103_cn_104 : b_103 ≠ cn_104 := ne_new P103_0.lt fr104_cn
            have g_cn_104 : Z.heap.size ≤ cn_104 := Nat.le_trans OK103.1 fr104_cn
            replace P101_0 := P101_0.keep K104 nin0
            replace P101_1 := P101_1.keep K104
            replace P102_0 := P102_0.keep K104 nin0
            replace P102_1 := P102_1.keep K104
            replace P103_0 := P103_0.keep K104 nin0
            replace P103_1 := P103_1.keep K104
            have OK104 := ext_keep OK103 K104 all0
            refine Go.astore X104 hx (hb hby at_126) rfl (l' := #[.val (.int pl), .val (.int pm), .val (.int px), .val (.int py), .val (.int pk), .val (.int (0 : Int32)), .val (.int (0 : Int32)), .val (.int A0), .val (.int A1), .val (.int A2), .val (.int C0), .val (.int C1), .val (.int C2), .val (.ref b_101), .val (.ref b_102), .val (.ref b_103), .val (.ref b_104), .unset, .unset, .unset]) rfl (q := 128) rfl ?_
            refine Go.iload X104 hx (hb hby at_128) rfl (q := 130) rfl ?_
            refine Go.ifYes X104 hx (hb hby at_130) (by decide) (q := 150) (by decide) (by decide) ?_
            refine Go.aload X104 hx (hb hby at_150) rfl rfl (q := 152) rfl ?_
            refine Go.callS X104 hx hZ hown (wd5 hw) (wd6 hw) (wd7 hw) (wd8 hw) (by decide) (of0 l Z a0 hw b_102 (kb_102) h104 OK104 P102_0 P102_1) e104 (by rw [hml]; rfl) (hb hby at_152) (argsL := [(.ref b_102)]) (rest := []) (lenOf pd4 rfl) rfl rfl (W := 0) (by first | exact Nat.le_refl _ | decide) (by decide) (by decide) (by decide) (by decide) ?_
            intro v105 T105 L105 X105 hQ105
            obtain ⟨h105, e105⟩ : ∃ z, T105.heap = z := ⟨_, rfl⟩
            rw [e105] at hQ105
            obtain ⟨b_105, cn_105, kc_105, rfl, N105q, K105, fr105_b, fr105_cn, P105_0, P105_1, P105_2, P105_3, P105_4, P105_5⟩ := hQ105
            have N105 := Fr.app N104 N105q
            have ne_b_101_b_105 : b_101 ≠ b_105 := ne_new P101_0.lt fr105_b
            have ne_b_102_b_105 : b_102 ≠ b_105 := ne_new P102_0.lt fr105_b
            have ne_b_103_b_105 : b_103 ≠ b_105 := ne_new P103_0.lt fr105_b
            have ne_b_104_b_105 : b_104 ≠ b_105 := ne_new P104_0.lt fr105_b
            have ne_cn_104_b_105 : cn_104 ≠ b_105 := ne_new P104_2.lt fr105_b
            have g_b_105 : Z.heap.size ≤ b_105 := Nat.le_trans OK104.1 fr105_b
            have ne_b_101_cn_105 : b_101 ≠ cn_105 := ne_new P101_0.lt fr105_cn
            have ne_b_102_cn_105 : b_102 ≠ cn_105 := ne_new P102_0.lt fr105_cn
            have ne_b_103_cn_105 : b_103 ≠ cn_105 := ne_new P103_0.lt fr105_cn
            have ne_b_104_cn_105 : b_104 ≠ cn_105 := ne_new P104_0.lt fr105_cn
            have ne_cn_104_cn_105 : cn_104 ≠ cn_105 := ne_new P104_2.lt fr105_cn
            have g_cn_105 : Z.heap.size ≤ cn_105 := Nat.le_trans OK104.1 fr105_cn
            replace P101_0 := P101_0.keep K105 nin0
            replace P101_1 := P101_1.keep K105
            replace P102_0 := P102_0.keep K105 nin0
            replace P102_1 := P102_1.keep K105
            replace P103_0 := P103_0.keep K105 nin0
            replace P103_1 := P103_1.keep K105
            replace P104_0 := P104_0.keep K105
            replace P104_1 := P104_1.keep K105 nin0
            replace P104_2 := P104_2.keep K105 nin0
            replace P104_3 := P104_3.keep K105 nin0
            replace P104_4 := P104_4.keep K105 nin0
            replace P104_5 := P104_5.keep K105 nin0
            have OK105 := ext_keep OK104 K105 all0
            refine Go.astore X105 hx (hb hby at_155) rfl (l' := #[.val (.int pl), .val (.int pm), .val (.int px), .val (.int py), .val (.int pk), .val (.int (0 : Int32)), .val (.int (0 : Int32)), .val (.int A0), .val (.int A1), .val (.int A2), .val (.int C0), .val (.int C1), .val (.int C2), .val (.ref b_101), .val (.ref b_102), .val (.ref b_103), .val (.ref b_104), .val (.ref b_105), .unset, .unset]) rfl (q := 157) rfl ?_
            refine Go.aload X105 hx (hb hby at_157) rfl rfl (q := 159) rfl ?_
            refine Go.callS X105 hx hZ hown (wd5 hw) (wd6 hw) (wd7 hw) (wd8 hw) (by decide) (of0 l Z a0 hw b_103 (kb_103) h105 OK105 P103_0 P103_1) e105 (by rw [hml]; rfl) (hb hby at_159) (argsL := [(.ref b_103)]) (rest := []) (lenOf pd4 rfl) rfl rfl (W := 0) (by first | exact Nat.le_refl _ | decide) (by decide) (by decide) (by decide) (by decide) ?_
            intro v106 T106 L106 X106 hQ106
            obtain ⟨h106, e106⟩ : ∃ z, T106.heap = z := ⟨_, rfl⟩
            rw [e106] at hQ106
            obtain ⟨b_106, cn_106, kc_106, rfl, N106q, K106, fr106_b, fr106_cn, P106_0, P106_1, P106_2, P106_3, P106_4, P106_5⟩ := hQ106
            have N106 := Fr.app N105 N106q
            have ne_b_101_b_106 : b_101 ≠ b_106 := ne_new P101_0.lt fr106_b
            have ne_b_102_b_106 : b_102 ≠ b_106 := ne_new P102_0.lt fr106_b
            have ne_b_103_b_106 : b_103 ≠ b_106 := ne_new P103_0.lt fr106_b
            have ne_b_104_b_106 : b_104 ≠ b_106 := ne_new P104_0.lt fr106_b
            have ne_cn_104_b_106 : cn_104 ≠ b_106 := ne_new P104_2.lt fr106_b
            have ne_b_105_b_106 : b_105 ≠ b_106 := ne_new P105_0.lt fr106_b
            have ne_cn_105_b_106 : cn_105 ≠ b_106 := ne_new P105_2.lt fr106_b
            have g_b_106 : Z.heap.size ≤ b_106 := Nat.le_trans OK105.1 fr106_b
            have ne_b_101_cn_106 : b_101 ≠ cn_106 := ne_new P101_0.lt fr106_cn
            have ne_b_102_cn_106 : b_102 ≠ cn_106 := ne_new P102_0.lt fr106_cn
            have ne_b_103_cn_106 : b_103 ≠ cn_106 := ne_new P103_0.lt fr106_cn
            have ne_b_104_cn_106 : b_104 ≠ cn_106 := ne_new P104_0.lt fr106_cn
            have ne_cn_104_cn_106 : cn_104 ≠ cn_106 := ne_new P104_2.lt fr106_cn
            have ne_b_105_cn_106 : b_105 ≠ cn_106 := ne_new P105_0.lt fr106_cn
            have ne_cn_105_cn_106 : cn_105 ≠ cn_106 := ne_new P105_2.lt fr106_cn
            have g_cn_106 : Z.heap.size ≤ cn_106 := Nat.le_trans OK105.1 fr106_cn
            replace P101_0 := P101_0.keep K106 nin0
            replace P101_1 := P101_1.keep K106
            replace P102_0 := P102_0.keep K106 nin0
            replace P102_1 := P102_1.keep K106
            replace P103_0 := P103_0.keep K106 nin0
            replace P103_1 := P103_1.keep K106
            replace P104_0 := P104_0.keep K106
            replace P104_1 := P104_1.keep K106 nin0
            replace P104_2 := P104_2.keep K106 nin0
            replace P104_3 := P104_3.keep K106 nin0
            replace P104_4 := P104_4.keep K106 nin0
            replace P104_5 := P104_5.keep K106 nin0
            replace P105_0 := P105_0.keep K106
            replace P105_1 := P105_1.keep K106 nin0
            replace P105_2 := P105_2.keep K106 nin0
            replace P105_3 := P105_3.keep K106 nin0
            replace P105_4 := P105_4.keep K106 nin0
            replace P105_5 := P105_5.keep K106 nin0
            have OK106 := ext_keep OK105 K106 all0
            refine Go.astore X106 hx (hb hby at_162) rfl (l' := #[.val (.int pl), .val (.int pm), .val (.int px), .val (.int py), .val (.int pk), .val (.int (0 : Int32)), .val (.int (0 : Int32)), .val (.int A0), .val (.int A1), .val (.int A2), .val (.int C0), .val (.int C1), .val (.int C2), .val (.ref b_101), .val (.ref b_102), .val (.ref b_103), .val (.ref b_104), .val (.ref b_105), .val (.ref b_106), .unset]) rfl (q := 164) rfl ?_
            refine Go.aload X106 hx (hb hby at_164) rfl rfl (q := 166) rfl ?_
            refine Go.virt X106 hx hZ hown (wd36 hw) (wd37 hw) (notFace_of_selects (args := #[]) (mvT hZ (wd39 hw))) (wd39 hw) (wd38 hw) (wd7 hw) (wd40 hw) (by decide) (clen l Z a0 hw b_104 cn_104 (kc_104) ((0 : Int32)) ([]) h106 OK106 P104_1 P104_2) e106 P104_0 (by rw [hml]; rfl) (hb hby at_166) (argsL := []) (rest := []) (lenOf pd5 rfl) rfl rfl (W := 0) (by first | exact Nat.le_refl _ | decide) (by decide) (by decide) (by decide) (by decide) ?_
            intro v107 T107 L107 X107 hQ107
            obtain ⟨rfl, N107q, e107⟩ := hQ107
            have N107 := Fr.app N106 N107q
            refine Go.iload X107 hx (hb hby at_169) rfl (q := 171) rfl ?_
            refine Go.icmpNo X107 hx (hb hby at_171) (by decide) (q := 174) rfl ?_
            refine Go.aload X107 hx (hb hby at_174) rfl rfl (q := 176) rfl ?_
            refine Go.virt X107 hx hZ hown (wd36 hw) (wd37 hw) (notFace_of_selects (args := #[]) (mvT hZ (wd39 hw))) (wd39 hw) (wd38 hw) (wd7 hw) (wd40 hw) (by decide) (clen l Z a0 hw b_106 cn_106 (kc_106) ((0 : Int32)) ([]) h106 OK106 P106_1 P106_2) e107 P106_0 (by rw [hml]; rfl) (hb hby at_176) (argsL := []) (rest := []) (lenOf pd5 rfl) rfl rfl (W := 0) (by first | exact Nat.le_refl _ | decide) (by decide) (by decide) (by decide) (by decide) ?_
            intro v108 T108 L108 X108 hQ108
            obtain ⟨rfl, N108q, e108⟩ := hQ108
            have N108 := Fr.app N107 N108q
            refine Go.iload X108 hx (hb hby at_179) rfl (q := 181) rfl ?_
            refine Go.icmpNo X108 hx (hb hby at_181) (by decide) (q := 184) rfl ?_
            refine Go.aload X108 hx (hb hby at_184) rfl rfl (q := 186) rfl ?_
            refine Go.virt X108 hx hZ hown (wd41 hw) (wd42 hw) (notFace_of_selects (args := #[]) (mvT hZ (wd44 hw))) (wd44 hw) (wd43 hw) (wd7 hw) (wd45 hw) (by decide) (clast l Z a0 hw b_104 h106 OK106 P104_3) e108 P104_0 (by rw [hml]; rfl) (hb hby at_186) (argsL := []) (rest := []) (lenOf pd6 rfl) rfl rfl (W := 0) (by first | exact Nat.le_refl _ | decide) (by decide) (by decide) (by decide) (by decide) ?_
            intro v109 T109 L109 X109 hQ109
            obtain ⟨rfl, N109q, e109⟩ := hQ109
            have N109 := Fr.app N108 N109q
            refine Go.ifnonnullNo X109 hx (hb hby at_189) (q := 192) rfl ?_
            refine Go.aload X109 hx (hb hby at_192) rfl rfl (q := 194) rfl ?_
            refine Go.virt X109 hx hZ hown (wd46 hw) (wd47 hw) (notFace_of_selects (args := #[]) (mvT hZ (wd49 hw))) (wd49 hw) (wd48 hw) (wd7 hw) (wd50 hw) (by decide) (cshar l Z a0 hw b_104 h106 OK106 P104_4) e109 P104_0 (by rw [hml]; rfl) (hb hby at_194) (argsL := []) (rest := []) (lenOf pd7 rfl) rfl rfl (W := 0) (by first | exact Nat.le_refl _ | decide) (by decide) (by decide) (by decide) (by decide) ?_
            intro v110 T110 L110 X110 hQ110
            obtain ⟨rfl, N110q, e110⟩ := hQ110
            have N110 := Fr.app N109 N110q
            refine Go.ifNo X110 hx (hb hby at_197) (by decide) (q := 200) rfl ?_
            refine Go.aload X110 hx (hb hby at_200) rfl rfl (q := 202) rfl ?_
            refine Go.virt X110 hx hZ hown (wd51 hw) (wd52 hw) (notFace_of_selects (args := #[]) (mvT hZ (wd54 hw))) (wd54 hw) (wd53 hw) (wd7 hw) (wd55 hw) (by decide) (cremo l Z a0 hw b_104 h106 OK106 P104_5) e110 P104_0 (by rw [hml]; rfl) (hb hby at_202) (argsL := []) (rest := []) (lenOf pd7 rfl) rfl rfl (W := 0) (by first | exact Nat.le_refl _ | decide) (by decide) (by decide) (by decide) (by decide) ?_
            intro v111 T111 L111 X111 hQ111
            obtain ⟨rfl, N111q, e111⟩ := hQ111
            have N111 := Fr.app N110 N111q
            refine Go.ifNo X111 hx (hb hby at_205) (by decide) (q := 208) rfl ?_
            refine Go.iconst X111 hx (hb hby at_208) (r := (1 : Int32)) rfl (q := 209) rfl ?_
            refine Go.goto X111 hx (hb hby at_209) (q := 213) (by decide) (by decide) ?_
            refine Go.istore X111 hx (hb hby at_213) (l' := #[.val (.int pl), .val (.int pm), .val (.int px), .val (.int py), .val (.int pk), .val (.int (0 : Int32)), .val (.int (0 : Int32)), .val (.int A0), .val (.int A1), .val (.int A2), .val (.int C0), .val (.int C1), .val (.int C2), .val (.ref b_101), .val (.ref b_102), .val (.ref b_103), .val (.ref b_104), .val (.ref b_105), .val (.ref b_106), .val (.int (1 : Int32))]) rfl (q := 215) rfl ?_
            refine Go.iload X111 hx (hb hby at_215) rfl (q := 217) rfl ?_
            refine Go.ifNo X111 hx (hb hby at_217) (by decide) (q := 220) rfl ?_
            refine Go.aload X111 hx (hb hby at_220) rfl rfl (q := 222) rfl ?_
            refine Go.aload X111 hx (hb hby at_222) rfl rfl (q := 224) rfl ?_
            refine Go.virt X111 hx hZ hown (wd56 hw) (wd57 hw) (notFace_of_selects (args := #[]) (mvT hZ (wd59 hw))) (wd59 hw) (wd58 hw) (wd7 hw) (wd60 hw) (by decide) (chs0_0 l Z a0 hw b_104 b_105 cn_104 cn_105 (kc_104) (kc_105) h106 OK106 P104_1 P105_1 P104_2 P105_2 ne_cn_104_cn_105) e111 P104_0 (by rw [hml]; rfl) (hb hby at_224) (argsL := [(.ref b_105)]) (rest := []) (lenOf pd8 rfl) rfl rfl (W := 0) (by first | exact Nat.le_refl _ | decide) (by decide) (by decide) (by decide) (by decide) ?_
            intro v112 T112 L112 X112 hQ112
            obtain ⟨rfl, N112q, e112⟩ := hQ112
            have N112 := Fr.app N111 N112q
            refine Go.ifNo X112 hx (hb hby at_227) (by decide) (q := 230) rfl ?_
            refine Go.iconst X112 hx (hb hby at_230) (r := (1 : Int32)) rfl (q := 231) rfl ?_
            refine Go.goto X112 hx (hb hby at_231) (q := 235) (by decide) (by decide) ?_
            refine Go.istore X112 hx (hb hby at_235) (l' := #[.val (.int pl), .val (.int pm), .val (.int px), .val (.int py), .val (.int pk), .val (.int (0 : Int32)), .val (.int (0 : Int32)), .val (.int A0), .val (.int A1), .val (.int A2), .val (.int C0), .val (.int C1), .val (.int C2), .val (.ref b_101), .val (.ref b_102), .val (.ref b_103), .val (.ref b_104), .val (.ref b_105), .val (.ref b_106), .val (.int (1 : Int32))]) rfl (q := 237) rfl ?_
            refine Go.iload X112 hx (hb hby at_237) rfl (q := 239) rfl ?_
            refine Go.ifNo X112 hx (hb hby at_239) (by decide) (q := 242) rfl ?_
            show Go pp ee below _ (T112.setTop (mkF mm 242 #[.val (.int pl), .val (.int pm), .val (.int px), .val (.int py), .val (.int pk), .val (.int (0 : Int32)), .val (.int (0 : Int32)), .val (.int A0), .val (.int A1), .val (.int A2), .val (.int C0), .val (.int C1), .val (.int C2), .val (.ref b_101), .val (.ref b_102), .val (.ref b_103), .val (.ref b_104), .val (.ref b_105), .val (.ref b_106), .val (.int (1 : Int32))] []))
            refine Go.aload X112 hx (hb hby at_242) rfl rfl (q := 244) rfl ?_
            refine Go.aload X112 hx (hb hby at_244) rfl rfl (q := 246) rfl ?_
            refine Go.virt X112 hx hZ hown (wd56 hw) (wd57 hw) (notFace_of_selects (args := #[]) (mvT hZ (wd59 hw))) (wd59 hw) (wd58 hw) (wd7 hw) (wd60 hw) (by decide) (chs0_0 l Z a0 hw b_104 b_106 cn_104 cn_106 (kc_104) (kc_106) h106 OK106 P104_1 P106_1 P104_2 P106_2 ne_cn_104_cn_106) e112 P104_0 (by rw [hml]; rfl) (hb hby at_246) (argsL := [(.ref b_106)]) (rest := []) (lenOf pd8 rfl) rfl rfl (W := 0) (by first | exact Nat.le_refl _ | decide) (by decide) (by decide) (by decide) (by decide) ?_
            intro v113 T113 L113 X113 hQ113
            obtain ⟨rfl, N113q, e113⟩ := hQ113
            have N113 := Fr.app N112 N113q
            refine Go.aload X113 hx (hb hby at_249) rfl rfl (q := 251) rfl ?_
            refine Go.aload X113 hx (hb hby at_251) rfl rfl (q := 253) rfl ?_
            refine Go.callS X113 hx hZ hown (wd69 hw) (wd70 hw) (wd2 hw) (wd71 hw) (by decide) (csam0_0 l Z a0 hw b_102 b_103 (kb_102) (kb_103) h106 OK106 P102_0 P103_0) e113 (by rw [hml]; rfl) (hb hby at_253) (argsL := [(.ref b_102), (.ref b_103)]) (rest := [(.int (1 : Int32))]) (lenOf pd2 rfl) rfl rfl (W := 1) (by first | exact Nat.le_refl _ | decide) (by decide) (by decide) (by decide) (by decide) ?_
            intro v114 T114 L114 X114 hQ114
            obtain ⟨rfl, N114q, e114⟩ := hQ114
            have N114 := Fr.app N113 N114q
            refine Go.icmpNo X114 hx (hb hby at_256) (by decide) (q := 259) rfl ?_
            refine Go.iconst X114 hx (hb hby at_259) (r := (1 : Int32)) rfl (q := 260) rfl ?_
            refine Go.goto X114 hx (hb hby at_260) (q := 264) (by decide) (by decide) ?_
            refine Go.istore X114 hx (hb hby at_264) (l' := #[.val (.int pl), .val (.int pm), .val (.int px), .val (.int py), .val (.int pk), .val (.int (0 : Int32)), .val (.int (0 : Int32)), .val (.int A0), .val (.int A1), .val (.int A2), .val (.int C0), .val (.int C1), .val (.int C2), .val (.ref b_101), .val (.ref b_102), .val (.ref b_103), .val (.ref b_104), .val (.ref b_105), .val (.ref b_106), .val (.int (1 : Int32))]) rfl (q := 266) rfl ?_
            refine Go.iload X114 hx (hb hby at_266) rfl (q := 268) rfl ?_
            exact Go.retI X114 hx hret hlk (by simp) rfl (hb hby at_268) e114 (by decide) (by decide) ⟨rfl, N114⟩
          by_cases hc115 : (pk &&& (4 : Int32)) = (0 : Int32)
          · refine Go.ifNo X0 hx (hb hby at_67) (Jvm.Free.XT.i0_ne_f hc115) (q := 70) rfl ?_
            refine Go.iload X0 hx (hb hby at_70) rfl (q := 72) rfl ?_
            refine Go.goto X0 hx (hb hby at_72) (q := 80) (by decide) (by decide) ?_
            exact J80 _ hA2
          · refine Go.ifYes X0 hx (hb hby at_67) (Jvm.Free.XT.i0_ne_t hc115) (q := 75) (by decide) (by decide) ?_
            refine Go.iloadN X0 hx (hb hby at_75) rfl (q := 76) rfl ?_
            refine Go.bipush X0 hx (hb hby at_76) (r := (16 : Int32)) rfl (q := 78) rfl ?_
            refine Go.iushr X0 hx (hb hby at_78) rfl (q := 79) rfl ?_
            refine Go.i2b X0 hx (hb hby at_79) rfl (q := 80) rfl ?_
            exact J80 _ (bb _)
        by_cases hc116 : (pk &&& (2 : Int32)) = (0 : Int32)
        · refine Go.ifNo X0 hx (hb hby at_48) (Jvm.Free.XT.i0_ne_f hc116) (q := 51) rfl ?_
          refine Go.iload X0 hx (hb hby at_51) rfl (q := 53) rfl ?_
          refine Go.goto X0 hx (hb hby at_53) (q := 61) (by decide) (by decide) ?_
          exact J61 _ hA1
        · refine Go.ifYes X0 hx (hb hby at_48) (Jvm.Free.XT.i0_ne_t hc116) (q := 56) (by decide) (by decide) ?_
          refine Go.iloadN X0 hx (hb hby at_56) rfl (q := 57) rfl ?_
          refine Go.bipush X0 hx (hb hby at_57) (r := (8 : Int32)) rfl (q := 59) rfl ?_
          refine Go.iushr X0 hx (hb hby at_59) rfl (q := 60) rfl ?_
          refine Go.i2b X0 hx (hb hby at_60) rfl (q := 61) rfl ?_
          exact J61 _ (bb _)
      by_cases hc117 : (pk &&& (1 : Int32)) = (0 : Int32)
      · refine Go.ifNo X0 hx (hb hby at_32) (Jvm.Free.XT.i0_ne_f hc117) (q := 35) rfl ?_
        refine Go.iload X0 hx (hb hby at_35) rfl (q := 37) rfl ?_
        refine Go.goto X0 hx (hb hby at_37) (q := 42) (by decide) (by decide) ?_
        exact J42 _ hA0
      · refine Go.ifYes X0 hx (hb hby at_32) (Jvm.Free.XT.i0_ne_t hc117) (q := 40) (by decide) (by decide) ?_
        refine Go.iloadN X0 hx (hb hby at_40) rfl (q := 41) rfl ?_
        refine Go.i2b X0 hx (hb hby at_41) rfl (q := 42) rfl ?_
        exact J42 _ (bb _)
    · show Go pp ee below _ (s₁.setTop (mkF mm 8 #[.val (.int pl), .val (.int pm), .val (.int px), .val (.int py), .val (.int pk), .val (.int (0 : Int32)), .unset, .unset, .unset, .unset, .unset, .unset, .unset, .unset, .unset, .unset, .unset, .unset, .unset, .unset] [(.int (1 : Int32))]))
      refine Go.istore X0 hx (hb hby at_8) (l' := #[.val (.int pl), .val (.int pm), .val (.int px), .val (.int py), .val (.int pk), .val (.int (0 : Int32)), .val (.int (1 : Int32)), .unset, .unset, .unset, .unset, .unset, .unset, .unset, .unset, .unset, .unset, .unset, .unset, .unset]) rfl (q := 10) rfl ?_
      refine Go.iloadN X0 hx (hb hby at_10) rfl (q := 11) rfl ?_
      refine Go.i2b X0 hx (hb hby at_11) rfl (q := 12) rfl ?_
      have hA0 := bb px
      generalize (px.toInt8.toInt32) = A0 at hA0 ⊢
      refine Go.istore X0 hx (hb hby at_12) (l' := #[.val (.int pl), .val (.int pm), .val (.int px), .val (.int py), .val (.int pk), .val (.int (0 : Int32)), .val (.int (1 : Int32)), .val (.int A0), .unset, .unset, .unset, .unset, .unset, .unset, .unset, .unset, .unset, .unset, .unset, .unset]) rfl (q := 14) rfl ?_
      refine Go.iloadN X0 hx (hb hby at_14) rfl (q := 15) rfl ?_
      refine Go.bipush X0 hx (hb hby at_15) (r := (8 : Int32)) rfl (q := 17) rfl ?_
      refine Go.iushr X0 hx (hb hby at_17) rfl (q := 18) rfl ?_
      refine Go.i2b X0 hx (hb hby at_18) rfl (q := 19) rfl ?_
      have hA1 := bb ((px.toUInt32 >>> ((8 : Int32) &&& 31).toUInt32).toInt32)
      generalize (((px.toUInt32 >>> ((8 : Int32) &&& 31).toUInt32).toInt32).toInt8.toInt32) = A1 at hA1 ⊢
      refine Go.istore X0 hx (hb hby at_19) (l' := #[.val (.int pl), .val (.int pm), .val (.int px), .val (.int py), .val (.int pk), .val (.int (0 : Int32)), .val (.int (1 : Int32)), .val (.int A0), .val (.int A1), .unset, .unset, .unset, .unset, .unset, .unset, .unset, .unset, .unset, .unset, .unset]) rfl (q := 21) rfl ?_
      refine Go.iloadN X0 hx (hb hby at_21) rfl (q := 22) rfl ?_
      refine Go.bipush X0 hx (hb hby at_22) (r := (16 : Int32)) rfl (q := 24) rfl ?_
      refine Go.iushr X0 hx (hb hby at_24) rfl (q := 25) rfl ?_
      refine Go.i2b X0 hx (hb hby at_25) rfl (q := 26) rfl ?_
      have hA2 := bb ((px.toUInt32 >>> ((16 : Int32) &&& 31).toUInt32).toInt32)
      generalize (((px.toUInt32 >>> ((16 : Int32) &&& 31).toUInt32).toInt32).toInt8.toInt32) = A2 at hA2 ⊢
      refine Go.istore X0 hx (hb hby at_26) (l' := #[.val (.int pl), .val (.int pm), .val (.int px), .val (.int py), .val (.int pk), .val (.int (0 : Int32)), .val (.int (1 : Int32)), .val (.int A0), .val (.int A1), .val (.int A2), .unset, .unset, .unset, .unset, .unset, .unset, .unset, .unset, .unset, .unset]) rfl (q := 28) rfl ?_
      refine Go.iload X0 hx (hb hby at_28) rfl (q := 30) rfl ?_
      refine Go.iconst X0 hx (hb hby at_30) (r := (1 : Int32)) rfl (q := 31) rfl ?_
      refine Go.iand X0 hx (hb hby at_31) rfl (q := 32) rfl ?_
      have J42 : ∀ (C0 : Int32), (C0.toInt8.toInt32) = C0 → Go pp ee below (KK ss (Q_law0 Z pl pm px py pk h0) room_1.cells room_1.slots) (s₁.setTop (mkF mm 42 #[.val (.int pl), .val (.int pm), .val (.int px), .val (.int py), .val (.int pk), .val (.int (0 : Int32)), .val (.int (1 : Int32)), .val (.int A0), .val (.int A1), .val (.int A2), .unset, .unset, .unset, .unset, .unset, .unset, .unset, .unset, .unset, .unset] [(.int C0)])) := by
        intro C0 hC0
        refine Go.istore X0 hx (hb hby at_42) (l' := #[.val (.int pl), .val (.int pm), .val (.int px), .val (.int py), .val (.int pk), .val (.int (0 : Int32)), .val (.int (1 : Int32)), .val (.int A0), .val (.int A1), .val (.int A2), .val (.int C0), .unset, .unset, .unset, .unset, .unset, .unset, .unset, .unset, .unset]) rfl (q := 44) rfl ?_
        refine Go.iload X0 hx (hb hby at_44) rfl (q := 46) rfl ?_
        refine Go.iconst X0 hx (hb hby at_46) (r := (2 : Int32)) rfl (q := 47) rfl ?_
        refine Go.iand X0 hx (hb hby at_47) rfl (q := 48) rfl ?_
        have J61 : ∀ (C1 : Int32), (C1.toInt8.toInt32) = C1 → Go pp ee below (KK ss (Q_law0 Z pl pm px py pk h0) room_1.cells room_1.slots) (s₁.setTop (mkF mm 61 #[.val (.int pl), .val (.int pm), .val (.int px), .val (.int py), .val (.int pk), .val (.int (0 : Int32)), .val (.int (1 : Int32)), .val (.int A0), .val (.int A1), .val (.int A2), .val (.int C0), .unset, .unset, .unset, .unset, .unset, .unset, .unset, .unset, .unset] [(.int C1)])) := by
          intro C1 hC1
          refine Go.istore X0 hx (hb hby at_61) (l' := #[.val (.int pl), .val (.int pm), .val (.int px), .val (.int py), .val (.int pk), .val (.int (0 : Int32)), .val (.int (1 : Int32)), .val (.int A0), .val (.int A1), .val (.int A2), .val (.int C0), .val (.int C1), .unset, .unset, .unset, .unset, .unset, .unset, .unset, .unset]) rfl (q := 63) rfl ?_
          refine Go.iload X0 hx (hb hby at_63) rfl (q := 65) rfl ?_
          refine Go.iconst X0 hx (hb hby at_65) (r := (4 : Int32)) rfl (q := 66) rfl ?_
          refine Go.iand X0 hx (hb hby at_66) rfl (q := 67) rfl ?_
          have J80 : ∀ (C2 : Int32), (C2.toInt8.toInt32) = C2 → Go pp ee below (KK ss (Q_law0 Z pl pm px py pk h0) room_1.cells room_1.slots) (s₁.setTop (mkF mm 80 #[.val (.int pl), .val (.int pm), .val (.int px), .val (.int py), .val (.int pk), .val (.int (0 : Int32)), .val (.int (1 : Int32)), .val (.int A0), .val (.int A1), .val (.int A2), .val (.int C0), .val (.int C1), .unset, .unset, .unset, .unset, .unset, .unset, .unset, .unset] [(.int C2)])) := by
            intro C2 hC2
            refine Go.istore X0 hx (hb hby at_80) (l' := #[.val (.int pl), .val (.int pm), .val (.int px), .val (.int py), .val (.int pk), .val (.int (0 : Int32)), .val (.int (1 : Int32)), .val (.int A0), .val (.int A1), .val (.int A2), .val (.int C0), .val (.int C1), .val (.int C2), .unset, .unset, .unset, .unset, .unset, .unset, .unset]) rfl (q := 82) rfl ?_
            refine Go.iload X0 hx (hb hby at_82) rfl (q := 84) rfl ?_
            refine Go.iload X0 hx (hb hby at_84) rfl (q := 86) rfl ?_
            refine Go.iload X0 hx (hb hby at_86) rfl (q := 88) rfl ?_
            refine Go.iload X0 hx (hb hby at_88) rfl (q := 90) rfl ?_
            refine Go.callS X0 hx hZ hown (wd0 hw) (wd1 hw) (wd2 hw) (wd3 hw) (by decide) (make0 l Z a0 hw A0 A1 A2 h0 O0 hA0 hA1 hA2) e0 (by rw [hml]; rfl) (hb hby at_90) (argsL := [(.int (0 : Int32)), (.int A0), (.int A1), (.int A2)]) (rest := []) (lenOf pd3 rfl) rfl rfl (W := 0) (by first | exact Nat.le_refl _ | decide) (by decide) (by decide) (by decide) (by decide) ?_
            intro v118 T118 L118 X118 hQ118
            obtain ⟨h118, e118⟩ : ∃ z, T118.heap = z := ⟨_, rfl⟩
            rw [e118] at hQ118
            obtain ⟨b_118, kb_118, rfl, N118q, K118, fr118_b, P118_0, P118_1⟩ := hQ118
            have N118 := Fr.app N0 N118q
            have g_b_118 : Z.heap.size ≤ b_118 := Nat.le_trans O0.1 fr118_b
            have OK118 := ext_keep O0 K118 all0
            refine Go.astore X118 hx (hb hby at_93) rfl (l' := #[.val (.int pl), .val (.int pm), .val (.int px), .val (.int py), .val (.int pk), .val (.int (0 : Int32)), .val (.int (1 : Int32)), .val (.int A0), .val (.int A1), .val (.int A2), .val (.int C0), .val (.int C1), .val (.int C2), .val (.ref b_118), .unset, .unset, .unset, .unset, .unset, .unset]) rfl (q := 95) rfl ?_
            refine Go.iload X118 hx (hb hby at_95) rfl (q := 97) rfl ?_
            refine Go.iload X118 hx (hb hby at_97) rfl (q := 99) rfl ?_
            refine Go.iload X118 hx (hb hby at_99) rfl (q := 101) rfl ?_
            refine Go.iload X118 hx (hb hby at_101) rfl (q := 103) rfl ?_
            refine Go.callS X118 hx hZ hown (wd0 hw) (wd1 hw) (wd2 hw) (wd3 hw) (by decide) (make0 l Z a0 hw A0 A1 A2 h118 OK118 hA0 hA1 hA2) e118 (by rw [hml]; rfl) (hb hby at_103) (argsL := [(.int (0 : Int32)), (.int A0), (.int A1), (.int A2)]) (rest := []) (lenOf pd3 rfl) rfl rfl (W := 0) (by first | exact Nat.le_refl _ | decide) (by decide) (by decide) (by decide) (by decide) ?_
            intro v119 T119 L119 X119 hQ119
            obtain ⟨h119, e119⟩ : ∃ z, T119.heap = z := ⟨_, rfl⟩
            rw [e119] at hQ119
            obtain ⟨b_119, kb_119, rfl, N119q, K119, fr119_b, P119_0, P119_1⟩ := hQ119
            have N119 := Fr.app N118 N119q
            have ne_b_118_b_119 : b_118 ≠ b_119 := ne_new P118_0.lt fr119_b
            have g_b_119 : Z.heap.size ≤ b_119 := Nat.le_trans OK118.1 fr119_b
            replace P118_0 := P118_0.keep K119 nin0
            replace P118_1 := P118_1.keep K119
            have OK119 := ext_keep OK118 K119 all0
            refine Go.astore X119 hx (hb hby at_106) rfl (l' := #[.val (.int pl), .val (.int pm), .val (.int px), .val (.int py), .val (.int pk), .val (.int (0 : Int32)), .val (.int (1 : Int32)), .val (.int A0), .val (.int A1), .val (.int A2), .val (.int C0), .val (.int C1), .val (.int C2), .val (.ref b_118), .val (.ref b_119), .unset, .unset, .unset, .unset, .unset]) rfl (q := 108) rfl ?_
            refine Go.iload X119 hx (hb hby at_108) rfl (q := 110) rfl ?_
            refine Go.iload X119 hx (hb hby at_110) rfl (q := 112) rfl ?_
            refine Go.iload X119 hx (hb hby at_112) rfl (q := 114) rfl ?_
            refine Go.iload X119 hx (hb hby at_114) rfl (q := 116) rfl ?_
            refine Go.callS X119 hx hZ hown (wd0 hw) (wd1 hw) (wd2 hw) (wd3 hw) (by decide) (make1 l Z a0 hw C0 C1 C2 h119 OK119 hC0 hC1 hC2) e119 (by rw [hml]; rfl) (hb hby at_116) (argsL := [(.int (1 : Int32)), (.int C0), (.int C1), (.int C2)]) (rest := []) (lenOf pd3 rfl) rfl rfl (W := 0) (by first | exact Nat.le_refl _ | decide) (by decide) (by decide) (by decide) (by decide) ?_
            intro v120 T120 L120 X120 hQ120
            obtain ⟨h120, e120⟩ : ∃ z, T120.heap = z := ⟨_, rfl⟩
            rw [e120] at hQ120
            obtain ⟨b_120, kb_120, rfl, N120q, K120, fr120_b, P120_0, P120_1⟩ := hQ120
            have N120 := Fr.app N119 N120q
            have ne_b_118_b_120 : b_118 ≠ b_120 := ne_new P118_0.lt fr120_b
            have ne_b_119_b_120 : b_119 ≠ b_120 := ne_new P119_0.lt fr120_b
            have g_b_120 : Z.heap.size ≤ b_120 := Nat.le_trans OK119.1 fr120_b
            replace P118_0 := P118_0.keep K120 nin0
            replace P118_1 := P118_1.keep K120
            replace P119_0 := P119_0.keep K120 nin0
            replace P119_1 := P119_1.keep K120
            have OK120 := ext_keep OK119 K120 all0
            refine Go.astore X120 hx (hb hby at_119) rfl (l' := #[.val (.int pl), .val (.int pm), .val (.int px), .val (.int py), .val (.int pk), .val (.int (0 : Int32)), .val (.int (1 : Int32)), .val (.int A0), .val (.int A1), .val (.int A2), .val (.int C0), .val (.int C1), .val (.int C2), .val (.ref b_118), .val (.ref b_119), .val (.ref b_120), .unset, .unset, .unset, .unset]) rfl (q := 121) rfl ?_
            refine Go.aload X120 hx (hb hby at_121) rfl rfl (q := 123) rfl ?_
            refine Go.callS X120 hx hZ hown (wd5 hw) (wd6 hw) (wd7 hw) (wd8 hw) (by decide) (of0 l Z a0 hw b_118 (kb_118) h120 OK120 P118_0 P118_1) e120 (by rw [hml]; rfl) (hb hby at_123) (argsL := [(.ref b_118)]) (rest := []) (lenOf pd4 rfl) rfl rfl (W := 0) (by first | exact Nat.le_refl _ | decide) (by decide) (by decide) (by decide) (by decide) ?_
            intro v121 T121 L121 X121 hQ121
            obtain ⟨h121, e121⟩ : ∃ z, T121.heap = z := ⟨_, rfl⟩
            rw [e121] at hQ121
            obtain ⟨b_121, cn_121, kc_121, rfl, N121q, K121, fr121_b, fr121_cn, P121_0, P121_1, P121_2, P121_3, P121_4, P121_5⟩ := hQ121
            have N121 := Fr.app N120 N121q
            have ne_b_118_b_121 : b_118 ≠ b_121 := ne_new P118_0.lt fr121_b
            have ne_b_119_b_121 : b_119 ≠ b_121 := ne_new P119_0.lt fr121_b
            have ne_b_120_b_121 : b_120 ≠ b_121 := ne_new P120_0.lt fr121_b
            have g_b_121 : Z.heap.size ≤ b_121 := Nat.le_trans OK120.1 fr121_b
            have ne_b_118_cn_121 : b_118 ≠ cn_121 := ne_new P118_0.lt fr121_cn
            have ne_b_119_cn_121 : b_119 ≠ cn_121 := ne_new P119_0.lt fr121_cn
            have ne_b_120_cn_121 : b_120 ≠ cn_121 := ne_new P120_0.lt fr121_cn
            have g_cn_121 : Z.heap.size ≤ cn_121 := Nat.le_trans OK120.1 fr121_cn
            replace P118_0 := P118_0.keep K121 nin0
            replace P118_1 := P118_1.keep K121
            replace P119_0 := P119_0.keep K121 nin0
            replace P119_1 := P119_1.keep K121
            replace P120_0 := P120_0.keep K121 nin0
            replace P120_1 := P120_1.keep K121
            have OK121 := ext_keep OK120 K121 all0
            refine Go.astore X121 hx (hb hby at_126) rfl (l' := #[.val (.int pl), .val (.int pm), .val (.int px), .val (.int py), .val (.int pk), .val (.int (0 : Int32)), .val (.int (1 : Int32)), .val (.int A0), .val (.int A1), .val (.int A2), .val (.int C0), .val (.int C1), .val (.int C2), .val (.ref b_118), .val (.ref b_119), .val (.ref b_120), .val (.ref b_121), .unset, .unset, .unset]) rfl (q := 128) rfl ?_
            refine Go.iload X121 hx (hb hby at_128) rfl (q := 130) rfl ?_
            refine Go.ifYes X121 hx (hb hby at_130) (by decide) (q := 150) (by decide) (by decide) ?_
            refine Go.aload X121 hx (hb hby at_150) rfl rfl (q := 152) rfl ?_
            refine Go.callS X121 hx hZ hown (wd5 hw) (wd6 hw) (wd7 hw) (wd8 hw) (by decide) (of0 l Z a0 hw b_119 (kb_119) h121 OK121 P119_0 P119_1) e121 (by rw [hml]; rfl) (hb hby at_152) (argsL := [(.ref b_119)]) (rest := []) (lenOf pd4 rfl) rfl rfl (W := 0) (by first | exact Nat.le_refl _ | decide) (by decide) (by decide) (by decide) (by decide) ?_
            intro v122 T122 L122 X122 hQ122
            obtain ⟨h122, e122⟩ : ∃ z, T122.heap = z := ⟨_, rfl⟩
            rw [e122] at hQ122
            obtain ⟨b_122, cn_122, kc_122, rfl, N122q, K122, fr122_b, fr122_cn, P122_0, P122_1, P122_2, P122_3, P122_4, P122_5⟩ := hQ122
            have N122 := Fr.app N121 N122q
            have ne_b_118_b_122 : b_118 ≠ b_122 := ne_new P118_0.lt fr122_b
            have ne_b_119_b_122 : b_119 ≠ b_122 := ne_new P119_0.lt fr122_b
            have ne_b_120_b_122 : b_120 ≠ b_122 := ne_new P120_0.lt fr122_b
            have ne_b_121_b_122 : b_121 ≠ b_122 := ne_new P121_0.lt fr122_b
            have ne_cn_121_b_122 : cn_121 ≠ b_122 := ne_new P121_2.lt fr122_b
            have g_b_122 : Z.heap.size ≤ b_122 := Nat.le_trans OK121.1 fr122_b
            have ne_b_118_cn_122 : b_118 ≠ cn_122 := ne_new P118_0.lt fr122_cn
            have ne_b_119_cn_122 : b_119 ≠ cn_122 := ne_new P119_0.lt fr122_cn
            have ne_b_120_cn_122 : b_120 ≠ cn_122 := ne_new P120_0.lt fr122_cn
            have ne_b_121_cn_122 : b_121 ≠ cn_122 := ne_new P121_0.lt fr122_cn
            have ne_cn_121_cn_122 : cn_121 ≠ cn_122 := ne_new P121_2.lt fr122_cn
            have g_cn_122 : Z.heap.size ≤ cn_122 := Nat.le_trans OK121.1 fr122_cn
            replace P118_0 := P118_0.keep K122 nin0
            replace P118_1 := P118_1.keep K122
            replace P119_0 := P119_0.keep K122 nin0
            replace P119_1 := P119_1.keep K122
            replace P120_0 := P120_0.keep K122 nin0
            replace P120_1 := P120_1.keep K122
            replace P121_0 := P121_0.keep K122
            replace P121_1 := P121_1.keep K122 nin0
            replace P121_2 := P121_2.keep K122 nin0
            replace P121_3 := P121_3.keep K122 nin0
            replace P121_4 := P121_4.keep K122 nin0
            replace P121_5 := P121_5.keep K122 nin0
            have OK122 := ext_keep OK121 K122 all0
            refine Go.astore X122 hx (hb hby at_155) rfl (l' := #[.val (.int pl), .val (.int pm), .val (.int px), .val (.int py), .val (.int pk), .val (.int (0 : Int32)), .val (.int (1 : Int32)), .val (.int A0), .val (.int A1), .val (.int A2), .val (.int C0), .val (.int C1), .val (.int C2), .val (.ref b_118), .val (.ref b_119), .val (.ref b_120), .val (.ref b_121), .val (.ref b_122), .unset, .unset]) rfl (q := 157) rfl ?_
            refine Go.aload X122 hx (hb hby at_157) rfl rfl (q := 159) rfl ?_
            refine Go.callS X122 hx hZ hown (wd5 hw) (wd6 hw) (wd7 hw) (wd8 hw) (by decide) (of1 l Z a0 hw b_120 (kb_120) C0 h122 OK122 P120_0 P120_1) e122 (by rw [hml]; rfl) (hb hby at_159) (argsL := [(.ref b_120)]) (rest := []) (lenOf pd4 rfl) rfl rfl (W := 0) (by first | exact Nat.le_refl _ | decide) (by decide) (by decide) (by decide) (by decide) ?_
            intro v123 T123 L123 X123 hQ123
            obtain ⟨h123, e123⟩ : ∃ z, T123.heap = z := ⟨_, rfl⟩
            rw [e123] at hQ123
            obtain ⟨b_123, cn_123, kc_123, rfl, N123q, K123, fr123_b, fr123_cn, P123_0, P123_1, P123_2, P123_3, P123_4, P123_5⟩ := hQ123
            have N123 := Fr.app N122 N123q
            have ne_b_118_b_123 : b_118 ≠ b_123 := ne_new P118_0.lt fr123_b
            have ne_b_119_b_123 : b_119 ≠ b_123 := ne_new P119_0.lt fr123_b
            have ne_b_120_b_123 : b_120 ≠ b_123 := ne_new P120_0.lt fr123_b
            have ne_b_121_b_123 : b_121 ≠ b_123 := ne_new P121_0.lt fr123_b
            have ne_cn_121_b_123 : cn_121 ≠ b_123 := ne_new P121_2.lt fr123_b
            have ne_b_122_b_123 : b_122 ≠ b_123 := ne_new P122_0.lt fr123_b
            have ne_cn_122_b_123 : cn_122 ≠ b_123 := ne_new P122_2.lt fr123_b
            have g_b_123 : Z.heap.size ≤ b_123 := Nat.le_trans OK122.1 fr123_b
            have ne_b_118_cn_123 : b_118 ≠ cn_123 := ne_new P118_0.lt fr123_cn
            have ne_b_119_cn_123 : b_119 ≠ cn_123 := ne_new P119_0.lt fr123_cn
            have ne_b_120_cn_123 : b_120 ≠ cn_123 := ne_new P120_0.lt fr123_cn
            have ne_b_121_cn_123 : b_121 ≠ cn_123 := ne_new P121_0.lt fr123_cn
            have ne_cn_121_cn_123 : cn_121 ≠ cn_123 := ne_new P121_2.lt fr123_cn
            have ne_b_122_cn_123 : b_122 ≠ cn_123 := ne_new P122_0.lt fr123_cn
            have ne_cn_122_cn_123 : cn_122 ≠ cn_123 := ne_new P122_2.lt fr123_cn
            have g_cn_123 : Z.heap.size ≤ cn_123 := Nat.le_trans OK122.1 fr123_cn
            replace P118_0 := P118_0.keep K123 nin0
            replace P118_1 := P118_1.keep K123
            replace P119_0 := P119_0.keep K123 nin0
            replace P119_1 := P119_1.keep K123
            replace P120_0 := P120_0.keep K123 nin0
            replace P120_1 := P120_1.keep K123
            replace P121_0 := P121_0.keep K123
            replace P121_1 := P121_1.keep K123 nin0
            replace P121_2 := P121_2.keep K123 nin0
            replace P121_3 := P121_3.keep K123 nin0
            replace P121_4 := P121_4.keep K123 nin0
            replace P121_5 := P121_5.keep K123 nin0
            replace P122_0 := P122_0.keep K123
            replace P122_1 := P122_1.keep K123 nin0
            replace P122_2 := P122_2.keep K123 nin0
            replace P122_3 := P122_3.keep K123 nin0
            replace P122_4 := P122_4.keep K123 nin0
            replace P122_5 := P122_5.keep K123 nin0
            have OK123 := ext_keep OK122 K123 all0
            refine Go.astore X123 hx (hb hby at_162) rfl (l' := #[.val (.int pl), .val (.int pm), .val (.int px), .val (.int py), .val (.int pk), .val (.int (0 : Int32)), .val (.int (1 : Int32)), .val (.int A0), .val (.int A1), .val (.int A2), .val (.int C0), .val (.int C1), .val (.int C2), .val (.ref b_118), .val (.ref b_119), .val (.ref b_120), .val (.ref b_121), .val (.ref b_122), .val (.ref b_123), .unset]) rfl (q := 164) rfl ?_
            refine Go.aload X123 hx (hb hby at_164) rfl rfl (q := 166) rfl ?_
            refine Go.virt X123 hx hZ hown (wd36 hw) (wd37 hw) (notFace_of_selects (args := #[]) (mvT hZ (wd39 hw))) (wd39 hw) (wd38 hw) (wd7 hw) (wd40 hw) (by decide) (clen l Z a0 hw b_121 cn_121 (kc_121) ((0 : Int32)) ([]) h123 OK123 P121_1 P121_2) e123 P121_0 (by rw [hml]; rfl) (hb hby at_166) (argsL := []) (rest := []) (lenOf pd5 rfl) rfl rfl (W := 0) (by first | exact Nat.le_refl _ | decide) (by decide) (by decide) (by decide) (by decide) ?_
            intro v124 T124 L124 X124 hQ124
            obtain ⟨rfl, N124q, e124⟩ := hQ124
            have N124 := Fr.app N123 N124q
            refine Go.iload X124 hx (hb hby at_169) rfl (q := 171) rfl ?_
            refine Go.icmpNo X124 hx (hb hby at_171) (by decide) (q := 174) rfl ?_
            refine Go.aload X124 hx (hb hby at_174) rfl rfl (q := 176) rfl ?_
            refine Go.virt X124 hx hZ hown (wd36 hw) (wd37 hw) (notFace_of_selects (args := #[]) (mvT hZ (wd39 hw))) (wd39 hw) (wd38 hw) (wd7 hw) (wd40 hw) (by decide) (clen l Z a0 hw b_123 cn_123 (kc_123) ((1 : Int32)) ([(.int C0)]) h123 OK123 P123_1 P123_2) e124 P123_0 (by rw [hml]; rfl) (hb hby at_176) (argsL := []) (rest := []) (lenOf pd5 rfl) rfl rfl (W := 0) (by first | exact Nat.le_refl _ | decide) (by decide) (by decide) (by decide) (by decide) ?_
            intro v125 T125 L125 X125 hQ125
            obtain ⟨rfl, N125q, e125⟩ := hQ125
            have N125 := Fr.app N124 N125q
            refine Go.iload X125 hx (hb hby at_179) rfl (q := 181) rfl ?_
            refine Go.icmpNo X125 hx (hb hby at_181) (by decide) (q := 184) rfl ?_
            refine Go.aload X125 hx (hb hby at_184) rfl rfl (q := 186) rfl ?_
            refine Go.virt X125 hx hZ hown (wd41 hw) (wd42 hw) (notFace_of_selects (args := #[]) (mvT hZ (wd44 hw))) (wd44 hw) (wd43 hw) (wd7 hw) (wd45 hw) (by decide) (clast l Z a0 hw b_121 h123 OK123 P121_3) e125 P121_0 (by rw [hml]; rfl) (hb hby at_186) (argsL := []) (rest := []) (lenOf pd6 rfl) rfl rfl (W := 0) (by first | exact Nat.le_refl _ | decide) (by decide) (by decide) (by decide) (by decide) ?_
            intro v126 T126 L126 X126 hQ126
            obtain ⟨rfl, N126q, e126⟩ := hQ126
            have N126 := Fr.app N125 N126q
            refine Go.ifnonnullNo X126 hx (hb hby at_189) (q := 192) rfl ?_
            refine Go.aload X126 hx (hb hby at_192) rfl rfl (q := 194) rfl ?_
            refine Go.virt X126 hx hZ hown (wd46 hw) (wd47 hw) (notFace_of_selects (args := #[]) (mvT hZ (wd49 hw))) (wd49 hw) (wd48 hw) (wd7 hw) (wd50 hw) (by decide) (cshar l Z a0 hw b_121 h123 OK123 P121_4) e126 P121_0 (by rw [hml]; rfl) (hb hby at_194) (argsL := []) (rest := []) (lenOf pd7 rfl) rfl rfl (W := 0) (by first | exact Nat.le_refl _ | decide) (by decide) (by decide) (by decide) (by decide) ?_
            intro v127 T127 L127 X127 hQ127
            obtain ⟨rfl, N127q, e127⟩ := hQ127
            have N127 := Fr.app N126 N127q
            refine Go.ifNo X127 hx (hb hby at_197) (by decide) (q := 200) rfl ?_
            refine Go.aload X127 hx (hb hby at_200) rfl rfl (q := 202) rfl ?_
            refine Go.virt X127 hx hZ hown (wd51 hw) (wd52 hw) (notFace_of_selects (args := #[]) (mvT hZ (wd54 hw))) (wd54 hw) (wd53 hw) (wd7 hw) (wd55 hw) (by decide) (cremo l Z a0 hw b_121 h123 OK123 P121_5) e127 P121_0 (by rw [hml]; rfl) (hb hby at_202) (argsL := []) (rest := []) (lenOf pd7 rfl) rfl rfl (W := 0) (by first | exact Nat.le_refl _ | decide) (by decide) (by decide) (by decide) (by decide) ?_
            intro v128 T128 L128 X128 hQ128
            obtain ⟨rfl, N128q, e128⟩ := hQ128
            have N128 := Fr.app N127 N128q
            refine Go.ifNo X128 hx (hb hby at_205) (by decide) (q := 208) rfl ?_
            refine Go.iconst X128 hx (hb hby at_208) (r := (1 : Int32)) rfl (q := 209) rfl ?_
            refine Go.goto X128 hx (hb hby at_209) (q := 213) (by decide) (by decide) ?_
            refine Go.istore X128 hx (hb hby at_213) (l' := #[.val (.int pl), .val (.int pm), .val (.int px), .val (.int py), .val (.int pk), .val (.int (0 : Int32)), .val (.int (1 : Int32)), .val (.int A0), .val (.int A1), .val (.int A2), .val (.int C0), .val (.int C1), .val (.int C2), .val (.ref b_118), .val (.ref b_119), .val (.ref b_120), .val (.ref b_121), .val (.ref b_122), .val (.ref b_123), .val (.int (1 : Int32))]) rfl (q := 215) rfl ?_
            refine Go.iload X128 hx (hb hby at_215) rfl (q := 217) rfl ?_
            refine Go.ifNo X128 hx (hb hby at_217) (by decide) (q := 220) rfl ?_
            refine Go.aload X128 hx (hb hby at_220) rfl rfl (q := 222) rfl ?_
            refine Go.aload X128 hx (hb hby at_222) rfl rfl (q := 224) rfl ?_
            refine Go.virt X128 hx hZ hown (wd56 hw) (wd57 hw) (notFace_of_selects (args := #[]) (mvT hZ (wd59 hw))) (wd59 hw) (wd58 hw) (wd7 hw) (wd60 hw) (by decide) (chs0_0 l Z a0 hw b_121 b_122 cn_121 cn_122 (kc_121) (kc_122) h123 OK123 P121_1 P122_1 P121_2 P122_2 ne_cn_121_cn_122) e128 P121_0 (by rw [hml]; rfl) (hb hby at_224) (argsL := [(.ref b_122)]) (rest := []) (lenOf pd8 rfl) rfl rfl (W := 0) (by first | exact Nat.le_refl _ | decide) (by decide) (by decide) (by decide) (by decide) ?_
            intro v129 T129 L129 X129 hQ129
            obtain ⟨rfl, N129q, e129⟩ := hQ129
            have N129 := Fr.app N128 N129q
            refine Go.ifNo X129 hx (hb hby at_227) (by decide) (q := 230) rfl ?_
            refine Go.iconst X129 hx (hb hby at_230) (r := (1 : Int32)) rfl (q := 231) rfl ?_
            refine Go.goto X129 hx (hb hby at_231) (q := 235) (by decide) (by decide) ?_
            refine Go.istore X129 hx (hb hby at_235) (l' := #[.val (.int pl), .val (.int pm), .val (.int px), .val (.int py), .val (.int pk), .val (.int (0 : Int32)), .val (.int (1 : Int32)), .val (.int A0), .val (.int A1), .val (.int A2), .val (.int C0), .val (.int C1), .val (.int C2), .val (.ref b_118), .val (.ref b_119), .val (.ref b_120), .val (.ref b_121), .val (.ref b_122), .val (.ref b_123), .val (.int (1 : Int32))]) rfl (q := 237) rfl ?_
            refine Go.iload X129 hx (hb hby at_237) rfl (q := 239) rfl ?_
            refine Go.ifNo X129 hx (hb hby at_239) (by decide) (q := 242) rfl ?_
            refine Go.aload X129 hx (hb hby at_242) rfl rfl (q := 244) rfl ?_
            refine Go.aload X129 hx (hb hby at_244) rfl rfl (q := 246) rfl ?_
            refine Go.virt X129 hx hZ hown (wd56 hw) (wd57 hw) (notFace_of_selects (args := #[]) (mvT hZ (wd59 hw))) (wd59 hw) (wd58 hw) (wd7 hw) (wd60 hw) (by decide) (chsd0_1 l Z a0 hw b_121 b_123 cn_121 cn_123 (kc_121) (kc_123) C0 h123 OK123 P121_1 P123_1 P121_2 P123_2 ne_cn_121_cn_123) e129 P121_0 (by rw [hml]; rfl) (hb hby at_246) (argsL := [(.ref b_123)]) (rest := []) (lenOf pd8 rfl) rfl rfl (W := 0) (by first | exact Nat.le_refl _ | decide) (by decide) (by decide) (by decide) (by decide) ?_
            intro v130 T130 L130 X130 hQ130
            obtain ⟨rfl, N130q, e130⟩ := hQ130
            have N130 := Fr.app N129 N130q
            refine Go.aload X130 hx (hb hby at_249) rfl rfl (q := 251) rfl ?_
            refine Go.aload X130 hx (hb hby at_251) rfl rfl (q := 253) rfl ?_
            refine Go.callS X130 hx hZ hown (wd69 hw) (wd70 hw) (wd2 hw) (wd71 hw) (by decide) (csamd0_1 l Z a0 hw b_119 b_120 (kb_119) (kb_120) C0 h123 OK123 P119_0 P120_0) e130 (by rw [hml]; rfl) (hb hby at_253) (argsL := [(.ref b_119), (.ref b_120)]) (rest := [(.int (0 : Int32))]) (lenOf pd2 rfl) rfl rfl (W := 1) (by first | exact Nat.le_refl _ | decide) (by decide) (by decide) (by decide) (by decide) ?_
            intro v131 T131 L131 X131 hQ131
            obtain ⟨rfl, N131q, e131⟩ := hQ131
            have N131 := Fr.app N130 N131q
            refine Go.icmpNo X131 hx (hb hby at_256) (by decide) (q := 259) rfl ?_
            refine Go.iconst X131 hx (hb hby at_259) (r := (1 : Int32)) rfl (q := 260) rfl ?_
            refine Go.goto X131 hx (hb hby at_260) (q := 264) (by decide) (by decide) ?_
            refine Go.istore X131 hx (hb hby at_264) (l' := #[.val (.int pl), .val (.int pm), .val (.int px), .val (.int py), .val (.int pk), .val (.int (0 : Int32)), .val (.int (1 : Int32)), .val (.int A0), .val (.int A1), .val (.int A2), .val (.int C0), .val (.int C1), .val (.int C2), .val (.ref b_118), .val (.ref b_119), .val (.ref b_120), .val (.ref b_121), .val (.ref b_122), .val (.ref b_123), .val (.int (1 : Int32))]) rfl (q := 266) rfl ?_
            refine Go.iload X131 hx (hb hby at_266) rfl (q := 268) rfl ?_
            exact Go.retI X131 hx hret hlk (by simp) rfl (hb hby at_268) e131 (by decide) (by decide) ⟨rfl, N131⟩
          by_cases hc132 : (pk &&& (4 : Int32)) = (0 : Int32)
          · refine Go.ifNo X0 hx (hb hby at_67) (Jvm.Free.XT.i0_ne_f hc132) (q := 70) rfl ?_
            refine Go.iload X0 hx (hb hby at_70) rfl (q := 72) rfl ?_
            refine Go.goto X0 hx (hb hby at_72) (q := 80) (by decide) (by decide) ?_
            exact J80 _ hA2
          · refine Go.ifYes X0 hx (hb hby at_67) (Jvm.Free.XT.i0_ne_t hc132) (q := 75) (by decide) (by decide) ?_
            refine Go.iloadN X0 hx (hb hby at_75) rfl (q := 76) rfl ?_
            refine Go.bipush X0 hx (hb hby at_76) (r := (16 : Int32)) rfl (q := 78) rfl ?_
            refine Go.iushr X0 hx (hb hby at_78) rfl (q := 79) rfl ?_
            refine Go.i2b X0 hx (hb hby at_79) rfl (q := 80) rfl ?_
            exact J80 _ (bb _)
        by_cases hc133 : (pk &&& (2 : Int32)) = (0 : Int32)
        · refine Go.ifNo X0 hx (hb hby at_48) (Jvm.Free.XT.i0_ne_f hc133) (q := 51) rfl ?_
          refine Go.iload X0 hx (hb hby at_51) rfl (q := 53) rfl ?_
          refine Go.goto X0 hx (hb hby at_53) (q := 61) (by decide) (by decide) ?_
          exact J61 _ hA1
        · refine Go.ifYes X0 hx (hb hby at_48) (Jvm.Free.XT.i0_ne_t hc133) (q := 56) (by decide) (by decide) ?_
          refine Go.iloadN X0 hx (hb hby at_56) rfl (q := 57) rfl ?_
          refine Go.bipush X0 hx (hb hby at_57) (r := (8 : Int32)) rfl (q := 59) rfl ?_
          refine Go.iushr X0 hx (hb hby at_59) rfl (q := 60) rfl ?_
          refine Go.i2b X0 hx (hb hby at_60) rfl (q := 61) rfl ?_
          exact J61 _ (bb _)
      by_cases hc134 : (pk &&& (1 : Int32)) = (0 : Int32)
      · refine Go.ifNo X0 hx (hb hby at_32) (Jvm.Free.XT.i0_ne_f hc134) (q := 35) rfl ?_
        refine Go.iload X0 hx (hb hby at_35) rfl (q := 37) rfl ?_
        refine Go.goto X0 hx (hb hby at_37) (q := 42) (by decide) (by decide) ?_
        exact J42 _ hA0
      · refine Go.ifYes X0 hx (hb hby at_32) (Jvm.Free.XT.i0_ne_t hc134) (q := 40) (by decide) (by decide) ?_
        refine Go.iloadN X0 hx (hb hby at_40) rfl (q := 41) rfl ?_
        refine Go.i2b X0 hx (hb hby at_41) rfl (q := 42) rfl ?_
        exact J42 _ (bb _)
    · show Go pp ee below _ (s₁.setTop (mkF mm 8 #[.val (.int pl), .val (.int pm), .val (.int px), .val (.int py), .val (.int pk), .val (.int (0 : Int32)), .unset, .unset, .unset, .unset, .unset, .unset, .unset, .unset, .unset, .unset, .unset, .unset, .unset, .unset] [(.int (2 : Int32))]))
      refine Go.istore X0 hx (hb hby at_8) (l' := #[.val (.int pl), .val (.int pm), .val (.int px), .val (.int py), .val (.int pk), .val (.int (0 : Int32)), .val (.int (2 : Int32)), .unset, .unset, .unset, .unset, .unset, .unset, .unset, .unset, .unset, .unset, .unset, .unset, .unset]) rfl (q := 10) rfl ?_
      refine Go.iloadN X0 hx (hb hby at_10) rfl (q := 11) rfl ?_
      refine Go.i2b X0 hx (hb hby at_11) rfl (q := 12) rfl ?_
      have hA0 := bb px
      generalize (px.toInt8.toInt32) = A0 at hA0 ⊢
      refine Go.istore X0 hx (hb hby at_12) (l' := #[.val (.int pl), .val (.int pm), .val (.int px), .val (.int py), .val (.int pk), .val (.int (0 : Int32)), .val (.int (2 : Int32)), .val (.int A0), .unset, .unset, .unset, .unset, .unset, .unset, .unset, .unset, .unset, .unset, .unset, .unset]) rfl (q := 14) rfl ?_
      refine Go.iloadN X0 hx (hb hby at_14) rfl (q := 15) rfl ?_
      refine Go.bipush X0 hx (hb hby at_15) (r := (8 : Int32)) rfl (q := 17) rfl ?_
      refine Go.iushr X0 hx (hb hby at_17) rfl (q := 18) rfl ?_
      refine Go.i2b X0 hx (hb hby at_18) rfl (q := 19) rfl ?_
      have hA1 := bb ((px.toUInt32 >>> ((8 : Int32) &&& 31).toUInt32).toInt32)
      generalize (((px.toUInt32 >>> ((8 : Int32) &&& 31).toUInt32).toInt32).toInt8.toInt32) = A1 at hA1 ⊢
      refine Go.istore X0 hx (hb hby at_19) (l' := #[.val (.int pl), .val (.int pm), .val (.int px), .val (.int py), .val (.int pk), .val (.int (0 : Int32)), .val (.int (2 : Int32)), .val (.int A0), .val (.int A1), .unset, .unset, .unset, .unset, .unset, .unset, .unset, .unset, .unset, .unset, .unset]) rfl (q := 21) rfl ?_
      refine Go.iloadN X0 hx (hb hby at_21) rfl (q := 22) rfl ?_
      refine Go.bipush X0 hx (hb hby at_22) (r := (16 : Int32)) rfl (q := 24) rfl ?_
      refine Go.iushr X0 hx (hb hby at_24) rfl (q := 25) rfl ?_
      refine Go.i2b X0 hx (hb hby at_25) rfl (q := 26) rfl ?_
      have hA2 := bb ((px.toUInt32 >>> ((16 : Int32) &&& 31).toUInt32).toInt32)
      generalize (((px.toUInt32 >>> ((16 : Int32) &&& 31).toUInt32).toInt32).toInt8.toInt32) = A2 at hA2 ⊢
      refine Go.istore X0 hx (hb hby at_26) (l' := #[.val (.int pl), .val (.int pm), .val (.int px), .val (.int py), .val (.int pk), .val (.int (0 : Int32)), .val (.int (2 : Int32)), .val (.int A0), .val (.int A1), .val (.int A2), .unset, .unset, .unset, .unset, .unset, .unset, .unset, .unset, .unset, .unset]) rfl (q := 28) rfl ?_
      refine Go.iload X0 hx (hb hby at_28) rfl (q := 30) rfl ?_
      refine Go.iconst X0 hx (hb hby at_30) (r := (1 : Int32)) rfl (q := 31) rfl ?_
      refine Go.iand X0 hx (hb hby at_31) rfl (q := 32) rfl ?_
      have J42 : ∀ (C0 : Int32), (C0.toInt8.toInt32) = C0 → Go pp ee below (KK ss (Q_law0 Z pl pm px py pk h0) room_1.cells room_1.slots) (s₁.setTop (mkF mm 42 #[.val (.int pl), .val (.int pm), .val (.int px), .val (.int py), .val (.int pk), .val (.int (0 : Int32)), .val (.int (2 : Int32)), .val (.int A0), .val (.int A1), .val (.int A2), .unset, .unset, .unset, .unset, .unset, .unset, .unset, .unset, .unset, .unset] [(.int C0)])) := by
        intro C0 hC0
        refine Go.istore X0 hx (hb hby at_42) (l' := #[.val (.int pl), .val (.int pm), .val (.int px), .val (.int py), .val (.int pk), .val (.int (0 : Int32)), .val (.int (2 : Int32)), .val (.int A0), .val (.int A1), .val (.int A2), .val (.int C0), .unset, .unset, .unset, .unset, .unset, .unset, .unset, .unset, .unset]) rfl (q := 44) rfl ?_
        refine Go.iload X0 hx (hb hby at_44) rfl (q := 46) rfl ?_
        refine Go.iconst X0 hx (hb hby at_46) (r := (2 : Int32)) rfl (q := 47) rfl ?_
        refine Go.iand X0 hx (hb hby at_47) rfl (q := 48) rfl ?_
        have J61 : ∀ (C1 : Int32), (C1.toInt8.toInt32) = C1 → Go pp ee below (KK ss (Q_law0 Z pl pm px py pk h0) room_1.cells room_1.slots) (s₁.setTop (mkF mm 61 #[.val (.int pl), .val (.int pm), .val (.int px), .val (.int py), .val (.int pk), .val (.int (0 : Int32)), .val (.int (2 : Int32)), .val (.int A0), .val (.int A1), .val (.int A2), .val (.int C0), .unset, .unset, .unset, .unset, .unset, .unset, .unset, .unset, .unset] [(.int C1)])) := by
          intro C1 hC1
          refine Go.istore X0 hx (hb hby at_61) (l' := #[.val (.int pl), .val (.int pm), .val (.int px), .val (.int py), .val (.int pk), .val (.int (0 : Int32)), .val (.int (2 : Int32)), .val (.int A0), .val (.int A1), .val (.int A2), .val (.int C0), .val (.int C1), .unset, .unset, .unset, .unset, .unset, .unset, .unset, .unset]) rfl (q := 63) rfl ?_
          refine Go.iload X0 hx (hb hby at_63) rfl (q := 65) rfl ?_
          refine Go.iconst X0 hx (hb hby at_65) (r := (4 : Int32)) rfl (q := 66) rfl ?_
          refine Go.iand X0 hx (hb hby at_66) rfl (q := 67) rfl ?_
          have J80 : ∀ (C2 : Int32), (C2.toInt8.toInt32) = C2 → Go pp ee below (KK ss (Q_law0 Z pl pm px py pk h0) room_1.cells room_1.slots) (s₁.setTop (mkF mm 80 #[.val (.int pl), .val (.int pm), .val (.int px), .val (.int py), .val (.int pk), .val (.int (0 : Int32)), .val (.int (2 : Int32)), .val (.int A0), .val (.int A1), .val (.int A2), .val (.int C0), .val (.int C1), .unset, .unset, .unset, .unset, .unset, .unset, .unset, .unset] [(.int C2)])) := by
            intro C2 hC2
            refine Go.istore X0 hx (hb hby at_80) (l' := #[.val (.int pl), .val (.int pm), .val (.int px), .val (.int py), .val (.int pk), .val (.int (0 : Int32)), .val (.int (2 : Int32)), .val (.int A0), .val (.int A1), .val (.int A2), .val (.int C0), .val (.int C1), .val (.int C2), .unset, .unset, .unset, .unset, .unset, .unset, .unset]) rfl (q := 82) rfl ?_
            refine Go.iload X0 hx (hb hby at_82) rfl (q := 84) rfl ?_
            refine Go.iload X0 hx (hb hby at_84) rfl (q := 86) rfl ?_
            refine Go.iload X0 hx (hb hby at_86) rfl (q := 88) rfl ?_
            refine Go.iload X0 hx (hb hby at_88) rfl (q := 90) rfl ?_
            refine Go.callS X0 hx hZ hown (wd0 hw) (wd1 hw) (wd2 hw) (wd3 hw) (by decide) (make0 l Z a0 hw A0 A1 A2 h0 O0 hA0 hA1 hA2) e0 (by rw [hml]; rfl) (hb hby at_90) (argsL := [(.int (0 : Int32)), (.int A0), (.int A1), (.int A2)]) (rest := []) (lenOf pd3 rfl) rfl rfl (W := 0) (by first | exact Nat.le_refl _ | decide) (by decide) (by decide) (by decide) (by decide) ?_
            intro v135 T135 L135 X135 hQ135
            obtain ⟨h135, e135⟩ : ∃ z, T135.heap = z := ⟨_, rfl⟩
            rw [e135] at hQ135
            obtain ⟨b_135, kb_135, rfl, N135q, K135, fr135_b, P135_0, P135_1⟩ := hQ135
            have N135 := Fr.app N0 N135q
            have g_b_135 : Z.heap.size ≤ b_135 := Nat.le_trans O0.1 fr135_b
            have OK135 := ext_keep O0 K135 all0
            refine Go.astore X135 hx (hb hby at_93) rfl (l' := #[.val (.int pl), .val (.int pm), .val (.int px), .val (.int py), .val (.int pk), .val (.int (0 : Int32)), .val (.int (2 : Int32)), .val (.int A0), .val (.int A1), .val (.int A2), .val (.int C0), .val (.int C1), .val (.int C2), .val (.ref b_135), .unset, .unset, .unset, .unset, .unset, .unset]) rfl (q := 95) rfl ?_
            refine Go.iload X135 hx (hb hby at_95) rfl (q := 97) rfl ?_
            refine Go.iload X135 hx (hb hby at_97) rfl (q := 99) rfl ?_
            refine Go.iload X135 hx (hb hby at_99) rfl (q := 101) rfl ?_
            refine Go.iload X135 hx (hb hby at_101) rfl (q := 103) rfl ?_
            refine Go.callS X135 hx hZ hown (wd0 hw) (wd1 hw) (wd2 hw) (wd3 hw) (by decide) (make0 l Z a0 hw A0 A1 A2 h135 OK135 hA0 hA1 hA2) e135 (by rw [hml]; rfl) (hb hby at_103) (argsL := [(.int (0 : Int32)), (.int A0), (.int A1), (.int A2)]) (rest := []) (lenOf pd3 rfl) rfl rfl (W := 0) (by first | exact Nat.le_refl _ | decide) (by decide) (by decide) (by decide) (by decide) ?_
            intro v136 T136 L136 X136 hQ136
            obtain ⟨h136, e136⟩ : ∃ z, T136.heap = z := ⟨_, rfl⟩
            rw [e136] at hQ136
            obtain ⟨b_136, kb_136, rfl, N136q, K136, fr136_b, P136_0, P136_1⟩ := hQ136
            have N136 := Fr.app N135 N136q
            have ne_b_135_b_136 : b_135 ≠ b_136 := ne_new P135_0.lt fr136_b
            have g_b_136 : Z.heap.size ≤ b_136 := Nat.le_trans OK135.1 fr136_b
            replace P135_0 := P135_0.keep K136 nin0
            replace P135_1 := P135_1.keep K136
            have OK136 := ext_keep OK135 K136 all0
            refine Go.astore X136 hx (hb hby at_106) rfl (l' := #[.val (.int pl), .val (.int pm), .val (.int px), .val (.int py), .val (.int pk), .val (.int (0 : Int32)), .val (.int (2 : Int32)), .val (.int A0), .val (.int A1), .val (.int A2), .val (.int C0), .val (.int C1), .val (.int C2), .val (.ref b_135), .val (.ref b_136), .unset, .unset, .unset, .unset, .unset]) rfl (q := 108) rfl ?_
            refine Go.iload X136 hx (hb hby at_108) rfl (q := 110) rfl ?_
            refine Go.iload X136 hx (hb hby at_110) rfl (q := 112) rfl ?_
            refine Go.iload X136 hx (hb hby at_112) rfl (q := 114) rfl ?_
            refine Go.iload X136 hx (hb hby at_114) rfl (q := 116) rfl ?_
            refine Go.callS X136 hx hZ hown (wd0 hw) (wd1 hw) (wd2 hw) (wd3 hw) (by decide) (make2 l Z a0 hw C0 C1 C2 h136 OK136 hC0 hC1 hC2) e136 (by rw [hml]; rfl) (hb hby at_116) (argsL := [(.int (2 : Int32)), (.int C0), (.int C1), (.int C2)]) (rest := []) (lenOf pd3 rfl) rfl rfl (W := 0) (by first | exact Nat.le_refl _ | decide) (by decide) (by decide) (by decide) (by decide) ?_
            intro v137 T137 L137 X137 hQ137
            obtain ⟨h137, e137⟩ : ∃ z, T137.heap = z := ⟨_, rfl⟩
            rw [e137] at hQ137
            obtain ⟨b_137, kb_137, rfl, N137q, K137, fr137_b, P137_0, P137_1⟩ := hQ137
            have N137 := Fr.app N136 N137q
            have ne_b_135_b_137 : b_135 ≠ b_137 := ne_new P135_0.lt fr137_b
            have ne_b_136_b_137 : b_136 ≠ b_137 := ne_new P136_0.lt fr137_b
            have g_b_137 : Z.heap.size ≤ b_137 := Nat.le_trans OK136.1 fr137_b
            replace P135_0 := P135_0.keep K137 nin0
            replace P135_1 := P135_1.keep K137
            replace P136_0 := P136_0.keep K137 nin0
            replace P136_1 := P136_1.keep K137
            have OK137 := ext_keep OK136 K137 all0
            refine Go.astore X137 hx (hb hby at_119) rfl (l' := #[.val (.int pl), .val (.int pm), .val (.int px), .val (.int py), .val (.int pk), .val (.int (0 : Int32)), .val (.int (2 : Int32)), .val (.int A0), .val (.int A1), .val (.int A2), .val (.int C0), .val (.int C1), .val (.int C2), .val (.ref b_135), .val (.ref b_136), .val (.ref b_137), .unset, .unset, .unset, .unset]) rfl (q := 121) rfl ?_
            refine Go.aload X137 hx (hb hby at_121) rfl rfl (q := 123) rfl ?_
            refine Go.callS X137 hx hZ hown (wd5 hw) (wd6 hw) (wd7 hw) (wd8 hw) (by decide) (of0 l Z a0 hw b_135 (kb_135) h137 OK137 P135_0 P135_1) e137 (by rw [hml]; rfl) (hb hby at_123) (argsL := [(.ref b_135)]) (rest := []) (lenOf pd4 rfl) rfl rfl (W := 0) (by first | exact Nat.le_refl _ | decide) (by decide) (by decide) (by decide) (by decide) ?_
            intro v138 T138 L138 X138 hQ138
            obtain ⟨h138, e138⟩ : ∃ z, T138.heap = z := ⟨_, rfl⟩
            rw [e138] at hQ138
            obtain ⟨b_138, cn_138, kc_138, rfl, N138q, K138, fr138_b, fr138_cn, P138_0, P138_1, P138_2, P138_3, P138_4, P138_5⟩ := hQ138
            have N138 := Fr.app N137 N138q
            have ne_b_135_b_138 : b_135 ≠ b_138 := ne_new P135_0.lt fr138_b
            have ne_b_136_b_138 : b_136 ≠ b_138 := ne_new P136_0.lt fr138_b
            have ne_b_137_b_138 : b_137 ≠ b_138 := ne_new P137_0.lt fr138_b
            have g_b_138 : Z.heap.size ≤ b_138 := Nat.le_trans OK137.1 fr138_b
            have ne_b_135_cn_138 : b_135 ≠ cn_138 := ne_new P135_0.lt fr138_cn
            have ne_b_136_cn_138 : b_136 ≠ cn_138 := ne_new P136_0.lt fr138_cn
            have ne_b_137_cn_138 : b_137 ≠ cn_138 := ne_new P137_0.lt fr138_cn
            have g_cn_138 : Z.heap.size ≤ cn_138 := Nat.le_trans OK137.1 fr138_cn
            replace P135_0 := P135_0.keep K138 nin0
            replace P135_1 := P135_1.keep K138
            replace P136_0 := P136_0.keep K138 nin0
            replace P136_1 := P136_1.keep K138
            replace P137_0 := P137_0.keep K138 nin0
            replace P137_1 := P137_1.keep K138
            have OK138 := ext_keep OK137 K138 all0
            refine Go.astore X138 hx (hb hby at_126) rfl (l' := #[.val (.int pl), .val (.int pm), .val (.int px), .val (.int py), .val (.int pk), .val (.int (0 : Int32)), .val (.int (2 : Int32)), .val (.int A0), .val (.int A1), .val (.int A2), .val (.int C0), .val (.int C1), .val (.int C2), .val (.ref b_135), .val (.ref b_136), .val (.ref b_137), .val (.ref b_138), .unset, .unset, .unset]) rfl (q := 128) rfl ?_
            refine Go.iload X138 hx (hb hby at_128) rfl (q := 130) rfl ?_
            refine Go.ifYes X138 hx (hb hby at_130) (by decide) (q := 150) (by decide) (by decide) ?_
            refine Go.aload X138 hx (hb hby at_150) rfl rfl (q := 152) rfl ?_
            refine Go.callS X138 hx hZ hown (wd5 hw) (wd6 hw) (wd7 hw) (wd8 hw) (by decide) (of0 l Z a0 hw b_136 (kb_136) h138 OK138 P136_0 P136_1) e138 (by rw [hml]; rfl) (hb hby at_152) (argsL := [(.ref b_136)]) (rest := []) (lenOf pd4 rfl) rfl rfl (W := 0) (by first | exact Nat.le_refl _ | decide) (by decide) (by decide) (by decide) (by decide) ?_
            intro v139 T139 L139 X139 hQ139
            obtain ⟨h139, e139⟩ : ∃ z, T139.heap = z := ⟨_, rfl⟩
            rw [e139] at hQ139
            obtain ⟨b_139, cn_139, kc_139, rfl, N139q, K139, fr139_b, fr139_cn, P139_0, P139_1, P139_2, P139_3, P139_4, P139_5⟩ := hQ139
            have N139 := Fr.app N138 N139q
            have ne_b_135_b_139 : b_135 ≠ b_139 := ne_new P135_0.lt fr139_b
            have ne_b_136_b_139 : b_136 ≠ b_139 := ne_new P136_0.lt fr139_b
            have ne_b_137_b_139 : b_137 ≠ b_139 := ne_new P137_0.lt fr139_b
            have ne_b_138_b_139 : b_138 ≠ b_139 := ne_new P138_0.lt fr139_b
            have ne_cn_138_b_139 : cn_138 ≠ b_139 := ne_new P138_2.lt fr139_b
            have g_b_139 : Z.heap.size ≤ b_139 := Nat.le_trans OK138.1 fr139_b
            have ne_b_135_cn_139 : b_135 ≠ cn_139 := ne_new P135_0.lt fr139_cn
            have ne_b_136_cn_139 : b_136 ≠ cn_139 := ne_new P136_0.lt fr139_cn
            have ne_b_137_cn_139 : b_137 ≠ cn_139 := ne_new P137_0.lt fr139_cn
            have ne_b_138_cn_139 : b_138 ≠ cn_139 := ne_new P138_0.lt fr139_cn
            have ne_cn_138_cn_139 : cn_138 ≠ cn_139 := ne_new P138_2.lt fr139_cn
            have g_cn_139 : Z.heap.size ≤ cn_139 := Nat.le_trans OK138.1 fr139_cn
            replace P135_0 := P135_0.keep K139 nin0
            replace P135_1 := P135_1.keep K139
            replace P136_0 := P136_0.keep K139 nin0
            replace P136_1 := P136_1.keep K139
            replace P137_0 := P137_0.keep K139 nin0
            replace P137_1 := P137_1.keep K139
            replace P138_0 := P138_0.keep K139
            replace P138_1 := P138_1.keep K139 nin0
            replace P138_2 := P138_2.keep K139 nin0
            replace P138_3 := P138_3.keep K139 nin0
            replace P138_4 := P138_4.keep K139 nin0
            replace P138_5 := P138_5.keep K139 nin0
            have OK139 := ext_keep OK138 K139 all0
            refine Go.astore X139 hx (hb hby at_155) rfl (l' := #[.val (.int pl), .val (.int pm), .val (.int px), .val (.int py), .val (.int pk), .val (.int (0 : Int32)), .val (.int (2 : Int32)), .val (.int A0), .val (.int A1), .val (.int A2), .val (.int C0), .val (.int C1), .val (.int C2), .val (.ref b_135), .val (.ref b_136), .val (.ref b_137), .val (.ref b_138), .val (.ref b_139), .unset, .unset]) rfl (q := 157) rfl ?_
            refine Go.aload X139 hx (hb hby at_157) rfl rfl (q := 159) rfl ?_
            refine Go.callS X139 hx hZ hown (wd5 hw) (wd6 hw) (wd7 hw) (wd8 hw) (by decide) (of2 l Z a0 hw b_137 (kb_137) C0 C1 h139 OK139 P137_0 P137_1) e139 (by rw [hml]; rfl) (hb hby at_159) (argsL := [(.ref b_137)]) (rest := []) (lenOf pd4 rfl) rfl rfl (W := 0) (by first | exact Nat.le_refl _ | decide) (by decide) (by decide) (by decide) (by decide) ?_
            intro v140 T140 L140 X140 hQ140
            obtain ⟨h140, e140⟩ : ∃ z, T140.heap = z := ⟨_, rfl⟩
            rw [e140] at hQ140
            obtain ⟨b_140, cn_140, kc_140, rfl, N140q, K140, fr140_b, fr140_cn, P140_0, P140_1, P140_2, P140_3, P140_4, P140_5⟩ := hQ140
            have N140 := Fr.app N139 N140q
            have ne_b_135_b_140 : b_135 ≠ b_140 := ne_new P135_0.lt fr140_b
            have ne_b_136_b_140 : b_136 ≠ b_140 := ne_new P136_0.lt fr140_b
            have ne_b_137_b_140 : b_137 ≠ b_140 := ne_new P137_0.lt fr140_b
            have ne_b_138_b_140 : b_138 ≠ b_140 := ne_new P138_0.lt fr140_b
            have ne_cn_138_b_140 : cn_138 ≠ b_140 := ne_new P138_2.lt fr140_b
            have ne_b_139_b_140 : b_139 ≠ b_140 := ne_new P139_0.lt fr140_b
            have ne_cn_139_b_140 : cn_139 ≠ b_140 := ne_new P139_2.lt fr140_b
            have g_b_140 : Z.heap.size ≤ b_140 := Nat.le_trans OK139.1 fr140_b
            have ne_b_135_cn_140 : b_135 ≠ cn_140 := ne_new P135_0.lt fr140_cn
            have ne_b_136_cn_140 : b_136 ≠ cn_140 := ne_new P136_0.lt fr140_cn
            have ne_b_137_cn_140 : b_137 ≠ cn_140 := ne_new P137_0.lt fr140_cn
            have ne_b_138_cn_140 : b_138 ≠ cn_140 := ne_new P138_0.lt fr140_cn
            have ne_cn_138_cn_140 : cn_138 ≠ cn_140 := ne_new P138_2.lt fr140_cn
            have ne_b_139_cn_140 : b_139 ≠ cn_140 := ne_new P139_0.lt fr140_cn
            have ne_cn_139_cn_140 : cn_139 ≠ cn_140 := ne_new P139_2.lt fr140_cn
            have g_cn_140 : Z.heap.size ≤ cn_140 := Nat.le_trans OK139.1 fr140_cn
            replace P135_0 := P135_0.keep K140 nin0
            replace P135_1 := P135_1.keep K140
            replace P136_0 := P136_0.keep K140 nin0
            replace P136_1 := P136_1.keep K140
            replace P137_0 := P137_0.keep K140 nin0
            replace P137_1 := P137_1.keep K140
            replace P138_0 := P138_0.keep K140
            replace P138_1 := P138_1.keep K140 nin0
            replace P138_2 := P138_2.keep K140 nin0
            replace P138_3 := P138_3.keep K140 nin0
            replace P138_4 := P138_4.keep K140 nin0
            replace P138_5 := P138_5.keep K140 nin0
            replace P139_0 := P139_0.keep K140
            replace P139_1 := P139_1.keep K140 nin0
            replace P139_2 := P139_2.keep K140 nin0
            replace P139_3 := P139_3.keep K140 nin0
            replace P139_4 := P139_4.keep K140 nin0
            replace P139_5 := P139_5.keep K140 nin0
            have OK140 := ext_keep OK139 K140 all0
            refine Go.astore X140 hx (hb hby at_162) rfl (l' := #[.val (.int pl), .val (.int pm), .val (.int px), .val (.int py), .val (.int pk), .val (.int (0 : Int32)), .val (.int (2 : Int32)), .val (.int A0), .val (.int A1), .val (.int A2), .val (.int C0), .val (.int C1), .val (.int C2), .val (.ref b_135), .val (.ref b_136), .val (.ref b_137), .val (.ref b_138), .val (.ref b_139), .val (.ref b_140), .unset]) rfl (q := 164) rfl ?_
            refine Go.aload X140 hx (hb hby at_164) rfl rfl (q := 166) rfl ?_
            refine Go.virt X140 hx hZ hown (wd36 hw) (wd37 hw) (notFace_of_selects (args := #[]) (mvT hZ (wd39 hw))) (wd39 hw) (wd38 hw) (wd7 hw) (wd40 hw) (by decide) (clen l Z a0 hw b_138 cn_138 (kc_138) ((0 : Int32)) ([]) h140 OK140 P138_1 P138_2) e140 P138_0 (by rw [hml]; rfl) (hb hby at_166) (argsL := []) (rest := []) (lenOf pd5 rfl) rfl rfl (W := 0) (by first | exact Nat.le_refl _ | decide) (by decide) (by decide) (by decide) (by decide) ?_
            intro v141 T141 L141 X141 hQ141
            obtain ⟨rfl, N141q, e141⟩ := hQ141
            have N141 := Fr.app N140 N141q
            refine Go.iload X141 hx (hb hby at_169) rfl (q := 171) rfl ?_
            refine Go.icmpNo X141 hx (hb hby at_171) (by decide) (q := 174) rfl ?_
            refine Go.aload X141 hx (hb hby at_174) rfl rfl (q := 176) rfl ?_
            refine Go.virt X141 hx hZ hown (wd36 hw) (wd37 hw) (notFace_of_selects (args := #[]) (mvT hZ (wd39 hw))) (wd39 hw) (wd38 hw) (wd7 hw) (wd40 hw) (by decide) (clen l Z a0 hw b_140 cn_140 (kc_140) ((2 : Int32)) ([(.int C0), (.int C1)]) h140 OK140 P140_1 P140_2) e141 P140_0 (by rw [hml]; rfl) (hb hby at_176) (argsL := []) (rest := []) (lenOf pd5 rfl) rfl rfl (W := 0) (by first | exact Nat.le_refl _ | decide) (by decide) (by decide) (by decide) (by decide) ?_
            intro v142 T142 L142 X142 hQ142
            obtain ⟨rfl, N142q, e142⟩ := hQ142
            have N142 := Fr.app N141 N142q
            refine Go.iload X142 hx (hb hby at_179) rfl (q := 181) rfl ?_
            refine Go.icmpNo X142 hx (hb hby at_181) (by decide) (q := 184) rfl ?_
            refine Go.aload X142 hx (hb hby at_184) rfl rfl (q := 186) rfl ?_
            refine Go.virt X142 hx hZ hown (wd41 hw) (wd42 hw) (notFace_of_selects (args := #[]) (mvT hZ (wd44 hw))) (wd44 hw) (wd43 hw) (wd7 hw) (wd45 hw) (by decide) (clast l Z a0 hw b_138 h140 OK140 P138_3) e142 P138_0 (by rw [hml]; rfl) (hb hby at_186) (argsL := []) (rest := []) (lenOf pd6 rfl) rfl rfl (W := 0) (by first | exact Nat.le_refl _ | decide) (by decide) (by decide) (by decide) (by decide) ?_
            intro v143 T143 L143 X143 hQ143
            obtain ⟨rfl, N143q, e143⟩ := hQ143
            have N143 := Fr.app N142 N143q
            refine Go.ifnonnullNo X143 hx (hb hby at_189) (q := 192) rfl ?_
            refine Go.aload X143 hx (hb hby at_192) rfl rfl (q := 194) rfl ?_
            refine Go.virt X143 hx hZ hown (wd46 hw) (wd47 hw) (notFace_of_selects (args := #[]) (mvT hZ (wd49 hw))) (wd49 hw) (wd48 hw) (wd7 hw) (wd50 hw) (by decide) (cshar l Z a0 hw b_138 h140 OK140 P138_4) e143 P138_0 (by rw [hml]; rfl) (hb hby at_194) (argsL := []) (rest := []) (lenOf pd7 rfl) rfl rfl (W := 0) (by first | exact Nat.le_refl _ | decide) (by decide) (by decide) (by decide) (by decide) ?_
            intro v144 T144 L144 X144 hQ144
            obtain ⟨rfl, N144q, e144⟩ := hQ144
            have N144 := Fr.app N143 N144q
            refine Go.ifNo X144 hx (hb hby at_197) (by decide) (q := 200) rfl ?_
            refine Go.aload X144 hx (hb hby at_200) rfl rfl (q := 202) rfl ?_
            refine Go.virt X144 hx hZ hown (wd51 hw) (wd52 hw) (notFace_of_selects (args := #[]) (mvT hZ (wd54 hw))) (wd54 hw) (wd53 hw) (wd7 hw) (wd55 hw) (by decide) (cremo l Z a0 hw b_138 h140 OK140 P138_5) e144 P138_0 (by rw [hml]; rfl) (hb hby at_202) (argsL := []) (rest := []) (lenOf pd7 rfl) rfl rfl (W := 0) (by first | exact Nat.le_refl _ | decide) (by decide) (by decide) (by decide) (by decide) ?_
            intro v145 T145 L145 X145 hQ145
            obtain ⟨rfl, N145q, e145⟩ := hQ145
            have N145 := Fr.app N144 N145q
            refine Go.ifNo X145 hx (hb hby at_205) (by decide) (q := 208) rfl ?_
            refine Go.iconst X145 hx (hb hby at_208) (r := (1 : Int32)) rfl (q := 209) rfl ?_
            refine Go.goto X145 hx (hb hby at_209) (q := 213) (by decide) (by decide) ?_
            refine Go.istore X145 hx (hb hby at_213) (l' := #[.val (.int pl), .val (.int pm), .val (.int px), .val (.int py), .val (.int pk), .val (.int (0 : Int32)), .val (.int (2 : Int32)), .val (.int A0), .val (.int A1), .val (.int A2), .val (.int C0), .val (.int C1), .val (.int C2), .val (.ref b_135), .val (.ref b_136), .val (.ref b_137), .val (.ref b_138), .val (.ref b_139), .val (.ref b_140), .val (.int (1 : Int32))]) rfl (q := 215) rfl ?_
            refine Go.iload X145 hx (hb hby at_215) rfl (q := 217) rfl ?_
            refine Go.ifNo X145 hx (hb hby at_217) (by decide) (q := 220) rfl ?_
            refine Go.aload X145 hx (hb hby at_220) rfl rfl (q := 222) rfl ?_
            refine Go.aload X145 hx (hb hby at_222) rfl rfl (q := 224) rfl ?_
            refine Go.virt X145 hx hZ hown (wd56 hw) (wd57 hw) (notFace_of_selects (args := #[]) (mvT hZ (wd59 hw))) (wd59 hw) (wd58 hw) (wd7 hw) (wd60 hw) (by decide) (chs0_0 l Z a0 hw b_138 b_139 cn_138 cn_139 (kc_138) (kc_139) h140 OK140 P138_1 P139_1 P138_2 P139_2 ne_cn_138_cn_139) e145 P138_0 (by rw [hml]; rfl) (hb hby at_224) (argsL := [(.ref b_139)]) (rest := []) (lenOf pd8 rfl) rfl rfl (W := 0) (by first | exact Nat.le_refl _ | decide) (by decide) (by decide) (by decide) (by decide) ?_
            intro v146 T146 L146 X146 hQ146
            obtain ⟨rfl, N146q, e146⟩ := hQ146
            have N146 := Fr.app N145 N146q
            refine Go.ifNo X146 hx (hb hby at_227) (by decide) (q := 230) rfl ?_
            refine Go.iconst X146 hx (hb hby at_230) (r := (1 : Int32)) rfl (q := 231) rfl ?_
            refine Go.goto X146 hx (hb hby at_231) (q := 235) (by decide) (by decide) ?_
            refine Go.istore X146 hx (hb hby at_235) (l' := #[.val (.int pl), .val (.int pm), .val (.int px), .val (.int py), .val (.int pk), .val (.int (0 : Int32)), .val (.int (2 : Int32)), .val (.int A0), .val (.int A1), .val (.int A2), .val (.int C0), .val (.int C1), .val (.int C2), .val (.ref b_135), .val (.ref b_136), .val (.ref b_137), .val (.ref b_138), .val (.ref b_139), .val (.ref b_140), .val (.int (1 : Int32))]) rfl (q := 237) rfl ?_
            refine Go.iload X146 hx (hb hby at_237) rfl (q := 239) rfl ?_
            refine Go.ifNo X146 hx (hb hby at_239) (by decide) (q := 242) rfl ?_
            refine Go.aload X146 hx (hb hby at_242) rfl rfl (q := 244) rfl ?_
            refine Go.aload X146 hx (hb hby at_244) rfl rfl (q := 246) rfl ?_
            refine Go.virt X146 hx hZ hown (wd56 hw) (wd57 hw) (notFace_of_selects (args := #[]) (mvT hZ (wd59 hw))) (wd59 hw) (wd58 hw) (wd7 hw) (wd60 hw) (by decide) (chsd0_2 l Z a0 hw b_138 b_140 cn_138 cn_140 (kc_138) (kc_140) C0 C1 h140 OK140 P138_1 P140_1 P138_2 P140_2 ne_cn_138_cn_140) e146 P138_0 (by rw [hml]; rfl) (hb hby at_246) (argsL := [(.ref b_140)]) (rest := []) (lenOf pd8 rfl) rfl rfl (W := 0) (by first | exact Nat.le_refl _ | decide) (by decide) (by decide) (by decide) (by decide) ?_
            intro v147 T147 L147 X147 hQ147
            obtain ⟨rfl, N147q, e147⟩ := hQ147
            have N147 := Fr.app N146 N147q
            refine Go.aload X147 hx (hb hby at_249) rfl rfl (q := 251) rfl ?_
            refine Go.aload X147 hx (hb hby at_251) rfl rfl (q := 253) rfl ?_
            refine Go.callS X147 hx hZ hown (wd69 hw) (wd70 hw) (wd2 hw) (wd71 hw) (by decide) (csamd0_2 l Z a0 hw b_136 b_137 (kb_136) (kb_137) C0 C1 h140 OK140 P136_0 P137_0) e147 (by rw [hml]; rfl) (hb hby at_253) (argsL := [(.ref b_136), (.ref b_137)]) (rest := [(.int (0 : Int32))]) (lenOf pd2 rfl) rfl rfl (W := 1) (by first | exact Nat.le_refl _ | decide) (by decide) (by decide) (by decide) (by decide) ?_
            intro v148 T148 L148 X148 hQ148
            obtain ⟨rfl, N148q, e148⟩ := hQ148
            have N148 := Fr.app N147 N148q
            refine Go.icmpNo X148 hx (hb hby at_256) (by decide) (q := 259) rfl ?_
            refine Go.iconst X148 hx (hb hby at_259) (r := (1 : Int32)) rfl (q := 260) rfl ?_
            refine Go.goto X148 hx (hb hby at_260) (q := 264) (by decide) (by decide) ?_
            refine Go.istore X148 hx (hb hby at_264) (l' := #[.val (.int pl), .val (.int pm), .val (.int px), .val (.int py), .val (.int pk), .val (.int (0 : Int32)), .val (.int (2 : Int32)), .val (.int A0), .val (.int A1), .val (.int A2), .val (.int C0), .val (.int C1), .val (.int C2), .val (.ref b_135), .val (.ref b_136), .val (.ref b_137), .val (.ref b_138), .val (.ref b_139), .val (.ref b_140), .val (.int (1 : Int32))]) rfl (q := 266) rfl ?_
            refine Go.iload X148 hx (hb hby at_266) rfl (q := 268) rfl ?_
            exact Go.retI X148 hx hret hlk (by simp) rfl (hb hby at_268) e148 (by decide) (by decide) ⟨rfl, N148⟩
          by_cases hc149 : (pk &&& (4 : Int32)) = (0 : Int32)
          · refine Go.ifNo X0 hx (hb hby at_67) (Jvm.Free.XT.i0_ne_f hc149) (q := 70) rfl ?_
            refine Go.iload X0 hx (hb hby at_70) rfl (q := 72) rfl ?_
            refine Go.goto X0 hx (hb hby at_72) (q := 80) (by decide) (by decide) ?_
            exact J80 _ hA2
          · refine Go.ifYes X0 hx (hb hby at_67) (Jvm.Free.XT.i0_ne_t hc149) (q := 75) (by decide) (by decide) ?_
            refine Go.iloadN X0 hx (hb hby at_75) rfl (q := 76) rfl ?_
            refine Go.bipush X0 hx (hb hby at_76) (r := (16 : Int32)) rfl (q := 78) rfl ?_
            refine Go.iushr X0 hx (hb hby at_78) rfl (q := 79) rfl ?_
            refine Go.i2b X0 hx (hb hby at_79) rfl (q := 80) rfl ?_
            exact J80 _ (bb _)
        by_cases hc150 : (pk &&& (2 : Int32)) = (0 : Int32)
        · refine Go.ifNo X0 hx (hb hby at_48) (Jvm.Free.XT.i0_ne_f hc150) (q := 51) rfl ?_
          refine Go.iload X0 hx (hb hby at_51) rfl (q := 53) rfl ?_
          refine Go.goto X0 hx (hb hby at_53) (q := 61) (by decide) (by decide) ?_
          exact J61 _ hA1
        · refine Go.ifYes X0 hx (hb hby at_48) (Jvm.Free.XT.i0_ne_t hc150) (q := 56) (by decide) (by decide) ?_
          refine Go.iloadN X0 hx (hb hby at_56) rfl (q := 57) rfl ?_
          refine Go.bipush X0 hx (hb hby at_57) (r := (8 : Int32)) rfl (q := 59) rfl ?_
          refine Go.iushr X0 hx (hb hby at_59) rfl (q := 60) rfl ?_
          refine Go.i2b X0 hx (hb hby at_60) rfl (q := 61) rfl ?_
          exact J61 _ (bb _)
      by_cases hc151 : (pk &&& (1 : Int32)) = (0 : Int32)
      · refine Go.ifNo X0 hx (hb hby at_32) (Jvm.Free.XT.i0_ne_f hc151) (q := 35) rfl ?_
        refine Go.iload X0 hx (hb hby at_35) rfl (q := 37) rfl ?_
        refine Go.goto X0 hx (hb hby at_37) (q := 42) (by decide) (by decide) ?_
        exact J42 _ hA0
      · refine Go.ifYes X0 hx (hb hby at_32) (Jvm.Free.XT.i0_ne_t hc151) (q := 40) (by decide) (by decide) ?_
        refine Go.iloadN X0 hx (hb hby at_40) rfl (q := 41) rfl ?_
        refine Go.i2b X0 hx (hb hby at_41) rfl (q := 42) rfl ?_
        exact J42 _ (bb _)
    · show Go pp ee below _ (s₁.setTop (mkF mm 8 #[.val (.int pl), .val (.int pm), .val (.int px), .val (.int py), .val (.int pk), .val (.int (0 : Int32)), .unset, .unset, .unset, .unset, .unset, .unset, .unset, .unset, .unset, .unset, .unset, .unset, .unset, .unset] [(.int (3 : Int32))]))
      refine Go.istore X0 hx (hb hby at_8) (l' := #[.val (.int pl), .val (.int pm), .val (.int px), .val (.int py), .val (.int pk), .val (.int (0 : Int32)), .val (.int (3 : Int32)), .unset, .unset, .unset, .unset, .unset, .unset, .unset, .unset, .unset, .unset, .unset, .unset, .unset]) rfl (q := 10) rfl ?_
      refine Go.iloadN X0 hx (hb hby at_10) rfl (q := 11) rfl ?_
      refine Go.i2b X0 hx (hb hby at_11) rfl (q := 12) rfl ?_
      have hA0 := bb px
      generalize (px.toInt8.toInt32) = A0 at hA0 ⊢
      refine Go.istore X0 hx (hb hby at_12) (l' := #[.val (.int pl), .val (.int pm), .val (.int px), .val (.int py), .val (.int pk), .val (.int (0 : Int32)), .val (.int (3 : Int32)), .val (.int A0), .unset, .unset, .unset, .unset, .unset, .unset, .unset, .unset, .unset, .unset, .unset, .unset]) rfl (q := 14) rfl ?_
      refine Go.iloadN X0 hx (hb hby at_14) rfl (q := 15) rfl ?_
      refine Go.bipush X0 hx (hb hby at_15) (r := (8 : Int32)) rfl (q := 17) rfl ?_
      refine Go.iushr X0 hx (hb hby at_17) rfl (q := 18) rfl ?_
      refine Go.i2b X0 hx (hb hby at_18) rfl (q := 19) rfl ?_
      have hA1 := bb ((px.toUInt32 >>> ((8 : Int32) &&& 31).toUInt32).toInt32)
      generalize (((px.toUInt32 >>> ((8 : Int32) &&& 31).toUInt32).toInt32).toInt8.toInt32) = A1 at hA1 ⊢
      refine Go.istore X0 hx (hb hby at_19) (l' := #[.val (.int pl), .val (.int pm), .val (.int px), .val (.int py), .val (.int pk), .val (.int (0 : Int32)), .val (.int (3 : Int32)), .val (.int A0), .val (.int A1), .unset, .unset, .unset, .unset, .unset, .unset, .unset, .unset, .unset, .unset, .unset]) rfl (q := 21) rfl ?_
      refine Go.iloadN X0 hx (hb hby at_21) rfl (q := 22) rfl ?_
      refine Go.bipush X0 hx (hb hby at_22) (r := (16 : Int32)) rfl (q := 24) rfl ?_
      refine Go.iushr X0 hx (hb hby at_24) rfl (q := 25) rfl ?_
      refine Go.i2b X0 hx (hb hby at_25) rfl (q := 26) rfl ?_
      have hA2 := bb ((px.toUInt32 >>> ((16 : Int32) &&& 31).toUInt32).toInt32)
      generalize (((px.toUInt32 >>> ((16 : Int32) &&& 31).toUInt32).toInt32).toInt8.toInt32) = A2 at hA2 ⊢
      refine Go.istore X0 hx (hb hby at_26) (l' := #[.val (.int pl), .val (.int pm), .val (.int px), .val (.int py), .val (.int pk), .val (.int (0 : Int32)), .val (.int (3 : Int32)), .val (.int A0), .val (.int A1), .val (.int A2), .unset, .unset, .unset, .unset, .unset, .unset, .unset, .unset, .unset, .unset]) rfl (q := 28) rfl ?_
      refine Go.iload X0 hx (hb hby at_28) rfl (q := 30) rfl ?_
      refine Go.iconst X0 hx (hb hby at_30) (r := (1 : Int32)) rfl (q := 31) rfl ?_
      refine Go.iand X0 hx (hb hby at_31) rfl (q := 32) rfl ?_
      have J42 : ∀ (C0 : Int32), (C0.toInt8.toInt32) = C0 → Go pp ee below (KK ss (Q_law0 Z pl pm px py pk h0) room_1.cells room_1.slots) (s₁.setTop (mkF mm 42 #[.val (.int pl), .val (.int pm), .val (.int px), .val (.int py), .val (.int pk), .val (.int (0 : Int32)), .val (.int (3 : Int32)), .val (.int A0), .val (.int A1), .val (.int A2), .unset, .unset, .unset, .unset, .unset, .unset, .unset, .unset, .unset, .unset] [(.int C0)])) := by
        intro C0 hC0
        refine Go.istore X0 hx (hb hby at_42) (l' := #[.val (.int pl), .val (.int pm), .val (.int px), .val (.int py), .val (.int pk), .val (.int (0 : Int32)), .val (.int (3 : Int32)), .val (.int A0), .val (.int A1), .val (.int A2), .val (.int C0), .unset, .unset, .unset, .unset, .unset, .unset, .unset, .unset, .unset]) rfl (q := 44) rfl ?_
        refine Go.iload X0 hx (hb hby at_44) rfl (q := 46) rfl ?_
        refine Go.iconst X0 hx (hb hby at_46) (r := (2 : Int32)) rfl (q := 47) rfl ?_
        refine Go.iand X0 hx (hb hby at_47) rfl (q := 48) rfl ?_
        have J61 : ∀ (C1 : Int32), (C1.toInt8.toInt32) = C1 → Go pp ee below (KK ss (Q_law0 Z pl pm px py pk h0) room_1.cells room_1.slots) (s₁.setTop (mkF mm 61 #[.val (.int pl), .val (.int pm), .val (.int px), .val (.int py), .val (.int pk), .val (.int (0 : Int32)), .val (.int (3 : Int32)), .val (.int A0), .val (.int A1), .val (.int A2), .val (.int C0), .unset, .unset, .unset, .unset, .unset, .unset, .unset, .unset, .unset] [(.int C1)])) := by
          intro C1 hC1
          refine Go.istore X0 hx (hb hby at_61) (l' := #[.val (.int pl), .val (.int pm), .val (.int px), .val (.int py), .val (.int pk), .val (.int (0 : Int32)), .val (.int (3 : Int32)), .val (.int A0), .val (.int A1), .val (.int A2), .val (.int C0), .val (.int C1), .unset, .unset, .unset, .unset, .unset, .unset, .unset, .unset]) rfl (q := 63) rfl ?_
          refine Go.iload X0 hx (hb hby at_63) rfl (q := 65) rfl ?_
          refine Go.iconst X0 hx (hb hby at_65) (r := (4 : Int32)) rfl (q := 66) rfl ?_
          refine Go.iand X0 hx (hb hby at_66) rfl (q := 67) rfl ?_
          have J80 : ∀ (C2 : Int32), (C2.toInt8.toInt32) = C2 → Go pp ee below (KK ss (Q_law0 Z pl pm px py pk h0) room_1.cells room_1.slots) (s₁.setTop (mkF mm 80 #[.val (.int pl), .val (.int pm), .val (.int px), .val (.int py), .val (.int pk), .val (.int (0 : Int32)), .val (.int (3 : Int32)), .val (.int A0), .val (.int A1), .val (.int A2), .val (.int C0), .val (.int C1), .unset, .unset, .unset, .unset, .unset, .unset, .unset, .unset] [(.int C2)])) := by
            intro C2 hC2
            refine Go.istore X0 hx (hb hby at_80) (l' := #[.val (.int pl), .val (.int pm), .val (.int px), .val (.int py), .val (.int pk), .val (.int (0 : Int32)), .val (.int (3 : Int32)), .val (.int A0), .val (.int A1), .val (.int A2), .val (.int C0), .val (.int C1), .val (.int C2), .unset, .unset, .unset, .unset, .unset, .unset, .unset]) rfl (q := 82) rfl ?_
            refine Go.iload X0 hx (hb hby at_82) rfl (q := 84) rfl ?_
            refine Go.iload X0 hx (hb hby at_84) rfl (q := 86) rfl ?_
            refine Go.iload X0 hx (hb hby at_86) rfl (q := 88) rfl ?_
            refine Go.iload X0 hx (hb hby at_88) rfl (q := 90) rfl ?_
            refine Go.callS X0 hx hZ hown (wd0 hw) (wd1 hw) (wd2 hw) (wd3 hw) (by decide) (make0 l Z a0 hw A0 A1 A2 h0 O0 hA0 hA1 hA2) e0 (by rw [hml]; rfl) (hb hby at_90) (argsL := [(.int (0 : Int32)), (.int A0), (.int A1), (.int A2)]) (rest := []) (lenOf pd3 rfl) rfl rfl (W := 0) (by first | exact Nat.le_refl _ | decide) (by decide) (by decide) (by decide) (by decide) ?_
            intro v152 T152 L152 X152 hQ152
            obtain ⟨h152, e152⟩ : ∃ z, T152.heap = z := ⟨_, rfl⟩
            rw [e152] at hQ152
            obtain ⟨b_152, kb_152, rfl, N152q, K152, fr152_b, P152_0, P152_1⟩ := hQ152
            have N152 := Fr.app N0 N152q
            have g_b_152 : Z.heap.size ≤ b_152 := Nat.le_trans O0.1 fr152_b
            have OK152 := ext_keep O0 K152 all0
            refine Go.astore X152 hx (hb hby at_93) rfl (l' := #[.val (.int pl), .val (.int pm), .val (.int px), .val (.int py), .val (.int pk), .val (.int (0 : Int32)), .val (.int (3 : Int32)), .val (.int A0), .val (.int A1), .val (.int A2), .val (.int C0), .val (.int C1), .val (.int C2), .val (.ref b_152), .unset, .unset, .unset, .unset, .unset, .unset]) rfl (q := 95) rfl ?_
            refine Go.iload X152 hx (hb hby at_95) rfl (q := 97) rfl ?_
            refine Go.iload X152 hx (hb hby at_97) rfl (q := 99) rfl ?_
            refine Go.iload X152 hx (hb hby at_99) rfl (q := 101) rfl ?_
            refine Go.iload X152 hx (hb hby at_101) rfl (q := 103) rfl ?_
            refine Go.callS X152 hx hZ hown (wd0 hw) (wd1 hw) (wd2 hw) (wd3 hw) (by decide) (make0 l Z a0 hw A0 A1 A2 h152 OK152 hA0 hA1 hA2) e152 (by rw [hml]; rfl) (hb hby at_103) (argsL := [(.int (0 : Int32)), (.int A0), (.int A1), (.int A2)]) (rest := []) (lenOf pd3 rfl) rfl rfl (W := 0) (by first | exact Nat.le_refl _ | decide) (by decide) (by decide) (by decide) (by decide) ?_
            intro v153 T153 L153 X153 hQ153
            obtain ⟨h153, e153⟩ : ∃ z, T153.heap = z := ⟨_, rfl⟩
            rw [e153] at hQ153
            obtain ⟨b_153, kb_153, rfl, N153q, K153, fr153_b, P153_0, P153_1⟩ := hQ153
            have N153 := Fr.app N152 N153q
            have ne_b_152_b_153 : b_152 ≠ b_153 := ne_new P152_0.lt fr153_b
            have g_b_153 : Z.heap.size ≤ b_153 := Nat.le_trans OK152.1 fr153_b
            replace P152_0 := P152_0.keep K153 nin0
            replace P152_1 := P152_1.keep K153
            have OK153 := ext_keep OK152 K153 all0
            refine Go.astore X153 hx (hb hby at_106) rfl (l' := #[.val (.int pl), .val (.int pm), .val (.int px), .val (.int py), .val (.int pk), .val (.int (0 : Int32)), .val (.int (3 : Int32)), .val (.int A0), .val (.int A1), .val (.int A2), .val (.int C0), .val (.int C1), .val (.int C2), .val (.ref b_152), .val (.ref b_153), .unset, .unset, .unset, .unset, .unset]) rfl (q := 108) rfl ?_
            refine Go.iload X153 hx (hb hby at_108) rfl (q := 110) rfl ?_
            refine Go.iload X153 hx (hb hby at_110) rfl (q := 112) rfl ?_
            refine Go.iload X153 hx (hb hby at_112) rfl (q := 114) rfl ?_
            refine Go.iload X153 hx (hb hby at_114) rfl (q := 116) rfl ?_
            refine Go.callS X153 hx hZ hown (wd0 hw) (wd1 hw) (wd2 hw) (wd3 hw) (by decide) (make3 l Z a0 hw C0 C1 C2 h153 OK153 hC0 hC1 hC2) e153 (by rw [hml]; rfl) (hb hby at_116) (argsL := [(.int (3 : Int32)), (.int C0), (.int C1), (.int C2)]) (rest := []) (lenOf pd3 rfl) rfl rfl (W := 0) (by first | exact Nat.le_refl _ | decide) (by decide) (by decide) (by decide) (by decide) ?_
            intro v154 T154 L154 X154 hQ154
            obtain ⟨h154, e154⟩ : ∃ z, T154.heap = z := ⟨_, rfl⟩
            rw [e154] at hQ154
            obtain ⟨b_154, kb_154, rfl, N154q, K154, fr154_b, P154_0, P154_1⟩ := hQ154
            have N154 := Fr.app N153 N154q
            have ne_b_152_b_154 : b_152 ≠ b_154 := ne_new P152_0.lt fr154_b
            have ne_b_153_b_154 : b_153 ≠ b_154 := ne_new P153_0.lt fr154_b
            have g_b_154 : Z.heap.size ≤ b_154 := Nat.le_trans OK153.1 fr154_b
            replace P152_0 := P152_0.keep K154 nin0
            replace P152_1 := P152_1.keep K154
            replace P153_0 := P153_0.keep K154 nin0
            replace P153_1 := P153_1.keep K154
            have OK154 := ext_keep OK153 K154 all0
            refine Go.astore X154 hx (hb hby at_119) rfl (l' := #[.val (.int pl), .val (.int pm), .val (.int px), .val (.int py), .val (.int pk), .val (.int (0 : Int32)), .val (.int (3 : Int32)), .val (.int A0), .val (.int A1), .val (.int A2), .val (.int C0), .val (.int C1), .val (.int C2), .val (.ref b_152), .val (.ref b_153), .val (.ref b_154), .unset, .unset, .unset, .unset]) rfl (q := 121) rfl ?_
            refine Go.aload X154 hx (hb hby at_121) rfl rfl (q := 123) rfl ?_
            refine Go.callS X154 hx hZ hown (wd5 hw) (wd6 hw) (wd7 hw) (wd8 hw) (by decide) (of0 l Z a0 hw b_152 (kb_152) h154 OK154 P152_0 P152_1) e154 (by rw [hml]; rfl) (hb hby at_123) (argsL := [(.ref b_152)]) (rest := []) (lenOf pd4 rfl) rfl rfl (W := 0) (by first | exact Nat.le_refl _ | decide) (by decide) (by decide) (by decide) (by decide) ?_
            intro v155 T155 L155 X155 hQ155
            obtain ⟨h155, e155⟩ : ∃ z, T155.heap = z := ⟨_, rfl⟩
            rw [e155] at hQ155
            obtain ⟨b_155, cn_155, kc_155, rfl, N155q, K155, fr155_b, fr155_cn, P155_0, P155_1, P155_2, P155_3, P155_4, P155_5⟩ := hQ155
            have N155 := Fr.app N154 N155q
            have ne_b_152_b_155 : b_152 ≠ b_155 := ne_new P152_0.lt fr155_b
            have ne_b_153_b_155 : b_153 ≠ b_155 := ne_new P153_0.lt fr155_b
            have ne_b_154_b_155 : b_154 ≠ b_155 := ne_new P154_0.lt fr155_b
            have g_b_155 : Z.heap.size ≤ b_155 := Nat.le_trans OK154.1 fr155_b
            have ne_b_152_cn_155 : b_152 ≠ cn_155 := ne_new P152_0.lt fr155_cn
            have ne_b_153_cn_155 : b_153 ≠ cn_155 := ne_new P153_0.lt fr155_cn
            have ne_b_154_cn_155 : b_154 ≠ cn_155 := ne_new P154_0.lt fr155_cn
            have g_cn_155 : Z.heap.size ≤ cn_155 := Nat.le_trans OK154.1 fr155_cn
            replace P152_0 := P152_0.keep K155 nin0
            replace P152_1 := P152_1.keep K155
            replace P153_0 := P153_0.keep K155 nin0
            replace P153_1 := P153_1.keep K155
            replace P154_0 := P154_0.keep K155 nin0
            replace P154_1 := P154_1.keep K155
            have OK155 := ext_keep OK154 K155 all0
            refine Go.astore X155 hx (hb hby at_126) rfl (l' := #[.val (.int pl), .val (.int pm), .val (.int px), .val (.int py), .val (.int pk), .val (.int (0 : Int32)), .val (.int (3 : Int32)), .val (.int A0), .val (.int A1), .val (.int A2), .val (.int C0), .val (.int C1), .val (.int C2), .val (.ref b_152), .val (.ref b_153), .val (.ref b_154), .val (.ref b_155), .unset, .unset, .unset]) rfl (q := 128) rfl ?_
            refine Go.iload X155 hx (hb hby at_128) rfl (q := 130) rfl ?_
            refine Go.ifYes X155 hx (hb hby at_130) (by decide) (q := 150) (by decide) (by decide) ?_
            refine Go.aload X155 hx (hb hby at_150) rfl rfl (q := 152) rfl ?_
            refine Go.callS X155 hx hZ hown (wd5 hw) (wd6 hw) (wd7 hw) (wd8 hw) (by decide) (of0 l Z a0 hw b_153 (kb_153) h155 OK155 P153_0 P153_1) e155 (by rw [hml]; rfl) (hb hby at_152) (argsL := [(.ref b_153)]) (rest := []) (lenOf pd4 rfl) rfl rfl (W := 0) (by first | exact Nat.le_refl _ | decide) (by decide) (by decide) (by decide) (by decide) ?_
            intro v156 T156 L156 X156 hQ156
            obtain ⟨h156, e156⟩ : ∃ z, T156.heap = z := ⟨_, rfl⟩
            rw [e156] at hQ156
            obtain ⟨b_156, cn_156, kc_156, rfl, N156q, K156, fr156_b, fr156_cn, P156_0, P156_1, P156_2, P156_3, P156_4, P156_5⟩ := hQ156
            have N156 := Fr.app N155 N156q
            have ne_b_152_b_156 : b_152 ≠ b_156 := ne_new P152_0.lt fr156_b
            have ne_b_153_b_156 : b_153 ≠ b_156 := ne_new P153_0.lt fr156_b
            have ne_b_154_b_156 : b_154 ≠ b_156 := ne_new P154_0.lt fr156_b
            have ne_b_155_b_156 : b_155 ≠ b_156 := ne_new P155_0.lt fr156_b
            have ne_cn_155_b_156 : cn_155 ≠ b_156 := ne_new P155_2.lt fr156_b
            have g_b_156 : Z.heap.size ≤ b_156 := Nat.le_trans OK155.1 fr156_b
            have ne_b_152_cn_156 : b_152 ≠ cn_156 := ne_new P152_0.lt fr156_cn
            have ne_b_153_cn_156 : b_153 ≠ cn_156 := ne_new P153_0.lt fr156_cn
            have ne_b_154_cn_156 : b_154 ≠ cn_156 := ne_new P154_0.lt fr156_cn
            have ne_b_155_cn_156 : b_155 ≠ cn_156 := ne_new P155_0.lt fr156_cn
            have ne_cn_155_cn_156 : cn_155 ≠ cn_156 := ne_new P155_2.lt fr156_cn
            have g_cn_156 : Z.heap.size ≤ cn_156 := Nat.le_trans OK155.1 fr156_cn
            replace P152_0 := P152_0.keep K156 nin0
            replace P152_1 := P152_1.keep K156
            replace P153_0 := P153_0.keep K156 nin0
            replace P153_1 := P153_1.keep K156
            replace P154_0 := P154_0.keep K156 nin0
            replace P154_1 := P154_1.keep K156
            replace P155_0 := P155_0.keep K156
            replace P155_1 := P155_1.keep K156 nin0
            replace P155_2 := P155_2.keep K156 nin0
            replace P155_3 := P155_3.keep K156 nin0
            replace P155_4 := P155_4.keep K156 nin0
            replace P155_5 := P155_5.keep K156 nin0
            have OK156 := ext_keep OK155 K156 all0
            refine Go.astore X156 hx (hb hby at_155) rfl (l' := #[.val (.int pl), .val (.int pm), .val (.int px), .val (.int py), .val (.int pk), .val (.int (0 : Int32)), .val (.int (3 : Int32)), .val (.int A0), .val (.int A1), .val (.int A2), .val (.int C0), .val (.int C1), .val (.int C2), .val (.ref b_152), .val (.ref b_153), .val (.ref b_154), .val (.ref b_155), .val (.ref b_156), .unset, .unset]) rfl (q := 157) rfl ?_
            refine Go.aload X156 hx (hb hby at_157) rfl rfl (q := 159) rfl ?_
            refine Go.callS X156 hx hZ hown (wd5 hw) (wd6 hw) (wd7 hw) (wd8 hw) (by decide) (of3 l Z a0 hw b_154 (kb_154) C0 C1 C2 h156 OK156 P154_0 P154_1) e156 (by rw [hml]; rfl) (hb hby at_159) (argsL := [(.ref b_154)]) (rest := []) (lenOf pd4 rfl) rfl rfl (W := 0) (by first | exact Nat.le_refl _ | decide) (by decide) (by decide) (by decide) (by decide) ?_
            intro v157 T157 L157 X157 hQ157
            obtain ⟨h157, e157⟩ : ∃ z, T157.heap = z := ⟨_, rfl⟩
            rw [e157] at hQ157
            obtain ⟨b_157, cn_157, kc_157, rfl, N157q, K157, fr157_b, fr157_cn, P157_0, P157_1, P157_2, P157_3, P157_4, P157_5⟩ := hQ157
            have N157 := Fr.app N156 N157q
            have ne_b_152_b_157 : b_152 ≠ b_157 := ne_new P152_0.lt fr157_b
            have ne_b_153_b_157 : b_153 ≠ b_157 := ne_new P153_0.lt fr157_b
            have ne_b_154_b_157 : b_154 ≠ b_157 := ne_new P154_0.lt fr157_b
            have ne_b_155_b_157 : b_155 ≠ b_157 := ne_new P155_0.lt fr157_b
            have ne_cn_155_b_157 : cn_155 ≠ b_157 := ne_new P155_2.lt fr157_b
            have ne_b_156_b_157 : b_156 ≠ b_157 := ne_new P156_0.lt fr157_b
            have ne_cn_156_b_157 : cn_156 ≠ b_157 := ne_new P156_2.lt fr157_b
            have g_b_157 : Z.heap.size ≤ b_157 := Nat.le_trans OK156.1 fr157_b
            have ne_b_152_cn_157 : b_152 ≠ cn_157 := ne_new P152_0.lt fr157_cn
            have ne_b_153_cn_157 : b_153 ≠ cn_157 := ne_new P153_0.lt fr157_cn
            have ne_b_154_cn_157 : b_154 ≠ cn_157 := ne_new P154_0.lt fr157_cn
            have ne_b_155_cn_157 : b_155 ≠ cn_157 := ne_new P155_0.lt fr157_cn
            have ne_cn_155_cn_157 : cn_155 ≠ cn_157 := ne_new P155_2.lt fr157_cn
            have ne_b_156_cn_157 : b_156 ≠ cn_157 := ne_new P156_0.lt fr157_cn
            have ne_cn_156_cn_157 : cn_156 ≠ cn_157 := ne_new P156_2.lt fr157_cn
            have g_cn_157 : Z.heap.size ≤ cn_157 := Nat.le_trans OK156.1 fr157_cn
            replace P152_0 := P152_0.keep K157 nin0
            replace P152_1 := P152_1.keep K157
            replace P153_0 := P153_0.keep K157 nin0
            replace P153_1 := P153_1.keep K157
            replace P154_0 := P154_0.keep K157 nin0
            replace P154_1 := P154_1.keep K157
            replace P155_0 := P155_0.keep K157
            replace P155_1 := P155_1.keep K157 nin0
            replace P155_2 := P155_2.keep K157 nin0
            replace P155_3 := P155_3.keep K157 nin0
            replace P155_4 := P155_4.keep K157 nin0
            replace P155_5 := P155_5.keep K157 nin0
            replace P156_0 := P156_0.keep K157
            replace P156_1 := P156_1.keep K157 nin0
            replace P156_2 := P156_2.keep K157 nin0
            replace P156_3 := P156_3.keep K157 nin0
            replace P156_4 := P156_4.keep K157 nin0
            replace P156_5 := P156_5.keep K157 nin0
            have OK157 := ext_keep OK156 K157 all0
            refine Go.astore X157 hx (hb hby at_162) rfl (l' := #[.val (.int pl), .val (.int pm), .val (.int px), .val (.int py), .val (.int pk), .val (.int (0 : Int32)), .val (.int (3 : Int32)), .val (.int A0), .val (.int A1), .val (.int A2), .val (.int C0), .val (.int C1), .val (.int C2), .val (.ref b_152), .val (.ref b_153), .val (.ref b_154), .val (.ref b_155), .val (.ref b_156), .val (.ref b_157), .unset]) rfl (q := 164) rfl ?_
            refine Go.aload X157 hx (hb hby at_164) rfl rfl (q := 166) rfl ?_
            refine Go.virt X157 hx hZ hown (wd36 hw) (wd37 hw) (notFace_of_selects (args := #[]) (mvT hZ (wd39 hw))) (wd39 hw) (wd38 hw) (wd7 hw) (wd40 hw) (by decide) (clen l Z a0 hw b_155 cn_155 (kc_155) ((0 : Int32)) ([]) h157 OK157 P155_1 P155_2) e157 P155_0 (by rw [hml]; rfl) (hb hby at_166) (argsL := []) (rest := []) (lenOf pd5 rfl) rfl rfl (W := 0) (by first | exact Nat.le_refl _ | decide) (by decide) (by decide) (by decide) (by decide) ?_
            intro v158 T158 L158 X158 hQ158
            obtain ⟨rfl, N158q, e158⟩ := hQ158
            have N158 := Fr.app N157 N158q
            refine Go.iload X158 hx (hb hby at_169) rfl (q := 171) rfl ?_
            refine Go.icmpNo X158 hx (hb hby at_171) (by decide) (q := 174) rfl ?_
            refine Go.aload X158 hx (hb hby at_174) rfl rfl (q := 176) rfl ?_
            refine Go.virt X158 hx hZ hown (wd36 hw) (wd37 hw) (notFace_of_selects (args := #[]) (mvT hZ (wd39 hw))) (wd39 hw) (wd38 hw) (wd7 hw) (wd40 hw) (by decide) (clen l Z a0 hw b_157 cn_157 (kc_157) ((3 : Int32)) ([(.int C0), (.int C1), (.int C2)]) h157 OK157 P157_1 P157_2) e158 P157_0 (by rw [hml]; rfl) (hb hby at_176) (argsL := []) (rest := []) (lenOf pd5 rfl) rfl rfl (W := 0) (by first | exact Nat.le_refl _ | decide) (by decide) (by decide) (by decide) (by decide) ?_
            intro v159 T159 L159 X159 hQ159
            obtain ⟨rfl, N159q, e159⟩ := hQ159
            have N159 := Fr.app N158 N159q
            refine Go.iload X159 hx (hb hby at_179) rfl (q := 181) rfl ?_
            refine Go.icmpNo X159 hx (hb hby at_181) (by decide) (q := 184) rfl ?_
            refine Go.aload X159 hx (hb hby at_184) rfl rfl (q := 186) rfl ?_
            refine Go.virt X159 hx hZ hown (wd41 hw) (wd42 hw) (notFace_of_selects (args := #[]) (mvT hZ (wd44 hw))) (wd44 hw) (wd43 hw) (wd7 hw) (wd45 hw) (by decide) (clast l Z a0 hw b_155 h157 OK157 P155_3) e159 P155_0 (by rw [hml]; rfl) (hb hby at_186) (argsL := []) (rest := []) (lenOf pd6 rfl) rfl rfl (W := 0) (by first | exact Nat.le_refl _ | decide) (by decide) (by decide) (by decide) (by decide) ?_
            intro v160 T160 L160 X160 hQ160
            obtain ⟨rfl, N160q, e160⟩ := hQ160
            have N160 := Fr.app N159 N160q
            refine Go.ifnonnullNo X160 hx (hb hby at_189) (q := 192) rfl ?_
            refine Go.aload X160 hx (hb hby at_192) rfl rfl (q := 194) rfl ?_
            refine Go.virt X160 hx hZ hown (wd46 hw) (wd47 hw) (notFace_of_selects (args := #[]) (mvT hZ (wd49 hw))) (wd49 hw) (wd48 hw) (wd7 hw) (wd50 hw) (by decide) (cshar l Z a0 hw b_155 h157 OK157 P155_4) e160 P155_0 (by rw [hml]; rfl) (hb hby at_194) (argsL := []) (rest := []) (lenOf pd7 rfl) rfl rfl (W := 0) (by first | exact Nat.le_refl _ | decide) (by decide) (by decide) (by decide) (by decide) ?_
            intro v161 T161 L161 X161 hQ161
            obtain ⟨rfl, N161q, e161⟩ := hQ161
            have N161 := Fr.app N160 N161q
            refine Go.ifNo X161 hx (hb hby at_197) (by decide) (q := 200) rfl ?_
            refine Go.aload X161 hx (hb hby at_200) rfl rfl (q := 202) rfl ?_
            refine Go.virt X161 hx hZ hown (wd51 hw) (wd52 hw) (notFace_of_selects (args := #[]) (mvT hZ (wd54 hw))) (wd54 hw) (wd53 hw) (wd7 hw) (wd55 hw) (by decide) (cremo l Z a0 hw b_155 h157 OK157 P155_5) e161 P155_0 (by rw [hml]; rfl) (hb hby at_202) (argsL := []) (rest := []) (lenOf pd7 rfl) rfl rfl (W := 0) (by first | exact Nat.le_refl _ | decide) (by decide) (by decide) (by decide) (by decide) ?_
            intro v162 T162 L162 X162 hQ162
            obtain ⟨rfl, N162q, e162⟩ := hQ162
            have N162 := Fr.app N161 N162q
            refine Go.ifNo X162 hx (hb hby at_205) (by decide) (q := 208) rfl ?_
            refine Go.iconst X162 hx (hb hby at_208) (r := (1 : Int32)) rfl (q := 209) rfl ?_
            refine Go.goto X162 hx (hb hby at_209) (q := 213) (by decide) (by decide) ?_
            refine Go.istore X162 hx (hb hby at_213) (l' := #[.val (.int pl), .val (.int pm), .val (.int px), .val (.int py), .val (.int pk), .val (.int (0 : Int32)), .val (.int (3 : Int32)), .val (.int A0), .val (.int A1), .val (.int A2), .val (.int C0), .val (.int C1), .val (.int C2), .val (.ref b_152), .val (.ref b_153), .val (.ref b_154), .val (.ref b_155), .val (.ref b_156), .val (.ref b_157), .val (.int (1 : Int32))]) rfl (q := 215) rfl ?_
            refine Go.iload X162 hx (hb hby at_215) rfl (q := 217) rfl ?_
            refine Go.ifNo X162 hx (hb hby at_217) (by decide) (q := 220) rfl ?_
            refine Go.aload X162 hx (hb hby at_220) rfl rfl (q := 222) rfl ?_
            refine Go.aload X162 hx (hb hby at_222) rfl rfl (q := 224) rfl ?_
            refine Go.virt X162 hx hZ hown (wd56 hw) (wd57 hw) (notFace_of_selects (args := #[]) (mvT hZ (wd59 hw))) (wd59 hw) (wd58 hw) (wd7 hw) (wd60 hw) (by decide) (chs0_0 l Z a0 hw b_155 b_156 cn_155 cn_156 (kc_155) (kc_156) h157 OK157 P155_1 P156_1 P155_2 P156_2 ne_cn_155_cn_156) e162 P155_0 (by rw [hml]; rfl) (hb hby at_224) (argsL := [(.ref b_156)]) (rest := []) (lenOf pd8 rfl) rfl rfl (W := 0) (by first | exact Nat.le_refl _ | decide) (by decide) (by decide) (by decide) (by decide) ?_
            intro v163 T163 L163 X163 hQ163
            obtain ⟨rfl, N163q, e163⟩ := hQ163
            have N163 := Fr.app N162 N163q
            refine Go.ifNo X163 hx (hb hby at_227) (by decide) (q := 230) rfl ?_
            refine Go.iconst X163 hx (hb hby at_230) (r := (1 : Int32)) rfl (q := 231) rfl ?_
            refine Go.goto X163 hx (hb hby at_231) (q := 235) (by decide) (by decide) ?_
            refine Go.istore X163 hx (hb hby at_235) (l' := #[.val (.int pl), .val (.int pm), .val (.int px), .val (.int py), .val (.int pk), .val (.int (0 : Int32)), .val (.int (3 : Int32)), .val (.int A0), .val (.int A1), .val (.int A2), .val (.int C0), .val (.int C1), .val (.int C2), .val (.ref b_152), .val (.ref b_153), .val (.ref b_154), .val (.ref b_155), .val (.ref b_156), .val (.ref b_157), .val (.int (1 : Int32))]) rfl (q := 237) rfl ?_
            refine Go.iload X163 hx (hb hby at_237) rfl (q := 239) rfl ?_
            refine Go.ifNo X163 hx (hb hby at_239) (by decide) (q := 242) rfl ?_
            refine Go.aload X163 hx (hb hby at_242) rfl rfl (q := 244) rfl ?_
            refine Go.aload X163 hx (hb hby at_244) rfl rfl (q := 246) rfl ?_
            refine Go.virt X163 hx hZ hown (wd56 hw) (wd57 hw) (notFace_of_selects (args := #[]) (mvT hZ (wd59 hw))) (wd59 hw) (wd58 hw) (wd7 hw) (wd60 hw) (by decide) (chsd0_3 l Z a0 hw b_155 b_157 cn_155 cn_157 (kc_155) (kc_157) C0 C1 C2 h157 OK157 P155_1 P157_1 P155_2 P157_2 ne_cn_155_cn_157) e163 P155_0 (by rw [hml]; rfl) (hb hby at_246) (argsL := [(.ref b_157)]) (rest := []) (lenOf pd8 rfl) rfl rfl (W := 0) (by first | exact Nat.le_refl _ | decide) (by decide) (by decide) (by decide) (by decide) ?_
            intro v164 T164 L164 X164 hQ164
            obtain ⟨rfl, N164q, e164⟩ := hQ164
            have N164 := Fr.app N163 N164q
            refine Go.aload X164 hx (hb hby at_249) rfl rfl (q := 251) rfl ?_
            refine Go.aload X164 hx (hb hby at_251) rfl rfl (q := 253) rfl ?_
            refine Go.callS X164 hx hZ hown (wd69 hw) (wd70 hw) (wd2 hw) (wd71 hw) (by decide) (csamd0_3 l Z a0 hw b_153 b_154 (kb_153) (kb_154) C0 C1 C2 h157 OK157 P153_0 P154_0) e164 (by rw [hml]; rfl) (hb hby at_253) (argsL := [(.ref b_153), (.ref b_154)]) (rest := [(.int (0 : Int32))]) (lenOf pd2 rfl) rfl rfl (W := 1) (by first | exact Nat.le_refl _ | decide) (by decide) (by decide) (by decide) (by decide) ?_
            intro v165 T165 L165 X165 hQ165
            obtain ⟨rfl, N165q, e165⟩ := hQ165
            have N165 := Fr.app N164 N165q
            refine Go.icmpNo X165 hx (hb hby at_256) (by decide) (q := 259) rfl ?_
            refine Go.iconst X165 hx (hb hby at_259) (r := (1 : Int32)) rfl (q := 260) rfl ?_
            refine Go.goto X165 hx (hb hby at_260) (q := 264) (by decide) (by decide) ?_
            refine Go.istore X165 hx (hb hby at_264) (l' := #[.val (.int pl), .val (.int pm), .val (.int px), .val (.int py), .val (.int pk), .val (.int (0 : Int32)), .val (.int (3 : Int32)), .val (.int A0), .val (.int A1), .val (.int A2), .val (.int C0), .val (.int C1), .val (.int C2), .val (.ref b_152), .val (.ref b_153), .val (.ref b_154), .val (.ref b_155), .val (.ref b_156), .val (.ref b_157), .val (.int (1 : Int32))]) rfl (q := 266) rfl ?_
            refine Go.iload X165 hx (hb hby at_266) rfl (q := 268) rfl ?_
            exact Go.retI X165 hx hret hlk (by simp) rfl (hb hby at_268) e165 (by decide) (by decide) ⟨rfl, N165⟩
          by_cases hc166 : (pk &&& (4 : Int32)) = (0 : Int32)
          · refine Go.ifNo X0 hx (hb hby at_67) (Jvm.Free.XT.i0_ne_f hc166) (q := 70) rfl ?_
            refine Go.iload X0 hx (hb hby at_70) rfl (q := 72) rfl ?_
            refine Go.goto X0 hx (hb hby at_72) (q := 80) (by decide) (by decide) ?_
            exact J80 _ hA2
          · refine Go.ifYes X0 hx (hb hby at_67) (Jvm.Free.XT.i0_ne_t hc166) (q := 75) (by decide) (by decide) ?_
            refine Go.iloadN X0 hx (hb hby at_75) rfl (q := 76) rfl ?_
            refine Go.bipush X0 hx (hb hby at_76) (r := (16 : Int32)) rfl (q := 78) rfl ?_
            refine Go.iushr X0 hx (hb hby at_78) rfl (q := 79) rfl ?_
            refine Go.i2b X0 hx (hb hby at_79) rfl (q := 80) rfl ?_
            exact J80 _ (bb _)
        by_cases hc167 : (pk &&& (2 : Int32)) = (0 : Int32)
        · refine Go.ifNo X0 hx (hb hby at_48) (Jvm.Free.XT.i0_ne_f hc167) (q := 51) rfl ?_
          refine Go.iload X0 hx (hb hby at_51) rfl (q := 53) rfl ?_
          refine Go.goto X0 hx (hb hby at_53) (q := 61) (by decide) (by decide) ?_
          exact J61 _ hA1
        · refine Go.ifYes X0 hx (hb hby at_48) (Jvm.Free.XT.i0_ne_t hc167) (q := 56) (by decide) (by decide) ?_
          refine Go.iloadN X0 hx (hb hby at_56) rfl (q := 57) rfl ?_
          refine Go.bipush X0 hx (hb hby at_57) (r := (8 : Int32)) rfl (q := 59) rfl ?_
          refine Go.iushr X0 hx (hb hby at_59) rfl (q := 60) rfl ?_
          refine Go.i2b X0 hx (hb hby at_60) rfl (q := 61) rfl ?_
          exact J61 _ (bb _)
      by_cases hc168 : (pk &&& (1 : Int32)) = (0 : Int32)
      · refine Go.ifNo X0 hx (hb hby at_32) (Jvm.Free.XT.i0_ne_f hc168) (q := 35) rfl ?_
        refine Go.iload X0 hx (hb hby at_35) rfl (q := 37) rfl ?_
        refine Go.goto X0 hx (hb hby at_37) (q := 42) (by decide) (by decide) ?_
        exact J42 _ hA0
      · refine Go.ifYes X0 hx (hb hby at_32) (Jvm.Free.XT.i0_ne_t hc168) (q := 40) (by decide) (by decide) ?_
        refine Go.iloadN X0 hx (hb hby at_40) rfl (q := 41) rfl ?_
        refine Go.i2b X0 hx (hb hby at_41) rfl (q := 42) rfl ?_
        exact J42 _ (bb _)
  · show Go pp ee below _ (s₁.setTop (mkF mm 3 #[.val (.int pl), .val (.int pm), .val (.int px), .val (.int py), .val (.int pk), .unset, .unset, .unset, .unset, .unset, .unset, .unset, .unset, .unset, .unset, .unset, .unset, .unset, .unset, .unset] [(.int (1 : Int32))]))
    refine Go.istore X0 hx (hb hby at_3) (l' := #[.val (.int pl), .val (.int pm), .val (.int px), .val (.int py), .val (.int pk), .val (.int (1 : Int32)), .unset, .unset, .unset, .unset, .unset, .unset, .unset, .unset, .unset, .unset, .unset, .unset, .unset, .unset]) rfl (q := 5) rfl ?_
    refine Go.iloadN X0 hx (hb hby at_5) rfl (q := 6) rfl ?_
    refine Go.iconst X0 hx (hb hby at_6) (r := (3 : Int32)) rfl (q := 7) rfl ?_
    refine Go.iand X0 hx (hb hby at_7) rfl (q := 8) rfl ?_
    have hk := own_and3 pm
    generalize (pm &&& (3 : Int32)) = k at hk ⊢
    rcases hk with rfl | rfl | rfl | rfl
    · show Go pp ee below _ (s₁.setTop (mkF mm 8 #[.val (.int pl), .val (.int pm), .val (.int px), .val (.int py), .val (.int pk), .val (.int (1 : Int32)), .unset, .unset, .unset, .unset, .unset, .unset, .unset, .unset, .unset, .unset, .unset, .unset, .unset, .unset] [(.int (0 : Int32))]))
      refine Go.istore X0 hx (hb hby at_8) (l' := #[.val (.int pl), .val (.int pm), .val (.int px), .val (.int py), .val (.int pk), .val (.int (1 : Int32)), .val (.int (0 : Int32)), .unset, .unset, .unset, .unset, .unset, .unset, .unset, .unset, .unset, .unset, .unset, .unset, .unset]) rfl (q := 10) rfl ?_
      refine Go.iloadN X0 hx (hb hby at_10) rfl (q := 11) rfl ?_
      refine Go.i2b X0 hx (hb hby at_11) rfl (q := 12) rfl ?_
      have hA0 := bb px
      generalize (px.toInt8.toInt32) = A0 at hA0 ⊢
      refine Go.istore X0 hx (hb hby at_12) (l' := #[.val (.int pl), .val (.int pm), .val (.int px), .val (.int py), .val (.int pk), .val (.int (1 : Int32)), .val (.int (0 : Int32)), .val (.int A0), .unset, .unset, .unset, .unset, .unset, .unset, .unset, .unset, .unset, .unset, .unset, .unset]) rfl (q := 14) rfl ?_
      refine Go.iloadN X0 hx (hb hby at_14) rfl (q := 15) rfl ?_
      refine Go.bipush X0 hx (hb hby at_15) (r := (8 : Int32)) rfl (q := 17) rfl ?_
      refine Go.iushr X0 hx (hb hby at_17) rfl (q := 18) rfl ?_
      refine Go.i2b X0 hx (hb hby at_18) rfl (q := 19) rfl ?_
      have hA1 := bb ((px.toUInt32 >>> ((8 : Int32) &&& 31).toUInt32).toInt32)
      generalize (((px.toUInt32 >>> ((8 : Int32) &&& 31).toUInt32).toInt32).toInt8.toInt32) = A1 at hA1 ⊢
      refine Go.istore X0 hx (hb hby at_19) (l' := #[.val (.int pl), .val (.int pm), .val (.int px), .val (.int py), .val (.int pk), .val (.int (1 : Int32)), .val (.int (0 : Int32)), .val (.int A0), .val (.int A1), .unset, .unset, .unset, .unset, .unset, .unset, .unset, .unset, .unset, .unset, .unset]) rfl (q := 21) rfl ?_
      refine Go.iloadN X0 hx (hb hby at_21) rfl (q := 22) rfl ?_
      refine Go.bipush X0 hx (hb hby at_22) (r := (16 : Int32)) rfl (q := 24) rfl ?_
      refine Go.iushr X0 hx (hb hby at_24) rfl (q := 25) rfl ?_
      refine Go.i2b X0 hx (hb hby at_25) rfl (q := 26) rfl ?_
      have hA2 := bb ((px.toUInt32 >>> ((16 : Int32) &&& 31).toUInt32).toInt32)
      generalize (((px.toUInt32 >>> ((16 : Int32) &&& 31).toUInt32).toInt32).toInt8.toInt32) = A2 at hA2 ⊢
      refine Go.istore X0 hx (hb hby at_26) (l' := #[.val (.int pl), .val (.int pm), .val (.int px), .val (.int py), .val (.int pk), .val (.int (1 : Int32)), .val (.int (0 : Int32)), .val (.int A0), .val (.int A1), .val (.int A2), .unset, .unset, .unset, .unset, .unset, .unset, .unset, .unset, .unset, .unset]) rfl (q := 28) rfl ?_
      refine Go.iload X0 hx (hb hby at_28) rfl (q := 30) rfl ?_
      refine Go.iconst X0 hx (hb hby at_30) (r := (1 : Int32)) rfl (q := 31) rfl ?_
      refine Go.iand X0 hx (hb hby at_31) rfl (q := 32) rfl ?_
      have J42 : ∀ (C0 : Int32), (C0.toInt8.toInt32) = C0 → Go pp ee below (KK ss (Q_law0 Z pl pm px py pk h0) room_1.cells room_1.slots) (s₁.setTop (mkF mm 42 #[.val (.int pl), .val (.int pm), .val (.int px), .val (.int py), .val (.int pk), .val (.int (1 : Int32)), .val (.int (0 : Int32)), .val (.int A0), .val (.int A1), .val (.int A2), .unset, .unset, .unset, .unset, .unset, .unset, .unset, .unset, .unset, .unset] [(.int C0)])) := by
        intro C0 hC0
        refine Go.istore X0 hx (hb hby at_42) (l' := #[.val (.int pl), .val (.int pm), .val (.int px), .val (.int py), .val (.int pk), .val (.int (1 : Int32)), .val (.int (0 : Int32)), .val (.int A0), .val (.int A1), .val (.int A2), .val (.int C0), .unset, .unset, .unset, .unset, .unset, .unset, .unset, .unset, .unset]) rfl (q := 44) rfl ?_
        refine Go.iload X0 hx (hb hby at_44) rfl (q := 46) rfl ?_
        refine Go.iconst X0 hx (hb hby at_46) (r := (2 : Int32)) rfl (q := 47) rfl ?_
        refine Go.iand X0 hx (hb hby at_47) rfl (q := 48) rfl ?_
        have J61 : ∀ (C1 : Int32), (C1.toInt8.toInt32) = C1 → Go pp ee below (KK ss (Q_law0 Z pl pm px py pk h0) room_1.cells room_1.slots) (s₁.setTop (mkF mm 61 #[.val (.int pl), .val (.int pm), .val (.int px), .val (.int py), .val (.int pk), .val (.int (1 : Int32)), .val (.int (0 : Int32)), .val (.int A0), .val (.int A1), .val (.int A2), .val (.int C0), .unset, .unset, .unset, .unset, .unset, .unset, .unset, .unset, .unset] [(.int C1)])) := by
          intro C1 hC1
          refine Go.istore X0 hx (hb hby at_61) (l' := #[.val (.int pl), .val (.int pm), .val (.int px), .val (.int py), .val (.int pk), .val (.int (1 : Int32)), .val (.int (0 : Int32)), .val (.int A0), .val (.int A1), .val (.int A2), .val (.int C0), .val (.int C1), .unset, .unset, .unset, .unset, .unset, .unset, .unset, .unset]) rfl (q := 63) rfl ?_
          refine Go.iload X0 hx (hb hby at_63) rfl (q := 65) rfl ?_
          refine Go.iconst X0 hx (hb hby at_65) (r := (4 : Int32)) rfl (q := 66) rfl ?_
          refine Go.iand X0 hx (hb hby at_66) rfl (q := 67) rfl ?_
          have J80 : ∀ (C2 : Int32), (C2.toInt8.toInt32) = C2 → Go pp ee below (KK ss (Q_law0 Z pl pm px py pk h0) room_1.cells room_1.slots) (s₁.setTop (mkF mm 80 #[.val (.int pl), .val (.int pm), .val (.int px), .val (.int py), .val (.int pk), .val (.int (1 : Int32)), .val (.int (0 : Int32)), .val (.int A0), .val (.int A1), .val (.int A2), .val (.int C0), .val (.int C1), .unset, .unset, .unset, .unset, .unset, .unset, .unset, .unset] [(.int C2)])) := by
            intro C2 hC2
            refine Go.istore X0 hx (hb hby at_80) (l' := #[.val (.int pl), .val (.int pm), .val (.int px), .val (.int py), .val (.int pk), .val (.int (1 : Int32)), .val (.int (0 : Int32)), .val (.int A0), .val (.int A1), .val (.int A2), .val (.int C0), .val (.int C1), .val (.int C2), .unset, .unset, .unset, .unset, .unset, .unset, .unset]) rfl (q := 82) rfl ?_
            refine Go.iload X0 hx (hb hby at_82) rfl (q := 84) rfl ?_
            refine Go.iload X0 hx (hb hby at_84) rfl (q := 86) rfl ?_
            refine Go.iload X0 hx (hb hby at_86) rfl (q := 88) rfl ?_
            refine Go.iload X0 hx (hb hby at_88) rfl (q := 90) rfl ?_
            refine Go.callS X0 hx hZ hown (wd0 hw) (wd1 hw) (wd2 hw) (wd3 hw) (by decide) (make1 l Z a0 hw A0 A1 A2 h0 O0 hA0 hA1 hA2) e0 (by rw [hml]; rfl) (hb hby at_90) (argsL := [(.int (1 : Int32)), (.int A0), (.int A1), (.int A2)]) (rest := []) (lenOf pd3 rfl) rfl rfl (W := 0) (by first | exact Nat.le_refl _ | decide) (by decide) (by decide) (by decide) (by decide) ?_
            intro v169 T169 L169 X169 hQ169
            obtain ⟨h169, e169⟩ : ∃ z, T169.heap = z := ⟨_, rfl⟩
            rw [e169] at hQ169
            obtain ⟨b_169, kb_169, rfl, N169q, K169, fr169_b, P169_0, P169_1⟩ := hQ169
            have N169 := Fr.app N0 N169q
            have g_b_169 : Z.heap.size ≤ b_169 := Nat.le_trans O0.1 fr169_b
            have OK169 := ext_keep O0 K169 all0
            refine Go.astore X169 hx (hb hby at_93) rfl (l' := #[.val (.int pl), .val (.int pm), .val (.int px), .val (.int py), .val (.int pk), .val (.int (1 : Int32)), .val (.int (0 : Int32)), .val (.int A0), .val (.int A1), .val (.int A2), .val (.int C0), .val (.int C1), .val (.int C2), .val (.ref b_169), .unset, .unset, .unset, .unset, .unset, .unset]) rfl (q := 95) rfl ?_
            refine Go.iload X169 hx (hb hby at_95) rfl (q := 97) rfl ?_
            refine Go.iload X169 hx (hb hby at_97) rfl (q := 99) rfl ?_
            refine Go.iload X169 hx (hb hby at_99) rfl (q := 101) rfl ?_
            refine Go.iload X169 hx (hb hby at_101) rfl (q := 103) rfl ?_
            refine Go.callS X169 hx hZ hown (wd0 hw) (wd1 hw) (wd2 hw) (wd3 hw) (by decide) (make1 l Z a0 hw A0 A1 A2 h169 OK169 hA0 hA1 hA2) e169 (by rw [hml]; rfl) (hb hby at_103) (argsL := [(.int (1 : Int32)), (.int A0), (.int A1), (.int A2)]) (rest := []) (lenOf pd3 rfl) rfl rfl (W := 0) (by first | exact Nat.le_refl _ | decide) (by decide) (by decide) (by decide) (by decide) ?_
            intro v170 T170 L170 X170 hQ170
            obtain ⟨h170, e170⟩ : ∃ z, T170.heap = z := ⟨_, rfl⟩
            rw [e170] at hQ170
            obtain ⟨b_170, kb_170, rfl, N170q, K170, fr170_b, P170_0, P170_1⟩ := hQ170
            have N170 := Fr.app N169 N170q
            have ne_b_169_b_170 : b_169 ≠ b_170 := ne_new P169_0.lt fr170_b
            have g_b_170 : Z.heap.size ≤ b_170 := Nat.le_trans OK169.1 fr170_b
            replace P169_0 := P169_0.keep K170 nin0
            replace P169_1 := P169_1.keep K170
            have OK170 := ext_keep OK169 K170 all0
            refine Go.astore X170 hx (hb hby at_106) rfl (l' := #[.val (.int pl), .val (.int pm), .val (.int px), .val (.int py), .val (.int pk), .val (.int (1 : Int32)), .val (.int (0 : Int32)), .val (.int A0), .val (.int A1), .val (.int A2), .val (.int C0), .val (.int C1), .val (.int C2), .val (.ref b_169), .val (.ref b_170), .unset, .unset, .unset, .unset, .unset]) rfl (q := 108) rfl ?_
            refine Go.iload X170 hx (hb hby at_108) rfl (q := 110) rfl ?_
            refine Go.iload X170 hx (hb hby at_110) rfl (q := 112) rfl ?_
            refine Go.iload X170 hx (hb hby at_112) rfl (q := 114) rfl ?_
            refine Go.iload X170 hx (hb hby at_114) rfl (q := 116) rfl ?_
            refine Go.callS X170 hx hZ hown (wd0 hw) (wd1 hw) (wd2 hw) (wd3 hw) (by decide) (make0 l Z a0 hw C0 C1 C2 h170 OK170 hC0 hC1 hC2) e170 (by rw [hml]; rfl) (hb hby at_116) (argsL := [(.int (0 : Int32)), (.int C0), (.int C1), (.int C2)]) (rest := []) (lenOf pd3 rfl) rfl rfl (W := 0) (by first | exact Nat.le_refl _ | decide) (by decide) (by decide) (by decide) (by decide) ?_
            intro v171 T171 L171 X171 hQ171
            obtain ⟨h171, e171⟩ : ∃ z, T171.heap = z := ⟨_, rfl⟩
            rw [e171] at hQ171
            obtain ⟨b_171, kb_171, rfl, N171q, K171, fr171_b, P171_0, P171_1⟩ := hQ171
            have N171 := Fr.app N170 N171q
            have ne_b_169_b_171 : b_169 ≠ b_171 := ne_new P169_0.lt fr171_b
            have ne_b_170_b_171 : b_170 ≠ b_171 := ne_new P170_0.lt fr171_b
            have g_b_171 : Z.heap.size ≤ b_171 := Nat.le_trans OK170.1 fr171_b
            replace P169_0 := P169_0.keep K171 nin0
            replace P169_1 := P169_1.keep K171
            replace P170_0 := P170_0.keep K171 nin0
            replace P170_1 := P170_1.keep K171
            have OK171 := ext_keep OK170 K171 all0
            refine Go.astore X171 hx (hb hby at_119) rfl (l' := #[.val (.int pl), .val (.int pm), .val (.int px), .val (.int py), .val (.int pk), .val (.int (1 : Int32)), .val (.int (0 : Int32)), .val (.int A0), .val (.int A1), .val (.int A2), .val (.int C0), .val (.int C1), .val (.int C2), .val (.ref b_169), .val (.ref b_170), .val (.ref b_171), .unset, .unset, .unset, .unset]) rfl (q := 121) rfl ?_
            refine Go.aload X171 hx (hb hby at_121) rfl rfl (q := 123) rfl ?_
            refine Go.callS X171 hx hZ hown (wd5 hw) (wd6 hw) (wd7 hw) (wd8 hw) (by decide) (of1 l Z a0 hw b_169 (kb_169) A0 h171 OK171 P169_0 P169_1) e171 (by rw [hml]; rfl) (hb hby at_123) (argsL := [(.ref b_169)]) (rest := []) (lenOf pd4 rfl) rfl rfl (W := 0) (by first | exact Nat.le_refl _ | decide) (by decide) (by decide) (by decide) (by decide) ?_
            intro v172 T172 L172 X172 hQ172
            obtain ⟨h172, e172⟩ : ∃ z, T172.heap = z := ⟨_, rfl⟩
            rw [e172] at hQ172
            obtain ⟨b_172, cn_172, kc_172, rfl, N172q, K172, fr172_b, fr172_cn, P172_0, P172_1, P172_2, P172_3, P172_4, P172_5⟩ := hQ172
            have N172 := Fr.app N171 N172q
            have ne_b_169_b_172 : b_169 ≠ b_172 := ne_new P169_0.lt fr172_b
            have ne_b_170_b_172 : b_170 ≠ b_172 := ne_new P170_0.lt fr172_b
            have ne_b_171_b_172 : b_171 ≠ b_172 := ne_new P171_0.lt fr172_b
            have g_b_172 : Z.heap.size ≤ b_172 := Nat.le_trans OK171.1 fr172_b
            have ne_b_169_cn_172 : b_169 ≠ cn_172 := ne_new P169_0.lt fr172_cn
            have ne_b_170_cn_172 : b_170 ≠ cn_172 := ne_new P170_0.lt fr172_cn
            have ne_b_171_cn_172 : b_171 ≠ cn_172 := ne_new P171_0.lt fr172_cn
            have g_cn_172 : Z.heap.size ≤ cn_172 := Nat.le_trans OK171.1 fr172_cn
            replace P169_0 := P169_0.keep K172 nin0
            replace P169_1 := P169_1.keep K172
            replace P170_0 := P170_0.keep K172 nin0
            replace P170_1 := P170_1.keep K172
            replace P171_0 := P171_0.keep K172 nin0
            replace P171_1 := P171_1.keep K172
            have OK172 := ext_keep OK171 K172 all0
            refine Go.astore X172 hx (hb hby at_126) rfl (l' := #[.val (.int pl), .val (.int pm), .val (.int px), .val (.int py), .val (.int pk), .val (.int (1 : Int32)), .val (.int (0 : Int32)), .val (.int A0), .val (.int A1), .val (.int A2), .val (.int C0), .val (.int C1), .val (.int C2), .val (.ref b_169), .val (.ref b_170), .val (.ref b_171), .val (.ref b_172), .unset, .unset, .unset]) rfl (q := 128) rfl ?_
            refine Go.iload X172 hx (hb hby at_128) rfl (q := 130) rfl ?_
            refine Go.ifNo X172 hx (hb hby at_130) (by decide) (q := 133) rfl ?_
            refine Go.aload X172 hx (hb hby at_133) rfl rfl (q := 135) rfl ?_
            refine Go.iload X172 hx (hb hby at_135) rfl (q := 137) rfl ?_
            refine Go.iconst X172 hx (hb hby at_137) (r := (1 : Int32)) rfl (q := 138) rfl ?_
            refine Go.isub X172 hx (hb hby at_138) (r := (0 : Int32)) rfl (q := 139) rfl ?_
            refine Go.aload X172 hx (hb hby at_139) rfl rfl (q := 141) rfl ?_
            refine Go.iload X172 hx (hb hby at_141) rfl (q := 143) rfl ?_
            refine Go.iconst X172 hx (hb hby at_143) (r := (1 : Int32)) rfl (q := 144) rfl ?_
            refine Go.isub X172 hx (hb hby at_144) (r := (0 : Int32)) rfl (q := 145) rfl ?_
            refine Go.bal X172 hx hZ e172 P169_0 ⟨by decide, by decide⟩ (v := (.int A0)) rfl (hb hby at_145) ?_
            refine Go.iconst X172 hx (hb hby at_146) (r := (-1 : Int32)) rfl (q := 147) rfl ?_
            refine Go.ixor X172 hx (hb hby at_147) rfl (q := 148) rfl ?_
            refine Go.i2b X172 hx (hb hby at_148) rfl (q := 149) rfl ?_
            refine Go.bst X172 hx hZ e172 P169_0 ⟨by decide, by decide⟩ (i := 0) rfl (Nat.le_of_ble_eq_true rfl) (hb hby at_149) ?_
            intro T173 h173 X173 e173 W173 V173
            rw [bb (A0 ^^^ (-1 : Int32))] at V173
            replace V173 : Arv Z h173 b_169 kb_169 .byte (1 : Int32) [(.int ((A0 ^^^ (-1 : Int32)).toInt8.toInt32))] (.int (0 : Int32)) := V173
            have N173 := Fr.snoc X173 N172 g_b_169
            replace P169_1 := P169_1.wr W173
            replace P170_0 := P170_0.other W173 (Ne.symm ne_b_169_b_170)
            replace P170_1 := P170_1.wr W173
            replace P171_0 := P171_0.other W173 (Ne.symm ne_b_169_b_171)
            replace P171_1 := P171_1.wr W173
            replace P172_0 := P172_0.wr W173
            replace P172_1 := P172_1.other W173 (Or.inl (Ne.symm ne_b_169_b_172))
            replace P172_2 := P172_2.other W173 (Ne.symm ne_b_169_cn_172)
            replace P172_3 := P172_3.other W173 (Or.inl (Ne.symm ne_b_169_b_172))
            replace P172_4 := P172_4.other W173 (Or.inl (Ne.symm ne_b_169_b_172))
            replace P172_5 := P172_5.other W173 (Or.inl (Ne.symm ne_b_169_b_172))
            have OW173 := ext_wr OK172 W173 g_b_169
            refine Go.aload X173 hx (hb hby at_150) rfl rfl (q := 152) rfl ?_
            refine Go.callS X173 hx hZ hown (wd5 hw) (wd6 hw) (wd7 hw) (wd8 hw) (by decide) (of1 l Z a0 hw b_170 (kb_170) A0 h173 OW173 P170_0 P170_1) e173 (by rw [hml]; rfl) (hb hby at_152) (argsL := [(.ref b_170)]) (rest := []) (lenOf pd4 rfl) rfl rfl (W := 0) (by first | exact Nat.le_refl _ | decide) (by decide) (by decide) (by decide) (by decide) ?_
            intro v174 T174 L174 X174 hQ174
            obtain ⟨h174, e174⟩ : ∃ z, T174.heap = z := ⟨_, rfl⟩
            rw [e174] at hQ174
            obtain ⟨b_174, cn_174, kc_174, rfl, N174q, K174, fr174_b, fr174_cn, P174_0, P174_1, P174_2, P174_3, P174_4, P174_5⟩ := hQ174
            have N174 := Fr.app N173 N174q
            have ne_b_169_b_174 : b_169 ≠ b_174 := ne_new P169_1.lt fr174_b
            have ne_b_170_b_174 : b_170 ≠ b_174 := ne_new P170_0.lt fr174_b
            have ne_b_171_b_174 : b_171 ≠ b_174 := ne_new P171_0.lt fr174_b
            have ne_b_172_b_174 : b_172 ≠ b_174 := ne_new P172_0.lt fr174_b
            have ne_cn_172_b_174 : cn_172 ≠ b_174 := ne_new P172_2.lt fr174_b
            have g_b_174 : Z.heap.size ≤ b_174 := Nat.le_trans OW173.1 fr174_b
            have ne_b_169_cn_174 : b_169 ≠ cn_174 := ne_new P169_1.lt fr174_cn
            have ne_b_170_cn_174 : b_170 ≠ cn_174 := ne_new P170_0.lt fr174_cn
            have ne_b_171_cn_174 : b_171 ≠ cn_174 := ne_new P171_0.lt fr174_cn
            have ne_b_172_cn_174 : b_172 ≠ cn_174 := ne_new P172_0.lt fr174_cn
            have ne_cn_172_cn_174 : cn_172 ≠ cn_174 := ne_new P172_2.lt fr174_cn
            have g_cn_174 : Z.heap.size ≤ cn_174 := Nat.le_trans OW173.1 fr174_cn
            replace P169_1 := P169_1.keep K174
            replace P170_0 := P170_0.keep K174 nin0
            replace P170_1 := P170_1.keep K174
            replace P171_0 := P171_0.keep K174 nin0
            replace P171_1 := P171_1.keep K174
            replace P172_0 := P172_0.keep K174
            replace P172_1 := P172_1.keep K174 nin0
            replace P172_2 := P172_2.keep K174 nin0
            replace P172_3 := P172_3.keep K174 nin0
            replace P172_4 := P172_4.keep K174 nin0
            replace P172_5 := P172_5.keep K174 nin0
            replace V173 := V173.keep K174 nin0
            have OK174 := ext_keep OW173 K174 all0
            refine Go.astore X174 hx (hb hby at_155) rfl (l' := #[.val (.int pl), .val (.int pm), .val (.int px), .val (.int py), .val (.int pk), .val (.int (1 : Int32)), .val (.int (0 : Int32)), .val (.int A0), .val (.int A1), .val (.int A2), .val (.int C0), .val (.int C1), .val (.int C2), .val (.ref b_169), .val (.ref b_170), .val (.ref b_171), .val (.ref b_172), .val (.ref b_174), .unset, .unset]) rfl (q := 157) rfl ?_
            refine Go.aload X174 hx (hb hby at_157) rfl rfl (q := 159) rfl ?_
            refine Go.callS X174 hx hZ hown (wd5 hw) (wd6 hw) (wd7 hw) (wd8 hw) (by decide) (of0 l Z a0 hw b_171 (kb_171) h174 OK174 P171_0 P171_1) e174 (by rw [hml]; rfl) (hb hby at_159) (argsL := [(.ref b_171)]) (rest := []) (lenOf pd4 rfl) rfl rfl (W := 0) (by first | exact Nat.le_refl _ | decide) (by decide) (by decide) (by decide) (by decide) ?_
            intro v175 T175 L175 X175 hQ175
            obtain ⟨h175, e175⟩ : ∃ z, T175.heap = z := ⟨_, rfl⟩
            rw [e175] at hQ175
            obtain ⟨b_175, cn_175, kc_175, rfl, N175q, K175, fr175_b, fr175_cn, P175_0, P175_1, P175_2, P175_3, P175_4, P175_5⟩ := hQ175
            have N175 := Fr.app N174 N175q
            have ne_b_169_b_175 : b_169 ≠ b_175 := ne_new P169_1.lt fr175_b
            have ne_b_170_b_175 : b_170 ≠ b_175 := ne_new P170_0.lt fr175_b
            have ne_b_171_b_175 : b_171 ≠ b_175 := ne_new P171_0.lt fr175_b
            have ne_b_172_b_175 : b_172 ≠ b_175 := ne_new P172_0.lt fr175_b
            have ne_cn_172_b_175 : cn_172 ≠ b_175 := ne_new P172_2.lt fr175_b
            have ne_b_174_b_175 : b_174 ≠ b_175 := ne_new P174_0.lt fr175_b
            have ne_cn_174_b_175 : cn_174 ≠ b_175 := ne_new P174_2.lt fr175_b
            have g_b_175 : Z.heap.size ≤ b_175 := Nat.le_trans OK174.1 fr175_b
            have ne_b_169_cn_175 : b_169 ≠ cn_175 := ne_new P169_1.lt fr175_cn
            have ne_b_170_cn_175 : b_170 ≠ cn_175 := ne_new P170_0.lt fr175_cn
            have ne_b_171_cn_175 : b_171 ≠ cn_175 := ne_new P171_0.lt fr175_cn
            have ne_b_172_cn_175 : b_172 ≠ cn_175 := ne_new P172_0.lt fr175_cn
            have ne_cn_172_cn_175 : cn_172 ≠ cn_175 := ne_new P172_2.lt fr175_cn
            have ne_b_174_cn_175 : b_174 ≠ cn_175 := ne_new P174_0.lt fr175_cn
            have ne_cn_174_cn_175 : cn_174 ≠ cn_175 := ne_new P174_2.lt fr175_cn
            have g_cn_175 : Z.heap.size ≤ cn_175 := Nat.le_trans OK174.1 fr175_cn
            replace P169_1 := P169_1.keep K175
            replace P170_0 := P170_0.keep K175 nin0
            replace P170_1 := P170_1.keep K175
            replace P171_0 := P171_0.keep K175 nin0
            replace P171_1 := P171_1.keep K175
            replace P172_0 := P172_0.keep K175
            replace P172_1 := P172_1.keep K175 nin0
            replace P172_2 := P172_2.keep K175 nin0
            replace P172_3 := P172_3.keep K175 nin0
            replace P172_4 := P172_4.keep K175 nin0
            replace P172_5 := P172_5.keep K175 nin0
            replace V173 := V173.keep K175 nin0
            replace P174_0 := P174_0.keep K175
            replace P174_1 := P174_1.keep K175 nin0
            replace P174_2 := P174_2.keep K175 nin0
            replace P174_3 := P174_3.keep K175 nin0
            replace P174_4 := P174_4.keep K175 nin0
            replace P174_5 := P174_5.keep K175 nin0
            have OK175 := ext_keep OK174 K175 all0
            refine Go.astore X175 hx (hb hby at_162) rfl (l' := #[.val (.int pl), .val (.int pm), .val (.int px), .val (.int py), .val (.int pk), .val (.int (1 : Int32)), .val (.int (0 : Int32)), .val (.int A0), .val (.int A1), .val (.int A2), .val (.int C0), .val (.int C1), .val (.int C2), .val (.ref b_169), .val (.ref b_170), .val (.ref b_171), .val (.ref b_172), .val (.ref b_174), .val (.ref b_175), .unset]) rfl (q := 164) rfl ?_
            refine Go.aload X175 hx (hb hby at_164) rfl rfl (q := 166) rfl ?_
            refine Go.virt X175 hx hZ hown (wd36 hw) (wd37 hw) (notFace_of_selects (args := #[]) (mvT hZ (wd39 hw))) (wd39 hw) (wd38 hw) (wd7 hw) (wd40 hw) (by decide) (clen l Z a0 hw b_172 cn_172 (kc_172) ((1 : Int32)) ([(.int A0)]) h175 OK175 P172_1 P172_2) e175 P172_0 (by rw [hml]; rfl) (hb hby at_166) (argsL := []) (rest := []) (lenOf pd5 rfl) rfl rfl (W := 0) (by first | exact Nat.le_refl _ | decide) (by decide) (by decide) (by decide) (by decide) ?_
            intro v176 T176 L176 X176 hQ176
            obtain ⟨rfl, N176q, e176⟩ := hQ176
            have N176 := Fr.app N175 N176q
            refine Go.iload X176 hx (hb hby at_169) rfl (q := 171) rfl ?_
            refine Go.icmpNo X176 hx (hb hby at_171) (by decide) (q := 174) rfl ?_
            refine Go.aload X176 hx (hb hby at_174) rfl rfl (q := 176) rfl ?_
            refine Go.virt X176 hx hZ hown (wd36 hw) (wd37 hw) (notFace_of_selects (args := #[]) (mvT hZ (wd39 hw))) (wd39 hw) (wd38 hw) (wd7 hw) (wd40 hw) (by decide) (clen l Z a0 hw b_175 cn_175 (kc_175) ((0 : Int32)) ([]) h175 OK175 P175_1 P175_2) e176 P175_0 (by rw [hml]; rfl) (hb hby at_176) (argsL := []) (rest := []) (lenOf pd5 rfl) rfl rfl (W := 0) (by first | exact Nat.le_refl _ | decide) (by decide) (by decide) (by decide) (by decide) ?_
            intro v177 T177 L177 X177 hQ177
            obtain ⟨rfl, N177q, e177⟩ := hQ177
            have N177 := Fr.app N176 N177q
            refine Go.iload X177 hx (hb hby at_179) rfl (q := 181) rfl ?_
            refine Go.icmpNo X177 hx (hb hby at_181) (by decide) (q := 184) rfl ?_
            refine Go.aload X177 hx (hb hby at_184) rfl rfl (q := 186) rfl ?_
            refine Go.virt X177 hx hZ hown (wd41 hw) (wd42 hw) (notFace_of_selects (args := #[]) (mvT hZ (wd44 hw))) (wd44 hw) (wd43 hw) (wd7 hw) (wd45 hw) (by decide) (clast l Z a0 hw b_172 h175 OK175 P172_3) e177 P172_0 (by rw [hml]; rfl) (hb hby at_186) (argsL := []) (rest := []) (lenOf pd6 rfl) rfl rfl (W := 0) (by first | exact Nat.le_refl _ | decide) (by decide) (by decide) (by decide) (by decide) ?_
            intro v178 T178 L178 X178 hQ178
            obtain ⟨rfl, N178q, e178⟩ := hQ178
            have N178 := Fr.app N177 N178q
            refine Go.ifnonnullNo X178 hx (hb hby at_189) (q := 192) rfl ?_
            refine Go.aload X178 hx (hb hby at_192) rfl rfl (q := 194) rfl ?_
            refine Go.virt X178 hx hZ hown (wd46 hw) (wd47 hw) (notFace_of_selects (args := #[]) (mvT hZ (wd49 hw))) (wd49 hw) (wd48 hw) (wd7 hw) (wd50 hw) (by decide) (cshar l Z a0 hw b_172 h175 OK175 P172_4) e178 P172_0 (by rw [hml]; rfl) (hb hby at_194) (argsL := []) (rest := []) (lenOf pd7 rfl) rfl rfl (W := 0) (by first | exact Nat.le_refl _ | decide) (by decide) (by decide) (by decide) (by decide) ?_
            intro v179 T179 L179 X179 hQ179
            obtain ⟨rfl, N179q, e179⟩ := hQ179
            have N179 := Fr.app N178 N179q
            refine Go.ifNo X179 hx (hb hby at_197) (by decide) (q := 200) rfl ?_
            refine Go.aload X179 hx (hb hby at_200) rfl rfl (q := 202) rfl ?_
            refine Go.virt X179 hx hZ hown (wd51 hw) (wd52 hw) (notFace_of_selects (args := #[]) (mvT hZ (wd54 hw))) (wd54 hw) (wd53 hw) (wd7 hw) (wd55 hw) (by decide) (cremo l Z a0 hw b_172 h175 OK175 P172_5) e179 P172_0 (by rw [hml]; rfl) (hb hby at_202) (argsL := []) (rest := []) (lenOf pd7 rfl) rfl rfl (W := 0) (by first | exact Nat.le_refl _ | decide) (by decide) (by decide) (by decide) (by decide) ?_
            intro v180 T180 L180 X180 hQ180
            obtain ⟨rfl, N180q, e180⟩ := hQ180
            have N180 := Fr.app N179 N180q
            refine Go.ifNo X180 hx (hb hby at_205) (by decide) (q := 208) rfl ?_
            refine Go.iconst X180 hx (hb hby at_208) (r := (1 : Int32)) rfl (q := 209) rfl ?_
            refine Go.goto X180 hx (hb hby at_209) (q := 213) (by decide) (by decide) ?_
            refine Go.istore X180 hx (hb hby at_213) (l' := #[.val (.int pl), .val (.int pm), .val (.int px), .val (.int py), .val (.int pk), .val (.int (1 : Int32)), .val (.int (0 : Int32)), .val (.int A0), .val (.int A1), .val (.int A2), .val (.int C0), .val (.int C1), .val (.int C2), .val (.ref b_169), .val (.ref b_170), .val (.ref b_171), .val (.ref b_172), .val (.ref b_174), .val (.ref b_175), .val (.int (1 : Int32))]) rfl (q := 215) rfl ?_
            refine Go.iload X180 hx (hb hby at_215) rfl (q := 217) rfl ?_
            refine Go.ifNo X180 hx (hb hby at_217) (by decide) (q := 220) rfl ?_
            refine Go.aload X180 hx (hb hby at_220) rfl rfl (q := 222) rfl ?_
            refine Go.aload X180 hx (hb hby at_222) rfl rfl (q := 224) rfl ?_
            refine Go.virt X180 hx hZ hown (wd56 hw) (wd57 hw) (notFace_of_selects (args := #[]) (mvT hZ (wd59 hw))) (wd59 hw) (wd58 hw) (wd7 hw) (wd60 hw) (by decide) (chs1_1 l Z a0 hw b_172 b_174 cn_172 cn_174 (kc_172) (kc_174) A0 A0 h175 OK175 P172_1 P174_1 P172_2 P174_2 ne_cn_172_cn_174 rfl) e180 P172_0 (by rw [hml]; rfl) (hb hby at_224) (argsL := [(.ref b_174)]) (rest := []) (lenOf pd8 rfl) rfl rfl (W := 0) (by first | exact Nat.le_refl _ | decide) (by decide) (by decide) (by decide) (by decide) ?_
            intro v181 T181 L181 X181 hQ181
            obtain ⟨rfl, N181q, e181⟩ := hQ181
            have N181 := Fr.app N180 N181q
            refine Go.ifNo X181 hx (hb hby at_227) (by decide) (q := 230) rfl ?_
            refine Go.iconst X181 hx (hb hby at_230) (r := (1 : Int32)) rfl (q := 231) rfl ?_
            refine Go.goto X181 hx (hb hby at_231) (q := 235) (by decide) (by decide) ?_
            refine Go.istore X181 hx (hb hby at_235) (l' := #[.val (.int pl), .val (.int pm), .val (.int px), .val (.int py), .val (.int pk), .val (.int (1 : Int32)), .val (.int (0 : Int32)), .val (.int A0), .val (.int A1), .val (.int A2), .val (.int C0), .val (.int C1), .val (.int C2), .val (.ref b_169), .val (.ref b_170), .val (.ref b_171), .val (.ref b_172), .val (.ref b_174), .val (.ref b_175), .val (.int (1 : Int32))]) rfl (q := 237) rfl ?_
            refine Go.iload X181 hx (hb hby at_237) rfl (q := 239) rfl ?_
            refine Go.ifNo X181 hx (hb hby at_239) (by decide) (q := 242) rfl ?_
            refine Go.aload X181 hx (hb hby at_242) rfl rfl (q := 244) rfl ?_
            refine Go.aload X181 hx (hb hby at_244) rfl rfl (q := 246) rfl ?_
            refine Go.virt X181 hx hZ hown (wd56 hw) (wd57 hw) (notFace_of_selects (args := #[]) (mvT hZ (wd59 hw))) (wd59 hw) (wd58 hw) (wd7 hw) (wd60 hw) (by decide) (chsd1_0 l Z a0 hw b_172 b_175 cn_172 cn_175 (kc_172) (kc_175) A0 h175 OK175 P172_1 P175_1 P172_2 P175_2 ne_cn_172_cn_175) e181 P172_0 (by rw [hml]; rfl) (hb hby at_246) (argsL := [(.ref b_175)]) (rest := []) (lenOf pd8 rfl) rfl rfl (W := 0) (by first | exact Nat.le_refl _ | decide) (by decide) (by decide) (by decide) (by decide) ?_
            intro v182 T182 L182 X182 hQ182
            obtain ⟨rfl, N182q, e182⟩ := hQ182
            have N182 := Fr.app N181 N182q
            refine Go.aload X182 hx (hb hby at_249) rfl rfl (q := 251) rfl ?_
            refine Go.aload X182 hx (hb hby at_251) rfl rfl (q := 253) rfl ?_
            refine Go.callS X182 hx hZ hown (wd69 hw) (wd70 hw) (wd2 hw) (wd71 hw) (by decide) (csamd1_0 l Z a0 hw b_170 b_171 (kb_170) (kb_171) A0 h175 OK175 P170_0 P171_0) e182 (by rw [hml]; rfl) (hb hby at_253) (argsL := [(.ref b_170), (.ref b_171)]) (rest := [(.int (0 : Int32))]) (lenOf pd2 rfl) rfl rfl (W := 1) (by first | exact Nat.le_refl _ | decide) (by decide) (by decide) (by decide) (by decide) ?_
            intro v183 T183 L183 X183 hQ183
            obtain ⟨rfl, N183q, e183⟩ := hQ183
            have N183 := Fr.app N182 N183q
            refine Go.icmpNo X183 hx (hb hby at_256) (by decide) (q := 259) rfl ?_
            refine Go.iconst X183 hx (hb hby at_259) (r := (1 : Int32)) rfl (q := 260) rfl ?_
            refine Go.goto X183 hx (hb hby at_260) (q := 264) (by decide) (by decide) ?_
            refine Go.istore X183 hx (hb hby at_264) (l' := #[.val (.int pl), .val (.int pm), .val (.int px), .val (.int py), .val (.int pk), .val (.int (1 : Int32)), .val (.int (0 : Int32)), .val (.int A0), .val (.int A1), .val (.int A2), .val (.int C0), .val (.int C1), .val (.int C2), .val (.ref b_169), .val (.ref b_170), .val (.ref b_171), .val (.ref b_172), .val (.ref b_174), .val (.ref b_175), .val (.int (1 : Int32))]) rfl (q := 266) rfl ?_
            refine Go.iload X183 hx (hb hby at_266) rfl (q := 268) rfl ?_
            exact Go.retI X183 hx hret hlk (by simp) rfl (hb hby at_268) e183 (by decide) (by decide) ⟨rfl, N183⟩
          by_cases hc184 : (pk &&& (4 : Int32)) = (0 : Int32)
          · refine Go.ifNo X0 hx (hb hby at_67) (Jvm.Free.XT.i0_ne_f hc184) (q := 70) rfl ?_
            refine Go.iload X0 hx (hb hby at_70) rfl (q := 72) rfl ?_
            refine Go.goto X0 hx (hb hby at_72) (q := 80) (by decide) (by decide) ?_
            exact J80 _ hA2
          · refine Go.ifYes X0 hx (hb hby at_67) (Jvm.Free.XT.i0_ne_t hc184) (q := 75) (by decide) (by decide) ?_
            refine Go.iloadN X0 hx (hb hby at_75) rfl (q := 76) rfl ?_
            refine Go.bipush X0 hx (hb hby at_76) (r := (16 : Int32)) rfl (q := 78) rfl ?_
            refine Go.iushr X0 hx (hb hby at_78) rfl (q := 79) rfl ?_
            refine Go.i2b X0 hx (hb hby at_79) rfl (q := 80) rfl ?_
            exact J80 _ (bb _)
        by_cases hc185 : (pk &&& (2 : Int32)) = (0 : Int32)
        · refine Go.ifNo X0 hx (hb hby at_48) (Jvm.Free.XT.i0_ne_f hc185) (q := 51) rfl ?_
          refine Go.iload X0 hx (hb hby at_51) rfl (q := 53) rfl ?_
          refine Go.goto X0 hx (hb hby at_53) (q := 61) (by decide) (by decide) ?_
          exact J61 _ hA1
        · refine Go.ifYes X0 hx (hb hby at_48) (Jvm.Free.XT.i0_ne_t hc185) (q := 56) (by decide) (by decide) ?_
          refine Go.iloadN X0 hx (hb hby at_56) rfl (q := 57) rfl ?_
          refine Go.bipush X0 hx (hb hby at_57) (r := (8 : Int32)) rfl (q := 59) rfl ?_
          refine Go.iushr X0 hx (hb hby at_59) rfl (q := 60) rfl ?_
          refine Go.i2b X0 hx (hb hby at_60) rfl (q := 61) rfl ?_
          exact J61 _ (bb _)
      by_cases hc186 : (pk &&& (1 : Int32)) = (0 : Int32)
      · refine Go.ifNo X0 hx (hb hby at_32) (Jvm.Free.XT.i0_ne_f hc186) (q := 35) rfl ?_
        refine Go.iload X0 hx (hb hby at_35) rfl (q := 37) rfl ?_
        refine Go.goto X0 hx (hb hby at_37) (q := 42) (by decide) (by decide) ?_
        exact J42 _ hA0
      · refine Go.ifYes X0 hx (hb hby at_32) (Jvm.Free.XT.i0_ne_t hc186) (q := 40) (by decide) (by decide) ?_
        refine Go.iloadN X0 hx (hb hby at_40) rfl (q := 41) rfl ?_
        refine Go.i2b X0 hx (hb hby at_41) rfl (q := 42) rfl ?_
        exact J42 _ (bb _)
    · show Go pp ee below _ (s₁.setTop (mkF mm 8 #[.val (.int pl), .val (.int pm), .val (.int px), .val (.int py), .val (.int pk), .val (.int (1 : Int32)), .unset, .unset, .unset, .unset, .unset, .unset, .unset, .unset, .unset, .unset, .unset, .unset, .unset, .unset] [(.int (1 : Int32))]))
      refine Go.istore X0 hx (hb hby at_8) (l' := #[.val (.int pl), .val (.int pm), .val (.int px), .val (.int py), .val (.int pk), .val (.int (1 : Int32)), .val (.int (1 : Int32)), .unset, .unset, .unset, .unset, .unset, .unset, .unset, .unset, .unset, .unset, .unset, .unset, .unset]) rfl (q := 10) rfl ?_
      refine Go.iloadN X0 hx (hb hby at_10) rfl (q := 11) rfl ?_
      refine Go.i2b X0 hx (hb hby at_11) rfl (q := 12) rfl ?_
      have hA0 := bb px
      generalize (px.toInt8.toInt32) = A0 at hA0 ⊢
      refine Go.istore X0 hx (hb hby at_12) (l' := #[.val (.int pl), .val (.int pm), .val (.int px), .val (.int py), .val (.int pk), .val (.int (1 : Int32)), .val (.int (1 : Int32)), .val (.int A0), .unset, .unset, .unset, .unset, .unset, .unset, .unset, .unset, .unset, .unset, .unset, .unset]) rfl (q := 14) rfl ?_
      refine Go.iloadN X0 hx (hb hby at_14) rfl (q := 15) rfl ?_
      refine Go.bipush X0 hx (hb hby at_15) (r := (8 : Int32)) rfl (q := 17) rfl ?_
      refine Go.iushr X0 hx (hb hby at_17) rfl (q := 18) rfl ?_
      refine Go.i2b X0 hx (hb hby at_18) rfl (q := 19) rfl ?_
      have hA1 := bb ((px.toUInt32 >>> ((8 : Int32) &&& 31).toUInt32).toInt32)
      generalize (((px.toUInt32 >>> ((8 : Int32) &&& 31).toUInt32).toInt32).toInt8.toInt32) = A1 at hA1 ⊢
      refine Go.istore X0 hx (hb hby at_19) (l' := #[.val (.int pl), .val (.int pm), .val (.int px), .val (.int py), .val (.int pk), .val (.int (1 : Int32)), .val (.int (1 : Int32)), .val (.int A0), .val (.int A1), .unset, .unset, .unset, .unset, .unset, .unset, .unset, .unset, .unset, .unset, .unset]) rfl (q := 21) rfl ?_
      refine Go.iloadN X0 hx (hb hby at_21) rfl (q := 22) rfl ?_
      refine Go.bipush X0 hx (hb hby at_22) (r := (16 : Int32)) rfl (q := 24) rfl ?_
      refine Go.iushr X0 hx (hb hby at_24) rfl (q := 25) rfl ?_
      refine Go.i2b X0 hx (hb hby at_25) rfl (q := 26) rfl ?_
      have hA2 := bb ((px.toUInt32 >>> ((16 : Int32) &&& 31).toUInt32).toInt32)
      generalize (((px.toUInt32 >>> ((16 : Int32) &&& 31).toUInt32).toInt32).toInt8.toInt32) = A2 at hA2 ⊢
      refine Go.istore X0 hx (hb hby at_26) (l' := #[.val (.int pl), .val (.int pm), .val (.int px), .val (.int py), .val (.int pk), .val (.int (1 : Int32)), .val (.int (1 : Int32)), .val (.int A0), .val (.int A1), .val (.int A2), .unset, .unset, .unset, .unset, .unset, .unset, .unset, .unset, .unset, .unset]) rfl (q := 28) rfl ?_
      refine Go.iload X0 hx (hb hby at_28) rfl (q := 30) rfl ?_
      refine Go.iconst X0 hx (hb hby at_30) (r := (1 : Int32)) rfl (q := 31) rfl ?_
      refine Go.iand X0 hx (hb hby at_31) rfl (q := 32) rfl ?_
      have J42 : ∀ (C0 : Int32), (C0.toInt8.toInt32) = C0 → Go pp ee below (KK ss (Q_law0 Z pl pm px py pk h0) room_1.cells room_1.slots) (s₁.setTop (mkF mm 42 #[.val (.int pl), .val (.int pm), .val (.int px), .val (.int py), .val (.int pk), .val (.int (1 : Int32)), .val (.int (1 : Int32)), .val (.int A0), .val (.int A1), .val (.int A2), .unset, .unset, .unset, .unset, .unset, .unset, .unset, .unset, .unset, .unset] [(.int C0)])) := by
        intro C0 hC0
        refine Go.istore X0 hx (hb hby at_42) (l' := #[.val (.int pl), .val (.int pm), .val (.int px), .val (.int py), .val (.int pk), .val (.int (1 : Int32)), .val (.int (1 : Int32)), .val (.int A0), .val (.int A1), .val (.int A2), .val (.int C0), .unset, .unset, .unset, .unset, .unset, .unset, .unset, .unset, .unset]) rfl (q := 44) rfl ?_
        refine Go.iload X0 hx (hb hby at_44) rfl (q := 46) rfl ?_
        refine Go.iconst X0 hx (hb hby at_46) (r := (2 : Int32)) rfl (q := 47) rfl ?_
        refine Go.iand X0 hx (hb hby at_47) rfl (q := 48) rfl ?_
        have J61 : ∀ (C1 : Int32), (C1.toInt8.toInt32) = C1 → Go pp ee below (KK ss (Q_law0 Z pl pm px py pk h0) room_1.cells room_1.slots) (s₁.setTop (mkF mm 61 #[.val (.int pl), .val (.int pm), .val (.int px), .val (.int py), .val (.int pk), .val (.int (1 : Int32)), .val (.int (1 : Int32)), .val (.int A0), .val (.int A1), .val (.int A2), .val (.int C0), .unset, .unset, .unset, .unset, .unset, .unset, .unset, .unset, .unset] [(.int C1)])) := by
          intro C1 hC1
          refine Go.istore X0 hx (hb hby at_61) (l' := #[.val (.int pl), .val (.int pm), .val (.int px), .val (.int py), .val (.int pk), .val (.int (1 : Int32)), .val (.int (1 : Int32)), .val (.int A0), .val (.int A1), .val (.int A2), .val (.int C0), .val (.int C1), .unset, .unset, .unset, .unset, .unset, .unset, .unset, .unset]) rfl (q := 63) rfl ?_
          refine Go.iload X0 hx (hb hby at_63) rfl (q := 65) rfl ?_
          refine Go.iconst X0 hx (hb hby at_65) (r := (4 : Int32)) rfl (q := 66) rfl ?_
          refine Go.iand X0 hx (hb hby at_66) rfl (q := 67) rfl ?_
          have J80 : ∀ (C2 : Int32), (C2.toInt8.toInt32) = C2 → Go pp ee below (KK ss (Q_law0 Z pl pm px py pk h0) room_1.cells room_1.slots) (s₁.setTop (mkF mm 80 #[.val (.int pl), .val (.int pm), .val (.int px), .val (.int py), .val (.int pk), .val (.int (1 : Int32)), .val (.int (1 : Int32)), .val (.int A0), .val (.int A1), .val (.int A2), .val (.int C0), .val (.int C1), .unset, .unset, .unset, .unset, .unset, .unset, .unset, .unset] [(.int C2)])) := by
            intro C2 hC2
            refine Go.istore X0 hx (hb hby at_80) (l' := #[.val (.int pl), .val (.int pm), .val (.int px), .val (.int py), .val (.int pk), .val (.int (1 : Int32)), .val (.int (1 : Int32)), .val (.int A0), .val (.int A1), .val (.int A2), .val (.int C0), .val (.int C1), .val (.int C2), .unset, .unset, .unset, .unset, .unset, .unset, .unset]) rfl (q := 82) rfl ?_
            refine Go.iload X0 hx (hb hby at_82) rfl (q := 84) rfl ?_
            refine Go.iload X0 hx (hb hby at_84) rfl (q := 86) rfl ?_
            refine Go.iload X0 hx (hb hby at_86) rfl (q := 88) rfl ?_
            refine Go.iload X0 hx (hb hby at_88) rfl (q := 90) rfl ?_
            refine Go.callS X0 hx hZ hown (wd0 hw) (wd1 hw) (wd2 hw) (wd3 hw) (by decide) (make1 l Z a0 hw A0 A1 A2 h0 O0 hA0 hA1 hA2) e0 (by rw [hml]; rfl) (hb hby at_90) (argsL := [(.int (1 : Int32)), (.int A0), (.int A1), (.int A2)]) (rest := []) (lenOf pd3 rfl) rfl rfl (W := 0) (by first | exact Nat.le_refl _ | decide) (by decide) (by decide) (by decide) (by decide) ?_
            intro v187 T187 L187 X187 hQ187
            obtain ⟨h187, e187⟩ : ∃ z, T187.heap = z := ⟨_, rfl⟩
            rw [e187] at hQ187
            obtain ⟨b_187, kb_187, rfl, N187q, K187, fr187_b, P187_0, P187_1⟩ := hQ187
            have N187 := Fr.app N0 N187q
            have g_b_187 : Z.heap.size ≤ b_187 := Nat.le_trans O0.1 fr187_b
            have OK187 := ext_keep O0 K187 all0
            refine Go.astore X187 hx (hb hby at_93) rfl (l' := #[.val (.int pl), .val (.int pm), .val (.int px), .val (.int py), .val (.int pk), .val (.int (1 : Int32)), .val (.int (1 : Int32)), .val (.int A0), .val (.int A1), .val (.int A2), .val (.int C0), .val (.int C1), .val (.int C2), .val (.ref b_187), .unset, .unset, .unset, .unset, .unset, .unset]) rfl (q := 95) rfl ?_
            refine Go.iload X187 hx (hb hby at_95) rfl (q := 97) rfl ?_
            refine Go.iload X187 hx (hb hby at_97) rfl (q := 99) rfl ?_
            refine Go.iload X187 hx (hb hby at_99) rfl (q := 101) rfl ?_
            refine Go.iload X187 hx (hb hby at_101) rfl (q := 103) rfl ?_
            refine Go.callS X187 hx hZ hown (wd0 hw) (wd1 hw) (wd2 hw) (wd3 hw) (by decide) (make1 l Z a0 hw A0 A1 A2 h187 OK187 hA0 hA1 hA2) e187 (by rw [hml]; rfl) (hb hby at_103) (argsL := [(.int (1 : Int32)), (.int A0), (.int A1), (.int A2)]) (rest := []) (lenOf pd3 rfl) rfl rfl (W := 0) (by first | exact Nat.le_refl _ | decide) (by decide) (by decide) (by decide) (by decide) ?_
            intro v188 T188 L188 X188 hQ188
            obtain ⟨h188, e188⟩ : ∃ z, T188.heap = z := ⟨_, rfl⟩
            rw [e188] at hQ188
            obtain ⟨b_188, kb_188, rfl, N188q, K188, fr188_b, P188_0, P188_1⟩ := hQ188
            have N188 := Fr.app N187 N188q
            have ne_b_187_b_188 : b_187 ≠ b_188 := ne_new P187_0.lt fr188_b
            have g_b_188 : Z.heap.size ≤ b_188 := Nat.le_trans OK187.1 fr188_b
            replace P187_0 := P187_0.keep K188 nin0
            replace P187_1 := P187_1.keep K188
            have OK188 := ext_keep OK187 K188 all0
            refine Go.astore X188 hx (hb hby at_106) rfl (l' := #[.val (.int pl), .val (.int pm), .val (.int px), .val (.int py), .val (.int pk), .val (.int (1 : Int32)), .val (.int (1 : Int32)), .val (.int A0), .val (.int A1), .val (.int A2), .val (.int C0), .val (.int C1), .val (.int C2), .val (.ref b_187), .val (.ref b_188), .unset, .unset, .unset, .unset, .unset]) rfl (q := 108) rfl ?_
            refine Go.iload X188 hx (hb hby at_108) rfl (q := 110) rfl ?_
            refine Go.iload X188 hx (hb hby at_110) rfl (q := 112) rfl ?_
            refine Go.iload X188 hx (hb hby at_112) rfl (q := 114) rfl ?_
            refine Go.iload X188 hx (hb hby at_114) rfl (q := 116) rfl ?_
            refine Go.callS X188 hx hZ hown (wd0 hw) (wd1 hw) (wd2 hw) (wd3 hw) (by decide) (make1 l Z a0 hw C0 C1 C2 h188 OK188 hC0 hC1 hC2) e188 (by rw [hml]; rfl) (hb hby at_116) (argsL := [(.int (1 : Int32)), (.int C0), (.int C1), (.int C2)]) (rest := []) (lenOf pd3 rfl) rfl rfl (W := 0) (by first | exact Nat.le_refl _ | decide) (by decide) (by decide) (by decide) (by decide) ?_
            intro v189 T189 L189 X189 hQ189
            obtain ⟨h189, e189⟩ : ∃ z, T189.heap = z := ⟨_, rfl⟩
            rw [e189] at hQ189
            obtain ⟨b_189, kb_189, rfl, N189q, K189, fr189_b, P189_0, P189_1⟩ := hQ189
            have N189 := Fr.app N188 N189q
            have ne_b_187_b_189 : b_187 ≠ b_189 := ne_new P187_0.lt fr189_b
            have ne_b_188_b_189 : b_188 ≠ b_189 := ne_new P188_0.lt fr189_b
            have g_b_189 : Z.heap.size ≤ b_189 := Nat.le_trans OK188.1 fr189_b
            replace P187_0 := P187_0.keep K189 nin0
            replace P187_1 := P187_1.keep K189
            replace P188_0 := P188_0.keep K189 nin0
            replace P188_1 := P188_1.keep K189
            have OK189 := ext_keep OK188 K189 all0
            refine Go.astore X189 hx (hb hby at_119) rfl (l' := #[.val (.int pl), .val (.int pm), .val (.int px), .val (.int py), .val (.int pk), .val (.int (1 : Int32)), .val (.int (1 : Int32)), .val (.int A0), .val (.int A1), .val (.int A2), .val (.int C0), .val (.int C1), .val (.int C2), .val (.ref b_187), .val (.ref b_188), .val (.ref b_189), .unset, .unset, .unset, .unset]) rfl (q := 121) rfl ?_
            refine Go.aload X189 hx (hb hby at_121) rfl rfl (q := 123) rfl ?_
            refine Go.callS X189 hx hZ hown (wd5 hw) (wd6 hw) (wd7 hw) (wd8 hw) (by decide) (of1 l Z a0 hw b_187 (kb_187) A0 h189 OK189 P187_0 P187_1) e189 (by rw [hml]; rfl) (hb hby at_123) (argsL := [(.ref b_187)]) (rest := []) (lenOf pd4 rfl) rfl rfl (W := 0) (by first | exact Nat.le_refl _ | decide) (by decide) (by decide) (by decide) (by decide) ?_
            intro v190 T190 L190 X190 hQ190
            obtain ⟨h190, e190⟩ : ∃ z, T190.heap = z := ⟨_, rfl⟩
            rw [e190] at hQ190
            obtain ⟨b_190, cn_190, kc_190, rfl, N190q, K190, fr190_b, fr190_cn, P190_0, P190_1, P190_2, P190_3, P190_4, P190_5⟩ := hQ190
            have N190 := Fr.app N189 N190q
            have ne_b_187_b_190 : b_187 ≠ b_190 := ne_new P187_0.lt fr190_b
            have ne_b_188_b_190 : b_188 ≠ b_190 := ne_new P188_0.lt fr190_b
            have ne_b_189_b_190 : b_189 ≠ b_190 := ne_new P189_0.lt fr190_b
            have g_b_190 : Z.heap.size ≤ b_190 := Nat.le_trans OK189.1 fr190_b
            have ne_b_187_cn_190 : b_187 ≠ cn_190 := ne_new P187_0.lt fr190_cn
            have ne_b_188_cn_190 : b_188 ≠ cn_190 := ne_new P188_0.lt fr190_cn
            have ne_b_189_cn_190 : b_189 ≠ cn_190 := ne_new P189_0.lt fr190_cn
            have g_cn_190 : Z.heap.size ≤ cn_190 := Nat.le_trans OK189.1 fr190_cn
            replace P187_0 := P187_0.keep K190 nin0
            replace P187_1 := P187_1.keep K190
            replace P188_0 := P188_0.keep K190 nin0
            replace P188_1 := P188_1.keep K190
            replace P189_0 := P189_0.keep K190 nin0
            replace P189_1 := P189_1.keep K190
            have OK190 := ext_keep OK189 K190 all0
            refine Go.astore X190 hx (hb hby at_126) rfl (l' := #[.val (.int pl), .val (.int pm), .val (.int px), .val (.int py), .val (.int pk), .val (.int (1 : Int32)), .val (.int (1 : Int32)), .val (.int A0), .val (.int A1), .val (.int A2), .val (.int C0), .val (.int C1), .val (.int C2), .val (.ref b_187), .val (.ref b_188), .val (.ref b_189), .val (.ref b_190), .unset, .unset, .unset]) rfl (q := 128) rfl ?_
            refine Go.iload X190 hx (hb hby at_128) rfl (q := 130) rfl ?_
            refine Go.ifNo X190 hx (hb hby at_130) (by decide) (q := 133) rfl ?_
            refine Go.aload X190 hx (hb hby at_133) rfl rfl (q := 135) rfl ?_
            refine Go.iload X190 hx (hb hby at_135) rfl (q := 137) rfl ?_
            refine Go.iconst X190 hx (hb hby at_137) (r := (1 : Int32)) rfl (q := 138) rfl ?_
            refine Go.isub X190 hx (hb hby at_138) (r := (0 : Int32)) rfl (q := 139) rfl ?_
            refine Go.aload X190 hx (hb hby at_139) rfl rfl (q := 141) rfl ?_
            refine Go.iload X190 hx (hb hby at_141) rfl (q := 143) rfl ?_
            refine Go.iconst X190 hx (hb hby at_143) (r := (1 : Int32)) rfl (q := 144) rfl ?_
            refine Go.isub X190 hx (hb hby at_144) (r := (0 : Int32)) rfl (q := 145) rfl ?_
            refine Go.bal X190 hx hZ e190 P187_0 ⟨by decide, by decide⟩ (v := (.int A0)) rfl (hb hby at_145) ?_
            refine Go.iconst X190 hx (hb hby at_146) (r := (-1 : Int32)) rfl (q := 147) rfl ?_
            refine Go.ixor X190 hx (hb hby at_147) rfl (q := 148) rfl ?_
            refine Go.i2b X190 hx (hb hby at_148) rfl (q := 149) rfl ?_
            refine Go.bst X190 hx hZ e190 P187_0 ⟨by decide, by decide⟩ (i := 0) rfl (Nat.le_of_ble_eq_true rfl) (hb hby at_149) ?_
            intro T191 h191 X191 e191 W191 V191
            rw [bb (A0 ^^^ (-1 : Int32))] at V191
            replace V191 : Arv Z h191 b_187 kb_187 .byte (1 : Int32) [(.int ((A0 ^^^ (-1 : Int32)).toInt8.toInt32))] (.int (0 : Int32)) := V191
            have N191 := Fr.snoc X191 N190 g_b_187
            replace P187_1 := P187_1.wr W191
            replace P188_0 := P188_0.other W191 (Ne.symm ne_b_187_b_188)
            replace P188_1 := P188_1.wr W191
            replace P189_0 := P189_0.other W191 (Ne.symm ne_b_187_b_189)
            replace P189_1 := P189_1.wr W191
            replace P190_0 := P190_0.wr W191
            replace P190_1 := P190_1.other W191 (Or.inl (Ne.symm ne_b_187_b_190))
            replace P190_2 := P190_2.other W191 (Ne.symm ne_b_187_cn_190)
            replace P190_3 := P190_3.other W191 (Or.inl (Ne.symm ne_b_187_b_190))
            replace P190_4 := P190_4.other W191 (Or.inl (Ne.symm ne_b_187_b_190))
            replace P190_5 := P190_5.other W191 (Or.inl (Ne.symm ne_b_187_b_190))
            have OW191 := ext_wr OK190 W191 g_b_187
            refine Go.aload X191 hx (hb hby at_150) rfl rfl (q := 152) rfl ?_
            refine Go.callS X191 hx hZ hown (wd5 hw) (wd6 hw) (wd7 hw) (wd8 hw) (by decide) (of1 l Z a0 hw b_188 (kb_188) A0 h191 OW191 P188_0 P188_1) e191 (by rw [hml]; rfl) (hb hby at_152) (argsL := [(.ref b_188)]) (rest := []) (lenOf pd4 rfl) rfl rfl (W := 0) (by first | exact Nat.le_refl _ | decide) (by decide) (by decide) (by decide) (by decide) ?_
            intro v192 T192 L192 X192 hQ192
            obtain ⟨h192, e192⟩ : ∃ z, T192.heap = z := ⟨_, rfl⟩
            rw [e192] at hQ192
            obtain ⟨b_192, cn_192, kc_192, rfl, N192q, K192, fr192_b, fr192_cn, P192_0, P192_1, P192_2, P192_3, P192_4, P192_5⟩ := hQ192
            have N192 := Fr.app N191 N192q
            have ne_b_187_b_192 : b_187 ≠ b_192 := ne_new P187_1.lt fr192_b
            have ne_b_188_b_192 : b_188 ≠ b_192 := ne_new P188_0.lt fr192_b
            have ne_b_189_b_192 : b_189 ≠ b_192 := ne_new P189_0.lt fr192_b
            have ne_b_190_b_192 : b_190 ≠ b_192 := ne_new P190_0.lt fr192_b
            have ne_cn_190_b_192 : cn_190 ≠ b_192 := ne_new P190_2.lt fr192_b
            have g_b_192 : Z.heap.size ≤ b_192 := Nat.le_trans OW191.1 fr192_b
            have ne_b_187_cn_192 : b_187 ≠ cn_192 := ne_new P187_1.lt fr192_cn
            have ne_b_188_cn_192 : b_188 ≠ cn_192 := ne_new P188_0.lt fr192_cn
            have ne_b_189_cn_192 : b_189 ≠ cn_192 := ne_new P189_0.lt fr192_cn
            have ne_b_190_cn_192 : b_190 ≠ cn_192 := ne_new P190_0.lt fr192_cn
            have ne_cn_190_cn_192 : cn_190 ≠ cn_192 := ne_new P190_2.lt fr192_cn
            have g_cn_192 : Z.heap.size ≤ cn_192 := Nat.le_trans OW191.1 fr192_cn
            replace P187_1 := P187_1.keep K192
            replace P188_0 := P188_0.keep K192 nin0
            replace P188_1 := P188_1.keep K192
            replace P189_0 := P189_0.keep K192 nin0
            replace P189_1 := P189_1.keep K192
            replace P190_0 := P190_0.keep K192
            replace P190_1 := P190_1.keep K192 nin0
            replace P190_2 := P190_2.keep K192 nin0
            replace P190_3 := P190_3.keep K192 nin0
            replace P190_4 := P190_4.keep K192 nin0
            replace P190_5 := P190_5.keep K192 nin0
            replace V191 := V191.keep K192 nin0
            have OK192 := ext_keep OW191 K192 all0
            refine Go.astore X192 hx (hb hby at_155) rfl (l' := #[.val (.int pl), .val (.int pm), .val (.int px), .val (.int py), .val (.int pk), .val (.int (1 : Int32)), .val (.int (1 : Int32)), .val (.int A0), .val (.int A1), .val (.int A2), .val (.int C0), .val (.int C1), .val (.int C2), .val (.ref b_187), .val (.ref b_188), .val (.ref b_189), .val (.ref b_190), .val (.ref b_192), .unset, .unset]) rfl (q := 157) rfl ?_
            refine Go.aload X192 hx (hb hby at_157) rfl rfl (q := 159) rfl ?_
            refine Go.callS X192 hx hZ hown (wd5 hw) (wd6 hw) (wd7 hw) (wd8 hw) (by decide) (of1 l Z a0 hw b_189 (kb_189) C0 h192 OK192 P189_0 P189_1) e192 (by rw [hml]; rfl) (hb hby at_159) (argsL := [(.ref b_189)]) (rest := []) (lenOf pd4 rfl) rfl rfl (W := 0) (by first | exact Nat.le_refl _ | decide) (by decide) (by decide) (by decide) (by decide) ?_
            intro v193 T193 L193 X193 hQ193
            obtain ⟨h193, e193⟩ : ∃ z, T193.heap = z := ⟨_, rfl⟩
            rw [e193] at hQ193
            obtain ⟨b_193, cn_193, kc_193, rfl, N193q, K193, fr193_b, fr193_cn, P193_0, P193_1, P193_2, P193_3, P193_4, P193_5⟩ := hQ193
            have N193 := Fr.app N192 N193q
            have ne_b_187_b_193 : b_187 ≠ b_193 := ne_new P187_1.lt fr193_b
            have ne_b_188_b_193 : b_188 ≠ b_193 := ne_new P188_0.lt fr193_b
            have ne_b_189_b_193 : b_189 ≠ b_193 := ne_new P189_0.lt fr193_b
            have ne_b_190_b_193 : b_190 ≠ b_193 := ne_new P190_0.lt fr193_b
            have ne_cn_190_b_193 : cn_190 ≠ b_193 := ne_new P190_2.lt fr193_b
            have ne_b_192_b_193 : b_192 ≠ b_193 := ne_new P192_0.lt fr193_b
            have ne_cn_192_b_193 : cn_192 ≠ b_193 := ne_new P192_2.lt fr193_b
            have g_b_193 : Z.heap.size ≤ b_193 := Nat.le_trans OK192.1 fr193_b
            have ne_b_187_cn_193 : b_187 ≠ cn_193 := ne_new P187_1.lt fr193_cn
            have ne_b_188_cn_193 : b_188 ≠ cn_193 := ne_new P188_0.lt fr193_cn
            have ne_b_189_cn_193 : b_189 ≠ cn_193 := ne_new P189_0.lt fr193_cn
            have ne_b_190_cn_193 : b_190 ≠ cn_193 := ne_new P190_0.lt fr193_cn
            have ne_cn_190_cn_193 : cn_190 ≠ cn_193 := ne_new P190_2.lt fr193_cn
            have ne_b_192_cn_193 : b_192 ≠ cn_193 := ne_new P192_0.lt fr193_cn
            have ne_cn_192_cn_193 : cn_192 ≠ cn_193 := ne_new P192_2.lt fr193_cn
            have g_cn_193 : Z.heap.size ≤ cn_193 := Nat.le_trans OK192.1 fr193_cn
            replace P187_1 := P187_1.keep K193
            replace P188_0 := P188_0.keep K193 nin0
            replace P188_1 := P188_1.keep K193
            replace P189_0 := P189_0.keep K193 nin0
            replace P189_1 := P189_1.keep K193
            replace P190_0 := P190_0.keep K193
            replace P190_1 := P190_1.keep K193 nin0
            replace P190_2 := P190_2.keep K193 nin0
            replace P190_3 := P190_3.keep K193 nin0
            replace P190_4 := P190_4.keep K193 nin0
            replace P190_5 := P190_5.keep K193 nin0
            replace V191 := V191.keep K193 nin0
            replace P192_0 := P192_0.keep K193
            replace P192_1 := P192_1.keep K193 nin0
            replace P192_2 := P192_2.keep K193 nin0
            replace P192_3 := P192_3.keep K193 nin0
            replace P192_4 := P192_4.keep K193 nin0
            replace P192_5 := P192_5.keep K193 nin0
            have OK193 := ext_keep OK192 K193 all0
            refine Go.astore X193 hx (hb hby at_162) rfl (l' := #[.val (.int pl), .val (.int pm), .val (.int px), .val (.int py), .val (.int pk), .val (.int (1 : Int32)), .val (.int (1 : Int32)), .val (.int A0), .val (.int A1), .val (.int A2), .val (.int C0), .val (.int C1), .val (.int C2), .val (.ref b_187), .val (.ref b_188), .val (.ref b_189), .val (.ref b_190), .val (.ref b_192), .val (.ref b_193), .unset]) rfl (q := 164) rfl ?_
            refine Go.aload X193 hx (hb hby at_164) rfl rfl (q := 166) rfl ?_
            refine Go.virt X193 hx hZ hown (wd36 hw) (wd37 hw) (notFace_of_selects (args := #[]) (mvT hZ (wd39 hw))) (wd39 hw) (wd38 hw) (wd7 hw) (wd40 hw) (by decide) (clen l Z a0 hw b_190 cn_190 (kc_190) ((1 : Int32)) ([(.int A0)]) h193 OK193 P190_1 P190_2) e193 P190_0 (by rw [hml]; rfl) (hb hby at_166) (argsL := []) (rest := []) (lenOf pd5 rfl) rfl rfl (W := 0) (by first | exact Nat.le_refl _ | decide) (by decide) (by decide) (by decide) (by decide) ?_
            intro v194 T194 L194 X194 hQ194
            obtain ⟨rfl, N194q, e194⟩ := hQ194
            have N194 := Fr.app N193 N194q
            refine Go.iload X194 hx (hb hby at_169) rfl (q := 171) rfl ?_
            refine Go.icmpNo X194 hx (hb hby at_171) (by decide) (q := 174) rfl ?_
            refine Go.aload X194 hx (hb hby at_174) rfl rfl (q := 176) rfl ?_
            refine Go.virt X194 hx hZ hown (wd36 hw) (wd37 hw) (notFace_of_selects (args := #[]) (mvT hZ (wd39 hw))) (wd39 hw) (wd38 hw) (wd7 hw) (wd40 hw) (by decide) (clen l Z a0 hw b_193 cn_193 (kc_193) ((1 : Int32)) ([(.int C0)]) h193 OK193 P193_1 P193_2) e194 P193_0 (by rw [hml]; rfl) (hb hby at_176) (argsL := []) (rest := []) (lenOf pd5 rfl) rfl rfl (W := 0) (by first | exact Nat.le_refl _ | decide) (by decide) (by decide) (by decide) (by decide) ?_
            intro v195 T195 L195 X195 hQ195
            obtain ⟨rfl, N195q, e195⟩ := hQ195
            have N195 := Fr.app N194 N195q
            refine Go.iload X195 hx (hb hby at_179) rfl (q := 181) rfl ?_
            refine Go.icmpNo X195 hx (hb hby at_181) (by decide) (q := 184) rfl ?_
            refine Go.aload X195 hx (hb hby at_184) rfl rfl (q := 186) rfl ?_
            refine Go.virt X195 hx hZ hown (wd41 hw) (wd42 hw) (notFace_of_selects (args := #[]) (mvT hZ (wd44 hw))) (wd44 hw) (wd43 hw) (wd7 hw) (wd45 hw) (by decide) (clast l Z a0 hw b_190 h193 OK193 P190_3) e195 P190_0 (by rw [hml]; rfl) (hb hby at_186) (argsL := []) (rest := []) (lenOf pd6 rfl) rfl rfl (W := 0) (by first | exact Nat.le_refl _ | decide) (by decide) (by decide) (by decide) (by decide) ?_
            intro v196 T196 L196 X196 hQ196
            obtain ⟨rfl, N196q, e196⟩ := hQ196
            have N196 := Fr.app N195 N196q
            refine Go.ifnonnullNo X196 hx (hb hby at_189) (q := 192) rfl ?_
            refine Go.aload X196 hx (hb hby at_192) rfl rfl (q := 194) rfl ?_
            refine Go.virt X196 hx hZ hown (wd46 hw) (wd47 hw) (notFace_of_selects (args := #[]) (mvT hZ (wd49 hw))) (wd49 hw) (wd48 hw) (wd7 hw) (wd50 hw) (by decide) (cshar l Z a0 hw b_190 h193 OK193 P190_4) e196 P190_0 (by rw [hml]; rfl) (hb hby at_194) (argsL := []) (rest := []) (lenOf pd7 rfl) rfl rfl (W := 0) (by first | exact Nat.le_refl _ | decide) (by decide) (by decide) (by decide) (by decide) ?_
            intro v197 T197 L197 X197 hQ197
            obtain ⟨rfl, N197q, e197⟩ := hQ197
            have N197 := Fr.app N196 N197q
            refine Go.ifNo X197 hx (hb hby at_197) (by decide) (q := 200) rfl ?_
            refine Go.aload X197 hx (hb hby at_200) rfl rfl (q := 202) rfl ?_
            refine Go.virt X197 hx hZ hown (wd51 hw) (wd52 hw) (notFace_of_selects (args := #[]) (mvT hZ (wd54 hw))) (wd54 hw) (wd53 hw) (wd7 hw) (wd55 hw) (by decide) (cremo l Z a0 hw b_190 h193 OK193 P190_5) e197 P190_0 (by rw [hml]; rfl) (hb hby at_202) (argsL := []) (rest := []) (lenOf pd7 rfl) rfl rfl (W := 0) (by first | exact Nat.le_refl _ | decide) (by decide) (by decide) (by decide) (by decide) ?_
            intro v198 T198 L198 X198 hQ198
            obtain ⟨rfl, N198q, e198⟩ := hQ198
            have N198 := Fr.app N197 N198q
            refine Go.ifNo X198 hx (hb hby at_205) (by decide) (q := 208) rfl ?_
            refine Go.iconst X198 hx (hb hby at_208) (r := (1 : Int32)) rfl (q := 209) rfl ?_
            refine Go.goto X198 hx (hb hby at_209) (q := 213) (by decide) (by decide) ?_
            refine Go.istore X198 hx (hb hby at_213) (l' := #[.val (.int pl), .val (.int pm), .val (.int px), .val (.int py), .val (.int pk), .val (.int (1 : Int32)), .val (.int (1 : Int32)), .val (.int A0), .val (.int A1), .val (.int A2), .val (.int C0), .val (.int C1), .val (.int C2), .val (.ref b_187), .val (.ref b_188), .val (.ref b_189), .val (.ref b_190), .val (.ref b_192), .val (.ref b_193), .val (.int (1 : Int32))]) rfl (q := 215) rfl ?_
            refine Go.iload X198 hx (hb hby at_215) rfl (q := 217) rfl ?_
            refine Go.ifNo X198 hx (hb hby at_217) (by decide) (q := 220) rfl ?_
            refine Go.aload X198 hx (hb hby at_220) rfl rfl (q := 222) rfl ?_
            refine Go.aload X198 hx (hb hby at_222) rfl rfl (q := 224) rfl ?_
            refine Go.virt X198 hx hZ hown (wd56 hw) (wd57 hw) (notFace_of_selects (args := #[]) (mvT hZ (wd59 hw))) (wd59 hw) (wd58 hw) (wd7 hw) (wd60 hw) (by decide) (chs1_1 l Z a0 hw b_190 b_192 cn_190 cn_192 (kc_190) (kc_192) A0 A0 h193 OK193 P190_1 P192_1 P190_2 P192_2 ne_cn_190_cn_192 rfl) e198 P190_0 (by rw [hml]; rfl) (hb hby at_224) (argsL := [(.ref b_192)]) (rest := []) (lenOf pd8 rfl) rfl rfl (W := 0) (by first | exact Nat.le_refl _ | decide) (by decide) (by decide) (by decide) (by decide) ?_
            intro v199 T199 L199 X199 hQ199
            obtain ⟨rfl, N199q, e199⟩ := hQ199
            have N199 := Fr.app N198 N199q
            refine Go.ifNo X199 hx (hb hby at_227) (by decide) (q := 230) rfl ?_
            refine Go.iconst X199 hx (hb hby at_230) (r := (1 : Int32)) rfl (q := 231) rfl ?_
            refine Go.goto X199 hx (hb hby at_231) (q := 235) (by decide) (by decide) ?_
            refine Go.istore X199 hx (hb hby at_235) (l' := #[.val (.int pl), .val (.int pm), .val (.int px), .val (.int py), .val (.int pk), .val (.int (1 : Int32)), .val (.int (1 : Int32)), .val (.int A0), .val (.int A1), .val (.int A2), .val (.int C0), .val (.int C1), .val (.int C2), .val (.ref b_187), .val (.ref b_188), .val (.ref b_189), .val (.ref b_190), .val (.ref b_192), .val (.ref b_193), .val (.int (1 : Int32))]) rfl (q := 237) rfl ?_
            refine Go.iload X199 hx (hb hby at_237) rfl (q := 239) rfl ?_
            refine Go.ifNo X199 hx (hb hby at_239) (by decide) (q := 242) rfl ?_
            by_cases hc200 : A0 = C0
            · show Go pp ee below _ (T199.setTop (mkF mm 242 #[.val (.int pl), .val (.int pm), .val (.int px), .val (.int py), .val (.int pk), .val (.int (1 : Int32)), .val (.int (1 : Int32)), .val (.int A0), .val (.int A1), .val (.int A2), .val (.int C0), .val (.int C1), .val (.int C2), .val (.ref b_187), .val (.ref b_188), .val (.ref b_189), .val (.ref b_190), .val (.ref b_192), .val (.ref b_193), .val (.int (1 : Int32))] []))
              refine Go.aload X199 hx (hb hby at_242) rfl rfl (q := 244) rfl ?_
              refine Go.aload X199 hx (hb hby at_244) rfl rfl (q := 246) rfl ?_
              refine Go.virt X199 hx hZ hown (wd56 hw) (wd57 hw) (notFace_of_selects (args := #[]) (mvT hZ (wd59 hw))) (wd59 hw) (wd58 hw) (wd7 hw) (wd60 hw) (by decide) (chs1_1 l Z a0 hw b_190 b_193 cn_190 cn_193 (kc_190) (kc_193) A0 C0 h193 OK193 P190_1 P193_1 P190_2 P193_2 ne_cn_190_cn_193 hc200) e199 P190_0 (by rw [hml]; rfl) (hb hby at_246) (argsL := [(.ref b_193)]) (rest := []) (lenOf pd8 rfl) rfl rfl (W := 0) (by first | exact Nat.le_refl _ | decide) (by decide) (by decide) (by decide) (by decide) ?_
              intro v201 T201 L201 X201 hQ201
              obtain ⟨rfl, N201q, e201⟩ := hQ201
              have N201 := Fr.app N199 N201q
              refine Go.aload X201 hx (hb hby at_249) rfl rfl (q := 251) rfl ?_
              refine Go.aload X201 hx (hb hby at_251) rfl rfl (q := 253) rfl ?_
              refine Go.callS X201 hx hZ hown (wd69 hw) (wd70 hw) (wd2 hw) (wd71 hw) (by decide) (csam1_1 l Z a0 hw b_188 b_189 (kb_188) (kb_189) A0 C0 h193 OK193 P188_0 P189_0 hc200) e201 (by rw [hml]; rfl) (hb hby at_253) (argsL := [(.ref b_188), (.ref b_189)]) (rest := [(.int (1 : Int32))]) (lenOf pd2 rfl) rfl rfl (W := 1) (by first | exact Nat.le_refl _ | decide) (by decide) (by decide) (by decide) (by decide) ?_
              intro v202 T202 L202 X202 hQ202
              obtain ⟨rfl, N202q, e202⟩ := hQ202
              have N202 := Fr.app N201 N202q
              refine Go.icmpNo X202 hx (hb hby at_256) (by decide) (q := 259) rfl ?_
              refine Go.iconst X202 hx (hb hby at_259) (r := (1 : Int32)) rfl (q := 260) rfl ?_
              refine Go.goto X202 hx (hb hby at_260) (q := 264) (by decide) (by decide) ?_
              refine Go.istore X202 hx (hb hby at_264) (l' := #[.val (.int pl), .val (.int pm), .val (.int px), .val (.int py), .val (.int pk), .val (.int (1 : Int32)), .val (.int (1 : Int32)), .val (.int A0), .val (.int A1), .val (.int A2), .val (.int C0), .val (.int C1), .val (.int C2), .val (.ref b_187), .val (.ref b_188), .val (.ref b_189), .val (.ref b_190), .val (.ref b_192), .val (.ref b_193), .val (.int (1 : Int32))]) rfl (q := 266) rfl ?_
              refine Go.iload X202 hx (hb hby at_266) rfl (q := 268) rfl ?_
              exact Go.retI X202 hx hret hlk (by simp) rfl (hb hby at_268) e202 (by decide) (by decide) ⟨rfl, N202⟩
            · show Go pp ee below _ (T199.setTop (mkF mm 242 #[.val (.int pl), .val (.int pm), .val (.int px), .val (.int py), .val (.int pk), .val (.int (1 : Int32)), .val (.int (1 : Int32)), .val (.int A0), .val (.int A1), .val (.int A2), .val (.int C0), .val (.int C1), .val (.int C2), .val (.ref b_187), .val (.ref b_188), .val (.ref b_189), .val (.ref b_190), .val (.ref b_192), .val (.ref b_193), .val (.int (1 : Int32))] []))
              refine Go.aload X199 hx (hb hby at_242) rfl rfl (q := 244) rfl ?_
              refine Go.aload X199 hx (hb hby at_244) rfl rfl (q := 246) rfl ?_
              refine Go.virt X199 hx hZ hown (wd56 hw) (wd57 hw) (notFace_of_selects (args := #[]) (mvT hZ (wd59 hw))) (wd59 hw) (wd58 hw) (wd7 hw) (wd60 hw) (by decide) (chs1_0 l Z a0 hw b_190 b_193 cn_190 cn_193 (kc_190) (kc_193) A0 C0 h193 OK193 P190_1 P193_1 P190_2 P193_2 ne_cn_190_cn_193 hc200) e199 P190_0 (by rw [hml]; rfl) (hb hby at_246) (argsL := [(.ref b_193)]) (rest := []) (lenOf pd8 rfl) rfl rfl (W := 0) (by first | exact Nat.le_refl _ | decide) (by decide) (by decide) (by decide) (by decide) ?_
              intro v203 T203 L203 X203 hQ203
              obtain ⟨rfl, N203q, e203⟩ := hQ203
              have N203 := Fr.app N199 N203q
              refine Go.aload X203 hx (hb hby at_249) rfl rfl (q := 251) rfl ?_
              refine Go.aload X203 hx (hb hby at_251) rfl rfl (q := 253) rfl ?_
              refine Go.callS X203 hx hZ hown (wd69 hw) (wd70 hw) (wd2 hw) (wd71 hw) (by decide) (csam1_0 l Z a0 hw b_188 b_189 (kb_188) (kb_189) A0 C0 h193 OK193 P188_0 P189_0 hc200) e203 (by rw [hml]; rfl) (hb hby at_253) (argsL := [(.ref b_188), (.ref b_189)]) (rest := [(.int (0 : Int32))]) (lenOf pd2 rfl) rfl rfl (W := 1) (by first | exact Nat.le_refl _ | decide) (by decide) (by decide) (by decide) (by decide) ?_
              intro v204 T204 L204 X204 hQ204
              obtain ⟨rfl, N204q, e204⟩ := hQ204
              have N204 := Fr.app N203 N204q
              refine Go.icmpNo X204 hx (hb hby at_256) (by decide) (q := 259) rfl ?_
              refine Go.iconst X204 hx (hb hby at_259) (r := (1 : Int32)) rfl (q := 260) rfl ?_
              refine Go.goto X204 hx (hb hby at_260) (q := 264) (by decide) (by decide) ?_
              refine Go.istore X204 hx (hb hby at_264) (l' := #[.val (.int pl), .val (.int pm), .val (.int px), .val (.int py), .val (.int pk), .val (.int (1 : Int32)), .val (.int (1 : Int32)), .val (.int A0), .val (.int A1), .val (.int A2), .val (.int C0), .val (.int C1), .val (.int C2), .val (.ref b_187), .val (.ref b_188), .val (.ref b_189), .val (.ref b_190), .val (.ref b_192), .val (.ref b_193), .val (.int (1 : Int32))]) rfl (q := 266) rfl ?_
              refine Go.iload X204 hx (hb hby at_266) rfl (q := 268) rfl ?_
              exact Go.retI X204 hx hret hlk (by simp) rfl (hb hby at_268) e204 (by decide) (by decide) ⟨rfl, N204⟩
          by_cases hc205 : (pk &&& (4 : Int32)) = (0 : Int32)
          · refine Go.ifNo X0 hx (hb hby at_67) (Jvm.Free.XT.i0_ne_f hc205) (q := 70) rfl ?_
            refine Go.iload X0 hx (hb hby at_70) rfl (q := 72) rfl ?_
            refine Go.goto X0 hx (hb hby at_72) (q := 80) (by decide) (by decide) ?_
            exact J80 _ hA2
          · refine Go.ifYes X0 hx (hb hby at_67) (Jvm.Free.XT.i0_ne_t hc205) (q := 75) (by decide) (by decide) ?_
            refine Go.iloadN X0 hx (hb hby at_75) rfl (q := 76) rfl ?_
            refine Go.bipush X0 hx (hb hby at_76) (r := (16 : Int32)) rfl (q := 78) rfl ?_
            refine Go.iushr X0 hx (hb hby at_78) rfl (q := 79) rfl ?_
            refine Go.i2b X0 hx (hb hby at_79) rfl (q := 80) rfl ?_
            exact J80 _ (bb _)
        by_cases hc206 : (pk &&& (2 : Int32)) = (0 : Int32)
        · refine Go.ifNo X0 hx (hb hby at_48) (Jvm.Free.XT.i0_ne_f hc206) (q := 51) rfl ?_
          refine Go.iload X0 hx (hb hby at_51) rfl (q := 53) rfl ?_
          refine Go.goto X0 hx (hb hby at_53) (q := 61) (by decide) (by decide) ?_
          exact J61 _ hA1
        · refine Go.ifYes X0 hx (hb hby at_48) (Jvm.Free.XT.i0_ne_t hc206) (q := 56) (by decide) (by decide) ?_
          refine Go.iloadN X0 hx (hb hby at_56) rfl (q := 57) rfl ?_
          refine Go.bipush X0 hx (hb hby at_57) (r := (8 : Int32)) rfl (q := 59) rfl ?_
          refine Go.iushr X0 hx (hb hby at_59) rfl (q := 60) rfl ?_
          refine Go.i2b X0 hx (hb hby at_60) rfl (q := 61) rfl ?_
          exact J61 _ (bb _)
      by_cases hc207 : (pk &&& (1 : Int32)) = (0 : Int32)
      · refine Go.ifNo X0 hx (hb hby at_32) (Jvm.Free.XT.i0_ne_f hc207) (q := 35) rfl ?_
        refine Go.iload X0 hx (hb hby at_35) rfl (q := 37) rfl ?_
        refine Go.goto X0 hx (hb hby at_37) (q := 42) (by decide) (by decide) ?_
        exact J42 _ hA0
      · refine Go.ifYes X0 hx (hb hby at_32) (Jvm.Free.XT.i0_ne_t hc207) (q := 40) (by decide) (by decide) ?_
        refine Go.iloadN X0 hx (hb hby at_40) rfl (q := 41) rfl ?_
        refine Go.i2b X0 hx (hb hby at_41) rfl (q := 42) rfl ?_
        exact J42 _ (bb _)
    · show Go pp ee below _ (s₁.setTop (mkF mm 8 #[.val (.int pl), .val (.int pm), .val (.int px), .val (.int py), .val (.int pk), .val (.int (1 : Int32)), .unset, .unset, .unset, .unset, .unset, .unset, .unset, .unset, .unset, .unset, .unset, .unset, .unset, .unset] [(.int (2 : Int32))]))
      refine Go.istore X0 hx (hb hby at_8) (l' := #[.val (.int pl), .val (.int pm), .val (.int px), .val (.int py), .val (.int pk), .val (.int (1 : Int32)), .val (.int (2 : Int32)), .unset, .unset, .unset, .unset, .unset, .unset, .unset, .unset, .unset, .unset, .unset, .unset, .unset]) rfl (q := 10) rfl ?_
      refine Go.iloadN X0 hx (hb hby at_10) rfl (q := 11) rfl ?_
      refine Go.i2b X0 hx (hb hby at_11) rfl (q := 12) rfl ?_
      have hA0 := bb px
      generalize (px.toInt8.toInt32) = A0 at hA0 ⊢
      refine Go.istore X0 hx (hb hby at_12) (l' := #[.val (.int pl), .val (.int pm), .val (.int px), .val (.int py), .val (.int pk), .val (.int (1 : Int32)), .val (.int (2 : Int32)), .val (.int A0), .unset, .unset, .unset, .unset, .unset, .unset, .unset, .unset, .unset, .unset, .unset, .unset]) rfl (q := 14) rfl ?_
      refine Go.iloadN X0 hx (hb hby at_14) rfl (q := 15) rfl ?_
      refine Go.bipush X0 hx (hb hby at_15) (r := (8 : Int32)) rfl (q := 17) rfl ?_
      refine Go.iushr X0 hx (hb hby at_17) rfl (q := 18) rfl ?_
      refine Go.i2b X0 hx (hb hby at_18) rfl (q := 19) rfl ?_
      have hA1 := bb ((px.toUInt32 >>> ((8 : Int32) &&& 31).toUInt32).toInt32)
      generalize (((px.toUInt32 >>> ((8 : Int32) &&& 31).toUInt32).toInt32).toInt8.toInt32) = A1 at hA1 ⊢
      refine Go.istore X0 hx (hb hby at_19) (l' := #[.val (.int pl), .val (.int pm), .val (.int px), .val (.int py), .val (.int pk), .val (.int (1 : Int32)), .val (.int (2 : Int32)), .val (.int A0), .val (.int A1), .unset, .unset, .unset, .unset, .unset, .unset, .unset, .unset, .unset, .unset, .unset]) rfl (q := 21) rfl ?_
      refine Go.iloadN X0 hx (hb hby at_21) rfl (q := 22) rfl ?_
      refine Go.bipush X0 hx (hb hby at_22) (r := (16 : Int32)) rfl (q := 24) rfl ?_
      refine Go.iushr X0 hx (hb hby at_24) rfl (q := 25) rfl ?_
      refine Go.i2b X0 hx (hb hby at_25) rfl (q := 26) rfl ?_
      have hA2 := bb ((px.toUInt32 >>> ((16 : Int32) &&& 31).toUInt32).toInt32)
      generalize (((px.toUInt32 >>> ((16 : Int32) &&& 31).toUInt32).toInt32).toInt8.toInt32) = A2 at hA2 ⊢
      refine Go.istore X0 hx (hb hby at_26) (l' := #[.val (.int pl), .val (.int pm), .val (.int px), .val (.int py), .val (.int pk), .val (.int (1 : Int32)), .val (.int (2 : Int32)), .val (.int A0), .val (.int A1), .val (.int A2), .unset, .unset, .unset, .unset, .unset, .unset, .unset, .unset, .unset, .unset]) rfl (q := 28) rfl ?_
      refine Go.iload X0 hx (hb hby at_28) rfl (q := 30) rfl ?_
      refine Go.iconst X0 hx (hb hby at_30) (r := (1 : Int32)) rfl (q := 31) rfl ?_
      refine Go.iand X0 hx (hb hby at_31) rfl (q := 32) rfl ?_
      have J42 : ∀ (C0 : Int32), (C0.toInt8.toInt32) = C0 → Go pp ee below (KK ss (Q_law0 Z pl pm px py pk h0) room_1.cells room_1.slots) (s₁.setTop (mkF mm 42 #[.val (.int pl), .val (.int pm), .val (.int px), .val (.int py), .val (.int pk), .val (.int (1 : Int32)), .val (.int (2 : Int32)), .val (.int A0), .val (.int A1), .val (.int A2), .unset, .unset, .unset, .unset, .unset, .unset, .unset, .unset, .unset, .unset] [(.int C0)])) := by
        intro C0 hC0
        refine Go.istore X0 hx (hb hby at_42) (l' := #[.val (.int pl), .val (.int pm), .val (.int px), .val (.int py), .val (.int pk), .val (.int (1 : Int32)), .val (.int (2 : Int32)), .val (.int A0), .val (.int A1), .val (.int A2), .val (.int C0), .unset, .unset, .unset, .unset, .unset, .unset, .unset, .unset, .unset]) rfl (q := 44) rfl ?_
        refine Go.iload X0 hx (hb hby at_44) rfl (q := 46) rfl ?_
        refine Go.iconst X0 hx (hb hby at_46) (r := (2 : Int32)) rfl (q := 47) rfl ?_
        refine Go.iand X0 hx (hb hby at_47) rfl (q := 48) rfl ?_
        have J61 : ∀ (C1 : Int32), (C1.toInt8.toInt32) = C1 → Go pp ee below (KK ss (Q_law0 Z pl pm px py pk h0) room_1.cells room_1.slots) (s₁.setTop (mkF mm 61 #[.val (.int pl), .val (.int pm), .val (.int px), .val (.int py), .val (.int pk), .val (.int (1 : Int32)), .val (.int (2 : Int32)), .val (.int A0), .val (.int A1), .val (.int A2), .val (.int C0), .unset, .unset, .unset, .unset, .unset, .unset, .unset, .unset, .unset] [(.int C1)])) := by
          intro C1 hC1
          refine Go.istore X0 hx (hb hby at_61) (l' := #[.val (.int pl), .val (.int pm), .val (.int px), .val (.int py), .val (.int pk), .val (.int (1 : Int32)), .val (.int (2 : Int32)), .val (.int A0), .val (.int A1), .val (.int A2), .val (.int C0), .val (.int C1), .unset, .unset, .unset, .unset, .unset, .unset, .unset, .unset]) rfl (q := 63) rfl ?_
          refine Go.iload X0 hx (hb hby at_63) rfl (q := 65) rfl ?_
          refine Go.iconst X0 hx (hb hby at_65) (r := (4 : Int32)) rfl (q := 66) rfl ?_
          refine Go.iand X0 hx (hb hby at_66) rfl (q := 67) rfl ?_
          have J80 : ∀ (C2 : Int32), (C2.toInt8.toInt32) = C2 → Go pp ee below (KK ss (Q_law0 Z pl pm px py pk h0) room_1.cells room_1.slots) (s₁.setTop (mkF mm 80 #[.val (.int pl), .val (.int pm), .val (.int px), .val (.int py), .val (.int pk), .val (.int (1 : Int32)), .val (.int (2 : Int32)), .val (.int A0), .val (.int A1), .val (.int A2), .val (.int C0), .val (.int C1), .unset, .unset, .unset, .unset, .unset, .unset, .unset, .unset] [(.int C2)])) := by
            intro C2 hC2
            refine Go.istore X0 hx (hb hby at_80) (l' := #[.val (.int pl), .val (.int pm), .val (.int px), .val (.int py), .val (.int pk), .val (.int (1 : Int32)), .val (.int (2 : Int32)), .val (.int A0), .val (.int A1), .val (.int A2), .val (.int C0), .val (.int C1), .val (.int C2), .unset, .unset, .unset, .unset, .unset, .unset, .unset]) rfl (q := 82) rfl ?_
            refine Go.iload X0 hx (hb hby at_82) rfl (q := 84) rfl ?_
            refine Go.iload X0 hx (hb hby at_84) rfl (q := 86) rfl ?_
            refine Go.iload X0 hx (hb hby at_86) rfl (q := 88) rfl ?_
            refine Go.iload X0 hx (hb hby at_88) rfl (q := 90) rfl ?_
            refine Go.callS X0 hx hZ hown (wd0 hw) (wd1 hw) (wd2 hw) (wd3 hw) (by decide) (make1 l Z a0 hw A0 A1 A2 h0 O0 hA0 hA1 hA2) e0 (by rw [hml]; rfl) (hb hby at_90) (argsL := [(.int (1 : Int32)), (.int A0), (.int A1), (.int A2)]) (rest := []) (lenOf pd3 rfl) rfl rfl (W := 0) (by first | exact Nat.le_refl _ | decide) (by decide) (by decide) (by decide) (by decide) ?_
            intro v208 T208 L208 X208 hQ208
            obtain ⟨h208, e208⟩ : ∃ z, T208.heap = z := ⟨_, rfl⟩
            rw [e208] at hQ208
            obtain ⟨b_208, kb_208, rfl, N208q, K208, fr208_b, P208_0, P208_1⟩ := hQ208
            have N208 := Fr.app N0 N208q
            have g_b_208 : Z.heap.size ≤ b_208 := Nat.le_trans O0.1 fr208_b
            have OK208 := ext_keep O0 K208 all0
            refine Go.astore X208 hx (hb hby at_93) rfl (l' := #[.val (.int pl), .val (.int pm), .val (.int px), .val (.int py), .val (.int pk), .val (.int (1 : Int32)), .val (.int (2 : Int32)), .val (.int A0), .val (.int A1), .val (.int A2), .val (.int C0), .val (.int C1), .val (.int C2), .val (.ref b_208), .unset, .unset, .unset, .unset, .unset, .unset]) rfl (q := 95) rfl ?_
            refine Go.iload X208 hx (hb hby at_95) rfl (q := 97) rfl ?_
            refine Go.iload X208 hx (hb hby at_97) rfl (q := 99) rfl ?_
            refine Go.iload X208 hx (hb hby at_99) rfl (q := 101) rfl ?_
            refine Go.iload X208 hx (hb hby at_101) rfl (q := 103) rfl ?_
            refine Go.callS X208 hx hZ hown (wd0 hw) (wd1 hw) (wd2 hw) (wd3 hw) (by decide) (make1 l Z a0 hw A0 A1 A2 h208 OK208 hA0 hA1 hA2) e208 (by rw [hml]; rfl) (hb hby at_103) (argsL := [(.int (1 : Int32)), (.int A0), (.int A1), (.int A2)]) (rest := []) (lenOf pd3 rfl) rfl rfl (W := 0) (by first | exact Nat.le_refl _ | decide) (by decide) (by decide) (by decide) (by decide) ?_
            intro v209 T209 L209 X209 hQ209
            obtain ⟨h209, e209⟩ : ∃ z, T209.heap = z := ⟨_, rfl⟩
            rw [e209] at hQ209
            obtain ⟨b_209, kb_209, rfl, N209q, K209, fr209_b, P209_0, P209_1⟩ := hQ209
            have N209 := Fr.app N208 N209q
            have ne_b_208_b_209 : b_208 ≠ b_209 := ne_new P208_0.lt fr209_b
            have g_b_209 : Z.heap.size ≤ b_209 := Nat.le_trans OK208.1 fr209_b
            replace P208_0 := P208_0.keep K209 nin0
            replace P208_1 := P208_1.keep K209
            have OK209 := ext_keep OK208 K209 all0
            refine Go.astore X209 hx (hb hby at_106) rfl (l' := #[.val (.int pl), .val (.int pm), .val (.int px), .val (.int py), .val (.int pk), .val (.int (1 : Int32)), .val (.int (2 : Int32)), .val (.int A0), .val (.int A1), .val (.int A2), .val (.int C0), .val (.int C1), .val (.int C2), .val (.ref b_208), .val (.ref b_209), .unset, .unset, .unset, .unset, .unset]) rfl (q := 108) rfl ?_
            refine Go.iload X209 hx (hb hby at_108) rfl (q := 110) rfl ?_
            refine Go.iload X209 hx (hb hby at_110) rfl (q := 112) rfl ?_
            refine Go.iload X209 hx (hb hby at_112) rfl (q := 114) rfl ?_
            refine Go.iload X209 hx (hb hby at_114) rfl (q := 116) rfl ?_
            refine Go.callS X209 hx hZ hown (wd0 hw) (wd1 hw) (wd2 hw) (wd3 hw) (by decide) (make2 l Z a0 hw C0 C1 C2 h209 OK209 hC0 hC1 hC2) e209 (by rw [hml]; rfl) (hb hby at_116) (argsL := [(.int (2 : Int32)), (.int C0), (.int C1), (.int C2)]) (rest := []) (lenOf pd3 rfl) rfl rfl (W := 0) (by first | exact Nat.le_refl _ | decide) (by decide) (by decide) (by decide) (by decide) ?_
            intro v210 T210 L210 X210 hQ210
            obtain ⟨h210, e210⟩ : ∃ z, T210.heap = z := ⟨_, rfl⟩
            rw [e210] at hQ210
            obtain ⟨b_210, kb_210, rfl, N210q, K210, fr210_b, P210_0, P210_1⟩ := hQ210
            have N210 := Fr.app N209 N210q
            have ne_b_208_b_210 : b_208 ≠ b_210 := ne_new P208_0.lt fr210_b
            have ne_b_209_b_210 : b_209 ≠ b_210 := ne_new P209_0.lt fr210_b
            have g_b_210 : Z.heap.size ≤ b_210 := Nat.le_trans OK209.1 fr210_b
            replace P208_0 := P208_0.keep K210 nin0
            replace P208_1 := P208_1.keep K210
            replace P209_0 := P209_0.keep K210 nin0
            replace P209_1 := P209_1.keep K210
            have OK210 := ext_keep OK209 K210 all0
            refine Go.astore X210 hx (hb hby at_119) rfl (l' := #[.val (.int pl), .val (.int pm), .val (.int px), .val (.int py), .val (.int pk), .val (.int (1 : Int32)), .val (.int (2 : Int32)), .val (.int A0), .val (.int A1), .val (.int A2), .val (.int C0), .val (.int C1), .val (.int C2), .val (.ref b_208), .val (.ref b_209), .val (.ref b_210), .unset, .unset, .unset, .unset]) rfl (q := 121) rfl ?_
            refine Go.aload X210 hx (hb hby at_121) rfl rfl (q := 123) rfl ?_
            refine Go.callS X210 hx hZ hown (wd5 hw) (wd6 hw) (wd7 hw) (wd8 hw) (by decide) (of1 l Z a0 hw b_208 (kb_208) A0 h210 OK210 P208_0 P208_1) e210 (by rw [hml]; rfl) (hb hby at_123) (argsL := [(.ref b_208)]) (rest := []) (lenOf pd4 rfl) rfl rfl (W := 0) (by first | exact Nat.le_refl _ | decide) (by decide) (by decide) (by decide) (by decide) ?_
            intro v211 T211 L211 X211 hQ211
            obtain ⟨h211, e211⟩ : ∃ z, T211.heap = z := ⟨_, rfl⟩
            rw [e211] at hQ211
            obtain ⟨b_211, cn_211, kc_211, rfl, N211q, K211, fr211_b, fr211_cn, P211_0, P211_1, P211_2, P211_3, P211_4, P211_5⟩ := hQ211
            have N211 := Fr.app N210 N211q
            have ne_b_208_b_211 : b_208 ≠ b_211 := ne_new P208_0.lt fr211_b
            have ne_b_209_b_211 : b_209 ≠ b_211 := ne_new P209_0.lt fr211_b
            have ne_b_210_b_211 : b_210 ≠ b_211 := ne_new P210_0.lt fr211_b
            have g_b_211 : Z.heap.size ≤ b_211 := Nat.le_trans OK210.1 fr211_b
            have ne_b_208_cn_211 : b_208 ≠ cn_211 := ne_new P208_0.lt fr211_cn
            have ne_b_209_cn_211 : b_209 ≠ cn_211 := ne_new P209_0.lt fr211_cn
            have ne_b_210_cn_211 : b_210 ≠ cn_211 := ne_new P210_0.lt fr211_cn
            have g_cn_211 : Z.heap.size ≤ cn_211 := Nat.le_trans OK210.1 fr211_cn
            replace P208_0 := P208_0.keep K211 nin0
            replace P208_1 := P208_1.keep K211
            replace P209_0 := P209_0.keep K211 nin0
            replace P209_1 := P209_1.keep K211
            replace P210_0 := P210_0.keep K211 nin0
            replace P210_1 := P210_1.keep K211
            have OK211 := ext_keep OK210 K211 all0
            refine Go.astore X211 hx (hb hby at_126) rfl (l' := #[.val (.int pl), .val (.int pm), .val (.int px), .val (.int py), .val (.int pk), .val (.int (1 : Int32)), .val (.int (2 : Int32)), .val (.int A0), .val (.int A1), .val (.int A2), .val (.int C0), .val (.int C1), .val (.int C2), .val (.ref b_208), .val (.ref b_209), .val (.ref b_210), .val (.ref b_211), .unset, .unset, .unset]) rfl (q := 128) rfl ?_
            refine Go.iload X211 hx (hb hby at_128) rfl (q := 130) rfl ?_
            refine Go.ifNo X211 hx (hb hby at_130) (by decide) (q := 133) rfl ?_
            refine Go.aload X211 hx (hb hby at_133) rfl rfl (q := 135) rfl ?_
            refine Go.iload X211 hx (hb hby at_135) rfl (q := 137) rfl ?_
            refine Go.iconst X211 hx (hb hby at_137) (r := (1 : Int32)) rfl (q := 138) rfl ?_
            refine Go.isub X211 hx (hb hby at_138) (r := (0 : Int32)) rfl (q := 139) rfl ?_
            refine Go.aload X211 hx (hb hby at_139) rfl rfl (q := 141) rfl ?_
            refine Go.iload X211 hx (hb hby at_141) rfl (q := 143) rfl ?_
            refine Go.iconst X211 hx (hb hby at_143) (r := (1 : Int32)) rfl (q := 144) rfl ?_
            refine Go.isub X211 hx (hb hby at_144) (r := (0 : Int32)) rfl (q := 145) rfl ?_
            refine Go.bal X211 hx hZ e211 P208_0 ⟨by decide, by decide⟩ (v := (.int A0)) rfl (hb hby at_145) ?_
            refine Go.iconst X211 hx (hb hby at_146) (r := (-1 : Int32)) rfl (q := 147) rfl ?_
            refine Go.ixor X211 hx (hb hby at_147) rfl (q := 148) rfl ?_
            refine Go.i2b X211 hx (hb hby at_148) rfl (q := 149) rfl ?_
            refine Go.bst X211 hx hZ e211 P208_0 ⟨by decide, by decide⟩ (i := 0) rfl (Nat.le_of_ble_eq_true rfl) (hb hby at_149) ?_
            intro T212 h212 X212 e212 W212 V212
            rw [bb (A0 ^^^ (-1 : Int32))] at V212
            replace V212 : Arv Z h212 b_208 kb_208 .byte (1 : Int32) [(.int ((A0 ^^^ (-1 : Int32)).toInt8.toInt32))] (.int (0 : Int32)) := V212
            have N212 := Fr.snoc X212 N211 g_b_208
            replace P208_1 := P208_1.wr W212
            replace P209_0 := P209_0.other W212 (Ne.symm ne_b_208_b_209)
            replace P209_1 := P209_1.wr W212
            replace P210_0 := P210_0.other W212 (Ne.symm ne_b_208_b_210)
            replace P210_1 := P210_1.wr W212
            replace P211_0 := P211_0.wr W212
            replace P211_1 := P211_1.other W212 (Or.inl (Ne.symm ne_b_208_b_211))
            replace P211_2 := P211_2.other W212 (Ne.symm ne_b_208_cn_211)
            replace P211_3 := P211_3.other W212 (Or.inl (Ne.symm ne_b_208_b_211))
            replace P211_4 := P211_4.other W212 (Or.inl (Ne.symm ne_b_208_b_211))
            replace P211_5 := P211_5.other W212 (Or.inl (Ne.symm ne_b_208_b_211))
            have OW212 := ext_wr OK211 W212 g_b_208
            refine Go.aload X212 hx (hb hby at_150) rfl rfl (q := 152) rfl ?_
            refine Go.callS X212 hx hZ hown (wd5 hw) (wd6 hw) (wd7 hw) (wd8 hw) (by decide) (of1 l Z a0 hw b_209 (kb_209) A0 h212 OW212 P209_0 P209_1) e212 (by rw [hml]; rfl) (hb hby at_152) (argsL := [(.ref b_209)]) (rest := []) (lenOf pd4 rfl) rfl rfl (W := 0) (by first | exact Nat.le_refl _ | decide) (by decide) (by decide) (by decide) (by decide) ?_
            intro v213 T213 L213 X213 hQ213
            obtain ⟨h213, e213⟩ : ∃ z, T213.heap = z := ⟨_, rfl⟩
            rw [e213] at hQ213
            obtain ⟨b_213, cn_213, kc_213, rfl, N213q, K213, fr213_b, fr213_cn, P213_0, P213_1, P213_2, P213_3, P213_4, P213_5⟩ := hQ213
            have N213 := Fr.app N212 N213q
            have ne_b_208_b_213 : b_208 ≠ b_213 := ne_new P208_1.lt fr213_b
            have ne_b_209_b_213 : b_209 ≠ b_213 := ne_new P209_0.lt fr213_b
            have ne_b_210_b_213 : b_210 ≠ b_213 := ne_new P210_0.lt fr213_b
            have ne_b_211_b_213 : b_211 ≠ b_213 := ne_new P211_0.lt fr213_b
            have ne_cn_211_b_213 : cn_211 ≠ b_213 := ne_new P211_2.lt fr213_b
            have g_b_213 : Z.heap.size ≤ b_213 := Nat.le_trans OW212.1 fr213_b
            have ne_b_208_cn_213 : b_208 ≠ cn_213 := ne_new P208_1.lt fr213_cn
            have ne_b_209_cn_213 : b_209 ≠ cn_213 := ne_new P209_0.lt fr213_cn
            have ne_b_210_cn_213 : b_210 ≠ cn_213 := ne_new P210_0.lt fr213_cn
            have ne_b_211_cn_213 : b_211 ≠ cn_213 := ne_new P211_0.lt fr213_cn
            have ne_cn_211_cn_213 : cn_211 ≠ cn_213 := ne_new P211_2.lt fr213_cn
            have g_cn_213 : Z.heap.size ≤ cn_213 := Nat.le_trans OW212.1 fr213_cn
            replace P208_1 := P208_1.keep K213
            replace P209_0 := P209_0.keep K213 nin0
            replace P209_1 := P209_1.keep K213
            replace P210_0 := P210_0.keep K213 nin0
            replace P210_1 := P210_1.keep K213
            replace P211_0 := P211_0.keep K213
            replace P211_1 := P211_1.keep K213 nin0
            replace P211_2 := P211_2.keep K213 nin0
            replace P211_3 := P211_3.keep K213 nin0
            replace P211_4 := P211_4.keep K213 nin0
            replace P211_5 := P211_5.keep K213 nin0
            replace V212 := V212.keep K213 nin0
            have OK213 := ext_keep OW212 K213 all0
            refine Go.astore X213 hx (hb hby at_155) rfl (l' := #[.val (.int pl), .val (.int pm), .val (.int px), .val (.int py), .val (.int pk), .val (.int (1 : Int32)), .val (.int (2 : Int32)), .val (.int A0), .val (.int A1), .val (.int A2), .val (.int C0), .val (.int C1), .val (.int C2), .val (.ref b_208), .val (.ref b_209), .val (.ref b_210), .val (.ref b_211), .val (.ref b_213), .unset, .unset]) rfl (q := 157) rfl ?_
            refine Go.aload X213 hx (hb hby at_157) rfl rfl (q := 159) rfl ?_
            refine Go.callS X213 hx hZ hown (wd5 hw) (wd6 hw) (wd7 hw) (wd8 hw) (by decide) (of2 l Z a0 hw b_210 (kb_210) C0 C1 h213 OK213 P210_0 P210_1) e213 (by rw [hml]; rfl) (hb hby at_159) (argsL := [(.ref b_210)]) (rest := []) (lenOf pd4 rfl) rfl rfl (W := 0) (by first | exact Nat.le_refl _ | decide) (by decide) (by decide) (by decide) (by decide) ?_
            intro v214 T214 L214 X214 hQ214
            obtain ⟨h214, e214⟩ : ∃ z, T214.heap = z := ⟨_, rfl⟩
            rw [e214] at hQ214
            obtain ⟨b_214, cn_214, kc_214, rfl, N214q, K214, fr214_b, fr214_cn, P214_0, P214_1, P214_2, P214_3, P214_4, P214_5⟩ := hQ214
            have N214 := Fr.app N213 N214q
            have ne_b_208_b_214 : b_208 ≠ b_214 := ne_new P208_1.lt fr214_b
            have ne_b_209_b_214 : b_209 ≠ b_214 := ne_new P209_0.lt fr214_b
            have ne_b_210_b_214 : b_210 ≠ b_214 := ne_new P210_0.lt fr214_b
            have ne_b_211_b_214 : b_211 ≠ b_214 := ne_new P211_0.lt fr214_b
            have ne_cn_211_b_214 : cn_211 ≠ b_214 := ne_new P211_2.lt fr214_b
            have ne_b_213_b_214 : b_213 ≠ b_214 := ne_new P213_0.lt fr214_b
            have ne_cn_213_b_214 : cn_213 ≠ b_214 := ne_new P213_2.lt fr214_b
            have g_b_214 : Z.heap.size ≤ b_214 := Nat.le_trans OK213.1 fr214_b
            have ne_b_208_cn_214 : b_208 ≠ cn_214 := ne_new P208_1.lt fr214_cn
            have ne_b_209_cn_214 : b_209 ≠ cn_214 := ne_new P209_0.lt fr214_cn
            have ne_b_210_cn_214 : b_210 ≠ cn_214 := ne_new P210_0.lt fr214_cn
            have ne_b_211_cn_214 : b_211 ≠ cn_214 := ne_new P211_0.lt fr214_cn
            have ne_cn_211_cn_214 : cn_211 ≠ cn_214 := ne_new P211_2.lt fr214_cn
            have ne_b_213_cn_214 : b_213 ≠ cn_214 := ne_new P213_0.lt fr214_cn
            have ne_cn_213_cn_214 : cn_213 ≠ cn_214 := ne_new P213_2.lt fr214_cn
            have g_cn_214 : Z.heap.size ≤ cn_214 := Nat.le_trans OK213.1 fr214_cn
            replace P208_1 := P208_1.keep K214
            replace P209_0 := P209_0.keep K214 nin0
            replace P209_1 := P209_1.keep K214
            replace P210_0 := P210_0.keep K214 nin0
            replace P210_1 := P210_1.keep K214
            replace P211_0 := P211_0.keep K214
            replace P211_1 := P211_1.keep K214 nin0
            replace P211_2 := P211_2.keep K214 nin0
            replace P211_3 := P211_3.keep K214 nin0
            replace P211_4 := P211_4.keep K214 nin0
            replace P211_5 := P211_5.keep K214 nin0
            replace V212 := V212.keep K214 nin0
            replace P213_0 := P213_0.keep K214
            replace P213_1 := P213_1.keep K214 nin0
            replace P213_2 := P213_2.keep K214 nin0
            replace P213_3 := P213_3.keep K214 nin0
            replace P213_4 := P213_4.keep K214 nin0
            replace P213_5 := P213_5.keep K214 nin0
            have OK214 := ext_keep OK213 K214 all0
            refine Go.astore X214 hx (hb hby at_162) rfl (l' := #[.val (.int pl), .val (.int pm), .val (.int px), .val (.int py), .val (.int pk), .val (.int (1 : Int32)), .val (.int (2 : Int32)), .val (.int A0), .val (.int A1), .val (.int A2), .val (.int C0), .val (.int C1), .val (.int C2), .val (.ref b_208), .val (.ref b_209), .val (.ref b_210), .val (.ref b_211), .val (.ref b_213), .val (.ref b_214), .unset]) rfl (q := 164) rfl ?_
            refine Go.aload X214 hx (hb hby at_164) rfl rfl (q := 166) rfl ?_
            refine Go.virt X214 hx hZ hown (wd36 hw) (wd37 hw) (notFace_of_selects (args := #[]) (mvT hZ (wd39 hw))) (wd39 hw) (wd38 hw) (wd7 hw) (wd40 hw) (by decide) (clen l Z a0 hw b_211 cn_211 (kc_211) ((1 : Int32)) ([(.int A0)]) h214 OK214 P211_1 P211_2) e214 P211_0 (by rw [hml]; rfl) (hb hby at_166) (argsL := []) (rest := []) (lenOf pd5 rfl) rfl rfl (W := 0) (by first | exact Nat.le_refl _ | decide) (by decide) (by decide) (by decide) (by decide) ?_
            intro v215 T215 L215 X215 hQ215
            obtain ⟨rfl, N215q, e215⟩ := hQ215
            have N215 := Fr.app N214 N215q
            refine Go.iload X215 hx (hb hby at_169) rfl (q := 171) rfl ?_
            refine Go.icmpNo X215 hx (hb hby at_171) (by decide) (q := 174) rfl ?_
            refine Go.aload X215 hx (hb hby at_174) rfl rfl (q := 176) rfl ?_
            refine Go.virt X215 hx hZ hown (wd36 hw) (wd37 hw) (notFace_of_selects (args := #[]) (mvT hZ (wd39 hw))) (wd39 hw) (wd38 hw) (wd7 hw) (wd40 hw) (by decide) (clen l Z a0 hw b_214 cn_214 (kc_214) ((2 : Int32)) ([(.int C0), (.int C1)]) h214 OK214 P214_1 P214_2) e215 P214_0 (by rw [hml]; rfl) (hb hby at_176) (argsL := []) (rest := []) (lenOf pd5 rfl) rfl rfl (W := 0) (by first | exact Nat.le_refl _ | decide) (by decide) (by decide) (by decide) (by decide) ?_
            intro v216 T216 L216 X216 hQ216
            obtain ⟨rfl, N216q, e216⟩ := hQ216
            have N216 := Fr.app N215 N216q
            refine Go.iload X216 hx (hb hby at_179) rfl (q := 181) rfl ?_
            refine Go.icmpNo X216 hx (hb hby at_181) (by decide) (q := 184) rfl ?_
            refine Go.aload X216 hx (hb hby at_184) rfl rfl (q := 186) rfl ?_
            refine Go.virt X216 hx hZ hown (wd41 hw) (wd42 hw) (notFace_of_selects (args := #[]) (mvT hZ (wd44 hw))) (wd44 hw) (wd43 hw) (wd7 hw) (wd45 hw) (by decide) (clast l Z a0 hw b_211 h214 OK214 P211_3) e216 P211_0 (by rw [hml]; rfl) (hb hby at_186) (argsL := []) (rest := []) (lenOf pd6 rfl) rfl rfl (W := 0) (by first | exact Nat.le_refl _ | decide) (by decide) (by decide) (by decide) (by decide) ?_
            intro v217 T217 L217 X217 hQ217
            obtain ⟨rfl, N217q, e217⟩ := hQ217
            have N217 := Fr.app N216 N217q
            refine Go.ifnonnullNo X217 hx (hb hby at_189) (q := 192) rfl ?_
            refine Go.aload X217 hx (hb hby at_192) rfl rfl (q := 194) rfl ?_
            refine Go.virt X217 hx hZ hown (wd46 hw) (wd47 hw) (notFace_of_selects (args := #[]) (mvT hZ (wd49 hw))) (wd49 hw) (wd48 hw) (wd7 hw) (wd50 hw) (by decide) (cshar l Z a0 hw b_211 h214 OK214 P211_4) e217 P211_0 (by rw [hml]; rfl) (hb hby at_194) (argsL := []) (rest := []) (lenOf pd7 rfl) rfl rfl (W := 0) (by first | exact Nat.le_refl _ | decide) (by decide) (by decide) (by decide) (by decide) ?_
            intro v218 T218 L218 X218 hQ218
            obtain ⟨rfl, N218q, e218⟩ := hQ218
            have N218 := Fr.app N217 N218q
            refine Go.ifNo X218 hx (hb hby at_197) (by decide) (q := 200) rfl ?_
            refine Go.aload X218 hx (hb hby at_200) rfl rfl (q := 202) rfl ?_
            refine Go.virt X218 hx hZ hown (wd51 hw) (wd52 hw) (notFace_of_selects (args := #[]) (mvT hZ (wd54 hw))) (wd54 hw) (wd53 hw) (wd7 hw) (wd55 hw) (by decide) (cremo l Z a0 hw b_211 h214 OK214 P211_5) e218 P211_0 (by rw [hml]; rfl) (hb hby at_202) (argsL := []) (rest := []) (lenOf pd7 rfl) rfl rfl (W := 0) (by first | exact Nat.le_refl _ | decide) (by decide) (by decide) (by decide) (by decide) ?_
            intro v219 T219 L219 X219 hQ219
            obtain ⟨rfl, N219q, e219⟩ := hQ219
            have N219 := Fr.app N218 N219q
            refine Go.ifNo X219 hx (hb hby at_205) (by decide) (q := 208) rfl ?_
            refine Go.iconst X219 hx (hb hby at_208) (r := (1 : Int32)) rfl (q := 209) rfl ?_
            refine Go.goto X219 hx (hb hby at_209) (q := 213) (by decide) (by decide) ?_
            refine Go.istore X219 hx (hb hby at_213) (l' := #[.val (.int pl), .val (.int pm), .val (.int px), .val (.int py), .val (.int pk), .val (.int (1 : Int32)), .val (.int (2 : Int32)), .val (.int A0), .val (.int A1), .val (.int A2), .val (.int C0), .val (.int C1), .val (.int C2), .val (.ref b_208), .val (.ref b_209), .val (.ref b_210), .val (.ref b_211), .val (.ref b_213), .val (.ref b_214), .val (.int (1 : Int32))]) rfl (q := 215) rfl ?_
            refine Go.iload X219 hx (hb hby at_215) rfl (q := 217) rfl ?_
            refine Go.ifNo X219 hx (hb hby at_217) (by decide) (q := 220) rfl ?_
            refine Go.aload X219 hx (hb hby at_220) rfl rfl (q := 222) rfl ?_
            refine Go.aload X219 hx (hb hby at_222) rfl rfl (q := 224) rfl ?_
            refine Go.virt X219 hx hZ hown (wd56 hw) (wd57 hw) (notFace_of_selects (args := #[]) (mvT hZ (wd59 hw))) (wd59 hw) (wd58 hw) (wd7 hw) (wd60 hw) (by decide) (chs1_1 l Z a0 hw b_211 b_213 cn_211 cn_213 (kc_211) (kc_213) A0 A0 h214 OK214 P211_1 P213_1 P211_2 P213_2 ne_cn_211_cn_213 rfl) e219 P211_0 (by rw [hml]; rfl) (hb hby at_224) (argsL := [(.ref b_213)]) (rest := []) (lenOf pd8 rfl) rfl rfl (W := 0) (by first | exact Nat.le_refl _ | decide) (by decide) (by decide) (by decide) (by decide) ?_
            intro v220 T220 L220 X220 hQ220
            obtain ⟨rfl, N220q, e220⟩ := hQ220
            have N220 := Fr.app N219 N220q
            refine Go.ifNo X220 hx (hb hby at_227) (by decide) (q := 230) rfl ?_
            refine Go.iconst X220 hx (hb hby at_230) (r := (1 : Int32)) rfl (q := 231) rfl ?_
            refine Go.goto X220 hx (hb hby at_231) (q := 235) (by decide) (by decide) ?_
            refine Go.istore X220 hx (hb hby at_235) (l' := #[.val (.int pl), .val (.int pm), .val (.int px), .val (.int py), .val (.int pk), .val (.int (1 : Int32)), .val (.int (2 : Int32)), .val (.int A0), .val (.int A1), .val (.int A2), .val (.int C0), .val (.int C1), .val (.int C2), .val (.ref b_208), .val (.ref b_209), .val (.ref b_210), .val (.ref b_211), .val (.ref b_213), .val (.ref b_214), .val (.int (1 : Int32))]) rfl (q := 237) rfl ?_
            refine Go.iload X220 hx (hb hby at_237) rfl (q := 239) rfl ?_
            refine Go.ifNo X220 hx (hb hby at_239) (by decide) (q := 242) rfl ?_
            refine Go.aload X220 hx (hb hby at_242) rfl rfl (q := 244) rfl ?_
            refine Go.aload X220 hx (hb hby at_244) rfl rfl (q := 246) rfl ?_
            refine Go.virt X220 hx hZ hown (wd56 hw) (wd57 hw) (notFace_of_selects (args := #[]) (mvT hZ (wd59 hw))) (wd59 hw) (wd58 hw) (wd7 hw) (wd60 hw) (by decide) (chsd1_2 l Z a0 hw b_211 b_214 cn_211 cn_214 (kc_211) (kc_214) A0 C0 C1 h214 OK214 P211_1 P214_1 P211_2 P214_2 ne_cn_211_cn_214) e220 P211_0 (by rw [hml]; rfl) (hb hby at_246) (argsL := [(.ref b_214)]) (rest := []) (lenOf pd8 rfl) rfl rfl (W := 0) (by first | exact Nat.le_refl _ | decide) (by decide) (by decide) (by decide) (by decide) ?_
            intro v221 T221 L221 X221 hQ221
            obtain ⟨rfl, N221q, e221⟩ := hQ221
            have N221 := Fr.app N220 N221q
            refine Go.aload X221 hx (hb hby at_249) rfl rfl (q := 251) rfl ?_
            refine Go.aload X221 hx (hb hby at_251) rfl rfl (q := 253) rfl ?_
            refine Go.callS X221 hx hZ hown (wd69 hw) (wd70 hw) (wd2 hw) (wd71 hw) (by decide) (csamd1_2 l Z a0 hw b_209 b_210 (kb_209) (kb_210) A0 C0 C1 h214 OK214 P209_0 P210_0) e221 (by rw [hml]; rfl) (hb hby at_253) (argsL := [(.ref b_209), (.ref b_210)]) (rest := [(.int (0 : Int32))]) (lenOf pd2 rfl) rfl rfl (W := 1) (by first | exact Nat.le_refl _ | decide) (by decide) (by decide) (by decide) (by decide) ?_
            intro v222 T222 L222 X222 hQ222
            obtain ⟨rfl, N222q, e222⟩ := hQ222
            have N222 := Fr.app N221 N222q
            refine Go.icmpNo X222 hx (hb hby at_256) (by decide) (q := 259) rfl ?_
            refine Go.iconst X222 hx (hb hby at_259) (r := (1 : Int32)) rfl (q := 260) rfl ?_
            refine Go.goto X222 hx (hb hby at_260) (q := 264) (by decide) (by decide) ?_
            refine Go.istore X222 hx (hb hby at_264) (l' := #[.val (.int pl), .val (.int pm), .val (.int px), .val (.int py), .val (.int pk), .val (.int (1 : Int32)), .val (.int (2 : Int32)), .val (.int A0), .val (.int A1), .val (.int A2), .val (.int C0), .val (.int C1), .val (.int C2), .val (.ref b_208), .val (.ref b_209), .val (.ref b_210), .val (.ref b_211), .val (.ref b_213), .val (.ref b_214), .val (.int (1 : Int32))]) rfl (q := 266) rfl ?_
            refine Go.iload X222 hx (hb hby at_266) rfl (q := 268) rfl ?_
            exact Go.retI X222 hx hret hlk (by simp) rfl (hb hby at_268) e222 (by decide) (by decide) ⟨rfl, N222⟩
          by_cases hc223 : (pk &&& (4 : Int32)) = (0 : Int32)
          · refine Go.ifNo X0 hx (hb hby at_67) (Jvm.Free.XT.i0_ne_f hc223) (q := 70) rfl ?_
            refine Go.iload X0 hx (hb hby at_70) rfl (q := 72) rfl ?_
            refine Go.goto X0 hx (hb hby at_72) (q := 80) (by decide) (by decide) ?_
            exact J80 _ hA2
          · refine Go.ifYes X0 hx (hb hby at_67) (Jvm.Free.XT.i0_ne_t hc223) (q := 75) (by decide) (by decide) ?_
            refine Go.iloadN X0 hx (hb hby at_75) rfl (q := 76) rfl ?_
            refine Go.bipush X0 hx (hb hby at_76) (r := (16 : Int32)) rfl (q := 78) rfl ?_
            refine Go.iushr X0 hx (hb hby at_78) rfl (q := 79) rfl ?_
            refine Go.i2b X0 hx (hb hby at_79) rfl (q := 80) rfl ?_
            exact J80 _ (bb _)
        by_cases hc224 : (pk &&& (2 : Int32)) = (0 : Int32)
        · refine Go.ifNo X0 hx (hb hby at_48) (Jvm.Free.XT.i0_ne_f hc224) (q := 51) rfl ?_
          refine Go.iload X0 hx (hb hby at_51) rfl (q := 53) rfl ?_
          refine Go.goto X0 hx (hb hby at_53) (q := 61) (by decide) (by decide) ?_
          exact J61 _ hA1
        · refine Go.ifYes X0 hx (hb hby at_48) (Jvm.Free.XT.i0_ne_t hc224) (q := 56) (by decide) (by decide) ?_
          refine Go.iloadN X0 hx (hb hby at_56) rfl (q := 57) rfl ?_
          refine Go.bipush X0 hx (hb hby at_57) (r := (8 : Int32)) rfl (q := 59) rfl ?_
          refine Go.iushr X0 hx (hb hby at_59) rfl (q := 60) rfl ?_
          refine Go.i2b X0 hx (hb hby at_60) rfl (q := 61) rfl ?_
          exact J61 _ (bb _)
      by_cases hc225 : (pk &&& (1 : Int32)) = (0 : Int32)
      · refine Go.ifNo X0 hx (hb hby at_32) (Jvm.Free.XT.i0_ne_f hc225) (q := 35) rfl ?_
        refine Go.iload X0 hx (hb hby at_35) rfl (q := 37) rfl ?_
        refine Go.goto X0 hx (hb hby at_37) (q := 42) (by decide) (by decide) ?_
        exact J42 _ hA0
      · refine Go.ifYes X0 hx (hb hby at_32) (Jvm.Free.XT.i0_ne_t hc225) (q := 40) (by decide) (by decide) ?_
        refine Go.iloadN X0 hx (hb hby at_40) rfl (q := 41) rfl ?_
        refine Go.i2b X0 hx (hb hby at_41) rfl (q := 42) rfl ?_
        exact J42 _ (bb _)
    · show Go pp ee below _ (s₁.setTop (mkF mm 8 #[.val (.int pl), .val (.int pm), .val (.int px), .val (.int py), .val (.int pk), .val (.int (1 : Int32)), .unset, .unset, .unset, .unset, .unset, .unset, .unset, .unset, .unset, .unset, .unset, .unset, .unset, .unset] [(.int (3 : Int32))]))
      refine Go.istore X0 hx (hb hby at_8) (l' := #[.val (.int pl), .val (.int pm), .val (.int px), .val (.int py), .val (.int pk), .val (.int (1 : Int32)), .val (.int (3 : Int32)), .unset, .unset, .unset, .unset, .unset, .unset, .unset, .unset, .unset, .unset, .unset, .unset, .unset]) rfl (q := 10) rfl ?_
      refine Go.iloadN X0 hx (hb hby at_10) rfl (q := 11) rfl ?_
      refine Go.i2b X0 hx (hb hby at_11) rfl (q := 12) rfl ?_
      have hA0 := bb px
      generalize (px.toInt8.toInt32) = A0 at hA0 ⊢
      refine Go.istore X0 hx (hb hby at_12) (l' := #[.val (.int pl), .val (.int pm), .val (.int px), .val (.int py), .val (.int pk), .val (.int (1 : Int32)), .val (.int (3 : Int32)), .val (.int A0), .unset, .unset, .unset, .unset, .unset, .unset, .unset, .unset, .unset, .unset, .unset, .unset]) rfl (q := 14) rfl ?_
      refine Go.iloadN X0 hx (hb hby at_14) rfl (q := 15) rfl ?_
      refine Go.bipush X0 hx (hb hby at_15) (r := (8 : Int32)) rfl (q := 17) rfl ?_
      refine Go.iushr X0 hx (hb hby at_17) rfl (q := 18) rfl ?_
      refine Go.i2b X0 hx (hb hby at_18) rfl (q := 19) rfl ?_
      have hA1 := bb ((px.toUInt32 >>> ((8 : Int32) &&& 31).toUInt32).toInt32)
      generalize (((px.toUInt32 >>> ((8 : Int32) &&& 31).toUInt32).toInt32).toInt8.toInt32) = A1 at hA1 ⊢
      refine Go.istore X0 hx (hb hby at_19) (l' := #[.val (.int pl), .val (.int pm), .val (.int px), .val (.int py), .val (.int pk), .val (.int (1 : Int32)), .val (.int (3 : Int32)), .val (.int A0), .val (.int A1), .unset, .unset, .unset, .unset, .unset, .unset, .unset, .unset, .unset, .unset, .unset]) rfl (q := 21) rfl ?_
      refine Go.iloadN X0 hx (hb hby at_21) rfl (q := 22) rfl ?_
      refine Go.bipush X0 hx (hb hby at_22) (r := (16 : Int32)) rfl (q := 24) rfl ?_
      refine Go.iushr X0 hx (hb hby at_24) rfl (q := 25) rfl ?_
      refine Go.i2b X0 hx (hb hby at_25) rfl (q := 26) rfl ?_
      have hA2 := bb ((px.toUInt32 >>> ((16 : Int32) &&& 31).toUInt32).toInt32)
      generalize (((px.toUInt32 >>> ((16 : Int32) &&& 31).toUInt32).toInt32).toInt8.toInt32) = A2 at hA2 ⊢
      refine Go.istore X0 hx (hb hby at_26) (l' := #[.val (.int pl), .val (.int pm), .val (.int px), .val (.int py), .val (.int pk), .val (.int (1 : Int32)), .val (.int (3 : Int32)), .val (.int A0), .val (.int A1), .val (.int A2), .unset, .unset, .unset, .unset, .unset, .unset, .unset, .unset, .unset, .unset]) rfl (q := 28) rfl ?_
      refine Go.iload X0 hx (hb hby at_28) rfl (q := 30) rfl ?_
      refine Go.iconst X0 hx (hb hby at_30) (r := (1 : Int32)) rfl (q := 31) rfl ?_
      refine Go.iand X0 hx (hb hby at_31) rfl (q := 32) rfl ?_
      have J42 : ∀ (C0 : Int32), (C0.toInt8.toInt32) = C0 → Go pp ee below (KK ss (Q_law0 Z pl pm px py pk h0) room_1.cells room_1.slots) (s₁.setTop (mkF mm 42 #[.val (.int pl), .val (.int pm), .val (.int px), .val (.int py), .val (.int pk), .val (.int (1 : Int32)), .val (.int (3 : Int32)), .val (.int A0), .val (.int A1), .val (.int A2), .unset, .unset, .unset, .unset, .unset, .unset, .unset, .unset, .unset, .unset] [(.int C0)])) := by
        intro C0 hC0
        refine Go.istore X0 hx (hb hby at_42) (l' := #[.val (.int pl), .val (.int pm), .val (.int px), .val (.int py), .val (.int pk), .val (.int (1 : Int32)), .val (.int (3 : Int32)), .val (.int A0), .val (.int A1), .val (.int A2), .val (.int C0), .unset, .unset, .unset, .unset, .unset, .unset, .unset, .unset, .unset]) rfl (q := 44) rfl ?_
        refine Go.iload X0 hx (hb hby at_44) rfl (q := 46) rfl ?_
        refine Go.iconst X0 hx (hb hby at_46) (r := (2 : Int32)) rfl (q := 47) rfl ?_
        refine Go.iand X0 hx (hb hby at_47) rfl (q := 48) rfl ?_
        have J61 : ∀ (C1 : Int32), (C1.toInt8.toInt32) = C1 → Go pp ee below (KK ss (Q_law0 Z pl pm px py pk h0) room_1.cells room_1.slots) (s₁.setTop (mkF mm 61 #[.val (.int pl), .val (.int pm), .val (.int px), .val (.int py), .val (.int pk), .val (.int (1 : Int32)), .val (.int (3 : Int32)), .val (.int A0), .val (.int A1), .val (.int A2), .val (.int C0), .unset, .unset, .unset, .unset, .unset, .unset, .unset, .unset, .unset] [(.int C1)])) := by
          intro C1 hC1
          refine Go.istore X0 hx (hb hby at_61) (l' := #[.val (.int pl), .val (.int pm), .val (.int px), .val (.int py), .val (.int pk), .val (.int (1 : Int32)), .val (.int (3 : Int32)), .val (.int A0), .val (.int A1), .val (.int A2), .val (.int C0), .val (.int C1), .unset, .unset, .unset, .unset, .unset, .unset, .unset, .unset]) rfl (q := 63) rfl ?_
          refine Go.iload X0 hx (hb hby at_63) rfl (q := 65) rfl ?_
          refine Go.iconst X0 hx (hb hby at_65) (r := (4 : Int32)) rfl (q := 66) rfl ?_
          refine Go.iand X0 hx (hb hby at_66) rfl (q := 67) rfl ?_
          have J80 : ∀ (C2 : Int32), (C2.toInt8.toInt32) = C2 → Go pp ee below (KK ss (Q_law0 Z pl pm px py pk h0) room_1.cells room_1.slots) (s₁.setTop (mkF mm 80 #[.val (.int pl), .val (.int pm), .val (.int px), .val (.int py), .val (.int pk), .val (.int (1 : Int32)), .val (.int (3 : Int32)), .val (.int A0), .val (.int A1), .val (.int A2), .val (.int C0), .val (.int C1), .unset, .unset, .unset, .unset, .unset, .unset, .unset, .unset] [(.int C2)])) := by
            intro C2 hC2
            refine Go.istore X0 hx (hb hby at_80) (l' := #[.val (.int pl), .val (.int pm), .val (.int px), .val (.int py), .val (.int pk), .val (.int (1 : Int32)), .val (.int (3 : Int32)), .val (.int A0), .val (.int A1), .val (.int A2), .val (.int C0), .val (.int C1), .val (.int C2), .unset, .unset, .unset, .unset, .unset, .unset, .unset]) rfl (q := 82) rfl ?_
            refine Go.iload X0 hx (hb hby at_82) rfl (q := 84) rfl ?_
            refine Go.iload X0 hx (hb hby at_84) rfl (q := 86) rfl ?_
            refine Go.iload X0 hx (hb hby at_86) rfl (q := 88) rfl ?_
            refine Go.iload X0 hx (hb hby at_88) rfl (q := 90) rfl ?_
            refine Go.callS X0 hx hZ hown (wd0 hw) (wd1 hw) (wd2 hw) (wd3 hw) (by decide) (make1 l Z a0 hw A0 A1 A2 h0 O0 hA0 hA1 hA2) e0 (by rw [hml]; rfl) (hb hby at_90) (argsL := [(.int (1 : Int32)), (.int A0), (.int A1), (.int A2)]) (rest := []) (lenOf pd3 rfl) rfl rfl (W := 0) (by first | exact Nat.le_refl _ | decide) (by decide) (by decide) (by decide) (by decide) ?_
            intro v226 T226 L226 X226 hQ226
            obtain ⟨h226, e226⟩ : ∃ z, T226.heap = z := ⟨_, rfl⟩
            rw [e226] at hQ226
            obtain ⟨b_226, kb_226, rfl, N226q, K226, fr226_b, P226_0, P226_1⟩ := hQ226
            have N226 := Fr.app N0 N226q
            have g_b_226 : Z.heap.size ≤ b_226 := Nat.le_trans O0.1 fr226_b
            have OK226 := ext_keep O0 K226 all0
            refine Go.astore X226 hx (hb hby at_93) rfl (l' := #[.val (.int pl), .val (.int pm), .val (.int px), .val (.int py), .val (.int pk), .val (.int (1 : Int32)), .val (.int (3 : Int32)), .val (.int A0), .val (.int A1), .val (.int A2), .val (.int C0), .val (.int C1), .val (.int C2), .val (.ref b_226), .unset, .unset, .unset, .unset, .unset, .unset]) rfl (q := 95) rfl ?_
            refine Go.iload X226 hx (hb hby at_95) rfl (q := 97) rfl ?_
            refine Go.iload X226 hx (hb hby at_97) rfl (q := 99) rfl ?_
            refine Go.iload X226 hx (hb hby at_99) rfl (q := 101) rfl ?_
            refine Go.iload X226 hx (hb hby at_101) rfl (q := 103) rfl ?_
            refine Go.callS X226 hx hZ hown (wd0 hw) (wd1 hw) (wd2 hw) (wd3 hw) (by decide) (make1 l Z a0 hw A0 A1 A2 h226 OK226 hA0 hA1 hA2) e226 (by rw [hml]; rfl) (hb hby at_103) (argsL := [(.int (1 : Int32)), (.int A0), (.int A1), (.int A2)]) (rest := []) (lenOf pd3 rfl) rfl rfl (W := 0) (by first | exact Nat.le_refl _ | decide) (by decide) (by decide) (by decide) (by decide) ?_
            intro v227 T227 L227 X227 hQ227
            obtain ⟨h227, e227⟩ : ∃ z, T227.heap = z := ⟨_, rfl⟩
            rw [e227] at hQ227
            obtain ⟨b_227, kb_227, rfl, N227q, K227, fr227_b, P227_0, P227_1⟩ := hQ227
            have N227 := Fr.app N226 N227q
            have ne_b_226_b_227 : b_226 ≠ b_227 := ne_new P226_0.lt fr227_b
            have g_b_227 : Z.heap.size ≤ b_227 := Nat.le_trans OK226.1 fr227_b
            replace P226_0 := P226_0.keep K227 nin0
            replace P226_1 := P226_1.keep K227
            have OK227 := ext_keep OK226 K227 all0
            refine Go.astore X227 hx (hb hby at_106) rfl (l' := #[.val (.int pl), .val (.int pm), .val (.int px), .val (.int py), .val (.int pk), .val (.int (1 : Int32)), .val (.int (3 : Int32)), .val (.int A0), .val (.int A1), .val (.int A2), .val (.int C0), .val (.int C1), .val (.int C2), .val (.ref b_226), .val (.ref b_227), .unset, .unset, .unset, .unset, .unset]) rfl (q := 108) rfl ?_
            refine Go.iload X227 hx (hb hby at_108) rfl (q := 110) rfl ?_
            refine Go.iload X227 hx (hb hby at_110) rfl (q := 112) rfl ?_
            refine Go.iload X227 hx (hb hby at_112) rfl (q := 114) rfl ?_
            refine Go.iload X227 hx (hb hby at_114) rfl (q := 116) rfl ?_
            refine Go.callS X227 hx hZ hown (wd0 hw) (wd1 hw) (wd2 hw) (wd3 hw) (by decide) (make3 l Z a0 hw C0 C1 C2 h227 OK227 hC0 hC1 hC2) e227 (by rw [hml]; rfl) (hb hby at_116) (argsL := [(.int (3 : Int32)), (.int C0), (.int C1), (.int C2)]) (rest := []) (lenOf pd3 rfl) rfl rfl (W := 0) (by first | exact Nat.le_refl _ | decide) (by decide) (by decide) (by decide) (by decide) ?_
            intro v228 T228 L228 X228 hQ228
            obtain ⟨h228, e228⟩ : ∃ z, T228.heap = z := ⟨_, rfl⟩
            rw [e228] at hQ228
            obtain ⟨b_228, kb_228, rfl, N228q, K228, fr228_b, P228_0, P228_1⟩ := hQ228
            have N228 := Fr.app N227 N228q
            have ne_b_226_b_228 : b_226 ≠ b_228 := ne_new P226_0.lt fr228_b
            have ne_b_227_b_228 : b_227 ≠ b_228 := ne_new P227_0.lt fr228_b
            have g_b_228 : Z.heap.size ≤ b_228 := Nat.le_trans OK227.1 fr228_b
            replace P226_0 := P226_0.keep K228 nin0
            replace P226_1 := P226_1.keep K228
            replace P227_0 := P227_0.keep K228 nin0
            replace P227_1 := P227_1.keep K228
            have OK228 := ext_keep OK227 K228 all0
            refine Go.astore X228 hx (hb hby at_119) rfl (l' := #[.val (.int pl), .val (.int pm), .val (.int px), .val (.int py), .val (.int pk), .val (.int (1 : Int32)), .val (.int (3 : Int32)), .val (.int A0), .val (.int A1), .val (.int A2), .val (.int C0), .val (.int C1), .val (.int C2), .val (.ref b_226), .val (.ref b_227), .val (.ref b_228), .unset, .unset, .unset, .unset]) rfl (q := 121) rfl ?_
            refine Go.aload X228 hx (hb hby at_121) rfl rfl (q := 123) rfl ?_
            refine Go.callS X228 hx hZ hown (wd5 hw) (wd6 hw) (wd7 hw) (wd8 hw) (by decide) (of1 l Z a0 hw b_226 (kb_226) A0 h228 OK228 P226_0 P226_1) e228 (by rw [hml]; rfl) (hb hby at_123) (argsL := [(.ref b_226)]) (rest := []) (lenOf pd4 rfl) rfl rfl (W := 0) (by first | exact Nat.le_refl _ | decide) (by decide) (by decide) (by decide) (by decide) ?_
            intro v229 T229 L229 X229 hQ229
            obtain ⟨h229, e229⟩ : ∃ z, T229.heap = z := ⟨_, rfl⟩
            rw [e229] at hQ229
            obtain ⟨b_229, cn_229, kc_229, rfl, N229q, K229, fr229_b, fr229_cn, P229_0, P229_1, P229_2, P229_3, P229_4, P229_5⟩ := hQ229
            have N229 := Fr.app N228 N229q
            have ne_b_226_b_229 : b_226 ≠ b_229 := ne_new P226_0.lt fr229_b
            have ne_b_227_b_229 : b_227 ≠ b_229 := ne_new P227_0.lt fr229_b
            have ne_b_228_b_229 : b_228 ≠ b_229 := ne_new P228_0.lt fr229_b
            have g_b_229 : Z.heap.size ≤ b_229 := Nat.le_trans OK228.1 fr229_b
            have ne_b_226_cn_229 : b_226 ≠ cn_229 := ne_new P226_0.lt fr229_cn
            have ne_b_227_cn_229 : b_227 ≠ cn_229 := ne_new P227_0.lt fr229_cn
            have ne_b_228_cn_229 : b_228 ≠ cn_229 := ne_new P228_0.lt fr229_cn
            have g_cn_229 : Z.heap.size ≤ cn_229 := Nat.le_trans OK228.1 fr229_cn
            replace P226_0 := P226_0.keep K229 nin0
            replace P226_1 := P226_1.keep K229
            replace P227_0 := P227_0.keep K229 nin0
            replace P227_1 := P227_1.keep K229
            replace P228_0 := P228_0.keep K229 nin0
            replace P228_1 := P228_1.keep K229
            have OK229 := ext_keep OK228 K229 all0
            refine Go.astore X229 hx (hb hby at_126) rfl (l' := #[.val (.int pl), .val (.int pm), .val (.int px), .val (.int py), .val (.int pk), .val (.int (1 : Int32)), .val (.int (3 : Int32)), .val (.int A0), .val (.int A1), .val (.int A2), .val (.int C0), .val (.int C1), .val (.int C2), .val (.ref b_226), .val (.ref b_227), .val (.ref b_228), .val (.ref b_229), .unset, .unset, .unset]) rfl (q := 128) rfl ?_
            refine Go.iload X229 hx (hb hby at_128) rfl (q := 130) rfl ?_
            refine Go.ifNo X229 hx (hb hby at_130) (by decide) (q := 133) rfl ?_
            refine Go.aload X229 hx (hb hby at_133) rfl rfl (q := 135) rfl ?_
            refine Go.iload X229 hx (hb hby at_135) rfl (q := 137) rfl ?_
            refine Go.iconst X229 hx (hb hby at_137) (r := (1 : Int32)) rfl (q := 138) rfl ?_
            refine Go.isub X229 hx (hb hby at_138) (r := (0 : Int32)) rfl (q := 139) rfl ?_
            refine Go.aload X229 hx (hb hby at_139) rfl rfl (q := 141) rfl ?_
            refine Go.iload X229 hx (hb hby at_141) rfl (q := 143) rfl ?_
            refine Go.iconst X229 hx (hb hby at_143) (r := (1 : Int32)) rfl (q := 144) rfl ?_
            refine Go.isub X229 hx (hb hby at_144) (r := (0 : Int32)) rfl (q := 145) rfl ?_
            refine Go.bal X229 hx hZ e229 P226_0 ⟨by decide, by decide⟩ (v := (.int A0)) rfl (hb hby at_145) ?_
            refine Go.iconst X229 hx (hb hby at_146) (r := (-1 : Int32)) rfl (q := 147) rfl ?_
            refine Go.ixor X229 hx (hb hby at_147) rfl (q := 148) rfl ?_
            refine Go.i2b X229 hx (hb hby at_148) rfl (q := 149) rfl ?_
            refine Go.bst X229 hx hZ e229 P226_0 ⟨by decide, by decide⟩ (i := 0) rfl (Nat.le_of_ble_eq_true rfl) (hb hby at_149) ?_
            intro T230 h230 X230 e230 W230 V230
            rw [bb (A0 ^^^ (-1 : Int32))] at V230
            replace V230 : Arv Z h230 b_226 kb_226 .byte (1 : Int32) [(.int ((A0 ^^^ (-1 : Int32)).toInt8.toInt32))] (.int (0 : Int32)) := V230
            have N230 := Fr.snoc X230 N229 g_b_226
            replace P226_1 := P226_1.wr W230
            replace P227_0 := P227_0.other W230 (Ne.symm ne_b_226_b_227)
            replace P227_1 := P227_1.wr W230
            replace P228_0 := P228_0.other W230 (Ne.symm ne_b_226_b_228)
            replace P228_1 := P228_1.wr W230
            replace P229_0 := P229_0.wr W230
            replace P229_1 := P229_1.other W230 (Or.inl (Ne.symm ne_b_226_b_229))
            replace P229_2 := P229_2.other W230 (Ne.symm ne_b_226_cn_229)
            replace P229_3 := P229_3.other W230 (Or.inl (Ne.symm ne_b_226_b_229))
            replace P229_4 := P229_4.other W230 (Or.inl (Ne.symm ne_b_226_b_229))
            replace P229_5 := P229_5.other W230 (Or.inl (Ne.symm ne_b_226_b_229))
            have OW230 := ext_wr OK229 W230 g_b_226
            refine Go.aload X230 hx (hb hby at_150) rfl rfl (q := 152) rfl ?_
            refine Go.callS X230 hx hZ hown (wd5 hw) (wd6 hw) (wd7 hw) (wd8 hw) (by decide) (of1 l Z a0 hw b_227 (kb_227) A0 h230 OW230 P227_0 P227_1) e230 (by rw [hml]; rfl) (hb hby at_152) (argsL := [(.ref b_227)]) (rest := []) (lenOf pd4 rfl) rfl rfl (W := 0) (by first | exact Nat.le_refl _ | decide) (by decide) (by decide) (by decide) (by decide) ?_
            intro v231 T231 L231 X231 hQ231
            obtain ⟨h231, e231⟩ : ∃ z, T231.heap = z := ⟨_, rfl⟩
            rw [e231] at hQ231
            obtain ⟨b_231, cn_231, kc_231, rfl, N231q, K231, fr231_b, fr231_cn, P231_0, P231_1, P231_2, P231_3, P231_4, P231_5⟩ := hQ231
            have N231 := Fr.app N230 N231q
            have ne_b_226_b_231 : b_226 ≠ b_231 := ne_new P226_1.lt fr231_b
            have ne_b_227_b_231 : b_227 ≠ b_231 := ne_new P227_0.lt fr231_b
            have ne_b_228_b_231 : b_228 ≠ b_231 := ne_new P228_0.lt fr231_b
            have ne_b_229_b_231 : b_229 ≠ b_231 := ne_new P229_0.lt fr231_b
            have ne_cn_229_b_231 : cn_229 ≠ b_231 := ne_new P229_2.lt fr231_b
            have g_b_231 : Z.heap.size ≤ b_231 := Nat.le_trans OW230.1 fr231_b
            have ne_b_226_cn_231 : b_226 ≠ cn_231 := ne_new P226_1.lt fr231_cn
            have ne_b_227_cn_231 : b_227 ≠ cn_231 := ne_new P227_0.lt fr231_cn
            have ne_b_228_cn_231 : b_228 ≠ cn_231 := ne_new P228_0.lt fr231_cn
            have ne_b_229_cn_231 : b_229 ≠ cn_231 := ne_new P229_0.lt fr231_cn
            have ne_cn_229_cn_231 : cn_229 ≠ cn_231 := ne_new P229_2.lt fr231_cn
            have g_cn_231 : Z.heap.size ≤ cn_231 := Nat.le_trans OW230.1 fr231_cn
            replace P226_1 := P226_1.keep K231
            replace P227_0 := P227_0.keep K231 nin0
            replace P227_1 := P227_1.keep K231
            replace P228_0 := P228_0.keep K231 nin0
            replace P228_1 := P228_1.keep K231
            replace P229_0 := P229_0.keep K231
            replace P229_1 := P229_1.keep K231 nin0
            replace P229_2 := P229_2.keep K231 nin0
            replace P229_3 := P229_3.keep K231 nin0
            replace P229_4 := P229_4.keep K231 nin0
            replace P229_5 := P229_5.keep K231 nin0
            replace V230 := V230.keep K231 nin0
            have OK231 := ext_keep OW230 K231 all0
            refine Go.astore X231 hx (hb hby at_155) rfl (l' := #[.val (.int pl), .val (.int pm), .val (.int px), .val (.int py), .val (.int pk), .val (.int (1 : Int32)), .val (.int (3 : Int32)), .val (.int A0), .val (.int A1), .val (.int A2), .val (.int C0), .val (.int C1), .val (.int C2), .val (.ref b_226), .val (.ref b_227), .val (.ref b_228), .val (.ref b_229), .val (.ref b_231), .unset, .unset]) rfl (q := 157) rfl ?_
            refine Go.aload X231 hx (hb hby at_157) rfl rfl (q := 159) rfl ?_
            refine Go.callS X231 hx hZ hown (wd5 hw) (wd6 hw) (wd7 hw) (wd8 hw) (by decide) (of3 l Z a0 hw b_228 (kb_228) C0 C1 C2 h231 OK231 P228_0 P228_1) e231 (by rw [hml]; rfl) (hb hby at_159) (argsL := [(.ref b_228)]) (rest := []) (lenOf pd4 rfl) rfl rfl (W := 0) (by first | exact Nat.le_refl _ | decide) (by decide) (by decide) (by decide) (by decide) ?_
            intro v232 T232 L232 X232 hQ232
            obtain ⟨h232, e232⟩ : ∃ z, T232.heap = z := ⟨_, rfl⟩
            rw [e232] at hQ232
            obtain ⟨b_232, cn_232, kc_232, rfl, N232q, K232, fr232_b, fr232_cn, P232_0, P232_1, P232_2, P232_3, P232_4, P232_5⟩ := hQ232
            have N232 := Fr.app N231 N232q
            have ne_b_226_b_232 : b_226 ≠ b_232 := ne_new P226_1.lt fr232_b
            have ne_b_227_b_232 : b_227 ≠ b_232 := ne_new P227_0.lt fr232_b
            have ne_b_228_b_232 : b_228 ≠ b_232 := ne_new P228_0.lt fr232_b
            have ne_b_229_b_232 : b_229 ≠ b_232 := ne_new P229_0.lt fr232_b
            have ne_cn_229_b_232 : cn_229 ≠ b_232 := ne_new P229_2.lt fr232_b
            have ne_b_231_b_232 : b_231 ≠ b_232 := ne_new P231_0.lt fr232_b
            have ne_cn_231_b_232 : cn_231 ≠ b_232 := ne_new P231_2.lt fr232_b
            have g_b_232 : Z.heap.size ≤ b_232 := Nat.le_trans OK231.1 fr232_b
            have ne_b_226_cn_232 : b_226 ≠ cn_232 := ne_new P226_1.lt fr232_cn
            have ne_b_227_cn_232 : b_227 ≠ cn_232 := ne_new P227_0.lt fr232_cn
            have ne_b_228_cn_232 : b_228 ≠ cn_232 := ne_new P228_0.lt fr232_cn
            have ne_b_229_cn_232 : b_229 ≠ cn_232 := ne_new P229_0.lt fr232_cn
            have ne_cn_229_cn_232 : cn_229 ≠ cn_232 := ne_new P229_2.lt fr232_cn
            have ne_b_231_cn_232 : b_231 ≠ cn_232 := ne_new P231_0.lt fr232_cn
            have ne_cn_231_cn_232 : cn_231 ≠ cn_232 := ne_new P231_2.lt fr232_cn
            have g_cn_232 : Z.heap.size ≤ cn_232 := Nat.le_trans OK231.1 fr232_cn
            replace P226_1 := P226_1.keep K232
            replace P227_0 := P227_0.keep K232 nin0
            replace P227_1 := P227_1.keep K232
            replace P228_0 := P228_0.keep K232 nin0
            replace P228_1 := P228_1.keep K232
            replace P229_0 := P229_0.keep K232
            replace P229_1 := P229_1.keep K232 nin0
            replace P229_2 := P229_2.keep K232 nin0
            replace P229_3 := P229_3.keep K232 nin0
            replace P229_4 := P229_4.keep K232 nin0
            replace P229_5 := P229_5.keep K232 nin0
            replace V230 := V230.keep K232 nin0
            replace P231_0 := P231_0.keep K232
            replace P231_1 := P231_1.keep K232 nin0
            replace P231_2 := P231_2.keep K232 nin0
            replace P231_3 := P231_3.keep K232 nin0
            replace P231_4 := P231_4.keep K232 nin0
            replace P231_5 := P231_5.keep K232 nin0
            have OK232 := ext_keep OK231 K232 all0
            refine Go.astore X232 hx (hb hby at_162) rfl (l' := #[.val (.int pl), .val (.int pm), .val (.int px), .val (.int py), .val (.int pk), .val (.int (1 : Int32)), .val (.int (3 : Int32)), .val (.int A0), .val (.int A1), .val (.int A2), .val (.int C0), .val (.int C1), .val (.int C2), .val (.ref b_226), .val (.ref b_227), .val (.ref b_228), .val (.ref b_229), .val (.ref b_231), .val (.ref b_232), .unset]) rfl (q := 164) rfl ?_
            refine Go.aload X232 hx (hb hby at_164) rfl rfl (q := 166) rfl ?_
            refine Go.virt X232 hx hZ hown (wd36 hw) (wd37 hw) (notFace_of_selects (args := #[]) (mvT hZ (wd39 hw))) (wd39 hw) (wd38 hw) (wd7 hw) (wd40 hw) (by decide) (clen l Z a0 hw b_229 cn_229 (kc_229) ((1 : Int32)) ([(.int A0)]) h232 OK232 P229_1 P229_2) e232 P229_0 (by rw [hml]; rfl) (hb hby at_166) (argsL := []) (rest := []) (lenOf pd5 rfl) rfl rfl (W := 0) (by first | exact Nat.le_refl _ | decide) (by decide) (by decide) (by decide) (by decide) ?_
            intro v233 T233 L233 X233 hQ233
            obtain ⟨rfl, N233q, e233⟩ := hQ233
            have N233 := Fr.app N232 N233q
            refine Go.iload X233 hx (hb hby at_169) rfl (q := 171) rfl ?_
            refine Go.icmpNo X233 hx (hb hby at_171) (by decide) (q := 174) rfl ?_
            refine Go.aload X233 hx (hb hby at_174) rfl rfl (q := 176) rfl ?_
            refine Go.virt X233 hx hZ hown (wd36 hw) (wd37 hw) (notFace_of_selects (args := #[]) (mvT hZ (wd39 hw))) (wd39 hw) (wd38 hw) (wd7 hw) (wd40 hw) (by decide) (clen l Z a0 hw b_232 cn_232 (kc_232) ((3 : Int32)) ([(.int C0), (.int C1), (.int C2)]) h232 OK232 P232_1 P232_2) e233 P232_0 (by rw [hml]; rfl) (hb hby at_176) (argsL := []) (rest := []) (lenOf pd5 rfl) rfl rfl (W := 0) (by first | exact Nat.le_refl _ | decide) (by decide) (by decide) (by decide) (by decide) ?_
            intro v234 T234 L234 X234 hQ234
            obtain ⟨rfl, N234q, e234⟩ := hQ234
            have N234 := Fr.app N233 N234q
            refine Go.iload X234 hx (hb hby at_179) rfl (q := 181) rfl ?_
            refine Go.icmpNo X234 hx (hb hby at_181) (by decide) (q := 184) rfl ?_
            refine Go.aload X234 hx (hb hby at_184) rfl rfl (q := 186) rfl ?_
            refine Go.virt X234 hx hZ hown (wd41 hw) (wd42 hw) (notFace_of_selects (args := #[]) (mvT hZ (wd44 hw))) (wd44 hw) (wd43 hw) (wd7 hw) (wd45 hw) (by decide) (clast l Z a0 hw b_229 h232 OK232 P229_3) e234 P229_0 (by rw [hml]; rfl) (hb hby at_186) (argsL := []) (rest := []) (lenOf pd6 rfl) rfl rfl (W := 0) (by first | exact Nat.le_refl _ | decide) (by decide) (by decide) (by decide) (by decide) ?_
            intro v235 T235 L235 X235 hQ235
            obtain ⟨rfl, N235q, e235⟩ := hQ235
            have N235 := Fr.app N234 N235q
            refine Go.ifnonnullNo X235 hx (hb hby at_189) (q := 192) rfl ?_
            refine Go.aload X235 hx (hb hby at_192) rfl rfl (q := 194) rfl ?_
            refine Go.virt X235 hx hZ hown (wd46 hw) (wd47 hw) (notFace_of_selects (args := #[]) (mvT hZ (wd49 hw))) (wd49 hw) (wd48 hw) (wd7 hw) (wd50 hw) (by decide) (cshar l Z a0 hw b_229 h232 OK232 P229_4) e235 P229_0 (by rw [hml]; rfl) (hb hby at_194) (argsL := []) (rest := []) (lenOf pd7 rfl) rfl rfl (W := 0) (by first | exact Nat.le_refl _ | decide) (by decide) (by decide) (by decide) (by decide) ?_
            intro v236 T236 L236 X236 hQ236
            obtain ⟨rfl, N236q, e236⟩ := hQ236
            have N236 := Fr.app N235 N236q
            refine Go.ifNo X236 hx (hb hby at_197) (by decide) (q := 200) rfl ?_
            refine Go.aload X236 hx (hb hby at_200) rfl rfl (q := 202) rfl ?_
            refine Go.virt X236 hx hZ hown (wd51 hw) (wd52 hw) (notFace_of_selects (args := #[]) (mvT hZ (wd54 hw))) (wd54 hw) (wd53 hw) (wd7 hw) (wd55 hw) (by decide) (cremo l Z a0 hw b_229 h232 OK232 P229_5) e236 P229_0 (by rw [hml]; rfl) (hb hby at_202) (argsL := []) (rest := []) (lenOf pd7 rfl) rfl rfl (W := 0) (by first | exact Nat.le_refl _ | decide) (by decide) (by decide) (by decide) (by decide) ?_
            intro v237 T237 L237 X237 hQ237
            obtain ⟨rfl, N237q, e237⟩ := hQ237
            have N237 := Fr.app N236 N237q
            refine Go.ifNo X237 hx (hb hby at_205) (by decide) (q := 208) rfl ?_
            refine Go.iconst X237 hx (hb hby at_208) (r := (1 : Int32)) rfl (q := 209) rfl ?_
            refine Go.goto X237 hx (hb hby at_209) (q := 213) (by decide) (by decide) ?_
            refine Go.istore X237 hx (hb hby at_213) (l' := #[.val (.int pl), .val (.int pm), .val (.int px), .val (.int py), .val (.int pk), .val (.int (1 : Int32)), .val (.int (3 : Int32)), .val (.int A0), .val (.int A1), .val (.int A2), .val (.int C0), .val (.int C1), .val (.int C2), .val (.ref b_226), .val (.ref b_227), .val (.ref b_228), .val (.ref b_229), .val (.ref b_231), .val (.ref b_232), .val (.int (1 : Int32))]) rfl (q := 215) rfl ?_
            refine Go.iload X237 hx (hb hby at_215) rfl (q := 217) rfl ?_
            refine Go.ifNo X237 hx (hb hby at_217) (by decide) (q := 220) rfl ?_
            refine Go.aload X237 hx (hb hby at_220) rfl rfl (q := 222) rfl ?_
            refine Go.aload X237 hx (hb hby at_222) rfl rfl (q := 224) rfl ?_
            refine Go.virt X237 hx hZ hown (wd56 hw) (wd57 hw) (notFace_of_selects (args := #[]) (mvT hZ (wd59 hw))) (wd59 hw) (wd58 hw) (wd7 hw) (wd60 hw) (by decide) (chs1_1 l Z a0 hw b_229 b_231 cn_229 cn_231 (kc_229) (kc_231) A0 A0 h232 OK232 P229_1 P231_1 P229_2 P231_2 ne_cn_229_cn_231 rfl) e237 P229_0 (by rw [hml]; rfl) (hb hby at_224) (argsL := [(.ref b_231)]) (rest := []) (lenOf pd8 rfl) rfl rfl (W := 0) (by first | exact Nat.le_refl _ | decide) (by decide) (by decide) (by decide) (by decide) ?_
            intro v238 T238 L238 X238 hQ238
            obtain ⟨rfl, N238q, e238⟩ := hQ238
            have N238 := Fr.app N237 N238q
            refine Go.ifNo X238 hx (hb hby at_227) (by decide) (q := 230) rfl ?_
            refine Go.iconst X238 hx (hb hby at_230) (r := (1 : Int32)) rfl (q := 231) rfl ?_
            refine Go.goto X238 hx (hb hby at_231) (q := 235) (by decide) (by decide) ?_
            refine Go.istore X238 hx (hb hby at_235) (l' := #[.val (.int pl), .val (.int pm), .val (.int px), .val (.int py), .val (.int pk), .val (.int (1 : Int32)), .val (.int (3 : Int32)), .val (.int A0), .val (.int A1), .val (.int A2), .val (.int C0), .val (.int C1), .val (.int C2), .val (.ref b_226), .val (.ref b_227), .val (.ref b_228), .val (.ref b_229), .val (.ref b_231), .val (.ref b_232), .val (.int (1 : Int32))]) rfl (q := 237) rfl ?_
            refine Go.iload X238 hx (hb hby at_237) rfl (q := 239) rfl ?_
            refine Go.ifNo X238 hx (hb hby at_239) (by decide) (q := 242) rfl ?_
            refine Go.aload X238 hx (hb hby at_242) rfl rfl (q := 244) rfl ?_
            refine Go.aload X238 hx (hb hby at_244) rfl rfl (q := 246) rfl ?_
            refine Go.virt X238 hx hZ hown (wd56 hw) (wd57 hw) (notFace_of_selects (args := #[]) (mvT hZ (wd59 hw))) (wd59 hw) (wd58 hw) (wd7 hw) (wd60 hw) (by decide) (chsd1_3 l Z a0 hw b_229 b_232 cn_229 cn_232 (kc_229) (kc_232) A0 C0 C1 C2 h232 OK232 P229_1 P232_1 P229_2 P232_2 ne_cn_229_cn_232) e238 P229_0 (by rw [hml]; rfl) (hb hby at_246) (argsL := [(.ref b_232)]) (rest := []) (lenOf pd8 rfl) rfl rfl (W := 0) (by first | exact Nat.le_refl _ | decide) (by decide) (by decide) (by decide) (by decide) ?_
            intro v239 T239 L239 X239 hQ239
            obtain ⟨rfl, N239q, e239⟩ := hQ239
            have N239 := Fr.app N238 N239q
            refine Go.aload X239 hx (hb hby at_249) rfl rfl (q := 251) rfl ?_
            refine Go.aload X239 hx (hb hby at_251) rfl rfl (q := 253) rfl ?_
            refine Go.callS X239 hx hZ hown (wd69 hw) (wd70 hw) (wd2 hw) (wd71 hw) (by decide) (csamd1_3 l Z a0 hw b_227 b_228 (kb_227) (kb_228) A0 C0 C1 C2 h232 OK232 P227_0 P228_0) e239 (by rw [hml]; rfl) (hb hby at_253) (argsL := [(.ref b_227), (.ref b_228)]) (rest := [(.int (0 : Int32))]) (lenOf pd2 rfl) rfl rfl (W := 1) (by first | exact Nat.le_refl _ | decide) (by decide) (by decide) (by decide) (by decide) ?_
            intro v240 T240 L240 X240 hQ240
            obtain ⟨rfl, N240q, e240⟩ := hQ240
            have N240 := Fr.app N239 N240q
            refine Go.icmpNo X240 hx (hb hby at_256) (by decide) (q := 259) rfl ?_
            refine Go.iconst X240 hx (hb hby at_259) (r := (1 : Int32)) rfl (q := 260) rfl ?_
            refine Go.goto X240 hx (hb hby at_260) (q := 264) (by decide) (by decide) ?_
            refine Go.istore X240 hx (hb hby at_264) (l' := #[.val (.int pl), .val (.int pm), .val (.int px), .val (.int py), .val (.int pk), .val (.int (1 : Int32)), .val (.int (3 : Int32)), .val (.int A0), .val (.int A1), .val (.int A2), .val (.int C0), .val (.int C1), .val (.int C2), .val (.ref b_226), .val (.ref b_227), .val (.ref b_228), .val (.ref b_229), .val (.ref b_231), .val (.ref b_232), .val (.int (1 : Int32))]) rfl (q := 266) rfl ?_
            refine Go.iload X240 hx (hb hby at_266) rfl (q := 268) rfl ?_
            exact Go.retI X240 hx hret hlk (by simp) rfl (hb hby at_268) e240 (by decide) (by decide) ⟨rfl, N240⟩
          by_cases hc241 : (pk &&& (4 : Int32)) = (0 : Int32)
          · refine Go.ifNo X0 hx (hb hby at_67) (Jvm.Free.XT.i0_ne_f hc241) (q := 70) rfl ?_
            refine Go.iload X0 hx (hb hby at_70) rfl (q := 72) rfl ?_
            refine Go.goto X0 hx (hb hby at_72) (q := 80) (by decide) (by decide) ?_
            exact J80 _ hA2
          · refine Go.ifYes X0 hx (hb hby at_67) (Jvm.Free.XT.i0_ne_t hc241) (q := 75) (by decide) (by decide) ?_
            refine Go.iloadN X0 hx (hb hby at_75) rfl (q := 76) rfl ?_
            refine Go.bipush X0 hx (hb hby at_76) (r := (16 : Int32)) rfl (q := 78) rfl ?_
            refine Go.iushr X0 hx (hb hby at_78) rfl (q := 79) rfl ?_
            refine Go.i2b X0 hx (hb hby at_79) rfl (q := 80) rfl ?_
            exact J80 _ (bb _)
        by_cases hc242 : (pk &&& (2 : Int32)) = (0 : Int32)
        · refine Go.ifNo X0 hx (hb hby at_48) (Jvm.Free.XT.i0_ne_f hc242) (q := 51) rfl ?_
          refine Go.iload X0 hx (hb hby at_51) rfl (q := 53) rfl ?_
          refine Go.goto X0 hx (hb hby at_53) (q := 61) (by decide) (by decide) ?_
          exact J61 _ hA1
        · refine Go.ifYes X0 hx (hb hby at_48) (Jvm.Free.XT.i0_ne_t hc242) (q := 56) (by decide) (by decide) ?_
          refine Go.iloadN X0 hx (hb hby at_56) rfl (q := 57) rfl ?_
          refine Go.bipush X0 hx (hb hby at_57) (r := (8 : Int32)) rfl (q := 59) rfl ?_
          refine Go.iushr X0 hx (hb hby at_59) rfl (q := 60) rfl ?_
          refine Go.i2b X0 hx (hb hby at_60) rfl (q := 61) rfl ?_
          exact J61 _ (bb _)
      by_cases hc243 : (pk &&& (1 : Int32)) = (0 : Int32)
      · refine Go.ifNo X0 hx (hb hby at_32) (Jvm.Free.XT.i0_ne_f hc243) (q := 35) rfl ?_
        refine Go.iload X0 hx (hb hby at_35) rfl (q := 37) rfl ?_
        refine Go.goto X0 hx (hb hby at_37) (q := 42) (by decide) (by decide) ?_
        exact J42 _ hA0
      · refine Go.ifYes X0 hx (hb hby at_32) (Jvm.Free.XT.i0_ne_t hc243) (q := 40) (by decide) (by decide) ?_
        refine Go.iloadN X0 hx (hb hby at_40) rfl (q := 41) rfl ?_
        refine Go.i2b X0 hx (hb hby at_41) rfl (q := 42) rfl ?_
        exact J42 _ (bb _)
  · show Go pp ee below _ (s₁.setTop (mkF mm 3 #[.val (.int pl), .val (.int pm), .val (.int px), .val (.int py), .val (.int pk), .unset, .unset, .unset, .unset, .unset, .unset, .unset, .unset, .unset, .unset, .unset, .unset, .unset, .unset, .unset] [(.int (2 : Int32))]))
    refine Go.istore X0 hx (hb hby at_3) (l' := #[.val (.int pl), .val (.int pm), .val (.int px), .val (.int py), .val (.int pk), .val (.int (2 : Int32)), .unset, .unset, .unset, .unset, .unset, .unset, .unset, .unset, .unset, .unset, .unset, .unset, .unset, .unset]) rfl (q := 5) rfl ?_
    refine Go.iloadN X0 hx (hb hby at_5) rfl (q := 6) rfl ?_
    refine Go.iconst X0 hx (hb hby at_6) (r := (3 : Int32)) rfl (q := 7) rfl ?_
    refine Go.iand X0 hx (hb hby at_7) rfl (q := 8) rfl ?_
    have hk := own_and3 pm
    generalize (pm &&& (3 : Int32)) = k at hk ⊢
    rcases hk with rfl | rfl | rfl | rfl
    · show Go pp ee below _ (s₁.setTop (mkF mm 8 #[.val (.int pl), .val (.int pm), .val (.int px), .val (.int py), .val (.int pk), .val (.int (2 : Int32)), .unset, .unset, .unset, .unset, .unset, .unset, .unset, .unset, .unset, .unset, .unset, .unset, .unset, .unset] [(.int (0 : Int32))]))
      refine Go.istore X0 hx (hb hby at_8) (l' := #[.val (.int pl), .val (.int pm), .val (.int px), .val (.int py), .val (.int pk), .val (.int (2 : Int32)), .val (.int (0 : Int32)), .unset, .unset, .unset, .unset, .unset, .unset, .unset, .unset, .unset, .unset, .unset, .unset, .unset]) rfl (q := 10) rfl ?_
      refine Go.iloadN X0 hx (hb hby at_10) rfl (q := 11) rfl ?_
      refine Go.i2b X0 hx (hb hby at_11) rfl (q := 12) rfl ?_
      have hA0 := bb px
      generalize (px.toInt8.toInt32) = A0 at hA0 ⊢
      refine Go.istore X0 hx (hb hby at_12) (l' := #[.val (.int pl), .val (.int pm), .val (.int px), .val (.int py), .val (.int pk), .val (.int (2 : Int32)), .val (.int (0 : Int32)), .val (.int A0), .unset, .unset, .unset, .unset, .unset, .unset, .unset, .unset, .unset, .unset, .unset, .unset]) rfl (q := 14) rfl ?_
      refine Go.iloadN X0 hx (hb hby at_14) rfl (q := 15) rfl ?_
      refine Go.bipush X0 hx (hb hby at_15) (r := (8 : Int32)) rfl (q := 17) rfl ?_
      refine Go.iushr X0 hx (hb hby at_17) rfl (q := 18) rfl ?_
      refine Go.i2b X0 hx (hb hby at_18) rfl (q := 19) rfl ?_
      have hA1 := bb ((px.toUInt32 >>> ((8 : Int32) &&& 31).toUInt32).toInt32)
      generalize (((px.toUInt32 >>> ((8 : Int32) &&& 31).toUInt32).toInt32).toInt8.toInt32) = A1 at hA1 ⊢
      refine Go.istore X0 hx (hb hby at_19) (l' := #[.val (.int pl), .val (.int pm), .val (.int px), .val (.int py), .val (.int pk), .val (.int (2 : Int32)), .val (.int (0 : Int32)), .val (.int A0), .val (.int A1), .unset, .unset, .unset, .unset, .unset, .unset, .unset, .unset, .unset, .unset, .unset]) rfl (q := 21) rfl ?_
      refine Go.iloadN X0 hx (hb hby at_21) rfl (q := 22) rfl ?_
      refine Go.bipush X0 hx (hb hby at_22) (r := (16 : Int32)) rfl (q := 24) rfl ?_
      refine Go.iushr X0 hx (hb hby at_24) rfl (q := 25) rfl ?_
      refine Go.i2b X0 hx (hb hby at_25) rfl (q := 26) rfl ?_
      have hA2 := bb ((px.toUInt32 >>> ((16 : Int32) &&& 31).toUInt32).toInt32)
      generalize (((px.toUInt32 >>> ((16 : Int32) &&& 31).toUInt32).toInt32).toInt8.toInt32) = A2 at hA2 ⊢
      refine Go.istore X0 hx (hb hby at_26) (l' := #[.val (.int pl), .val (.int pm), .val (.int px), .val (.int py), .val (.int pk), .val (.int (2 : Int32)), .val (.int (0 : Int32)), .val (.int A0), .val (.int A1), .val (.int A2), .unset, .unset, .unset, .unset, .unset, .unset, .unset, .unset, .unset, .unset]) rfl (q := 28) rfl ?_
      refine Go.iload X0 hx (hb hby at_28) rfl (q := 30) rfl ?_
      refine Go.iconst X0 hx (hb hby at_30) (r := (1 : Int32)) rfl (q := 31) rfl ?_
      refine Go.iand X0 hx (hb hby at_31) rfl (q := 32) rfl ?_
      have J42 : ∀ (C0 : Int32), (C0.toInt8.toInt32) = C0 → Go pp ee below (KK ss (Q_law0 Z pl pm px py pk h0) room_1.cells room_1.slots) (s₁.setTop (mkF mm 42 #[.val (.int pl), .val (.int pm), .val (.int px), .val (.int py), .val (.int pk), .val (.int (2 : Int32)), .val (.int (0 : Int32)), .val (.int A0), .val (.int A1), .val (.int A2), .unset, .unset, .unset, .unset, .unset, .unset, .unset, .unset, .unset, .unset] [(.int C0)])) := by
        intro C0 hC0
        refine Go.istore X0 hx (hb hby at_42) (l' := #[.val (.int pl), .val (.int pm), .val (.int px), .val (.int py), .val (.int pk), .val (.int (2 : Int32)), .val (.int (0 : Int32)), .val (.int A0), .val (.int A1), .val (.int A2), .val (.int C0), .unset, .unset, .unset, .unset, .unset, .unset, .unset, .unset, .unset]) rfl (q := 44) rfl ?_
        refine Go.iload X0 hx (hb hby at_44) rfl (q := 46) rfl ?_
        refine Go.iconst X0 hx (hb hby at_46) (r := (2 : Int32)) rfl (q := 47) rfl ?_
        refine Go.iand X0 hx (hb hby at_47) rfl (q := 48) rfl ?_
        have J61 : ∀ (C1 : Int32), (C1.toInt8.toInt32) = C1 → Go pp ee below (KK ss (Q_law0 Z pl pm px py pk h0) room_1.cells room_1.slots) (s₁.setTop (mkF mm 61 #[.val (.int pl), .val (.int pm), .val (.int px), .val (.int py), .val (.int pk), .val (.int (2 : Int32)), .val (.int (0 : Int32)), .val (.int A0), .val (.int A1), .val (.int A2), .val (.int C0), .unset, .unset, .unset, .unset, .unset, .unset, .unset, .unset, .unset] [(.int C1)])) := by
          intro C1 hC1
          refine Go.istore X0 hx (hb hby at_61) (l' := #[.val (.int pl), .val (.int pm), .val (.int px), .val (.int py), .val (.int pk), .val (.int (2 : Int32)), .val (.int (0 : Int32)), .val (.int A0), .val (.int A1), .val (.int A2), .val (.int C0), .val (.int C1), .unset, .unset, .unset, .unset, .unset, .unset, .unset, .unset]) rfl (q := 63) rfl ?_
          refine Go.iload X0 hx (hb hby at_63) rfl (q := 65) rfl ?_
          refine Go.iconst X0 hx (hb hby at_65) (r := (4 : Int32)) rfl (q := 66) rfl ?_
          refine Go.iand X0 hx (hb hby at_66) rfl (q := 67) rfl ?_
          have J80 : ∀ (C2 : Int32), (C2.toInt8.toInt32) = C2 → Go pp ee below (KK ss (Q_law0 Z pl pm px py pk h0) room_1.cells room_1.slots) (s₁.setTop (mkF mm 80 #[.val (.int pl), .val (.int pm), .val (.int px), .val (.int py), .val (.int pk), .val (.int (2 : Int32)), .val (.int (0 : Int32)), .val (.int A0), .val (.int A1), .val (.int A2), .val (.int C0), .val (.int C1), .unset, .unset, .unset, .unset, .unset, .unset, .unset, .unset] [(.int C2)])) := by
            intro C2 hC2
            refine Go.istore X0 hx (hb hby at_80) (l' := #[.val (.int pl), .val (.int pm), .val (.int px), .val (.int py), .val (.int pk), .val (.int (2 : Int32)), .val (.int (0 : Int32)), .val (.int A0), .val (.int A1), .val (.int A2), .val (.int C0), .val (.int C1), .val (.int C2), .unset, .unset, .unset, .unset, .unset, .unset, .unset]) rfl (q := 82) rfl ?_
            refine Go.iload X0 hx (hb hby at_82) rfl (q := 84) rfl ?_
            refine Go.iload X0 hx (hb hby at_84) rfl (q := 86) rfl ?_
            refine Go.iload X0 hx (hb hby at_86) rfl (q := 88) rfl ?_
            refine Go.iload X0 hx (hb hby at_88) rfl (q := 90) rfl ?_
            refine Go.callS X0 hx hZ hown (wd0 hw) (wd1 hw) (wd2 hw) (wd3 hw) (by decide) (make2 l Z a0 hw A0 A1 A2 h0 O0 hA0 hA1 hA2) e0 (by rw [hml]; rfl) (hb hby at_90) (argsL := [(.int (2 : Int32)), (.int A0), (.int A1), (.int A2)]) (rest := []) (lenOf pd3 rfl) rfl rfl (W := 0) (by first | exact Nat.le_refl _ | decide) (by decide) (by decide) (by decide) (by decide) ?_
            intro v244 T244 L244 X244 hQ244
            obtain ⟨h244, e244⟩ : ∃ z, T244.heap = z := ⟨_, rfl⟩
            rw [e244] at hQ244
            obtain ⟨b_244, kb_244, rfl, N244q, K244, fr244_b, P244_0, P244_1⟩ := hQ244
            have N244 := Fr.app N0 N244q
            have g_b_244 : Z.heap.size ≤ b_244 := Nat.le_trans O0.1 fr244_b
            have OK244 := ext_keep O0 K244 all0
            refine Go.astore X244 hx (hb hby at_93) rfl (l' := #[.val (.int pl), .val (.int pm), .val (.int px), .val (.int py), .val (.int pk), .val (.int (2 : Int32)), .val (.int (0 : Int32)), .val (.int A0), .val (.int A1), .val (.int A2), .val (.int C0), .val (.int C1), .val (.int C2), .val (.ref b_244), .unset, .unset, .unset, .unset, .unset, .unset]) rfl (q := 95) rfl ?_
            refine Go.iload X244 hx (hb hby at_95) rfl (q := 97) rfl ?_
            refine Go.iload X244 hx (hb hby at_97) rfl (q := 99) rfl ?_
            refine Go.iload X244 hx (hb hby at_99) rfl (q := 101) rfl ?_
            refine Go.iload X244 hx (hb hby at_101) rfl (q := 103) rfl ?_
            refine Go.callS X244 hx hZ hown (wd0 hw) (wd1 hw) (wd2 hw) (wd3 hw) (by decide) (make2 l Z a0 hw A0 A1 A2 h244 OK244 hA0 hA1 hA2) e244 (by rw [hml]; rfl) (hb hby at_103) (argsL := [(.int (2 : Int32)), (.int A0), (.int A1), (.int A2)]) (rest := []) (lenOf pd3 rfl) rfl rfl (W := 0) (by first | exact Nat.le_refl _ | decide) (by decide) (by decide) (by decide) (by decide) ?_
            intro v245 T245 L245 X245 hQ245
            obtain ⟨h245, e245⟩ : ∃ z, T245.heap = z := ⟨_, rfl⟩
            rw [e245] at hQ245
            obtain ⟨b_245, kb_245, rfl, N245q, K245, fr245_b, P245_0, P245_1⟩ := hQ245
            have N245 := Fr.app N244 N245q
            have ne_b_244_b_245 : b_244 ≠ b_245 := ne_new P244_0.lt fr245_b
            have g_b_245 : Z.heap.size ≤ b_245 := Nat.le_trans OK244.1 fr245_b
            replace P244_0 := P244_0.keep K245 nin0
            replace P244_1 := P244_1.keep K245
            have OK245 := ext_keep OK244 K245 all0
            refine Go.astore X245 hx (hb hby at_106) rfl (l' := #[.val (.int pl), .val (.int pm), .val (.int px), .val (.int py), .val (.int pk), .val (.int (2 : Int32)), .val (.int (0 : Int32)), .val (.int A0), .val (.int A1), .val (.int A2), .val (.int C0), .val (.int C1), .val (.int C2), .val (.ref b_244), .val (.ref b_245), .unset, .unset, .unset, .unset, .unset]) rfl (q := 108) rfl ?_
            refine Go.iload X245 hx (hb hby at_108) rfl (q := 110) rfl ?_
            refine Go.iload X245 hx (hb hby at_110) rfl (q := 112) rfl ?_
            refine Go.iload X245 hx (hb hby at_112) rfl (q := 114) rfl ?_
            refine Go.iload X245 hx (hb hby at_114) rfl (q := 116) rfl ?_
            refine Go.callS X245 hx hZ hown (wd0 hw) (wd1 hw) (wd2 hw) (wd3 hw) (by decide) (make0 l Z a0 hw C0 C1 C2 h245 OK245 hC0 hC1 hC2) e245 (by rw [hml]; rfl) (hb hby at_116) (argsL := [(.int (0 : Int32)), (.int C0), (.int C1), (.int C2)]) (rest := []) (lenOf pd3 rfl) rfl rfl (W := 0) (by first | exact Nat.le_refl _ | decide) (by decide) (by decide) (by decide) (by decide) ?_
            intro v246 T246 L246 X246 hQ246
            obtain ⟨h246, e246⟩ : ∃ z, T246.heap = z := ⟨_, rfl⟩
            rw [e246] at hQ246
            obtain ⟨b_246, kb_246, rfl, N246q, K246, fr246_b, P246_0, P246_1⟩ := hQ246
            have N246 := Fr.app N245 N246q
            have ne_b_244_b_246 : b_244 ≠ b_246 := ne_new P244_0.lt fr246_b
            have ne_b_245_b_246 : b_245 ≠ b_246 := ne_new P245_0.lt fr246_b
            have g_b_246 : Z.heap.size ≤ b_246 := Nat.le_trans OK245.1 fr246_b
            replace P244_0 := P244_0.keep K246 nin0
            replace P244_1 := P244_1.keep K246
            replace P245_0 := P245_0.keep K246 nin0
            replace P245_1 := P245_1.keep K246
            have OK246 := ext_keep OK245 K246 all0
            refine Go.astore X246 hx (hb hby at_119) rfl (l' := #[.val (.int pl), .val (.int pm), .val (.int px), .val (.int py), .val (.int pk), .val (.int (2 : Int32)), .val (.int (0 : Int32)), .val (.int A0), .val (.int A1), .val (.int A2), .val (.int C0), .val (.int C1), .val (.int C2), .val (.ref b_244), .val (.ref b_245), .val (.ref b_246), .unset, .unset, .unset, .unset]) rfl (q := 121) rfl ?_
            refine Go.aload X246 hx (hb hby at_121) rfl rfl (q := 123) rfl ?_
            refine Go.callS X246 hx hZ hown (wd5 hw) (wd6 hw) (wd7 hw) (wd8 hw) (by decide) (of2 l Z a0 hw b_244 (kb_244) A0 A1 h246 OK246 P244_0 P244_1) e246 (by rw [hml]; rfl) (hb hby at_123) (argsL := [(.ref b_244)]) (rest := []) (lenOf pd4 rfl) rfl rfl (W := 0) (by first | exact Nat.le_refl _ | decide) (by decide) (by decide) (by decide) (by decide) ?_
            intro v247 T247 L247 X247 hQ247
            obtain ⟨h247, e247⟩ : ∃ z, T247.heap = z := ⟨_, rfl⟩
            rw [e247] at hQ247
            obtain ⟨b_247, cn_247, kc_247, rfl, N247q, K247, fr247_b, fr247_cn, P247_0, P247_1, P247_2, P247_3, P247_4, P247_5⟩ := hQ247
            have N247 := Fr.app N246 N247q
            have ne_b_244_b_247 : b_244 ≠ b_247 := ne_new P244_0.lt fr247_b
            have ne_b_245_b_247 : b_245 ≠ b_247 := ne_new P245_0.lt fr247_b
            have ne_b_246_b_247 : b_246 ≠ b_247 := ne_new P246_0.lt fr247_b
            have g_b_247 : Z.heap.size ≤ b_247 := Nat.le_trans OK246.1 fr247_b
            have ne_b_244_cn_247 : b_244 ≠ cn_247 := ne_new P244_0.lt fr247_cn
            have ne_b_245_cn_247 : b_245 ≠ cn_247 := ne_new P245_0.lt fr247_cn
            have ne_b_246_cn_247 : b_246 ≠ cn_247 := ne_new P246_0.lt fr247_cn
            have g_cn_247 : Z.heap.size ≤ cn_247 := Nat.le_trans OK246.1 fr247_cn
            replace P244_0 := P244_0.keep K247 nin0
            replace P244_1 := P244_1.keep K247
            replace P245_0 := P245_0.keep K247 nin0
            replace P245_1 := P245_1.keep K247
            replace P246_0 := P246_0.keep K247 nin0
            replace P246_1 := P246_1.keep K247
            have OK247 := ext_keep OK246 K247 all0
            refine Go.astore X247 hx (hb hby at_126) rfl (l' := #[.val (.int pl), .val (.int pm), .val (.int px), .val (.int py), .val (.int pk), .val (.int (2 : Int32)), .val (.int (0 : Int32)), .val (.int A0), .val (.int A1), .val (.int A2), .val (.int C0), .val (.int C1), .val (.int C2), .val (.ref b_244), .val (.ref b_245), .val (.ref b_246), .val (.ref b_247), .unset, .unset, .unset]) rfl (q := 128) rfl ?_
            refine Go.iload X247 hx (hb hby at_128) rfl (q := 130) rfl ?_
            refine Go.ifNo X247 hx (hb hby at_130) (by decide) (q := 133) rfl ?_
            refine Go.aload X247 hx (hb hby at_133) rfl rfl (q := 135) rfl ?_
            refine Go.iload X247 hx (hb hby at_135) rfl (q := 137) rfl ?_
            refine Go.iconst X247 hx (hb hby at_137) (r := (1 : Int32)) rfl (q := 138) rfl ?_
            refine Go.isub X247 hx (hb hby at_138) (r := (1 : Int32)) rfl (q := 139) rfl ?_
            refine Go.aload X247 hx (hb hby at_139) rfl rfl (q := 141) rfl ?_
            refine Go.iload X247 hx (hb hby at_141) rfl (q := 143) rfl ?_
            refine Go.iconst X247 hx (hb hby at_143) (r := (1 : Int32)) rfl (q := 144) rfl ?_
            refine Go.isub X247 hx (hb hby at_144) (r := (1 : Int32)) rfl (q := 145) rfl ?_
            refine Go.bal X247 hx hZ e247 P244_0 ⟨by decide, by decide⟩ (v := (.int A1)) rfl (hb hby at_145) ?_
            refine Go.iconst X247 hx (hb hby at_146) (r := (-1 : Int32)) rfl (q := 147) rfl ?_
            refine Go.ixor X247 hx (hb hby at_147) rfl (q := 148) rfl ?_
            refine Go.i2b X247 hx (hb hby at_148) rfl (q := 149) rfl ?_
            refine Go.bst X247 hx hZ e247 P244_0 ⟨by decide, by decide⟩ (i := 1) rfl (Nat.le_of_ble_eq_true rfl) (hb hby at_149) ?_
            intro T248 h248 X248 e248 W248 V248
            rw [bb (A1 ^^^ (-1 : Int32))] at V248
            replace V248 : Arv Z h248 b_244 kb_244 .byte (2 : Int32) [(.int A0), (.int ((A1 ^^^ (-1 : Int32)).toInt8.toInt32))] (.int (0 : Int32)) := V248
            have N248 := Fr.snoc X248 N247 g_b_244
            replace P244_1 := P244_1.wr W248
            replace P245_0 := P245_0.other W248 (Ne.symm ne_b_244_b_245)
            replace P245_1 := P245_1.wr W248
            replace P246_0 := P246_0.other W248 (Ne.symm ne_b_244_b_246)
            replace P246_1 := P246_1.wr W248
            replace P247_0 := P247_0.wr W248
            replace P247_1 := P247_1.other W248 (Or.inl (Ne.symm ne_b_244_b_247))
            replace P247_2 := P247_2.other W248 (Ne.symm ne_b_244_cn_247)
            replace P247_3 := P247_3.other W248 (Or.inl (Ne.symm ne_b_244_b_247))
            replace P247_4 := P247_4.other W248 (Or.inl (Ne.symm ne_b_244_b_247))
            replace P247_5 := P247_5.other W248 (Or.inl (Ne.symm ne_b_244_b_247))
            have OW248 := ext_wr OK247 W248 g_b_244
            refine Go.aload X248 hx (hb hby at_150) rfl rfl (q := 152) rfl ?_
            refine Go.callS X248 hx hZ hown (wd5 hw) (wd6 hw) (wd7 hw) (wd8 hw) (by decide) (of2 l Z a0 hw b_245 (kb_245) A0 A1 h248 OW248 P245_0 P245_1) e248 (by rw [hml]; rfl) (hb hby at_152) (argsL := [(.ref b_245)]) (rest := []) (lenOf pd4 rfl) rfl rfl (W := 0) (by first | exact Nat.le_refl _ | decide) (by decide) (by decide) (by decide) (by decide) ?_
            intro v249 T249 L249 X249 hQ249
            obtain ⟨h249, e249⟩ : ∃ z, T249.heap = z := ⟨_, rfl⟩
            rw [e249] at hQ249
            obtain ⟨b_249, cn_249, kc_249, rfl, N249q, K249, fr249_b, fr249_cn, P249_0, P249_1, P249_2, P249_3, P249_4, P249_5⟩ := hQ249
            have N249 := Fr.app N248 N249q
            have ne_b_244_b_249 : b_244 ≠ b_249 := ne_new P244_1.lt fr249_b
            have ne_b_245_b_249 : b_245 ≠ b_249 := ne_new P245_0.lt fr249_b
            have ne_b_246_b_249 : b_246 ≠ b_249 := ne_new P246_0.lt fr249_b
            have ne_b_247_b_249 : b_247 ≠ b_249 := ne_new P247_0.lt fr249_b
            have ne_cn_247_b_249 : cn_247 ≠ b_249 := ne_new P247_2.lt fr249_b
            have g_b_249 : Z.heap.size ≤ b_249 := Nat.le_trans OW248.1 fr249_b
            have ne_b_244_cn_249 : b_244 ≠ cn_249 := ne_new P244_1.lt fr249_cn
            have ne_b_245_cn_249 : b_245 ≠ cn_249 := ne_new P245_0.lt fr249_cn
            have ne_b_246_cn_249 : b_246 ≠ cn_249 := ne_new P246_0.lt fr249_cn
            have ne_b_247_cn_249 : b_247 ≠ cn_249 := ne_new P247_0.lt fr249_cn
            have ne_cn_247_cn_249 : cn_247 ≠ cn_249 := ne_new P247_2.lt fr249_cn
            have g_cn_249 : Z.heap.size ≤ cn_249 := Nat.le_trans OW248.1 fr249_cn
            replace P244_1 := P244_1.keep K249
            replace P245_0 := P245_0.keep K249 nin0
            replace P245_1 := P245_1.keep K249
            replace P246_0 := P246_0.keep K249 nin0
            replace P246_1 := P246_1.keep K249
            replace P247_0 := P247_0.keep K249
            replace P247_1 := P247_1.keep K249 nin0
            replace P247_2 := P247_2.keep K249 nin0
            replace P247_3 := P247_3.keep K249 nin0
            replace P247_4 := P247_4.keep K249 nin0
            replace P247_5 := P247_5.keep K249 nin0
            replace V248 := V248.keep K249 nin0
            have OK249 := ext_keep OW248 K249 all0
            refine Go.astore X249 hx (hb hby at_155) rfl (l' := #[.val (.int pl), .val (.int pm), .val (.int px), .val (.int py), .val (.int pk), .val (.int (2 : Int32)), .val (.int (0 : Int32)), .val (.int A0), .val (.int A1), .val (.int A2), .val (.int C0), .val (.int C1), .val (.int C2), .val (.ref b_244), .val (.ref b_245), .val (.ref b_246), .val (.ref b_247), .val (.ref b_249), .unset, .unset]) rfl (q := 157) rfl ?_
            refine Go.aload X249 hx (hb hby at_157) rfl rfl (q := 159) rfl ?_
            refine Go.callS X249 hx hZ hown (wd5 hw) (wd6 hw) (wd7 hw) (wd8 hw) (by decide) (of0 l Z a0 hw b_246 (kb_246) h249 OK249 P246_0 P246_1) e249 (by rw [hml]; rfl) (hb hby at_159) (argsL := [(.ref b_246)]) (rest := []) (lenOf pd4 rfl) rfl rfl (W := 0) (by first | exact Nat.le_refl _ | decide) (by decide) (by decide) (by decide) (by decide) ?_
            intro v250 T250 L250 X250 hQ250
            obtain ⟨h250, e250⟩ : ∃ z, T250.heap = z := ⟨_, rfl⟩
            rw [e250] at hQ250
            obtain ⟨b_250, cn_250, kc_250, rfl, N250q, K250, fr250_b, fr250_cn, P250_0, P250_1, P250_2, P250_3, P250_4, P250_5⟩ := hQ250
            have N250 := Fr.app N249 N250q
            have ne_b_244_b_250 : b_244 ≠ b_250 := ne_new P244_1.lt fr250_b
            have ne_b_245_b_250 : b_245 ≠ b_250 := ne_new P245_0.lt fr250_b
            have ne_b_246_b_250 : b_246 ≠ b_250 := ne_new P246_0.lt fr250_b
            have ne_b_247_b_250 : b_247 ≠ b_250 := ne_new P247_0.lt fr250_b
            have ne_cn_247_b_250 : cn_247 ≠ b_250 := ne_new P247_2.lt fr250_b
            have ne_b_249_b_250 : b_249 ≠ b_250 := ne_new P249_0.lt fr250_b
            have ne_cn_249_b_250 : cn_249 ≠ b_250 := ne_new P249_2.lt fr250_b
            have g_b_250 : Z.heap.size ≤ b_250 := Nat.le_trans OK249.1 fr250_b
            have ne_b_244_cn_250 : b_244 ≠ cn_250 := ne_new P244_1.lt fr250_cn
            have ne_b_245_cn_250 : b_245 ≠ cn_250 := ne_new P245_0.lt fr250_cn
            have ne_b_246_cn_250 : b_246 ≠ cn_250 := ne_new P246_0.lt fr250_cn
            have ne_b_247_cn_250 : b_247 ≠ cn_250 := ne_new P247_0.lt fr250_cn
            have ne_cn_247_cn_250 : cn_247 ≠ cn_250 := ne_new P247_2.lt fr250_cn
            have ne_b_249_cn_250 : b_249 ≠ cn_250 := ne_new P249_0.lt fr250_cn
            have ne_cn_249_cn_250 : cn_249 ≠ cn_250 := ne_new P249_2.lt fr250_cn
            have g_cn_250 : Z.heap.size ≤ cn_250 := Nat.le_trans OK249.1 fr250_cn
            replace P244_1 := P244_1.keep K250
            replace P245_0 := P245_0.keep K250 nin0
            replace P245_1 := P245_1.keep K250
            replace P246_0 := P246_0.keep K250 nin0
            replace P246_1 := P246_1.keep K250
            replace P247_0 := P247_0.keep K250
            replace P247_1 := P247_1.keep K250 nin0
            replace P247_2 := P247_2.keep K250 nin0
            replace P247_3 := P247_3.keep K250 nin0
            replace P247_4 := P247_4.keep K250 nin0
            replace P247_5 := P247_5.keep K250 nin0
            replace V248 := V248.keep K250 nin0
            replace P249_0 := P249_0.keep K250
            replace P249_1 := P249_1.keep K250 nin0
            replace P249_2 := P249_2.keep K250 nin0
            replace P249_3 := P249_3.keep K250 nin0
            replace P249_4 := P249_4.keep K250 nin0
            replace P249_5 := P249_5.keep K250 nin0
            have OK250 := ext_keep OK249 K250 all0
            refine Go.astore X250 hx (hb hby at_162) rfl (l' := #[.val (.int pl), .val (.int pm), .val (.int px), .val (.int py), .val (.int pk), .val (.int (2 : Int32)), .val (.int (0 : Int32)), .val (.int A0), .val (.int A1), .val (.int A2), .val (.int C0), .val (.int C1), .val (.int C2), .val (.ref b_244), .val (.ref b_245), .val (.ref b_246), .val (.ref b_247), .val (.ref b_249), .val (.ref b_250), .unset]) rfl (q := 164) rfl ?_
            refine Go.aload X250 hx (hb hby at_164) rfl rfl (q := 166) rfl ?_
            refine Go.virt X250 hx hZ hown (wd36 hw) (wd37 hw) (notFace_of_selects (args := #[]) (mvT hZ (wd39 hw))) (wd39 hw) (wd38 hw) (wd7 hw) (wd40 hw) (by decide) (clen l Z a0 hw b_247 cn_247 (kc_247) ((2 : Int32)) ([(.int A0), (.int A1)]) h250 OK250 P247_1 P247_2) e250 P247_0 (by rw [hml]; rfl) (hb hby at_166) (argsL := []) (rest := []) (lenOf pd5 rfl) rfl rfl (W := 0) (by first | exact Nat.le_refl _ | decide) (by decide) (by decide) (by decide) (by decide) ?_
            intro v251 T251 L251 X251 hQ251
            obtain ⟨rfl, N251q, e251⟩ := hQ251
            have N251 := Fr.app N250 N251q
            refine Go.iload X251 hx (hb hby at_169) rfl (q := 171) rfl ?_
            refine Go.icmpNo X251 hx (hb hby at_171) (by decide) (q := 174) rfl ?_
            refine Go.aload X251 hx (hb hby at_174) rfl rfl (q := 176) rfl ?_
            refine Go.virt X251 hx hZ hown (wd36 hw) (wd37 hw) (notFace_of_selects (args := #[]) (mvT hZ (wd39 hw))) (wd39 hw) (wd38 hw) (wd7 hw) (wd40 hw) (by decide) (clen l Z a0 hw b_250 cn_250 (kc_250) ((0 : Int32)) ([]) h250 OK250 P250_1 P250_2) e251 P250_0 (by rw [hml]; rfl) (hb hby at_176) (argsL := []) (rest := []) (lenOf pd5 rfl) rfl rfl (W := 0) (by first | exact Nat.le_refl _ | decide) (by decide) (by decide) (by decide) (by decide) ?_
            intro v252 T252 L252 X252 hQ252
            obtain ⟨rfl, N252q, e252⟩ := hQ252
            have N252 := Fr.app N251 N252q
            refine Go.iload X252 hx (hb hby at_179) rfl (q := 181) rfl ?_
            refine Go.icmpNo X252 hx (hb hby at_181) (by decide) (q := 184) rfl ?_
            refine Go.aload X252 hx (hb hby at_184) rfl rfl (q := 186) rfl ?_
            refine Go.virt X252 hx hZ hown (wd41 hw) (wd42 hw) (notFace_of_selects (args := #[]) (mvT hZ (wd44 hw))) (wd44 hw) (wd43 hw) (wd7 hw) (wd45 hw) (by decide) (clast l Z a0 hw b_247 h250 OK250 P247_3) e252 P247_0 (by rw [hml]; rfl) (hb hby at_186) (argsL := []) (rest := []) (lenOf pd6 rfl) rfl rfl (W := 0) (by first | exact Nat.le_refl _ | decide) (by decide) (by decide) (by decide) (by decide) ?_
            intro v253 T253 L253 X253 hQ253
            obtain ⟨rfl, N253q, e253⟩ := hQ253
            have N253 := Fr.app N252 N253q
            refine Go.ifnonnullNo X253 hx (hb hby at_189) (q := 192) rfl ?_
            refine Go.aload X253 hx (hb hby at_192) rfl rfl (q := 194) rfl ?_
            refine Go.virt X253 hx hZ hown (wd46 hw) (wd47 hw) (notFace_of_selects (args := #[]) (mvT hZ (wd49 hw))) (wd49 hw) (wd48 hw) (wd7 hw) (wd50 hw) (by decide) (cshar l Z a0 hw b_247 h250 OK250 P247_4) e253 P247_0 (by rw [hml]; rfl) (hb hby at_194) (argsL := []) (rest := []) (lenOf pd7 rfl) rfl rfl (W := 0) (by first | exact Nat.le_refl _ | decide) (by decide) (by decide) (by decide) (by decide) ?_
            intro v254 T254 L254 X254 hQ254
            obtain ⟨rfl, N254q, e254⟩ := hQ254
            have N254 := Fr.app N253 N254q
            refine Go.ifNo X254 hx (hb hby at_197) (by decide) (q := 200) rfl ?_
            refine Go.aload X254 hx (hb hby at_200) rfl rfl (q := 202) rfl ?_
            refine Go.virt X254 hx hZ hown (wd51 hw) (wd52 hw) (notFace_of_selects (args := #[]) (mvT hZ (wd54 hw))) (wd54 hw) (wd53 hw) (wd7 hw) (wd55 hw) (by decide) (cremo l Z a0 hw b_247 h250 OK250 P247_5) e254 P247_0 (by rw [hml]; rfl) (hb hby at_202) (argsL := []) (rest := []) (lenOf pd7 rfl) rfl rfl (W := 0) (by first | exact Nat.le_refl _ | decide) (by decide) (by decide) (by decide) (by decide) ?_
            intro v255 T255 L255 X255 hQ255
            obtain ⟨rfl, N255q, e255⟩ := hQ255
            have N255 := Fr.app N254 N255q
            refine Go.ifNo X255 hx (hb hby at_205) (by decide) (q := 208) rfl ?_
            refine Go.iconst X255 hx (hb hby at_208) (r := (1 : Int32)) rfl (q := 209) rfl ?_
            refine Go.goto X255 hx (hb hby at_209) (q := 213) (by decide) (by decide) ?_
            refine Go.istore X255 hx (hb hby at_213) (l' := #[.val (.int pl), .val (.int pm), .val (.int px), .val (.int py), .val (.int pk), .val (.int (2 : Int32)), .val (.int (0 : Int32)), .val (.int A0), .val (.int A1), .val (.int A2), .val (.int C0), .val (.int C1), .val (.int C2), .val (.ref b_244), .val (.ref b_245), .val (.ref b_246), .val (.ref b_247), .val (.ref b_249), .val (.ref b_250), .val (.int (1 : Int32))]) rfl (q := 215) rfl ?_
            refine Go.iload X255 hx (hb hby at_215) rfl (q := 217) rfl ?_
            refine Go.ifNo X255 hx (hb hby at_217) (by decide) (q := 220) rfl ?_
            refine Go.aload X255 hx (hb hby at_220) rfl rfl (q := 222) rfl ?_
            refine Go.aload X255 hx (hb hby at_222) rfl rfl (q := 224) rfl ?_
            refine Go.virt X255 hx hZ hown (wd56 hw) (wd57 hw) (notFace_of_selects (args := #[]) (mvT hZ (wd59 hw))) (wd59 hw) (wd58 hw) (wd7 hw) (wd60 hw) (by decide) (chs2_2 l Z a0 hw b_247 b_249 cn_247 cn_249 (kc_247) (kc_249) A0 A1 A0 A1 h250 OK250 P247_1 P249_1 P247_2 P249_2 ne_cn_247_cn_249 rfl rfl) e255 P247_0 (by rw [hml]; rfl) (hb hby at_224) (argsL := [(.ref b_249)]) (rest := []) (lenOf pd8 rfl) rfl rfl (W := 0) (by first | exact Nat.le_refl _ | decide) (by decide) (by decide) (by decide) (by decide) ?_
            intro v256 T256 L256 X256 hQ256
            obtain ⟨rfl, N256q, e256⟩ := hQ256
            have N256 := Fr.app N255 N256q
            refine Go.ifNo X256 hx (hb hby at_227) (by decide) (q := 230) rfl ?_
            refine Go.iconst X256 hx (hb hby at_230) (r := (1 : Int32)) rfl (q := 231) rfl ?_
            refine Go.goto X256 hx (hb hby at_231) (q := 235) (by decide) (by decide) ?_
            refine Go.istore X256 hx (hb hby at_235) (l' := #[.val (.int pl), .val (.int pm), .val (.int px), .val (.int py), .val (.int pk), .val (.int (2 : Int32)), .val (.int (0 : Int32)), .val (.int A0), .val (.int A1), .val (.int A2), .val (.int C0), .val (.int C1), .val (.int C2), .val (.ref b_244), .val (.ref b_245), .val (.ref b_246), .val (.ref b_247), .val (.ref b_249), .val (.ref b_250), .val (.int (1 : Int32))]) rfl (q := 237) rfl ?_
            refine Go.iload X256 hx (hb hby at_237) rfl (q := 239) rfl ?_
            refine Go.ifNo X256 hx (hb hby at_239) (by decide) (q := 242) rfl ?_
            refine Go.aload X256 hx (hb hby at_242) rfl rfl (q := 244) rfl ?_
            refine Go.aload X256 hx (hb hby at_244) rfl rfl (q := 246) rfl ?_
            refine Go.virt X256 hx hZ hown (wd56 hw) (wd57 hw) (notFace_of_selects (args := #[]) (mvT hZ (wd59 hw))) (wd59 hw) (wd58 hw) (wd7 hw) (wd60 hw) (by decide) (chsd2_0 l Z a0 hw b_247 b_250 cn_247 cn_250 (kc_247) (kc_250) A0 A1 h250 OK250 P247_1 P250_1 P247_2 P250_2 ne_cn_247_cn_250) e256 P247_0 (by rw [hml]; rfl) (hb hby at_246) (argsL := [(.ref b_250)]) (rest := []) (lenOf pd8 rfl) rfl rfl (W := 0) (by first | exact Nat.le_refl _ | decide) (by decide) (by decide) (by decide) (by decide) ?_
            intro v257 T257 L257 X257 hQ257
            obtain ⟨rfl, N257q, e257⟩ := hQ257
            have N257 := Fr.app N256 N257q
            refine Go.aload X257 hx (hb hby at_249) rfl rfl (q := 251) rfl ?_
            refine Go.aload X257 hx (hb hby at_251) rfl rfl (q := 253) rfl ?_
            refine Go.callS X257 hx hZ hown (wd69 hw) (wd70 hw) (wd2 hw) (wd71 hw) (by decide) (csamd2_0 l Z a0 hw b_245 b_246 (kb_245) (kb_246) A0 A1 h250 OK250 P245_0 P246_0) e257 (by rw [hml]; rfl) (hb hby at_253) (argsL := [(.ref b_245), (.ref b_246)]) (rest := [(.int (0 : Int32))]) (lenOf pd2 rfl) rfl rfl (W := 1) (by first | exact Nat.le_refl _ | decide) (by decide) (by decide) (by decide) (by decide) ?_
            intro v258 T258 L258 X258 hQ258
            obtain ⟨rfl, N258q, e258⟩ := hQ258
            have N258 := Fr.app N257 N258q
            refine Go.icmpNo X258 hx (hb hby at_256) (by decide) (q := 259) rfl ?_
            refine Go.iconst X258 hx (hb hby at_259) (r := (1 : Int32)) rfl (q := 260) rfl ?_
            refine Go.goto X258 hx (hb hby at_260) (q := 264) (by decide) (by decide) ?_
            refine Go.istore X258 hx (hb hby at_264) (l' := #[.val (.int pl), .val (.int pm), .val (.int px), .val (.int py), .val (.int pk), .val (.int (2 : Int32)), .val (.int (0 : Int32)), .val (.int A0), .val (.int A1), .val (.int A2), .val (.int C0), .val (.int C1), .val (.int C2), .val (.ref b_244), .val (.ref b_245), .val (.ref b_246), .val (.ref b_247), .val (.ref b_249), .val (.ref b_250), .val (.int (1 : Int32))]) rfl (q := 266) rfl ?_
            refine Go.iload X258 hx (hb hby at_266) rfl (q := 268) rfl ?_
            exact Go.retI X258 hx hret hlk (by simp) rfl (hb hby at_268) e258 (by decide) (by decide) ⟨rfl, N258⟩
          by_cases hc259 : (pk &&& (4 : Int32)) = (0 : Int32)
          · refine Go.ifNo X0 hx (hb hby at_67) (Jvm.Free.XT.i0_ne_f hc259) (q := 70) rfl ?_
            refine Go.iload X0 hx (hb hby at_70) rfl (q := 72) rfl ?_
            refine Go.goto X0 hx (hb hby at_72) (q := 80) (by decide) (by decide) ?_
            exact J80 _ hA2
          · refine Go.ifYes X0 hx (hb hby at_67) (Jvm.Free.XT.i0_ne_t hc259) (q := 75) (by decide) (by decide) ?_
            refine Go.iloadN X0 hx (hb hby at_75) rfl (q := 76) rfl ?_
            refine Go.bipush X0 hx (hb hby at_76) (r := (16 : Int32)) rfl (q := 78) rfl ?_
            refine Go.iushr X0 hx (hb hby at_78) rfl (q := 79) rfl ?_
            refine Go.i2b X0 hx (hb hby at_79) rfl (q := 80) rfl ?_
            exact J80 _ (bb _)
        by_cases hc260 : (pk &&& (2 : Int32)) = (0 : Int32)
        · refine Go.ifNo X0 hx (hb hby at_48) (Jvm.Free.XT.i0_ne_f hc260) (q := 51) rfl ?_
          refine Go.iload X0 hx (hb hby at_51) rfl (q := 53) rfl ?_
          refine Go.goto X0 hx (hb hby at_53) (q := 61) (by decide) (by decide) ?_
          exact J61 _ hA1
        · refine Go.ifYes X0 hx (hb hby at_48) (Jvm.Free.XT.i0_ne_t hc260) (q := 56) (by decide) (by decide) ?_
          refine Go.iloadN X0 hx (hb hby at_56) rfl (q := 57) rfl ?_
          refine Go.bipush X0 hx (hb hby at_57) (r := (8 : Int32)) rfl (q := 59) rfl ?_
          refine Go.iushr X0 hx (hb hby at_59) rfl (q := 60) rfl ?_
          refine Go.i2b X0 hx (hb hby at_60) rfl (q := 61) rfl ?_
          exact J61 _ (bb _)
      by_cases hc261 : (pk &&& (1 : Int32)) = (0 : Int32)
      · refine Go.ifNo X0 hx (hb hby at_32) (Jvm.Free.XT.i0_ne_f hc261) (q := 35) rfl ?_
        refine Go.iload X0 hx (hb hby at_35) rfl (q := 37) rfl ?_
        refine Go.goto X0 hx (hb hby at_37) (q := 42) (by decide) (by decide) ?_
        exact J42 _ hA0
      · refine Go.ifYes X0 hx (hb hby at_32) (Jvm.Free.XT.i0_ne_t hc261) (q := 40) (by decide) (by decide) ?_
        refine Go.iloadN X0 hx (hb hby at_40) rfl (q := 41) rfl ?_
        refine Go.i2b X0 hx (hb hby at_41) rfl (q := 42) rfl ?_
        exact J42 _ (bb _)
    · show Go pp ee below _ (s₁.setTop (mkF mm 8 #[.val (.int pl), .val (.int pm), .val (.int px), .val (.int py), .val (.int pk), .val (.int (2 : Int32)), .unset, .unset, .unset, .unset, .unset, .unset, .unset, .unset, .unset, .unset, .unset, .unset, .unset, .unset] [(.int (1 : Int32))]))
      refine Go.istore X0 hx (hb hby at_8) (l' := #[.val (.int pl), .val (.int pm), .val (.int px), .val (.int py), .val (.int pk), .val (.int (2 : Int32)), .val (.int (1 : Int32)), .unset, .unset, .unset, .unset, .unset, .unset, .unset, .unset, .unset, .unset, .unset, .unset, .unset]) rfl (q := 10) rfl ?_
      refine Go.iloadN X0 hx (hb hby at_10) rfl (q := 11) rfl ?_
      refine Go.i2b X0 hx (hb hby at_11) rfl (q := 12) rfl ?_
      have hA0 := bb px
      generalize (px.toInt8.toInt32) = A0 at hA0 ⊢
      refine Go.istore X0 hx (hb hby at_12) (l' := #[.val (.int pl), .val (.int pm), .val (.int px), .val (.int py), .val (.int pk), .val (.int (2 : Int32)), .val (.int (1 : Int32)), .val (.int A0), .unset, .unset, .unset, .unset, .unset, .unset, .unset, .unset, .unset, .unset, .unset, .unset]) rfl (q := 14) rfl ?_
      refine Go.iloadN X0 hx (hb hby at_14) rfl (q := 15) rfl ?_
      refine Go.bipush X0 hx (hb hby at_15) (r := (8 : Int32)) rfl (q := 17) rfl ?_
      refine Go.iushr X0 hx (hb hby at_17) rfl (q := 18) rfl ?_
      refine Go.i2b X0 hx (hb hby at_18) rfl (q := 19) rfl ?_
      have hA1 := bb ((px.toUInt32 >>> ((8 : Int32) &&& 31).toUInt32).toInt32)
      generalize (((px.toUInt32 >>> ((8 : Int32) &&& 31).toUInt32).toInt32).toInt8.toInt32) = A1 at hA1 ⊢
      refine Go.istore X0 hx (hb hby at_19) (l' := #[.val (.int pl), .val (.int pm), .val (.int px), .val (.int py), .val (.int pk), .val (.int (2 : Int32)), .val (.int (1 : Int32)), .val (.int A0), .val (.int A1), .unset, .unset, .unset, .unset, .unset, .unset, .unset, .unset, .unset, .unset, .unset]) rfl (q := 21) rfl ?_
      refine Go.iloadN X0 hx (hb hby at_21) rfl (q := 22) rfl ?_
      refine Go.bipush X0 hx (hb hby at_22) (r := (16 : Int32)) rfl (q := 24) rfl ?_
      refine Go.iushr X0 hx (hb hby at_24) rfl (q := 25) rfl ?_
      refine Go.i2b X0 hx (hb hby at_25) rfl (q := 26) rfl ?_
      have hA2 := bb ((px.toUInt32 >>> ((16 : Int32) &&& 31).toUInt32).toInt32)
      generalize (((px.toUInt32 >>> ((16 : Int32) &&& 31).toUInt32).toInt32).toInt8.toInt32) = A2 at hA2 ⊢
      refine Go.istore X0 hx (hb hby at_26) (l' := #[.val (.int pl), .val (.int pm), .val (.int px), .val (.int py), .val (.int pk), .val (.int (2 : Int32)), .val (.int (1 : Int32)), .val (.int A0), .val (.int A1), .val (.int A2), .unset, .unset, .unset, .unset, .unset, .unset, .unset, .unset, .unset, .unset]) rfl (q := 28) rfl ?_
      refine Go.iload X0 hx (hb hby at_28) rfl (q := 30) rfl ?_
      refine Go.iconst X0 hx (hb hby at_30) (r := (1 : Int32)) rfl (q := 31) rfl ?_
      refine Go.iand X0 hx (hb hby at_31) rfl (q := 32) rfl ?_
      have J42 : ∀ (C0 : Int32), (C0.toInt8.toInt32) = C0 → Go pp ee below (KK ss (Q_law0 Z pl pm px py pk h0) room_1.cells room_1.slots) (s₁.setTop (mkF mm 42 #[.val (.int pl), .val (.int pm), .val (.int px), .val (.int py), .val (.int pk), .val (.int (2 : Int32)), .val (.int (1 : Int32)), .val (.int A0), .val (.int A1), .val (.int A2), .unset, .unset, .unset, .unset, .unset, .unset, .unset, .unset, .unset, .unset] [(.int C0)])) := by
        intro C0 hC0
        refine Go.istore X0 hx (hb hby at_42) (l' := #[.val (.int pl), .val (.int pm), .val (.int px), .val (.int py), .val (.int pk), .val (.int (2 : Int32)), .val (.int (1 : Int32)), .val (.int A0), .val (.int A1), .val (.int A2), .val (.int C0), .unset, .unset, .unset, .unset, .unset, .unset, .unset, .unset, .unset]) rfl (q := 44) rfl ?_
        refine Go.iload X0 hx (hb hby at_44) rfl (q := 46) rfl ?_
        refine Go.iconst X0 hx (hb hby at_46) (r := (2 : Int32)) rfl (q := 47) rfl ?_
        refine Go.iand X0 hx (hb hby at_47) rfl (q := 48) rfl ?_
        have J61 : ∀ (C1 : Int32), (C1.toInt8.toInt32) = C1 → Go pp ee below (KK ss (Q_law0 Z pl pm px py pk h0) room_1.cells room_1.slots) (s₁.setTop (mkF mm 61 #[.val (.int pl), .val (.int pm), .val (.int px), .val (.int py), .val (.int pk), .val (.int (2 : Int32)), .val (.int (1 : Int32)), .val (.int A0), .val (.int A1), .val (.int A2), .val (.int C0), .unset, .unset, .unset, .unset, .unset, .unset, .unset, .unset, .unset] [(.int C1)])) := by
          intro C1 hC1
          refine Go.istore X0 hx (hb hby at_61) (l' := #[.val (.int pl), .val (.int pm), .val (.int px), .val (.int py), .val (.int pk), .val (.int (2 : Int32)), .val (.int (1 : Int32)), .val (.int A0), .val (.int A1), .val (.int A2), .val (.int C0), .val (.int C1), .unset, .unset, .unset, .unset, .unset, .unset, .unset, .unset]) rfl (q := 63) rfl ?_
          refine Go.iload X0 hx (hb hby at_63) rfl (q := 65) rfl ?_
          refine Go.iconst X0 hx (hb hby at_65) (r := (4 : Int32)) rfl (q := 66) rfl ?_
          refine Go.iand X0 hx (hb hby at_66) rfl (q := 67) rfl ?_
          have J80 : ∀ (C2 : Int32), (C2.toInt8.toInt32) = C2 → Go pp ee below (KK ss (Q_law0 Z pl pm px py pk h0) room_1.cells room_1.slots) (s₁.setTop (mkF mm 80 #[.val (.int pl), .val (.int pm), .val (.int px), .val (.int py), .val (.int pk), .val (.int (2 : Int32)), .val (.int (1 : Int32)), .val (.int A0), .val (.int A1), .val (.int A2), .val (.int C0), .val (.int C1), .unset, .unset, .unset, .unset, .unset, .unset, .unset, .unset] [(.int C2)])) := by
            intro C2 hC2
            refine Go.istore X0 hx (hb hby at_80) (l' := #[.val (.int pl), .val (.int pm), .val (.int px), .val (.int py), .val (.int pk), .val (.int (2 : Int32)), .val (.int (1 : Int32)), .val (.int A0), .val (.int A1), .val (.int A2), .val (.int C0), .val (.int C1), .val (.int C2), .unset, .unset, .unset, .unset, .unset, .unset, .unset]) rfl (q := 82) rfl ?_
            refine Go.iload X0 hx (hb hby at_82) rfl (q := 84) rfl ?_
            refine Go.iload X0 hx (hb hby at_84) rfl (q := 86) rfl ?_
            refine Go.iload X0 hx (hb hby at_86) rfl (q := 88) rfl ?_
            refine Go.iload X0 hx (hb hby at_88) rfl (q := 90) rfl ?_
            refine Go.callS X0 hx hZ hown (wd0 hw) (wd1 hw) (wd2 hw) (wd3 hw) (by decide) (make2 l Z a0 hw A0 A1 A2 h0 O0 hA0 hA1 hA2) e0 (by rw [hml]; rfl) (hb hby at_90) (argsL := [(.int (2 : Int32)), (.int A0), (.int A1), (.int A2)]) (rest := []) (lenOf pd3 rfl) rfl rfl (W := 0) (by first | exact Nat.le_refl _ | decide) (by decide) (by decide) (by decide) (by decide) ?_
            intro v262 T262 L262 X262 hQ262
            obtain ⟨h262, e262⟩ : ∃ z, T262.heap = z := ⟨_, rfl⟩
            rw [e262] at hQ262
            obtain ⟨b_262, kb_262, rfl, N262q, K262, fr262_b, P262_0, P262_1⟩ := hQ262
            have N262 := Fr.app N0 N262q
            have g_b_262 : Z.heap.size ≤ b_262 := Nat.le_trans O0.1 fr262_b
            have OK262 := ext_keep O0 K262 all0
            refine Go.astore X262 hx (hb hby at_93) rfl (l' := #[.val (.int pl), .val (.int pm), .val (.int px), .val (.int py), .val (.int pk), .val (.int (2 : Int32)), .val (.int (1 : Int32)), .val (.int A0), .val (.int A1), .val (.int A2), .val (.int C0), .val (.int C1), .val (.int C2), .val (.ref b_262), .unset, .unset, .unset, .unset, .unset, .unset]) rfl (q := 95) rfl ?_
            refine Go.iload X262 hx (hb hby at_95) rfl (q := 97) rfl ?_
            refine Go.iload X262 hx (hb hby at_97) rfl (q := 99) rfl ?_
            refine Go.iload X262 hx (hb hby at_99) rfl (q := 101) rfl ?_
            refine Go.iload X262 hx (hb hby at_101) rfl (q := 103) rfl ?_
            refine Go.callS X262 hx hZ hown (wd0 hw) (wd1 hw) (wd2 hw) (wd3 hw) (by decide) (make2 l Z a0 hw A0 A1 A2 h262 OK262 hA0 hA1 hA2) e262 (by rw [hml]; rfl) (hb hby at_103) (argsL := [(.int (2 : Int32)), (.int A0), (.int A1), (.int A2)]) (rest := []) (lenOf pd3 rfl) rfl rfl (W := 0) (by first | exact Nat.le_refl _ | decide) (by decide) (by decide) (by decide) (by decide) ?_
            intro v263 T263 L263 X263 hQ263
            obtain ⟨h263, e263⟩ : ∃ z, T263.heap = z := ⟨_, rfl⟩
            rw [e263] at hQ263
            obtain ⟨b_263, kb_263, rfl, N263q, K263, fr263_b, P263_0, P263_1⟩ := hQ263
            have N263 := Fr.app N262 N263q
            have ne_b_262_b_263 : b_262 ≠ b_263 := ne_new P262_0.lt fr263_b
            have g_b_263 : Z.heap.size ≤ b_263 := Nat.le_trans OK262.1 fr263_b
            replace P262_0 := P262_0.keep K263 nin0
            replace P262_1 := P262_1.keep K263
            have OK263 := ext_keep OK262 K263 all0
            refine Go.astore X263 hx (hb hby at_106) rfl (l' := #[.val (.int pl), .val (.int pm), .val (.int px), .val (.int py), .val (.int pk), .val (.int (2 : Int32)), .val (.int (1 : Int32)), .val (.int A0), .val (.int A1), .val (.int A2), .val (.int C0), .val (.int C1), .val (.int C2), .val (.ref b_262), .val (.ref b_263), .unset, .unset, .unset, .unset, .unset]) rfl (q := 108) rfl ?_
            refine Go.iload X263 hx (hb hby at_108) rfl (q := 110) rfl ?_
            refine Go.iload X263 hx (hb hby at_110) rfl (q := 112) rfl ?_
            refine Go.iload X263 hx (hb hby at_112) rfl (q := 114) rfl ?_
            refine Go.iload X263 hx (hb hby at_114) rfl (q := 116) rfl ?_
            refine Go.callS X263 hx hZ hown (wd0 hw) (wd1 hw) (wd2 hw) (wd3 hw) (by decide) (make1 l Z a0 hw C0 C1 C2 h263 OK263 hC0 hC1 hC2) e263 (by rw [hml]; rfl) (hb hby at_116) (argsL := [(.int (1 : Int32)), (.int C0), (.int C1), (.int C2)]) (rest := []) (lenOf pd3 rfl) rfl rfl (W := 0) (by first | exact Nat.le_refl _ | decide) (by decide) (by decide) (by decide) (by decide) ?_
            intro v264 T264 L264 X264 hQ264
            obtain ⟨h264, e264⟩ : ∃ z, T264.heap = z := ⟨_, rfl⟩
            rw [e264] at hQ264
            obtain ⟨b_264, kb_264, rfl, N264q, K264, fr264_b, P264_0, P264_1⟩ := hQ264
            have N264 := Fr.app N263 N264q
            have ne_b_262_b_264 : b_262 ≠ b_264 := ne_new P262_0.lt fr264_b
            have ne_b_263_b_264 : b_263 ≠ b_264 := ne_new P263_0.lt fr264_b
            have g_b_264 : Z.heap.size ≤ b_264 := Nat.le_trans OK263.1 fr264_b
            replace P262_0 := P262_0.keep K264 nin0
            replace P262_1 := P262_1.keep K264
            replace P263_0 := P263_0.keep K264 nin0
            replace P263_1 := P263_1.keep K264
            have OK264 := ext_keep OK263 K264 all0
            refine Go.astore X264 hx (hb hby at_119) rfl (l' := #[.val (.int pl), .val (.int pm), .val (.int px), .val (.int py), .val (.int pk), .val (.int (2 : Int32)), .val (.int (1 : Int32)), .val (.int A0), .val (.int A1), .val (.int A2), .val (.int C0), .val (.int C1), .val (.int C2), .val (.ref b_262), .val (.ref b_263), .val (.ref b_264), .unset, .unset, .unset, .unset]) rfl (q := 121) rfl ?_
            refine Go.aload X264 hx (hb hby at_121) rfl rfl (q := 123) rfl ?_
            refine Go.callS X264 hx hZ hown (wd5 hw) (wd6 hw) (wd7 hw) (wd8 hw) (by decide) (of2 l Z a0 hw b_262 (kb_262) A0 A1 h264 OK264 P262_0 P262_1) e264 (by rw [hml]; rfl) (hb hby at_123) (argsL := [(.ref b_262)]) (rest := []) (lenOf pd4 rfl) rfl rfl (W := 0) (by first | exact Nat.le_refl _ | decide) (by decide) (by decide) (by decide) (by decide) ?_
            intro v265 T265 L265 X265 hQ265
            obtain ⟨h265, e265⟩ : ∃ z, T265.heap = z := ⟨_, rfl⟩
            rw [e265] at hQ265
            obtain ⟨b_265, cn_265, kc_265, rfl, N265q, K265, fr265_b, fr265_cn, P265_0, P265_1, P265_2, P265_3, P265_4, P265_5⟩ := hQ265
            have N265 := Fr.app N264 N265q
            have ne_b_262_b_265 : b_262 ≠ b_265 := ne_new P262_0.lt fr265_b
            have ne_b_263_b_265 : b_263 ≠ b_265 := ne_new P263_0.lt fr265_b
            have ne_b_264_b_265 : b_264 ≠ b_265 := ne_new P264_0.lt fr265_b
            have g_b_265 : Z.heap.size ≤ b_265 := Nat.le_trans OK264.1 fr265_b
            have ne_b_262_cn_265 : b_262 ≠ cn_265 := ne_new P262_0.lt fr265_cn
            have ne_b_263_cn_265 : b_263 ≠ cn_265 := ne_new P263_0.lt fr265_cn
            have ne_b_264_cn_265 : b_264 ≠ cn_265 := ne_new P264_0.lt fr265_cn
            have g_cn_265 : Z.heap.size ≤ cn_265 := Nat.le_trans OK264.1 fr265_cn
            replace P262_0 := P262_0.keep K265 nin0
            replace P262_1 := P262_1.keep K265
            replace P263_0 := P263_0.keep K265 nin0
            replace P263_1 := P263_1.keep K265
            replace P264_0 := P264_0.keep K265 nin0
            replace P264_1 := P264_1.keep K265
            have OK265 := ext_keep OK264 K265 all0
            refine Go.astore X265 hx (hb hby at_126) rfl (l' := #[.val (.int pl), .val (.int pm), .val (.int px), .val (.int py), .val (.int pk), .val (.int (2 : Int32)), .val (.int (1 : Int32)), .val (.int A0), .val (.int A1), .val (.int A2), .val (.int C0), .val (.int C1), .val (.int C2), .val (.ref b_262), .val (.ref b_263), .val (.ref b_264), .val (.ref b_265), .unset, .unset, .unset]) rfl (q := 128) rfl ?_
            refine Go.iload X265 hx (hb hby at_128) rfl (q := 130) rfl ?_
            refine Go.ifNo X265 hx (hb hby at_130) (by decide) (q := 133) rfl ?_
            refine Go.aload X265 hx (hb hby at_133) rfl rfl (q := 135) rfl ?_
            refine Go.iload X265 hx (hb hby at_135) rfl (q := 137) rfl ?_
            refine Go.iconst X265 hx (hb hby at_137) (r := (1 : Int32)) rfl (q := 138) rfl ?_
            refine Go.isub X265 hx (hb hby at_138) (r := (1 : Int32)) rfl (q := 139) rfl ?_
            refine Go.aload X265 hx (hb hby at_139) rfl rfl (q := 141) rfl ?_
            refine Go.iload X265 hx (hb hby at_141) rfl (q := 143) rfl ?_
            refine Go.iconst X265 hx (hb hby at_143) (r := (1 : Int32)) rfl (q := 144) rfl ?_
            refine Go.isub X265 hx (hb hby at_144) (r := (1 : Int32)) rfl (q := 145) rfl ?_
            refine Go.bal X265 hx hZ e265 P262_0 ⟨by decide, by decide⟩ (v := (.int A1)) rfl (hb hby at_145) ?_
            refine Go.iconst X265 hx (hb hby at_146) (r := (-1 : Int32)) rfl (q := 147) rfl ?_
            refine Go.ixor X265 hx (hb hby at_147) rfl (q := 148) rfl ?_
            refine Go.i2b X265 hx (hb hby at_148) rfl (q := 149) rfl ?_
            refine Go.bst X265 hx hZ e265 P262_0 ⟨by decide, by decide⟩ (i := 1) rfl (Nat.le_of_ble_eq_true rfl) (hb hby at_149) ?_
            intro T266 h266 X266 e266 W266 V266
            rw [bb (A1 ^^^ (-1 : Int32))] at V266
            replace V266 : Arv Z h266 b_262 kb_262 .byte (2 : Int32) [(.int A0), (.int ((A1 ^^^ (-1 : Int32)).toInt8.toInt32))] (.int (0 : Int32)) := V266
            have N266 := Fr.snoc X266 N265 g_b_262
            replace P262_1 := P262_1.wr W266
            replace P263_0 := P263_0.other W266 (Ne.symm ne_b_262_b_263)
            replace P263_1 := P263_1.wr W266
            replace P264_0 := P264_0.other W266 (Ne.symm ne_b_262_b_264)
            replace P264_1 := P264_1.wr W266
            replace P265_0 := P265_0.wr W266
            replace P265_1 := P265_1.other W266 (Or.inl (Ne.symm ne_b_262_b_265))
            replace P265_2 := P265_2.other W266 (Ne.symm ne_b_262_cn_265)
            replace P265_3 := P265_3.other W266 (Or.inl (Ne.symm ne_b_262_b_265))
            replace P265_4 := P265_4.other W266 (Or.inl (Ne.symm ne_b_262_b_265))
            replace P265_5 := P265_5.other W266 (Or.inl (Ne.symm ne_b_262_b_265))
            have OW266 := ext_wr OK265 W266 g_b_262
            refine Go.aload X266 hx (hb hby at_150) rfl rfl (q := 152) rfl ?_
            refine Go.callS X266 hx hZ hown (wd5 hw) (wd6 hw) (wd7 hw) (wd8 hw) (by decide) (of2 l Z a0 hw b_263 (kb_263) A0 A1 h266 OW266 P263_0 P263_1) e266 (by rw [hml]; rfl) (hb hby at_152) (argsL := [(.ref b_263)]) (rest := []) (lenOf pd4 rfl) rfl rfl (W := 0) (by first | exact Nat.le_refl _ | decide) (by decide) (by decide) (by decide) (by decide) ?_
            intro v267 T267 L267 X267 hQ267
            obtain ⟨h267, e267⟩ : ∃ z, T267.heap = z := ⟨_, rfl⟩
            rw [e267] at hQ267
            obtain ⟨b_267, cn_267, kc_267, rfl, N267q, K267, fr267_b, fr267_cn, P267_0, P267_1, P267_2, P267_3, P267_4, P267_5⟩ := hQ267
            have N267 := Fr.app N266 N267q
            have ne_b_262_b_267 : b_262 ≠ b_267 := ne_new P262_1.lt fr267_b
            have ne_b_263_b_267 : b_263 ≠ b_267 := ne_new P263_0.lt fr267_b
            have ne_b_264_b_267 : b_264 ≠ b_267 := ne_new P264_0.lt fr267_b
            have ne_b_265_b_267 : b_265 ≠ b_267 := ne_new P265_0.lt fr267_b
            have ne_cn_265_b_267 : cn_265 ≠ b_267 := ne_new P265_2.lt fr267_b
            have g_b_267 : Z.heap.size ≤ b_267 := Nat.le_trans OW266.1 fr267_b
            have ne_b_262_cn_267 : b_262 ≠ cn_267 := ne_new P262_1.lt fr267_cn
            have ne_b_263_cn_267 : b_263 ≠ cn_267 := ne_new P263_0.lt fr267_cn
            have ne_b_264_cn_267 : b_264 ≠ cn_267 := ne_new P264_0.lt fr267_cn
            have ne_b_265_cn_267 : b_265 ≠ cn_267 := ne_new P265_0.lt fr267_cn
            have ne_cn_265_cn_267 : cn_265 ≠ cn_267 := ne_new P265_2.lt fr267_cn
            have g_cn_267 : Z.heap.size ≤ cn_267 := Nat.le_trans OW266.1 fr267_cn
            replace P262_1 := P262_1.keep K267
            replace P263_0 := P263_0.keep K267 nin0
            replace P263_1 := P263_1.keep K267
            replace P264_0 := P264_0.keep K267 nin0
            replace P264_1 := P264_1.keep K267
            replace P265_0 := P265_0.keep K267
            replace P265_1 := P265_1.keep K267 nin0
            replace P265_2 := P265_2.keep K267 nin0
            replace P265_3 := P265_3.keep K267 nin0
            replace P265_4 := P265_4.keep K267 nin0
            replace P265_5 := P265_5.keep K267 nin0
            replace V266 := V266.keep K267 nin0
            have OK267 := ext_keep OW266 K267 all0
            refine Go.astore X267 hx (hb hby at_155) rfl (l' := #[.val (.int pl), .val (.int pm), .val (.int px), .val (.int py), .val (.int pk), .val (.int (2 : Int32)), .val (.int (1 : Int32)), .val (.int A0), .val (.int A1), .val (.int A2), .val (.int C0), .val (.int C1), .val (.int C2), .val (.ref b_262), .val (.ref b_263), .val (.ref b_264), .val (.ref b_265), .val (.ref b_267), .unset, .unset]) rfl (q := 157) rfl ?_
            refine Go.aload X267 hx (hb hby at_157) rfl rfl (q := 159) rfl ?_
            refine Go.callS X267 hx hZ hown (wd5 hw) (wd6 hw) (wd7 hw) (wd8 hw) (by decide) (of1 l Z a0 hw b_264 (kb_264) C0 h267 OK267 P264_0 P264_1) e267 (by rw [hml]; rfl) (hb hby at_159) (argsL := [(.ref b_264)]) (rest := []) (lenOf pd4 rfl) rfl rfl (W := 0) (by first | exact Nat.le_refl _ | decide) (by decide) (by decide) (by decide) (by decide) ?_
            intro v268 T268 L268 X268 hQ268
            obtain ⟨h268, e268⟩ : ∃ z, T268.heap = z := ⟨_, rfl⟩
            rw [e268] at hQ268
            obtain ⟨b_268, cn_268, kc_268, rfl, N268q, K268, fr268_b, fr268_cn, P268_0, P268_1, P268_2, P268_3, P268_4, P268_5⟩ := hQ268
            have N268 := Fr.app N267 N268q
            have ne_b_262_b_268 : b_262 ≠ b_268 := ne_new P262_1.lt fr268_b
            have ne_b_263_b_268 : b_263 ≠ b_268 := ne_new P263_0.lt fr268_b
            have ne_b_264_b_268 : b_264 ≠ b_268 := ne_new P264_0.lt fr268_b
            have ne_b_265_b_268 : b_265 ≠ b_268 := ne_new P265_0.lt fr268_b
            have ne_cn_265_b_268 : cn_265 ≠ b_268 := ne_new P265_2.lt fr268_b
            have ne_b_267_b_268 : b_267 ≠ b_268 := ne_new P267_0.lt fr268_b
            have ne_cn_267_b_268 : cn_267 ≠ b_268 := ne_new P267_2.lt fr268_b
            have g_b_268 : Z.heap.size ≤ b_268 := Nat.le_trans OK267.1 fr268_b
            have ne_b_262_cn_268 : b_262 ≠ cn_268 := ne_new P262_1.lt fr268_cn
            have ne_b_263_cn_268 : b_263 ≠ cn_268 := ne_new P263_0.lt fr268_cn
            have ne_b_264_cn_268 : b_264 ≠ cn_268 := ne_new P264_0.lt fr268_cn
            have ne_b_265_cn_268 : b_265 ≠ cn_268 := ne_new P265_0.lt fr268_cn
            have ne_cn_265_cn_268 : cn_265 ≠ cn_268 := ne_new P265_2.lt fr268_cn
            have ne_b_267_cn_268 : b_267 ≠ cn_268 := ne_new P267_0.lt fr268_cn
            have ne_cn_267_cn_268 : cn_267 ≠ cn_268 := ne_new P267_2.lt fr268_cn
            have g_cn_268 : Z.heap.size ≤ cn_268 := Nat.le_trans OK267.1 fr268_cn
            replace P262_1 := P262_1.keep K268
            replace P263_0 := P263_0.keep K268 nin0
            replace P263_1 := P263_1.keep K268
            replace P264_0 := P264_0.keep K268 nin0
            replace P264_1 := P264_1.keep K268
            replace P265_0 := P265_0.keep K268
            replace P265_1 := P265_1.keep K268 nin0
            replace P265_2 := P265_2.keep K268 nin0
            replace P265_3 := P265_3.keep K268 nin0
            replace P265_4 := P265_4.keep K268 nin0
            replace P265_5 := P265_5.keep K268 nin0
            replace V266 := V266.keep K268 nin0
            replace P267_0 := P267_0.keep K268
            replace P267_1 := P267_1.keep K268 nin0
            replace P267_2 := P267_2.keep K268 nin0
            replace P267_3 := P267_3.keep K268 nin0
            replace P267_4 := P267_4.keep K268 nin0
            replace P267_5 := P267_5.keep K268 nin0
            have OK268 := ext_keep OK267 K268 all0
            refine Go.astore X268 hx (hb hby at_162) rfl (l' := #[.val (.int pl), .val (.int pm), .val (.int px), .val (.int py), .val (.int pk), .val (.int (2 : Int32)), .val (.int (1 : Int32)), .val (.int A0), .val (.int A1), .val (.int A2), .val (.int C0), .val (.int C1), .val (.int C2), .val (.ref b_262), .val (.ref b_263), .val (.ref b_264), .val (.ref b_265), .val (.ref b_267), .val (.ref b_268), .unset]) rfl (q := 164) rfl ?_
            refine Go.aload X268 hx (hb hby at_164) rfl rfl (q := 166) rfl ?_
            refine Go.virt X268 hx hZ hown (wd36 hw) (wd37 hw) (notFace_of_selects (args := #[]) (mvT hZ (wd39 hw))) (wd39 hw) (wd38 hw) (wd7 hw) (wd40 hw) (by decide) (clen l Z a0 hw b_265 cn_265 (kc_265) ((2 : Int32)) ([(.int A0), (.int A1)]) h268 OK268 P265_1 P265_2) e268 P265_0 (by rw [hml]; rfl) (hb hby at_166) (argsL := []) (rest := []) (lenOf pd5 rfl) rfl rfl (W := 0) (by first | exact Nat.le_refl _ | decide) (by decide) (by decide) (by decide) (by decide) ?_
            intro v269 T269 L269 X269 hQ269
            obtain ⟨rfl, N269q, e269⟩ := hQ269
            have N269 := Fr.app N268 N269q
            refine Go.iload X269 hx (hb hby at_169) rfl (q := 171) rfl ?_
            refine Go.icmpNo X269 hx (hb hby at_171) (by decide) (q := 174) rfl ?_
            refine Go.aload X269 hx (hb hby at_174) rfl rfl (q := 176) rfl ?_
            refine Go.virt X269 hx hZ hown (wd36 hw) (wd37 hw) (notFace_of_selects (args := #[]) (mvT hZ (wd39 hw))) (wd39 hw) (wd38 hw) (wd7 hw) (wd40 hw) (by decide) (clen l Z a0 hw b_268 cn_268 (kc_268) ((1 : Int32)) ([(.int C0)]) h268 OK268 P268_1 P268_2) e269 P268_0 (by rw [hml]; rfl) (hb hby at_176) (argsL := []) (rest := []) (lenOf pd5 rfl) rfl rfl (W := 0) (by first | exact Nat.le_refl _ | decide) (by decide) (by decide) (by decide) (by decide) ?_
            intro v270 T270 L270 X270 hQ270
            obtain ⟨rfl, N270q, e270⟩ := hQ270
            have N270 := Fr.app N269 N270q
            refine Go.iload X270 hx (hb hby at_179) rfl (q := 181) rfl ?_
            refine Go.icmpNo X270 hx (hb hby at_181) (by decide) (q := 184) rfl ?_
            refine Go.aload X270 hx (hb hby at_184) rfl rfl (q := 186) rfl ?_
            refine Go.virt X270 hx hZ hown (wd41 hw) (wd42 hw) (notFace_of_selects (args := #[]) (mvT hZ (wd44 hw))) (wd44 hw) (wd43 hw) (wd7 hw) (wd45 hw) (by decide) (clast l Z a0 hw b_265 h268 OK268 P265_3) e270 P265_0 (by rw [hml]; rfl) (hb hby at_186) (argsL := []) (rest := []) (lenOf pd6 rfl) rfl rfl (W := 0) (by first | exact Nat.le_refl _ | decide) (by decide) (by decide) (by decide) (by decide) ?_
            intro v271 T271 L271 X271 hQ271
            obtain ⟨rfl, N271q, e271⟩ := hQ271
            have N271 := Fr.app N270 N271q
            refine Go.ifnonnullNo X271 hx (hb hby at_189) (q := 192) rfl ?_
            refine Go.aload X271 hx (hb hby at_192) rfl rfl (q := 194) rfl ?_
            refine Go.virt X271 hx hZ hown (wd46 hw) (wd47 hw) (notFace_of_selects (args := #[]) (mvT hZ (wd49 hw))) (wd49 hw) (wd48 hw) (wd7 hw) (wd50 hw) (by decide) (cshar l Z a0 hw b_265 h268 OK268 P265_4) e271 P265_0 (by rw [hml]; rfl) (hb hby at_194) (argsL := []) (rest := []) (lenOf pd7 rfl) rfl rfl (W := 0) (by first | exact Nat.le_refl _ | decide) (by decide) (by decide) (by decide) (by decide) ?_
            intro v272 T272 L272 X272 hQ272
            obtain ⟨rfl, N272q, e272⟩ := hQ272
            have N272 := Fr.app N271 N272q
            refine Go.ifNo X272 hx (hb hby at_197) (by decide) (q := 200) rfl ?_
            refine Go.aload X272 hx (hb hby at_200) rfl rfl (q := 202) rfl ?_
            refine Go.virt X272 hx hZ hown (wd51 hw) (wd52 hw) (notFace_of_selects (args := #[]) (mvT hZ (wd54 hw))) (wd54 hw) (wd53 hw) (wd7 hw) (wd55 hw) (by decide) (cremo l Z a0 hw b_265 h268 OK268 P265_5) e272 P265_0 (by rw [hml]; rfl) (hb hby at_202) (argsL := []) (rest := []) (lenOf pd7 rfl) rfl rfl (W := 0) (by first | exact Nat.le_refl _ | decide) (by decide) (by decide) (by decide) (by decide) ?_
            intro v273 T273 L273 X273 hQ273
            obtain ⟨rfl, N273q, e273⟩ := hQ273
            have N273 := Fr.app N272 N273q
            refine Go.ifNo X273 hx (hb hby at_205) (by decide) (q := 208) rfl ?_
            refine Go.iconst X273 hx (hb hby at_208) (r := (1 : Int32)) rfl (q := 209) rfl ?_
            refine Go.goto X273 hx (hb hby at_209) (q := 213) (by decide) (by decide) ?_
            refine Go.istore X273 hx (hb hby at_213) (l' := #[.val (.int pl), .val (.int pm), .val (.int px), .val (.int py), .val (.int pk), .val (.int (2 : Int32)), .val (.int (1 : Int32)), .val (.int A0), .val (.int A1), .val (.int A2), .val (.int C0), .val (.int C1), .val (.int C2), .val (.ref b_262), .val (.ref b_263), .val (.ref b_264), .val (.ref b_265), .val (.ref b_267), .val (.ref b_268), .val (.int (1 : Int32))]) rfl (q := 215) rfl ?_
            refine Go.iload X273 hx (hb hby at_215) rfl (q := 217) rfl ?_
            refine Go.ifNo X273 hx (hb hby at_217) (by decide) (q := 220) rfl ?_
            refine Go.aload X273 hx (hb hby at_220) rfl rfl (q := 222) rfl ?_
            refine Go.aload X273 hx (hb hby at_222) rfl rfl (q := 224) rfl ?_
            refine Go.virt X273 hx hZ hown (wd56 hw) (wd57 hw) (notFace_of_selects (args := #[]) (mvT hZ (wd59 hw))) (wd59 hw) (wd58 hw) (wd7 hw) (wd60 hw) (by decide) (chs2_2 l Z a0 hw b_265 b_267 cn_265 cn_267 (kc_265) (kc_267) A0 A1 A0 A1 h268 OK268 P265_1 P267_1 P265_2 P267_2 ne_cn_265_cn_267 rfl rfl) e273 P265_0 (by rw [hml]; rfl) (hb hby at_224) (argsL := [(.ref b_267)]) (rest := []) (lenOf pd8 rfl) rfl rfl (W := 0) (by first | exact Nat.le_refl _ | decide) (by decide) (by decide) (by decide) (by decide) ?_
            intro v274 T274 L274 X274 hQ274
            obtain ⟨rfl, N274q, e274⟩ := hQ274
            have N274 := Fr.app N273 N274q
            refine Go.ifNo X274 hx (hb hby at_227) (by decide) (q := 230) rfl ?_
            refine Go.iconst X274 hx (hb hby at_230) (r := (1 : Int32)) rfl (q := 231) rfl ?_
            refine Go.goto X274 hx (hb hby at_231) (q := 235) (by decide) (by decide) ?_
            refine Go.istore X274 hx (hb hby at_235) (l' := #[.val (.int pl), .val (.int pm), .val (.int px), .val (.int py), .val (.int pk), .val (.int (2 : Int32)), .val (.int (1 : Int32)), .val (.int A0), .val (.int A1), .val (.int A2), .val (.int C0), .val (.int C1), .val (.int C2), .val (.ref b_262), .val (.ref b_263), .val (.ref b_264), .val (.ref b_265), .val (.ref b_267), .val (.ref b_268), .val (.int (1 : Int32))]) rfl (q := 237) rfl ?_
            refine Go.iload X274 hx (hb hby at_237) rfl (q := 239) rfl ?_
            refine Go.ifNo X274 hx (hb hby at_239) (by decide) (q := 242) rfl ?_
            refine Go.aload X274 hx (hb hby at_242) rfl rfl (q := 244) rfl ?_
            refine Go.aload X274 hx (hb hby at_244) rfl rfl (q := 246) rfl ?_
            refine Go.virt X274 hx hZ hown (wd56 hw) (wd57 hw) (notFace_of_selects (args := #[]) (mvT hZ (wd59 hw))) (wd59 hw) (wd58 hw) (wd7 hw) (wd60 hw) (by decide) (chsd2_1 l Z a0 hw b_265 b_268 cn_265 cn_268 (kc_265) (kc_268) A0 A1 C0 h268 OK268 P265_1 P268_1 P265_2 P268_2 ne_cn_265_cn_268) e274 P265_0 (by rw [hml]; rfl) (hb hby at_246) (argsL := [(.ref b_268)]) (rest := []) (lenOf pd8 rfl) rfl rfl (W := 0) (by first | exact Nat.le_refl _ | decide) (by decide) (by decide) (by decide) (by decide) ?_
            intro v275 T275 L275 X275 hQ275
            obtain ⟨rfl, N275q, e275⟩ := hQ275
            have N275 := Fr.app N274 N275q
            refine Go.aload X275 hx (hb hby at_249) rfl rfl (q := 251) rfl ?_
            refine Go.aload X275 hx (hb hby at_251) rfl rfl (q := 253) rfl ?_
            refine Go.callS X275 hx hZ hown (wd69 hw) (wd70 hw) (wd2 hw) (wd71 hw) (by decide) (csamd2_1 l Z a0 hw b_263 b_264 (kb_263) (kb_264) A0 A1 C0 h268 OK268 P263_0 P264_0) e275 (by rw [hml]; rfl) (hb hby at_253) (argsL := [(.ref b_263), (.ref b_264)]) (rest := [(.int (0 : Int32))]) (lenOf pd2 rfl) rfl rfl (W := 1) (by first | exact Nat.le_refl _ | decide) (by decide) (by decide) (by decide) (by decide) ?_
            intro v276 T276 L276 X276 hQ276
            obtain ⟨rfl, N276q, e276⟩ := hQ276
            have N276 := Fr.app N275 N276q
            refine Go.icmpNo X276 hx (hb hby at_256) (by decide) (q := 259) rfl ?_
            refine Go.iconst X276 hx (hb hby at_259) (r := (1 : Int32)) rfl (q := 260) rfl ?_
            refine Go.goto X276 hx (hb hby at_260) (q := 264) (by decide) (by decide) ?_
            refine Go.istore X276 hx (hb hby at_264) (l' := #[.val (.int pl), .val (.int pm), .val (.int px), .val (.int py), .val (.int pk), .val (.int (2 : Int32)), .val (.int (1 : Int32)), .val (.int A0), .val (.int A1), .val (.int A2), .val (.int C0), .val (.int C1), .val (.int C2), .val (.ref b_262), .val (.ref b_263), .val (.ref b_264), .val (.ref b_265), .val (.ref b_267), .val (.ref b_268), .val (.int (1 : Int32))]) rfl (q := 266) rfl ?_
            refine Go.iload X276 hx (hb hby at_266) rfl (q := 268) rfl ?_
            exact Go.retI X276 hx hret hlk (by simp) rfl (hb hby at_268) e276 (by decide) (by decide) ⟨rfl, N276⟩
          by_cases hc277 : (pk &&& (4 : Int32)) = (0 : Int32)
          · refine Go.ifNo X0 hx (hb hby at_67) (Jvm.Free.XT.i0_ne_f hc277) (q := 70) rfl ?_
            refine Go.iload X0 hx (hb hby at_70) rfl (q := 72) rfl ?_
            refine Go.goto X0 hx (hb hby at_72) (q := 80) (by decide) (by decide) ?_
            exact J80 _ hA2
          · refine Go.ifYes X0 hx (hb hby at_67) (Jvm.Free.XT.i0_ne_t hc277) (q := 75) (by decide) (by decide) ?_
            refine Go.iloadN X0 hx (hb hby at_75) rfl (q := 76) rfl ?_
            refine Go.bipush X0 hx (hb hby at_76) (r := (16 : Int32)) rfl (q := 78) rfl ?_
            refine Go.iushr X0 hx (hb hby at_78) rfl (q := 79) rfl ?_
            refine Go.i2b X0 hx (hb hby at_79) rfl (q := 80) rfl ?_
            exact J80 _ (bb _)
        by_cases hc278 : (pk &&& (2 : Int32)) = (0 : Int32)
        · refine Go.ifNo X0 hx (hb hby at_48) (Jvm.Free.XT.i0_ne_f hc278) (q := 51) rfl ?_
          refine Go.iload X0 hx (hb hby at_51) rfl (q := 53) rfl ?_
          refine Go.goto X0 hx (hb hby at_53) (q := 61) (by decide) (by decide) ?_
          exact J61 _ hA1
        · refine Go.ifYes X0 hx (hb hby at_48) (Jvm.Free.XT.i0_ne_t hc278) (q := 56) (by decide) (by decide) ?_
          refine Go.iloadN X0 hx (hb hby at_56) rfl (q := 57) rfl ?_
          refine Go.bipush X0 hx (hb hby at_57) (r := (8 : Int32)) rfl (q := 59) rfl ?_
          refine Go.iushr X0 hx (hb hby at_59) rfl (q := 60) rfl ?_
          refine Go.i2b X0 hx (hb hby at_60) rfl (q := 61) rfl ?_
          exact J61 _ (bb _)
      by_cases hc279 : (pk &&& (1 : Int32)) = (0 : Int32)
      · refine Go.ifNo X0 hx (hb hby at_32) (Jvm.Free.XT.i0_ne_f hc279) (q := 35) rfl ?_
        refine Go.iload X0 hx (hb hby at_35) rfl (q := 37) rfl ?_
        refine Go.goto X0 hx (hb hby at_37) (q := 42) (by decide) (by decide) ?_
        exact J42 _ hA0
      · refine Go.ifYes X0 hx (hb hby at_32) (Jvm.Free.XT.i0_ne_t hc279) (q := 40) (by decide) (by decide) ?_
        refine Go.iloadN X0 hx (hb hby at_40) rfl (q := 41) rfl ?_
        refine Go.i2b X0 hx (hb hby at_41) rfl (q := 42) rfl ?_
        exact J42 _ (bb _)
    · show Go pp ee below _ (s₁.setTop (mkF mm 8 #[.val (.int pl), .val (.int pm), .val (.int px), .val (.int py), .val (.int pk), .val (.int (2 : Int32)), .unset, .unset, .unset, .unset, .unset, .unset, .unset, .unset, .unset, .unset, .unset, .unset, .unset, .unset] [(.int (2 : Int32))]))
      refine Go.istore X0 hx (hb hby at_8) (l' := #[.val (.int pl), .val (.int pm), .val (.int px), .val (.int py), .val (.int pk), .val (.int (2 : Int32)), .val (.int (2 : Int32)), .unset, .unset, .unset, .unset, .unset, .unset, .unset, .unset, .unset, .unset, .unset, .unset, .unset]) rfl (q := 10) rfl ?_
      refine Go.iloadN X0 hx (hb hby at_10) rfl (q := 11) rfl ?_
      refine Go.i2b X0 hx (hb hby at_11) rfl (q := 12) rfl ?_
      have hA0 := bb px
      generalize (px.toInt8.toInt32) = A0 at hA0 ⊢
      refine Go.istore X0 hx (hb hby at_12) (l' := #[.val (.int pl), .val (.int pm), .val (.int px), .val (.int py), .val (.int pk), .val (.int (2 : Int32)), .val (.int (2 : Int32)), .val (.int A0), .unset, .unset, .unset, .unset, .unset, .unset, .unset, .unset, .unset, .unset, .unset, .unset]) rfl (q := 14) rfl ?_
      refine Go.iloadN X0 hx (hb hby at_14) rfl (q := 15) rfl ?_
      refine Go.bipush X0 hx (hb hby at_15) (r := (8 : Int32)) rfl (q := 17) rfl ?_
      refine Go.iushr X0 hx (hb hby at_17) rfl (q := 18) rfl ?_
      refine Go.i2b X0 hx (hb hby at_18) rfl (q := 19) rfl ?_
      have hA1 := bb ((px.toUInt32 >>> ((8 : Int32) &&& 31).toUInt32).toInt32)
      generalize (((px.toUInt32 >>> ((8 : Int32) &&& 31).toUInt32).toInt32).toInt8.toInt32) = A1 at hA1 ⊢
      refine Go.istore X0 hx (hb hby at_19) (l' := #[.val (.int pl), .val (.int pm), .val (.int px), .val (.int py), .val (.int pk), .val (.int (2 : Int32)), .val (.int (2 : Int32)), .val (.int A0), .val (.int A1), .unset, .unset, .unset, .unset, .unset, .unset, .unset, .unset, .unset, .unset, .unset]) rfl (q := 21) rfl ?_
      refine Go.iloadN X0 hx (hb hby at_21) rfl (q := 22) rfl ?_
      refine Go.bipush X0 hx (hb hby at_22) (r := (16 : Int32)) rfl (q := 24) rfl ?_
      refine Go.iushr X0 hx (hb hby at_24) rfl (q := 25) rfl ?_
      refine Go.i2b X0 hx (hb hby at_25) rfl (q := 26) rfl ?_
      have hA2 := bb ((px.toUInt32 >>> ((16 : Int32) &&& 31).toUInt32).toInt32)
      generalize (((px.toUInt32 >>> ((16 : Int32) &&& 31).toUInt32).toInt32).toInt8.toInt32) = A2 at hA2 ⊢
      refine Go.istore X0 hx (hb hby at_26) (l' := #[.val (.int pl), .val (.int pm), .val (.int px), .val (.int py), .val (.int pk), .val (.int (2 : Int32)), .val (.int (2 : Int32)), .val (.int A0), .val (.int A1), .val (.int A2), .unset, .unset, .unset, .unset, .unset, .unset, .unset, .unset, .unset, .unset]) rfl (q := 28) rfl ?_
      refine Go.iload X0 hx (hb hby at_28) rfl (q := 30) rfl ?_
      refine Go.iconst X0 hx (hb hby at_30) (r := (1 : Int32)) rfl (q := 31) rfl ?_
      refine Go.iand X0 hx (hb hby at_31) rfl (q := 32) rfl ?_
      have J42 : ∀ (C0 : Int32), (C0.toInt8.toInt32) = C0 → Go pp ee below (KK ss (Q_law0 Z pl pm px py pk h0) room_1.cells room_1.slots) (s₁.setTop (mkF mm 42 #[.val (.int pl), .val (.int pm), .val (.int px), .val (.int py), .val (.int pk), .val (.int (2 : Int32)), .val (.int (2 : Int32)), .val (.int A0), .val (.int A1), .val (.int A2), .unset, .unset, .unset, .unset, .unset, .unset, .unset, .unset, .unset, .unset] [(.int C0)])) := by
        intro C0 hC0
        refine Go.istore X0 hx (hb hby at_42) (l' := #[.val (.int pl), .val (.int pm), .val (.int px), .val (.int py), .val (.int pk), .val (.int (2 : Int32)), .val (.int (2 : Int32)), .val (.int A0), .val (.int A1), .val (.int A2), .val (.int C0), .unset, .unset, .unset, .unset, .unset, .unset, .unset, .unset, .unset]) rfl (q := 44) rfl ?_
        refine Go.iload X0 hx (hb hby at_44) rfl (q := 46) rfl ?_
        refine Go.iconst X0 hx (hb hby at_46) (r := (2 : Int32)) rfl (q := 47) rfl ?_
        refine Go.iand X0 hx (hb hby at_47) rfl (q := 48) rfl ?_
        have J61 : ∀ (C1 : Int32), (C1.toInt8.toInt32) = C1 → Go pp ee below (KK ss (Q_law0 Z pl pm px py pk h0) room_1.cells room_1.slots) (s₁.setTop (mkF mm 61 #[.val (.int pl), .val (.int pm), .val (.int px), .val (.int py), .val (.int pk), .val (.int (2 : Int32)), .val (.int (2 : Int32)), .val (.int A0), .val (.int A1), .val (.int A2), .val (.int C0), .unset, .unset, .unset, .unset, .unset, .unset, .unset, .unset, .unset] [(.int C1)])) := by
          intro C1 hC1
          refine Go.istore X0 hx (hb hby at_61) (l' := #[.val (.int pl), .val (.int pm), .val (.int px), .val (.int py), .val (.int pk), .val (.int (2 : Int32)), .val (.int (2 : Int32)), .val (.int A0), .val (.int A1), .val (.int A2), .val (.int C0), .val (.int C1), .unset, .unset, .unset, .unset, .unset, .unset, .unset, .unset]) rfl (q := 63) rfl ?_
          refine Go.iload X0 hx (hb hby at_63) rfl (q := 65) rfl ?_
          refine Go.iconst X0 hx (hb hby at_65) (r := (4 : Int32)) rfl (q := 66) rfl ?_
          refine Go.iand X0 hx (hb hby at_66) rfl (q := 67) rfl ?_
          have J80 : ∀ (C2 : Int32), (C2.toInt8.toInt32) = C2 → Go pp ee below (KK ss (Q_law0 Z pl pm px py pk h0) room_1.cells room_1.slots) (s₁.setTop (mkF mm 80 #[.val (.int pl), .val (.int pm), .val (.int px), .val (.int py), .val (.int pk), .val (.int (2 : Int32)), .val (.int (2 : Int32)), .val (.int A0), .val (.int A1), .val (.int A2), .val (.int C0), .val (.int C1), .unset, .unset, .unset, .unset, .unset, .unset, .unset, .unset] [(.int C2)])) := by
            intro C2 hC2
            refine Go.istore X0 hx (hb hby at_80) (l' := #[.val (.int pl), .val (.int pm), .val (.int px), .val (.int py), .val (.int pk), .val (.int (2 : Int32)), .val (.int (2 : Int32)), .val (.int A0), .val (.int A1), .val (.int A2), .val (.int C0), .val (.int C1), .val (.int C2), .unset, .unset, .unset, .unset, .unset, .unset, .unset]) rfl (q := 82) rfl ?_
            refine Go.iload X0 hx (hb hby at_82) rfl (q := 84) rfl ?_
            refine Go.iload X0 hx (hb hby at_84) rfl (q := 86) rfl ?_
            refine Go.iload X0 hx (hb hby at_86) rfl (q := 88) rfl ?_
            refine Go.iload X0 hx (hb hby at_88) rfl (q := 90) rfl ?_
            refine Go.callS X0 hx hZ hown (wd0 hw) (wd1 hw) (wd2 hw) (wd3 hw) (by decide) (make2 l Z a0 hw A0 A1 A2 h0 O0 hA0 hA1 hA2) e0 (by rw [hml]; rfl) (hb hby at_90) (argsL := [(.int (2 : Int32)), (.int A0), (.int A1), (.int A2)]) (rest := []) (lenOf pd3 rfl) rfl rfl (W := 0) (by first | exact Nat.le_refl _ | decide) (by decide) (by decide) (by decide) (by decide) ?_
            intro v280 T280 L280 X280 hQ280
            obtain ⟨h280, e280⟩ : ∃ z, T280.heap = z := ⟨_, rfl⟩
            rw [e280] at hQ280
            obtain ⟨b_280, kb_280, rfl, N280q, K280, fr280_b, P280_0, P280_1⟩ := hQ280
            have N280 := Fr.app N0 N280q
            have g_b_280 : Z.heap.size ≤ b_280 := Nat.le_trans O0.1 fr280_b
            have OK280 := ext_keep O0 K280 all0
            refine Go.astore X280 hx (hb hby at_93) rfl (l' := #[.val (.int pl), .val (.int pm), .val (.int px), .val (.int py), .val (.int pk), .val (.int (2 : Int32)), .val (.int (2 : Int32)), .val (.int A0), .val (.int A1), .val (.int A2), .val (.int C0), .val (.int C1), .val (.int C2), .val (.ref b_280), .unset, .unset, .unset, .unset, .unset, .unset]) rfl (q := 95) rfl ?_
            refine Go.iload X280 hx (hb hby at_95) rfl (q := 97) rfl ?_
            refine Go.iload X280 hx (hb hby at_97) rfl (q := 99) rfl ?_
            refine Go.iload X280 hx (hb hby at_99) rfl (q := 101) rfl ?_
            refine Go.iload X280 hx (hb hby at_101) rfl (q := 103) rfl ?_
            refine Go.callS X280 hx hZ hown (wd0 hw) (wd1 hw) (wd2 hw) (wd3 hw) (by decide) (make2 l Z a0 hw A0 A1 A2 h280 OK280 hA0 hA1 hA2) e280 (by rw [hml]; rfl) (hb hby at_103) (argsL := [(.int (2 : Int32)), (.int A0), (.int A1), (.int A2)]) (rest := []) (lenOf pd3 rfl) rfl rfl (W := 0) (by first | exact Nat.le_refl _ | decide) (by decide) (by decide) (by decide) (by decide) ?_
            intro v281 T281 L281 X281 hQ281
            obtain ⟨h281, e281⟩ : ∃ z, T281.heap = z := ⟨_, rfl⟩
            rw [e281] at hQ281
            obtain ⟨b_281, kb_281, rfl, N281q, K281, fr281_b, P281_0, P281_1⟩ := hQ281
            have N281 := Fr.app N280 N281q
            have ne_b_280_b_281 : b_280 ≠ b_281 := ne_new P280_0.lt fr281_b
            have g_b_281 : Z.heap.size ≤ b_281 := Nat.le_trans OK280.1 fr281_b
            replace P280_0 := P280_0.keep K281 nin0
            replace P280_1 := P280_1.keep K281
            have OK281 := ext_keep OK280 K281 all0
            refine Go.astore X281 hx (hb hby at_106) rfl (l' := #[.val (.int pl), .val (.int pm), .val (.int px), .val (.int py), .val (.int pk), .val (.int (2 : Int32)), .val (.int (2 : Int32)), .val (.int A0), .val (.int A1), .val (.int A2), .val (.int C0), .val (.int C1), .val (.int C2), .val (.ref b_280), .val (.ref b_281), .unset, .unset, .unset, .unset, .unset]) rfl (q := 108) rfl ?_
            refine Go.iload X281 hx (hb hby at_108) rfl (q := 110) rfl ?_
            refine Go.iload X281 hx (hb hby at_110) rfl (q := 112) rfl ?_
            refine Go.iload X281 hx (hb hby at_112) rfl (q := 114) rfl ?_
            refine Go.iload X281 hx (hb hby at_114) rfl (q := 116) rfl ?_
            refine Go.callS X281 hx hZ hown (wd0 hw) (wd1 hw) (wd2 hw) (wd3 hw) (by decide) (make2 l Z a0 hw C0 C1 C2 h281 OK281 hC0 hC1 hC2) e281 (by rw [hml]; rfl) (hb hby at_116) (argsL := [(.int (2 : Int32)), (.int C0), (.int C1), (.int C2)]) (rest := []) (lenOf pd3 rfl) rfl rfl (W := 0) (by first | exact Nat.le_refl _ | decide) (by decide) (by decide) (by decide) (by decide) ?_
            intro v282 T282 L282 X282 hQ282
            obtain ⟨h282, e282⟩ : ∃ z, T282.heap = z := ⟨_, rfl⟩
            rw [e282] at hQ282
            obtain ⟨b_282, kb_282, rfl, N282q, K282, fr282_b, P282_0, P282_1⟩ := hQ282
            have N282 := Fr.app N281 N282q
            have ne_b_280_b_282 : b_280 ≠ b_282 := ne_new P280_0.lt fr282_b
            have ne_b_281_b_282 : b_281 ≠ b_282 := ne_new P281_0.lt fr282_b
            have g_b_282 : Z.heap.size ≤ b_282 := Nat.le_trans OK281.1 fr282_b
            replace P280_0 := P280_0.keep K282 nin0
            replace P280_1 := P280_1.keep K282
            replace P281_0 := P281_0.keep K282 nin0
            replace P281_1 := P281_1.keep K282
            have OK282 := ext_keep OK281 K282 all0
            refine Go.astore X282 hx (hb hby at_119) rfl (l' := #[.val (.int pl), .val (.int pm), .val (.int px), .val (.int py), .val (.int pk), .val (.int (2 : Int32)), .val (.int (2 : Int32)), .val (.int A0), .val (.int A1), .val (.int A2), .val (.int C0), .val (.int C1), .val (.int C2), .val (.ref b_280), .val (.ref b_281), .val (.ref b_282), .unset, .unset, .unset, .unset]) rfl (q := 121) rfl ?_
            refine Go.aload X282 hx (hb hby at_121) rfl rfl (q := 123) rfl ?_
            refine Go.callS X282 hx hZ hown (wd5 hw) (wd6 hw) (wd7 hw) (wd8 hw) (by decide) (of2 l Z a0 hw b_280 (kb_280) A0 A1 h282 OK282 P280_0 P280_1) e282 (by rw [hml]; rfl) (hb hby at_123) (argsL := [(.ref b_280)]) (rest := []) (lenOf pd4 rfl) rfl rfl (W := 0) (by first | exact Nat.le_refl _ | decide) (by decide) (by decide) (by decide) (by decide) ?_
            intro v283 T283 L283 X283 hQ283
            obtain ⟨h283, e283⟩ : ∃ z, T283.heap = z := ⟨_, rfl⟩
            rw [e283] at hQ283
            obtain ⟨b_283, cn_283, kc_283, rfl, N283q, K283, fr283_b, fr283_cn, P283_0, P283_1, P283_2, P283_3, P283_4, P283_5⟩ := hQ283
            have N283 := Fr.app N282 N283q
            have ne_b_280_b_283 : b_280 ≠ b_283 := ne_new P280_0.lt fr283_b
            have ne_b_281_b_283 : b_281 ≠ b_283 := ne_new P281_0.lt fr283_b
            have ne_b_282_b_283 : b_282 ≠ b_283 := ne_new P282_0.lt fr283_b
            have g_b_283 : Z.heap.size ≤ b_283 := Nat.le_trans OK282.1 fr283_b
            have ne_b_280_cn_283 : b_280 ≠ cn_283 := ne_new P280_0.lt fr283_cn
            have ne_b_281_cn_283 : b_281 ≠ cn_283 := ne_new P281_0.lt fr283_cn
            have ne_b_282_cn_283 : b_282 ≠ cn_283 := ne_new P282_0.lt fr283_cn
            have g_cn_283 : Z.heap.size ≤ cn_283 := Nat.le_trans OK282.1 fr283_cn
            replace P280_0 := P280_0.keep K283 nin0
            replace P280_1 := P280_1.keep K283
            replace P281_0 := P281_0.keep K283 nin0
            replace P281_1 := P281_1.keep K283
            replace P282_0 := P282_0.keep K283 nin0
            replace P282_1 := P282_1.keep K283
            have OK283 := ext_keep OK282 K283 all0
            refine Go.astore X283 hx (hb hby at_126) rfl (l' := #[.val (.int pl), .val (.int pm), .val (.int px), .val (.int py), .val (.int pk), .val (.int (2 : Int32)), .val (.int (2 : Int32)), .val (.int A0), .val (.int A1), .val (.int A2), .val (.int C0), .val (.int C1), .val (.int C2), .val (.ref b_280), .val (.ref b_281), .val (.ref b_282), .val (.ref b_283), .unset, .unset, .unset]) rfl (q := 128) rfl ?_
            refine Go.iload X283 hx (hb hby at_128) rfl (q := 130) rfl ?_
            refine Go.ifNo X283 hx (hb hby at_130) (by decide) (q := 133) rfl ?_
            refine Go.aload X283 hx (hb hby at_133) rfl rfl (q := 135) rfl ?_
            refine Go.iload X283 hx (hb hby at_135) rfl (q := 137) rfl ?_
            refine Go.iconst X283 hx (hb hby at_137) (r := (1 : Int32)) rfl (q := 138) rfl ?_
            refine Go.isub X283 hx (hb hby at_138) (r := (1 : Int32)) rfl (q := 139) rfl ?_
            refine Go.aload X283 hx (hb hby at_139) rfl rfl (q := 141) rfl ?_
            refine Go.iload X283 hx (hb hby at_141) rfl (q := 143) rfl ?_
            refine Go.iconst X283 hx (hb hby at_143) (r := (1 : Int32)) rfl (q := 144) rfl ?_
            refine Go.isub X283 hx (hb hby at_144) (r := (1 : Int32)) rfl (q := 145) rfl ?_
            refine Go.bal X283 hx hZ e283 P280_0 ⟨by decide, by decide⟩ (v := (.int A1)) rfl (hb hby at_145) ?_
            refine Go.iconst X283 hx (hb hby at_146) (r := (-1 : Int32)) rfl (q := 147) rfl ?_
            refine Go.ixor X283 hx (hb hby at_147) rfl (q := 148) rfl ?_
            refine Go.i2b X283 hx (hb hby at_148) rfl (q := 149) rfl ?_
            refine Go.bst X283 hx hZ e283 P280_0 ⟨by decide, by decide⟩ (i := 1) rfl (Nat.le_of_ble_eq_true rfl) (hb hby at_149) ?_
            intro T284 h284 X284 e284 W284 V284
            rw [bb (A1 ^^^ (-1 : Int32))] at V284
            replace V284 : Arv Z h284 b_280 kb_280 .byte (2 : Int32) [(.int A0), (.int ((A1 ^^^ (-1 : Int32)).toInt8.toInt32))] (.int (0 : Int32)) := V284
            have N284 := Fr.snoc X284 N283 g_b_280
            replace P280_1 := P280_1.wr W284
            replace P281_0 := P281_0.other W284 (Ne.symm ne_b_280_b_281)
            replace P281_1 := P281_1.wr W284
            replace P282_0 := P282_0.other W284 (Ne.symm ne_b_280_b_282)
            replace P282_1 := P282_1.wr W284
            replace P283_0 := P283_0.wr W284
            replace P283_1 := P283_1.other W284 (Or.inl (Ne.symm ne_b_280_b_283))
            replace P283_2 := P283_2.other W284 (Ne.symm ne_b_280_cn_283)
            replace P283_3 := P283_3.other W284 (Or.inl (Ne.symm ne_b_280_b_283))
            replace P283_4 := P283_4.other W284 (Or.inl (Ne.symm ne_b_280_b_283))
            replace P283_5 := P283_5.other W284 (Or.inl (Ne.symm ne_b_280_b_283))
            have OW284 := ext_wr OK283 W284 g_b_280
            refine Go.aload X284 hx (hb hby at_150) rfl rfl (q := 152) rfl ?_
            refine Go.callS X284 hx hZ hown (wd5 hw) (wd6 hw) (wd7 hw) (wd8 hw) (by decide) (of2 l Z a0 hw b_281 (kb_281) A0 A1 h284 OW284 P281_0 P281_1) e284 (by rw [hml]; rfl) (hb hby at_152) (argsL := [(.ref b_281)]) (rest := []) (lenOf pd4 rfl) rfl rfl (W := 0) (by first | exact Nat.le_refl _ | decide) (by decide) (by decide) (by decide) (by decide) ?_
            intro v285 T285 L285 X285 hQ285
            obtain ⟨h285, e285⟩ : ∃ z, T285.heap = z := ⟨_, rfl⟩
            rw [e285] at hQ285
            obtain ⟨b_285, cn_285, kc_285, rfl, N285q, K285, fr285_b, fr285_cn, P285_0, P285_1, P285_2, P285_3, P285_4, P285_5⟩ := hQ285
            have N285 := Fr.app N284 N285q
            have ne_b_280_b_285 : b_280 ≠ b_285 := ne_new P280_1.lt fr285_b
            have ne_b_281_b_285 : b_281 ≠ b_285 := ne_new P281_0.lt fr285_b
            have ne_b_282_b_285 : b_282 ≠ b_285 := ne_new P282_0.lt fr285_b
            have ne_b_283_b_285 : b_283 ≠ b_285 := ne_new P283_0.lt fr285_b
            have ne_cn_283_b_285 : cn_283 ≠ b_285 := ne_new P283_2.lt fr285_b
            have g_b_285 : Z.heap.size ≤ b_285 := Nat.le_trans OW284.1 fr285_b
            have ne_b_280_cn_285 : b_280 ≠ cn_285 := ne_new P280_1.lt fr285_cn
            have ne_b_281_cn_285 : b_281 ≠ cn_285 := ne_new P281_0.lt fr285_cn
            have ne_b_282_cn_285 : b_282 ≠ cn_285 := ne_new P282_0.lt fr285_cn
            have ne_b_283_cn_285 : b_283 ≠ cn_285 := ne_new P283_0.lt fr285_cn
            have ne_cn_283_cn_285 : cn_283 ≠ cn_285 := ne_new P283_2.lt fr285_cn
            have g_cn_285 : Z.heap.size ≤ cn_285 := Nat.le_trans OW284.1 fr285_cn
            replace P280_1 := P280_1.keep K285
            replace P281_0 := P281_0.keep K285 nin0
            replace P281_1 := P281_1.keep K285
            replace P282_0 := P282_0.keep K285 nin0
            replace P282_1 := P282_1.keep K285
            replace P283_0 := P283_0.keep K285
            replace P283_1 := P283_1.keep K285 nin0
            replace P283_2 := P283_2.keep K285 nin0
            replace P283_3 := P283_3.keep K285 nin0
            replace P283_4 := P283_4.keep K285 nin0
            replace P283_5 := P283_5.keep K285 nin0
            replace V284 := V284.keep K285 nin0
            have OK285 := ext_keep OW284 K285 all0
            refine Go.astore X285 hx (hb hby at_155) rfl (l' := #[.val (.int pl), .val (.int pm), .val (.int px), .val (.int py), .val (.int pk), .val (.int (2 : Int32)), .val (.int (2 : Int32)), .val (.int A0), .val (.int A1), .val (.int A2), .val (.int C0), .val (.int C1), .val (.int C2), .val (.ref b_280), .val (.ref b_281), .val (.ref b_282), .val (.ref b_283), .val (.ref b_285), .unset, .unset]) rfl (q := 157) rfl ?_
            refine Go.aload X285 hx (hb hby at_157) rfl rfl (q := 159) rfl ?_
            refine Go.callS X285 hx hZ hown (wd5 hw) (wd6 hw) (wd7 hw) (wd8 hw) (by decide) (of2 l Z a0 hw b_282 (kb_282) C0 C1 h285 OK285 P282_0 P282_1) e285 (by rw [hml]; rfl) (hb hby at_159) (argsL := [(.ref b_282)]) (rest := []) (lenOf pd4 rfl) rfl rfl (W := 0) (by first | exact Nat.le_refl _ | decide) (by decide) (by decide) (by decide) (by decide) ?_
            intro v286 T286 L286 X286 hQ286
            obtain ⟨h286, e286⟩ : ∃ z, T286.heap = z := ⟨_, rfl⟩
            rw [e286] at hQ286
            obtain ⟨b_286, cn_286, kc_286, rfl, N286q, K286, fr286_b, fr286_cn, P286_0, P286_1, P286_2, P286_3, P286_4, P286_5⟩ := hQ286
            have N286 := Fr.app N285 N286q
            have ne_b_280_b_286 : b_280 ≠ b_286 := ne_new P280_1.lt fr286_b
            have ne_b_281_b_286 : b_281 ≠ b_286 := ne_new P281_0.lt fr286_b
            have ne_b_282_b_286 : b_282 ≠ b_286 := ne_new P282_0.lt fr286_b
            have ne_b_283_b_286 : b_283 ≠ b_286 := ne_new P283_0.lt fr286_b
            have ne_cn_283_b_286 : cn_283 ≠ b_286 := ne_new P283_2.lt fr286_b
            have ne_b_285_b_286 : b_285 ≠ b_286 := ne_new P285_0.lt fr286_b
            have ne_cn_285_b_286 : cn_285 ≠ b_286 := ne_new P285_2.lt fr286_b
            have g_b_286 : Z.heap.size ≤ b_286 := Nat.le_trans OK285.1 fr286_b
            have ne_b_280_cn_286 : b_280 ≠ cn_286 := ne_new P280_1.lt fr286_cn
            have ne_b_281_cn_286 : b_281 ≠ cn_286 := ne_new P281_0.lt fr286_cn
            have ne_b_282_cn_286 : b_282 ≠ cn_286 := ne_new P282_0.lt fr286_cn
            have ne_b_283_cn_286 : b_283 ≠ cn_286 := ne_new P283_0.lt fr286_cn
            have ne_cn_283_cn_286 : cn_283 ≠ cn_286 := ne_new P283_2.lt fr286_cn
            have ne_b_285_cn_286 : b_285 ≠ cn_286 := ne_new P285_0.lt fr286_cn
            have ne_cn_285_cn_286 : cn_285 ≠ cn_286 := ne_new P285_2.lt fr286_cn
            have g_cn_286 : Z.heap.size ≤ cn_286 := Nat.le_trans OK285.1 fr286_cn
            replace P280_1 := P280_1.keep K286
            replace P281_0 := P281_0.keep K286 nin0
            replace P281_1 := P281_1.keep K286
            replace P282_0 := P282_0.keep K286 nin0
            replace P282_1 := P282_1.keep K286
            replace P283_0 := P283_0.keep K286
            replace P283_1 := P283_1.keep K286 nin0
            replace P283_2 := P283_2.keep K286 nin0
            replace P283_3 := P283_3.keep K286 nin0
            replace P283_4 := P283_4.keep K286 nin0
            replace P283_5 := P283_5.keep K286 nin0
            replace V284 := V284.keep K286 nin0
            replace P285_0 := P285_0.keep K286
            replace P285_1 := P285_1.keep K286 nin0
            replace P285_2 := P285_2.keep K286 nin0
            replace P285_3 := P285_3.keep K286 nin0
            replace P285_4 := P285_4.keep K286 nin0
            replace P285_5 := P285_5.keep K286 nin0
            have OK286 := ext_keep OK285 K286 all0
            refine Go.astore X286 hx (hb hby at_162) rfl (l' := #[.val (.int pl), .val (.int pm), .val (.int px), .val (.int py), .val (.int pk), .val (.int (2 : Int32)), .val (.int (2 : Int32)), .val (.int A0), .val (.int A1), .val (.int A2), .val (.int C0), .val (.int C1), .val (.int C2), .val (.ref b_280), .val (.ref b_281), .val (.ref b_282), .val (.ref b_283), .val (.ref b_285), .val (.ref b_286), .unset]) rfl (q := 164) rfl ?_
            refine Go.aload X286 hx (hb hby at_164) rfl rfl (q := 166) rfl ?_
            refine Go.virt X286 hx hZ hown (wd36 hw) (wd37 hw) (notFace_of_selects (args := #[]) (mvT hZ (wd39 hw))) (wd39 hw) (wd38 hw) (wd7 hw) (wd40 hw) (by decide) (clen l Z a0 hw b_283 cn_283 (kc_283) ((2 : Int32)) ([(.int A0), (.int A1)]) h286 OK286 P283_1 P283_2) e286 P283_0 (by rw [hml]; rfl) (hb hby at_166) (argsL := []) (rest := []) (lenOf pd5 rfl) rfl rfl (W := 0) (by first | exact Nat.le_refl _ | decide) (by decide) (by decide) (by decide) (by decide) ?_
            intro v287 T287 L287 X287 hQ287
            obtain ⟨rfl, N287q, e287⟩ := hQ287
            have N287 := Fr.app N286 N287q
            refine Go.iload X287 hx (hb hby at_169) rfl (q := 171) rfl ?_
            refine Go.icmpNo X287 hx (hb hby at_171) (by decide) (q := 174) rfl ?_
            refine Go.aload X287 hx (hb hby at_174) rfl rfl (q := 176) rfl ?_
            refine Go.virt X287 hx hZ hown (wd36 hw) (wd37 hw) (notFace_of_selects (args := #[]) (mvT hZ (wd39 hw))) (wd39 hw) (wd38 hw) (wd7 hw) (wd40 hw) (by decide) (clen l Z a0 hw b_286 cn_286 (kc_286) ((2 : Int32)) ([(.int C0), (.int C1)]) h286 OK286 P286_1 P286_2) e287 P286_0 (by rw [hml]; rfl) (hb hby at_176) (argsL := []) (rest := []) (lenOf pd5 rfl) rfl rfl (W := 0) (by first | exact Nat.le_refl _ | decide) (by decide) (by decide) (by decide) (by decide) ?_
            intro v288 T288 L288 X288 hQ288
            obtain ⟨rfl, N288q, e288⟩ := hQ288
            have N288 := Fr.app N287 N288q
            refine Go.iload X288 hx (hb hby at_179) rfl (q := 181) rfl ?_
            refine Go.icmpNo X288 hx (hb hby at_181) (by decide) (q := 184) rfl ?_
            refine Go.aload X288 hx (hb hby at_184) rfl rfl (q := 186) rfl ?_
            refine Go.virt X288 hx hZ hown (wd41 hw) (wd42 hw) (notFace_of_selects (args := #[]) (mvT hZ (wd44 hw))) (wd44 hw) (wd43 hw) (wd7 hw) (wd45 hw) (by decide) (clast l Z a0 hw b_283 h286 OK286 P283_3) e288 P283_0 (by rw [hml]; rfl) (hb hby at_186) (argsL := []) (rest := []) (lenOf pd6 rfl) rfl rfl (W := 0) (by first | exact Nat.le_refl _ | decide) (by decide) (by decide) (by decide) (by decide) ?_
            intro v289 T289 L289 X289 hQ289
            obtain ⟨rfl, N289q, e289⟩ := hQ289
            have N289 := Fr.app N288 N289q
            refine Go.ifnonnullNo X289 hx (hb hby at_189) (q := 192) rfl ?_
            refine Go.aload X289 hx (hb hby at_192) rfl rfl (q := 194) rfl ?_
            refine Go.virt X289 hx hZ hown (wd46 hw) (wd47 hw) (notFace_of_selects (args := #[]) (mvT hZ (wd49 hw))) (wd49 hw) (wd48 hw) (wd7 hw) (wd50 hw) (by decide) (cshar l Z a0 hw b_283 h286 OK286 P283_4) e289 P283_0 (by rw [hml]; rfl) (hb hby at_194) (argsL := []) (rest := []) (lenOf pd7 rfl) rfl rfl (W := 0) (by first | exact Nat.le_refl _ | decide) (by decide) (by decide) (by decide) (by decide) ?_
            intro v290 T290 L290 X290 hQ290
            obtain ⟨rfl, N290q, e290⟩ := hQ290
            have N290 := Fr.app N289 N290q
            refine Go.ifNo X290 hx (hb hby at_197) (by decide) (q := 200) rfl ?_
            refine Go.aload X290 hx (hb hby at_200) rfl rfl (q := 202) rfl ?_
            refine Go.virt X290 hx hZ hown (wd51 hw) (wd52 hw) (notFace_of_selects (args := #[]) (mvT hZ (wd54 hw))) (wd54 hw) (wd53 hw) (wd7 hw) (wd55 hw) (by decide) (cremo l Z a0 hw b_283 h286 OK286 P283_5) e290 P283_0 (by rw [hml]; rfl) (hb hby at_202) (argsL := []) (rest := []) (lenOf pd7 rfl) rfl rfl (W := 0) (by first | exact Nat.le_refl _ | decide) (by decide) (by decide) (by decide) (by decide) ?_
            intro v291 T291 L291 X291 hQ291
            obtain ⟨rfl, N291q, e291⟩ := hQ291
            have N291 := Fr.app N290 N291q
            refine Go.ifNo X291 hx (hb hby at_205) (by decide) (q := 208) rfl ?_
            refine Go.iconst X291 hx (hb hby at_208) (r := (1 : Int32)) rfl (q := 209) rfl ?_
            refine Go.goto X291 hx (hb hby at_209) (q := 213) (by decide) (by decide) ?_
            refine Go.istore X291 hx (hb hby at_213) (l' := #[.val (.int pl), .val (.int pm), .val (.int px), .val (.int py), .val (.int pk), .val (.int (2 : Int32)), .val (.int (2 : Int32)), .val (.int A0), .val (.int A1), .val (.int A2), .val (.int C0), .val (.int C1), .val (.int C2), .val (.ref b_280), .val (.ref b_281), .val (.ref b_282), .val (.ref b_283), .val (.ref b_285), .val (.ref b_286), .val (.int (1 : Int32))]) rfl (q := 215) rfl ?_
            refine Go.iload X291 hx (hb hby at_215) rfl (q := 217) rfl ?_
            refine Go.ifNo X291 hx (hb hby at_217) (by decide) (q := 220) rfl ?_
            refine Go.aload X291 hx (hb hby at_220) rfl rfl (q := 222) rfl ?_
            refine Go.aload X291 hx (hb hby at_222) rfl rfl (q := 224) rfl ?_
            refine Go.virt X291 hx hZ hown (wd56 hw) (wd57 hw) (notFace_of_selects (args := #[]) (mvT hZ (wd59 hw))) (wd59 hw) (wd58 hw) (wd7 hw) (wd60 hw) (by decide) (chs2_2 l Z a0 hw b_283 b_285 cn_283 cn_285 (kc_283) (kc_285) A0 A1 A0 A1 h286 OK286 P283_1 P285_1 P283_2 P285_2 ne_cn_283_cn_285 rfl rfl) e291 P283_0 (by rw [hml]; rfl) (hb hby at_224) (argsL := [(.ref b_285)]) (rest := []) (lenOf pd8 rfl) rfl rfl (W := 0) (by first | exact Nat.le_refl _ | decide) (by decide) (by decide) (by decide) (by decide) ?_
            intro v292 T292 L292 X292 hQ292
            obtain ⟨rfl, N292q, e292⟩ := hQ292
            have N292 := Fr.app N291 N292q
            refine Go.ifNo X292 hx (hb hby at_227) (by decide) (q := 230) rfl ?_
            refine Go.iconst X292 hx (hb hby at_230) (r := (1 : Int32)) rfl (q := 231) rfl ?_
            refine Go.goto X292 hx (hb hby at_231) (q := 235) (by decide) (by decide) ?_
            refine Go.istore X292 hx (hb hby at_235) (l' := #[.val (.int pl), .val (.int pm), .val (.int px), .val (.int py), .val (.int pk), .val (.int (2 : Int32)), .val (.int (2 : Int32)), .val (.int A0), .val (.int A1), .val (.int A2), .val (.int C0), .val (.int C1), .val (.int C2), .val (.ref b_280), .val (.ref b_281), .val (.ref b_282), .val (.ref b_283), .val (.ref b_285), .val (.ref b_286), .val (.int (1 : Int32))]) rfl (q := 237) rfl ?_
            refine Go.iload X292 hx (hb hby at_237) rfl (q := 239) rfl ?_
            refine Go.ifNo X292 hx (hb hby at_239) (by decide) (q := 242) rfl ?_
            by_cases hc293 : A0 = C0
            · by_cases hc294 : A1 = C1
              · show Go pp ee below _ (T292.setTop (mkF mm 242 #[.val (.int pl), .val (.int pm), .val (.int px), .val (.int py), .val (.int pk), .val (.int (2 : Int32)), .val (.int (2 : Int32)), .val (.int A0), .val (.int A1), .val (.int A2), .val (.int C0), .val (.int C1), .val (.int C2), .val (.ref b_280), .val (.ref b_281), .val (.ref b_282), .val (.ref b_283), .val (.ref b_285), .val (.ref b_286), .val (.int (1 : Int32))] []))
                refine Go.aload X292 hx (hb hby at_242) rfl rfl (q := 244) rfl ?_
                refine Go.aload X292 hx (hb hby at_244) rfl rfl (q := 246) rfl ?_
                refine Go.virt X292 hx hZ hown (wd56 hw) (wd57 hw) (notFace_of_selects (args := #[]) (mvT hZ (wd59 hw))) (wd59 hw) (wd58 hw) (wd7 hw) (wd60 hw) (by decide) (chs2_2 l Z a0 hw b_283 b_286 cn_283 cn_286 (kc_283) (kc_286) A0 A1 C0 C1 h286 OK286 P283_1 P286_1 P283_2 P286_2 ne_cn_283_cn_286 hc293 hc294) e292 P283_0 (by rw [hml]; rfl) (hb hby at_246) (argsL := [(.ref b_286)]) (rest := []) (lenOf pd8 rfl) rfl rfl (W := 0) (by first | exact Nat.le_refl _ | decide) (by decide) (by decide) (by decide) (by decide) ?_
                intro v295 T295 L295 X295 hQ295
                obtain ⟨rfl, N295q, e295⟩ := hQ295
                have N295 := Fr.app N292 N295q
                refine Go.aload X295 hx (hb hby at_249) rfl rfl (q := 251) rfl ?_
                refine Go.aload X295 hx (hb hby at_251) rfl rfl (q := 253) rfl ?_
                refine Go.callS X295 hx hZ hown (wd69 hw) (wd70 hw) (wd2 hw) (wd71 hw) (by decide) (csam2_2 l Z a0 hw b_281 b_282 (kb_281) (kb_282) A0 A1 C0 C1 h286 OK286 P281_0 P282_0 hc293 hc294) e295 (by rw [hml]; rfl) (hb hby at_253) (argsL := [(.ref b_281), (.ref b_282)]) (rest := [(.int (1 : Int32))]) (lenOf pd2 rfl) rfl rfl (W := 1) (by first | exact Nat.le_refl _ | decide) (by decide) (by decide) (by decide) (by decide) ?_
                intro v296 T296 L296 X296 hQ296
                obtain ⟨rfl, N296q, e296⟩ := hQ296
                have N296 := Fr.app N295 N296q
                refine Go.icmpNo X296 hx (hb hby at_256) (by decide) (q := 259) rfl ?_
                refine Go.iconst X296 hx (hb hby at_259) (r := (1 : Int32)) rfl (q := 260) rfl ?_
                refine Go.goto X296 hx (hb hby at_260) (q := 264) (by decide) (by decide) ?_
                refine Go.istore X296 hx (hb hby at_264) (l' := #[.val (.int pl), .val (.int pm), .val (.int px), .val (.int py), .val (.int pk), .val (.int (2 : Int32)), .val (.int (2 : Int32)), .val (.int A0), .val (.int A1), .val (.int A2), .val (.int C0), .val (.int C1), .val (.int C2), .val (.ref b_280), .val (.ref b_281), .val (.ref b_282), .val (.ref b_283), .val (.ref b_285), .val (.ref b_286), .val (.int (1 : Int32))]) rfl (q := 266) rfl ?_
                refine Go.iload X296 hx (hb hby at_266) rfl (q := 268) rfl ?_
                exact Go.retI X296 hx hret hlk (by simp) rfl (hb hby at_268) e296 (by decide) (by decide) ⟨rfl, N296⟩
              · show Go pp ee below _ (T292.setTop (mkF mm 242 #[.val (.int pl), .val (.int pm), .val (.int px), .val (.int py), .val (.int pk), .val (.int (2 : Int32)), .val (.int (2 : Int32)), .val (.int A0), .val (.int A1), .val (.int A2), .val (.int C0), .val (.int C1), .val (.int C2), .val (.ref b_280), .val (.ref b_281), .val (.ref b_282), .val (.ref b_283), .val (.ref b_285), .val (.ref b_286), .val (.int (1 : Int32))] []))
                refine Go.aload X292 hx (hb hby at_242) rfl rfl (q := 244) rfl ?_
                refine Go.aload X292 hx (hb hby at_244) rfl rfl (q := 246) rfl ?_
                refine Go.virt X292 hx hZ hown (wd56 hw) (wd57 hw) (notFace_of_selects (args := #[]) (mvT hZ (wd59 hw))) (wd59 hw) (wd58 hw) (wd7 hw) (wd60 hw) (by decide) (chs2_1 l Z a0 hw b_283 b_286 cn_283 cn_286 (kc_283) (kc_286) A0 A1 C0 C1 h286 OK286 P283_1 P286_1 P283_2 P286_2 ne_cn_283_cn_286 hc293 hc294) e292 P283_0 (by rw [hml]; rfl) (hb hby at_246) (argsL := [(.ref b_286)]) (rest := []) (lenOf pd8 rfl) rfl rfl (W := 0) (by first | exact Nat.le_refl _ | decide) (by decide) (by decide) (by decide) (by decide) ?_
                intro v297 T297 L297 X297 hQ297
                obtain ⟨rfl, N297q, e297⟩ := hQ297
                have N297 := Fr.app N292 N297q
                refine Go.aload X297 hx (hb hby at_249) rfl rfl (q := 251) rfl ?_
                refine Go.aload X297 hx (hb hby at_251) rfl rfl (q := 253) rfl ?_
                refine Go.callS X297 hx hZ hown (wd69 hw) (wd70 hw) (wd2 hw) (wd71 hw) (by decide) (csam2_1 l Z a0 hw b_281 b_282 (kb_281) (kb_282) A0 A1 C0 C1 h286 OK286 P281_0 P282_0 hc293 hc294) e297 (by rw [hml]; rfl) (hb hby at_253) (argsL := [(.ref b_281), (.ref b_282)]) (rest := [(.int (0 : Int32))]) (lenOf pd2 rfl) rfl rfl (W := 1) (by first | exact Nat.le_refl _ | decide) (by decide) (by decide) (by decide) (by decide) ?_
                intro v298 T298 L298 X298 hQ298
                obtain ⟨rfl, N298q, e298⟩ := hQ298
                have N298 := Fr.app N297 N298q
                refine Go.icmpNo X298 hx (hb hby at_256) (by decide) (q := 259) rfl ?_
                refine Go.iconst X298 hx (hb hby at_259) (r := (1 : Int32)) rfl (q := 260) rfl ?_
                refine Go.goto X298 hx (hb hby at_260) (q := 264) (by decide) (by decide) ?_
                refine Go.istore X298 hx (hb hby at_264) (l' := #[.val (.int pl), .val (.int pm), .val (.int px), .val (.int py), .val (.int pk), .val (.int (2 : Int32)), .val (.int (2 : Int32)), .val (.int A0), .val (.int A1), .val (.int A2), .val (.int C0), .val (.int C1), .val (.int C2), .val (.ref b_280), .val (.ref b_281), .val (.ref b_282), .val (.ref b_283), .val (.ref b_285), .val (.ref b_286), .val (.int (1 : Int32))]) rfl (q := 266) rfl ?_
                refine Go.iload X298 hx (hb hby at_266) rfl (q := 268) rfl ?_
                exact Go.retI X298 hx hret hlk (by simp) rfl (hb hby at_268) e298 (by decide) (by decide) ⟨rfl, N298⟩
            · show Go pp ee below _ (T292.setTop (mkF mm 242 #[.val (.int pl), .val (.int pm), .val (.int px), .val (.int py), .val (.int pk), .val (.int (2 : Int32)), .val (.int (2 : Int32)), .val (.int A0), .val (.int A1), .val (.int A2), .val (.int C0), .val (.int C1), .val (.int C2), .val (.ref b_280), .val (.ref b_281), .val (.ref b_282), .val (.ref b_283), .val (.ref b_285), .val (.ref b_286), .val (.int (1 : Int32))] []))
              refine Go.aload X292 hx (hb hby at_242) rfl rfl (q := 244) rfl ?_
              refine Go.aload X292 hx (hb hby at_244) rfl rfl (q := 246) rfl ?_
              refine Go.virt X292 hx hZ hown (wd56 hw) (wd57 hw) (notFace_of_selects (args := #[]) (mvT hZ (wd59 hw))) (wd59 hw) (wd58 hw) (wd7 hw) (wd60 hw) (by decide) (chs2_0 l Z a0 hw b_283 b_286 cn_283 cn_286 (kc_283) (kc_286) A0 A1 C0 C1 h286 OK286 P283_1 P286_1 P283_2 P286_2 ne_cn_283_cn_286 hc293) e292 P283_0 (by rw [hml]; rfl) (hb hby at_246) (argsL := [(.ref b_286)]) (rest := []) (lenOf pd8 rfl) rfl rfl (W := 0) (by first | exact Nat.le_refl _ | decide) (by decide) (by decide) (by decide) (by decide) ?_
              intro v299 T299 L299 X299 hQ299
              obtain ⟨rfl, N299q, e299⟩ := hQ299
              have N299 := Fr.app N292 N299q
              refine Go.aload X299 hx (hb hby at_249) rfl rfl (q := 251) rfl ?_
              refine Go.aload X299 hx (hb hby at_251) rfl rfl (q := 253) rfl ?_
              refine Go.callS X299 hx hZ hown (wd69 hw) (wd70 hw) (wd2 hw) (wd71 hw) (by decide) (csam2_0 l Z a0 hw b_281 b_282 (kb_281) (kb_282) A0 A1 C0 C1 h286 OK286 P281_0 P282_0 hc293) e299 (by rw [hml]; rfl) (hb hby at_253) (argsL := [(.ref b_281), (.ref b_282)]) (rest := [(.int (0 : Int32))]) (lenOf pd2 rfl) rfl rfl (W := 1) (by first | exact Nat.le_refl _ | decide) (by decide) (by decide) (by decide) (by decide) ?_
              intro v300 T300 L300 X300 hQ300
              obtain ⟨rfl, N300q, e300⟩ := hQ300
              have N300 := Fr.app N299 N300q
              refine Go.icmpNo X300 hx (hb hby at_256) (by decide) (q := 259) rfl ?_
              refine Go.iconst X300 hx (hb hby at_259) (r := (1 : Int32)) rfl (q := 260) rfl ?_
              refine Go.goto X300 hx (hb hby at_260) (q := 264) (by decide) (by decide) ?_
              refine Go.istore X300 hx (hb hby at_264) (l' := #[.val (.int pl), .val (.int pm), .val (.int px), .val (.int py), .val (.int pk), .val (.int (2 : Int32)), .val (.int (2 : Int32)), .val (.int A0), .val (.int A1), .val (.int A2), .val (.int C0), .val (.int C1), .val (.int C2), .val (.ref b_280), .val (.ref b_281), .val (.ref b_282), .val (.ref b_283), .val (.ref b_285), .val (.ref b_286), .val (.int (1 : Int32))]) rfl (q := 266) rfl ?_
              refine Go.iload X300 hx (hb hby at_266) rfl (q := 268) rfl ?_
              exact Go.retI X300 hx hret hlk (by simp) rfl (hb hby at_268) e300 (by decide) (by decide) ⟨rfl, N300⟩
          by_cases hc301 : (pk &&& (4 : Int32)) = (0 : Int32)
          · refine Go.ifNo X0 hx (hb hby at_67) (Jvm.Free.XT.i0_ne_f hc301) (q := 70) rfl ?_
            refine Go.iload X0 hx (hb hby at_70) rfl (q := 72) rfl ?_
            refine Go.goto X0 hx (hb hby at_72) (q := 80) (by decide) (by decide) ?_
            exact J80 _ hA2
          · refine Go.ifYes X0 hx (hb hby at_67) (Jvm.Free.XT.i0_ne_t hc301) (q := 75) (by decide) (by decide) ?_
            refine Go.iloadN X0 hx (hb hby at_75) rfl (q := 76) rfl ?_
            refine Go.bipush X0 hx (hb hby at_76) (r := (16 : Int32)) rfl (q := 78) rfl ?_
            refine Go.iushr X0 hx (hb hby at_78) rfl (q := 79) rfl ?_
            refine Go.i2b X0 hx (hb hby at_79) rfl (q := 80) rfl ?_
            exact J80 _ (bb _)
        by_cases hc302 : (pk &&& (2 : Int32)) = (0 : Int32)
        · refine Go.ifNo X0 hx (hb hby at_48) (Jvm.Free.XT.i0_ne_f hc302) (q := 51) rfl ?_
          refine Go.iload X0 hx (hb hby at_51) rfl (q := 53) rfl ?_
          refine Go.goto X0 hx (hb hby at_53) (q := 61) (by decide) (by decide) ?_
          exact J61 _ hA1
        · refine Go.ifYes X0 hx (hb hby at_48) (Jvm.Free.XT.i0_ne_t hc302) (q := 56) (by decide) (by decide) ?_
          refine Go.iloadN X0 hx (hb hby at_56) rfl (q := 57) rfl ?_
          refine Go.bipush X0 hx (hb hby at_57) (r := (8 : Int32)) rfl (q := 59) rfl ?_
          refine Go.iushr X0 hx (hb hby at_59) rfl (q := 60) rfl ?_
          refine Go.i2b X0 hx (hb hby at_60) rfl (q := 61) rfl ?_
          exact J61 _ (bb _)
      by_cases hc303 : (pk &&& (1 : Int32)) = (0 : Int32)
      · refine Go.ifNo X0 hx (hb hby at_32) (Jvm.Free.XT.i0_ne_f hc303) (q := 35) rfl ?_
        refine Go.iload X0 hx (hb hby at_35) rfl (q := 37) rfl ?_
        refine Go.goto X0 hx (hb hby at_37) (q := 42) (by decide) (by decide) ?_
        exact J42 _ hA0
      · refine Go.ifYes X0 hx (hb hby at_32) (Jvm.Free.XT.i0_ne_t hc303) (q := 40) (by decide) (by decide) ?_
        refine Go.iloadN X0 hx (hb hby at_40) rfl (q := 41) rfl ?_
        refine Go.i2b X0 hx (hb hby at_41) rfl (q := 42) rfl ?_
        exact J42 _ (bb _)
    · show Go pp ee below _ (s₁.setTop (mkF mm 8 #[.val (.int pl), .val (.int pm), .val (.int px), .val (.int py), .val (.int pk), .val (.int (2 : Int32)), .unset, .unset, .unset, .unset, .unset, .unset, .unset, .unset, .unset, .unset, .unset, .unset, .unset, .unset] [(.int (3 : Int32))]))
      refine Go.istore X0 hx (hb hby at_8) (l' := #[.val (.int pl), .val (.int pm), .val (.int px), .val (.int py), .val (.int pk), .val (.int (2 : Int32)), .val (.int (3 : Int32)), .unset, .unset, .unset, .unset, .unset, .unset, .unset, .unset, .unset, .unset, .unset, .unset, .unset]) rfl (q := 10) rfl ?_
      refine Go.iloadN X0 hx (hb hby at_10) rfl (q := 11) rfl ?_
      refine Go.i2b X0 hx (hb hby at_11) rfl (q := 12) rfl ?_
      have hA0 := bb px
      generalize (px.toInt8.toInt32) = A0 at hA0 ⊢
      refine Go.istore X0 hx (hb hby at_12) (l' := #[.val (.int pl), .val (.int pm), .val (.int px), .val (.int py), .val (.int pk), .val (.int (2 : Int32)), .val (.int (3 : Int32)), .val (.int A0), .unset, .unset, .unset, .unset, .unset, .unset, .unset, .unset, .unset, .unset, .unset, .unset]) rfl (q := 14) rfl ?_
      refine Go.iloadN X0 hx (hb hby at_14) rfl (q := 15) rfl ?_
      refine Go.bipush X0 hx (hb hby at_15) (r := (8 : Int32)) rfl (q := 17) rfl ?_
      refine Go.iushr X0 hx (hb hby at_17) rfl (q := 18) rfl ?_
      refine Go.i2b X0 hx (hb hby at_18) rfl (q := 19) rfl ?_
      have hA1 := bb ((px.toUInt32 >>> ((8 : Int32) &&& 31).toUInt32).toInt32)
      generalize (((px.toUInt32 >>> ((8 : Int32) &&& 31).toUInt32).toInt32).toInt8.toInt32) = A1 at hA1 ⊢
      refine Go.istore X0 hx (hb hby at_19) (l' := #[.val (.int pl), .val (.int pm), .val (.int px), .val (.int py), .val (.int pk), .val (.int (2 : Int32)), .val (.int (3 : Int32)), .val (.int A0), .val (.int A1), .unset, .unset, .unset, .unset, .unset, .unset, .unset, .unset, .unset, .unset, .unset]) rfl (q := 21) rfl ?_
      refine Go.iloadN X0 hx (hb hby at_21) rfl (q := 22) rfl ?_
      refine Go.bipush X0 hx (hb hby at_22) (r := (16 : Int32)) rfl (q := 24) rfl ?_
      refine Go.iushr X0 hx (hb hby at_24) rfl (q := 25) rfl ?_
      refine Go.i2b X0 hx (hb hby at_25) rfl (q := 26) rfl ?_
      have hA2 := bb ((px.toUInt32 >>> ((16 : Int32) &&& 31).toUInt32).toInt32)
      generalize (((px.toUInt32 >>> ((16 : Int32) &&& 31).toUInt32).toInt32).toInt8.toInt32) = A2 at hA2 ⊢
      refine Go.istore X0 hx (hb hby at_26) (l' := #[.val (.int pl), .val (.int pm), .val (.int px), .val (.int py), .val (.int pk), .val (.int (2 : Int32)), .val (.int (3 : Int32)), .val (.int A0), .val (.int A1), .val (.int A2), .unset, .unset, .unset, .unset, .unset, .unset, .unset, .unset, .unset, .unset]) rfl (q := 28) rfl ?_
      refine Go.iload X0 hx (hb hby at_28) rfl (q := 30) rfl ?_
      refine Go.iconst X0 hx (hb hby at_30) (r := (1 : Int32)) rfl (q := 31) rfl ?_
      refine Go.iand X0 hx (hb hby at_31) rfl (q := 32) rfl ?_
      have J42 : ∀ (C0 : Int32), (C0.toInt8.toInt32) = C0 → Go pp ee below (KK ss (Q_law0 Z pl pm px py pk h0) room_1.cells room_1.slots) (s₁.setTop (mkF mm 42 #[.val (.int pl), .val (.int pm), .val (.int px), .val (.int py), .val (.int pk), .val (.int (2 : Int32)), .val (.int (3 : Int32)), .val (.int A0), .val (.int A1), .val (.int A2), .unset, .unset, .unset, .unset, .unset, .unset, .unset, .unset, .unset, .unset] [(.int C0)])) := by
        intro C0 hC0
        refine Go.istore X0 hx (hb hby at_42) (l' := #[.val (.int pl), .val (.int pm), .val (.int px), .val (.int py), .val (.int pk), .val (.int (2 : Int32)), .val (.int (3 : Int32)), .val (.int A0), .val (.int A1), .val (.int A2), .val (.int C0), .unset, .unset, .unset, .unset, .unset, .unset, .unset, .unset, .unset]) rfl (q := 44) rfl ?_
        refine Go.iload X0 hx (hb hby at_44) rfl (q := 46) rfl ?_
        refine Go.iconst X0 hx (hb hby at_46) (r := (2 : Int32)) rfl (q := 47) rfl ?_
        refine Go.iand X0 hx (hb hby at_47) rfl (q := 48) rfl ?_
        have J61 : ∀ (C1 : Int32), (C1.toInt8.toInt32) = C1 → Go pp ee below (KK ss (Q_law0 Z pl pm px py pk h0) room_1.cells room_1.slots) (s₁.setTop (mkF mm 61 #[.val (.int pl), .val (.int pm), .val (.int px), .val (.int py), .val (.int pk), .val (.int (2 : Int32)), .val (.int (3 : Int32)), .val (.int A0), .val (.int A1), .val (.int A2), .val (.int C0), .unset, .unset, .unset, .unset, .unset, .unset, .unset, .unset, .unset] [(.int C1)])) := by
          intro C1 hC1
          refine Go.istore X0 hx (hb hby at_61) (l' := #[.val (.int pl), .val (.int pm), .val (.int px), .val (.int py), .val (.int pk), .val (.int (2 : Int32)), .val (.int (3 : Int32)), .val (.int A0), .val (.int A1), .val (.int A2), .val (.int C0), .val (.int C1), .unset, .unset, .unset, .unset, .unset, .unset, .unset, .unset]) rfl (q := 63) rfl ?_
          refine Go.iload X0 hx (hb hby at_63) rfl (q := 65) rfl ?_
          refine Go.iconst X0 hx (hb hby at_65) (r := (4 : Int32)) rfl (q := 66) rfl ?_
          refine Go.iand X0 hx (hb hby at_66) rfl (q := 67) rfl ?_
          have J80 : ∀ (C2 : Int32), (C2.toInt8.toInt32) = C2 → Go pp ee below (KK ss (Q_law0 Z pl pm px py pk h0) room_1.cells room_1.slots) (s₁.setTop (mkF mm 80 #[.val (.int pl), .val (.int pm), .val (.int px), .val (.int py), .val (.int pk), .val (.int (2 : Int32)), .val (.int (3 : Int32)), .val (.int A0), .val (.int A1), .val (.int A2), .val (.int C0), .val (.int C1), .unset, .unset, .unset, .unset, .unset, .unset, .unset, .unset] [(.int C2)])) := by
            intro C2 hC2
            refine Go.istore X0 hx (hb hby at_80) (l' := #[.val (.int pl), .val (.int pm), .val (.int px), .val (.int py), .val (.int pk), .val (.int (2 : Int32)), .val (.int (3 : Int32)), .val (.int A0), .val (.int A1), .val (.int A2), .val (.int C0), .val (.int C1), .val (.int C2), .unset, .unset, .unset, .unset, .unset, .unset, .unset]) rfl (q := 82) rfl ?_
            refine Go.iload X0 hx (hb hby at_82) rfl (q := 84) rfl ?_
            refine Go.iload X0 hx (hb hby at_84) rfl (q := 86) rfl ?_
            refine Go.iload X0 hx (hb hby at_86) rfl (q := 88) rfl ?_
            refine Go.iload X0 hx (hb hby at_88) rfl (q := 90) rfl ?_
            refine Go.callS X0 hx hZ hown (wd0 hw) (wd1 hw) (wd2 hw) (wd3 hw) (by decide) (make2 l Z a0 hw A0 A1 A2 h0 O0 hA0 hA1 hA2) e0 (by rw [hml]; rfl) (hb hby at_90) (argsL := [(.int (2 : Int32)), (.int A0), (.int A1), (.int A2)]) (rest := []) (lenOf pd3 rfl) rfl rfl (W := 0) (by first | exact Nat.le_refl _ | decide) (by decide) (by decide) (by decide) (by decide) ?_
            intro v304 T304 L304 X304 hQ304
            obtain ⟨h304, e304⟩ : ∃ z, T304.heap = z := ⟨_, rfl⟩
            rw [e304] at hQ304
            obtain ⟨b_304, kb_304, rfl, N304q, K304, fr304_b, P304_0, P304_1⟩ := hQ304
            have N304 := Fr.app N0 N304q
            have g_b_304 : Z.heap.size ≤ b_304 := Nat.le_trans O0.1 fr304_b
            have OK304 := ext_keep O0 K304 all0
            refine Go.astore X304 hx (hb hby at_93) rfl (l' := #[.val (.int pl), .val (.int pm), .val (.int px), .val (.int py), .val (.int pk), .val (.int (2 : Int32)), .val (.int (3 : Int32)), .val (.int A0), .val (.int A1), .val (.int A2), .val (.int C0), .val (.int C1), .val (.int C2), .val (.ref b_304), .unset, .unset, .unset, .unset, .unset, .unset]) rfl (q := 95) rfl ?_
            refine Go.iload X304 hx (hb hby at_95) rfl (q := 97) rfl ?_
            refine Go.iload X304 hx (hb hby at_97) rfl (q := 99) rfl ?_
            refine Go.iload X304 hx (hb hby at_99) rfl (q := 101) rfl ?_
            refine Go.iload X304 hx (hb hby at_101) rfl (q := 103) rfl ?_
            refine Go.callS X304 hx hZ hown (wd0 hw) (wd1 hw) (wd2 hw) (wd3 hw) (by decide) (make2 l Z a0 hw A0 A1 A2 h304 OK304 hA0 hA1 hA2) e304 (by rw [hml]; rfl) (hb hby at_103) (argsL := [(.int (2 : Int32)), (.int A0), (.int A1), (.int A2)]) (rest := []) (lenOf pd3 rfl) rfl rfl (W := 0) (by first | exact Nat.le_refl _ | decide) (by decide) (by decide) (by decide) (by decide) ?_
            intro v305 T305 L305 X305 hQ305
            obtain ⟨h305, e305⟩ : ∃ z, T305.heap = z := ⟨_, rfl⟩
            rw [e305] at hQ305
            obtain ⟨b_305, kb_305, rfl, N305q, K305, fr305_b, P305_0, P305_1⟩ := hQ305
            have N305 := Fr.app N304 N305q
            have ne_b_304_b_305 : b_304 ≠ b_305 := ne_new P304_0.lt fr305_b
            have g_b_305 : Z.heap.size ≤ b_305 := Nat.le_trans OK304.1 fr305_b
            replace P304_0 := P304_0.keep K305 nin0
            replace P304_1 := P304_1.keep K305
            have OK305 := ext_keep OK304 K305 all0
            refine Go.astore X305 hx (hb hby at_106) rfl (l' := #[.val (.int pl), .val (.int pm), .val (.int px), .val (.int py), .val (.int pk), .val (.int (2 : Int32)), .val (.int (3 : Int32)), .val (.int A0), .val (.int A1), .val (.int A2), .val (.int C0), .val (.int C1), .val (.int C2), .val (.ref b_304), .val (.ref b_305), .unset, .unset, .unset, .unset, .unset]) rfl (q := 108) rfl ?_
            refine Go.iload X305 hx (hb hby at_108) rfl (q := 110) rfl ?_
            refine Go.iload X305 hx (hb hby at_110) rfl (q := 112) rfl ?_
            refine Go.iload X305 hx (hb hby at_112) rfl (q := 114) rfl ?_
            refine Go.iload X305 hx (hb hby at_114) rfl (q := 116) rfl ?_
            refine Go.callS X305 hx hZ hown (wd0 hw) (wd1 hw) (wd2 hw) (wd3 hw) (by decide) (make3 l Z a0 hw C0 C1 C2 h305 OK305 hC0 hC1 hC2) e305 (by rw [hml]; rfl) (hb hby at_116) (argsL := [(.int (3 : Int32)), (.int C0), (.int C1), (.int C2)]) (rest := []) (lenOf pd3 rfl) rfl rfl (W := 0) (by first | exact Nat.le_refl _ | decide) (by decide) (by decide) (by decide) (by decide) ?_
            intro v306 T306 L306 X306 hQ306
            obtain ⟨h306, e306⟩ : ∃ z, T306.heap = z := ⟨_, rfl⟩
            rw [e306] at hQ306
            obtain ⟨b_306, kb_306, rfl, N306q, K306, fr306_b, P306_0, P306_1⟩ := hQ306
            have N306 := Fr.app N305 N306q
            have ne_b_304_b_306 : b_304 ≠ b_306 := ne_new P304_0.lt fr306_b
            have ne_b_305_b_306 : b_305 ≠ b_306 := ne_new P305_0.lt fr306_b
            have g_b_306 : Z.heap.size ≤ b_306 := Nat.le_trans OK305.1 fr306_b
            replace P304_0 := P304_0.keep K306 nin0
            replace P304_1 := P304_1.keep K306
            replace P305_0 := P305_0.keep K306 nin0
            replace P305_1 := P305_1.keep K306
            have OK306 := ext_keep OK305 K306 all0
            refine Go.astore X306 hx (hb hby at_119) rfl (l' := #[.val (.int pl), .val (.int pm), .val (.int px), .val (.int py), .val (.int pk), .val (.int (2 : Int32)), .val (.int (3 : Int32)), .val (.int A0), .val (.int A1), .val (.int A2), .val (.int C0), .val (.int C1), .val (.int C2), .val (.ref b_304), .val (.ref b_305), .val (.ref b_306), .unset, .unset, .unset, .unset]) rfl (q := 121) rfl ?_
            refine Go.aload X306 hx (hb hby at_121) rfl rfl (q := 123) rfl ?_
            refine Go.callS X306 hx hZ hown (wd5 hw) (wd6 hw) (wd7 hw) (wd8 hw) (by decide) (of2 l Z a0 hw b_304 (kb_304) A0 A1 h306 OK306 P304_0 P304_1) e306 (by rw [hml]; rfl) (hb hby at_123) (argsL := [(.ref b_304)]) (rest := []) (lenOf pd4 rfl) rfl rfl (W := 0) (by first | exact Nat.le_refl _ | decide) (by decide) (by decide) (by decide) (by decide) ?_
            intro v307 T307 L307 X307 hQ307
            obtain ⟨h307, e307⟩ : ∃ z, T307.heap = z := ⟨_, rfl⟩
            rw [e307] at hQ307
            obtain ⟨b_307, cn_307, kc_307, rfl, N307q, K307, fr307_b, fr307_cn, P307_0, P307_1, P307_2, P307_3, P307_4, P307_5⟩ := hQ307
            have N307 := Fr.app N306 N307q
            have ne_b_304_b_307 : b_304 ≠ b_307 := ne_new P304_0.lt fr307_b
            have ne_b_305_b_307 : b_305 ≠ b_307 := ne_new P305_0.lt fr307_b
            have ne_b_306_b_307 : b_306 ≠ b_307 := ne_new P306_0.lt fr307_b
            have g_b_307 : Z.heap.size ≤ b_307 := Nat.le_trans OK306.1 fr307_b
            have ne_b_304_cn_307 : b_304 ≠ cn_307 := ne_new P304_0.lt fr307_cn
            have ne_b_305_cn_307 : b_305 ≠ cn_307 := ne_new P305_0.lt fr307_cn
            have ne_b_306_cn_307 : b_306 ≠ cn_307 := ne_new P306_0.lt fr307_cn
            have g_cn_307 : Z.heap.size ≤ cn_307 := Nat.le_trans OK306.1 fr307_cn
            replace P304_0 := P304_0.keep K307 nin0
            replace P304_1 := P304_1.keep K307
            replace P305_0 := P305_0.keep K307 nin0
            replace P305_1 := P305_1.keep K307
            replace P306_0 := P306_0.keep K307 nin0
            replace P306_1 := P306_1.keep K307
            have OK307 := ext_keep OK306 K307 all0
            refine Go.astore X307 hx (hb hby at_126) rfl (l' := #[.val (.int pl), .val (.int pm), .val (.int px), .val (.int py), .val (.int pk), .val (.int (2 : Int32)), .val (.int (3 : Int32)), .val (.int A0), .val (.int A1), .val (.int A2), .val (.int C0), .val (.int C1), .val (.int C2), .val (.ref b_304), .val (.ref b_305), .val (.ref b_306), .val (.ref b_307), .unset, .unset, .unset]) rfl (q := 128) rfl ?_
            refine Go.iload X307 hx (hb hby at_128) rfl (q := 130) rfl ?_
            refine Go.ifNo X307 hx (hb hby at_130) (by decide) (q := 133) rfl ?_
            refine Go.aload X307 hx (hb hby at_133) rfl rfl (q := 135) rfl ?_
            refine Go.iload X307 hx (hb hby at_135) rfl (q := 137) rfl ?_
            refine Go.iconst X307 hx (hb hby at_137) (r := (1 : Int32)) rfl (q := 138) rfl ?_
            refine Go.isub X307 hx (hb hby at_138) (r := (1 : Int32)) rfl (q := 139) rfl ?_
            refine Go.aload X307 hx (hb hby at_139) rfl rfl (q := 141) rfl ?_
            refine Go.iload X307 hx (hb hby at_141) rfl (q := 143) rfl ?_
            refine Go.iconst X307 hx (hb hby at_143) (r := (1 : Int32)) rfl (q := 144) rfl ?_
            refine Go.isub X307 hx (hb hby at_144) (r := (1 : Int32)) rfl (q := 145) rfl ?_
            refine Go.bal X307 hx hZ e307 P304_0 ⟨by decide, by decide⟩ (v := (.int A1)) rfl (hb hby at_145) ?_
            refine Go.iconst X307 hx (hb hby at_146) (r := (-1 : Int32)) rfl (q := 147) rfl ?_
            refine Go.ixor X307 hx (hb hby at_147) rfl (q := 148) rfl ?_
            refine Go.i2b X307 hx (hb hby at_148) rfl (q := 149) rfl ?_
            refine Go.bst X307 hx hZ e307 P304_0 ⟨by decide, by decide⟩ (i := 1) rfl (Nat.le_of_ble_eq_true rfl) (hb hby at_149) ?_
            intro T308 h308 X308 e308 W308 V308
            rw [bb (A1 ^^^ (-1 : Int32))] at V308
            replace V308 : Arv Z h308 b_304 kb_304 .byte (2 : Int32) [(.int A0), (.int ((A1 ^^^ (-1 : Int32)).toInt8.toInt32))] (.int (0 : Int32)) := V308
            have N308 := Fr.snoc X308 N307 g_b_304
            replace P304_1 := P304_1.wr W308
            replace P305_0 := P305_0.other W308 (Ne.symm ne_b_304_b_305)
            replace P305_1 := P305_1.wr W308
            replace P306_0 := P306_0.other W308 (Ne.symm ne_b_304_b_306)
            replace P306_1 := P306_1.wr W308
            replace P307_0 := P307_0.wr W308
            replace P307_1 := P307_1.other W308 (Or.inl (Ne.symm ne_b_304_b_307))
            replace P307_2 := P307_2.other W308 (Ne.symm ne_b_304_cn_307)
            replace P307_3 := P307_3.other W308 (Or.inl (Ne.symm ne_b_304_b_307))
            replace P307_4 := P307_4.other W308 (Or.inl (Ne.symm ne_b_304_b_307))
            replace P307_5 := P307_5.other W308 (Or.inl (Ne.symm ne_b_304_b_307))
            have OW308 := ext_wr OK307 W308 g_b_304
            refine Go.aload X308 hx (hb hby at_150) rfl rfl (q := 152) rfl ?_
            refine Go.callS X308 hx hZ hown (wd5 hw) (wd6 hw) (wd7 hw) (wd8 hw) (by decide) (of2 l Z a0 hw b_305 (kb_305) A0 A1 h308 OW308 P305_0 P305_1) e308 (by rw [hml]; rfl) (hb hby at_152) (argsL := [(.ref b_305)]) (rest := []) (lenOf pd4 rfl) rfl rfl (W := 0) (by first | exact Nat.le_refl _ | decide) (by decide) (by decide) (by decide) (by decide) ?_
            intro v309 T309 L309 X309 hQ309
            obtain ⟨h309, e309⟩ : ∃ z, T309.heap = z := ⟨_, rfl⟩
            rw [e309] at hQ309
            obtain ⟨b_309, cn_309, kc_309, rfl, N309q, K309, fr309_b, fr309_cn, P309_0, P309_1, P309_2, P309_3, P309_4, P309_5⟩ := hQ309
            have N309 := Fr.app N308 N309q
            have ne_b_304_b_309 : b_304 ≠ b_309 := ne_new P304_1.lt fr309_b
            have ne_b_305_b_309 : b_305 ≠ b_309 := ne_new P305_0.lt fr309_b
            have ne_b_306_b_309 : b_306 ≠ b_309 := ne_new P306_0.lt fr309_b
            have ne_b_307_b_309 : b_307 ≠ b_309 := ne_new P307_0.lt fr309_b
            have ne_cn_307_b_309 : cn_307 ≠ b_309 := ne_new P307_2.lt fr309_b
            have g_b_309 : Z.heap.size ≤ b_309 := Nat.le_trans OW308.1 fr309_b
            have ne_b_304_cn_309 : b_304 ≠ cn_309 := ne_new P304_1.lt fr309_cn
            have ne_b_305_cn_309 : b_305 ≠ cn_309 := ne_new P305_0.lt fr309_cn
            have ne_b_306_cn_309 : b_306 ≠ cn_309 := ne_new P306_0.lt fr309_cn
            have ne_b_307_cn_309 : b_307 ≠ cn_309 := ne_new P307_0.lt fr309_cn
            have ne_cn_307_cn_309 : cn_307 ≠ cn_309 := ne_new P307_2.lt fr309_cn
            have g_cn_309 : Z.heap.size ≤ cn_309 := Nat.le_trans OW308.1 fr309_cn
            replace P304_1 := P304_1.keep K309
            replace P305_0 := P305_0.keep K309 nin0
            replace P305_1 := P305_1.keep K309
            replace P306_0 := P306_0.keep K309 nin0
            replace P306_1 := P306_1.keep K309
            replace P307_0 := P307_0.keep K309
            replace P307_1 := P307_1.keep K309 nin0
            replace P307_2 := P307_2.keep K309 nin0
            replace P307_3 := P307_3.keep K309 nin0
            replace P307_4 := P307_4.keep K309 nin0
            replace P307_5 := P307_5.keep K309 nin0
            replace V308 := V308.keep K309 nin0
            have OK309 := ext_keep OW308 K309 all0
            refine Go.astore X309 hx (hb hby at_155) rfl (l' := #[.val (.int pl), .val (.int pm), .val (.int px), .val (.int py), .val (.int pk), .val (.int (2 : Int32)), .val (.int (3 : Int32)), .val (.int A0), .val (.int A1), .val (.int A2), .val (.int C0), .val (.int C1), .val (.int C2), .val (.ref b_304), .val (.ref b_305), .val (.ref b_306), .val (.ref b_307), .val (.ref b_309), .unset, .unset]) rfl (q := 157) rfl ?_
            refine Go.aload X309 hx (hb hby at_157) rfl rfl (q := 159) rfl ?_
            refine Go.callS X309 hx hZ hown (wd5 hw) (wd6 hw) (wd7 hw) (wd8 hw) (by decide) (of3 l Z a0 hw b_306 (kb_306) C0 C1 C2 h309 OK309 P306_0 P306_1) e309 (by rw [hml]; rfl) (hb hby at_159) (argsL := [(.ref b_306)]) (rest := []) (lenOf pd4 rfl) rfl rfl (W := 0) (by first | exact Nat.le_refl _ | decide) (by decide) (by decide) (by decide) (by decide) ?_
            intro v310 T310 L310 X310 hQ310
            obtain ⟨h310, e310⟩ : ∃ z, T310.heap = z := ⟨_, rfl⟩
            rw [e310] at hQ310
            obtain ⟨b_310, cn_310, kc_310, rfl, N310q, K310, fr310_b, fr310_cn, P310_0, P310_1, P310_2, P310_3, P310_4, P310_5⟩ := hQ310
            have N310 := Fr.app N309 N310q
            have ne_b_304_b_310 : b_304 ≠ b_310 := ne_new P304_1.lt fr310_b
            have ne_b_305_b_310 : b_305 ≠ b_310 := ne_new P305_0.lt fr310_b
            have ne_b_306_b_310 : b_306 ≠ b_310 := ne_new P306_0.lt fr310_b
            have ne_b_307_b_310 : b_307 ≠ b_310 := ne_new P307_0.lt fr310_b
            have ne_cn_307_b_310 : cn_307 ≠ b_310 := ne_new P307_2.lt fr310_b
            have ne_b_309_b_310 : b_309 ≠ b_310 := ne_new P309_0.lt fr310_b
            have ne_cn_309_b_310 : cn_309 ≠ b_310 := ne_new P309_2.lt fr310_b
            have g_b_310 : Z.heap.size ≤ b_310 := Nat.le_trans OK309.1 fr310_b
            have ne_b_304_cn_310 : b_304 ≠ cn_310 := ne_new P304_1.lt fr310_cn
            have ne_b_305_cn_310 : b_305 ≠ cn_310 := ne_new P305_0.lt fr310_cn
            have ne_b_306_cn_310 : b_306 ≠ cn_310 := ne_new P306_0.lt fr310_cn
            have ne_b_307_cn_310 : b_307 ≠ cn_310 := ne_new P307_0.lt fr310_cn
            have ne_cn_307_cn_310 : cn_307 ≠ cn_310 := ne_new P307_2.lt fr310_cn
            have ne_b_309_cn_310 : b_309 ≠ cn_310 := ne_new P309_0.lt fr310_cn
            have ne_cn_309_cn_310 : cn_309 ≠ cn_310 := ne_new P309_2.lt fr310_cn
            have g_cn_310 : Z.heap.size ≤ cn_310 := Nat.le_trans OK309.1 fr310_cn
            replace P304_1 := P304_1.keep K310
            replace P305_0 := P305_0.keep K310 nin0
            replace P305_1 := P305_1.keep K310
            replace P306_0 := P306_0.keep K310 nin0
            replace P306_1 := P306_1.keep K310
            replace P307_0 := P307_0.keep K310
            replace P307_1 := P307_1.keep K310 nin0
            replace P307_2 := P307_2.keep K310 nin0
            replace P307_3 := P307_3.keep K310 nin0
            replace P307_4 := P307_4.keep K310 nin0
            replace P307_5 := P307_5.keep K310 nin0
            replace V308 := V308.keep K310 nin0
            replace P309_0 := P309_0.keep K310
            replace P309_1 := P309_1.keep K310 nin0
            replace P309_2 := P309_2.keep K310 nin0
            replace P309_3 := P309_3.keep K310 nin0
            replace P309_4 := P309_4.keep K310 nin0
            replace P309_5 := P309_5.keep K310 nin0
            have OK310 := ext_keep OK309 K310 all0
            refine Go.astore X310 hx (hb hby at_162) rfl (l' := #[.val (.int pl), .val (.int pm), .val (.int px), .val (.int py), .val (.int pk), .val (.int (2 : Int32)), .val (.int (3 : Int32)), .val (.int A0), .val (.int A1), .val (.int A2), .val (.int C0), .val (.int C1), .val (.int C2), .val (.ref b_304), .val (.ref b_305), .val (.ref b_306), .val (.ref b_307), .val (.ref b_309), .val (.ref b_310), .unset]) rfl (q := 164) rfl ?_
            refine Go.aload X310 hx (hb hby at_164) rfl rfl (q := 166) rfl ?_
            refine Go.virt X310 hx hZ hown (wd36 hw) (wd37 hw) (notFace_of_selects (args := #[]) (mvT hZ (wd39 hw))) (wd39 hw) (wd38 hw) (wd7 hw) (wd40 hw) (by decide) (clen l Z a0 hw b_307 cn_307 (kc_307) ((2 : Int32)) ([(.int A0), (.int A1)]) h310 OK310 P307_1 P307_2) e310 P307_0 (by rw [hml]; rfl) (hb hby at_166) (argsL := []) (rest := []) (lenOf pd5 rfl) rfl rfl (W := 0) (by first | exact Nat.le_refl _ | decide) (by decide) (by decide) (by decide) (by decide) ?_
            intro v311 T311 L311 X311 hQ311
            obtain ⟨rfl, N311q, e311⟩ := hQ311
            have N311 := Fr.app N310 N311q
            refine Go.iload X311 hx (hb hby at_169) rfl (q := 171) rfl ?_
            refine Go.icmpNo X311 hx (hb hby at_171) (by decide) (q := 174) rfl ?_
            refine Go.aload X311 hx (hb hby at_174) rfl rfl (q := 176) rfl ?_
            refine Go.virt X311 hx hZ hown (wd36 hw) (wd37 hw) (notFace_of_selects (args := #[]) (mvT hZ (wd39 hw))) (wd39 hw) (wd38 hw) (wd7 hw) (wd40 hw) (by decide) (clen l Z a0 hw b_310 cn_310 (kc_310) ((3 : Int32)) ([(.int C0), (.int C1), (.int C2)]) h310 OK310 P310_1 P310_2) e311 P310_0 (by rw [hml]; rfl) (hb hby at_176) (argsL := []) (rest := []) (lenOf pd5 rfl) rfl rfl (W := 0) (by first | exact Nat.le_refl _ | decide) (by decide) (by decide) (by decide) (by decide) ?_
            intro v312 T312 L312 X312 hQ312
            obtain ⟨rfl, N312q, e312⟩ := hQ312
            have N312 := Fr.app N311 N312q
            refine Go.iload X312 hx (hb hby at_179) rfl (q := 181) rfl ?_
            refine Go.icmpNo X312 hx (hb hby at_181) (by decide) (q := 184) rfl ?_
            refine Go.aload X312 hx (hb hby at_184) rfl rfl (q := 186) rfl ?_
            refine Go.virt X312 hx hZ hown (wd41 hw) (wd42 hw) (notFace_of_selects (args := #[]) (mvT hZ (wd44 hw))) (wd44 hw) (wd43 hw) (wd7 hw) (wd45 hw) (by decide) (clast l Z a0 hw b_307 h310 OK310 P307_3) e312 P307_0 (by rw [hml]; rfl) (hb hby at_186) (argsL := []) (rest := []) (lenOf pd6 rfl) rfl rfl (W := 0) (by first | exact Nat.le_refl _ | decide) (by decide) (by decide) (by decide) (by decide) ?_
            intro v313 T313 L313 X313 hQ313
            obtain ⟨rfl, N313q, e313⟩ := hQ313
            have N313 := Fr.app N312 N313q
            refine Go.ifnonnullNo X313 hx (hb hby at_189) (q := 192) rfl ?_
            refine Go.aload X313 hx (hb hby at_192) rfl rfl (q := 194) rfl ?_
            refine Go.virt X313 hx hZ hown (wd46 hw) (wd47 hw) (notFace_of_selects (args := #[]) (mvT hZ (wd49 hw))) (wd49 hw) (wd48 hw) (wd7 hw) (wd50 hw) (by decide) (cshar l Z a0 hw b_307 h310 OK310 P307_4) e313 P307_0 (by rw [hml]; rfl) (hb hby at_194) (argsL := []) (rest := []) (lenOf pd7 rfl) rfl rfl (W := 0) (by first | exact Nat.le_refl _ | decide) (by decide) (by decide) (by decide) (by decide) ?_
            intro v314 T314 L314 X314 hQ314
            obtain ⟨rfl, N314q, e314⟩ := hQ314
            have N314 := Fr.app N313 N314q
            refine Go.ifNo X314 hx (hb hby at_197) (by decide) (q := 200) rfl ?_
            refine Go.aload X314 hx (hb hby at_200) rfl rfl (q := 202) rfl ?_
            refine Go.virt X314 hx hZ hown (wd51 hw) (wd52 hw) (notFace_of_selects (args := #[]) (mvT hZ (wd54 hw))) (wd54 hw) (wd53 hw) (wd7 hw) (wd55 hw) (by decide) (cremo l Z a0 hw b_307 h310 OK310 P307_5) e314 P307_0 (by rw [hml]; rfl) (hb hby at_202) (argsL := []) (rest := []) (lenOf pd7 rfl) rfl rfl (W := 0) (by first | exact Nat.le_refl _ | decide) (by decide) (by decide) (by decide) (by decide) ?_
            intro v315 T315 L315 X315 hQ315
            obtain ⟨rfl, N315q, e315⟩ := hQ315
            have N315 := Fr.app N314 N315q
            refine Go.ifNo X315 hx (hb hby at_205) (by decide) (q := 208) rfl ?_
            refine Go.iconst X315 hx (hb hby at_208) (r := (1 : Int32)) rfl (q := 209) rfl ?_
            refine Go.goto X315 hx (hb hby at_209) (q := 213) (by decide) (by decide) ?_
            refine Go.istore X315 hx (hb hby at_213) (l' := #[.val (.int pl), .val (.int pm), .val (.int px), .val (.int py), .val (.int pk), .val (.int (2 : Int32)), .val (.int (3 : Int32)), .val (.int A0), .val (.int A1), .val (.int A2), .val (.int C0), .val (.int C1), .val (.int C2), .val (.ref b_304), .val (.ref b_305), .val (.ref b_306), .val (.ref b_307), .val (.ref b_309), .val (.ref b_310), .val (.int (1 : Int32))]) rfl (q := 215) rfl ?_
            refine Go.iload X315 hx (hb hby at_215) rfl (q := 217) rfl ?_
            refine Go.ifNo X315 hx (hb hby at_217) (by decide) (q := 220) rfl ?_
            refine Go.aload X315 hx (hb hby at_220) rfl rfl (q := 222) rfl ?_
            refine Go.aload X315 hx (hb hby at_222) rfl rfl (q := 224) rfl ?_
            refine Go.virt X315 hx hZ hown (wd56 hw) (wd57 hw) (notFace_of_selects (args := #[]) (mvT hZ (wd59 hw))) (wd59 hw) (wd58 hw) (wd7 hw) (wd60 hw) (by decide) (chs2_2 l Z a0 hw b_307 b_309 cn_307 cn_309 (kc_307) (kc_309) A0 A1 A0 A1 h310 OK310 P307_1 P309_1 P307_2 P309_2 ne_cn_307_cn_309 rfl rfl) e315 P307_0 (by rw [hml]; rfl) (hb hby at_224) (argsL := [(.ref b_309)]) (rest := []) (lenOf pd8 rfl) rfl rfl (W := 0) (by first | exact Nat.le_refl _ | decide) (by decide) (by decide) (by decide) (by decide) ?_
            intro v316 T316 L316 X316 hQ316
            obtain ⟨rfl, N316q, e316⟩ := hQ316
            have N316 := Fr.app N315 N316q
            refine Go.ifNo X316 hx (hb hby at_227) (by decide) (q := 230) rfl ?_
            refine Go.iconst X316 hx (hb hby at_230) (r := (1 : Int32)) rfl (q := 231) rfl ?_
            refine Go.goto X316 hx (hb hby at_231) (q := 235) (by decide) (by decide) ?_
            refine Go.istore X316 hx (hb hby at_235) (l' := #[.val (.int pl), .val (.int pm), .val (.int px), .val (.int py), .val (.int pk), .val (.int (2 : Int32)), .val (.int (3 : Int32)), .val (.int A0), .val (.int A1), .val (.int A2), .val (.int C0), .val (.int C1), .val (.int C2), .val (.ref b_304), .val (.ref b_305), .val (.ref b_306), .val (.ref b_307), .val (.ref b_309), .val (.ref b_310), .val (.int (1 : Int32))]) rfl (q := 237) rfl ?_
            refine Go.iload X316 hx (hb hby at_237) rfl (q := 239) rfl ?_
            refine Go.ifNo X316 hx (hb hby at_239) (by decide) (q := 242) rfl ?_
            refine Go.aload X316 hx (hb hby at_242) rfl rfl (q := 244) rfl ?_
            refine Go.aload X316 hx (hb hby at_244) rfl rfl (q := 246) rfl ?_
            refine Go.virt X316 hx hZ hown (wd56 hw) (wd57 hw) (notFace_of_selects (args := #[]) (mvT hZ (wd59 hw))) (wd59 hw) (wd58 hw) (wd7 hw) (wd60 hw) (by decide) (chsd2_3 l Z a0 hw b_307 b_310 cn_307 cn_310 (kc_307) (kc_310) A0 A1 C0 C1 C2 h310 OK310 P307_1 P310_1 P307_2 P310_2 ne_cn_307_cn_310) e316 P307_0 (by rw [hml]; rfl) (hb hby at_246) (argsL := [(.ref b_310)]) (rest := []) (lenOf pd8 rfl) rfl rfl (W := 0) (by first | exact Nat.le_refl _ | decide) (by decide) (by decide) (by decide) (by decide) ?_
            intro v317 T317 L317 X317 hQ317
            obtain ⟨rfl, N317q, e317⟩ := hQ317
            have N317 := Fr.app N316 N317q
            refine Go.aload X317 hx (hb hby at_249) rfl rfl (q := 251) rfl ?_
            refine Go.aload X317 hx (hb hby at_251) rfl rfl (q := 253) rfl ?_
            refine Go.callS X317 hx hZ hown (wd69 hw) (wd70 hw) (wd2 hw) (wd71 hw) (by decide) (csamd2_3 l Z a0 hw b_305 b_306 (kb_305) (kb_306) A0 A1 C0 C1 C2 h310 OK310 P305_0 P306_0) e317 (by rw [hml]; rfl) (hb hby at_253) (argsL := [(.ref b_305), (.ref b_306)]) (rest := [(.int (0 : Int32))]) (lenOf pd2 rfl) rfl rfl (W := 1) (by first | exact Nat.le_refl _ | decide) (by decide) (by decide) (by decide) (by decide) ?_
            intro v318 T318 L318 X318 hQ318
            obtain ⟨rfl, N318q, e318⟩ := hQ318
            have N318 := Fr.app N317 N318q
            refine Go.icmpNo X318 hx (hb hby at_256) (by decide) (q := 259) rfl ?_
            refine Go.iconst X318 hx (hb hby at_259) (r := (1 : Int32)) rfl (q := 260) rfl ?_
            refine Go.goto X318 hx (hb hby at_260) (q := 264) (by decide) (by decide) ?_
            refine Go.istore X318 hx (hb hby at_264) (l' := #[.val (.int pl), .val (.int pm), .val (.int px), .val (.int py), .val (.int pk), .val (.int (2 : Int32)), .val (.int (3 : Int32)), .val (.int A0), .val (.int A1), .val (.int A2), .val (.int C0), .val (.int C1), .val (.int C2), .val (.ref b_304), .val (.ref b_305), .val (.ref b_306), .val (.ref b_307), .val (.ref b_309), .val (.ref b_310), .val (.int (1 : Int32))]) rfl (q := 266) rfl ?_
            refine Go.iload X318 hx (hb hby at_266) rfl (q := 268) rfl ?_
            exact Go.retI X318 hx hret hlk (by simp) rfl (hb hby at_268) e318 (by decide) (by decide) ⟨rfl, N318⟩
          by_cases hc319 : (pk &&& (4 : Int32)) = (0 : Int32)
          · refine Go.ifNo X0 hx (hb hby at_67) (Jvm.Free.XT.i0_ne_f hc319) (q := 70) rfl ?_
            refine Go.iload X0 hx (hb hby at_70) rfl (q := 72) rfl ?_
            refine Go.goto X0 hx (hb hby at_72) (q := 80) (by decide) (by decide) ?_
            exact J80 _ hA2
          · refine Go.ifYes X0 hx (hb hby at_67) (Jvm.Free.XT.i0_ne_t hc319) (q := 75) (by decide) (by decide) ?_
            refine Go.iloadN X0 hx (hb hby at_75) rfl (q := 76) rfl ?_
            refine Go.bipush X0 hx (hb hby at_76) (r := (16 : Int32)) rfl (q := 78) rfl ?_
            refine Go.iushr X0 hx (hb hby at_78) rfl (q := 79) rfl ?_
            refine Go.i2b X0 hx (hb hby at_79) rfl (q := 80) rfl ?_
            exact J80 _ (bb _)
        by_cases hc320 : (pk &&& (2 : Int32)) = (0 : Int32)
        · refine Go.ifNo X0 hx (hb hby at_48) (Jvm.Free.XT.i0_ne_f hc320) (q := 51) rfl ?_
          refine Go.iload X0 hx (hb hby at_51) rfl (q := 53) rfl ?_
          refine Go.goto X0 hx (hb hby at_53) (q := 61) (by decide) (by decide) ?_
          exact J61 _ hA1
        · refine Go.ifYes X0 hx (hb hby at_48) (Jvm.Free.XT.i0_ne_t hc320) (q := 56) (by decide) (by decide) ?_
          refine Go.iloadN X0 hx (hb hby at_56) rfl (q := 57) rfl ?_
          refine Go.bipush X0 hx (hb hby at_57) (r := (8 : Int32)) rfl (q := 59) rfl ?_
          refine Go.iushr X0 hx (hb hby at_59) rfl (q := 60) rfl ?_
          refine Go.i2b X0 hx (hb hby at_60) rfl (q := 61) rfl ?_
          exact J61 _ (bb _)
      by_cases hc321 : (pk &&& (1 : Int32)) = (0 : Int32)
      · refine Go.ifNo X0 hx (hb hby at_32) (Jvm.Free.XT.i0_ne_f hc321) (q := 35) rfl ?_
        refine Go.iload X0 hx (hb hby at_35) rfl (q := 37) rfl ?_
        refine Go.goto X0 hx (hb hby at_37) (q := 42) (by decide) (by decide) ?_
        exact J42 _ hA0
      · refine Go.ifYes X0 hx (hb hby at_32) (Jvm.Free.XT.i0_ne_t hc321) (q := 40) (by decide) (by decide) ?_
        refine Go.iloadN X0 hx (hb hby at_40) rfl (q := 41) rfl ?_
        refine Go.i2b X0 hx (hb hby at_41) rfl (q := 42) rfl ?_
        exact J42 _ (bb _)
  · show Go pp ee below _ (s₁.setTop (mkF mm 3 #[.val (.int pl), .val (.int pm), .val (.int px), .val (.int py), .val (.int pk), .unset, .unset, .unset, .unset, .unset, .unset, .unset, .unset, .unset, .unset, .unset, .unset, .unset, .unset, .unset] [(.int (3 : Int32))]))
    refine Go.istore X0 hx (hb hby at_3) (l' := #[.val (.int pl), .val (.int pm), .val (.int px), .val (.int py), .val (.int pk), .val (.int (3 : Int32)), .unset, .unset, .unset, .unset, .unset, .unset, .unset, .unset, .unset, .unset, .unset, .unset, .unset, .unset]) rfl (q := 5) rfl ?_
    refine Go.iloadN X0 hx (hb hby at_5) rfl (q := 6) rfl ?_
    refine Go.iconst X0 hx (hb hby at_6) (r := (3 : Int32)) rfl (q := 7) rfl ?_
    refine Go.iand X0 hx (hb hby at_7) rfl (q := 8) rfl ?_
    have hk := own_and3 pm
    generalize (pm &&& (3 : Int32)) = k at hk ⊢
    rcases hk with rfl | rfl | rfl | rfl
    · show Go pp ee below _ (s₁.setTop (mkF mm 8 #[.val (.int pl), .val (.int pm), .val (.int px), .val (.int py), .val (.int pk), .val (.int (3 : Int32)), .unset, .unset, .unset, .unset, .unset, .unset, .unset, .unset, .unset, .unset, .unset, .unset, .unset, .unset] [(.int (0 : Int32))]))
      refine Go.istore X0 hx (hb hby at_8) (l' := #[.val (.int pl), .val (.int pm), .val (.int px), .val (.int py), .val (.int pk), .val (.int (3 : Int32)), .val (.int (0 : Int32)), .unset, .unset, .unset, .unset, .unset, .unset, .unset, .unset, .unset, .unset, .unset, .unset, .unset]) rfl (q := 10) rfl ?_
      refine Go.iloadN X0 hx (hb hby at_10) rfl (q := 11) rfl ?_
      refine Go.i2b X0 hx (hb hby at_11) rfl (q := 12) rfl ?_
      have hA0 := bb px
      generalize (px.toInt8.toInt32) = A0 at hA0 ⊢
      refine Go.istore X0 hx (hb hby at_12) (l' := #[.val (.int pl), .val (.int pm), .val (.int px), .val (.int py), .val (.int pk), .val (.int (3 : Int32)), .val (.int (0 : Int32)), .val (.int A0), .unset, .unset, .unset, .unset, .unset, .unset, .unset, .unset, .unset, .unset, .unset, .unset]) rfl (q := 14) rfl ?_
      refine Go.iloadN X0 hx (hb hby at_14) rfl (q := 15) rfl ?_
      refine Go.bipush X0 hx (hb hby at_15) (r := (8 : Int32)) rfl (q := 17) rfl ?_
      refine Go.iushr X0 hx (hb hby at_17) rfl (q := 18) rfl ?_
      refine Go.i2b X0 hx (hb hby at_18) rfl (q := 19) rfl ?_
      have hA1 := bb ((px.toUInt32 >>> ((8 : Int32) &&& 31).toUInt32).toInt32)
      generalize (((px.toUInt32 >>> ((8 : Int32) &&& 31).toUInt32).toInt32).toInt8.toInt32) = A1 at hA1 ⊢
      refine Go.istore X0 hx (hb hby at_19) (l' := #[.val (.int pl), .val (.int pm), .val (.int px), .val (.int py), .val (.int pk), .val (.int (3 : Int32)), .val (.int (0 : Int32)), .val (.int A0), .val (.int A1), .unset, .unset, .unset, .unset, .unset, .unset, .unset, .unset, .unset, .unset, .unset]) rfl (q := 21) rfl ?_
      refine Go.iloadN X0 hx (hb hby at_21) rfl (q := 22) rfl ?_
      refine Go.bipush X0 hx (hb hby at_22) (r := (16 : Int32)) rfl (q := 24) rfl ?_
      refine Go.iushr X0 hx (hb hby at_24) rfl (q := 25) rfl ?_
      refine Go.i2b X0 hx (hb hby at_25) rfl (q := 26) rfl ?_
      have hA2 := bb ((px.toUInt32 >>> ((16 : Int32) &&& 31).toUInt32).toInt32)
      generalize (((px.toUInt32 >>> ((16 : Int32) &&& 31).toUInt32).toInt32).toInt8.toInt32) = A2 at hA2 ⊢
      refine Go.istore X0 hx (hb hby at_26) (l' := #[.val (.int pl), .val (.int pm), .val (.int px), .val (.int py), .val (.int pk), .val (.int (3 : Int32)), .val (.int (0 : Int32)), .val (.int A0), .val (.int A1), .val (.int A2), .unset, .unset, .unset, .unset, .unset, .unset, .unset, .unset, .unset, .unset]) rfl (q := 28) rfl ?_
      refine Go.iload X0 hx (hb hby at_28) rfl (q := 30) rfl ?_
      refine Go.iconst X0 hx (hb hby at_30) (r := (1 : Int32)) rfl (q := 31) rfl ?_
      refine Go.iand X0 hx (hb hby at_31) rfl (q := 32) rfl ?_
      have J42 : ∀ (C0 : Int32), (C0.toInt8.toInt32) = C0 → Go pp ee below (KK ss (Q_law0 Z pl pm px py pk h0) room_1.cells room_1.slots) (s₁.setTop (mkF mm 42 #[.val (.int pl), .val (.int pm), .val (.int px), .val (.int py), .val (.int pk), .val (.int (3 : Int32)), .val (.int (0 : Int32)), .val (.int A0), .val (.int A1), .val (.int A2), .unset, .unset, .unset, .unset, .unset, .unset, .unset, .unset, .unset, .unset] [(.int C0)])) := by
        intro C0 hC0
        refine Go.istore X0 hx (hb hby at_42) (l' := #[.val (.int pl), .val (.int pm), .val (.int px), .val (.int py), .val (.int pk), .val (.int (3 : Int32)), .val (.int (0 : Int32)), .val (.int A0), .val (.int A1), .val (.int A2), .val (.int C0), .unset, .unset, .unset, .unset, .unset, .unset, .unset, .unset, .unset]) rfl (q := 44) rfl ?_
        refine Go.iload X0 hx (hb hby at_44) rfl (q := 46) rfl ?_
        refine Go.iconst X0 hx (hb hby at_46) (r := (2 : Int32)) rfl (q := 47) rfl ?_
        refine Go.iand X0 hx (hb hby at_47) rfl (q := 48) rfl ?_
        have J61 : ∀ (C1 : Int32), (C1.toInt8.toInt32) = C1 → Go pp ee below (KK ss (Q_law0 Z pl pm px py pk h0) room_1.cells room_1.slots) (s₁.setTop (mkF mm 61 #[.val (.int pl), .val (.int pm), .val (.int px), .val (.int py), .val (.int pk), .val (.int (3 : Int32)), .val (.int (0 : Int32)), .val (.int A0), .val (.int A1), .val (.int A2), .val (.int C0), .unset, .unset, .unset, .unset, .unset, .unset, .unset, .unset, .unset] [(.int C1)])) := by
          intro C1 hC1
          refine Go.istore X0 hx (hb hby at_61) (l' := #[.val (.int pl), .val (.int pm), .val (.int px), .val (.int py), .val (.int pk), .val (.int (3 : Int32)), .val (.int (0 : Int32)), .val (.int A0), .val (.int A1), .val (.int A2), .val (.int C0), .val (.int C1), .unset, .unset, .unset, .unset, .unset, .unset, .unset, .unset]) rfl (q := 63) rfl ?_
          refine Go.iload X0 hx (hb hby at_63) rfl (q := 65) rfl ?_
          refine Go.iconst X0 hx (hb hby at_65) (r := (4 : Int32)) rfl (q := 66) rfl ?_
          refine Go.iand X0 hx (hb hby at_66) rfl (q := 67) rfl ?_
          have J80 : ∀ (C2 : Int32), (C2.toInt8.toInt32) = C2 → Go pp ee below (KK ss (Q_law0 Z pl pm px py pk h0) room_1.cells room_1.slots) (s₁.setTop (mkF mm 80 #[.val (.int pl), .val (.int pm), .val (.int px), .val (.int py), .val (.int pk), .val (.int (3 : Int32)), .val (.int (0 : Int32)), .val (.int A0), .val (.int A1), .val (.int A2), .val (.int C0), .val (.int C1), .unset, .unset, .unset, .unset, .unset, .unset, .unset, .unset] [(.int C2)])) := by
            intro C2 hC2
            refine Go.istore X0 hx (hb hby at_80) (l' := #[.val (.int pl), .val (.int pm), .val (.int px), .val (.int py), .val (.int pk), .val (.int (3 : Int32)), .val (.int (0 : Int32)), .val (.int A0), .val (.int A1), .val (.int A2), .val (.int C0), .val (.int C1), .val (.int C2), .unset, .unset, .unset, .unset, .unset, .unset, .unset]) rfl (q := 82) rfl ?_
            refine Go.iload X0 hx (hb hby at_82) rfl (q := 84) rfl ?_
            refine Go.iload X0 hx (hb hby at_84) rfl (q := 86) rfl ?_
            refine Go.iload X0 hx (hb hby at_86) rfl (q := 88) rfl ?_
            refine Go.iload X0 hx (hb hby at_88) rfl (q := 90) rfl ?_
            refine Go.callS X0 hx hZ hown (wd0 hw) (wd1 hw) (wd2 hw) (wd3 hw) (by decide) (make3 l Z a0 hw A0 A1 A2 h0 O0 hA0 hA1 hA2) e0 (by rw [hml]; rfl) (hb hby at_90) (argsL := [(.int (3 : Int32)), (.int A0), (.int A1), (.int A2)]) (rest := []) (lenOf pd3 rfl) rfl rfl (W := 0) (by first | exact Nat.le_refl _ | decide) (by decide) (by decide) (by decide) (by decide) ?_
            intro v322 T322 L322 X322 hQ322
            obtain ⟨h322, e322⟩ : ∃ z, T322.heap = z := ⟨_, rfl⟩
            rw [e322] at hQ322
            obtain ⟨b_322, kb_322, rfl, N322q, K322, fr322_b, P322_0, P322_1⟩ := hQ322
            have N322 := Fr.app N0 N322q
            have g_b_322 : Z.heap.size ≤ b_322 := Nat.le_trans O0.1 fr322_b
            have OK322 := ext_keep O0 K322 all0
            refine Go.astore X322 hx (hb hby at_93) rfl (l' := #[.val (.int pl), .val (.int pm), .val (.int px), .val (.int py), .val (.int pk), .val (.int (3 : Int32)), .val (.int (0 : Int32)), .val (.int A0), .val (.int A1), .val (.int A2), .val (.int C0), .val (.int C1), .val (.int C2), .val (.ref b_322), .unset, .unset, .unset, .unset, .unset, .unset]) rfl (q := 95) rfl ?_
            refine Go.iload X322 hx (hb hby at_95) rfl (q := 97) rfl ?_
            refine Go.iload X322 hx (hb hby at_97) rfl (q := 99) rfl ?_
            refine Go.iload X322 hx (hb hby at_99) rfl (q := 101) rfl ?_
            refine Go.iload X322 hx (hb hby at_101) rfl (q := 103) rfl ?_
            refine Go.callS X322 hx hZ hown (wd0 hw) (wd1 hw) (wd2 hw) (wd3 hw) (by decide) (make3 l Z a0 hw A0 A1 A2 h322 OK322 hA0 hA1 hA2) e322 (by rw [hml]; rfl) (hb hby at_103) (argsL := [(.int (3 : Int32)), (.int A0), (.int A1), (.int A2)]) (rest := []) (lenOf pd3 rfl) rfl rfl (W := 0) (by first | exact Nat.le_refl _ | decide) (by decide) (by decide) (by decide) (by decide) ?_
            intro v323 T323 L323 X323 hQ323
            obtain ⟨h323, e323⟩ : ∃ z, T323.heap = z := ⟨_, rfl⟩
            rw [e323] at hQ323
            obtain ⟨b_323, kb_323, rfl, N323q, K323, fr323_b, P323_0, P323_1⟩ := hQ323
            have N323 := Fr.app N322 N323q
            have ne_b_322_b_323 : b_322 ≠ b_323 := ne_new P322_0.lt fr323_b
            have g_b_323 : Z.heap.size ≤ b_323 := Nat.le_trans OK322.1 fr323_b
            replace P322_0 := P322_0.keep K323 nin0
            replace P322_1 := P322_1.keep K323
            have OK323 := ext_keep OK322 K323 all0
            refine Go.astore X323 hx (hb hby at_106) rfl (l' := #[.val (.int pl), .val (.int pm), .val (.int px), .val (.int py), .val (.int pk), .val (.int (3 : Int32)), .val (.int (0 : Int32)), .val (.int A0), .val (.int A1), .val (.int A2), .val (.int C0), .val (.int C1), .val (.int C2), .val (.ref b_322), .val (.ref b_323), .unset, .unset, .unset, .unset, .unset]) rfl (q := 108) rfl ?_
            refine Go.iload X323 hx (hb hby at_108) rfl (q := 110) rfl ?_
            refine Go.iload X323 hx (hb hby at_110) rfl (q := 112) rfl ?_
            refine Go.iload X323 hx (hb hby at_112) rfl (q := 114) rfl ?_
            refine Go.iload X323 hx (hb hby at_114) rfl (q := 116) rfl ?_
            refine Go.callS X323 hx hZ hown (wd0 hw) (wd1 hw) (wd2 hw) (wd3 hw) (by decide) (make0 l Z a0 hw C0 C1 C2 h323 OK323 hC0 hC1 hC2) e323 (by rw [hml]; rfl) (hb hby at_116) (argsL := [(.int (0 : Int32)), (.int C0), (.int C1), (.int C2)]) (rest := []) (lenOf pd3 rfl) rfl rfl (W := 0) (by first | exact Nat.le_refl _ | decide) (by decide) (by decide) (by decide) (by decide) ?_
            intro v324 T324 L324 X324 hQ324
            obtain ⟨h324, e324⟩ : ∃ z, T324.heap = z := ⟨_, rfl⟩
            rw [e324] at hQ324
            obtain ⟨b_324, kb_324, rfl, N324q, K324, fr324_b, P324_0, P324_1⟩ := hQ324
            have N324 := Fr.app N323 N324q
            have ne_b_322_b_324 : b_322 ≠ b_324 := ne_new P322_0.lt fr324_b
            have ne_b_323_b_324 : b_323 ≠ b_324 := ne_new P323_0.lt fr324_b
            have g_b_324 : Z.heap.size ≤ b_324 := Nat.le_trans OK323.1 fr324_b
            replace P322_0 := P322_0.keep K324 nin0
            replace P322_1 := P322_1.keep K324
            replace P323_0 := P323_0.keep K324 nin0
            replace P323_1 := P323_1.keep K324
            have OK324 := ext_keep OK323 K324 all0
            refine Go.astore X324 hx (hb hby at_119) rfl (l' := #[.val (.int pl), .val (.int pm), .val (.int px), .val (.int py), .val (.int pk), .val (.int (3 : Int32)), .val (.int (0 : Int32)), .val (.int A0), .val (.int A1), .val (.int A2), .val (.int C0), .val (.int C1), .val (.int C2), .val (.ref b_322), .val (.ref b_323), .val (.ref b_324), .unset, .unset, .unset, .unset]) rfl (q := 121) rfl ?_
            refine Go.aload X324 hx (hb hby at_121) rfl rfl (q := 123) rfl ?_
            refine Go.callS X324 hx hZ hown (wd5 hw) (wd6 hw) (wd7 hw) (wd8 hw) (by decide) (of3 l Z a0 hw b_322 (kb_322) A0 A1 A2 h324 OK324 P322_0 P322_1) e324 (by rw [hml]; rfl) (hb hby at_123) (argsL := [(.ref b_322)]) (rest := []) (lenOf pd4 rfl) rfl rfl (W := 0) (by first | exact Nat.le_refl _ | decide) (by decide) (by decide) (by decide) (by decide) ?_
            intro v325 T325 L325 X325 hQ325
            obtain ⟨h325, e325⟩ : ∃ z, T325.heap = z := ⟨_, rfl⟩
            rw [e325] at hQ325
            obtain ⟨b_325, cn_325, kc_325, rfl, N325q, K325, fr325_b, fr325_cn, P325_0, P325_1, P325_2, P325_3, P325_4, P325_5⟩ := hQ325
            have N325 := Fr.app N324 N325q
            have ne_b_322_b_325 : b_322 ≠ b_325 := ne_new P322_0.lt fr325_b
            have ne_b_323_b_325 : b_323 ≠ b_325 := ne_new P323_0.lt fr325_b
            have ne_b_324_b_325 : b_324 ≠ b_325 := ne_new P324_0.lt fr325_b
            have g_b_325 : Z.heap.size ≤ b_325 := Nat.le_trans OK324.1 fr325_b
            have ne_b_322_cn_325 : b_322 ≠ cn_325 := ne_new P322_0.lt fr325_cn
            have ne_b_323_cn_325 : b_323 ≠ cn_325 := ne_new P323_0.lt fr325_cn
            have ne_b_324_cn_325 : b_324 ≠ cn_325 := ne_new P324_0.lt fr325_cn
            have g_cn_325 : Z.heap.size ≤ cn_325 := Nat.le_trans OK324.1 fr325_cn
            replace P322_0 := P322_0.keep K325 nin0
            replace P322_1 := P322_1.keep K325
            replace P323_0 := P323_0.keep K325 nin0
            replace P323_1 := P323_1.keep K325
            replace P324_0 := P324_0.keep K325 nin0
            replace P324_1 := P324_1.keep K325
            have OK325 := ext_keep OK324 K325 all0
            refine Go.astore X325 hx (hb hby at_126) rfl (l' := #[.val (.int pl), .val (.int pm), .val (.int px), .val (.int py), .val (.int pk), .val (.int (3 : Int32)), .val (.int (0 : Int32)), .val (.int A0), .val (.int A1), .val (.int A2), .val (.int C0), .val (.int C1), .val (.int C2), .val (.ref b_322), .val (.ref b_323), .val (.ref b_324), .val (.ref b_325), .unset, .unset, .unset]) rfl (q := 128) rfl ?_
            refine Go.iload X325 hx (hb hby at_128) rfl (q := 130) rfl ?_
            refine Go.ifNo X325 hx (hb hby at_130) (by decide) (q := 133) rfl ?_
            refine Go.aload X325 hx (hb hby at_133) rfl rfl (q := 135) rfl ?_
            refine Go.iload X325 hx (hb hby at_135) rfl (q := 137) rfl ?_
            refine Go.iconst X325 hx (hb hby at_137) (r := (1 : Int32)) rfl (q := 138) rfl ?_
            refine Go.isub X325 hx (hb hby at_138) (r := (2 : Int32)) rfl (q := 139) rfl ?_
            refine Go.aload X325 hx (hb hby at_139) rfl rfl (q := 141) rfl ?_
            refine Go.iload X325 hx (hb hby at_141) rfl (q := 143) rfl ?_
            refine Go.iconst X325 hx (hb hby at_143) (r := (1 : Int32)) rfl (q := 144) rfl ?_
            refine Go.isub X325 hx (hb hby at_144) (r := (2 : Int32)) rfl (q := 145) rfl ?_
            refine Go.bal X325 hx hZ e325 P322_0 ⟨by decide, by decide⟩ (v := (.int A2)) rfl (hb hby at_145) ?_
            refine Go.iconst X325 hx (hb hby at_146) (r := (-1 : Int32)) rfl (q := 147) rfl ?_
            refine Go.ixor X325 hx (hb hby at_147) rfl (q := 148) rfl ?_
            refine Go.i2b X325 hx (hb hby at_148) rfl (q := 149) rfl ?_
            refine Go.bst X325 hx hZ e325 P322_0 ⟨by decide, by decide⟩ (i := 2) rfl (Nat.le_of_ble_eq_true rfl) (hb hby at_149) ?_
            intro T326 h326 X326 e326 W326 V326
            rw [bb (A2 ^^^ (-1 : Int32))] at V326
            replace V326 : Arv Z h326 b_322 kb_322 .byte (3 : Int32) [(.int A0), (.int A1), (.int ((A2 ^^^ (-1 : Int32)).toInt8.toInt32))] (.int (0 : Int32)) := V326
            have N326 := Fr.snoc X326 N325 g_b_322
            replace P322_1 := P322_1.wr W326
            replace P323_0 := P323_0.other W326 (Ne.symm ne_b_322_b_323)
            replace P323_1 := P323_1.wr W326
            replace P324_0 := P324_0.other W326 (Ne.symm ne_b_322_b_324)
            replace P324_1 := P324_1.wr W326
            replace P325_0 := P325_0.wr W326
            replace P325_1 := P325_1.other W326 (Or.inl (Ne.symm ne_b_322_b_325))
            replace P325_2 := P325_2.other W326 (Ne.symm ne_b_322_cn_325)
            replace P325_3 := P325_3.other W326 (Or.inl (Ne.symm ne_b_322_b_325))
            replace P325_4 := P325_4.other W326 (Or.inl (Ne.symm ne_b_322_b_325))
            replace P325_5 := P325_5.other W326 (Or.inl (Ne.symm ne_b_322_b_325))
            have OW326 := ext_wr OK325 W326 g_b_322
            refine Go.aload X326 hx (hb hby at_150) rfl rfl (q := 152) rfl ?_
            refine Go.callS X326 hx hZ hown (wd5 hw) (wd6 hw) (wd7 hw) (wd8 hw) (by decide) (of3 l Z a0 hw b_323 (kb_323) A0 A1 A2 h326 OW326 P323_0 P323_1) e326 (by rw [hml]; rfl) (hb hby at_152) (argsL := [(.ref b_323)]) (rest := []) (lenOf pd4 rfl) rfl rfl (W := 0) (by first | exact Nat.le_refl _ | decide) (by decide) (by decide) (by decide) (by decide) ?_
            intro v327 T327 L327 X327 hQ327
            obtain ⟨h327, e327⟩ : ∃ z, T327.heap = z := ⟨_, rfl⟩
            rw [e327] at hQ327
            obtain ⟨b_327, cn_327, kc_327, rfl, N327q, K327, fr327_b, fr327_cn, P327_0, P327_1, P327_2, P327_3, P327_4, P327_5⟩ := hQ327
            have N327 := Fr.app N326 N327q
            have ne_b_322_b_327 : b_322 ≠ b_327 := ne_new P322_1.lt fr327_b
            have ne_b_323_b_327 : b_323 ≠ b_327 := ne_new P323_0.lt fr327_b
            have ne_b_324_b_327 : b_324 ≠ b_327 := ne_new P324_0.lt fr327_b
            have ne_b_325_b_327 : b_325 ≠ b_327 := ne_new P325_0.lt fr327_b
            have ne_cn_325_b_327 : cn_325 ≠ b_327 := ne_new P325_2.lt fr327_b
            have g_b_327 : Z.heap.size ≤ b_327 := Nat.le_trans OW326.1 fr327_b
            have ne_b_322_cn_327 : b_322 ≠ cn_327 := ne_new P322_1.lt fr327_cn
            have ne_b_323_cn_327 : b_323 ≠ cn_327 := ne_new P323_0.lt fr327_cn
            have ne_b_324_cn_327 : b_324 ≠ cn_327 := ne_new P324_0.lt fr327_cn
            have ne_b_325_cn_327 : b_325 ≠ cn_327 := ne_new P325_0.lt fr327_cn
            have ne_cn_325_cn_327 : cn_325 ≠ cn_327 := ne_new P325_2.lt fr327_cn
            have g_cn_327 : Z.heap.size ≤ cn_327 := Nat.le_trans OW326.1 fr327_cn
            replace P322_1 := P322_1.keep K327
            replace P323_0 := P323_0.keep K327 nin0
            replace P323_1 := P323_1.keep K327
            replace P324_0 := P324_0.keep K327 nin0
            replace P324_1 := P324_1.keep K327
            replace P325_0 := P325_0.keep K327
            replace P325_1 := P325_1.keep K327 nin0
            replace P325_2 := P325_2.keep K327 nin0
            replace P325_3 := P325_3.keep K327 nin0
            replace P325_4 := P325_4.keep K327 nin0
            replace P325_5 := P325_5.keep K327 nin0
            replace V326 := V326.keep K327 nin0
            have OK327 := ext_keep OW326 K327 all0
            refine Go.astore X327 hx (hb hby at_155) rfl (l' := #[.val (.int pl), .val (.int pm), .val (.int px), .val (.int py), .val (.int pk), .val (.int (3 : Int32)), .val (.int (0 : Int32)), .val (.int A0), .val (.int A1), .val (.int A2), .val (.int C0), .val (.int C1), .val (.int C2), .val (.ref b_322), .val (.ref b_323), .val (.ref b_324), .val (.ref b_325), .val (.ref b_327), .unset, .unset]) rfl (q := 157) rfl ?_
            refine Go.aload X327 hx (hb hby at_157) rfl rfl (q := 159) rfl ?_
            refine Go.callS X327 hx hZ hown (wd5 hw) (wd6 hw) (wd7 hw) (wd8 hw) (by decide) (of0 l Z a0 hw b_324 (kb_324) h327 OK327 P324_0 P324_1) e327 (by rw [hml]; rfl) (hb hby at_159) (argsL := [(.ref b_324)]) (rest := []) (lenOf pd4 rfl) rfl rfl (W := 0) (by first | exact Nat.le_refl _ | decide) (by decide) (by decide) (by decide) (by decide) ?_
            intro v328 T328 L328 X328 hQ328
            obtain ⟨h328, e328⟩ : ∃ z, T328.heap = z := ⟨_, rfl⟩
            rw [e328] at hQ328
            obtain ⟨b_328, cn_328, kc_328, rfl, N328q, K328, fr328_b, fr328_cn, P328_0, P328_1, P328_2, P328_3, P328_4, P328_5⟩ := hQ328
            have N328 := Fr.app N327 N328q
            have ne_b_322_b_328 : b_322 ≠ b_328 := ne_new P322_1.lt fr328_b
            have ne_b_323_b_328 : b_323 ≠ b_328 := ne_new P323_0.lt fr328_b
            have ne_b_324_b_328 : b_324 ≠ b_328 := ne_new P324_0.lt fr328_b
            have ne_b_325_b_328 : b_325 ≠ b_328 := ne_new P325_0.lt fr328_b
            have ne_cn_325_b_328 : cn_325 ≠ b_328 := ne_new P325_2.lt fr328_b
            have ne_b_327_b_328 : b_327 ≠ b_328 := ne_new P327_0.lt fr328_b
            have ne_cn_327_b_328 : cn_327 ≠ b_328 := ne_new P327_2.lt fr328_b
            have g_b_328 : Z.heap.size ≤ b_328 := Nat.le_trans OK327.1 fr328_b
            have ne_b_322_cn_328 : b_322 ≠ cn_328 := ne_new P322_1.lt fr328_cn
            have ne_b_323_cn_328 : b_323 ≠ cn_328 := ne_new P323_0.lt fr328_cn
            have ne_b_324_cn_328 : b_324 ≠ cn_328 := ne_new P324_0.lt fr328_cn
            have ne_b_325_cn_328 : b_325 ≠ cn_328 := ne_new P325_0.lt fr328_cn
            have ne_cn_325_cn_328 : cn_325 ≠ cn_328 := ne_new P325_2.lt fr328_cn
            have ne_b_327_cn_328 : b_327 ≠ cn_328 := ne_new P327_0.lt fr328_cn
            have ne_cn_327_cn_328 : cn_327 ≠ cn_328 := ne_new P327_2.lt fr328_cn
            have g_cn_328 : Z.heap.size ≤ cn_328 := Nat.le_trans OK327.1 fr328_cn
            replace P322_1 := P322_1.keep K328
            replace P323_0 := P323_0.keep K328 nin0
            replace P323_1 := P323_1.keep K328
            replace P324_0 := P324_0.keep K328 nin0
            replace P324_1 := P324_1.keep K328
            replace P325_0 := P325_0.keep K328
            replace P325_1 := P325_1.keep K328 nin0
            replace P325_2 := P325_2.keep K328 nin0
            replace P325_3 := P325_3.keep K328 nin0
            replace P325_4 := P325_4.keep K328 nin0
            replace P325_5 := P325_5.keep K328 nin0
            replace V326 := V326.keep K328 nin0
            replace P327_0 := P327_0.keep K328
            replace P327_1 := P327_1.keep K328 nin0
            replace P327_2 := P327_2.keep K328 nin0
            replace P327_3 := P327_3.keep K328 nin0
            replace P327_4 := P327_4.keep K328 nin0
            replace P327_5 := P327_5.keep K328 nin0
            have OK328 := ext_keep OK327 K328 all0
            refine Go.astore X328 hx (hb hby at_162) rfl (l' := #[.val (.int pl), .val (.int pm), .val (.int px), .val (.int py), .val (.int pk), .val (.int (3 : Int32)), .val (.int (0 : Int32)), .val (.int A0), .val (.int A1), .val (.int A2), .val (.int C0), .val (.int C1), .val (.int C2), .val (.ref b_322), .val (.ref b_323), .val (.ref b_324), .val (.ref b_325), .val (.ref b_327), .val (.ref b_328), .unset]) rfl (q := 164) rfl ?_
            refine Go.aload X328 hx (hb hby at_164) rfl rfl (q := 166) rfl ?_
            refine Go.virt X328 hx hZ hown (wd36 hw) (wd37 hw) (notFace_of_selects (args := #[]) (mvT hZ (wd39 hw))) (wd39 hw) (wd38 hw) (wd7 hw) (wd40 hw) (by decide) (clen l Z a0 hw b_325 cn_325 (kc_325) ((3 : Int32)) ([(.int A0), (.int A1), (.int A2)]) h328 OK328 P325_1 P325_2) e328 P325_0 (by rw [hml]; rfl) (hb hby at_166) (argsL := []) (rest := []) (lenOf pd5 rfl) rfl rfl (W := 0) (by first | exact Nat.le_refl _ | decide) (by decide) (by decide) (by decide) (by decide) ?_
            intro v329 T329 L329 X329 hQ329
            obtain ⟨rfl, N329q, e329⟩ := hQ329
            have N329 := Fr.app N328 N329q
            refine Go.iload X329 hx (hb hby at_169) rfl (q := 171) rfl ?_
            refine Go.icmpNo X329 hx (hb hby at_171) (by decide) (q := 174) rfl ?_
            refine Go.aload X329 hx (hb hby at_174) rfl rfl (q := 176) rfl ?_
            refine Go.virt X329 hx hZ hown (wd36 hw) (wd37 hw) (notFace_of_selects (args := #[]) (mvT hZ (wd39 hw))) (wd39 hw) (wd38 hw) (wd7 hw) (wd40 hw) (by decide) (clen l Z a0 hw b_328 cn_328 (kc_328) ((0 : Int32)) ([]) h328 OK328 P328_1 P328_2) e329 P328_0 (by rw [hml]; rfl) (hb hby at_176) (argsL := []) (rest := []) (lenOf pd5 rfl) rfl rfl (W := 0) (by first | exact Nat.le_refl _ | decide) (by decide) (by decide) (by decide) (by decide) ?_
            intro v330 T330 L330 X330 hQ330
            obtain ⟨rfl, N330q, e330⟩ := hQ330
            have N330 := Fr.app N329 N330q
            refine Go.iload X330 hx (hb hby at_179) rfl (q := 181) rfl ?_
            refine Go.icmpNo X330 hx (hb hby at_181) (by decide) (q := 184) rfl ?_
            refine Go.aload X330 hx (hb hby at_184) rfl rfl (q := 186) rfl ?_
            refine Go.virt X330 hx hZ hown (wd41 hw) (wd42 hw) (notFace_of_selects (args := #[]) (mvT hZ (wd44 hw))) (wd44 hw) (wd43 hw) (wd7 hw) (wd45 hw) (by decide) (clast l Z a0 hw b_325 h328 OK328 P325_3) e330 P325_0 (by rw [hml]; rfl) (hb hby at_186) (argsL := []) (rest := []) (lenOf pd6 rfl) rfl rfl (W := 0) (by first | exact Nat.le_refl _ | decide) (by decide) (by decide) (by decide) (by decide) ?_
            intro v331 T331 L331 X331 hQ331
            obtain ⟨rfl, N331q, e331⟩ := hQ331
            have N331 := Fr.app N330 N331q
            refine Go.ifnonnullNo X331 hx (hb hby at_189) (q := 192) rfl ?_
            refine Go.aload X331 hx (hb hby at_192) rfl rfl (q := 194) rfl ?_
            refine Go.virt X331 hx hZ hown (wd46 hw) (wd47 hw) (notFace_of_selects (args := #[]) (mvT hZ (wd49 hw))) (wd49 hw) (wd48 hw) (wd7 hw) (wd50 hw) (by decide) (cshar l Z a0 hw b_325 h328 OK328 P325_4) e331 P325_0 (by rw [hml]; rfl) (hb hby at_194) (argsL := []) (rest := []) (lenOf pd7 rfl) rfl rfl (W := 0) (by first | exact Nat.le_refl _ | decide) (by decide) (by decide) (by decide) (by decide) ?_
            intro v332 T332 L332 X332 hQ332
            obtain ⟨rfl, N332q, e332⟩ := hQ332
            have N332 := Fr.app N331 N332q
            refine Go.ifNo X332 hx (hb hby at_197) (by decide) (q := 200) rfl ?_
            refine Go.aload X332 hx (hb hby at_200) rfl rfl (q := 202) rfl ?_
            refine Go.virt X332 hx hZ hown (wd51 hw) (wd52 hw) (notFace_of_selects (args := #[]) (mvT hZ (wd54 hw))) (wd54 hw) (wd53 hw) (wd7 hw) (wd55 hw) (by decide) (cremo l Z a0 hw b_325 h328 OK328 P325_5) e332 P325_0 (by rw [hml]; rfl) (hb hby at_202) (argsL := []) (rest := []) (lenOf pd7 rfl) rfl rfl (W := 0) (by first | exact Nat.le_refl _ | decide) (by decide) (by decide) (by decide) (by decide) ?_
            intro v333 T333 L333 X333 hQ333
            obtain ⟨rfl, N333q, e333⟩ := hQ333
            have N333 := Fr.app N332 N333q
            refine Go.ifNo X333 hx (hb hby at_205) (by decide) (q := 208) rfl ?_
            refine Go.iconst X333 hx (hb hby at_208) (r := (1 : Int32)) rfl (q := 209) rfl ?_
            refine Go.goto X333 hx (hb hby at_209) (q := 213) (by decide) (by decide) ?_
            refine Go.istore X333 hx (hb hby at_213) (l' := #[.val (.int pl), .val (.int pm), .val (.int px), .val (.int py), .val (.int pk), .val (.int (3 : Int32)), .val (.int (0 : Int32)), .val (.int A0), .val (.int A1), .val (.int A2), .val (.int C0), .val (.int C1), .val (.int C2), .val (.ref b_322), .val (.ref b_323), .val (.ref b_324), .val (.ref b_325), .val (.ref b_327), .val (.ref b_328), .val (.int (1 : Int32))]) rfl (q := 215) rfl ?_
            refine Go.iload X333 hx (hb hby at_215) rfl (q := 217) rfl ?_
            refine Go.ifNo X333 hx (hb hby at_217) (by decide) (q := 220) rfl ?_
            refine Go.aload X333 hx (hb hby at_220) rfl rfl (q := 222) rfl ?_
            refine Go.aload X333 hx (hb hby at_222) rfl rfl (q := 224) rfl ?_
            refine Go.virt X333 hx hZ hown (wd56 hw) (wd57 hw) (notFace_of_selects (args := #[]) (mvT hZ (wd59 hw))) (wd59 hw) (wd58 hw) (wd7 hw) (wd60 hw) (by decide) (chs3_3 l Z a0 hw b_325 b_327 cn_325 cn_327 (kc_325) (kc_327) A0 A1 A2 A0 A1 A2 h328 OK328 P325_1 P327_1 P325_2 P327_2 ne_cn_325_cn_327 rfl rfl rfl) e333 P325_0 (by rw [hml]; rfl) (hb hby at_224) (argsL := [(.ref b_327)]) (rest := []) (lenOf pd8 rfl) rfl rfl (W := 0) (by first | exact Nat.le_refl _ | decide) (by decide) (by decide) (by decide) (by decide) ?_
            intro v334 T334 L334 X334 hQ334
            obtain ⟨rfl, N334q, e334⟩ := hQ334
            have N334 := Fr.app N333 N334q
            refine Go.ifNo X334 hx (hb hby at_227) (by decide) (q := 230) rfl ?_
            refine Go.iconst X334 hx (hb hby at_230) (r := (1 : Int32)) rfl (q := 231) rfl ?_
            refine Go.goto X334 hx (hb hby at_231) (q := 235) (by decide) (by decide) ?_
            refine Go.istore X334 hx (hb hby at_235) (l' := #[.val (.int pl), .val (.int pm), .val (.int px), .val (.int py), .val (.int pk), .val (.int (3 : Int32)), .val (.int (0 : Int32)), .val (.int A0), .val (.int A1), .val (.int A2), .val (.int C0), .val (.int C1), .val (.int C2), .val (.ref b_322), .val (.ref b_323), .val (.ref b_324), .val (.ref b_325), .val (.ref b_327), .val (.ref b_328), .val (.int (1 : Int32))]) rfl (q := 237) rfl ?_
            refine Go.iload X334 hx (hb hby at_237) rfl (q := 239) rfl ?_
            refine Go.ifNo X334 hx (hb hby at_239) (by decide) (q := 242) rfl ?_
            refine Go.aload X334 hx (hb hby at_242) rfl rfl (q := 244) rfl ?_
            refine Go.aload X334 hx (hb hby at_244) rfl rfl (q := 246) rfl ?_
            refine Go.virt X334 hx hZ hown (wd56 hw) (wd57 hw) (notFace_of_selects (args := #[]) (mvT hZ (wd59 hw))) (wd59 hw) (wd58 hw) (wd7 hw) (wd60 hw) (by decide) (chsd3_0 l Z a0 hw b_325 b_328 cn_325 cn_328 (kc_325) (kc_328) A0 A1 A2 h328 OK328 P325_1 P328_1 P325_2 P328_2 ne_cn_325_cn_328) e334 P325_0 (by rw [hml]; rfl) (hb hby at_246) (argsL := [(.ref b_328)]) (rest := []) (lenOf pd8 rfl) rfl rfl (W := 0) (by first | exact Nat.le_refl _ | decide) (by decide) (by decide) (by decide) (by decide) ?_
            intro v335 T335 L335 X335 hQ335
            obtain ⟨rfl, N335q, e335⟩ := hQ335
            have N335 := Fr.app N334 N335q
            refine Go.aload X335 hx (hb hby at_249) rfl rfl (q := 251) rfl ?_
            refine Go.aload X335 hx (hb hby at_251) rfl rfl (q := 253) rfl ?_
            refine Go.callS X335 hx hZ hown (wd69 hw) (wd70 hw) (wd2 hw) (wd71 hw) (by decide) (csamd3_0 l Z a0 hw b_323 b_324 (kb_323) (kb_324) A0 A1 A2 h328 OK328 P323_0 P324_0) e335 (by rw [hml]; rfl) (hb hby at_253) (argsL := [(.ref b_323), (.ref b_324)]) (rest := [(.int (0 : Int32))]) (lenOf pd2 rfl) rfl rfl (W := 1) (by first | exact Nat.le_refl _ | decide) (by decide) (by decide) (by decide) (by decide) ?_
            intro v336 T336 L336 X336 hQ336
            obtain ⟨rfl, N336q, e336⟩ := hQ336
            have N336 := Fr.app N335 N336q
            refine Go.icmpNo X336 hx (hb hby at_256) (by decide) (q := 259) rfl ?_
            refine Go.iconst X336 hx (hb hby at_259) (r := (1 : Int32)) rfl (q := 260) rfl ?_
            refine Go.goto X336 hx (hb hby at_260) (q := 264) (by decide) (by decide) ?_
            refine Go.istore X336 hx (hb hby at_264) (l' := #[.val (.int pl), .val (.int pm), .val (.int px), .val (.int py), .val (.int pk), .val (.int (3 : Int32)), .val (.int (0 : Int32)), .val (.int A0), .val (.int A1), .val (.int A2), .val (.int C0), .val (.int C1), .val (.int C2), .val (.ref b_322), .val (.ref b_323), .val (.ref b_324), .val (.ref b_325), .val (.ref b_327), .val (.ref b_328), .val (.int (1 : Int32))]) rfl (q := 266) rfl ?_
            refine Go.iload X336 hx (hb hby at_266) rfl (q := 268) rfl ?_
            exact Go.retI X336 hx hret hlk (by simp) rfl (hb hby at_268) e336 (by decide) (by decide) ⟨rfl, N336⟩
          by_cases hc337 : (pk &&& (4 : Int32)) = (0 : Int32)
          · refine Go.ifNo X0 hx (hb hby at_67) (Jvm.Free.XT.i0_ne_f hc337) (q := 70) rfl ?_
            refine Go.iload X0 hx (hb hby at_70) rfl (q := 72) rfl ?_
            refine Go.goto X0 hx (hb hby at_72) (q := 80) (by decide) (by decide) ?_
            exact J80 _ hA2
          · refine Go.ifYes X0 hx (hb hby at_67) (Jvm.Free.XT.i0_ne_t hc337) (q := 75) (by decide) (by decide) ?_
            refine Go.iloadN X0 hx (hb hby at_75) rfl (q := 76) rfl ?_
            refine Go.bipush X0 hx (hb hby at_76) (r := (16 : Int32)) rfl (q := 78) rfl ?_
            refine Go.iushr X0 hx (hb hby at_78) rfl (q := 79) rfl ?_
            refine Go.i2b X0 hx (hb hby at_79) rfl (q := 80) rfl ?_
            exact J80 _ (bb _)
        by_cases hc338 : (pk &&& (2 : Int32)) = (0 : Int32)
        · refine Go.ifNo X0 hx (hb hby at_48) (Jvm.Free.XT.i0_ne_f hc338) (q := 51) rfl ?_
          refine Go.iload X0 hx (hb hby at_51) rfl (q := 53) rfl ?_
          refine Go.goto X0 hx (hb hby at_53) (q := 61) (by decide) (by decide) ?_
          exact J61 _ hA1
        · refine Go.ifYes X0 hx (hb hby at_48) (Jvm.Free.XT.i0_ne_t hc338) (q := 56) (by decide) (by decide) ?_
          refine Go.iloadN X0 hx (hb hby at_56) rfl (q := 57) rfl ?_
          refine Go.bipush X0 hx (hb hby at_57) (r := (8 : Int32)) rfl (q := 59) rfl ?_
          refine Go.iushr X0 hx (hb hby at_59) rfl (q := 60) rfl ?_
          refine Go.i2b X0 hx (hb hby at_60) rfl (q := 61) rfl ?_
          exact J61 _ (bb _)
      by_cases hc339 : (pk &&& (1 : Int32)) = (0 : Int32)
      · refine Go.ifNo X0 hx (hb hby at_32) (Jvm.Free.XT.i0_ne_f hc339) (q := 35) rfl ?_
        refine Go.iload X0 hx (hb hby at_35) rfl (q := 37) rfl ?_
        refine Go.goto X0 hx (hb hby at_37) (q := 42) (by decide) (by decide) ?_
        exact J42 _ hA0
      · refine Go.ifYes X0 hx (hb hby at_32) (Jvm.Free.XT.i0_ne_t hc339) (q := 40) (by decide) (by decide) ?_
        refine Go.iloadN X0 hx (hb hby at_40) rfl (q := 41) rfl ?_
        refine Go.i2b X0 hx (hb hby at_41) rfl (q := 42) rfl ?_
        exact J42 _ (bb _)
    · show Go pp ee below _ (s₁.setTop (mkF mm 8 #[.val (.int pl), .val (.int pm), .val (.int px), .val (.int py), .val (.int pk), .val (.int (3 : Int32)), .unset, .unset, .unset, .unset, .unset, .unset, .unset, .unset, .unset, .unset, .unset, .unset, .unset, .unset] [(.int (1 : Int32))]))
      refine Go.istore X0 hx (hb hby at_8) (l' := #[.val (.int pl), .val (.int pm), .val (.int px), .val (.int py), .val (.int pk), .val (.int (3 : Int32)), .val (.int (1 : Int32)), .unset, .unset, .unset, .unset, .unset, .unset, .unset, .unset, .unset, .unset, .unset, .unset, .unset]) rfl (q := 10) rfl ?_
      refine Go.iloadN X0 hx (hb hby at_10) rfl (q := 11) rfl ?_
      refine Go.i2b X0 hx (hb hby at_11) rfl (q := 12) rfl ?_
      have hA0 := bb px
      generalize (px.toInt8.toInt32) = A0 at hA0 ⊢
      refine Go.istore X0 hx (hb hby at_12) (l' := #[.val (.int pl), .val (.int pm), .val (.int px), .val (.int py), .val (.int pk), .val (.int (3 : Int32)), .val (.int (1 : Int32)), .val (.int A0), .unset, .unset, .unset, .unset, .unset, .unset, .unset, .unset, .unset, .unset, .unset, .unset]) rfl (q := 14) rfl ?_
      refine Go.iloadN X0 hx (hb hby at_14) rfl (q := 15) rfl ?_
      refine Go.bipush X0 hx (hb hby at_15) (r := (8 : Int32)) rfl (q := 17) rfl ?_
      refine Go.iushr X0 hx (hb hby at_17) rfl (q := 18) rfl ?_
      refine Go.i2b X0 hx (hb hby at_18) rfl (q := 19) rfl ?_
      have hA1 := bb ((px.toUInt32 >>> ((8 : Int32) &&& 31).toUInt32).toInt32)
      generalize (((px.toUInt32 >>> ((8 : Int32) &&& 31).toUInt32).toInt32).toInt8.toInt32) = A1 at hA1 ⊢
      refine Go.istore X0 hx (hb hby at_19) (l' := #[.val (.int pl), .val (.int pm), .val (.int px), .val (.int py), .val (.int pk), .val (.int (3 : Int32)), .val (.int (1 : Int32)), .val (.int A0), .val (.int A1), .unset, .unset, .unset, .unset, .unset, .unset, .unset, .unset, .unset, .unset, .unset]) rfl (q := 21) rfl ?_
      refine Go.iloadN X0 hx (hb hby at_21) rfl (q := 22) rfl ?_
      refine Go.bipush X0 hx (hb hby at_22) (r := (16 : Int32)) rfl (q := 24) rfl ?_
      refine Go.iushr X0 hx (hb hby at_24) rfl (q := 25) rfl ?_
      refine Go.i2b X0 hx (hb hby at_25) rfl (q := 26) rfl ?_
      have hA2 := bb ((px.toUInt32 >>> ((16 : Int32) &&& 31).toUInt32).toInt32)
      generalize (((px.toUInt32 >>> ((16 : Int32) &&& 31).toUInt32).toInt32).toInt8.toInt32) = A2 at hA2 ⊢
      refine Go.istore X0 hx (hb hby at_26) (l' := #[.val (.int pl), .val (.int pm), .val (.int px), .val (.int py), .val (.int pk), .val (.int (3 : Int32)), .val (.int (1 : Int32)), .val (.int A0), .val (.int A1), .val (.int A2), .unset, .unset, .unset, .unset, .unset, .unset, .unset, .unset, .unset, .unset]) rfl (q := 28) rfl ?_
      refine Go.iload X0 hx (hb hby at_28) rfl (q := 30) rfl ?_
      refine Go.iconst X0 hx (hb hby at_30) (r := (1 : Int32)) rfl (q := 31) rfl ?_
      refine Go.iand X0 hx (hb hby at_31) rfl (q := 32) rfl ?_
      have J42 : ∀ (C0 : Int32), (C0.toInt8.toInt32) = C0 → Go pp ee below (KK ss (Q_law0 Z pl pm px py pk h0) room_1.cells room_1.slots) (s₁.setTop (mkF mm 42 #[.val (.int pl), .val (.int pm), .val (.int px), .val (.int py), .val (.int pk), .val (.int (3 : Int32)), .val (.int (1 : Int32)), .val (.int A0), .val (.int A1), .val (.int A2), .unset, .unset, .unset, .unset, .unset, .unset, .unset, .unset, .unset, .unset] [(.int C0)])) := by
        intro C0 hC0
        refine Go.istore X0 hx (hb hby at_42) (l' := #[.val (.int pl), .val (.int pm), .val (.int px), .val (.int py), .val (.int pk), .val (.int (3 : Int32)), .val (.int (1 : Int32)), .val (.int A0), .val (.int A1), .val (.int A2), .val (.int C0), .unset, .unset, .unset, .unset, .unset, .unset, .unset, .unset, .unset]) rfl (q := 44) rfl ?_
        refine Go.iload X0 hx (hb hby at_44) rfl (q := 46) rfl ?_
        refine Go.iconst X0 hx (hb hby at_46) (r := (2 : Int32)) rfl (q := 47) rfl ?_
        refine Go.iand X0 hx (hb hby at_47) rfl (q := 48) rfl ?_
        have J61 : ∀ (C1 : Int32), (C1.toInt8.toInt32) = C1 → Go pp ee below (KK ss (Q_law0 Z pl pm px py pk h0) room_1.cells room_1.slots) (s₁.setTop (mkF mm 61 #[.val (.int pl), .val (.int pm), .val (.int px), .val (.int py), .val (.int pk), .val (.int (3 : Int32)), .val (.int (1 : Int32)), .val (.int A0), .val (.int A1), .val (.int A2), .val (.int C0), .unset, .unset, .unset, .unset, .unset, .unset, .unset, .unset, .unset] [(.int C1)])) := by
          intro C1 hC1
          refine Go.istore X0 hx (hb hby at_61) (l' := #[.val (.int pl), .val (.int pm), .val (.int px), .val (.int py), .val (.int pk), .val (.int (3 : Int32)), .val (.int (1 : Int32)), .val (.int A0), .val (.int A1), .val (.int A2), .val (.int C0), .val (.int C1), .unset, .unset, .unset, .unset, .unset, .unset, .unset, .unset]) rfl (q := 63) rfl ?_
          refine Go.iload X0 hx (hb hby at_63) rfl (q := 65) rfl ?_
          refine Go.iconst X0 hx (hb hby at_65) (r := (4 : Int32)) rfl (q := 66) rfl ?_
          refine Go.iand X0 hx (hb hby at_66) rfl (q := 67) rfl ?_
          have J80 : ∀ (C2 : Int32), (C2.toInt8.toInt32) = C2 → Go pp ee below (KK ss (Q_law0 Z pl pm px py pk h0) room_1.cells room_1.slots) (s₁.setTop (mkF mm 80 #[.val (.int pl), .val (.int pm), .val (.int px), .val (.int py), .val (.int pk), .val (.int (3 : Int32)), .val (.int (1 : Int32)), .val (.int A0), .val (.int A1), .val (.int A2), .val (.int C0), .val (.int C1), .unset, .unset, .unset, .unset, .unset, .unset, .unset, .unset] [(.int C2)])) := by
            intro C2 hC2
            refine Go.istore X0 hx (hb hby at_80) (l' := #[.val (.int pl), .val (.int pm), .val (.int px), .val (.int py), .val (.int pk), .val (.int (3 : Int32)), .val (.int (1 : Int32)), .val (.int A0), .val (.int A1), .val (.int A2), .val (.int C0), .val (.int C1), .val (.int C2), .unset, .unset, .unset, .unset, .unset, .unset, .unset]) rfl (q := 82) rfl ?_
            refine Go.iload X0 hx (hb hby at_82) rfl (q := 84) rfl ?_
            refine Go.iload X0 hx (hb hby at_84) rfl (q := 86) rfl ?_
            refine Go.iload X0 hx (hb hby at_86) rfl (q := 88) rfl ?_
            refine Go.iload X0 hx (hb hby at_88) rfl (q := 90) rfl ?_
            refine Go.callS X0 hx hZ hown (wd0 hw) (wd1 hw) (wd2 hw) (wd3 hw) (by decide) (make3 l Z a0 hw A0 A1 A2 h0 O0 hA0 hA1 hA2) e0 (by rw [hml]; rfl) (hb hby at_90) (argsL := [(.int (3 : Int32)), (.int A0), (.int A1), (.int A2)]) (rest := []) (lenOf pd3 rfl) rfl rfl (W := 0) (by first | exact Nat.le_refl _ | decide) (by decide) (by decide) (by decide) (by decide) ?_
            intro v340 T340 L340 X340 hQ340
            obtain ⟨h340, e340⟩ : ∃ z, T340.heap = z := ⟨_, rfl⟩
            rw [e340] at hQ340
            obtain ⟨b_340, kb_340, rfl, N340q, K340, fr340_b, P340_0, P340_1⟩ := hQ340
            have N340 := Fr.app N0 N340q
            have g_b_340 : Z.heap.size ≤ b_340 := Nat.le_trans O0.1 fr340_b
            have OK340 := ext_keep O0 K340 all0
            refine Go.astore X340 hx (hb hby at_93) rfl (l' := #[.val (.int pl), .val (.int pm), .val (.int px), .val (.int py), .val (.int pk), .val (.int (3 : Int32)), .val (.int (1 : Int32)), .val (.int A0), .val (.int A1), .val (.int A2), .val (.int C0), .val (.int C1), .val (.int C2), .val (.ref b_340), .unset, .unset, .unset, .unset, .unset, .unset]) rfl (q := 95) rfl ?_
            refine Go.iload X340 hx (hb hby at_95) rfl (q := 97) rfl ?_
            refine Go.iload X340 hx (hb hby at_97) rfl (q := 99) rfl ?_
            refine Go.iload X340 hx (hb hby at_99) rfl (q := 101) rfl ?_
            refine Go.iload X340 hx (hb hby at_101) rfl (q := 103) rfl ?_
            refine Go.callS X340 hx hZ hown (wd0 hw) (wd1 hw) (wd2 hw) (wd3 hw) (by decide) (make3 l Z a0 hw A0 A1 A2 h340 OK340 hA0 hA1 hA2) e340 (by rw [hml]; rfl) (hb hby at_103) (argsL := [(.int (3 : Int32)), (.int A0), (.int A1), (.int A2)]) (rest := []) (lenOf pd3 rfl) rfl rfl (W := 0) (by first | exact Nat.le_refl _ | decide) (by decide) (by decide) (by decide) (by decide) ?_
            intro v341 T341 L341 X341 hQ341
            obtain ⟨h341, e341⟩ : ∃ z, T341.heap = z := ⟨_, rfl⟩
            rw [e341] at hQ341
            obtain ⟨b_341, kb_341, rfl, N341q, K341, fr341_b, P341_0, P341_1⟩ := hQ341
            have N341 := Fr.app N340 N341q
            have ne_b_340_b_341 : b_340 ≠ b_341 := ne_new P340_0.lt fr341_b
            have g_b_341 : Z.heap.size ≤ b_341 := Nat.le_trans OK340.1 fr341_b
            replace P340_0 := P340_0.keep K341 nin0
            replace P340_1 := P340_1.keep K341
            have OK341 := ext_keep OK340 K341 all0
            refine Go.astore X341 hx (hb hby at_106) rfl (l' := #[.val (.int pl), .val (.int pm), .val (.int px), .val (.int py), .val (.int pk), .val (.int (3 : Int32)), .val (.int (1 : Int32)), .val (.int A0), .val (.int A1), .val (.int A2), .val (.int C0), .val (.int C1), .val (.int C2), .val (.ref b_340), .val (.ref b_341), .unset, .unset, .unset, .unset, .unset]) rfl (q := 108) rfl ?_
            refine Go.iload X341 hx (hb hby at_108) rfl (q := 110) rfl ?_
            refine Go.iload X341 hx (hb hby at_110) rfl (q := 112) rfl ?_
            refine Go.iload X341 hx (hb hby at_112) rfl (q := 114) rfl ?_
            refine Go.iload X341 hx (hb hby at_114) rfl (q := 116) rfl ?_
            refine Go.callS X341 hx hZ hown (wd0 hw) (wd1 hw) (wd2 hw) (wd3 hw) (by decide) (make1 l Z a0 hw C0 C1 C2 h341 OK341 hC0 hC1 hC2) e341 (by rw [hml]; rfl) (hb hby at_116) (argsL := [(.int (1 : Int32)), (.int C0), (.int C1), (.int C2)]) (rest := []) (lenOf pd3 rfl) rfl rfl (W := 0) (by first | exact Nat.le_refl _ | decide) (by decide) (by decide) (by decide) (by decide) ?_
            intro v342 T342 L342 X342 hQ342
            obtain ⟨h342, e342⟩ : ∃ z, T342.heap = z := ⟨_, rfl⟩
            rw [e342] at hQ342
            obtain ⟨b_342, kb_342, rfl, N342q, K342, fr342_b, P342_0, P342_1⟩ := hQ342
            have N342 := Fr.app N341 N342q
            have ne_b_340_b_342 : b_340 ≠ b_342 := ne_new P340_0.lt fr342_b
            have ne_b_341_b_342 : b_341 ≠ b_342 := ne_new P341_0.lt fr342_b
            have g_b_342 : Z.heap.size ≤ b_342 := Nat.le_trans OK341.1 fr342_b
            replace P340_0 := P340_0.keep K342 nin0
            replace P340_1 := P340_1.keep K342
            replace P341_0 := P341_0.keep K342 nin0
            replace P341_1 := P341_1.keep K342
            have OK342 := ext_keep OK341 K342 all0
            refine Go.astore X342 hx (hb hby at_119) rfl (l' := #[.val (.int pl), .val (.int pm), .val (.int px), .val (.int py), .val (.int pk), .val (.int (3 : Int32)), .val (.int (1 : Int32)), .val (.int A0), .val (.int A1), .val (.int A2), .val (.int C0), .val (.int C1), .val (.int C2), .val (.ref b_340), .val (.ref b_341), .val (.ref b_342), .unset, .unset, .unset, .unset]) rfl (q := 121) rfl ?_
            refine Go.aload X342 hx (hb hby at_121) rfl rfl (q := 123) rfl ?_
            refine Go.callS X342 hx hZ hown (wd5 hw) (wd6 hw) (wd7 hw) (wd8 hw) (by decide) (of3 l Z a0 hw b_340 (kb_340) A0 A1 A2 h342 OK342 P340_0 P340_1) e342 (by rw [hml]; rfl) (hb hby at_123) (argsL := [(.ref b_340)]) (rest := []) (lenOf pd4 rfl) rfl rfl (W := 0) (by first | exact Nat.le_refl _ | decide) (by decide) (by decide) (by decide) (by decide) ?_
            intro v343 T343 L343 X343 hQ343
            obtain ⟨h343, e343⟩ : ∃ z, T343.heap = z := ⟨_, rfl⟩
            rw [e343] at hQ343
            obtain ⟨b_343, cn_343, kc_343, rfl, N343q, K343, fr343_b, fr343_cn, P343_0, P343_1, P343_2, P343_3, P343_4, P343_5⟩ := hQ343
            have N343 := Fr.app N342 N343q
            have ne_b_340_b_343 : b_340 ≠ b_343 := ne_new P340_0.lt fr343_b
            have ne_b_341_b_343 : b_341 ≠ b_343 := ne_new P341_0.lt fr343_b
            have ne_b_342_b_343 : b_342 ≠ b_343 := ne_new P342_0.lt fr343_b
            have g_b_343 : Z.heap.size ≤ b_343 := Nat.le_trans OK342.1 fr343_b
            have ne_b_340_cn_343 : b_340 ≠ cn_343 := ne_new P340_0.lt fr343_cn
            have ne_b_341_cn_343 : b_341 ≠ cn_343 := ne_new P341_0.lt fr343_cn
            have ne_b_342_cn_343 : b_342 ≠ cn_343 := ne_new P342_0.lt fr343_cn
            have g_cn_343 : Z.heap.size ≤ cn_343 := Nat.le_trans OK342.1 fr343_cn
            replace P340_0 := P340_0.keep K343 nin0
            replace P340_1 := P340_1.keep K343
            replace P341_0 := P341_0.keep K343 nin0
            replace P341_1 := P341_1.keep K343
            replace P342_0 := P342_0.keep K343 nin0
            replace P342_1 := P342_1.keep K343
            have OK343 := ext_keep OK342 K343 all0
            refine Go.astore X343 hx (hb hby at_126) rfl (l' := #[.val (.int pl), .val (.int pm), .val (.int px), .val (.int py), .val (.int pk), .val (.int (3 : Int32)), .val (.int (1 : Int32)), .val (.int A0), .val (.int A1), .val (.int A2), .val (.int C0), .val (.int C1), .val (.int C2), .val (.ref b_340), .val (.ref b_341), .val (.ref b_342), .val (.ref b_343), .unset, .unset, .unset]) rfl (q := 128) rfl ?_
            refine Go.iload X343 hx (hb hby at_128) rfl (q := 130) rfl ?_
            refine Go.ifNo X343 hx (hb hby at_130) (by decide) (q := 133) rfl ?_
            refine Go.aload X343 hx (hb hby at_133) rfl rfl (q := 135) rfl ?_
            refine Go.iload X343 hx (hb hby at_135) rfl (q := 137) rfl ?_
            refine Go.iconst X343 hx (hb hby at_137) (r := (1 : Int32)) rfl (q := 138) rfl ?_
            refine Go.isub X343 hx (hb hby at_138) (r := (2 : Int32)) rfl (q := 139) rfl ?_
            refine Go.aload X343 hx (hb hby at_139) rfl rfl (q := 141) rfl ?_
            refine Go.iload X343 hx (hb hby at_141) rfl (q := 143) rfl ?_
            refine Go.iconst X343 hx (hb hby at_143) (r := (1 : Int32)) rfl (q := 144) rfl ?_
            refine Go.isub X343 hx (hb hby at_144) (r := (2 : Int32)) rfl (q := 145) rfl ?_
            refine Go.bal X343 hx hZ e343 P340_0 ⟨by decide, by decide⟩ (v := (.int A2)) rfl (hb hby at_145) ?_
            refine Go.iconst X343 hx (hb hby at_146) (r := (-1 : Int32)) rfl (q := 147) rfl ?_
            refine Go.ixor X343 hx (hb hby at_147) rfl (q := 148) rfl ?_
            refine Go.i2b X343 hx (hb hby at_148) rfl (q := 149) rfl ?_
            refine Go.bst X343 hx hZ e343 P340_0 ⟨by decide, by decide⟩ (i := 2) rfl (Nat.le_of_ble_eq_true rfl) (hb hby at_149) ?_
            intro T344 h344 X344 e344 W344 V344
            rw [bb (A2 ^^^ (-1 : Int32))] at V344
            replace V344 : Arv Z h344 b_340 kb_340 .byte (3 : Int32) [(.int A0), (.int A1), (.int ((A2 ^^^ (-1 : Int32)).toInt8.toInt32))] (.int (0 : Int32)) := V344
            have N344 := Fr.snoc X344 N343 g_b_340
            replace P340_1 := P340_1.wr W344
            replace P341_0 := P341_0.other W344 (Ne.symm ne_b_340_b_341)
            replace P341_1 := P341_1.wr W344
            replace P342_0 := P342_0.other W344 (Ne.symm ne_b_340_b_342)
            replace P342_1 := P342_1.wr W344
            replace P343_0 := P343_0.wr W344
            replace P343_1 := P343_1.other W344 (Or.inl (Ne.symm ne_b_340_b_343))
            replace P343_2 := P343_2.other W344 (Ne.symm ne_b_340_cn_343)
            replace P343_3 := P343_3.other W344 (Or.inl (Ne.symm ne_b_340_b_343))
            replace P343_4 := P343_4.other W344 (Or.inl (Ne.symm ne_b_340_b_343))
            replace P343_5 := P343_5.other W344 (Or.inl (Ne.symm ne_b_340_b_343))
            have OW344 := ext_wr OK343 W344 g_b_340
            refine Go.aload X344 hx (hb hby at_150) rfl rfl (q := 152) rfl ?_
            refine Go.callS X344 hx hZ hown (wd5 hw) (wd6 hw) (wd7 hw) (wd8 hw) (by decide) (of3 l Z a0 hw b_341 (kb_341) A0 A1 A2 h344 OW344 P341_0 P341_1) e344 (by rw [hml]; rfl) (hb hby at_152) (argsL := [(.ref b_341)]) (rest := []) (lenOf pd4 rfl) rfl rfl (W := 0) (by first | exact Nat.le_refl _ | decide) (by decide) (by decide) (by decide) (by decide) ?_
            intro v345 T345 L345 X345 hQ345
            obtain ⟨h345, e345⟩ : ∃ z, T345.heap = z := ⟨_, rfl⟩
            rw [e345] at hQ345
            obtain ⟨b_345, cn_345, kc_345, rfl, N345q, K345, fr345_b, fr345_cn, P345_0, P345_1, P345_2, P345_3, P345_4, P345_5⟩ := hQ345
            have N345 := Fr.app N344 N345q
            have ne_b_340_b_345 : b_340 ≠ b_345 := ne_new P340_1.lt fr345_b
            have ne_b_341_b_345 : b_341 ≠ b_345 := ne_new P341_0.lt fr345_b
            have ne_b_342_b_345 : b_342 ≠ b_345 := ne_new P342_0.lt fr345_b
            have ne_b_343_b_345 : b_343 ≠ b_345 := ne_new P343_0.lt fr345_b
            have ne_cn_343_b_345 : cn_343 ≠ b_345 := ne_new P343_2.lt fr345_b
            have g_b_345 : Z.heap.size ≤ b_345 := Nat.le_trans OW344.1 fr345_b
            have ne_b_340_cn_345 : b_340 ≠ cn_345 := ne_new P340_1.lt fr345_cn
            have ne_b_341_cn_345 : b_341 ≠ cn_345 := ne_new P341_0.lt fr345_cn
            have ne_b_342_cn_345 : b_342 ≠ cn_345 := ne_new P342_0.lt fr345_cn
            have ne_b_343_cn_345 : b_343 ≠ cn_345 := ne_new P343_0.lt fr345_cn
            have ne_cn_343_cn_345 : cn_343 ≠ cn_345 := ne_new P343_2.lt fr345_cn
            have g_cn_345 : Z.heap.size ≤ cn_345 := Nat.le_trans OW344.1 fr345_cn
            replace P340_1 := P340_1.keep K345
            replace P341_0 := P341_0.keep K345 nin0
            replace P341_1 := P341_1.keep K345
            replace P342_0 := P342_0.keep K345 nin0
            replace P342_1 := P342_1.keep K345
            replace P343_0 := P343_0.keep K345
            replace P343_1 := P343_1.keep K345 nin0
            replace P343_2 := P343_2.keep K345 nin0
            replace P343_3 := P343_3.keep K345 nin0
            replace P343_4 := P343_4.keep K345 nin0
            replace P343_5 := P343_5.keep K345 nin0
            replace V344 := V344.keep K345 nin0
            have OK345 := ext_keep OW344 K345 all0
            refine Go.astore X345 hx (hb hby at_155) rfl (l' := #[.val (.int pl), .val (.int pm), .val (.int px), .val (.int py), .val (.int pk), .val (.int (3 : Int32)), .val (.int (1 : Int32)), .val (.int A0), .val (.int A1), .val (.int A2), .val (.int C0), .val (.int C1), .val (.int C2), .val (.ref b_340), .val (.ref b_341), .val (.ref b_342), .val (.ref b_343), .val (.ref b_345), .unset, .unset]) rfl (q := 157) rfl ?_
            refine Go.aload X345 hx (hb hby at_157) rfl rfl (q := 159) rfl ?_
            refine Go.callS X345 hx hZ hown (wd5 hw) (wd6 hw) (wd7 hw) (wd8 hw) (by decide) (of1 l Z a0 hw b_342 (kb_342) C0 h345 OK345 P342_0 P342_1) e345 (by rw [hml]; rfl) (hb hby at_159) (argsL := [(.ref b_342)]) (rest := []) (lenOf pd4 rfl) rfl rfl (W := 0) (by first | exact Nat.le_refl _ | decide) (by decide) (by decide) (by decide) (by decide) ?_
            intro v346 T346 L346 X346 hQ346
            obtain ⟨h346, e346⟩ : ∃ z, T346.heap = z := ⟨_, rfl⟩
            rw [e346] at hQ346
            obtain ⟨b_346, cn_346, kc_346, rfl, N346q, K346, fr346_b, fr346_cn, P346_0, P346_1, P346_2, P346_3, P346_4, P346_5⟩ := hQ346
            have N346 := Fr.app N345 N346q
            have ne_b_340_b_346 : b_340 ≠ b_346 := ne_new P340_1.lt fr346_b
            have ne_b_341_b_346 : b_341 ≠ b_346 := ne_new P341_0.lt fr346_b
            have ne_b_342_b_346 : b_342 ≠ b_346 := ne_new P342_0.lt fr346_b
            have ne_b_343_b_346 : b_343 ≠ b_346 := ne_new P343_0.lt fr346_b
            have ne_cn_343_b_346 : cn_343 ≠ b_346 := ne_new P343_2.lt fr346_b
            have ne_b_345_b_346 : b_345 ≠ b_346 := ne_new P345_0.lt fr346_b
            have ne_cn_345_b_346 : cn_345 ≠ b_346 := ne_new P345_2.lt fr346_b
            have g_b_346 : Z.heap.size ≤ b_346 := Nat.le_trans OK345.1 fr346_b
            have ne_b_340_cn_346 : b_340 ≠ cn_346 := ne_new P340_1.lt fr346_cn
            have ne_b_341_cn_346 : b_341 ≠ cn_346 := ne_new P341_0.lt fr346_cn
            have ne_b_342_cn_346 : b_342 ≠ cn_346 := ne_new P342_0.lt fr346_cn
            have ne_b_343_cn_346 : b_343 ≠ cn_346 := ne_new P343_0.lt fr346_cn
            have ne_cn_343_cn_346 : cn_343 ≠ cn_346 := ne_new P343_2.lt fr346_cn
            have ne_b_345_cn_346 : b_345 ≠ cn_346 := ne_new P345_0.lt fr346_cn
            have ne_cn_345_cn_346 : cn_345 ≠ cn_346 := ne_new P345_2.lt fr346_cn
            have g_cn_346 : Z.heap.size ≤ cn_346 := Nat.le_trans OK345.1 fr346_cn
            replace P340_1 := P340_1.keep K346
            replace P341_0 := P341_0.keep K346 nin0
            replace P341_1 := P341_1.keep K346
            replace P342_0 := P342_0.keep K346 nin0
            replace P342_1 := P342_1.keep K346
            replace P343_0 := P343_0.keep K346
            replace P343_1 := P343_1.keep K346 nin0
            replace P343_2 := P343_2.keep K346 nin0
            replace P343_3 := P343_3.keep K346 nin0
            replace P343_4 := P343_4.keep K346 nin0
            replace P343_5 := P343_5.keep K346 nin0
            replace V344 := V344.keep K346 nin0
            replace P345_0 := P345_0.keep K346
            replace P345_1 := P345_1.keep K346 nin0
            replace P345_2 := P345_2.keep K346 nin0
            replace P345_3 := P345_3.keep K346 nin0
            replace P345_4 := P345_4.keep K346 nin0
            replace P345_5 := P345_5.keep K346 nin0
            have OK346 := ext_keep OK345 K346 all0
            refine Go.astore X346 hx (hb hby at_162) rfl (l' := #[.val (.int pl), .val (.int pm), .val (.int px), .val (.int py), .val (.int pk), .val (.int (3 : Int32)), .val (.int (1 : Int32)), .val (.int A0), .val (.int A1), .val (.int A2), .val (.int C0), .val (.int C1), .val (.int C2), .val (.ref b_340), .val (.ref b_341), .val (.ref b_342), .val (.ref b_343), .val (.ref b_345), .val (.ref b_346), .unset]) rfl (q := 164) rfl ?_
            refine Go.aload X346 hx (hb hby at_164) rfl rfl (q := 166) rfl ?_
            refine Go.virt X346 hx hZ hown (wd36 hw) (wd37 hw) (notFace_of_selects (args := #[]) (mvT hZ (wd39 hw))) (wd39 hw) (wd38 hw) (wd7 hw) (wd40 hw) (by decide) (clen l Z a0 hw b_343 cn_343 (kc_343) ((3 : Int32)) ([(.int A0), (.int A1), (.int A2)]) h346 OK346 P343_1 P343_2) e346 P343_0 (by rw [hml]; rfl) (hb hby at_166) (argsL := []) (rest := []) (lenOf pd5 rfl) rfl rfl (W := 0) (by first | exact Nat.le_refl _ | decide) (by decide) (by decide) (by decide) (by decide) ?_
            intro v347 T347 L347 X347 hQ347
            obtain ⟨rfl, N347q, e347⟩ := hQ347
            have N347 := Fr.app N346 N347q
            refine Go.iload X347 hx (hb hby at_169) rfl (q := 171) rfl ?_
            refine Go.icmpNo X347 hx (hb hby at_171) (by decide) (q := 174) rfl ?_
            refine Go.aload X347 hx (hb hby at_174) rfl rfl (q := 176) rfl ?_
            refine Go.virt X347 hx hZ hown (wd36 hw) (wd37 hw) (notFace_of_selects (args := #[]) (mvT hZ (wd39 hw))) (wd39 hw) (wd38 hw) (wd7 hw) (wd40 hw) (by decide) (clen l Z a0 hw b_346 cn_346 (kc_346) ((1 : Int32)) ([(.int C0)]) h346 OK346 P346_1 P346_2) e347 P346_0 (by rw [hml]; rfl) (hb hby at_176) (argsL := []) (rest := []) (lenOf pd5 rfl) rfl rfl (W := 0) (by first | exact Nat.le_refl _ | decide) (by decide) (by decide) (by decide) (by decide) ?_
            intro v348 T348 L348 X348 hQ348
            obtain ⟨rfl, N348q, e348⟩ := hQ348
            have N348 := Fr.app N347 N348q
            refine Go.iload X348 hx (hb hby at_179) rfl (q := 181) rfl ?_
            refine Go.icmpNo X348 hx (hb hby at_181) (by decide) (q := 184) rfl ?_
            refine Go.aload X348 hx (hb hby at_184) rfl rfl (q := 186) rfl ?_
            refine Go.virt X348 hx hZ hown (wd41 hw) (wd42 hw) (notFace_of_selects (args := #[]) (mvT hZ (wd44 hw))) (wd44 hw) (wd43 hw) (wd7 hw) (wd45 hw) (by decide) (clast l Z a0 hw b_343 h346 OK346 P343_3) e348 P343_0 (by rw [hml]; rfl) (hb hby at_186) (argsL := []) (rest := []) (lenOf pd6 rfl) rfl rfl (W := 0) (by first | exact Nat.le_refl _ | decide) (by decide) (by decide) (by decide) (by decide) ?_
            intro v349 T349 L349 X349 hQ349
            obtain ⟨rfl, N349q, e349⟩ := hQ349
            have N349 := Fr.app N348 N349q
            refine Go.ifnonnullNo X349 hx (hb hby at_189) (q := 192) rfl ?_
            refine Go.aload X349 hx (hb hby at_192) rfl rfl (q := 194) rfl ?_
            refine Go.virt X349 hx hZ hown (wd46 hw) (wd47 hw) (notFace_of_selects (args := #[]) (mvT hZ (wd49 hw))) (wd49 hw) (wd48 hw) (wd7 hw) (wd50 hw) (by decide) (cshar l Z a0 hw b_343 h346 OK346 P343_4) e349 P343_0 (by rw [hml]; rfl) (hb hby at_194) (argsL := []) (rest := []) (lenOf pd7 rfl) rfl rfl (W := 0) (by first | exact Nat.le_refl _ | decide) (by decide) (by decide) (by decide) (by decide) ?_
            intro v350 T350 L350 X350 hQ350
            obtain ⟨rfl, N350q, e350⟩ := hQ350
            have N350 := Fr.app N349 N350q
            refine Go.ifNo X350 hx (hb hby at_197) (by decide) (q := 200) rfl ?_
            refine Go.aload X350 hx (hb hby at_200) rfl rfl (q := 202) rfl ?_
            refine Go.virt X350 hx hZ hown (wd51 hw) (wd52 hw) (notFace_of_selects (args := #[]) (mvT hZ (wd54 hw))) (wd54 hw) (wd53 hw) (wd7 hw) (wd55 hw) (by decide) (cremo l Z a0 hw b_343 h346 OK346 P343_5) e350 P343_0 (by rw [hml]; rfl) (hb hby at_202) (argsL := []) (rest := []) (lenOf pd7 rfl) rfl rfl (W := 0) (by first | exact Nat.le_refl _ | decide) (by decide) (by decide) (by decide) (by decide) ?_
            intro v351 T351 L351 X351 hQ351
            obtain ⟨rfl, N351q, e351⟩ := hQ351
            have N351 := Fr.app N350 N351q
            refine Go.ifNo X351 hx (hb hby at_205) (by decide) (q := 208) rfl ?_
            refine Go.iconst X351 hx (hb hby at_208) (r := (1 : Int32)) rfl (q := 209) rfl ?_
            refine Go.goto X351 hx (hb hby at_209) (q := 213) (by decide) (by decide) ?_
            refine Go.istore X351 hx (hb hby at_213) (l' := #[.val (.int pl), .val (.int pm), .val (.int px), .val (.int py), .val (.int pk), .val (.int (3 : Int32)), .val (.int (1 : Int32)), .val (.int A0), .val (.int A1), .val (.int A2), .val (.int C0), .val (.int C1), .val (.int C2), .val (.ref b_340), .val (.ref b_341), .val (.ref b_342), .val (.ref b_343), .val (.ref b_345), .val (.ref b_346), .val (.int (1 : Int32))]) rfl (q := 215) rfl ?_
            refine Go.iload X351 hx (hb hby at_215) rfl (q := 217) rfl ?_
            refine Go.ifNo X351 hx (hb hby at_217) (by decide) (q := 220) rfl ?_
            refine Go.aload X351 hx (hb hby at_220) rfl rfl (q := 222) rfl ?_
            refine Go.aload X351 hx (hb hby at_222) rfl rfl (q := 224) rfl ?_
            refine Go.virt X351 hx hZ hown (wd56 hw) (wd57 hw) (notFace_of_selects (args := #[]) (mvT hZ (wd59 hw))) (wd59 hw) (wd58 hw) (wd7 hw) (wd60 hw) (by decide) (chs3_3 l Z a0 hw b_343 b_345 cn_343 cn_345 (kc_343) (kc_345) A0 A1 A2 A0 A1 A2 h346 OK346 P343_1 P345_1 P343_2 P345_2 ne_cn_343_cn_345 rfl rfl rfl) e351 P343_0 (by rw [hml]; rfl) (hb hby at_224) (argsL := [(.ref b_345)]) (rest := []) (lenOf pd8 rfl) rfl rfl (W := 0) (by first | exact Nat.le_refl _ | decide) (by decide) (by decide) (by decide) (by decide) ?_
            intro v352 T352 L352 X352 hQ352
            obtain ⟨rfl, N352q, e352⟩ := hQ352
            have N352 := Fr.app N351 N352q
            refine Go.ifNo X352 hx (hb hby at_227) (by decide) (q := 230) rfl ?_
            refine Go.iconst X352 hx (hb hby at_230) (r := (1 : Int32)) rfl (q := 231) rfl ?_
            refine Go.goto X352 hx (hb hby at_231) (q := 235) (by decide) (by decide) ?_
            refine Go.istore X352 hx (hb hby at_235) (l' := #[.val (.int pl), .val (.int pm), .val (.int px), .val (.int py), .val (.int pk), .val (.int (3 : Int32)), .val (.int (1 : Int32)), .val (.int A0), .val (.int A1), .val (.int A2), .val (.int C0), .val (.int C1), .val (.int C2), .val (.ref b_340), .val (.ref b_341), .val (.ref b_342), .val (.ref b_343), .val (.ref b_345), .val (.ref b_346), .val (.int (1 : Int32))]) rfl (q := 237) rfl ?_
            refine Go.iload X352 hx (hb hby at_237) rfl (q := 239) rfl ?_
            refine Go.ifNo X352 hx (hb hby at_239) (by decide) (q := 242) rfl ?_
            refine Go.aload X352 hx (hb hby at_242) rfl rfl (q := 244) rfl ?_
            refine Go.aload X352 hx (hb hby at_244) rfl rfl (q := 246) rfl ?_
            refine Go.virt X352 hx hZ hown (wd56 hw) (wd57 hw) (notFace_of_selects (args := #[]) (mvT hZ (wd59 hw))) (wd59 hw) (wd58 hw) (wd7 hw) (wd60 hw) (by decide) (chsd3_1 l Z a0 hw b_343 b_346 cn_343 cn_346 (kc_343) (kc_346) A0 A1 A2 C0 h346 OK346 P343_1 P346_1 P343_2 P346_2 ne_cn_343_cn_346) e352 P343_0 (by rw [hml]; rfl) (hb hby at_246) (argsL := [(.ref b_346)]) (rest := []) (lenOf pd8 rfl) rfl rfl (W := 0) (by first | exact Nat.le_refl _ | decide) (by decide) (by decide) (by decide) (by decide) ?_
            intro v353 T353 L353 X353 hQ353
            obtain ⟨rfl, N353q, e353⟩ := hQ353
            have N353 := Fr.app N352 N353q
            refine Go.aload X353 hx (hb hby at_249) rfl rfl (q := 251) rfl ?_
            refine Go.aload X353 hx (hb hby at_251) rfl rfl (q := 253) rfl ?_
            refine Go.callS X353 hx hZ hown (wd69 hw) (wd70 hw) (wd2 hw) (wd71 hw) (by decide) (csamd3_1 l Z a0 hw b_341 b_342 (kb_341) (kb_342) A0 A1 A2 C0 h346 OK346 P341_0 P342_0) e353 (by rw [hml]; rfl) (hb hby at_253) (argsL := [(.ref b_341), (.ref b_342)]) (rest := [(.int (0 : Int32))]) (lenOf pd2 rfl) rfl rfl (W := 1) (by first | exact Nat.le_refl _ | decide) (by decide) (by decide) (by decide) (by decide) ?_
            intro v354 T354 L354 X354 hQ354
            obtain ⟨rfl, N354q, e354⟩ := hQ354
            have N354 := Fr.app N353 N354q
            refine Go.icmpNo X354 hx (hb hby at_256) (by decide) (q := 259) rfl ?_
            refine Go.iconst X354 hx (hb hby at_259) (r := (1 : Int32)) rfl (q := 260) rfl ?_
            refine Go.goto X354 hx (hb hby at_260) (q := 264) (by decide) (by decide) ?_
            refine Go.istore X354 hx (hb hby at_264) (l' := #[.val (.int pl), .val (.int pm), .val (.int px), .val (.int py), .val (.int pk), .val (.int (3 : Int32)), .val (.int (1 : Int32)), .val (.int A0), .val (.int A1), .val (.int A2), .val (.int C0), .val (.int C1), .val (.int C2), .val (.ref b_340), .val (.ref b_341), .val (.ref b_342), .val (.ref b_343), .val (.ref b_345), .val (.ref b_346), .val (.int (1 : Int32))]) rfl (q := 266) rfl ?_
            refine Go.iload X354 hx (hb hby at_266) rfl (q := 268) rfl ?_
            exact Go.retI X354 hx hret hlk (by simp) rfl (hb hby at_268) e354 (by decide) (by decide) ⟨rfl, N354⟩
          by_cases hc355 : (pk &&& (4 : Int32)) = (0 : Int32)
          · refine Go.ifNo X0 hx (hb hby at_67) (Jvm.Free.XT.i0_ne_f hc355) (q := 70) rfl ?_
            refine Go.iload X0 hx (hb hby at_70) rfl (q := 72) rfl ?_
            refine Go.goto X0 hx (hb hby at_72) (q := 80) (by decide) (by decide) ?_
            exact J80 _ hA2
          · refine Go.ifYes X0 hx (hb hby at_67) (Jvm.Free.XT.i0_ne_t hc355) (q := 75) (by decide) (by decide) ?_
            refine Go.iloadN X0 hx (hb hby at_75) rfl (q := 76) rfl ?_
            refine Go.bipush X0 hx (hb hby at_76) (r := (16 : Int32)) rfl (q := 78) rfl ?_
            refine Go.iushr X0 hx (hb hby at_78) rfl (q := 79) rfl ?_
            refine Go.i2b X0 hx (hb hby at_79) rfl (q := 80) rfl ?_
            exact J80 _ (bb _)
        by_cases hc356 : (pk &&& (2 : Int32)) = (0 : Int32)
        · refine Go.ifNo X0 hx (hb hby at_48) (Jvm.Free.XT.i0_ne_f hc356) (q := 51) rfl ?_
          refine Go.iload X0 hx (hb hby at_51) rfl (q := 53) rfl ?_
          refine Go.goto X0 hx (hb hby at_53) (q := 61) (by decide) (by decide) ?_
          exact J61 _ hA1
        · refine Go.ifYes X0 hx (hb hby at_48) (Jvm.Free.XT.i0_ne_t hc356) (q := 56) (by decide) (by decide) ?_
          refine Go.iloadN X0 hx (hb hby at_56) rfl (q := 57) rfl ?_
          refine Go.bipush X0 hx (hb hby at_57) (r := (8 : Int32)) rfl (q := 59) rfl ?_
          refine Go.iushr X0 hx (hb hby at_59) rfl (q := 60) rfl ?_
          refine Go.i2b X0 hx (hb hby at_60) rfl (q := 61) rfl ?_
          exact J61 _ (bb _)
      by_cases hc357 : (pk &&& (1 : Int32)) = (0 : Int32)
      · refine Go.ifNo X0 hx (hb hby at_32) (Jvm.Free.XT.i0_ne_f hc357) (q := 35) rfl ?_
        refine Go.iload X0 hx (hb hby at_35) rfl (q := 37) rfl ?_
        refine Go.goto X0 hx (hb hby at_37) (q := 42) (by decide) (by decide) ?_
        exact J42 _ hA0
      · refine Go.ifYes X0 hx (hb hby at_32) (Jvm.Free.XT.i0_ne_t hc357) (q := 40) (by decide) (by decide) ?_
        refine Go.iloadN X0 hx (hb hby at_40) rfl (q := 41) rfl ?_
        refine Go.i2b X0 hx (hb hby at_41) rfl (q := 42) rfl ?_
        exact J42 _ (bb _)
    · show Go pp ee below _ (s₁.setTop (mkF mm 8 #[.val (.int pl), .val (.int pm), .val (.int px), .val (.int py), .val (.int pk), .val (.int (3 : Int32)), .unset, .unset, .unset, .unset, .unset, .unset, .unset, .unset, .unset, .unset, .unset, .unset, .unset, .unset] [(.int (2 : Int32))]))
      refine Go.istore X0 hx (hb hby at_8) (l' := #[.val (.int pl), .val (.int pm), .val (.int px), .val (.int py), .val (.int pk), .val (.int (3 : Int32)), .val (.int (2 : Int32)), .unset, .unset, .unset, .unset, .unset, .unset, .unset, .unset, .unset, .unset, .unset, .unset, .unset]) rfl (q := 10) rfl ?_
      refine Go.iloadN X0 hx (hb hby at_10) rfl (q := 11) rfl ?_
      refine Go.i2b X0 hx (hb hby at_11) rfl (q := 12) rfl ?_
      have hA0 := bb px
      generalize (px.toInt8.toInt32) = A0 at hA0 ⊢
      refine Go.istore X0 hx (hb hby at_12) (l' := #[.val (.int pl), .val (.int pm), .val (.int px), .val (.int py), .val (.int pk), .val (.int (3 : Int32)), .val (.int (2 : Int32)), .val (.int A0), .unset, .unset, .unset, .unset, .unset, .unset, .unset, .unset, .unset, .unset, .unset, .unset]) rfl (q := 14) rfl ?_
      refine Go.iloadN X0 hx (hb hby at_14) rfl (q := 15) rfl ?_
      refine Go.bipush X0 hx (hb hby at_15) (r := (8 : Int32)) rfl (q := 17) rfl ?_
      refine Go.iushr X0 hx (hb hby at_17) rfl (q := 18) rfl ?_
      refine Go.i2b X0 hx (hb hby at_18) rfl (q := 19) rfl ?_
      have hA1 := bb ((px.toUInt32 >>> ((8 : Int32) &&& 31).toUInt32).toInt32)
      generalize (((px.toUInt32 >>> ((8 : Int32) &&& 31).toUInt32).toInt32).toInt8.toInt32) = A1 at hA1 ⊢
      refine Go.istore X0 hx (hb hby at_19) (l' := #[.val (.int pl), .val (.int pm), .val (.int px), .val (.int py), .val (.int pk), .val (.int (3 : Int32)), .val (.int (2 : Int32)), .val (.int A0), .val (.int A1), .unset, .unset, .unset, .unset, .unset, .unset, .unset, .unset, .unset, .unset, .unset]) rfl (q := 21) rfl ?_
      refine Go.iloadN X0 hx (hb hby at_21) rfl (q := 22) rfl ?_
      refine Go.bipush X0 hx (hb hby at_22) (r := (16 : Int32)) rfl (q := 24) rfl ?_
      refine Go.iushr X0 hx (hb hby at_24) rfl (q := 25) rfl ?_
      refine Go.i2b X0 hx (hb hby at_25) rfl (q := 26) rfl ?_
      have hA2 := bb ((px.toUInt32 >>> ((16 : Int32) &&& 31).toUInt32).toInt32)
      generalize (((px.toUInt32 >>> ((16 : Int32) &&& 31).toUInt32).toInt32).toInt8.toInt32) = A2 at hA2 ⊢
      refine Go.istore X0 hx (hb hby at_26) (l' := #[.val (.int pl), .val (.int pm), .val (.int px), .val (.int py), .val (.int pk), .val (.int (3 : Int32)), .val (.int (2 : Int32)), .val (.int A0), .val (.int A1), .val (.int A2), .unset, .unset, .unset, .unset, .unset, .unset, .unset, .unset, .unset, .unset]) rfl (q := 28) rfl ?_
      refine Go.iload X0 hx (hb hby at_28) rfl (q := 30) rfl ?_
      refine Go.iconst X0 hx (hb hby at_30) (r := (1 : Int32)) rfl (q := 31) rfl ?_
      refine Go.iand X0 hx (hb hby at_31) rfl (q := 32) rfl ?_
      have J42 : ∀ (C0 : Int32), (C0.toInt8.toInt32) = C0 → Go pp ee below (KK ss (Q_law0 Z pl pm px py pk h0) room_1.cells room_1.slots) (s₁.setTop (mkF mm 42 #[.val (.int pl), .val (.int pm), .val (.int px), .val (.int py), .val (.int pk), .val (.int (3 : Int32)), .val (.int (2 : Int32)), .val (.int A0), .val (.int A1), .val (.int A2), .unset, .unset, .unset, .unset, .unset, .unset, .unset, .unset, .unset, .unset] [(.int C0)])) := by
        intro C0 hC0
        refine Go.istore X0 hx (hb hby at_42) (l' := #[.val (.int pl), .val (.int pm), .val (.int px), .val (.int py), .val (.int pk), .val (.int (3 : Int32)), .val (.int (2 : Int32)), .val (.int A0), .val (.int A1), .val (.int A2), .val (.int C0), .unset, .unset, .unset, .unset, .unset, .unset, .unset, .unset, .unset]) rfl (q := 44) rfl ?_
        refine Go.iload X0 hx (hb hby at_44) rfl (q := 46) rfl ?_
        refine Go.iconst X0 hx (hb hby at_46) (r := (2 : Int32)) rfl (q := 47) rfl ?_
        refine Go.iand X0 hx (hb hby at_47) rfl (q := 48) rfl ?_
        have J61 : ∀ (C1 : Int32), (C1.toInt8.toInt32) = C1 → Go pp ee below (KK ss (Q_law0 Z pl pm px py pk h0) room_1.cells room_1.slots) (s₁.setTop (mkF mm 61 #[.val (.int pl), .val (.int pm), .val (.int px), .val (.int py), .val (.int pk), .val (.int (3 : Int32)), .val (.int (2 : Int32)), .val (.int A0), .val (.int A1), .val (.int A2), .val (.int C0), .unset, .unset, .unset, .unset, .unset, .unset, .unset, .unset, .unset] [(.int C1)])) := by
          intro C1 hC1
          refine Go.istore X0 hx (hb hby at_61) (l' := #[.val (.int pl), .val (.int pm), .val (.int px), .val (.int py), .val (.int pk), .val (.int (3 : Int32)), .val (.int (2 : Int32)), .val (.int A0), .val (.int A1), .val (.int A2), .val (.int C0), .val (.int C1), .unset, .unset, .unset, .unset, .unset, .unset, .unset, .unset]) rfl (q := 63) rfl ?_
          refine Go.iload X0 hx (hb hby at_63) rfl (q := 65) rfl ?_
          refine Go.iconst X0 hx (hb hby at_65) (r := (4 : Int32)) rfl (q := 66) rfl ?_
          refine Go.iand X0 hx (hb hby at_66) rfl (q := 67) rfl ?_
          have J80 : ∀ (C2 : Int32), (C2.toInt8.toInt32) = C2 → Go pp ee below (KK ss (Q_law0 Z pl pm px py pk h0) room_1.cells room_1.slots) (s₁.setTop (mkF mm 80 #[.val (.int pl), .val (.int pm), .val (.int px), .val (.int py), .val (.int pk), .val (.int (3 : Int32)), .val (.int (2 : Int32)), .val (.int A0), .val (.int A1), .val (.int A2), .val (.int C0), .val (.int C1), .unset, .unset, .unset, .unset, .unset, .unset, .unset, .unset] [(.int C2)])) := by
            intro C2 hC2
            refine Go.istore X0 hx (hb hby at_80) (l' := #[.val (.int pl), .val (.int pm), .val (.int px), .val (.int py), .val (.int pk), .val (.int (3 : Int32)), .val (.int (2 : Int32)), .val (.int A0), .val (.int A1), .val (.int A2), .val (.int C0), .val (.int C1), .val (.int C2), .unset, .unset, .unset, .unset, .unset, .unset, .unset]) rfl (q := 82) rfl ?_
            refine Go.iload X0 hx (hb hby at_82) rfl (q := 84) rfl ?_
            refine Go.iload X0 hx (hb hby at_84) rfl (q := 86) rfl ?_
            refine Go.iload X0 hx (hb hby at_86) rfl (q := 88) rfl ?_
            refine Go.iload X0 hx (hb hby at_88) rfl (q := 90) rfl ?_
            refine Go.callS X0 hx hZ hown (wd0 hw) (wd1 hw) (wd2 hw) (wd3 hw) (by decide) (make3 l Z a0 hw A0 A1 A2 h0 O0 hA0 hA1 hA2) e0 (by rw [hml]; rfl) (hb hby at_90) (argsL := [(.int (3 : Int32)), (.int A0), (.int A1), (.int A2)]) (rest := []) (lenOf pd3 rfl) rfl rfl (W := 0) (by first | exact Nat.le_refl _ | decide) (by decide) (by decide) (by decide) (by decide) ?_
            intro v358 T358 L358 X358 hQ358
            obtain ⟨h358, e358⟩ : ∃ z, T358.heap = z := ⟨_, rfl⟩
            rw [e358] at hQ358
            obtain ⟨b_358, kb_358, rfl, N358q, K358, fr358_b, P358_0, P358_1⟩ := hQ358
            have N358 := Fr.app N0 N358q
            have g_b_358 : Z.heap.size ≤ b_358 := Nat.le_trans O0.1 fr358_b
            have OK358 := ext_keep O0 K358 all0
            refine Go.astore X358 hx (hb hby at_93) rfl (l' := #[.val (.int pl), .val (.int pm), .val (.int px), .val (.int py), .val (.int pk), .val (.int (3 : Int32)), .val (.int (2 : Int32)), .val (.int A0), .val (.int A1), .val (.int A2), .val (.int C0), .val (.int C1), .val (.int C2), .val (.ref b_358), .unset, .unset, .unset, .unset, .unset, .unset]) rfl (q := 95) rfl ?_
            refine Go.iload X358 hx (hb hby at_95) rfl (q := 97) rfl ?_
            refine Go.iload X358 hx (hb hby at_97) rfl (q := 99) rfl ?_
            refine Go.iload X358 hx (hb hby at_99) rfl (q := 101) rfl ?_
            refine Go.iload X358 hx (hb hby at_101) rfl (q := 103) rfl ?_
            refine Go.callS X358 hx hZ hown (wd0 hw) (wd1 hw) (wd2 hw) (wd3 hw) (by decide) (make3 l Z a0 hw A0 A1 A2 h358 OK358 hA0 hA1 hA2) e358 (by rw [hml]; rfl) (hb hby at_103) (argsL := [(.int (3 : Int32)), (.int A0), (.int A1), (.int A2)]) (rest := []) (lenOf pd3 rfl) rfl rfl (W := 0) (by first | exact Nat.le_refl _ | decide) (by decide) (by decide) (by decide) (by decide) ?_
            intro v359 T359 L359 X359 hQ359
            obtain ⟨h359, e359⟩ : ∃ z, T359.heap = z := ⟨_, rfl⟩
            rw [e359] at hQ359
            obtain ⟨b_359, kb_359, rfl, N359q, K359, fr359_b, P359_0, P359_1⟩ := hQ359
            have N359 := Fr.app N358 N359q
            have ne_b_358_b_359 : b_358 ≠ b_359 := ne_new P358_0.lt fr359_b
            have g_b_359 : Z.heap.size ≤ b_359 := Nat.le_trans OK358.1 fr359_b
            replace P358_0 := P358_0.keep K359 nin0
            replace P358_1 := P358_1.keep K359
            have OK359 := ext_keep OK358 K359 all0
            refine Go.astore X359 hx (hb hby at_106) rfl (l' := #[.val (.int pl), .val (.int pm), .val (.int px), .val (.int py), .val (.int pk), .val (.int (3 : Int32)), .val (.int (2 : Int32)), .val (.int A0), .val (.int A1), .val (.int A2), .val (.int C0), .val (.int C1), .val (.int C2), .val (.ref b_358), .val (.ref b_359), .unset, .unset, .unset, .unset, .unset]) rfl (q := 108) rfl ?_
            refine Go.iload X359 hx (hb hby at_108) rfl (q := 110) rfl ?_
            refine Go.iload X359 hx (hb hby at_110) rfl (q := 112) rfl ?_
            refine Go.iload X359 hx (hb hby at_112) rfl (q := 114) rfl ?_
            refine Go.iload X359 hx (hb hby at_114) rfl (q := 116) rfl ?_
            refine Go.callS X359 hx hZ hown (wd0 hw) (wd1 hw) (wd2 hw) (wd3 hw) (by decide) (make2 l Z a0 hw C0 C1 C2 h359 OK359 hC0 hC1 hC2) e359 (by rw [hml]; rfl) (hb hby at_116) (argsL := [(.int (2 : Int32)), (.int C0), (.int C1), (.int C2)]) (rest := []) (lenOf pd3 rfl) rfl rfl (W := 0) (by first | exact Nat.le_refl _ | decide) (by decide) (by decide) (by decide) (by decide) ?_
            intro v360 T360 L360 X360 hQ360
            obtain ⟨h360, e360⟩ : ∃ z, T360.heap = z := ⟨_, rfl⟩
            rw [e360] at hQ360
            obtain ⟨b_360, kb_360, rfl, N360q, K360, fr360_b, P360_0, P360_1⟩ := hQ360
            have N360 := Fr.app N359 N360q
            have ne_b_358_b_360 : b_358 ≠ b_360 := ne_new P358_0.lt fr360_b
            have ne_b_359_b_360 : b_359 ≠ b_360 := ne_new P359_0.lt fr360_b
            have g_b_360 : Z.heap.size ≤ b_360 := Nat.le_trans OK359.1 fr360_b
            replace P358_0 := P358_0.keep K360 nin0
            replace P358_1 := P358_1.keep K360
            replace P359_0 := P359_0.keep K360 nin0
            replace P359_1 := P359_1.keep K360
            have OK360 := ext_keep OK359 K360 all0
            refine Go.astore X360 hx (hb hby at_119) rfl (l' := #[.val (.int pl), .val (.int pm), .val (.int px), .val (.int py), .val (.int pk), .val (.int (3 : Int32)), .val (.int (2 : Int32)), .val (.int A0), .val (.int A1), .val (.int A2), .val (.int C0), .val (.int C1), .val (.int C2), .val (.ref b_358), .val (.ref b_359), .val (.ref b_360), .unset, .unset, .unset, .unset]) rfl (q := 121) rfl ?_
            refine Go.aload X360 hx (hb hby at_121) rfl rfl (q := 123) rfl ?_
            refine Go.callS X360 hx hZ hown (wd5 hw) (wd6 hw) (wd7 hw) (wd8 hw) (by decide) (of3 l Z a0 hw b_358 (kb_358) A0 A1 A2 h360 OK360 P358_0 P358_1) e360 (by rw [hml]; rfl) (hb hby at_123) (argsL := [(.ref b_358)]) (rest := []) (lenOf pd4 rfl) rfl rfl (W := 0) (by first | exact Nat.le_refl _ | decide) (by decide) (by decide) (by decide) (by decide) ?_
            intro v361 T361 L361 X361 hQ361
            obtain ⟨h361, e361⟩ : ∃ z, T361.heap = z := ⟨_, rfl⟩
            rw [e361] at hQ361
            obtain ⟨b_361, cn_361, kc_361, rfl, N361q, K361, fr361_b, fr361_cn, P361_0, P361_1, P361_2, P361_3, P361_4, P361_5⟩ := hQ361
            have N361 := Fr.app N360 N361q
            have ne_b_358_b_361 : b_358 ≠ b_361 := ne_new P358_0.lt fr361_b
            have ne_b_359_b_361 : b_359 ≠ b_361 := ne_new P359_0.lt fr361_b
            have ne_b_360_b_361 : b_360 ≠ b_361 := ne_new P360_0.lt fr361_b
            have g_b_361 : Z.heap.size ≤ b_361 := Nat.le_trans OK360.1 fr361_b
            have ne_b_358_cn_361 : b_358 ≠ cn_361 := ne_new P358_0.lt fr361_cn
            have ne_b_359_cn_361 : b_359 ≠ cn_361 := ne_new P359_0.lt fr361_cn
            have ne_b_360_cn_361 : b_360 ≠ cn_361 := ne_new P360_0.lt fr361_cn
            have g_cn_361 : Z.heap.size ≤ cn_361 := Nat.le_trans OK360.1 fr361_cn
            replace P358_0 := P358_0.keep K361 nin0
            replace P358_1 := P358_1.keep K361
            replace P359_0 := P359_0.keep K361 nin0
            replace P359_1 := P359_1.keep K361
            replace P360_0 := P360_0.keep K361 nin0
            replace P360_1 := P360_1.keep K361
            have OK361 := ext_keep OK360 K361 all0
            refine Go.astore X361 hx (hb hby at_126) rfl (l' := #[.val (.int pl), .val (.int pm), .val (.int px), .val (.int py), .val (.int pk), .val (.int (3 : Int32)), .val (.int (2 : Int32)), .val (.int A0), .val (.int A1), .val (.int A2), .val (.int C0), .val (.int C1), .val (.int C2), .val (.ref b_358), .val (.ref b_359), .val (.ref b_360), .val (.ref b_361), .unset, .unset, .unset]) rfl (q := 128) rfl ?_
            refine Go.iload X361 hx (hb hby at_128) rfl (q := 130) rfl ?_
            refine Go.ifNo X361 hx (hb hby at_130) (by decide) (q := 133) rfl ?_
            refine Go.aload X361 hx (hb hby at_133) rfl rfl (q := 135) rfl ?_
            refine Go.iload X361 hx (hb hby at_135) rfl (q := 137) rfl ?_
            refine Go.iconst X361 hx (hb hby at_137) (r := (1 : Int32)) rfl (q := 138) rfl ?_
            refine Go.isub X361 hx (hb hby at_138) (r := (2 : Int32)) rfl (q := 139) rfl ?_
            refine Go.aload X361 hx (hb hby at_139) rfl rfl (q := 141) rfl ?_
            refine Go.iload X361 hx (hb hby at_141) rfl (q := 143) rfl ?_
            refine Go.iconst X361 hx (hb hby at_143) (r := (1 : Int32)) rfl (q := 144) rfl ?_
            refine Go.isub X361 hx (hb hby at_144) (r := (2 : Int32)) rfl (q := 145) rfl ?_
            refine Go.bal X361 hx hZ e361 P358_0 ⟨by decide, by decide⟩ (v := (.int A2)) rfl (hb hby at_145) ?_
            refine Go.iconst X361 hx (hb hby at_146) (r := (-1 : Int32)) rfl (q := 147) rfl ?_
            refine Go.ixor X361 hx (hb hby at_147) rfl (q := 148) rfl ?_
            refine Go.i2b X361 hx (hb hby at_148) rfl (q := 149) rfl ?_
            refine Go.bst X361 hx hZ e361 P358_0 ⟨by decide, by decide⟩ (i := 2) rfl (Nat.le_of_ble_eq_true rfl) (hb hby at_149) ?_
            intro T362 h362 X362 e362 W362 V362
            rw [bb (A2 ^^^ (-1 : Int32))] at V362
            replace V362 : Arv Z h362 b_358 kb_358 .byte (3 : Int32) [(.int A0), (.int A1), (.int ((A2 ^^^ (-1 : Int32)).toInt8.toInt32))] (.int (0 : Int32)) := V362
            have N362 := Fr.snoc X362 N361 g_b_358
            replace P358_1 := P358_1.wr W362
            replace P359_0 := P359_0.other W362 (Ne.symm ne_b_358_b_359)
            replace P359_1 := P359_1.wr W362
            replace P360_0 := P360_0.other W362 (Ne.symm ne_b_358_b_360)
            replace P360_1 := P360_1.wr W362
            replace P361_0 := P361_0.wr W362
            replace P361_1 := P361_1.other W362 (Or.inl (Ne.symm ne_b_358_b_361))
            replace P361_2 := P361_2.other W362 (Ne.symm ne_b_358_cn_361)
            replace P361_3 := P361_3.other W362 (Or.inl (Ne.symm ne_b_358_b_361))
            replace P361_4 := P361_4.other W362 (Or.inl (Ne.symm ne_b_358_b_361))
            replace P361_5 := P361_5.other W362 (Or.inl (Ne.symm ne_b_358_b_361))
            have OW362 := ext_wr OK361 W362 g_b_358
            refine Go.aload X362 hx (hb hby at_150) rfl rfl (q := 152) rfl ?_
            refine Go.callS X362 hx hZ hown (wd5 hw) (wd6 hw) (wd7 hw) (wd8 hw) (by decide) (of3 l Z a0 hw b_359 (kb_359) A0 A1 A2 h362 OW362 P359_0 P359_1) e362 (by rw [hml]; rfl) (hb hby at_152) (argsL := [(.ref b_359)]) (rest := []) (lenOf pd4 rfl) rfl rfl (W := 0) (by first | exact Nat.le_refl _ | decide) (by decide) (by decide) (by decide) (by decide) ?_
            intro v363 T363 L363 X363 hQ363
            obtain ⟨h363, e363⟩ : ∃ z, T363.heap = z := ⟨_, rfl⟩
            rw [e363] at hQ363
            obtain ⟨b_363, cn_363, kc_363, rfl, N363q, K363, fr363_b, fr363_cn, P363_0, P363_1, P363_2, P363_3, P363_4, P363_5⟩ := hQ363
            have N363 := Fr.app N362 N363q
            have ne_b_358_b_363 : b_358 ≠ b_363 := ne_new P358_1.lt fr363_b
            have ne_b_359_b_363 : b_359 ≠ b_363 := ne_new P359_0.lt fr363_b
            have ne_b_360_b_363 : b_360 ≠ b_363 := ne_new P360_0.lt fr363_b
            have ne_b_361_b_363 : b_361 ≠ b_363 := ne_new P361_0.lt fr363_b
            have ne_cn_361_b_363 : cn_361 ≠ b_363 := ne_new P361_2.lt fr363_b
            have g_b_363 : Z.heap.size ≤ b_363 := Nat.le_trans OW362.1 fr363_b
            have ne_b_358_cn_363 : b_358 ≠ cn_363 := ne_new P358_1.lt fr363_cn
            have ne_b_359_cn_363 : b_359 ≠ cn_363 := ne_new P359_0.lt fr363_cn
            have ne_b_360_cn_363 : b_360 ≠ cn_363 := ne_new P360_0.lt fr363_cn
            have ne_b_361_cn_363 : b_361 ≠ cn_363 := ne_new P361_0.lt fr363_cn
            have ne_cn_361_cn_363 : cn_361 ≠ cn_363 := ne_new P361_2.lt fr363_cn
            have g_cn_363 : Z.heap.size ≤ cn_363 := Nat.le_trans OW362.1 fr363_cn
            replace P358_1 := P358_1.keep K363
            replace P359_0 := P359_0.keep K363 nin0
            replace P359_1 := P359_1.keep K363
            replace P360_0 := P360_0.keep K363 nin0
            replace P360_1 := P360_1.keep K363
            replace P361_0 := P361_0.keep K363
            replace P361_1 := P361_1.keep K363 nin0
            replace P361_2 := P361_2.keep K363 nin0
            replace P361_3 := P361_3.keep K363 nin0
            replace P361_4 := P361_4.keep K363 nin0
            replace P361_5 := P361_5.keep K363 nin0
            replace V362 := V362.keep K363 nin0
            have OK363 := ext_keep OW362 K363 all0
            refine Go.astore X363 hx (hb hby at_155) rfl (l' := #[.val (.int pl), .val (.int pm), .val (.int px), .val (.int py), .val (.int pk), .val (.int (3 : Int32)), .val (.int (2 : Int32)), .val (.int A0), .val (.int A1), .val (.int A2), .val (.int C0), .val (.int C1), .val (.int C2), .val (.ref b_358), .val (.ref b_359), .val (.ref b_360), .val (.ref b_361), .val (.ref b_363), .unset, .unset]) rfl (q := 157) rfl ?_
            refine Go.aload X363 hx (hb hby at_157) rfl rfl (q := 159) rfl ?_
            refine Go.callS X363 hx hZ hown (wd5 hw) (wd6 hw) (wd7 hw) (wd8 hw) (by decide) (of2 l Z a0 hw b_360 (kb_360) C0 C1 h363 OK363 P360_0 P360_1) e363 (by rw [hml]; rfl) (hb hby at_159) (argsL := [(.ref b_360)]) (rest := []) (lenOf pd4 rfl) rfl rfl (W := 0) (by first | exact Nat.le_refl _ | decide) (by decide) (by decide) (by decide) (by decide) ?_
            intro v364 T364 L364 X364 hQ364
            obtain ⟨h364, e364⟩ : ∃ z, T364.heap = z := ⟨_, rfl⟩
            rw [e364] at hQ364
            obtain ⟨b_364, cn_364, kc_364, rfl, N364q, K364, fr364_b, fr364_cn, P364_0, P364_1, P364_2, P364_3, P364_4, P364_5⟩ := hQ364
            have N364 := Fr.app N363 N364q
            have ne_b_358_b_364 : b_358 ≠ b_364 := ne_new P358_1.lt fr364_b
            have ne_b_359_b_364 : b_359 ≠ b_364 := ne_new P359_0.lt fr364_b
            have ne_b_360_b_364 : b_360 ≠ b_364 := ne_new P360_0.lt fr364_b
            have ne_b_361_b_364 : b_361 ≠ b_364 := ne_new P361_0.lt fr364_b
            have ne_cn_361_b_364 : cn_361 ≠ b_364 := ne_new P361_2.lt fr364_b
            have ne_b_363_b_364 : b_363 ≠ b_364 := ne_new P363_0.lt fr364_b
            have ne_cn_363_b_364 : cn_363 ≠ b_364 := ne_new P363_2.lt fr364_b
            have g_b_364 : Z.heap.size ≤ b_364 := Nat.le_trans OK363.1 fr364_b
            have ne_b_358_cn_364 : b_358 ≠ cn_364 := ne_new P358_1.lt fr364_cn
            have ne_b_359_cn_364 : b_359 ≠ cn_364 := ne_new P359_0.lt fr364_cn
            have ne_b_360_cn_364 : b_360 ≠ cn_364 := ne_new P360_0.lt fr364_cn
            have ne_b_361_cn_364 : b_361 ≠ cn_364 := ne_new P361_0.lt fr364_cn
            have ne_cn_361_cn_364 : cn_361 ≠ cn_364 := ne_new P361_2.lt fr364_cn
            have ne_b_363_cn_364 : b_363 ≠ cn_364 := ne_new P363_0.lt fr364_cn
            have ne_cn_363_cn_364 : cn_363 ≠ cn_364 := ne_new P363_2.lt fr364_cn
            have g_cn_364 : Z.heap.size ≤ cn_364 := Nat.le_trans OK363.1 fr364_cn
            replace P358_1 := P358_1.keep K364
            replace P359_0 := P359_0.keep K364 nin0
            replace P359_1 := P359_1.keep K364
            replace P360_0 := P360_0.keep K364 nin0
            replace P360_1 := P360_1.keep K364
            replace P361_0 := P361_0.keep K364
            replace P361_1 := P361_1.keep K364 nin0
            replace P361_2 := P361_2.keep K364 nin0
            replace P361_3 := P361_3.keep K364 nin0
            replace P361_4 := P361_4.keep K364 nin0
            replace P361_5 := P361_5.keep K364 nin0
            replace V362 := V362.keep K364 nin0
            replace P363_0 := P363_0.keep K364
            replace P363_1 := P363_1.keep K364 nin0
            replace P363_2 := P363_2.keep K364 nin0
            replace P363_3 := P363_3.keep K364 nin0
            replace P363_4 := P363_4.keep K364 nin0
            replace P363_5 := P363_5.keep K364 nin0
            have OK364 := ext_keep OK363 K364 all0
            refine Go.astore X364 hx (hb hby at_162) rfl (l' := #[.val (.int pl), .val (.int pm), .val (.int px), .val (.int py), .val (.int pk), .val (.int (3 : Int32)), .val (.int (2 : Int32)), .val (.int A0), .val (.int A1), .val (.int A2), .val (.int C0), .val (.int C1), .val (.int C2), .val (.ref b_358), .val (.ref b_359), .val (.ref b_360), .val (.ref b_361), .val (.ref b_363), .val (.ref b_364), .unset]) rfl (q := 164) rfl ?_
            refine Go.aload X364 hx (hb hby at_164) rfl rfl (q := 166) rfl ?_
            refine Go.virt X364 hx hZ hown (wd36 hw) (wd37 hw) (notFace_of_selects (args := #[]) (mvT hZ (wd39 hw))) (wd39 hw) (wd38 hw) (wd7 hw) (wd40 hw) (by decide) (clen l Z a0 hw b_361 cn_361 (kc_361) ((3 : Int32)) ([(.int A0), (.int A1), (.int A2)]) h364 OK364 P361_1 P361_2) e364 P361_0 (by rw [hml]; rfl) (hb hby at_166) (argsL := []) (rest := []) (lenOf pd5 rfl) rfl rfl (W := 0) (by first | exact Nat.le_refl _ | decide) (by decide) (by decide) (by decide) (by decide) ?_
            intro v365 T365 L365 X365 hQ365
            obtain ⟨rfl, N365q, e365⟩ := hQ365
            have N365 := Fr.app N364 N365q
            refine Go.iload X365 hx (hb hby at_169) rfl (q := 171) rfl ?_
            refine Go.icmpNo X365 hx (hb hby at_171) (by decide) (q := 174) rfl ?_
            refine Go.aload X365 hx (hb hby at_174) rfl rfl (q := 176) rfl ?_
            refine Go.virt X365 hx hZ hown (wd36 hw) (wd37 hw) (notFace_of_selects (args := #[]) (mvT hZ (wd39 hw))) (wd39 hw) (wd38 hw) (wd7 hw) (wd40 hw) (by decide) (clen l Z a0 hw b_364 cn_364 (kc_364) ((2 : Int32)) ([(.int C0), (.int C1)]) h364 OK364 P364_1 P364_2) e365 P364_0 (by rw [hml]; rfl) (hb hby at_176) (argsL := []) (rest := []) (lenOf pd5 rfl) rfl rfl (W := 0) (by first | exact Nat.le_refl _ | decide) (by decide) (by decide) (by decide) (by decide) ?_
            intro v366 T366 L366 X366 hQ366
            obtain ⟨rfl, N366q, e366⟩ := hQ366
            have N366 := Fr.app N365 N366q
            refine Go.iload X366 hx (hb hby at_179) rfl (q := 181) rfl ?_
            refine Go.icmpNo X366 hx (hb hby at_181) (by decide) (q := 184) rfl ?_
            refine Go.aload X366 hx (hb hby at_184) rfl rfl (q := 186) rfl ?_
            refine Go.virt X366 hx hZ hown (wd41 hw) (wd42 hw) (notFace_of_selects (args := #[]) (mvT hZ (wd44 hw))) (wd44 hw) (wd43 hw) (wd7 hw) (wd45 hw) (by decide) (clast l Z a0 hw b_361 h364 OK364 P361_3) e366 P361_0 (by rw [hml]; rfl) (hb hby at_186) (argsL := []) (rest := []) (lenOf pd6 rfl) rfl rfl (W := 0) (by first | exact Nat.le_refl _ | decide) (by decide) (by decide) (by decide) (by decide) ?_
            intro v367 T367 L367 X367 hQ367
            obtain ⟨rfl, N367q, e367⟩ := hQ367
            have N367 := Fr.app N366 N367q
            refine Go.ifnonnullNo X367 hx (hb hby at_189) (q := 192) rfl ?_
            refine Go.aload X367 hx (hb hby at_192) rfl rfl (q := 194) rfl ?_
            refine Go.virt X367 hx hZ hown (wd46 hw) (wd47 hw) (notFace_of_selects (args := #[]) (mvT hZ (wd49 hw))) (wd49 hw) (wd48 hw) (wd7 hw) (wd50 hw) (by decide) (cshar l Z a0 hw b_361 h364 OK364 P361_4) e367 P361_0 (by rw [hml]; rfl) (hb hby at_194) (argsL := []) (rest := []) (lenOf pd7 rfl) rfl rfl (W := 0) (by first | exact Nat.le_refl _ | decide) (by decide) (by decide) (by decide) (by decide) ?_
            intro v368 T368 L368 X368 hQ368
            obtain ⟨rfl, N368q, e368⟩ := hQ368
            have N368 := Fr.app N367 N368q
            refine Go.ifNo X368 hx (hb hby at_197) (by decide) (q := 200) rfl ?_
            refine Go.aload X368 hx (hb hby at_200) rfl rfl (q := 202) rfl ?_
            refine Go.virt X368 hx hZ hown (wd51 hw) (wd52 hw) (notFace_of_selects (args := #[]) (mvT hZ (wd54 hw))) (wd54 hw) (wd53 hw) (wd7 hw) (wd55 hw) (by decide) (cremo l Z a0 hw b_361 h364 OK364 P361_5) e368 P361_0 (by rw [hml]; rfl) (hb hby at_202) (argsL := []) (rest := []) (lenOf pd7 rfl) rfl rfl (W := 0) (by first | exact Nat.le_refl _ | decide) (by decide) (by decide) (by decide) (by decide) ?_
            intro v369 T369 L369 X369 hQ369
            obtain ⟨rfl, N369q, e369⟩ := hQ369
            have N369 := Fr.app N368 N369q
            refine Go.ifNo X369 hx (hb hby at_205) (by decide) (q := 208) rfl ?_
            refine Go.iconst X369 hx (hb hby at_208) (r := (1 : Int32)) rfl (q := 209) rfl ?_
            refine Go.goto X369 hx (hb hby at_209) (q := 213) (by decide) (by decide) ?_
            refine Go.istore X369 hx (hb hby at_213) (l' := #[.val (.int pl), .val (.int pm), .val (.int px), .val (.int py), .val (.int pk), .val (.int (3 : Int32)), .val (.int (2 : Int32)), .val (.int A0), .val (.int A1), .val (.int A2), .val (.int C0), .val (.int C1), .val (.int C2), .val (.ref b_358), .val (.ref b_359), .val (.ref b_360), .val (.ref b_361), .val (.ref b_363), .val (.ref b_364), .val (.int (1 : Int32))]) rfl (q := 215) rfl ?_
            refine Go.iload X369 hx (hb hby at_215) rfl (q := 217) rfl ?_
            refine Go.ifNo X369 hx (hb hby at_217) (by decide) (q := 220) rfl ?_
            refine Go.aload X369 hx (hb hby at_220) rfl rfl (q := 222) rfl ?_
            refine Go.aload X369 hx (hb hby at_222) rfl rfl (q := 224) rfl ?_
            refine Go.virt X369 hx hZ hown (wd56 hw) (wd57 hw) (notFace_of_selects (args := #[]) (mvT hZ (wd59 hw))) (wd59 hw) (wd58 hw) (wd7 hw) (wd60 hw) (by decide) (chs3_3 l Z a0 hw b_361 b_363 cn_361 cn_363 (kc_361) (kc_363) A0 A1 A2 A0 A1 A2 h364 OK364 P361_1 P363_1 P361_2 P363_2 ne_cn_361_cn_363 rfl rfl rfl) e369 P361_0 (by rw [hml]; rfl) (hb hby at_224) (argsL := [(.ref b_363)]) (rest := []) (lenOf pd8 rfl) rfl rfl (W := 0) (by first | exact Nat.le_refl _ | decide) (by decide) (by decide) (by decide) (by decide) ?_
            intro v370 T370 L370 X370 hQ370
            obtain ⟨rfl, N370q, e370⟩ := hQ370
            have N370 := Fr.app N369 N370q
            refine Go.ifNo X370 hx (hb hby at_227) (by decide) (q := 230) rfl ?_
            refine Go.iconst X370 hx (hb hby at_230) (r := (1 : Int32)) rfl (q := 231) rfl ?_
            refine Go.goto X370 hx (hb hby at_231) (q := 235) (by decide) (by decide) ?_
            refine Go.istore X370 hx (hb hby at_235) (l' := #[.val (.int pl), .val (.int pm), .val (.int px), .val (.int py), .val (.int pk), .val (.int (3 : Int32)), .val (.int (2 : Int32)), .val (.int A0), .val (.int A1), .val (.int A2), .val (.int C0), .val (.int C1), .val (.int C2), .val (.ref b_358), .val (.ref b_359), .val (.ref b_360), .val (.ref b_361), .val (.ref b_363), .val (.ref b_364), .val (.int (1 : Int32))]) rfl (q := 237) rfl ?_
            refine Go.iload X370 hx (hb hby at_237) rfl (q := 239) rfl ?_
            refine Go.ifNo X370 hx (hb hby at_239) (by decide) (q := 242) rfl ?_
            refine Go.aload X370 hx (hb hby at_242) rfl rfl (q := 244) rfl ?_
            refine Go.aload X370 hx (hb hby at_244) rfl rfl (q := 246) rfl ?_
            refine Go.virt X370 hx hZ hown (wd56 hw) (wd57 hw) (notFace_of_selects (args := #[]) (mvT hZ (wd59 hw))) (wd59 hw) (wd58 hw) (wd7 hw) (wd60 hw) (by decide) (chsd3_2 l Z a0 hw b_361 b_364 cn_361 cn_364 (kc_361) (kc_364) A0 A1 A2 C0 C1 h364 OK364 P361_1 P364_1 P361_2 P364_2 ne_cn_361_cn_364) e370 P361_0 (by rw [hml]; rfl) (hb hby at_246) (argsL := [(.ref b_364)]) (rest := []) (lenOf pd8 rfl) rfl rfl (W := 0) (by first | exact Nat.le_refl _ | decide) (by decide) (by decide) (by decide) (by decide) ?_
            intro v371 T371 L371 X371 hQ371
            obtain ⟨rfl, N371q, e371⟩ := hQ371
            have N371 := Fr.app N370 N371q
            refine Go.aload X371 hx (hb hby at_249) rfl rfl (q := 251) rfl ?_
            refine Go.aload X371 hx (hb hby at_251) rfl rfl (q := 253) rfl ?_
            refine Go.callS X371 hx hZ hown (wd69 hw) (wd70 hw) (wd2 hw) (wd71 hw) (by decide) (csamd3_2 l Z a0 hw b_359 b_360 (kb_359) (kb_360) A0 A1 A2 C0 C1 h364 OK364 P359_0 P360_0) e371 (by rw [hml]; rfl) (hb hby at_253) (argsL := [(.ref b_359), (.ref b_360)]) (rest := [(.int (0 : Int32))]) (lenOf pd2 rfl) rfl rfl (W := 1) (by first | exact Nat.le_refl _ | decide) (by decide) (by decide) (by decide) (by decide) ?_
            intro v372 T372 L372 X372 hQ372
            obtain ⟨rfl, N372q, e372⟩ := hQ372
            have N372 := Fr.app N371 N372q
            refine Go.icmpNo X372 hx (hb hby at_256) (by decide) (q := 259) rfl ?_
            refine Go.iconst X372 hx (hb hby at_259) (r := (1 : Int32)) rfl (q := 260) rfl ?_
            refine Go.goto X372 hx (hb hby at_260) (q := 264) (by decide) (by decide) ?_
            refine Go.istore X372 hx (hb hby at_264) (l' := #[.val (.int pl), .val (.int pm), .val (.int px), .val (.int py), .val (.int pk), .val (.int (3 : Int32)), .val (.int (2 : Int32)), .val (.int A0), .val (.int A1), .val (.int A2), .val (.int C0), .val (.int C1), .val (.int C2), .val (.ref b_358), .val (.ref b_359), .val (.ref b_360), .val (.ref b_361), .val (.ref b_363), .val (.ref b_364), .val (.int (1 : Int32))]) rfl (q := 266) rfl ?_
            refine Go.iload X372 hx (hb hby at_266) rfl (q := 268) rfl ?_
            exact Go.retI X372 hx hret hlk (by simp) rfl (hb hby at_268) e372 (by decide) (by decide) ⟨rfl, N372⟩
          by_cases hc373 : (pk &&& (4 : Int32)) = (0 : Int32)
          · refine Go.ifNo X0 hx (hb hby at_67) (Jvm.Free.XT.i0_ne_f hc373) (q := 70) rfl ?_
            refine Go.iload X0 hx (hb hby at_70) rfl (q := 72) rfl ?_
            refine Go.goto X0 hx (hb hby at_72) (q := 80) (by decide) (by decide) ?_
            exact J80 _ hA2
          · refine Go.ifYes X0 hx (hb hby at_67) (Jvm.Free.XT.i0_ne_t hc373) (q := 75) (by decide) (by decide) ?_
            refine Go.iloadN X0 hx (hb hby at_75) rfl (q := 76) rfl ?_
            refine Go.bipush X0 hx (hb hby at_76) (r := (16 : Int32)) rfl (q := 78) rfl ?_
            refine Go.iushr X0 hx (hb hby at_78) rfl (q := 79) rfl ?_
            refine Go.i2b X0 hx (hb hby at_79) rfl (q := 80) rfl ?_
            exact J80 _ (bb _)
        by_cases hc374 : (pk &&& (2 : Int32)) = (0 : Int32)
        · refine Go.ifNo X0 hx (hb hby at_48) (Jvm.Free.XT.i0_ne_f hc374) (q := 51) rfl ?_
          refine Go.iload X0 hx (hb hby at_51) rfl (q := 53) rfl ?_
          refine Go.goto X0 hx (hb hby at_53) (q := 61) (by decide) (by decide) ?_
          exact J61 _ hA1
        · refine Go.ifYes X0 hx (hb hby at_48) (Jvm.Free.XT.i0_ne_t hc374) (q := 56) (by decide) (by decide) ?_
          refine Go.iloadN X0 hx (hb hby at_56) rfl (q := 57) rfl ?_
          refine Go.bipush X0 hx (hb hby at_57) (r := (8 : Int32)) rfl (q := 59) rfl ?_
          refine Go.iushr X0 hx (hb hby at_59) rfl (q := 60) rfl ?_
          refine Go.i2b X0 hx (hb hby at_60) rfl (q := 61) rfl ?_
          exact J61 _ (bb _)
      by_cases hc375 : (pk &&& (1 : Int32)) = (0 : Int32)
      · refine Go.ifNo X0 hx (hb hby at_32) (Jvm.Free.XT.i0_ne_f hc375) (q := 35) rfl ?_
        refine Go.iload X0 hx (hb hby at_35) rfl (q := 37) rfl ?_
        refine Go.goto X0 hx (hb hby at_37) (q := 42) (by decide) (by decide) ?_
        exact J42 _ hA0
      · refine Go.ifYes X0 hx (hb hby at_32) (Jvm.Free.XT.i0_ne_t hc375) (q := 40) (by decide) (by decide) ?_
        refine Go.iloadN X0 hx (hb hby at_40) rfl (q := 41) rfl ?_
        refine Go.i2b X0 hx (hb hby at_41) rfl (q := 42) rfl ?_
        exact J42 _ (bb _)
    · show Go pp ee below _ (s₁.setTop (mkF mm 8 #[.val (.int pl), .val (.int pm), .val (.int px), .val (.int py), .val (.int pk), .val (.int (3 : Int32)), .unset, .unset, .unset, .unset, .unset, .unset, .unset, .unset, .unset, .unset, .unset, .unset, .unset, .unset] [(.int (3 : Int32))]))
      refine Go.istore X0 hx (hb hby at_8) (l' := #[.val (.int pl), .val (.int pm), .val (.int px), .val (.int py), .val (.int pk), .val (.int (3 : Int32)), .val (.int (3 : Int32)), .unset, .unset, .unset, .unset, .unset, .unset, .unset, .unset, .unset, .unset, .unset, .unset, .unset]) rfl (q := 10) rfl ?_
      refine Go.iloadN X0 hx (hb hby at_10) rfl (q := 11) rfl ?_
      refine Go.i2b X0 hx (hb hby at_11) rfl (q := 12) rfl ?_
      have hA0 := bb px
      generalize (px.toInt8.toInt32) = A0 at hA0 ⊢
      refine Go.istore X0 hx (hb hby at_12) (l' := #[.val (.int pl), .val (.int pm), .val (.int px), .val (.int py), .val (.int pk), .val (.int (3 : Int32)), .val (.int (3 : Int32)), .val (.int A0), .unset, .unset, .unset, .unset, .unset, .unset, .unset, .unset, .unset, .unset, .unset, .unset]) rfl (q := 14) rfl ?_
      refine Go.iloadN X0 hx (hb hby at_14) rfl (q := 15) rfl ?_
      refine Go.bipush X0 hx (hb hby at_15) (r := (8 : Int32)) rfl (q := 17) rfl ?_
      refine Go.iushr X0 hx (hb hby at_17) rfl (q := 18) rfl ?_
      refine Go.i2b X0 hx (hb hby at_18) rfl (q := 19) rfl ?_
      have hA1 := bb ((px.toUInt32 >>> ((8 : Int32) &&& 31).toUInt32).toInt32)
      generalize (((px.toUInt32 >>> ((8 : Int32) &&& 31).toUInt32).toInt32).toInt8.toInt32) = A1 at hA1 ⊢
      refine Go.istore X0 hx (hb hby at_19) (l' := #[.val (.int pl), .val (.int pm), .val (.int px), .val (.int py), .val (.int pk), .val (.int (3 : Int32)), .val (.int (3 : Int32)), .val (.int A0), .val (.int A1), .unset, .unset, .unset, .unset, .unset, .unset, .unset, .unset, .unset, .unset, .unset]) rfl (q := 21) rfl ?_
      refine Go.iloadN X0 hx (hb hby at_21) rfl (q := 22) rfl ?_
      refine Go.bipush X0 hx (hb hby at_22) (r := (16 : Int32)) rfl (q := 24) rfl ?_
      refine Go.iushr X0 hx (hb hby at_24) rfl (q := 25) rfl ?_
      refine Go.i2b X0 hx (hb hby at_25) rfl (q := 26) rfl ?_
      have hA2 := bb ((px.toUInt32 >>> ((16 : Int32) &&& 31).toUInt32).toInt32)
      generalize (((px.toUInt32 >>> ((16 : Int32) &&& 31).toUInt32).toInt32).toInt8.toInt32) = A2 at hA2 ⊢
      refine Go.istore X0 hx (hb hby at_26) (l' := #[.val (.int pl), .val (.int pm), .val (.int px), .val (.int py), .val (.int pk), .val (.int (3 : Int32)), .val (.int (3 : Int32)), .val (.int A0), .val (.int A1), .val (.int A2), .unset, .unset, .unset, .unset, .unset, .unset, .unset, .unset, .unset, .unset]) rfl (q := 28) rfl ?_
      refine Go.iload X0 hx (hb hby at_28) rfl (q := 30) rfl ?_
      refine Go.iconst X0 hx (hb hby at_30) (r := (1 : Int32)) rfl (q := 31) rfl ?_
      refine Go.iand X0 hx (hb hby at_31) rfl (q := 32) rfl ?_
      have J42 : ∀ (C0 : Int32), (C0.toInt8.toInt32) = C0 → Go pp ee below (KK ss (Q_law0 Z pl pm px py pk h0) room_1.cells room_1.slots) (s₁.setTop (mkF mm 42 #[.val (.int pl), .val (.int pm), .val (.int px), .val (.int py), .val (.int pk), .val (.int (3 : Int32)), .val (.int (3 : Int32)), .val (.int A0), .val (.int A1), .val (.int A2), .unset, .unset, .unset, .unset, .unset, .unset, .unset, .unset, .unset, .unset] [(.int C0)])) := by
        intro C0 hC0
        refine Go.istore X0 hx (hb hby at_42) (l' := #[.val (.int pl), .val (.int pm), .val (.int px), .val (.int py), .val (.int pk), .val (.int (3 : Int32)), .val (.int (3 : Int32)), .val (.int A0), .val (.int A1), .val (.int A2), .val (.int C0), .unset, .unset, .unset, .unset, .unset, .unset, .unset, .unset, .unset]) rfl (q := 44) rfl ?_
        refine Go.iload X0 hx (hb hby at_44) rfl (q := 46) rfl ?_
        refine Go.iconst X0 hx (hb hby at_46) (r := (2 : Int32)) rfl (q := 47) rfl ?_
        refine Go.iand X0 hx (hb hby at_47) rfl (q := 48) rfl ?_
        have J61 : ∀ (C1 : Int32), (C1.toInt8.toInt32) = C1 → Go pp ee below (KK ss (Q_law0 Z pl pm px py pk h0) room_1.cells room_1.slots) (s₁.setTop (mkF mm 61 #[.val (.int pl), .val (.int pm), .val (.int px), .val (.int py), .val (.int pk), .val (.int (3 : Int32)), .val (.int (3 : Int32)), .val (.int A0), .val (.int A1), .val (.int A2), .val (.int C0), .unset, .unset, .unset, .unset, .unset, .unset, .unset, .unset, .unset] [(.int C1)])) := by
          intro C1 hC1
          refine Go.istore X0 hx (hb hby at_61) (l' := #[.val (.int pl), .val (.int pm), .val (.int px), .val (.int py), .val (.int pk), .val (.int (3 : Int32)), .val (.int (3 : Int32)), .val (.int A0), .val (.int A1), .val (.int A2), .val (.int C0), .val (.int C1), .unset, .unset, .unset, .unset, .unset, .unset, .unset, .unset]) rfl (q := 63) rfl ?_
          refine Go.iload X0 hx (hb hby at_63) rfl (q := 65) rfl ?_
          refine Go.iconst X0 hx (hb hby at_65) (r := (4 : Int32)) rfl (q := 66) rfl ?_
          refine Go.iand X0 hx (hb hby at_66) rfl (q := 67) rfl ?_
          have J80 : ∀ (C2 : Int32), (C2.toInt8.toInt32) = C2 → Go pp ee below (KK ss (Q_law0 Z pl pm px py pk h0) room_1.cells room_1.slots) (s₁.setTop (mkF mm 80 #[.val (.int pl), .val (.int pm), .val (.int px), .val (.int py), .val (.int pk), .val (.int (3 : Int32)), .val (.int (3 : Int32)), .val (.int A0), .val (.int A1), .val (.int A2), .val (.int C0), .val (.int C1), .unset, .unset, .unset, .unset, .unset, .unset, .unset, .unset] [(.int C2)])) := by
            intro C2 hC2
            refine Go.istore X0 hx (hb hby at_80) (l' := #[.val (.int pl), .val (.int pm), .val (.int px), .val (.int py), .val (.int pk), .val (.int (3 : Int32)), .val (.int (3 : Int32)), .val (.int A0), .val (.int A1), .val (.int A2), .val (.int C0), .val (.int C1), .val (.int C2), .unset, .unset, .unset, .unset, .unset, .unset, .unset]) rfl (q := 82) rfl ?_
            refine Go.iload X0 hx (hb hby at_82) rfl (q := 84) rfl ?_
            refine Go.iload X0 hx (hb hby at_84) rfl (q := 86) rfl ?_
            refine Go.iload X0 hx (hb hby at_86) rfl (q := 88) rfl ?_
            refine Go.iload X0 hx (hb hby at_88) rfl (q := 90) rfl ?_
            refine Go.callS X0 hx hZ hown (wd0 hw) (wd1 hw) (wd2 hw) (wd3 hw) (by decide) (make3 l Z a0 hw A0 A1 A2 h0 O0 hA0 hA1 hA2) e0 (by rw [hml]; rfl) (hb hby at_90) (argsL := [(.int (3 : Int32)), (.int A0), (.int A1), (.int A2)]) (rest := []) (lenOf pd3 rfl) rfl rfl (W := 0) (by first | exact Nat.le_refl _ | decide) (by decide) (by decide) (by decide) (by decide) ?_
            intro v376 T376 L376 X376 hQ376
            obtain ⟨h376, e376⟩ : ∃ z, T376.heap = z := ⟨_, rfl⟩
            rw [e376] at hQ376
            obtain ⟨b_376, kb_376, rfl, N376q, K376, fr376_b, P376_0, P376_1⟩ := hQ376
            have N376 := Fr.app N0 N376q
            have g_b_376 : Z.heap.size ≤ b_376 := Nat.le_trans O0.1 fr376_b
            have OK376 := ext_keep O0 K376 all0
            refine Go.astore X376 hx (hb hby at_93) rfl (l' := #[.val (.int pl), .val (.int pm), .val (.int px), .val (.int py), .val (.int pk), .val (.int (3 : Int32)), .val (.int (3 : Int32)), .val (.int A0), .val (.int A1), .val (.int A2), .val (.int C0), .val (.int C1), .val (.int C2), .val (.ref b_376), .unset, .unset, .unset, .unset, .unset, .unset]) rfl (q := 95) rfl ?_
            refine Go.iload X376 hx (hb hby at_95) rfl (q := 97) rfl ?_
            refine Go.iload X376 hx (hb hby at_97) rfl (q := 99) rfl ?_
            refine Go.iload X376 hx (hb hby at_99) rfl (q := 101) rfl ?_
            refine Go.iload X376 hx (hb hby at_101) rfl (q := 103) rfl ?_
            refine Go.callS X376 hx hZ hown (wd0 hw) (wd1 hw) (wd2 hw) (wd3 hw) (by decide) (make3 l Z a0 hw A0 A1 A2 h376 OK376 hA0 hA1 hA2) e376 (by rw [hml]; rfl) (hb hby at_103) (argsL := [(.int (3 : Int32)), (.int A0), (.int A1), (.int A2)]) (rest := []) (lenOf pd3 rfl) rfl rfl (W := 0) (by first | exact Nat.le_refl _ | decide) (by decide) (by decide) (by decide) (by decide) ?_
            intro v377 T377 L377 X377 hQ377
            obtain ⟨h377, e377⟩ : ∃ z, T377.heap = z := ⟨_, rfl⟩
            rw [e377] at hQ377
            obtain ⟨b_377, kb_377, rfl, N377q, K377, fr377_b, P377_0, P377_1⟩ := hQ377
            have N377 := Fr.app N376 N377q
            have ne_b_376_b_377 : b_376 ≠ b_377 := ne_new P376_0.lt fr377_b
            have g_b_377 : Z.heap.size ≤ b_377 := Nat.le_trans OK376.1 fr377_b
            replace P376_0 := P376_0.keep K377 nin0
            replace P376_1 := P376_1.keep K377
            have OK377 := ext_keep OK376 K377 all0
            refine Go.astore X377 hx (hb hby at_106) rfl (l' := #[.val (.int pl), .val (.int pm), .val (.int px), .val (.int py), .val (.int pk), .val (.int (3 : Int32)), .val (.int (3 : Int32)), .val (.int A0), .val (.int A1), .val (.int A2), .val (.int C0), .val (.int C1), .val (.int C2), .val (.ref b_376), .val (.ref b_377), .unset, .unset, .unset, .unset, .unset]) rfl (q := 108) rfl ?_
            refine Go.iload X377 hx (hb hby at_108) rfl (q := 110) rfl ?_
            refine Go.iload X377 hx (hb hby at_110) rfl (q := 112) rfl ?_
            refine Go.iload X377 hx (hb hby at_112) rfl (q := 114) rfl ?_
            refine Go.iload X377 hx (hb hby at_114) rfl (q := 116) rfl ?_
            refine Go.callS X377 hx hZ hown (wd0 hw) (wd1 hw) (wd2 hw) (wd3 hw) (by decide) (make3 l Z a0 hw C0 C1 C2 h377 OK377 hC0 hC1 hC2) e377 (by rw [hml]; rfl) (hb hby at_116) (argsL := [(.int (3 : Int32)), (.int C0), (.int C1), (.int C2)]) (rest := []) (lenOf pd3 rfl) rfl rfl (W := 0) (by first | exact Nat.le_refl _ | decide) (by decide) (by decide) (by decide) (by decide) ?_
            intro v378 T378 L378 X378 hQ378
            obtain ⟨h378, e378⟩ : ∃ z, T378.heap = z := ⟨_, rfl⟩
            rw [e378] at hQ378
            obtain ⟨b_378, kb_378, rfl, N378q, K378, fr378_b, P378_0, P378_1⟩ := hQ378
            have N378 := Fr.app N377 N378q
            have ne_b_376_b_378 : b_376 ≠ b_378 := ne_new P376_0.lt fr378_b
            have ne_b_377_b_378 : b_377 ≠ b_378 := ne_new P377_0.lt fr378_b
            have g_b_378 : Z.heap.size ≤ b_378 := Nat.le_trans OK377.1 fr378_b
            replace P376_0 := P376_0.keep K378 nin0
            replace P376_1 := P376_1.keep K378
            replace P377_0 := P377_0.keep K378 nin0
            replace P377_1 := P377_1.keep K378
            have OK378 := ext_keep OK377 K378 all0
            refine Go.astore X378 hx (hb hby at_119) rfl (l' := #[.val (.int pl), .val (.int pm), .val (.int px), .val (.int py), .val (.int pk), .val (.int (3 : Int32)), .val (.int (3 : Int32)), .val (.int A0), .val (.int A1), .val (.int A2), .val (.int C0), .val (.int C1), .val (.int C2), .val (.ref b_376), .val (.ref b_377), .val (.ref b_378), .unset, .unset, .unset, .unset]) rfl (q := 121) rfl ?_
            refine Go.aload X378 hx (hb hby at_121) rfl rfl (q := 123) rfl ?_
            refine Go.callS X378 hx hZ hown (wd5 hw) (wd6 hw) (wd7 hw) (wd8 hw) (by decide) (of3 l Z a0 hw b_376 (kb_376) A0 A1 A2 h378 OK378 P376_0 P376_1) e378 (by rw [hml]; rfl) (hb hby at_123) (argsL := [(.ref b_376)]) (rest := []) (lenOf pd4 rfl) rfl rfl (W := 0) (by first | exact Nat.le_refl _ | decide) (by decide) (by decide) (by decide) (by decide) ?_
            intro v379 T379 L379 X379 hQ379
            obtain ⟨h379, e379⟩ : ∃ z, T379.heap = z := ⟨_, rfl⟩
            rw [e379] at hQ379
            obtain ⟨b_379, cn_379, kc_379, rfl, N379q, K379, fr379_b, fr379_cn, P379_0, P379_1, P379_2, P379_3, P379_4, P379_5⟩ := hQ379
            have N379 := Fr.app N378 N379q
            have ne_b_376_b_379 : b_376 ≠ b_379 := ne_new P376_0.lt fr379_b
            have ne_b_377_b_379 : b_377 ≠ b_379 := ne_new P377_0.lt fr379_b
            have ne_b_378_b_379 : b_378 ≠ b_379 := ne_new P378_0.lt fr379_b
            have g_b_379 : Z.heap.size ≤ b_379 := Nat.le_trans OK378.1 fr379_b
            have ne_b_376_cn_379 : b_376 ≠ cn_379 := ne_new P376_0.lt fr379_cn
            have ne_b_377_cn_379 : b_377 ≠ cn_379 := ne_new P377_0.lt fr379_cn
            have ne_b_378_cn_379 : b_378 ≠ cn_379 := ne_new P378_0.lt fr379_cn
            have g_cn_379 : Z.heap.size ≤ cn_379 := Nat.le_trans OK378.1 fr379_cn
            replace P376_0 := P376_0.keep K379 nin0
            replace P376_1 := P376_1.keep K379
            replace P377_0 := P377_0.keep K379 nin0
            replace P377_1 := P377_1.keep K379
            replace P378_0 := P378_0.keep K379 nin0
            replace P378_1 := P378_1.keep K379
            have OK379 := ext_keep OK378 K379 all0
            refine Go.astore X379 hx (hb hby at_126) rfl (l' := #[.val (.int pl), .val (.int pm), .val (.int px), .val (.int py), .val (.int pk), .val (.int (3 : Int32)), .val (.int (3 : Int32)), .val (.int A0), .val (.int A1), .val (.int A2), .val (.int C0), .val (.int C1), .val (.int C2), .val (.ref b_376), .val (.ref b_377), .val (.ref b_378), .val (.ref b_379), .unset, .unset, .unset]) rfl (q := 128) rfl ?_
            refine Go.iload X379 hx (hb hby at_128) rfl (q := 130) rfl ?_
            refine Go.ifNo X379 hx (hb hby at_130) (by decide) (q := 133) rfl ?_
            refine Go.aload X379 hx (hb hby at_133) rfl rfl (q := 135) rfl ?_
            refine Go.iload X379 hx (hb hby at_135) rfl (q := 137) rfl ?_
            refine Go.iconst X379 hx (hb hby at_137) (r := (1 : Int32)) rfl (q := 138) rfl ?_
            refine Go.isub X379 hx (hb hby at_138) (r := (2 : Int32)) rfl (q := 139) rfl ?_
            refine Go.aload X379 hx (hb hby at_139) rfl rfl (q := 141) rfl ?_
            refine Go.iload X379 hx (hb hby at_141) rfl (q := 143) rfl ?_
            refine Go.iconst X379 hx (hb hby at_143) (r := (1 : Int32)) rfl (q := 144) rfl ?_
            refine Go.isub X379 hx (hb hby at_144) (r := (2 : Int32)) rfl (q := 145) rfl ?_
            refine Go.bal X379 hx hZ e379 P376_0 ⟨by decide, by decide⟩ (v := (.int A2)) rfl (hb hby at_145) ?_
            refine Go.iconst X379 hx (hb hby at_146) (r := (-1 : Int32)) rfl (q := 147) rfl ?_
            refine Go.ixor X379 hx (hb hby at_147) rfl (q := 148) rfl ?_
            refine Go.i2b X379 hx (hb hby at_148) rfl (q := 149) rfl ?_
            refine Go.bst X379 hx hZ e379 P376_0 ⟨by decide, by decide⟩ (i := 2) rfl (Nat.le_of_ble_eq_true rfl) (hb hby at_149) ?_
            intro T380 h380 X380 e380 W380 V380
            rw [bb (A2 ^^^ (-1 : Int32))] at V380
            replace V380 : Arv Z h380 b_376 kb_376 .byte (3 : Int32) [(.int A0), (.int A1), (.int ((A2 ^^^ (-1 : Int32)).toInt8.toInt32))] (.int (0 : Int32)) := V380
            have N380 := Fr.snoc X380 N379 g_b_376
            replace P376_1 := P376_1.wr W380
            replace P377_0 := P377_0.other W380 (Ne.symm ne_b_376_b_377)
            replace P377_1 := P377_1.wr W380
            replace P378_0 := P378_0.other W380 (Ne.symm ne_b_376_b_378)
            replace P378_1 := P378_1.wr W380
            replace P379_0 := P379_0.wr W380
            replace P379_1 := P379_1.other W380 (Or.inl (Ne.symm ne_b_376_b_379))
            replace P379_2 := P379_2.other W380 (Ne.symm ne_b_376_cn_379)
            replace P379_3 := P379_3.other W380 (Or.inl (Ne.symm ne_b_376_b_379))
            replace P379_4 := P379_4.other W380 (Or.inl (Ne.symm ne_b_376_b_379))
            replace P379_5 := P379_5.other W380 (Or.inl (Ne.symm ne_b_376_b_379))
            have OW380 := ext_wr OK379 W380 g_b_376
            refine Go.aload X380 hx (hb hby at_150) rfl rfl (q := 152) rfl ?_
            refine Go.callS X380 hx hZ hown (wd5 hw) (wd6 hw) (wd7 hw) (wd8 hw) (by decide) (of3 l Z a0 hw b_377 (kb_377) A0 A1 A2 h380 OW380 P377_0 P377_1) e380 (by rw [hml]; rfl) (hb hby at_152) (argsL := [(.ref b_377)]) (rest := []) (lenOf pd4 rfl) rfl rfl (W := 0) (by first | exact Nat.le_refl _ | decide) (by decide) (by decide) (by decide) (by decide) ?_
            intro v381 T381 L381 X381 hQ381
            obtain ⟨h381, e381⟩ : ∃ z, T381.heap = z := ⟨_, rfl⟩
            rw [e381] at hQ381
            obtain ⟨b_381, cn_381, kc_381, rfl, N381q, K381, fr381_b, fr381_cn, P381_0, P381_1, P381_2, P381_3, P381_4, P381_5⟩ := hQ381
            have N381 := Fr.app N380 N381q
            have ne_b_376_b_381 : b_376 ≠ b_381 := ne_new P376_1.lt fr381_b
            have ne_b_377_b_381 : b_377 ≠ b_381 := ne_new P377_0.lt fr381_b
            have ne_b_378_b_381 : b_378 ≠ b_381 := ne_new P378_0.lt fr381_b
            have ne_b_379_b_381 : b_379 ≠ b_381 := ne_new P379_0.lt fr381_b
            have ne_cn_379_b_381 : cn_379 ≠ b_381 := ne_new P379_2.lt fr381_b
            have g_b_381 : Z.heap.size ≤ b_381 := Nat.le_trans OW380.1 fr381_b
            have ne_b_376_cn_381 : b_376 ≠ cn_381 := ne_new P376_1.lt fr381_cn
            have ne_b_377_cn_381 : b_377 ≠ cn_381 := ne_new P377_0.lt fr381_cn
            have ne_b_378_cn_381 : b_378 ≠ cn_381 := ne_new P378_0.lt fr381_cn
            have ne_b_379_cn_381 : b_379 ≠ cn_381 := ne_new P379_0.lt fr381_cn
            have ne_cn_379_cn_381 : cn_379 ≠ cn_381 := ne_new P379_2.lt fr381_cn
            have g_cn_381 : Z.heap.size ≤ cn_381 := Nat.le_trans OW380.1 fr381_cn
            replace P376_1 := P376_1.keep K381
            replace P377_0 := P377_0.keep K381 nin0
            replace P377_1 := P377_1.keep K381
            replace P378_0 := P378_0.keep K381 nin0
            replace P378_1 := P378_1.keep K381
            replace P379_0 := P379_0.keep K381
            replace P379_1 := P379_1.keep K381 nin0
            replace P379_2 := P379_2.keep K381 nin0
            replace P379_3 := P379_3.keep K381 nin0
            replace P379_4 := P379_4.keep K381 nin0
            replace P379_5 := P379_5.keep K381 nin0
            replace V380 := V380.keep K381 nin0
            have OK381 := ext_keep OW380 K381 all0
            refine Go.astore X381 hx (hb hby at_155) rfl (l' := #[.val (.int pl), .val (.int pm), .val (.int px), .val (.int py), .val (.int pk), .val (.int (3 : Int32)), .val (.int (3 : Int32)), .val (.int A0), .val (.int A1), .val (.int A2), .val (.int C0), .val (.int C1), .val (.int C2), .val (.ref b_376), .val (.ref b_377), .val (.ref b_378), .val (.ref b_379), .val (.ref b_381), .unset, .unset]) rfl (q := 157) rfl ?_
            refine Go.aload X381 hx (hb hby at_157) rfl rfl (q := 159) rfl ?_
            refine Go.callS X381 hx hZ hown (wd5 hw) (wd6 hw) (wd7 hw) (wd8 hw) (by decide) (of3 l Z a0 hw b_378 (kb_378) C0 C1 C2 h381 OK381 P378_0 P378_1) e381 (by rw [hml]; rfl) (hb hby at_159) (argsL := [(.ref b_378)]) (rest := []) (lenOf pd4 rfl) rfl rfl (W := 0) (by first | exact Nat.le_refl _ | decide) (by decide) (by decide) (by decide) (by decide) ?_
            intro v382 T382 L382 X382 hQ382
            obtain ⟨h382, e382⟩ : ∃ z, T382.heap = z := ⟨_, rfl⟩
            rw [e382] at hQ382
            obtain ⟨b_382, cn_382, kc_382, rfl, N382q, K382, fr382_b, fr382_cn, P382_0, P382_1, P382_2, P382_3, P382_4, P382_5⟩ := hQ382
            have N382 := Fr.app N381 N382q
            have ne_b_376_b_382 : b_376 ≠ b_382 := ne_new P376_1.lt fr382_b
            have ne_b_377_b_382 : b_377 ≠ b_382 := ne_new P377_0.lt fr382_b
            have ne_b_378_b_382 : b_378 ≠ b_382 := ne_new P378_0.lt fr382_b
            have ne_b_379_b_382 : b_379 ≠ b_382 := ne_new P379_0.lt fr382_b
            have ne_cn_379_b_382 : cn_379 ≠ b_382 := ne_new P379_2.lt fr382_b
            have ne_b_381_b_382 : b_381 ≠ b_382 := ne_new P381_0.lt fr382_b
            have ne_cn_381_b_382 : cn_381 ≠ b_382 := ne_new P381_2.lt fr382_b
            have g_b_382 : Z.heap.size ≤ b_382 := Nat.le_trans OK381.1 fr382_b
            have ne_b_376_cn_382 : b_376 ≠ cn_382 := ne_new P376_1.lt fr382_cn
            have ne_b_377_cn_382 : b_377 ≠ cn_382 := ne_new P377_0.lt fr382_cn
            have ne_b_378_cn_382 : b_378 ≠ cn_382 := ne_new P378_0.lt fr382_cn
            have ne_b_379_cn_382 : b_379 ≠ cn_382 := ne_new P379_0.lt fr382_cn
            have ne_cn_379_cn_382 : cn_379 ≠ cn_382 := ne_new P379_2.lt fr382_cn
            have ne_b_381_cn_382 : b_381 ≠ cn_382 := ne_new P381_0.lt fr382_cn
            have ne_cn_381_cn_382 : cn_381 ≠ cn_382 := ne_new P381_2.lt fr382_cn
            have g_cn_382 : Z.heap.size ≤ cn_382 := Nat.le_trans OK381.1 fr382_cn
            replace P376_1 := P376_1.keep K382
            replace P377_0 := P377_0.keep K382 nin0
            replace P377_1 := P377_1.keep K382
            replace P378_0 := P378_0.keep K382 nin0
            replace P378_1 := P378_1.keep K382
            replace P379_0 := P379_0.keep K382
            replace P379_1 := P379_1.keep K382 nin0
            replace P379_2 := P379_2.keep K382 nin0
            replace P379_3 := P379_3.keep K382 nin0
            replace P379_4 := P379_4.keep K382 nin0
            replace P379_5 := P379_5.keep K382 nin0
            replace V380 := V380.keep K382 nin0
            replace P381_0 := P381_0.keep K382
            replace P381_1 := P381_1.keep K382 nin0
            replace P381_2 := P381_2.keep K382 nin0
            replace P381_3 := P381_3.keep K382 nin0
            replace P381_4 := P381_4.keep K382 nin0
            replace P381_5 := P381_5.keep K382 nin0
            have OK382 := ext_keep OK381 K382 all0
            refine Go.astore X382 hx (hb hby at_162) rfl (l' := #[.val (.int pl), .val (.int pm), .val (.int px), .val (.int py), .val (.int pk), .val (.int (3 : Int32)), .val (.int (3 : Int32)), .val (.int A0), .val (.int A1), .val (.int A2), .val (.int C0), .val (.int C1), .val (.int C2), .val (.ref b_376), .val (.ref b_377), .val (.ref b_378), .val (.ref b_379), .val (.ref b_381), .val (.ref b_382), .unset]) rfl (q := 164) rfl ?_
            refine Go.aload X382 hx (hb hby at_164) rfl rfl (q := 166) rfl ?_
            refine Go.virt X382 hx hZ hown (wd36 hw) (wd37 hw) (notFace_of_selects (args := #[]) (mvT hZ (wd39 hw))) (wd39 hw) (wd38 hw) (wd7 hw) (wd40 hw) (by decide) (clen l Z a0 hw b_379 cn_379 (kc_379) ((3 : Int32)) ([(.int A0), (.int A1), (.int A2)]) h382 OK382 P379_1 P379_2) e382 P379_0 (by rw [hml]; rfl) (hb hby at_166) (argsL := []) (rest := []) (lenOf pd5 rfl) rfl rfl (W := 0) (by first | exact Nat.le_refl _ | decide) (by decide) (by decide) (by decide) (by decide) ?_
            intro v383 T383 L383 X383 hQ383
            obtain ⟨rfl, N383q, e383⟩ := hQ383
            have N383 := Fr.app N382 N383q
            refine Go.iload X383 hx (hb hby at_169) rfl (q := 171) rfl ?_
            refine Go.icmpNo X383 hx (hb hby at_171) (by decide) (q := 174) rfl ?_
            refine Go.aload X383 hx (hb hby at_174) rfl rfl (q := 176) rfl ?_
            refine Go.virt X383 hx hZ hown (wd36 hw) (wd37 hw) (notFace_of_selects (args := #[]) (mvT hZ (wd39 hw))) (wd39 hw) (wd38 hw) (wd7 hw) (wd40 hw) (by decide) (clen l Z a0 hw b_382 cn_382 (kc_382) ((3 : Int32)) ([(.int C0), (.int C1), (.int C2)]) h382 OK382 P382_1 P382_2) e383 P382_0 (by rw [hml]; rfl) (hb hby at_176) (argsL := []) (rest := []) (lenOf pd5 rfl) rfl rfl (W := 0) (by first | exact Nat.le_refl _ | decide) (by decide) (by decide) (by decide) (by decide) ?_
            intro v384 T384 L384 X384 hQ384
            obtain ⟨rfl, N384q, e384⟩ := hQ384
            have N384 := Fr.app N383 N384q
            refine Go.iload X384 hx (hb hby at_179) rfl (q := 181) rfl ?_
            refine Go.icmpNo X384 hx (hb hby at_181) (by decide) (q := 184) rfl ?_
            refine Go.aload X384 hx (hb hby at_184) rfl rfl (q := 186) rfl ?_
            refine Go.virt X384 hx hZ hown (wd41 hw) (wd42 hw) (notFace_of_selects (args := #[]) (mvT hZ (wd44 hw))) (wd44 hw) (wd43 hw) (wd7 hw) (wd45 hw) (by decide) (clast l Z a0 hw b_379 h382 OK382 P379_3) e384 P379_0 (by rw [hml]; rfl) (hb hby at_186) (argsL := []) (rest := []) (lenOf pd6 rfl) rfl rfl (W := 0) (by first | exact Nat.le_refl _ | decide) (by decide) (by decide) (by decide) (by decide) ?_
            intro v385 T385 L385 X385 hQ385
            obtain ⟨rfl, N385q, e385⟩ := hQ385
            have N385 := Fr.app N384 N385q
            refine Go.ifnonnullNo X385 hx (hb hby at_189) (q := 192) rfl ?_
            refine Go.aload X385 hx (hb hby at_192) rfl rfl (q := 194) rfl ?_
            refine Go.virt X385 hx hZ hown (wd46 hw) (wd47 hw) (notFace_of_selects (args := #[]) (mvT hZ (wd49 hw))) (wd49 hw) (wd48 hw) (wd7 hw) (wd50 hw) (by decide) (cshar l Z a0 hw b_379 h382 OK382 P379_4) e385 P379_0 (by rw [hml]; rfl) (hb hby at_194) (argsL := []) (rest := []) (lenOf pd7 rfl) rfl rfl (W := 0) (by first | exact Nat.le_refl _ | decide) (by decide) (by decide) (by decide) (by decide) ?_
            intro v386 T386 L386 X386 hQ386
            obtain ⟨rfl, N386q, e386⟩ := hQ386
            have N386 := Fr.app N385 N386q
            refine Go.ifNo X386 hx (hb hby at_197) (by decide) (q := 200) rfl ?_
            refine Go.aload X386 hx (hb hby at_200) rfl rfl (q := 202) rfl ?_
            refine Go.virt X386 hx hZ hown (wd51 hw) (wd52 hw) (notFace_of_selects (args := #[]) (mvT hZ (wd54 hw))) (wd54 hw) (wd53 hw) (wd7 hw) (wd55 hw) (by decide) (cremo l Z a0 hw b_379 h382 OK382 P379_5) e386 P379_0 (by rw [hml]; rfl) (hb hby at_202) (argsL := []) (rest := []) (lenOf pd7 rfl) rfl rfl (W := 0) (by first | exact Nat.le_refl _ | decide) (by decide) (by decide) (by decide) (by decide) ?_
            intro v387 T387 L387 X387 hQ387
            obtain ⟨rfl, N387q, e387⟩ := hQ387
            have N387 := Fr.app N386 N387q
            refine Go.ifNo X387 hx (hb hby at_205) (by decide) (q := 208) rfl ?_
            refine Go.iconst X387 hx (hb hby at_208) (r := (1 : Int32)) rfl (q := 209) rfl ?_
            refine Go.goto X387 hx (hb hby at_209) (q := 213) (by decide) (by decide) ?_
            refine Go.istore X387 hx (hb hby at_213) (l' := #[.val (.int pl), .val (.int pm), .val (.int px), .val (.int py), .val (.int pk), .val (.int (3 : Int32)), .val (.int (3 : Int32)), .val (.int A0), .val (.int A1), .val (.int A2), .val (.int C0), .val (.int C1), .val (.int C2), .val (.ref b_376), .val (.ref b_377), .val (.ref b_378), .val (.ref b_379), .val (.ref b_381), .val (.ref b_382), .val (.int (1 : Int32))]) rfl (q := 215) rfl ?_
            refine Go.iload X387 hx (hb hby at_215) rfl (q := 217) rfl ?_
            refine Go.ifNo X387 hx (hb hby at_217) (by decide) (q := 220) rfl ?_
            refine Go.aload X387 hx (hb hby at_220) rfl rfl (q := 222) rfl ?_
            refine Go.aload X387 hx (hb hby at_222) rfl rfl (q := 224) rfl ?_
            refine Go.virt X387 hx hZ hown (wd56 hw) (wd57 hw) (notFace_of_selects (args := #[]) (mvT hZ (wd59 hw))) (wd59 hw) (wd58 hw) (wd7 hw) (wd60 hw) (by decide) (chs3_3 l Z a0 hw b_379 b_381 cn_379 cn_381 (kc_379) (kc_381) A0 A1 A2 A0 A1 A2 h382 OK382 P379_1 P381_1 P379_2 P381_2 ne_cn_379_cn_381 rfl rfl rfl) e387 P379_0 (by rw [hml]; rfl) (hb hby at_224) (argsL := [(.ref b_381)]) (rest := []) (lenOf pd8 rfl) rfl rfl (W := 0) (by first | exact Nat.le_refl _ | decide) (by decide) (by decide) (by decide) (by decide) ?_
            intro v388 T388 L388 X388 hQ388
            obtain ⟨rfl, N388q, e388⟩ := hQ388
            have N388 := Fr.app N387 N388q
            refine Go.ifNo X388 hx (hb hby at_227) (by decide) (q := 230) rfl ?_
            refine Go.iconst X388 hx (hb hby at_230) (r := (1 : Int32)) rfl (q := 231) rfl ?_
            refine Go.goto X388 hx (hb hby at_231) (q := 235) (by decide) (by decide) ?_
            refine Go.istore X388 hx (hb hby at_235) (l' := #[.val (.int pl), .val (.int pm), .val (.int px), .val (.int py), .val (.int pk), .val (.int (3 : Int32)), .val (.int (3 : Int32)), .val (.int A0), .val (.int A1), .val (.int A2), .val (.int C0), .val (.int C1), .val (.int C2), .val (.ref b_376), .val (.ref b_377), .val (.ref b_378), .val (.ref b_379), .val (.ref b_381), .val (.ref b_382), .val (.int (1 : Int32))]) rfl (q := 237) rfl ?_
            refine Go.iload X388 hx (hb hby at_237) rfl (q := 239) rfl ?_
            refine Go.ifNo X388 hx (hb hby at_239) (by decide) (q := 242) rfl ?_
            by_cases hc389 : A0 = C0
            · by_cases hc390 : A1 = C1
              · by_cases hc391 : A2 = C2
                · show Go pp ee below _ (T388.setTop (mkF mm 242 #[.val (.int pl), .val (.int pm), .val (.int px), .val (.int py), .val (.int pk), .val (.int (3 : Int32)), .val (.int (3 : Int32)), .val (.int A0), .val (.int A1), .val (.int A2), .val (.int C0), .val (.int C1), .val (.int C2), .val (.ref b_376), .val (.ref b_377), .val (.ref b_378), .val (.ref b_379), .val (.ref b_381), .val (.ref b_382), .val (.int (1 : Int32))] []))
                  refine Go.aload X388 hx (hb hby at_242) rfl rfl (q := 244) rfl ?_
                  refine Go.aload X388 hx (hb hby at_244) rfl rfl (q := 246) rfl ?_
                  refine Go.virt X388 hx hZ hown (wd56 hw) (wd57 hw) (notFace_of_selects (args := #[]) (mvT hZ (wd59 hw))) (wd59 hw) (wd58 hw) (wd7 hw) (wd60 hw) (by decide) (chs3_3 l Z a0 hw b_379 b_382 cn_379 cn_382 (kc_379) (kc_382) A0 A1 A2 C0 C1 C2 h382 OK382 P379_1 P382_1 P379_2 P382_2 ne_cn_379_cn_382 hc389 hc390 hc391) e388 P379_0 (by rw [hml]; rfl) (hb hby at_246) (argsL := [(.ref b_382)]) (rest := []) (lenOf pd8 rfl) rfl rfl (W := 0) (by first | exact Nat.le_refl _ | decide) (by decide) (by decide) (by decide) (by decide) ?_
                  intro v392 T392 L392 X392 hQ392
                  obtain ⟨rfl, N392q, e392⟩ := hQ392
                  have N392 := Fr.app N388 N392q
                  refine Go.aload X392 hx (hb hby at_249) rfl rfl (q := 251) rfl ?_
                  refine Go.aload X392 hx (hb hby at_251) rfl rfl (q := 253) rfl ?_
                  refine Go.callS X392 hx hZ hown (wd69 hw) (wd70 hw) (wd2 hw) (wd71 hw) (by decide) (csam3_3 l Z a0 hw b_377 b_378 (kb_377) (kb_378) A0 A1 A2 C0 C1 C2 h382 OK382 P377_0 P378_0 hc389 hc390 hc391) e392 (by rw [hml]; rfl) (hb hby at_253) (argsL := [(.ref b_377), (.ref b_378)]) (rest := [(.int (1 : Int32))]) (lenOf pd2 rfl) rfl rfl (W := 1) (by first | exact Nat.le_refl _ | decide) (by decide) (by decide) (by decide) (by decide) ?_
                  intro v393 T393 L393 X393 hQ393
                  obtain ⟨rfl, N393q, e393⟩ := hQ393
                  have N393 := Fr.app N392 N393q
                  refine Go.icmpNo X393 hx (hb hby at_256) (by decide) (q := 259) rfl ?_
                  refine Go.iconst X393 hx (hb hby at_259) (r := (1 : Int32)) rfl (q := 260) rfl ?_
                  refine Go.goto X393 hx (hb hby at_260) (q := 264) (by decide) (by decide) ?_
                  refine Go.istore X393 hx (hb hby at_264) (l' := #[.val (.int pl), .val (.int pm), .val (.int px), .val (.int py), .val (.int pk), .val (.int (3 : Int32)), .val (.int (3 : Int32)), .val (.int A0), .val (.int A1), .val (.int A2), .val (.int C0), .val (.int C1), .val (.int C2), .val (.ref b_376), .val (.ref b_377), .val (.ref b_378), .val (.ref b_379), .val (.ref b_381), .val (.ref b_382), .val (.int (1 : Int32))]) rfl (q := 266) rfl ?_
                  refine Go.iload X393 hx (hb hby at_266) rfl (q := 268) rfl ?_
                  exact Go.retI X393 hx hret hlk (by simp) rfl (hb hby at_268) e393 (by decide) (by decide) ⟨rfl, N393⟩
                · show Go pp ee below _ (T388.setTop (mkF mm 242 #[.val (.int pl), .val (.int pm), .val (.int px), .val (.int py), .val (.int pk), .val (.int (3 : Int32)), .val (.int (3 : Int32)), .val (.int A0), .val (.int A1), .val (.int A2), .val (.int C0), .val (.int C1), .val (.int C2), .val (.ref b_376), .val (.ref b_377), .val (.ref b_378), .val (.ref b_379), .val (.ref b_381), .val (.ref b_382), .val (.int (1 : Int32))] []))
                  refine Go.aload X388 hx (hb hby at_242) rfl rfl (q := 244) rfl ?_
                  refine Go.aload X388 hx (hb hby at_244) rfl rfl (q := 246) rfl ?_
                  refine Go.virt X388 hx hZ hown (wd56 hw) (wd57 hw) (notFace_of_selects (args := #[]) (mvT hZ (wd59 hw))) (wd59 hw) (wd58 hw) (wd7 hw) (wd60 hw) (by decide) (chs3_2 l Z a0 hw b_379 b_382 cn_379 cn_382 (kc_379) (kc_382) A0 A1 A2 C0 C1 C2 h382 OK382 P379_1 P382_1 P379_2 P382_2 ne_cn_379_cn_382 hc389 hc390 hc391) e388 P379_0 (by rw [hml]; rfl) (hb hby at_246) (argsL := [(.ref b_382)]) (rest := []) (lenOf pd8 rfl) rfl rfl (W := 0) (by first | exact Nat.le_refl _ | decide) (by decide) (by decide) (by decide) (by decide) ?_
                  intro v394 T394 L394 X394 hQ394
                  obtain ⟨rfl, N394q, e394⟩ := hQ394
                  have N394 := Fr.app N388 N394q
                  refine Go.aload X394 hx (hb hby at_249) rfl rfl (q := 251) rfl ?_
                  refine Go.aload X394 hx (hb hby at_251) rfl rfl (q := 253) rfl ?_
                  refine Go.callS X394 hx hZ hown (wd69 hw) (wd70 hw) (wd2 hw) (wd71 hw) (by decide) (csam3_2 l Z a0 hw b_377 b_378 (kb_377) (kb_378) A0 A1 A2 C0 C1 C2 h382 OK382 P377_0 P378_0 hc389 hc390 hc391) e394 (by rw [hml]; rfl) (hb hby at_253) (argsL := [(.ref b_377), (.ref b_378)]) (rest := [(.int (0 : Int32))]) (lenOf pd2 rfl) rfl rfl (W := 1) (by first | exact Nat.le_refl _ | decide) (by decide) (by decide) (by decide) (by decide) ?_
                  intro v395 T395 L395 X395 hQ395
                  obtain ⟨rfl, N395q, e395⟩ := hQ395
                  have N395 := Fr.app N394 N395q
                  refine Go.icmpNo X395 hx (hb hby at_256) (by decide) (q := 259) rfl ?_
                  refine Go.iconst X395 hx (hb hby at_259) (r := (1 : Int32)) rfl (q := 260) rfl ?_
                  refine Go.goto X395 hx (hb hby at_260) (q := 264) (by decide) (by decide) ?_
                  refine Go.istore X395 hx (hb hby at_264) (l' := #[.val (.int pl), .val (.int pm), .val (.int px), .val (.int py), .val (.int pk), .val (.int (3 : Int32)), .val (.int (3 : Int32)), .val (.int A0), .val (.int A1), .val (.int A2), .val (.int C0), .val (.int C1), .val (.int C2), .val (.ref b_376), .val (.ref b_377), .val (.ref b_378), .val (.ref b_379), .val (.ref b_381), .val (.ref b_382), .val (.int (1 : Int32))]) rfl (q := 266) rfl ?_
                  refine Go.iload X395 hx (hb hby at_266) rfl (q := 268) rfl ?_
                  exact Go.retI X395 hx hret hlk (by simp) rfl (hb hby at_268) e395 (by decide) (by decide) ⟨rfl, N395⟩
              · show Go pp ee below _ (T388.setTop (mkF mm 242 #[.val (.int pl), .val (.int pm), .val (.int px), .val (.int py), .val (.int pk), .val (.int (3 : Int32)), .val (.int (3 : Int32)), .val (.int A0), .val (.int A1), .val (.int A2), .val (.int C0), .val (.int C1), .val (.int C2), .val (.ref b_376), .val (.ref b_377), .val (.ref b_378), .val (.ref b_379), .val (.ref b_381), .val (.ref b_382), .val (.int (1 : Int32))] []))
                refine Go.aload X388 hx (hb hby at_242) rfl rfl (q := 244) rfl ?_
                refine Go.aload X388 hx (hb hby at_244) rfl rfl (q := 246) rfl ?_
                refine Go.virt X388 hx hZ hown (wd56 hw) (wd57 hw) (notFace_of_selects (args := #[]) (mvT hZ (wd59 hw))) (wd59 hw) (wd58 hw) (wd7 hw) (wd60 hw) (by decide) (chs3_1 l Z a0 hw b_379 b_382 cn_379 cn_382 (kc_379) (kc_382) A0 A1 A2 C0 C1 C2 h382 OK382 P379_1 P382_1 P379_2 P382_2 ne_cn_379_cn_382 hc389 hc390) e388 P379_0 (by rw [hml]; rfl) (hb hby at_246) (argsL := [(.ref b_382)]) (rest := []) (lenOf pd8 rfl) rfl rfl (W := 0) (by first | exact Nat.le_refl _ | decide) (by decide) (by decide) (by decide) (by decide) ?_
                intro v396 T396 L396 X396 hQ396
                obtain ⟨rfl, N396q, e396⟩ := hQ396
                have N396 := Fr.app N388 N396q
                refine Go.aload X396 hx (hb hby at_249) rfl rfl (q := 251) rfl ?_
                refine Go.aload X396 hx (hb hby at_251) rfl rfl (q := 253) rfl ?_
                refine Go.callS X396 hx hZ hown (wd69 hw) (wd70 hw) (wd2 hw) (wd71 hw) (by decide) (csam3_1 l Z a0 hw b_377 b_378 (kb_377) (kb_378) A0 A1 A2 C0 C1 C2 h382 OK382 P377_0 P378_0 hc389 hc390) e396 (by rw [hml]; rfl) (hb hby at_253) (argsL := [(.ref b_377), (.ref b_378)]) (rest := [(.int (0 : Int32))]) (lenOf pd2 rfl) rfl rfl (W := 1) (by first | exact Nat.le_refl _ | decide) (by decide) (by decide) (by decide) (by decide) ?_
                intro v397 T397 L397 X397 hQ397
                obtain ⟨rfl, N397q, e397⟩ := hQ397
                have N397 := Fr.app N396 N397q
                refine Go.icmpNo X397 hx (hb hby at_256) (by decide) (q := 259) rfl ?_
                refine Go.iconst X397 hx (hb hby at_259) (r := (1 : Int32)) rfl (q := 260) rfl ?_
                refine Go.goto X397 hx (hb hby at_260) (q := 264) (by decide) (by decide) ?_
                refine Go.istore X397 hx (hb hby at_264) (l' := #[.val (.int pl), .val (.int pm), .val (.int px), .val (.int py), .val (.int pk), .val (.int (3 : Int32)), .val (.int (3 : Int32)), .val (.int A0), .val (.int A1), .val (.int A2), .val (.int C0), .val (.int C1), .val (.int C2), .val (.ref b_376), .val (.ref b_377), .val (.ref b_378), .val (.ref b_379), .val (.ref b_381), .val (.ref b_382), .val (.int (1 : Int32))]) rfl (q := 266) rfl ?_
                refine Go.iload X397 hx (hb hby at_266) rfl (q := 268) rfl ?_
                exact Go.retI X397 hx hret hlk (by simp) rfl (hb hby at_268) e397 (by decide) (by decide) ⟨rfl, N397⟩
            · show Go pp ee below _ (T388.setTop (mkF mm 242 #[.val (.int pl), .val (.int pm), .val (.int px), .val (.int py), .val (.int pk), .val (.int (3 : Int32)), .val (.int (3 : Int32)), .val (.int A0), .val (.int A1), .val (.int A2), .val (.int C0), .val (.int C1), .val (.int C2), .val (.ref b_376), .val (.ref b_377), .val (.ref b_378), .val (.ref b_379), .val (.ref b_381), .val (.ref b_382), .val (.int (1 : Int32))] []))
              refine Go.aload X388 hx (hb hby at_242) rfl rfl (q := 244) rfl ?_
              refine Go.aload X388 hx (hb hby at_244) rfl rfl (q := 246) rfl ?_
              refine Go.virt X388 hx hZ hown (wd56 hw) (wd57 hw) (notFace_of_selects (args := #[]) (mvT hZ (wd59 hw))) (wd59 hw) (wd58 hw) (wd7 hw) (wd60 hw) (by decide) (chs3_0 l Z a0 hw b_379 b_382 cn_379 cn_382 (kc_379) (kc_382) A0 A1 A2 C0 C1 C2 h382 OK382 P379_1 P382_1 P379_2 P382_2 ne_cn_379_cn_382 hc389) e388 P379_0 (by rw [hml]; rfl) (hb hby at_246) (argsL := [(.ref b_382)]) (rest := []) (lenOf pd8 rfl) rfl rfl (W := 0) (by first | exact Nat.le_refl _ | decide) (by decide) (by decide) (by decide) (by decide) ?_
              intro v398 T398 L398 X398 hQ398
              obtain ⟨rfl, N398q, e398⟩ := hQ398
              have N398 := Fr.app N388 N398q
              refine Go.aload X398 hx (hb hby at_249) rfl rfl (q := 251) rfl ?_
              refine Go.aload X398 hx (hb hby at_251) rfl rfl (q := 253) rfl ?_
              refine Go.callS X398 hx hZ hown (wd69 hw) (wd70 hw) (wd2 hw) (wd71 hw) (by decide) (csam3_0 l Z a0 hw b_377 b_378 (kb_377) (kb_378) A0 A1 A2 C0 C1 C2 h382 OK382 P377_0 P378_0 hc389) e398 (by rw [hml]; rfl) (hb hby at_253) (argsL := [(.ref b_377), (.ref b_378)]) (rest := [(.int (0 : Int32))]) (lenOf pd2 rfl) rfl rfl (W := 1) (by first | exact Nat.le_refl _ | decide) (by decide) (by decide) (by decide) (by decide) ?_
              intro v399 T399 L399 X399 hQ399
              obtain ⟨rfl, N399q, e399⟩ := hQ399
              have N399 := Fr.app N398 N399q
              refine Go.icmpNo X399 hx (hb hby at_256) (by decide) (q := 259) rfl ?_
              refine Go.iconst X399 hx (hb hby at_259) (r := (1 : Int32)) rfl (q := 260) rfl ?_
              refine Go.goto X399 hx (hb hby at_260) (q := 264) (by decide) (by decide) ?_
              refine Go.istore X399 hx (hb hby at_264) (l' := #[.val (.int pl), .val (.int pm), .val (.int px), .val (.int py), .val (.int pk), .val (.int (3 : Int32)), .val (.int (3 : Int32)), .val (.int A0), .val (.int A1), .val (.int A2), .val (.int C0), .val (.int C1), .val (.int C2), .val (.ref b_376), .val (.ref b_377), .val (.ref b_378), .val (.ref b_379), .val (.ref b_381), .val (.ref b_382), .val (.int (1 : Int32))]) rfl (q := 266) rfl ?_
              refine Go.iload X399 hx (hb hby at_266) rfl (q := 268) rfl ?_
              exact Go.retI X399 hx hret hlk (by simp) rfl (hb hby at_268) e399 (by decide) (by decide) ⟨rfl, N399⟩
          by_cases hc400 : (pk &&& (4 : Int32)) = (0 : Int32)
          · refine Go.ifNo X0 hx (hb hby at_67) (Jvm.Free.XT.i0_ne_f hc400) (q := 70) rfl ?_
            refine Go.iload X0 hx (hb hby at_70) rfl (q := 72) rfl ?_
            refine Go.goto X0 hx (hb hby at_72) (q := 80) (by decide) (by decide) ?_
            exact J80 _ hA2
          · refine Go.ifYes X0 hx (hb hby at_67) (Jvm.Free.XT.i0_ne_t hc400) (q := 75) (by decide) (by decide) ?_
            refine Go.iloadN X0 hx (hb hby at_75) rfl (q := 76) rfl ?_
            refine Go.bipush X0 hx (hb hby at_76) (r := (16 : Int32)) rfl (q := 78) rfl ?_
            refine Go.iushr X0 hx (hb hby at_78) rfl (q := 79) rfl ?_
            refine Go.i2b X0 hx (hb hby at_79) rfl (q := 80) rfl ?_
            exact J80 _ (bb _)
        by_cases hc401 : (pk &&& (2 : Int32)) = (0 : Int32)
        · refine Go.ifNo X0 hx (hb hby at_48) (Jvm.Free.XT.i0_ne_f hc401) (q := 51) rfl ?_
          refine Go.iload X0 hx (hb hby at_51) rfl (q := 53) rfl ?_
          refine Go.goto X0 hx (hb hby at_53) (q := 61) (by decide) (by decide) ?_
          exact J61 _ hA1
        · refine Go.ifYes X0 hx (hb hby at_48) (Jvm.Free.XT.i0_ne_t hc401) (q := 56) (by decide) (by decide) ?_
          refine Go.iloadN X0 hx (hb hby at_56) rfl (q := 57) rfl ?_
          refine Go.bipush X0 hx (hb hby at_57) (r := (8 : Int32)) rfl (q := 59) rfl ?_
          refine Go.iushr X0 hx (hb hby at_59) rfl (q := 60) rfl ?_
          refine Go.i2b X0 hx (hb hby at_60) rfl (q := 61) rfl ?_
          exact J61 _ (bb _)
      by_cases hc402 : (pk &&& (1 : Int32)) = (0 : Int32)
      · refine Go.ifNo X0 hx (hb hby at_32) (Jvm.Free.XT.i0_ne_f hc402) (q := 35) rfl ?_
        refine Go.iload X0 hx (hb hby at_35) rfl (q := 37) rfl ?_
        refine Go.goto X0 hx (hb hby at_37) (q := 42) (by decide) (by decide) ?_
        exact J42 _ hA0
      · refine Go.ifYes X0 hx (hb hby at_32) (Jvm.Free.XT.i0_ne_t hc402) (q := 40) (by decide) (by decide) ?_
        refine Go.iloadN X0 hx (hb hby at_40) rfl (q := 41) rfl ?_
        refine Go.i2b X0 hx (hb hby at_41) rfl (q := 42) rfl ?_
        exact J42 _ (bb _)
set_option maxRecDepth 65536 in
set_option maxHeartbeats 40000000 in
theorem comes_1 {Post : Tables → Env → Array Value → State → Outcome → State → Prop} (hpost : ∀ tb e args s v u, (limb_1_1.after args s (.returned v) u = true ∧ limb_1_2.after args s (.returned v) u = true ∧ True) → FrameEnd s (.returned v) u (Jvm.fieldLocs frame_1_writes args s ++ Jvm.arrayLocs frame_1_arrays args s ++ Jvm.staticLocs frame_1_statics s) 32 192 → Post tb e args s (.returned v) u) :
    ArmFor flags0 classFile x code maxLocals ret World_1 tables_1 room_1 Calls_1 rest_1 Pre_1 Post := by
  intro l hfl _ _ p e ha hc hk s m args below hf hA hF happ hP
  obtain ⟨hcalls, hrest, hpre⟩ := hP
  obtain ⟨-, -, -, hnamed, -, -, -, hat⟩ := (Spec.applies_iff hf).mp happ
  obtain ⟨hg, hn⟩ := and_e (Cond.before_iff.mp (show (Jvm.Cond.and given_1 narrow_1).before args s = true from hpre))
  obtain ⟨ga1, gb1⟩ := and_e hg
  obtain ⟨ga2, gb2⟩ := and_e gb1
  obtain ⟨ga3, gb3⟩ := and_e gb2
  obtain ⟨ga4, gb4⟩ := and_e gb3
  obtain ⟨ga5, gb5⟩ := and_e gb4
  obtain ⟨w0, w1, w2, w3, w4, rfl⟩ : ∃ w0 w1 w2 w3 w4 : Value, args = #[w0, w1, w2, w3, w4] := by
    have hs : args.size = 5 := by simpa [Cond.value, given_1] using ga1
    obtain ⟨L⟩ := args
    match L, hs with
    | [w0, w1, w2, w3, w4], _ => exact ⟨w0, w1, w2, w3, w4, rfl⟩
  have hw := fun d (hd : d ∈ tables_1) => atoms_spec (ws := Jvm.Cond.code x code maxLocals ret :: tables_1) hat d (List.mem_cons_of_mem _ hd)
  have hfit : Fit s := fun {y c} hc i hi => by
    obtain ⟨ha, rfl⟩ := Array.getElem?_eq_some_iff.mp hc
    have q := List.all_eq_true.mp ((Array.all_eq_true_iff_forall_mem.mp hF) _ (Array.getElem_mem ha)) i (List.mem_range.mpr hi)
    simpa [Array.getElem?_eq_getElem hi] using q
  obtain ⟨i0, ei0⟩ := is_v ga2
  obtain rfl : w0 = (.int i0) := Option.some.inj ei0
  obtain ⟨i1, ei1⟩ := is_v ga3
  obtain rfl : w1 = (.int i1) := Option.some.inj ei1
  obtain ⟨i2, ei2⟩ := is_v ga4
  obtain rfl : w2 = (.int i2) := Option.some.inj ei2
  obtain ⟨i3, ei3⟩ := is_v ga5
  obtain rfl : w3 = (.int i3) := Option.some.inj ei3
  obtain ⟨i4, ei4⟩ := is_v gb5
  obtain rfl : w4 = (.int i4) := Option.some.inj ei4
  obtain ⟨n, o, h1, h2, h3, _, L, rfl, ⟨rfl, N⟩, hq⟩ := law0 l s _ hw i0 i1 i2 i3 i4 s.heap ⟨Nat.le_refl _, fun _ _ q => q⟩ p e ha hc hk s m _ below hf ((Spec.applies_iff_loose hf).mp happ).1 ⟨rfl, State.Warmed39.refl s, rfl⟩ trivial
  refine ⟨n, _, h1, h2, h3, hpost _ _ _ _ _ _ ⟨Cond.after_iff.mpr rfl, Cond.after_iff.mpr (eq_i res_at (Term.int_eval (1)) rfl), trivial⟩ ⟨hq.1, hq.2.1, (hq.2.2.sift fun y hy => Or.inr (N y hy)).mono (by decide) (by decide)⟩⟩
theorem main_1_1 : Claimed_1_1 := comes_1 fun _ _ _ _ _ _ h hF => ⟨h.1, hF⟩
theorem main_1_2 : Claimed_1_2 := comes_1 fun _ _ _ _ _ _ h hF => ⟨h.2.1, hF⟩
end Jvm.Pilot.@@N@@
namespace Jvm.Pilot.@@N@@
open Jvm Jvm.ClassFile Sem Op Lib Jvm.Free Jvm.Stand Jvm.Pilot.@@N@@.Jvm.D
/-! MADE BY PROGRAM (witnessworld.py) out of the Statement's table words and the real class files: 11 classes; the members and pool entries that the words name. The judged class is class 1, her method 3. -/
namespace start1
open Jvm.ClassFile
def u (s : String) : CpInfo := .utf8 (stringToUtf16 s)
/-- a pool by its gaps: so many unusable entries, then the entry; so many at the end -/
def gap : Nat → List CpInfo → List CpInfo
  | 0, r => r
  | n + 1, r => .unusable :: gap n r
def poolList (es : List (Nat × CpInfo)) (last : Nat) : List CpInfo := es.foldr (fun e r => gap e.1 (e.2 :: r)) (gap last [])
def pool (es : List (Nat × CpInfo)) (last : Nat) : Array CpInfo := ⟨poolList es last⟩
def fileOf (pool : Array CpInfo) (this : Nat) (attrs : Array Attribute := #[]) (ms : Array MethodInfo := #[]) (fl : Nat := 33) (sup : Nat := 0) (ifs : Array Nat := #[]) (fds : Array FieldInfo := #[]) : ClassFile where
  minorVersion := 0
  majorVersion := 65
  constantPool := pool
  accessFlags := fl
  thisClass := this
  superClass := sup
  interfaces := ifs
  fields := fds
  methods := ms
  attributes := attrs
def plain (name : String) (sup : Option ClassId) : Class where
  name := name
  kind := .ordinary
  loader := none
  accessFlags := 33
  super := sup
  interfaces := #[]
  cf := none
  fields := #[]
  methods := #[]
  instanceTypes := #[]
  staticTypes := #[]
  resolved := #[]
  callSites := []
  init := .initialized
  statics := none
  mirror := none

def pool0 : Array CpInfo := pool [(5, u "<init>"), (0, u "()V"), (1, .class_ 10), (1, u "java/lang/Object"), (85, u "clone"), (0, u "()Ljava/lang/Object;")] 26

def k0c0 : Code := { maxStack := 0, maxLocals := 1, code := object_method_1_code, exceptionTable := #[], attributes := #[] }
def k0m0 : Method := { name := "<init>", desc := "()V", sig := { parameters := [], returnType := none }, accessFlags := 1, code := some k0c0 }
def k0m1 : Method := { name := "clone", desc := "()Ljava/lang/Object;", sig := { parameters := [], returnType := some (.object "java/lang/Object") }, accessFlags := 260, code := none }
/-- java/lang/Object -/
def k0 : Class := { plain "java/lang/Object" none with
  accessFlags := 33
  interfaces := #[]
  cf := some (fileOf pool0 8 #[] #[{ accessFlags := 1, nameIndex := 5, descriptorIndex := 6, attributes := #[] }, { accessFlags := 260, nameIndex := 96, descriptorIndex := 97, attributes := #[] }] 33 0 #[] #[])
  fields := #[]
  methods := #[k0m0, k0m1]
  instanceTypes := #[]
  staticTypes := #[]
  resolved := Array.replicate 124 none
  statics := none }

def pool1 : Array CpInfo := pool [(2, .class_ 4), (1, u "java/lang/Object"), (0, u "<init>"), (0, u "()V"), (0, .methodref 8 9), (0, .class_ 10), (0, .nameAndType 11 12), (0, u "com/example/match_before_write/matchbeforewrite/RepresentationOfPinLaw"), (0, u "make"), (0, u "(IBBB)[B"), (0, .methodref 14 15), (0, .class_ 16), (0, .nameAndType 17 18), (0, u "com/example/match_before_write/matchbeforewrite/Representation"), (0, u "of"), (0, u "([B)Lcom/example/match_before_write/matchbeforewrite/Representation;"), (0, .methodref 14 20), (0, .nameAndType 21 22), (0, u "length"), (0, u "()I"), (0, .methodref 14 24), (0, .nameAndType 25 26), (0, u "lastModified"), (0, u "()Ljava/time/Instant;"), (0, .methodref 14 28), (0, .nameAndType 29 30), (0, u "sharesItsSecond"), (0, u "()Z"), (0, .methodref 14 32), (0, .nameAndType 33 30), (0, u "isRemoval"), (0, .methodref 14 35), (0, .nameAndType 36 37), (0, u "hasSameBytesAs"), (0, u "(Lcom/example/match_before_write/matchbeforewrite/Representation;)Z"), (0, .methodref 8 39), (0, .nameAndType 40 41), (0, u "same"), (0, u "([B[B)Z"), (3, u "law"), (0, u "(IIIII)Z")] 4

def k1m0 : Method := { name := "<init>", desc := "()V", sig := { parameters := [], returnType := none }, accessFlags := 1, code := none }
def k1c1 : Code := { maxStack := 4, maxLocals := 4, code := method_2_code, exceptionTable := #[], attributes := #[] }
def k1m1 : Method := { name := "make", desc := "(IBBB)[B", sig := { parameters := [.int, .byte, .byte, .byte], returnType := some (.array .byte) }, accessFlags := 10, code := some k1c1 }
def k1c2 : Code := { maxStack := 3, maxLocals := 2, code := method_3_code, exceptionTable := #[], attributes := #[] }
def k1m2 : Method := { name := "same", desc := "([B[B)Z", sig := { parameters := [(.array .byte), (.array .byte)], returnType := some .boolean }, accessFlags := 10, code := some k1c2 }
def k1c3 : Code := { maxStack := 5, maxLocals := 20, code := code, exceptionTable := #[], attributes := #[] }
def k1m3 : Method := { name := "law", desc := "(IIIII)Z", sig := { parameters := [.int, .int, .int, .int, .int], returnType := some .boolean }, accessFlags := 9, code := some k1c3 }
/-- com/example/match_before_write/matchbeforewrite/RepresentationOfPinLaw -/
def k1 : Class := { plain "com/example/match_before_write/matchbeforewrite/RepresentationOfPinLaw" (some 0) with
  accessFlags := 49
  interfaces := #[]
  cf := some (fileOf pool1 8 #[] #[{ accessFlags := 1, nameIndex := 5, descriptorIndex := 6, attributes := #[] }, { accessFlags := 10, nameIndex := 11, descriptorIndex := 12, attributes := #[] }, { accessFlags := 10, nameIndex := 40, descriptorIndex := 41, attributes := #[] }, { accessFlags := 9, nameIndex := 45, descriptorIndex := 46, attributes := #[] }] 49 2 #[] #[])
  fields := #[]
  methods := #[k1m0, k1m1, k1m2, k1m3]
  instanceTypes := #[]
  staticTypes := #[]
  resolved := Array.replicate 51 none
  statics := none }

def pool2 : Array CpInfo := pool [(1, .methodref 2 3), (0, .class_ 4), (0, .nameAndType 5 6), (0, u "java/lang/Object"), (0, u "<init>"), (0, u "()V"), (0, .fieldref 8 9), (0, .class_ 10), (0, .nameAndType 11 12), (0, u "com/example/match_before_write/matchbeforewrite/Representation"), (0, u "content"), (0, u "[B"), (0, .fieldref 8 14), (0, .nameAndType 15 16), (0, u "tag"), (0, u "Lcom/example/match_before_write/matchbeforewrite/EntityTag;"), (0, .fieldref 8 18), (0, .nameAndType 19 20), (0, u "lastModified"), (0, u "Ljava/time/Instant;"), (0, .fieldref 8 22), (0, .nameAndType 23 24), (0, u "sharesItsSecond"), (0, u "Z"), (0, .fieldref 8 26), (0, .nameAndType 27 24), (0, u "removal"), (0, .methodref 29 30), (0, .class_ 12), (0, .nameAndType 31 32), (0, u "clone"), (0, u "()Ljava/lang/Object;"), (0, .methodref 8 34), (0, .nameAndType 5 35), (0, u "([BLcom/example/match_before_write/matchbeforewrite/EntityTag;Ljava/time/Instant;ZZ)V"), (10, u "NO_CONTENT"), (6, u "()Z"), (45, u "httpDate"), (0, u "Ljava/lang/String;"), (6, .methodref 108 109), (0, .class_ 110), (0, .nameAndType 111 112), (0, u "java/util/Arrays"), (0, u "equals"), (0, u "([B[B)Z"), (34, u "DIGEST"), (3, u "of"), (0, u "([B)Lcom/example/match_before_write/matchbeforewrite/Representation;"), (5, u "length"), (0, u "()I"), (10, u "hasSameBytesAs"), (0, u "(Lcom/example/match_before_write/matchbeforewrite/Representation;)Z"), (0, u "()Ljava/time/Instant;"), (0, u "isRemoval")] 19

def k2c0 : Code := { maxStack := 2, maxLocals := 6, code := prog_13_method_1_code, exceptionTable := #[], attributes := #[] }
def k2m0 : Method := { name := "<init>", desc := "([BLcom/example/match_before_write/matchbeforewrite/EntityTag;Ljava/time/Instant;ZZ)V", sig := { parameters := [(.array .byte), (.object "com/example/match_before_write/matchbeforewrite/EntityTag"), (.object "java/time/Instant"), .boolean, .boolean], returnType := none }, accessFlags := 2, code := some k2c0 }
def k2c1 : Code := { maxStack := 7, maxLocals := 1, code := prog_13_method_2_code, exceptionTable := #[], attributes := #[] }
def k2m1 : Method := { name := "of", desc := "([B)Lcom/example/match_before_write/matchbeforewrite/Representation;", sig := { parameters := [(.array .byte)], returnType := some (.object "com/example/match_before_write/matchbeforewrite/Representation") }, accessFlags := 9, code := some k2c1 }
def k2c2 : Code := { maxStack := 1, maxLocals := 1, code := prog_13_method_8_code, exceptionTable := #[], attributes := #[] }
def k2m2 : Method := { name := "length", desc := "()I", sig := { parameters := [], returnType := some .int }, accessFlags := 1, code := some k2c2 }
def k2c3 : Code := { maxStack := 2, maxLocals := 2, code := prog_13_method_13_code, exceptionTable := #[], attributes := #[] }
def k2m3 : Method := { name := "hasSameBytesAs", desc := "(Lcom/example/match_before_write/matchbeforewrite/Representation;)Z", sig := { parameters := [(.object "com/example/match_before_write/matchbeforewrite/Representation")], returnType := some .boolean }, accessFlags := 0, code := some k2c3 }
def k2c4 : Code := { maxStack := 1, maxLocals := 1, code := prog_13_method_14_code, exceptionTable := #[], attributes := #[] }
def k2m4 : Method := { name := "lastModified", desc := "()Ljava/time/Instant;", sig := { parameters := [], returnType := some (.object "java/time/Instant") }, accessFlags := 1, code := some k2c4 }
def k2c5 : Code := { maxStack := 1, maxLocals := 1, code := prog_13_method_15_code, exceptionTable := #[], attributes := #[] }
def k2m5 : Method := { name := "sharesItsSecond", desc := "()Z", sig := { parameters := [], returnType := some .boolean }, accessFlags := 1, code := some k2c5 }
def k2c6 : Code := { maxStack := 1, maxLocals := 1, code := prog_13_method_16_code, exceptionTable := #[], attributes := #[] }
def k2m6 : Method := { name := "isRemoval", desc := "()Z", sig := { parameters := [], returnType := some .boolean }, accessFlags := 1, code := some k2c6 }
/-- com/example/match_before_write/matchbeforewrite/Representation -/
def k2 : Class := { plain "com/example/match_before_write/matchbeforewrite/Representation" (some 0) with
  accessFlags := 49
  interfaces := #[]
  cf := some (fileOf pool2 8 #[] #[{ accessFlags := 2, nameIndex := 5, descriptorIndex := 35, attributes := #[] }, { accessFlags := 9, nameIndex := 151, descriptorIndex := 152, attributes := #[] }, { accessFlags := 1, nameIndex := 158, descriptorIndex := 159, attributes := #[] }, { accessFlags := 0, nameIndex := 170, descriptorIndex := 171, attributes := #[] }, { accessFlags := 1, nameIndex := 19, descriptorIndex := 172, attributes := #[] }, { accessFlags := 1, nameIndex := 23, descriptorIndex := 53, attributes := #[] }, { accessFlags := 1, nameIndex := 173, descriptorIndex := 53, attributes := #[] }] 49 2 #[] #[{ accessFlags := 26, nameIndex := 147, descriptorIndex := 100, attributes := #[] }, { accessFlags := 26, nameIndex := 46, descriptorIndex := 12, attributes := #[] }, { accessFlags := 18, nameIndex := 11, descriptorIndex := 12, attributes := #[] }, { accessFlags := 18, nameIndex := 19, descriptorIndex := 20, attributes := #[] }, { accessFlags := 18, nameIndex := 23, descriptorIndex := 24, attributes := #[] }, { accessFlags := 18, nameIndex := 27, descriptorIndex := 24, attributes := #[] }, { accessFlags := 2, nameIndex := 15, descriptorIndex := 16, attributes := #[] }, { accessFlags := 2, nameIndex := 99, descriptorIndex := 100, attributes := #[] }])
  fields := #[{ name := "DIGEST", type := (.object "java/lang/String"), accessFlags := 26, slot := 0, constantValue := 0 }, { name := "NO_CONTENT", type := (.array .byte), accessFlags := 26, slot := 1, constantValue := 0 }, { name := "content", type := (.array .byte), accessFlags := 18, slot := 0, constantValue := 0 }, { name := "lastModified", type := (.object "java/time/Instant"), accessFlags := 18, slot := 1, constantValue := 0 }, { name := "sharesItsSecond", type := .boolean, accessFlags := 18, slot := 2, constantValue := 0 }, { name := "removal", type := .boolean, accessFlags := 18, slot := 3, constantValue := 0 }, { name := "tag", type := (.object "com/example/match_before_write/matchbeforewrite/EntityTag"), accessFlags := 2, slot := 4, constantValue := 0 }, { name := "httpDate", type := (.object "java/lang/String"), accessFlags := 2, slot := 5, constantValue := 0 }]
  methods := #[k2m0, k2m1, k2m2, k2m3, k2m4, k2m5, k2m6]
  instanceTypes := #[(.array .byte), (.object "java/time/Instant"), .boolean, .boolean, (.object "com/example/match_before_write/matchbeforewrite/EntityTag"), (.object "java/lang/String")]
  staticTypes := #[(.object "java/lang/String"), (.array .byte)]
  resolved := Array.replicate 193 none
  statics := none }

def pool3 : Array CpInfo := pool [(1, .class_ 2), (0, u "java/lang/Cloneable"), (0, .class_ 4), (0, u "java/lang/Object")] 2

/-- java/lang/Cloneable -/
def k3 : Class := { plain "java/lang/Cloneable" (some 0) with
  accessFlags := 1537
  interfaces := #[]
  cf := some (fileOf pool3 1 #[] #[] 1537 3 #[] #[])
  fields := #[]
  methods := #[]
  instanceTypes := #[]
  staticTypes := #[]
  resolved := Array.replicate 7 none
  statics := none }

def pool4 : Array CpInfo := pool [(2, .class_ 4), (1, u "java/lang/Object"), (0, u "<init>"), (0, u "()V"), (7, .class_ 16), (1, u "java/util/Arrays"), (57, .class_ 76), (1, u "java/util/Arrays$NaturalOrder"), (36, .class_ 115), (1, u "java/util/Arrays$LegacyMergeSort"), (1, u "Z"), (128, .class_ 248), (1, u "jdk/internal/util/ArraysSupport"), (0, u "mismatch"), (22, .methodref 246 273), (0, .nameAndType 249 274), (0, u "([B[BI)I"), (23, u "equals"), (76, .class_ 376), (0, u "java/util/Arrays$ArrayList"), (68, u "$assertionsDisabled"), (9, u "([B[B)Z"), (259, u "MIN_ARRAY_SORT_GRAN"), (0, u "I"), (2, u "INSERTIONSORT_THRESHOLD"), (255, .class_ 976), (0, u "java/util/Arrays$ArrayItr")] 52

def k4m0 : Method := { name := "<init>", desc := "()V", sig := { parameters := [], returnType := none }, accessFlags := 2, code := none }
def k4c1 : Code := { maxStack := 3, maxLocals := 3, code := jdk_65_method_89_code, exceptionTable := #[], attributes := #[] }
def k4m1 : Method := { name := "equals", desc := "([B[B)Z", sig := { parameters := [(.array .byte), (.array .byte)], returnType := some .boolean }, accessFlags := 9, code := some k4c1 }
/-- java/util/Arrays -/
def k4 : Class := { plain "java/util/Arrays" (some 0) with
  accessFlags := 49
  interfaces := #[]
  cf := some (fileOf pool4 14 #[.nestMembers #[975, 375, 113, 74]] #[{ accessFlags := 2, nameIndex := 5, descriptorIndex := 6, attributes := #[] }, { accessFlags := 9, nameIndex := 298, descriptorIndex := 455, attributes := #[] }] 49 2 #[] #[{ accessFlags := 26, nameIndex := 715, descriptorIndex := 716, attributes := #[] }, { accessFlags := 26, nameIndex := 719, descriptorIndex := 716, attributes := #[] }, { accessFlags := 4120, nameIndex := 445, descriptorIndex := 117, attributes := #[] }])
  fields := #[{ name := "MIN_ARRAY_SORT_GRAN", type := .int, accessFlags := 26, slot := 0, constantValue := 0 }, { name := "INSERTIONSORT_THRESHOLD", type := .int, accessFlags := 26, slot := 1, constantValue := 0 }, { name := "$assertionsDisabled", type := .boolean, accessFlags := 4120, slot := 2, constantValue := 0 }]
  methods := #[k4m0, k4m1]
  instanceTypes := #[]
  staticTypes := #[.int, .int, .boolean]
  resolved := Array.replicate 1029 none
  statics := none }

def pool5 : Array CpInfo := pool [(9, u "<init>"), (6, .class_ 18), (1, u "java/lang/Object"), (0, u "()V"), (1, .class_ 23), (1, u "jdk/internal/util/ArraysSupport"), (0, u "LOG2_ARRAY_LONG_INDEX_SCALE"), (0, u "I"), (2, u "U"), (0, u "Ljdk/internal/misc/Unsafe;"), (8, u "BIG_ENDIAN"), (0, u "Z"), (8, u "LOG2_BYTE_BIT_SIZE"), (4, u "LOG2_ARRAY_INT_INDEX_SCALE"), (54, u "JLA"), (0, u "Ljdk/internal/access/JavaLangAccess;"), (11, u "LOG2_ARRAY_BOOLEAN_INDEX_SCALE"), (9, u "LOG2_ARRAY_BYTE_INDEX_SCALE"), (5, u "LOG2_ARRAY_CHAR_INDEX_SCALE"), (5, u "LOG2_ARRAY_SHORT_INDEX_SCALE"), (5, u "mismatch"), (12, u "LOG2_ARRAY_FLOAT_INDEX_SCALE"), (24, u "LOG2_ARRAY_DOUBLE_INDEX_SCALE"), (89, u "T_BOOLEAN"), (2, u "T_CHAR"), (1, u "T_FLOAT"), (1, u "T_DOUBLE"), (1, u "T_BYTE"), (1, u "T_SHORT"), (1, u "T_INT"), (1, u "T_LONG"), (1, u "SOFT_MAX_ARRAY_LENGTH"), (41, u "([B[BI)I")] 41

def k5m0 : Method := { name := "<init>", desc := "()V", sig := { parameters := [], returnType := none }, accessFlags := 2, code := none }
def k5c1 : Code := { maxStack := 8, maxLocals := 4, code := jdk_48_method_13_code, exceptionTable := #[], attributes := #[] }
def k5m1 : Method := { name := "mismatch", desc := "([B[BI)I", sig := { parameters := [(.array .byte), (.array .byte), .int], returnType := some .int }, accessFlags := 9, code := some k5c1 }
/-- jdk/internal/util/ArraysSupport -/
def k5 : Class := { plain "jdk/internal/util/ArraysSupport" (some 0) with
  accessFlags := 33
  interfaces := #[]
  cf := some (fileOf pool5 21 #[] #[{ accessFlags := 2, nameIndex := 9, descriptorIndex := 19, attributes := #[] }, { accessFlags := 9, nameIndex := 149, descriptorIndex := 336, attributes := #[] }] 33 16 #[] #[{ accessFlags := 24, nameIndex := 28, descriptorIndex := 29, attributes := #[] }, { accessFlags := 26, nameIndex := 38, descriptorIndex := 39, attributes := #[] }, { accessFlags := 25, nameIndex := 121, descriptorIndex := 25, attributes := #[] }, { accessFlags := 25, nameIndex := 131, descriptorIndex := 25, attributes := #[] }, { accessFlags := 25, nameIndex := 137, descriptorIndex := 25, attributes := #[] }, { accessFlags := 25, nameIndex := 143, descriptorIndex := 25, attributes := #[] }, { accessFlags := 25, nameIndex := 53, descriptorIndex := 25, attributes := #[] }, { accessFlags := 25, nameIndex := 24, descriptorIndex := 25, attributes := #[] }, { accessFlags := 25, nameIndex := 162, descriptorIndex := 25, attributes := #[] }, { accessFlags := 25, nameIndex := 187, descriptorIndex := 25, attributes := #[] }, { accessFlags := 26, nameIndex := 48, descriptorIndex := 25, attributes := #[] }, { accessFlags := 25, nameIndex := 277, descriptorIndex := 25, attributes := #[] }, { accessFlags := 25, nameIndex := 280, descriptorIndex := 25, attributes := #[] }, { accessFlags := 25, nameIndex := 282, descriptorIndex := 25, attributes := #[] }, { accessFlags := 25, nameIndex := 284, descriptorIndex := 25, attributes := #[] }, { accessFlags := 25, nameIndex := 286, descriptorIndex := 25, attributes := #[] }, { accessFlags := 25, nameIndex := 288, descriptorIndex := 25, attributes := #[] }, { accessFlags := 25, nameIndex := 290, descriptorIndex := 25, attributes := #[] }, { accessFlags := 25, nameIndex := 292, descriptorIndex := 25, attributes := #[] }, { accessFlags := 26, nameIndex := 108, descriptorIndex := 109, attributes := #[] }, { accessFlags := 25, nameIndex := 294, descriptorIndex := 25, attributes := #[] }])
  fields := #[{ name := "U", type := (.object "jdk/internal/misc/Unsafe"), accessFlags := 24, slot := 0, constantValue := 0 }, { name := "BIG_ENDIAN", type := .boolean, accessFlags := 26, slot := 1, constantValue := 0 }, { name := "LOG2_ARRAY_BOOLEAN_INDEX_SCALE", type := .int, accessFlags := 25, slot := 2, constantValue := 0 }, { name := "LOG2_ARRAY_BYTE_INDEX_SCALE", type := .int, accessFlags := 25, slot := 3, constantValue := 0 }, { name := "LOG2_ARRAY_CHAR_INDEX_SCALE", type := .int, accessFlags := 25, slot := 4, constantValue := 0 }, { name := "LOG2_ARRAY_SHORT_INDEX_SCALE", type := .int, accessFlags := 25, slot := 5, constantValue := 0 }, { name := "LOG2_ARRAY_INT_INDEX_SCALE", type := .int, accessFlags := 25, slot := 6, constantValue := 0 }, { name := "LOG2_ARRAY_LONG_INDEX_SCALE", type := .int, accessFlags := 25, slot := 7, constantValue := 0 }, { name := "LOG2_ARRAY_FLOAT_INDEX_SCALE", type := .int, accessFlags := 25, slot := 8, constantValue := 0 }, { name := "LOG2_ARRAY_DOUBLE_INDEX_SCALE", type := .int, accessFlags := 25, slot := 9, constantValue := 0 }, { name := "LOG2_BYTE_BIT_SIZE", type := .int, accessFlags := 26, slot := 10, constantValue := 0 }, { name := "T_BOOLEAN", type := .int, accessFlags := 25, slot := 11, constantValue := 0 }, { name := "T_CHAR", type := .int, accessFlags := 25, slot := 12, constantValue := 0 }, { name := "T_FLOAT", type := .int, accessFlags := 25, slot := 13, constantValue := 0 }, { name := "T_DOUBLE", type := .int, accessFlags := 25, slot := 14, constantValue := 0 }, { name := "T_BYTE", type := .int, accessFlags := 25, slot := 15, constantValue := 0 }, { name := "T_SHORT", type := .int, accessFlags := 25, slot := 16, constantValue := 0 }, { name := "T_INT", type := .int, accessFlags := 25, slot := 17, constantValue := 0 }, { name := "T_LONG", type := .int, accessFlags := 25, slot := 18, constantValue := 0 }, { name := "JLA", type := (.object "jdk/internal/access/JavaLangAccess"), accessFlags := 26, slot := 19, constantValue := 0 }, { name := "SOFT_MAX_ARRAY_LENGTH", type := .int, accessFlags := 25, slot := 20, constantValue := 0 }]
  methods := #[k5m0, k5m1]
  instanceTypes := #[]
  staticTypes := #[(.object "jdk/internal/misc/Unsafe"), .boolean, .int, .int, .int, .int, .int, .int, .int, .int, .int, .int, .int, .int, .int, .int, .int, .int, .int, (.object "jdk/internal/access/JavaLangAccess"), .int]
  resolved := Array.replicate 378 none
  statics := none }

def pool6 : Array CpInfo := pool [(1, u "java/io/Serializable"), (0, .class_ 1), (0, u "java/lang/Object"), (0, .class_ 3)] 3

/-- java/io/Serializable -/
def k6 : Class := { plain "java/io/Serializable" (some 0) with
  accessFlags := 1537
  interfaces := #[]
  cf := some (fileOf pool6 2 #[] #[] 1537 4 #[] #[])
  fields := #[]
  methods := #[]
  instanceTypes := #[]
  staticTypes := #[]
  resolved := Array.replicate 8 none
  statics := none }

/-- the primitive byte -/
def k7 : Class := { plain "byte" none with kind := .primitive 'B', accessFlags := 0x411 }
/-- [B -/
def k8 : Class := { plain "[B" (some 0) with kind := .array 7 .byte, interfaces := #[3, 6], accessFlags := 1041 }

/-- the primitive int -/
def k9 : Class := { plain "int" none with kind := .primitive 'I', accessFlags := 0x411 }
/-- [I -/
def k10 : Class := { plain "[I" (some 0) with kind := .array 9 .int, interfaces := #[3, 6], accessFlags := 1041 }

def heap : Heap := #[]
def classes : Array Class := #[k0, k1, k2, k3, k4, k5, k6, k7, k8, k9, k10]
def interned : List (Array UInt16 × Addr) := []
def slotsUsed : Nat := 0
def theMethod : MethodId := ⟨1, 3⟩
def args0 : Array Value := #[.int 5, .int 6, .int 66, .int 67, .int 3]
def aboutOver (below : List Frame) : State where
  vm := { classes := classes, interned := interned.toArray }
  heap := heap
  slotsUsed := slotsUsed
  threads := #[{ frames := .invoking theMethod args0 :: below }]
def below0 : List Frame := [.native { method := ⟨0, 0⟩, args := #[] }]
def about1 : State := aboutOver below0
def p0 : Program := .bare "" "" ""
def e0 : Env := launch0.env 0 0 0
theorem w_frames : about1.frames = Frame.invoking theMethod args0 :: below0 := rfl
set_option maxRecDepth 65536 in
theorem w_args : argsFit about1.vm theMethod args0 = true := by decide +kernel
set_option maxRecDepth 65536 in
theorem w_heap : heapFits about1 = true := by decide +kernel
set_option maxRecDepth 65536 in
theorem w_runnable : about1.curStatus? = some .runnable := by decide +kernel
set_option maxRecDepth 65536 in
theorem w_alone : about1.alone = true := by decide +kernel
set_option maxRecDepth 65536 in
theorem w_named : about1.methodNamed? x = some theMethod := by decide +kernel
set_option maxRecDepth 65536 in
theorem w_hears : about1.hears theMethod below0 = true := by decide +kernel
set_option maxRecDepth 65536 in
theorem w_ripe : about1.ripe theMethod args0 below0 = true := by decide +kernel
theorem w_running : about1.status = .running := rfl
set_option maxRecDepth 65536 in
theorem w_room : about1.hasRoom e0.platform room_1 = true :=
  launch0.hasRoom_least _ room_1 (by decide +kernel) (by decide +kernel) (by decide +kernel) (by decide +kernel) (by decide +kernel) (by decide +kernel)
theorem allAtoms_all (ts : List Jvm.Cond) (a : Array Jvm.Value) (st : Jvm.State) : (allAtoms ts).before a st = ts.all (fun c => c.before a st) := by
  induction ts with
  | nil => rfl
  | cons c t ih =>
    show (Jvm.Cond.and c (allAtoms t)).before a st = _
    rw [Jvm.Cond.before_and, ih, List.all_cons]
def words1 : List Jvm.Cond := Jvm.Cond.code x code maxLocals ret :: tables_1
/-- a 'code' word, met by the world's own term for the bytes: nothing is compared byte by byte -/
theorem code_word {y : MethodName} {bytes : ByteArray} {mx : Nat} {rt : Option FieldType} {a : Array Value} {s : State} {m : MethodId} {meth : Method} {c : Code} (h1 : s.methodNamed? y = some m) (h2 : s.vm.method? m = some meth) (h3 : meth.code = some c) (h4 : c.code = bytes)
    (h5 : (c.maxLocals == mx && c.exceptionTable.isEmpty && decide (c.maxStack ≤ mostOperands) && decide (meth.sig.returnType = rt) && !meth.locks && decide (parseMethodDescriptor y.desc = some meth.sig)) = true) : (Jvm.Cond.code y bytes mx rt).before a s = true := by
  simp only [Bool.and_eq_true, beq_iff_eq, Bool.not_eq_true', decide_eq_true_eq] at h5
  obtain ⟨⟨⟨⟨⟨g1, g2⟩, g3⟩, g4⟩, g5⟩, g6⟩ := h5
  simp [Cond.before, Cond.holds, Cond.value, h1, h2, h3, h4, g1, g2, g3, g4, g5, g6]
def isCode : Jvm.Cond → Bool
  | .code _ _ _ _ => true
  | _ => false
theorem all_split {L : List Jvm.Cond} {P : Jvm.Cond → Bool} (h1 : L.all (fun c => isCode c || P c) = true) (h2 : ∀ c ∈ L.filter isCode, P c = true) : L.all P = true := by
  refine List.all_eq_true.mpr fun c hc => ?_
  have h := List.all_eq_true.mp h1 c hc
  rcases Bool.eq_false_or_eq_true (isCode c) with hi | hi
  · exact h2 c (List.mem_filter.mpr ⟨hc, hi⟩)
  · simpa [hi] using h
set_option maxRecDepth 65536 in
theorem w_c0 : (Jvm.Cond.code x code maxLocals ret).before args0 about1 = true := code_word (m := ⟨1, 3⟩) (meth := k1m3) (c := k1c3) (by decide +kernel) rfl rfl rfl (by decide +kernel)
set_option maxRecDepth 65536 in
theorem w_c1 : (Jvm.Cond.code ({ cls := "com/example/match_before_write/matchbeforewrite/RepresentationOfPinLaw", name := "make", desc := "(IBBB)[B" } : Jvm.MethodName) method_2_code (4 : Nat) (Option.some (Jvm.ClassFile.FieldType.array Jvm.ClassFile.FieldType.byte))).before args0 about1 = true := code_word (m := ⟨1, 1⟩) (meth := k1m1) (c := k1c1) (by decide +kernel) rfl rfl rfl (by decide +kernel)
set_option maxRecDepth 65536 in
theorem w_c2 : (Jvm.Cond.code ({ cls := "com/example/match_before_write/matchbeforewrite/Representation", name := "of", desc := "([B)Lcom/example/match_before_write/matchbeforewrite/Representation;" } : Jvm.MethodName) prog_13_method_2_code (1 : Nat) (Option.some (Jvm.ClassFile.FieldType.object "com/example/match_before_write/matchbeforewrite/Representation"))).before args0 about1 = true := code_word (m := ⟨2, 1⟩) (meth := k2m1) (c := k2c1) (by decide +kernel) rfl rfl rfl (by decide +kernel)
set_option maxRecDepth 65536 in
theorem w_c3 : (Jvm.Cond.code ({ cls := "com/example/match_before_write/matchbeforewrite/Representation", name := "<init>", desc := "([BLcom/example/match_before_write/matchbeforewrite/EntityTag;Ljava/time/Instant;ZZ)V" } : Jvm.MethodName) prog_13_method_1_code (6 : Nat) (Option.none : Option Jvm.ClassFile.FieldType)).before args0 about1 = true := code_word (m := ⟨2, 0⟩) (meth := k2m0) (c := k2c0) (by decide +kernel) rfl rfl rfl (by decide +kernel)
set_option maxRecDepth 65536 in
theorem w_c4 : (Jvm.Cond.code ({ cls := "java/lang/Object", name := "<init>", desc := "()V" } : Jvm.MethodName) object_method_1_code (1 : Nat) (Option.none : Option Jvm.ClassFile.FieldType)).before args0 about1 = true := code_word (m := ⟨0, 0⟩) (meth := k0m0) (c := k0c0) (by decide +kernel) rfl rfl rfl (by decide +kernel)
set_option maxRecDepth 65536 in
theorem w_c5 : (Jvm.Cond.code ({ cls := "com/example/match_before_write/matchbeforewrite/Representation", name := "length", desc := "()I" } : Jvm.MethodName) prog_13_method_8_code (1 : Nat) (Option.some Jvm.ClassFile.FieldType.int)).before args0 about1 = true := code_word (m := ⟨2, 2⟩) (meth := k2m2) (c := k2c2) (by decide +kernel) rfl rfl rfl (by decide +kernel)
set_option maxRecDepth 65536 in
theorem w_c6 : (Jvm.Cond.code ({ cls := "com/example/match_before_write/matchbeforewrite/Representation", name := "lastModified", desc := "()Ljava/time/Instant;" } : Jvm.MethodName) prog_13_method_14_code (1 : Nat) (Option.some (Jvm.ClassFile.FieldType.object "java/time/Instant"))).before args0 about1 = true := code_word (m := ⟨2, 4⟩) (meth := k2m4) (c := k2c4) (by decide +kernel) rfl rfl rfl (by decide +kernel)
set_option maxRecDepth 65536 in
theorem w_c7 : (Jvm.Cond.code ({ cls := "com/example/match_before_write/matchbeforewrite/Representation", name := "sharesItsSecond", desc := "()Z" } : Jvm.MethodName) prog_13_method_15_code (1 : Nat) (Option.some Jvm.ClassFile.FieldType.boolean)).before args0 about1 = true := code_word (m := ⟨2, 5⟩) (meth := k2m5) (c := k2c5) (by decide +kernel) rfl rfl rfl (by decide +kernel)
set_option maxRecDepth 65536 in
theorem w_c8 : (Jvm.Cond.code ({ cls := "com/example/match_before_write/matchbeforewrite/Representation", name := "isRemoval", desc := "()Z" } : Jvm.MethodName) prog_13_method_16_code (1 : Nat) (Option.some Jvm.ClassFile.FieldType.boolean)).before args0 about1 = true := code_word (m := ⟨2, 6⟩) (meth := k2m6) (c := k2c6) (by decide +kernel) rfl rfl rfl (by decide +kernel)
set_option maxRecDepth 65536 in
theorem w_c9 : (Jvm.Cond.code ({ cls := "com/example/match_before_write/matchbeforewrite/Representation", name := "hasSameBytesAs", desc := "(Lcom/example/match_before_write/matchbeforewrite/Representation;)Z" } : Jvm.MethodName) prog_13_method_13_code (2 : Nat) (Option.some Jvm.ClassFile.FieldType.boolean)).before args0 about1 = true := code_word (m := ⟨2, 3⟩) (meth := k2m3) (c := k2c3) (by decide +kernel) rfl rfl rfl (by decide +kernel)
set_option maxRecDepth 65536 in
theorem w_c10 : (Jvm.Cond.code ({ cls := "java/util/Arrays", name := "equals", desc := "([B[B)Z" } : Jvm.MethodName) jdk_65_method_89_code (3 : Nat) (Option.some Jvm.ClassFile.FieldType.boolean)).before args0 about1 = true := code_word (m := ⟨4, 1⟩) (meth := k4m1) (c := k4c1) (by decide +kernel) rfl rfl rfl (by decide +kernel)
set_option maxRecDepth 65536 in
theorem w_c11 : (Jvm.Cond.code ({ cls := "jdk/internal/util/ArraysSupport", name := "mismatch", desc := "([B[BI)I" } : Jvm.MethodName) jdk_48_method_13_code (4 : Nat) (Option.some Jvm.ClassFile.FieldType.int)).before args0 about1 = true := code_word (m := ⟨5, 1⟩) (meth := k5m1) (c := k5c1) (by decide +kernel) rfl rfl rfl (by decide +kernel)
set_option maxRecDepth 65536 in
theorem w_c12 : (Jvm.Cond.code ({ cls := "com/example/match_before_write/matchbeforewrite/RepresentationOfPinLaw", name := "same", desc := "([B[B)Z" } : Jvm.MethodName) method_3_code (2 : Nat) (Option.some Jvm.ClassFile.FieldType.boolean)).before args0 about1 = true := code_word (m := ⟨1, 2⟩) (meth := k1m2) (c := k1c2) (by decide +kernel) rfl rfl rfl (by decide +kernel)
def codes1 : List Jvm.Cond := [Jvm.Cond.code x code maxLocals ret, Jvm.Cond.code ({ cls := "com/example/match_before_write/matchbeforewrite/RepresentationOfPinLaw", name := "make", desc := "(IBBB)[B" } : Jvm.MethodName) method_2_code (4 : Nat) (Option.some (Jvm.ClassFile.FieldType.array Jvm.ClassFile.FieldType.byte)), Jvm.Cond.code ({ cls := "com/example/match_before_write/matchbeforewrite/Representation", name := "of", desc := "([B)Lcom/example/match_before_write/matchbeforewrite/Representation;" } : Jvm.MethodName) prog_13_method_2_code (1 : Nat) (Option.some (Jvm.ClassFile.FieldType.object "com/example/match_before_write/matchbeforewrite/Representation")), Jvm.Cond.code ({ cls := "com/example/match_before_write/matchbeforewrite/Representation", name := "<init>", desc := "([BLcom/example/match_before_write/matchbeforewrite/EntityTag;Ljava/time/Instant;ZZ)V" } : Jvm.MethodName) prog_13_method_1_code (6 : Nat) (Option.none : Option Jvm.ClassFile.FieldType), Jvm.Cond.code ({ cls := "java/lang/Object", name := "<init>", desc := "()V" } : Jvm.MethodName) object_method_1_code (1 : Nat) (Option.none : Option Jvm.ClassFile.FieldType), Jvm.Cond.code ({ cls := "com/example/match_before_write/matchbeforewrite/Representation", name := "length", desc := "()I" } : Jvm.MethodName) prog_13_method_8_code (1 : Nat) (Option.some Jvm.ClassFile.FieldType.int), Jvm.Cond.code ({ cls := "com/example/match_before_write/matchbeforewrite/Representation", name := "lastModified", desc := "()Ljava/time/Instant;" } : Jvm.MethodName) prog_13_method_14_code (1 : Nat) (Option.some (Jvm.ClassFile.FieldType.object "java/time/Instant")), Jvm.Cond.code ({ cls := "com/example/match_before_write/matchbeforewrite/Representation", name := "sharesItsSecond", desc := "()Z" } : Jvm.MethodName) prog_13_method_15_code (1 : Nat) (Option.some Jvm.ClassFile.FieldType.boolean), Jvm.Cond.code ({ cls := "com/example/match_before_write/matchbeforewrite/Representation", name := "isRemoval", desc := "()Z" } : Jvm.MethodName) prog_13_method_16_code (1 : Nat) (Option.some Jvm.ClassFile.FieldType.boolean), Jvm.Cond.code ({ cls := "com/example/match_before_write/matchbeforewrite/Representation", name := "hasSameBytesAs", desc := "(Lcom/example/match_before_write/matchbeforewrite/Representation;)Z" } : Jvm.MethodName) prog_13_method_13_code (2 : Nat) (Option.some Jvm.ClassFile.FieldType.boolean), Jvm.Cond.code ({ cls := "java/util/Arrays", name := "equals", desc := "([B[B)Z" } : Jvm.MethodName) jdk_65_method_89_code (3 : Nat) (Option.some Jvm.ClassFile.FieldType.boolean), Jvm.Cond.code ({ cls := "jdk/internal/util/ArraysSupport", name := "mismatch", desc := "([B[BI)I" } : Jvm.MethodName) jdk_48_method_13_code (4 : Nat) (Option.some Jvm.ClassFile.FieldType.int), Jvm.Cond.code ({ cls := "com/example/match_before_write/matchbeforewrite/RepresentationOfPinLaw", name := "same", desc := "([B[B)Z" } : Jvm.MethodName) method_3_code (2 : Nat) (Option.some Jvm.ClassFile.FieldType.boolean)]
set_option maxRecDepth 65536 in
theorem codes_eq : words1.filter isCode = codes1 := rfl
theorem w_codes : ∀ c ∈ words1.filter isCode, c.before args0 about1 = true := by
  rw [codes_eq]
  intro c hc
  simp only [codes1, List.mem_cons, List.not_mem_nil, or_false] at hc
  rcases hc with rfl | rfl | rfl | rfl | rfl | rfl | rfl | rfl | rfl | rfl | rfl | rfl | rfl
  · exact w_c0
  · exact w_c1
  · exact w_c2
  · exact w_c3
  · exact w_c4
  · exact w_c5
  · exact w_c6
  · exact w_c7
  · exact w_c8
  · exact w_c9
  · exact w_c10
  · exact w_c11
  · exact w_c12
set_option maxRecDepth 65536 in
theorem w_t1 : (words1.take 24).all (fun c => isCode c || c.before args0 about1) = true := by decide +kernel
set_option maxRecDepth 65536 in
theorem w_t2 : ((words1.drop 24).take 24).all (fun c => isCode c || c.before args0 about1) = true := by decide +kernel
set_option maxRecDepth 65536 in
theorem w_t3 : (((words1.drop 24).drop 24).take 24).all (fun c => isCode c || c.before args0 about1) = true := by decide +kernel
set_option maxRecDepth 65536 in
theorem w_t4 : (((words1.drop 24).drop 24).drop 24).all (fun c => isCode c || c.before args0 about1) = true := by decide +kernel
theorem w_tables : (allAtoms (Jvm.Cond.code x code maxLocals ret :: tables_1)).before args0 about1 = true := by
  rw [allAtoms_all]
  show words1.all (fun c => c.before args0 about1) = true
  refine all_split ?_ w_codes
  rw [← List.take_append_drop 24 words1, List.all_append, w_t1, ← List.take_append_drop 24 (words1.drop 24), List.all_append, w_t2, ← List.take_append_drop 24 ((words1.drop 24).drop 24), List.all_append, w_t3, w_t4]
  rfl
set_option maxRecDepth 65536 in
theorem w_case : (Jvm.Cond.and given_1 narrow_1).before args0 about1 = true := by decide +kernel
theorem w_applies : (headSpec (Jvm.Cond.code x code maxLocals ret :: tables_1) room_1).applies x e0.platform about1 = true :=
  (Spec.applies_iff w_frames).mpr ⟨w_running, w_runnable, w_alone, w_named, w_hears, w_ripe, w_room, w_tables⟩
theorem atStart : AtStart classFile x code maxLocals ret World_1 tables_1 room_1 Calls_1 rest_1 Pre_1 launch0 p0 e0 about1 theMethod args0 below0 :=
  ⟨lists_1, trivial, launch0.admits_env _ _ _, launch0.least_env, fairChoices_fair.cas, fairChoices_fair.clock, w_frames, w_args, w_heap, w_applies, trivial, trivial, w_case⟩
end start1
theorem witness_1 : WitnessClaimed_1 := ⟨start1.p0, start1.e0, start1.about1, start1.theMethod, start1.args0, start1.below0, start1.atStart⟩
end Jvm.Pilot.@@N@@
