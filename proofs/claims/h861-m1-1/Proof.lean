import JvmDerived
import JvmDerived.Pilot.@@N@@Statement
import JvmDerived.Pilot.@@N@@Code
set_option linter.unusedVariables false
set_option linter.unusedSimpArgs false
namespace Jvm.RoadKit
open Sem ClassFile Op Lib Jvm.Stand Jvm.Free Jvm.LawKit
section Own
variable {p : Program} {l : Launch} {e : Env} {R : Room} {s : State} {m : MethodId} {args : Array Value} {below : List Frame} {meth : Method} {c : Code} {T T' : State} {locs : List Loc} {cells slots : Nat} {Z : State} {a0 : Array Value} {h h' h0 : Heap} {K : State → Outcome → Prop} {pc : Nat} {Ls : Array Slot} {rest : List Value} {Q : Option Value → Heap → List Loc → Prop} {k n : Nat} {a b : Addr} {ws : List Addr} {sl : Nat} {v : Value}
/-- from T the run comes to its end, and K holds there -/
def Go (p : Program) (e : Env) (below : List Frame) (K : State → Outcome → Prop) (T : State) : Prop := ∃ U o, Steps p.tables e below T U ∧ U.status = .running ∧ Ended U below o ∧ K U o
theorem Go.by (st : ∀ t, Steps p.tables e below T' t → Steps p.tables e below T t) (g : Go p e below K T') : Go p e below K T := by
  obtain ⟨U, o, q, r⟩ := g; exact ⟨U, o, st _ q, r⟩
theorem Go.on (st : Steps p.tables e below T T') (g : Go p e below K T') : Go p e below K T := by
  obtain ⟨U, o, q, r⟩ := g; exact ⟨U, o, st.trans q, r⟩
theorem Go.cast {T'' : State} (q : T = T'') (g : Go p e below K T'') : Go p e below K T := q ▸ g
def KK (s : State) (Q : Option Value → Heap → List Loc → Prop) (k n : Nat) : State → Outcome → Prop := fun U o => ∃ v L, o = .returned v ∧ Q v U.heap L ∧ FrameEnd s o U L k n
abbrev Ctr (l : Launch) (Z : State) (h0 : Heap) (y : MethodName) (bytes : ByteArray) (maxL : Nat) (ret : Option FieldType) (ws : List Cond) (rm : Room) (as' : Array Value) (Q : Option Value → Heap → List Loc → Prop) : Prop :=
  MetFree l y (head1 (Cond.code y bytes maxL ret :: ws) rm) (fun a U => a = as' ∧ Z.Warmed39 U.vm ∧ U.heap = h0) (fun _ _ _ _ _ => True) (fun _ U o U' => ∃ v L, o = .returned v ∧ Q v U'.heap L ∧ FrameEnd U o U' L rm.cells rm.slots)
theorem enter {y : MethodName} {bytes : ByteArray} {maxL : Nat} {ret : Option FieldType} {ws : List Cond} {rm : Room} {as' : Array Value} (hp : plainFor y = true)
    (H : ∀ (p : Program) (e : Env) (s : State) (m : MethodId) (below : List Frame) (meth : Method) (c : Code) (s₁ : State), p.tables.exec = Jvm.exec → c.code = bytes → c.maxLocals = maxL → Z.Warmed39 s.vm → s.vm.findClass y.cls = some m.cls → meth.name = y.name → meth.sig.returnType = ret → meth.locks = false →
      Stand p l e rm s m as' below meth c s₁ [] 0 0 → s₁.heap = h0 → s.heap = h0 → Go p e below (KK s Q rm.cells rm.slots) (s₁.setTop (entryFrame m as' maxL))) : Ctr l Z h0 y bytes maxL ret ws rm as' Q := by
  refine MetFree.of_bodySF hp hisR ?_
  intro p e s m args below meth c s₁ Bd hml0 hP hK
  obtain ⟨rfl, hZ, hh⟩ := hP
  exact H p e s m below meth c s₁ Bd.exec Bd.bytes hml0 hZ (findClass_of_methodNamed Bd.named) (name_of_methodNamed Bd.named Bd.method).1 Bd.returns Bd.notSynchronized (Stand.of_body Bd) (by rw [← hh, Bd.state]; rfl) hh
/-! returns -/
theorem Go.ret {w : Value} {t : FieldType} {i : Instr} (X : Stand p l e R s m args below meth c T locs cells slots) (hx : p.tables.exec = Jvm.exec) (hret : meth.sig.returnType = some t) (hlk : meth.locks = false) (hn : narrow t w = w)
    (hi : (i = .ireturn ∧ (t = .int ∨ t = .boolean ∨ t = .byte ∨ t = .char ∨ t = .short) ∧ ∃ z, w = .int z) ∨ (i = .lreturn ∧ t = .long ∧ ∃ z, w = .long z) ∨ (i = .dreturn ∧ t = .double ∧ ∃ z, w = .double z) ∨ (i = .freturn ∧ t = .float ∧ ∃ z, w = .float z) ∨ (i = .areturn ∧ t.isReference = true ∧ w.isRef = true))
    (hd : decode c.code pc = .ok (i, 1)) (eT : T.heap = h) (hk : cells ≤ k) (hs : slots ≤ n) (hQ : Q (some w) h locs) : Go p e below (KK s Q k n) (T.setTop (mkF m pc Ls (w :: rest))) := by
  obtain ⟨fs, hr, hrun, hended, hW, hsame⟩ := X.leave (v := some w) (fun h => by rw [hret] at h; cases h) hlk
  subst eT
  exact ⟨_, _, retOut X hx hret hn hi hd hr, hrun, hended, _, _, rfl, hQ, ⟨_, rfl⟩, hW, hsame.mono hk hs⟩
theorem Go.retI {z : Int32} {t : FieldType} (X : Stand p l e R s m args below meth c T locs cells slots) (hx : p.tables.exec = Jvm.exec) (hret : meth.sig.returnType = some t) (hlk : meth.locks = false) (ht : t = .int ∨ t = .boolean ∨ t = .byte ∨ t = .char ∨ t = .short) (hn : narrow t (.int z) = .int z)
    (hd : decode c.code pc = .ok (.ireturn, 1)) (eT : T.heap = h) (hk : cells ≤ k) (hs : slots ≤ n) (hQ : Q (some (.int z)) h locs) : Go p e below (KK s Q k n) (T.setTop (mkF m pc Ls (.int z :: rest))) :=
  Go.ret X hx hret hlk hn (Or.inl ⟨rfl, ht, z, rfl⟩) hd eT hk hs hQ
theorem Go.retJ {z : Int64} (X : Stand p l e R s m args below meth c T locs cells slots) (hx : p.tables.exec = Jvm.exec) (hret : meth.sig.returnType = some .long) (hlk : meth.locks = false)
    (hd : decode c.code pc = .ok (.lreturn, 1)) (eT : T.heap = h) (hk : cells ≤ k) (hs : slots ≤ n) (hQ : Q (some (.long z)) h locs) : Go p e below (KK s Q k n) (T.setTop (mkF m pc Ls (.long z :: rest))) :=
  Go.ret X hx hret hlk rfl (Or.inr (Or.inl ⟨rfl, rfl, z, rfl⟩)) hd eT hk hs hQ
theorem nar_ref {t : FieldType} {w : Value} (hw : w.isRef = true) : narrow t w = w := by cases w <;> first | (simp [Value.isRef] at hw; done) | (cases t <;> rfl)
theorem fits_any {C : String} {w : Value} (hw : w.isRef = true) : fits (.object C) w = true := by cases w <;> first | (simp [Value.isRef] at hw; done) | rfl
theorem Go.retA {w : Value} {t : FieldType} (X : Stand p l e R s m args below meth c T locs cells slots) (hx : p.tables.exec = Jvm.exec) (hret : meth.sig.returnType = some t) (hlk : meth.locks = false) (ht : t.isReference = true) (hw : w.isRef = true)
    (hd : decode c.code pc = .ok (.areturn, 1)) (eT : T.heap = h) (hk : cells ≤ k) (hs : slots ≤ n) (hQ : Q (some w) h locs) : Go p e below (KK s Q k n) (T.setTop (mkF m pc Ls (w :: rest))) :=
  Go.ret X hx hret hlk (nar_ref hw) (Or.inr (Or.inr (Or.inr (Or.inr ⟨rfl, ht, hw⟩)))) hd eT hk hs hQ
theorem Go.retV (X : Stand p l e R s m args below meth c T locs cells slots) (hx : p.tables.exec = Jvm.exec) (hret : meth.sig.returnType = none) (hlk : meth.locks = false)
    (hd : decode c.code pc = .ok (.return_, 1)) (eT : T.heap = h) (hk : cells ≤ k) (hs : slots ≤ n) (hQ : Q none h locs) : Go p e below (KK s Q k n) (T.setTop (mkF m pc Ls [])) := by
  obtain ⟨fs, hr, hrun, hended, hW, hsame⟩ := X.leave (v := none) (fun _ => rfl) hlk
  subst eT
  exact ⟨_, _, X.returnOut hx hret hd hr, hrun, hended, _, _, rfl, hQ, ⟨_, rfl⟩, hW, hsame.mono hk hs⟩
/-! the old cells -/
theorem ext_trans {h1 h2 h3 : Heap} (E : Ext h1 h2) (F : Ext h2 h3) : Ext h1 h3 := ⟨Nat.le_trans E.1 F.1, fun a c q => F.2 a c (E.2 a c q)⟩
theorem ext_wr {h1 h2 h3 : Heap} (E : Ext h1 h2) (W : Wr h2 h3 a sl v) (g : h1.size ≤ a) : Ext h1 h3 := by
  obtain ⟨cell, q1, q2, q3, rfl⟩ := W
  refine ⟨by simpa using E.1, fun x c q => ?_⟩
  have hx : x < h1.size := (Array.getElem?_eq_some_iff.mp q).1
  rw [Array.getElem?_setIfInBounds_ne (Nat.ne_of_gt (Nat.lt_of_lt_of_le hx g))]
  exact E.2 x c q
theorem ext_keep {h1 h2 h3 : Heap} (E : Ext h1 h2) (F : Keep h2 h3 ws) (g : ∀ x ∈ ws, h1.size ≤ x) : Ext h1 h3 := by
  refine ⟨Nat.le_trans E.1 F.1, fun x c q => F.2.1 x c (E.2 x c q) fun z => ?_⟩
  exact absurd (Array.getElem?_eq_some_iff.mp q).1 (Nat.not_lt.mpr (g x z))
theorem ne_new (q : a < h.size) (r : h.size ≤ b) : a ≠ b := Nat.ne_of_lt (Nat.lt_of_lt_of_le q r)
/-! calls -/
theorem Go.callS {own : String} {index : Nat} {y : MethodName} {bytes : ByteArray} {maxL : Nat} {ret : Option FieldType} {rm : Room} {as' : Array Value} {argsL S : List Value} (X : Stand p l e R s m args below meth c T locs cells slots) (hx : p.tables.exec = Jvm.exec) (hZ : Z.Warmed39 s.vm) (hown : s.vm.findClass own = some m.cls)
    (w1 : (Cond.methodLink own index y).before a0 Z = true) (w2 : (Cond.static y).before a0 Z = true) (w3 : (Cond.initialized y.cls).before a0 Z = true) (w4 : (Cond.code y bytes maxL ret).before a0 Z = true)
    (hy : y.cls ≠ "java/lang/invoke/MethodHandle" ∧ y.cls ≠ "java/lang/invoke/VarHandle") {Q : Option Value → Heap → List Loc → Prop} (hM : Ctr l Z h y bytes maxL ret [] rm as' Q) (eT : T.heap = h) (hsz : Ls.size = c.maxLocals)
    (hd : decode c.code pc = .ok (.invokestatic index, 3)) (hlen : ∀ sig, parseMethodDescriptor y.desc = some sig → argsL.length = sig.parameters.length) (hst : S = argsL.reverse ++ rest) (has : argsL.toArray = as')
    {W : Nat} (hW : 2 * 0 + (rest.map fun v => v.category).sum ≤ W) (hf : rm.frames + 1 ≤ R.frames) (hl : W + (maxL + 11) + rm.locals ≤ R.locals) (hc : cells + rm.cells ≤ R.cells) (hs : slots + rm.slots ≤ R.slots)
    (g : ∀ (v : Option Value) (T' : State) (L : List Loc), Stand p l e R s m args below meth c T' (locs ++ L) (cells + rm.cells) (slots + rm.slots) → Q v T'.heap L → Go p e below K (T'.setTop (mkF m (pc + 3) Ls (v.toList ++ rest)))) : Go p e below K (T.setTop (mkF m pc Ls S)) := by
  obtain ⟨v, _, ⟨T', L', k', n'⟩, -, X', ⟨Lc, hQ, l', y', z'⟩, st⟩ := Jvm.LawKit.callS X hx (y := y) hown (mvT hZ w1) (mvT hZ w2) (mvT hZ w3) (mvT hZ w4) hy (backOf (W := W) hM hZ w4 w3 hf hl) (g := mkF m pc Ls S) rfl hsz (argsL := argsL) (rest := rest) hlen hst hW hd (fun _ _ => ⟨has, eT, hc, hs⟩)
  dsimp only [Pt.U, Pt.locs, Pt.cells, Pt.slots] at X' l' y' z' st hQ
  subst l' y' z'
  exact Go.by st (g v T' Lc X' hQ)
theorem Go.init {own : String} {index : Nat} {y : MethodName} {bytes : ByteArray} {maxL : Nat} {rm : Room} {as' : Array Value} {argsL S : List Value} (X : Stand p l e R s m args below meth c T locs cells slots) (hx : p.tables.exec = Jvm.exec) (hZ : Z.Warmed39 s.vm) (hown : s.vm.findClass own = some m.cls) (hy1 : y.name = "<init>")
    (w1 : (Cond.methodLink own index y).before a0 Z = true) (w2 : (Cond.instanceMethod y).before a0 Z = true) (w3 : (Cond.initialized y.cls).before a0 Z = true) (w4 : (Cond.code y bytes maxL none).before a0 Z = true)
    (hy : y.cls ≠ "java/lang/invoke/MethodHandle" ∧ y.cls ≠ "java/lang/invoke/VarHandle") {Q : Option Value → Heap → List Loc → Prop} (hM : Ctr l Z h y bytes maxL none [] rm as' Q) (eT : T.heap = h) (hsz : Ls.size = c.maxLocals)
    (hd : decode c.code pc = .ok (.invokespecial index, 3)) (hlen : ∀ sig, parseMethodDescriptor y.desc = some sig → argsL.length = sig.parameters.length) (hst : S = argsL.reverse ++ .ref a :: rest) (has : (Value.ref a :: argsL).toArray = as')
    {W : Nat} (hW : 2 * 0 + (rest.map fun v => v.category).sum ≤ W) (hf : rm.frames + 1 ≤ R.frames) (hl : W + (maxL + 11) + rm.locals ≤ R.locals) (hc : cells + rm.cells ≤ R.cells) (hs : slots + rm.slots ≤ R.slots)
    (g : ∀ (v : Option Value) (T' : State) (L : List Loc), Stand p l e R s m args below meth c T' (locs ++ L) (cells + rm.cells) (slots + rm.slots) → Q v T'.heap L → Go p e below K (T'.setTop (mkF m (pc + 3) Ls (v.toList ++ rest)))) : Go p e below K (T.setTop (mkF m pc Ls S)) := by
  obtain ⟨v, _, ⟨T', L', k', n'⟩, -, X', ⟨Lc, hQ, l', y', z'⟩, st⟩ := X.specialBack hx (y := y) hy1 hown (mvT hZ w1) (mvT hZ w2) (mvT hZ w4) hy (backOf (W := W) hM hZ w4 w3 hf hl) (g := mkF m pc Ls S) rfl hsz (Steps.refl _) (a := a) (argsL := argsL) (rest := rest) hlen hst hW hd (fun _ _ => ⟨has, eT, hc, hs⟩)
  dsimp only [Pt.U, Pt.locs, Pt.cells, Pt.slots] at X' l' y' z' st hQ
  subst l' y' z'
  exact Go.on st (g v T' Lc X' hQ)
theorem Go.virt {own C : String} {index : Nat} {y z : MethodName} {bytes : ByteArray} {maxL : Nat} {ret : Option FieldType} {rm : Room} {as' : Array Value} {argsL S : List Value} (X : Stand p l e R s m args below meth c T locs cells slots) (hx : p.tables.exec = Jvm.exec) (hZ : Z.Warmed39 s.vm) (hown : s.vm.findClass own = some m.cls)
    (w1 : (Cond.methodLink own index y).before a0 Z = true) (w2 : (Cond.declares y).before a0 Z = true) (hnf : NotFace s y) (w5 : (Cond.selects C y z).before a0 Z = true) (w6 : (Cond.instanceMethod z).before a0 Z = true) (w3 : (Cond.initialized z.cls).before a0 Z = true) (w4 : (Cond.code z bytes maxL ret).before a0 Z = true)
    (hy : y.cls ≠ "java/lang/invoke/MethodHandle" ∧ y.cls ≠ "java/lang/invoke/VarHandle") {Q : Option Value → Heap → List Loc → Prop} (hM : Ctr l Z h z bytes maxL ret [] rm as' Q) (eT : T.heap = h) (E : Exa Z h a C) (hsz : Ls.size = c.maxLocals)
    (hd : decode c.code pc = .ok (.invokevirtual index, 3)) (hlen : ∀ sig, parseMethodDescriptor y.desc = some sig → argsL.length = sig.parameters.length) (hst : S = argsL.reverse ++ .ref a :: rest) (has : (Value.ref a :: argsL).toArray = as')
    {W : Nat} (hW : 2 * 0 + (rest.map fun v => v.category).sum ≤ W) (hf : rm.frames + 1 ≤ R.frames) (hl : W + (maxL + 11) + rm.locals ≤ R.locals) (hc : cells + rm.cells ≤ R.cells) (hs : slots + rm.slots ≤ R.slots)
    (g : ∀ (v : Option Value) (T' : State) (L : List Loc), Stand p l e R s m args below meth c T' (locs ++ L) (cells + rm.cells) (slots + rm.slots) → Q v T'.heap L → Go p e below K (T'.setTop (mkF m (pc + 3) Ls (v.toList ++ rest)))) : Go p e below K (T.setTop (mkF m pc Ls S)) := by
  obtain ⟨cq, kq, q1, q2, q3⟩ := isOf hZ eT E
  obtain ⟨v, _, ⟨T', L', k', n'⟩, -, X', ⟨Lc, hQ, l', y', z'⟩, st⟩ := X.virtualBack hx (y := y) (z := z) hown (mvT hZ w1) (mvT hZ w2) hnf (mvT hZ w5) (mvT hZ w6) hy (backOf (W := W) hM hZ w4 w3 hf hl) q1 q3 (g := mkF m pc Ls S) rfl hsz (Steps.refl _) (argsL := argsL) (rest := rest) hlen hst hW hd (fun _ _ => ⟨has, eT, hc, hs⟩)
  dsimp only [Pt.U, Pt.locs, Pt.cells, Pt.slots] at X' l' y' z' st hQ
  subst l' y' z'
  exact Go.on st (g v T' Lc X' hQ)
theorem Go.face {own C : String} {index count : Nat} {y z : MethodName} {bytes : ByteArray} {maxL : Nat} {ret : Option FieldType} {rm : Room} {as' : Array Value} {argsL S : List Value} (X : Stand p l e R s m args below meth c T locs cells slots) (hx : p.tables.exec = Jvm.exec) (hZ : Z.Warmed39 s.vm) (hown : s.vm.findClass own = some m.cls)
    (w1 : (Cond.methodLink own index y).before a0 Z = true) (w2 : (Cond.declares y).before a0 Z = true) (w7 : (Cond.interfaceMethod y.cls y.cls y.name y.desc).before a0 Z = true) (w5 : (Cond.selects C y z).before a0 Z = true) (w6 : (Cond.instanceMethod z).before a0 Z = true) (w8 : (Cond.publicMethod z).before a0 Z = true) (w9 : (Cond.unhidden C y.name y.desc).before a0 Z = true) (w10 : (Cond.castable C y.cls).before a0 Z = true) (w3 : (Cond.initialized z.cls).before a0 Z = true) (w4 : (Cond.code z bytes maxL ret).before a0 Z = true)
    (hy : y.cls ≠ "java/lang/invoke/MethodHandle" ∧ y.cls ≠ "java/lang/invoke/VarHandle") {Q : Option Value → Heap → List Loc → Prop} (hM : Ctr l Z h z bytes maxL ret [] rm as' Q) (eT : T.heap = h) (E : Exa Z h a C) (hsz : Ls.size = c.maxLocals)
    (hd : decode c.code pc = .ok (.invokeinterface index count, 5)) (hlen : ∀ sig, parseMethodDescriptor y.desc = some sig → argsL.length = sig.parameters.length) (hst : S = argsL.reverse ++ .ref a :: rest) (has : (Value.ref a :: argsL).toArray = as')
    {W : Nat} (hW : 2 * 0 + (rest.map fun v => v.category).sum ≤ W) (hf : rm.frames + 1 ≤ R.frames) (hl : W + (maxL + 11) + rm.locals ≤ R.locals) (hc : cells + rm.cells ≤ R.cells) (hs : slots + rm.slots ≤ R.slots)
    (g : ∀ (v : Option Value) (T' : State) (L : List Loc), Stand p l e R s m args below meth c T' (locs ++ L) (cells + rm.cells) (slots + rm.slots) → Q v T'.heap L → Go p e below K (T'.setTop (mkF m (pc + 5) Ls (v.toList ++ rest)))) : Go p e below K (T.setTop (mkF m pc Ls S)) := by
  obtain ⟨cq, kq, q1, q2, q3⟩ := isOf hZ eT E
  obtain ⟨v, _, ⟨T', L', k', n'⟩, -, X', ⟨Lc, hQ, l', y', z'⟩, st⟩ := X.interfaceBack hx (xi := y) (y := z) hown (mvT hZ w1) (mvT hZ w2) (mvT hZ w7 (by simp [Cond.onTables, Cond.keepsFace, Cond.keeps, Cond.steady, Cond.faceAtom]; exact hy)) (mvT hZ w5) (mvT hZ w6) (mvT hZ w8) (mvT hZ w9) (mvT hZ w10) hy (backOf (W := W) (len := 5) hM hZ w4 w3 hf hl) q1 q2 q3 (g := mkF m pc Ls S) rfl hsz (Steps.refl _) (argsL := argsL) (rest := rest) hlen hst hW hd (fun _ _ => ⟨has, eT, hc, hs⟩)
  dsimp only [Pt.U, Pt.locs, Pt.cells, Pt.slots] at X' l' y' z' st hQ
  subst l' y' z'
  exact Go.on st (g v T' Lc X' hQ)
theorem Go.priv {own : String} {index : Nat} {y : MethodName} {bytes : ByteArray} {maxL : Nat} {ret : Option FieldType} {rm : Room} {as' : Array Value} {argsL S : List Value} {C : String} (X : Stand p l e R s m args below meth c T locs cells slots) (hx : p.tables.exec = Jvm.exec) (hZ : Z.Warmed39 s.vm) (hown : s.vm.findClass own = some m.cls)
    (w1 : (Cond.methodLink own index y).before a0 Z = true) (w6 : (Cond.instanceMethod y).before a0 Z = true) (w5 : (Cond.selects y.cls y y).before a0 Z = true) (w7 : (Cond.privateMethod y).before a0 Z = true) (w3 : (Cond.initialized y.cls).before a0 Z = true) (w4 : (Cond.code y bytes maxL ret).before a0 Z = true)
    (hy : y.cls ≠ "java/lang/invoke/MethodHandle" ∧ y.cls ≠ "java/lang/invoke/VarHandle") {Q : Option Value → Heap → List Loc → Prop} (hM : Ctr l Z h y bytes maxL ret [] rm as' Q) (eT : T.heap = h) (E : Exa Z h a C) (hsz : Ls.size = c.maxLocals)
    (hd : decode c.code pc = .ok (.invokevirtual index, 3)) (hlen : ∀ sig, parseMethodDescriptor y.desc = some sig → argsL.length = sig.parameters.length) (hst : S = argsL.reverse ++ .ref a :: rest) (has : (Value.ref a :: argsL).toArray = as')
    {W : Nat} (hW : 2 * 0 + (rest.map fun v => v.category).sum ≤ W) (hf : rm.frames + 1 ≤ R.frames) (hl : W + (maxL + 11) + rm.locals ≤ R.locals) (hc : cells + rm.cells ≤ R.cells) (hs : slots + rm.slots ≤ R.slots)
    (g : ∀ (v : Option Value) (T' : State) (L : List Loc), Stand p l e R s m args below meth c T' (locs ++ L) (cells + rm.cells) (slots + rm.slots) → Q v T'.heap L → Go p e below K (T'.setTop (mkF m (pc + 3) Ls (v.toList ++ rest)))) : Go p e below K (T.setTop (mkF m pc Ls S)) := by
  obtain ⟨cq, q1, q2⟩ := E.cell
  subst eT
  obtain ⟨v, _, ⟨T', L', k', n'⟩, -, X', ⟨Lc, hQ, l', y', z'⟩, st⟩ := X.privateBack hx (y := y) hown (mvT hZ w1) (mvT hZ w6) (mvT hZ w5) (Cond.privateMethod_at (mvP hZ w7 (args := #[]))) (mvT hZ w4) hy (backOf (W := W) hM hZ w4 w3 hf hl) (g := mkF m pc Ls S) rfl hsz (Steps.refl _) (a := a) q1 q2 (argsL := argsL) (rest := rest) hlen hst hW hd (fun _ _ => ⟨has, rfl, hc, hs⟩)
  dsimp only [Pt.U, Pt.locs, Pt.cells, Pt.slots] at X' l' y' z' st hQ
  subst l' y' z'
  exact Go.on st (g v T' Lc X' hQ)
theorem Go.sup {own C : String} {index : Nat} {y : MethodName} {bytes : ByteArray} {maxL : Nat} {ret : Option FieldType} {rm : Room} {as' : Array Value} {argsL S : List Value} (X : Stand p l e R s m args below meth c T locs cells slots) (hx : p.tables.exec = Jvm.exec) (hZ : Z.Warmed39 s.vm) (hown : s.vm.findClass own = some m.cls)
    (w1 : (Cond.methodLink own index y).before a0 Z = true) (w2 : (Cond.sameMethod y.cls y.cls y.name y.desc).before a0 Z = true) (w6 : (Cond.instanceMethod y).before a0 Z = true) (w5 : (Cond.superclass own y.cls).before a0 Z = true) (hn : y.name ≠ "<init>") (w3 : (Cond.initialized y.cls).before a0 Z = true) (w4 : (Cond.code y bytes maxL ret).before a0 Z = true)
    {Q : Option Value → Heap → List Loc → Prop} (hM : Ctr l Z h y bytes maxL ret [] rm as' Q) (eT : T.heap = h) (E : Exa Z h a C) (hsz : Ls.size = c.maxLocals)
    (hd : decode c.code pc = .ok (.invokespecial index, 3)) (hlen : ∀ sig, parseMethodDescriptor y.desc = some sig → argsL.length = sig.parameters.length) (hst : S = argsL.reverse ++ .ref a :: rest) (has : (Value.ref a :: argsL).toArray = as')
    {W : Nat} (hW : 2 * 0 + (rest.map fun v => v.category).sum ≤ W) (hf : rm.frames + 1 ≤ R.frames) (hl : W + (maxL + 11) + rm.locals ≤ R.locals) (hc : cells + rm.cells ≤ R.cells) (hs : slots + rm.slots ≤ R.slots)
    (g : ∀ (v : Option Value) (T' : State) (L : List Loc), Stand p l e R s m args below meth c T' (locs ++ L) (cells + rm.cells) (slots + rm.slots) → Q v T'.heap L → Go p e below K (T'.setTop (mkF m (pc + 3) Ls (v.toList ++ rest)))) : Go p e below K (T.setTop (mkF m pc Ls S)) := by
  obtain ⟨v, _, ⟨T', L', k', n'⟩, -, X', ⟨Lc, hQ, l', y', z'⟩, st⟩ := superBack X hx hZ (y := y) hown w1 w2 w6 w5 hn (backOf (W := W) hM hZ w4 w3 hf hl) eT (Ins.self E) (g := mkF m pc Ls S) rfl hsz w4 (argsL := argsL) (rest := rest) hlen hst hW hd (fun _ _ => ⟨has, eT, hc, hs⟩)
  dsimp only [Pt.U, Pt.locs, Pt.cells, Pt.slots] at X' l' y' z' st hQ
  subst l' y' z'
  exact Go.on st (g v T' Lc X' hQ)
/-! arrays whose components are known -/
variable {cA : ClassId} {ty : FieldType} {z j : Int32} {vs : List Value} {dv : Value}
theorem Go.alen (X : Stand p l e R s m args below meth c T locs cells slots) (hx : p.tables.exec = Jvm.exec) (hZ : Z.Warmed39 s.vm) (eT : T.heap = h) (V : Arv Z h a cA ty z vs dv) (hd : decode c.code pc = .ok (.arraylength, 1))
    (g : Go p e below K (T.setTop (mkF m (pc + 1) Ls (.int z :: rest)))) : Go p e below K (T.setTop (mkF m pc Ls (.ref a :: rest))) := by
  obtain ⟨cl, A, -, S, N, -, -⟩ := V
  subst eT
  refine Go.by (fun t q => X.arraylength hx A.1 (State.isArrayOf_alike hZ.alike A.2.1) (g := mkF m pc Ls (.ref a :: rest)) rfl rfl hd _ q) ?_
  rw [len_of S N]
  exact g
/-- an array of which the length alone is known -/
def Lng (Z : State) (h : Heap) (a : Addr) (n : Int32) : Prop := ∃ (cl : Cell) (ty : FieldType), Arr Z h a cl ty ∧ cl.slots.size = n.toNatClampNeg ∧ ¬ n < 0
theorem Lng.ext (L : Lng Z h a z) (E : Ext h h') : Lng Z h' a z := by obtain ⟨cl, ty, A, r⟩ := L; exact ⟨cl, ty, A.ext E, r⟩
theorem Lng.lt (L : Lng Z h a z) : a < h.size := by obtain ⟨cl, ty, A, r⟩ := L; exact A.lt
theorem Lng.of {cl : Cell} (A : Arr Z h a cl ty) (q : cl.slots.size < 2 ^ 31) (e : cl.slots.size.toInt32 = z) (hz : ¬ z < 0) : Lng Z h a z := by
  refine ⟨cl, ty, A, ?_, hz⟩
  rw [← e]; simp only [Int32.toNatClampNeg, len_toInt q]; rfl
theorem Go.aln (X : Stand p l e R s m args below meth c T locs cells slots) (hx : p.tables.exec = Jvm.exec) (hZ : Z.Warmed39 s.vm) (eT : T.heap = h) (V : Lng Z h a z) (hd : decode c.code pc = .ok (.arraylength, 1))
    (g : Go p e below K (T.setTop (mkF m (pc + 1) Ls (.int z :: rest)))) : Go p e below K (T.setTop (mkF m pc Ls (.ref a :: rest))) := by
  obtain ⟨cl, ty, A, S, N⟩ := V
  subst eT
  refine Go.by (fun t q => X.arraylength hx A.1 (State.isArrayOf_alike hZ.alike A.2.1) (g := mkF m pc Ls (.ref a :: rest)) rfl rfl hd _ q) ?_
  rw [len_of S N]
  exact g
theorem bb (x : Int32) : x.toInt8.toInt32.toInt8.toInt32 = x.toInt8.toInt32 := by simp
theorem Go.bal {v : Value} (X : Stand p l e R s m args below meth c T locs cells slots) (hx : p.tables.exec = Jvm.exec) (hZ : Z.Warmed39 s.vm) (eT : T.heap = h) (V : Arv Z h a cA .byte z vs dv) (hj : ¬ j < 0 ∧ j < z) (hv : vs.getD j.toNatClampNeg dv = v) (hd : decode c.code pc = .ok (.baload, 1))
    (g : Go p e below K (T.setTop (mkF m (pc + 1) Ls (v :: rest)))) : Go p e below K (T.setTop (mkF m pc Ls (.int j :: .ref a :: rest))) := by
  obtain ⟨cl, A, -, S, N, H, -⟩ := V
  subst eT
  have hin := inb_of S hj
  exact Go.by (fun t q => X.baloadBytes hx (j := j) (v := v) A.1 (State.isArrayOf_alike hZ.alike A.2.1) A.2.2 hin (H.at hin hv) (g := mkF m pc Ls (.int j :: .ref a :: rest)) rfl rfl hd _ q) g
theorem Go.cal {v : Value} (X : Stand p l e R s m args below meth c T locs cells slots) (hx : p.tables.exec = Jvm.exec) (hZ : Z.Warmed39 s.vm) (eT : T.heap = h) (V : Arv Z h a cA .char z vs dv) (hj : ¬ j < 0 ∧ j < z) (hv : vs.getD j.toNatClampNeg dv = v) (hd : decode c.code pc = .ok (.caload, 1))
    (g : Go p e below K (T.setTop (mkF m (pc + 1) Ls (v :: rest)))) : Go p e below K (T.setTop (mkF m pc Ls (.int j :: .ref a :: rest))) := by
  obtain ⟨cl, A, -, S, N, H, -⟩ := V
  subst eT
  have hin := inb_of S hj
  exact Go.by (fun t q => X.caload hx (j := j) (v := v) A.1 (State.isArrayOf_alike hZ.alike A.2.1) A.2.2 hin (H.at hin hv) (g := mkF m pc Ls (.int j :: .ref a :: rest)) rfl rfl hd _ q) g
theorem Go.ial {v : Value} (X : Stand p l e R s m args below meth c T locs cells slots) (hx : p.tables.exec = Jvm.exec) (hZ : Z.Warmed39 s.vm) (eT : T.heap = h) (V : Arv Z h a cA .int z vs dv) (hj : ¬ j < 0 ∧ j < z) (hv : vs.getD j.toNatClampNeg dv = v) (hd : decode c.code pc = .ok (.iaload, 1))
    (g : Go p e below K (T.setTop (mkF m (pc + 1) Ls (v :: rest)))) : Go p e below K (T.setTop (mkF m pc Ls (.int j :: .ref a :: rest))) := by
  obtain ⟨cl, A, -, S, N, H, -⟩ := V
  subst eT
  have hin := inb_of S hj
  exact Go.by (fun t q => X.iaload hx (j := j) (v := v) A.1 (State.isArrayOf_alike hZ.alike A.2.1) A.2.2 hin (H.at hin hv) (g := mkF m pc Ls (.int j :: .ref a :: rest)) rfl rfl hd _ q) g
theorem Go.aal {v : Value} (X : Stand p l e R s m args below meth c T locs cells slots) (hx : p.tables.exec = Jvm.exec) (hZ : Z.Warmed39 s.vm) (eT : T.heap = h) (V : Arv Z h a cA ty z vs dv) (hty : ty.isReference = true) (hj : ¬ j < 0 ∧ j < z) (hv : vs.getD j.toNatClampNeg dv = v) (hd : decode c.code pc = .ok (.aaload, 1))
    (g : Go p e below K (T.setTop (mkF m (pc + 1) Ls (v :: rest)))) : Go p e below K (T.setTop (mkF m pc Ls (.int j :: .ref a :: rest))) := by
  obtain ⟨cl, A, -, S, N, H, -⟩ := V
  subst eT
  have hin := inb_of S hj
  exact Go.by (fun t q => X.aaload hx (j := j) (v := v) A.1 (State.isArrayOf_alike hZ.alike A.2.1) hty A.2.2 hin (H.at hin hv) (g := mkF m pc Ls (.int j :: .ref a :: rest)) rfl rfl hd _ q) g
theorem Go.bst {x : Int32} {i : Nat} (X : Stand p l e R s m args below meth c T locs cells slots) (hx : p.tables.exec = Jvm.exec) (hZ : Z.Warmed39 s.vm) (eT : T.heap = h) (V : Arv Z h a cA .byte z vs dv) (hj : ¬ j < 0 ∧ j < z) (hi : j.toNatClampNeg = i) (hl : i < vs.length) (hd : decode c.code pc = .ok (.bastore, 1))
    (g : ∀ (T' : State) (h' : Heap), Stand p l e R s m args below meth c T' (locs ++ [⟨a, j.toNatClampNeg⟩]) cells slots → T'.heap = h' → Wr h h' a j.toNatClampNeg (.int x.toInt8.toInt32) → Arv Z h' a cA .byte z (vs.set i (.int x.toInt8.toInt32)) dv → Go p e below K (T'.setTop (mkF m (pc + 1) Ls rest))) : Go p e below K (T.setTop (mkF m pc Ls (.int x :: .int j :: .ref a :: rest))) := by
  obtain ⟨cl, A, q1, S, N, H, G⟩ := V
  obtain ⟨T', h', X', e', W, st⟩ := stB X hx hZ eT A (j := j) (x := x) (inb_of S hj) (g := mkF m pc Ls (.int x :: .int j :: .ref a :: rest)) rfl rfl hd
  exact Go.by st (g T' h' X' e' W (Arv.set A q1 S N H G (fits_nar_byte _) W i hi hl))
theorem Go.cst {x : Int32} {i : Nat} (X : Stand p l e R s m args below meth c T locs cells slots) (hx : p.tables.exec = Jvm.exec) (hZ : Z.Warmed39 s.vm) (eT : T.heap = h) (V : Arv Z h a cA .char z vs dv) (hj : ¬ j < 0 ∧ j < z) (hi : j.toNatClampNeg = i) (hl : i < vs.length) (hd : decode c.code pc = .ok (.castore, 1))
    (g : ∀ (T' : State) (h' : Heap), Stand p l e R s m args below meth c T' (locs ++ [⟨a, j.toNatClampNeg⟩]) cells slots → T'.heap = h' → Wr h h' a j.toNatClampNeg (.int (nar .char x)) → Arv Z h' a cA .char z (vs.set i (.int (nar .char x))) dv → Go p e below K (T'.setTop (mkF m (pc + 1) Ls rest))) : Go p e below K (T.setTop (mkF m pc Ls (.int x :: .int j :: .ref a :: rest))) := by
  obtain ⟨cl, A, q1, S, N, H, G⟩ := V
  obtain ⟨T', h', X', e', W, st⟩ := stC X hx hZ eT A (j := j) (x := x) (inb_of S hj) (g := mkF m pc Ls (.int x :: .int j :: .ref a :: rest)) rfl rfl hd
  exact Go.by st (g T' h' X' e' W (Arv.set A q1 S N H G (fits_nar_char _) W i hi hl))
theorem Go.ist {x : Int32} {i : Nat} (X : Stand p l e R s m args below meth c T locs cells slots) (hx : p.tables.exec = Jvm.exec) (hZ : Z.Warmed39 s.vm) (eT : T.heap = h) (V : Arv Z h a cA .int z vs dv) (hj : ¬ j < 0 ∧ j < z) (hi : j.toNatClampNeg = i) (hl : i < vs.length) (hd : decode c.code pc = .ok (.iastore, 1))
    (g : ∀ (T' : State) (h' : Heap), Stand p l e R s m args below meth c T' (locs ++ [⟨a, j.toNatClampNeg⟩]) cells slots → T'.heap = h' → Wr h h' a j.toNatClampNeg (.int x) → Arv Z h' a cA .int z (vs.set i (.int x)) dv → Go p e below K (T'.setTop (mkF m (pc + 1) Ls rest))) : Go p e below K (T.setTop (mkF m pc Ls (.int x :: .int j :: .ref a :: rest))) := by
  obtain ⟨cl, A, q1, S, N, H, G⟩ := V
  obtain ⟨T', h', X', e', W, st⟩ := stI X hx hZ eT A (j := j) (x := x) (inb_of S hj) (g := mkF m pc Ls (.int x :: .int j :: .ref a :: rest)) rfl rfl hd
  exact Go.by st (g T' h' X' e' W (Arv.set A q1 S N H G rfl W i hi hl))
/-! from the case's words -/
theorem sta_exa {C f d K : String} (hx : (Cond.exactly (Term.static C f d) K).value args s none s [] = some true) (w1 : (Cond.initialized C).before args s = true) (w2 : (Cond.laysStatic C f d).before args s = true) : ∃ a, (Term.static C f d).eval args s none [] s = some (.ref a) ∧ Sta s s.heap C f d (.ref a) ∧ Exa s s.heap a K := by
  obtain ⟨a, ev⟩ := exa_v hx
  exact ⟨a, ev, Sta.start ev (Or.inr ⟨w1, w2⟩), Exa.start ev hx⟩
theorem fld_int {t : Term} {C f d : String} {z : Int32} (ev : t.eval args s none [] s = some (.ref a)) (hx : (Cond.eq (Term.field t C f d) (Term.int z)).value args s none s [] = some true) : Fld s s.heap a C f d (.int z) := by
  obtain ⟨x, y, e1, e2, k1, k2⟩ := cmp_v (Or.inl hx)
  have e3 : y = .int z := by rw [Term.int_eval] at e2; exact (Option.some.inj e2).symm
  subst e3
  obtain ⟨q, rfl⟩ : ∃ q, x = .int q := k2
  have e4 : q = z := by simpa [Cond.value, e1, e2] using hx
  subst e4
  rw [fld_at ev] at e1
  exact Fld.start e1
theorem eq_int {t : Term} {x z : Int32} (ev : t.eval args s none [] s = some (.int x)) (h : (Cond.eq t (Term.int z)).before args s = true) : x = z := by
  have q := Cond.before_iff.mp h
  simpa [Cond.value, ev, Term.int_eval] using q
theorem fld_ref {t : Term} {C f d : String} (ev : t.eval args s none [] s = some (.ref a)) (ev2 : (Term.field t C f d).eval args s none [] s = some (.ref b)) : Fld s s.heap a C f d (.ref b) := by
  rw [fld_at ev] at ev2; exact Fld.start ev2
theorem fld_null {t : Term} {C f d : String} (ev : t.eval args s none [] s = some (.ref a)) (hx : (Cond.eq (Term.field t C f d) Term.null).value args s none s [] = some true) : Fld s s.heap a C f d .null := by
  have q := null_v hx
  rw [fld_at ev] at q; exact Fld.start q
theorem fld_same {t u : Term} {C f d : String} (ev : t.eval args s none [] s = some (.ref a)) (ev2 : u.eval args s none [] s = some (.ref b)) (hx : (Cond.eq (Term.field t C f d) u).value args s none s [] = some true) : Fld s s.heap a C f d (.ref b) := by
  obtain ⟨x, y, e1, e2, k1, k2⟩ := cmp_v (Or.inl hx)
  cases ev2.symm.trans e2
  have hr : x.isRef = true := by
    have := k2
    simp [Kin] at this
    exact this.2
  rw [eq_R e1 e2 hr rfl] at hx
  have e3 : x = .ref b := by simpa using hx
  subst e3
  exact fld_ref ev e1
theorem elem_int {t : Term} {i v : Int32} {cl : Cell} {ty : FieldType} (ev : t.eval args s none [] s = some (.ref a)) (A : Arr s s.heap a cl ty) (hx : (Cond.eq (Term.elem t (Term.int i)) (Term.int v)).value args s none s [] = some true) : cl.slots[i.toNatClampNeg]? = some (.int v) := by
  obtain ⟨x, y, e1, e2, k1, k2⟩ := cmp_v (Or.inl hx)
  have e3 : y = .int v := by rw [Term.int_eval] at e2; exact (Option.some.inj e2).symm
  subst e3
  obtain ⟨q, rfl⟩ : ∃ q, x = .int q := k2
  have e4 : q = v := eq_int e1 (Cond.before_iff.mpr hx)
  subst e4
  exact (elem_in e1 ev (Term.int_eval _) A.1).2
theorem sta_int {C f d : String} (h0 : (Cond.initializedFor C f d).before args s = true) (h1 : (Cond.isInt (Term.static C f d)).before args s = true) : ∃ x, (Term.static C f d).eval args s none [] s = some (.int x) ∧ Sta s s.heap C f d (.int x) := by
  obtain ⟨x, ev⟩ := is_v (Cond.before_iff.mp h1)
  exact ⟨x, ev, Sta.start ev (Or.inl h0)⟩
theorem sta_ref {C f d : String} (h0 : (Cond.initializedFor C f d).before args s = true) (h1 : (Cond.isRef (Term.static C f d)).before args s = true) : ∃ x, (Term.static C f d).eval args s none [] s = some x ∧ x.isRef = true ∧ Sta s s.heap C f d x := by
  obtain ⟨x, ev, hr⟩ := isR_v (Cond.before_iff.mp h1)
  exact ⟨x, ev, hr, Sta.start ev (Or.inl h0)⟩
theorem ne_int {t : Term} {x z : Int32} (ev : t.eval args s none [] s = some (.int x)) (h : (Cond.not (Cond.eq t (Term.int z))).before args s = true) : ¬ x = z := by
  have q := not_v (Cond.before_iff.mp h)
  intro e; subst e
  rw [eq_i ev (Term.int_eval _) rfl] at q
  cases q
/-! a class whose superclasses are named is not one that can be instantiated and isn't among them -/
theorem ns_root {O D : String} {nn : Nat} (w : (Cond.noSuperclass O).before a0 Z = true) (wk : (Cond.instantiable D nn).before a0 Z = true) (hn : O ≠ D) : NS Z O D := by
  obtain ⟨c1, k1, q1, q2, q3, -, -⟩ := Cond.noSuperclass_spec w
  obtain ⟨t, -, g1, -⟩ := Cond.instantiable_spec wk
  refine ⟨c1, t, q1, g1, fun fuel => ?_⟩
  have ne := ids_ne q1 g1 hn
  cases fuel <;> simp [Vm.isSubclassAux, ne, q2, q3]
theorem ns_no {C S D : String} {nn : Nat} (w : (Cond.superclass C S).before a0 Z = true) (wk : (Cond.instantiable D nn).before a0 Z = true) (n : NS Z C D) (hn : C ≠ D) : ∃ c t, Z.vm.findClass C = some c ∧ Z.vm.findClass D = some t ∧ Z.vm.assignable c t = false := by
  obtain ⟨c1, t, q0, g0, n3⟩ := n
  obtain ⟨p1, k1, kp, q1, q2, q3, q4, q5, -, q7⟩ := Cond.superclass_spec q0 w
  obtain ⟨t', k2, g1, g2, g3, g4, -⟩ := Cond.instantiable_spec wk
  cases g0.symm.trans g1
  have ne := ids_ne q0 g0 hn
  have g5 : k2.isInterface = false := by simpa using (Bool.or_eq_false_iff.mp g4).1
  refine ⟨c1, t, q0, g0, ?_⟩
  show Z.vm.assignableAux (255 + 1) c1 t = false
  simp [Vm.assignableAux, ne, q2, g2, q5, g3, g5, Vm.isSubclass, n3]
end Own
end Jvm.RoadKit
namespace Jvm.RoadKit
open Sem ClassFile Op Lib Jvm.Stand Jvm.Free Jvm.LawKit
section OwnSteps
variable {p : Program} {l : Launch} {e : Env} {R : Room} {s : State} {m : MethodId} {args : Array Value} {below : List Frame} {meth : Method} {c : Code} {T : State} {locs : List Loc} {cells slots : Nat} {K : State → Outcome → Prop} {pc q : Nat} {Ls l' : Array Slot} {S : List Value}
theorem Go.iloadN {k : Fin 4} {v : Int32} (X : Stand p l e R s m args below meth c T locs cells slots) (hx : p.tables.exec = Jvm.exec) (hd : decode c.code pc = .ok (.iload_n k, 1)) (hl : Ls[k.val]? = some (.val (.int v))) (hp : pc + 1 = q) (g : Go p e below K (T.setTop (mkF m q Ls (.int v :: S)))) : Go p e below K (T.setTop (mkF m pc Ls S)) := by
  subst hp
  exact Go.by (fun t z => XS.iloadN X.here hx rfl hd hl z) g
theorem Go.iload {k : Nat} {v : Int32} (X : Stand p l e R s m args below meth c T locs cells slots) (hx : p.tables.exec = Jvm.exec) (hd : decode c.code pc = .ok (.iload k, 2)) (hl : Ls[k]? = some (.val (.int v))) (hp : pc + 2 = q) (g : Go p e below K (T.setTop (mkF m q Ls (.int v :: S)))) : Go p e below K (T.setTop (mkF m pc Ls S)) := by
  subst hp
  exact Go.by (fun t z => XS.iload X.here hx rfl hd hl z) g
theorem Go.istoreN {k : Fin 4} {v : Int32} (X : Stand p l e R s m args below meth c T locs cells slots) (hx : p.tables.exec = Jvm.exec) (hd : decode c.code pc = .ok (.istore_n k, 1)) (hl : storeLocals Ls k.val (.int v) = some l') (hp : pc + 1 = q) (g : Go p e below K (T.setTop (mkF m q l' S))) : Go p e below K (T.setTop (mkF m pc Ls (.int v :: S))) := by
  subst hp
  exact Go.by (fun t z => XS.istoreN X.here hx rfl hd rfl hl z) g
theorem Go.istore {k : Nat} {v : Int32} (X : Stand p l e R s m args below meth c T locs cells slots) (hx : p.tables.exec = Jvm.exec) (hd : decode c.code pc = .ok (.istore k, 2)) (hl : storeLocals Ls k (.int v) = some l') (hp : pc + 2 = q) (g : Go p e below K (T.setTop (mkF m q l' S))) : Go p e below K (T.setTop (mkF m pc Ls (.int v :: S))) := by
  subst hp
  exact Go.by (fun t z => XS.istore X.here hx rfl hd rfl hl z) g
theorem Go.lloadN {k : Fin 4} {v : Int64} (X : Stand p l e R s m args below meth c T locs cells slots) (hx : p.tables.exec = Jvm.exec) (hd : decode c.code pc = .ok (.lload_n k, 1)) (hl : Ls[k.val]? = some (.val (.long v))) (hp : pc + 1 = q) (g : Go p e below K (T.setTop (mkF m q Ls (.long v :: S)))) : Go p e below K (T.setTop (mkF m pc Ls S)) := by
  subst hp
  exact Go.by (fun t z => XS.lloadN X.here hx rfl hd hl z) g
theorem Go.lload {k : Nat} {v : Int64} (X : Stand p l e R s m args below meth c T locs cells slots) (hx : p.tables.exec = Jvm.exec) (hd : decode c.code pc = .ok (.lload k, 2)) (hl : Ls[k]? = some (.val (.long v))) (hp : pc + 2 = q) (g : Go p e below K (T.setTop (mkF m q Ls (.long v :: S)))) : Go p e below K (T.setTop (mkF m pc Ls S)) := by
  subst hp
  exact Go.by (fun t z => XS.lload X.here hx rfl hd hl z) g
theorem Go.lstoreN {k : Fin 4} {v : Int64} (X : Stand p l e R s m args below meth c T locs cells slots) (hx : p.tables.exec = Jvm.exec) (hd : decode c.code pc = .ok (.lstore_n k, 1)) (hl : storeLocals Ls k.val (.long v) = some l') (hp : pc + 1 = q) (g : Go p e below K (T.setTop (mkF m q l' S))) : Go p e below K (T.setTop (mkF m pc Ls (.long v :: S))) := by
  subst hp
  exact Go.by (fun t z => XS.lstoreN X.here hx rfl hd rfl hl z) g
theorem Go.lstore {k : Nat} {v : Int64} (X : Stand p l e R s m args below meth c T locs cells slots) (hx : p.tables.exec = Jvm.exec) (hd : decode c.code pc = .ok (.lstore k, 2)) (hl : storeLocals Ls k (.long v) = some l') (hp : pc + 2 = q) (g : Go p e below K (T.setTop (mkF m q l' S))) : Go p e below K (T.setTop (mkF m pc Ls (.long v :: S))) := by
  subst hp
  exact Go.by (fun t z => XS.lstore X.here hx rfl hd rfl hl z) g
theorem Go.aloadN {k : Fin 4} {v : Value} (X : Stand p l e R s m args below meth c T locs cells slots) (hx : p.tables.exec = Jvm.exec) (hd : decode c.code pc = .ok (.aload_n k, 1)) (hl : Ls[k.val]? = some (.val v)) (hv : v.isRef = true) (hp : pc + 1 = q) (g : Go p e below K (T.setTop (mkF m q Ls (v :: S)))) : Go p e below K (T.setTop (mkF m pc Ls S)) := by
  subst hp
  exact Go.by (fun t z => XS.aloadN X.here hx rfl hd hl hv z) g
theorem Go.aload {k : Nat} {v : Value} (X : Stand p l e R s m args below meth c T locs cells slots) (hx : p.tables.exec = Jvm.exec) (hd : decode c.code pc = .ok (.aload k, 2)) (hl : Ls[k]? = some (.val v)) (hv : v.isRef = true) (hp : pc + 2 = q) (g : Go p e below K (T.setTop (mkF m q Ls (v :: S)))) : Go p e below K (T.setTop (mkF m pc Ls S)) := by
  subst hp
  exact Go.by (fun t z => XS.aload X.here hx rfl hd hl hv z) g
theorem Go.astoreN {k : Fin 4} {v : Value} (X : Stand p l e R s m args below meth c T locs cells slots) (hx : p.tables.exec = Jvm.exec) (hd : decode c.code pc = .ok (.astore_n k, 1)) (hv : v.isRef = true) (hl : storeLocals Ls k.val v = some l') (hp : pc + 1 = q) (g : Go p e below K (T.setTop (mkF m q l' S))) : Go p e below K (T.setTop (mkF m pc Ls (v :: S))) := by
  subst hp
  exact Go.by (fun t z => XS.astoreN X.here hx rfl hd rfl hv hl z) g
theorem Go.astore {k : Nat} {v : Value} (X : Stand p l e R s m args below meth c T locs cells slots) (hx : p.tables.exec = Jvm.exec) (hd : decode c.code pc = .ok (.astore k, 2)) (hv : v.isRef = true) (hl : storeLocals Ls k v = some l') (hp : pc + 2 = q) (g : Go p e below K (T.setTop (mkF m q l' S))) : Go p e below K (T.setTop (mkF m pc Ls (v :: S))) := by
  subst hp
  exact Go.by (fun t z => XS.astore X.here hx rfl hd rfl hv hl z) g
theorem Go.iconst {i : Int} {r : Int32} (X : Stand p l e R s m args below meth c T locs cells slots) (hx : p.tables.exec = Jvm.exec) (hd : decode c.code pc = .ok (.iconst i, 1)) (hr : Int32.ofInt i = r) (hp : pc + 1 = q) (g : Go p e below K (T.setTop (mkF m q Ls (.int r :: S)))) : Go p e below K (T.setTop (mkF m pc Ls S)) := by
  subst hp hr
  exact Go.by (fun t z => XS.iconst X.here hx rfl hd z) g
theorem Go.bipush {i : Int} {r : Int32} (X : Stand p l e R s m args below meth c T locs cells slots) (hx : p.tables.exec = Jvm.exec) (hd : decode c.code pc = .ok (.bipush i, 2)) (hr : (Int8.ofInt i).toInt32 = r) (hp : pc + 2 = q) (g : Go p e below K (T.setTop (mkF m q Ls (.int r :: S)))) : Go p e below K (T.setTop (mkF m pc Ls S)) := by
  subst hp hr
  exact Go.by (fun t z => XS.bipush X.here hx rfl hd z) g
theorem Go.sipush {i : Int} {r : Int32} (X : Stand p l e R s m args below meth c T locs cells slots) (hx : p.tables.exec = Jvm.exec) (hd : decode c.code pc = .ok (.sipush i, 3)) (hr : (Int16.ofInt i).toInt32 = r) (hp : pc + 3 = q) (g : Go p e below K (T.setTop (mkF m q Ls (.int r :: S)))) : Go p e below K (T.setTop (mkF m pc Ls S)) := by
  subst hp hr
  exact Go.by (fun t z => XS.sipush X.here hx rfl hd z) g
theorem Go.lconst {k : Fin 2} {r : Int64} (X : Stand p l e R s m args below meth c T locs cells slots) (hx : p.tables.exec = Jvm.exec) (hd : decode c.code pc = .ok (.lconst k, 1)) (hr : Int64.ofNat k = r) (hp : pc + 1 = q) (g : Go p e below K (T.setTop (mkF m q Ls (.long r :: S)))) : Go p e below K (T.setTop (mkF m pc Ls S)) := by
  subst hp hr
  exact Go.by (fun t z => XS.lconst X.here hx rfl hd z) g
theorem Go.aconst_null  (X : Stand p l e R s m args below meth c T locs cells slots) (hx : p.tables.exec = Jvm.exec) (hd : decode c.code pc = .ok (.aconst_null, 1)) (hp : pc + 1 = q) (g : Go p e below K (T.setTop (mkF m q Ls (.null :: S)))) : Go p e below K (T.setTop (mkF m pc Ls S)) := by
  subst hp
  exact Go.by (fun t z => XS.aconstNull X.here hx rfl hd z) g
theorem Go.iadd {x y r : Int32} (X : Stand p l e R s m args below meth c T locs cells slots) (hx : p.tables.exec = Jvm.exec) (hd : decode c.code pc = .ok (.iadd, 1)) (hr : x + y = r) (hp : pc + 1 = q) (g : Go p e below K (T.setTop (mkF m q Ls (.int r :: S)))) : Go p e below K (T.setTop (mkF m pc Ls (.int y :: .int x :: S))) := by
  subst hp hr
  exact Go.by (fun t z => XS.iadd X.here hx rfl hd rfl z) g
theorem Go.ladd {x y r : Int64} (X : Stand p l e R s m args below meth c T locs cells slots) (hx : p.tables.exec = Jvm.exec) (hd : decode c.code pc = .ok (.ladd, 1)) (hr : x + y = r) (hp : pc + 1 = q) (g : Go p e below K (T.setTop (mkF m q Ls (.long r :: S)))) : Go p e below K (T.setTop (mkF m pc Ls (.long y :: .long x :: S))) := by
  subst hp hr
  exact Go.by (fun t z => XS.ladd X.here hx rfl hd rfl z) g
theorem Go.isub {x y r : Int32} (X : Stand p l e R s m args below meth c T locs cells slots) (hx : p.tables.exec = Jvm.exec) (hd : decode c.code pc = .ok (.isub, 1)) (hr : x - y = r) (hp : pc + 1 = q) (g : Go p e below K (T.setTop (mkF m q Ls (.int r :: S)))) : Go p e below K (T.setTop (mkF m pc Ls (.int y :: .int x :: S))) := by
  subst hp hr
  exact Go.by (fun t z => XS.isub X.here hx rfl hd rfl z) g
theorem Go.lsub {x y r : Int64} (X : Stand p l e R s m args below meth c T locs cells slots) (hx : p.tables.exec = Jvm.exec) (hd : decode c.code pc = .ok (.lsub, 1)) (hr : x - y = r) (hp : pc + 1 = q) (g : Go p e below K (T.setTop (mkF m q Ls (.long r :: S)))) : Go p e below K (T.setTop (mkF m pc Ls (.long y :: .long x :: S))) := by
  subst hp hr
  exact Go.by (fun t z => XS.lsub X.here hx rfl hd rfl z) g
theorem Go.imul {x y r : Int32} (X : Stand p l e R s m args below meth c T locs cells slots) (hx : p.tables.exec = Jvm.exec) (hd : decode c.code pc = .ok (.imul, 1)) (hr : x * y = r) (hp : pc + 1 = q) (g : Go p e below K (T.setTop (mkF m q Ls (.int r :: S)))) : Go p e below K (T.setTop (mkF m pc Ls (.int y :: .int x :: S))) := by
  subst hp hr
  exact Go.by (fun t z => XS.imul X.here hx rfl hd rfl z) g
theorem Go.lmul {x y r : Int64} (X : Stand p l e R s m args below meth c T locs cells slots) (hx : p.tables.exec = Jvm.exec) (hd : decode c.code pc = .ok (.lmul, 1)) (hr : x * y = r) (hp : pc + 1 = q) (g : Go p e below K (T.setTop (mkF m q Ls (.long r :: S)))) : Go p e below K (T.setTop (mkF m pc Ls (.long y :: .long x :: S))) := by
  subst hp hr
  exact Go.by (fun t z => XS.lmul X.here hx rfl hd rfl z) g
theorem Go.iand {x y r : Int32} (X : Stand p l e R s m args below meth c T locs cells slots) (hx : p.tables.exec = Jvm.exec) (hd : decode c.code pc = .ok (.iand, 1)) (hr : x &&& y = r) (hp : pc + 1 = q) (g : Go p e below K (T.setTop (mkF m q Ls (.int r :: S)))) : Go p e below K (T.setTop (mkF m pc Ls (.int y :: .int x :: S))) := by
  subst hp hr
  exact Go.by (fun t z => XS.iand X.here hx rfl hd rfl z) g
theorem Go.land {x y r : Int64} (X : Stand p l e R s m args below meth c T locs cells slots) (hx : p.tables.exec = Jvm.exec) (hd : decode c.code pc = .ok (.land, 1)) (hr : x &&& y = r) (hp : pc + 1 = q) (g : Go p e below K (T.setTop (mkF m q Ls (.long r :: S)))) : Go p e below K (T.setTop (mkF m pc Ls (.long y :: .long x :: S))) := by
  subst hp hr
  exact Go.by (fun t z => XS.land X.here hx rfl hd rfl z) g
theorem Go.ior {x y r : Int32} (X : Stand p l e R s m args below meth c T locs cells slots) (hx : p.tables.exec = Jvm.exec) (hd : decode c.code pc = .ok (.ior, 1)) (hr : x ||| y = r) (hp : pc + 1 = q) (g : Go p e below K (T.setTop (mkF m q Ls (.int r :: S)))) : Go p e below K (T.setTop (mkF m pc Ls (.int y :: .int x :: S))) := by
  subst hp hr
  exact Go.by (fun t z => XS.ior X.here hx rfl hd rfl z) g
theorem Go.lor {x y r : Int64} (X : Stand p l e R s m args below meth c T locs cells slots) (hx : p.tables.exec = Jvm.exec) (hd : decode c.code pc = .ok (.lor, 1)) (hr : x ||| y = r) (hp : pc + 1 = q) (g : Go p e below K (T.setTop (mkF m q Ls (.long r :: S)))) : Go p e below K (T.setTop (mkF m pc Ls (.long y :: .long x :: S))) := by
  subst hp hr
  exact Go.by (fun t z => XS.lor X.here hx rfl hd rfl z) g
theorem Go.ixor {x y r : Int32} (X : Stand p l e R s m args below meth c T locs cells slots) (hx : p.tables.exec = Jvm.exec) (hd : decode c.code pc = .ok (.ixor, 1)) (hr : x ^^^ y = r) (hp : pc + 1 = q) (g : Go p e below K (T.setTop (mkF m q Ls (.int r :: S)))) : Go p e below K (T.setTop (mkF m pc Ls (.int y :: .int x :: S))) := by
  subst hp hr
  exact Go.by (fun t z => XS.ixor X.here hx rfl hd rfl z) g
theorem Go.lxor {x y r : Int64} (X : Stand p l e R s m args below meth c T locs cells slots) (hx : p.tables.exec = Jvm.exec) (hd : decode c.code pc = .ok (.lxor, 1)) (hr : x ^^^ y = r) (hp : pc + 1 = q) (g : Go p e below K (T.setTop (mkF m q Ls (.long r :: S)))) : Go p e below K (T.setTop (mkF m pc Ls (.long y :: .long x :: S))) := by
  subst hp hr
  exact Go.by (fun t z => XS.lxor X.here hx rfl hd rfl z) g
theorem Go.idiv {x y r : Int32} (X : Stand p l e R s m args below meth c T locs cells slots) (hx : p.tables.exec = Jvm.exec) (hd : decode c.code pc = .ok (.idiv, 1)) (hy : y ≠ 0) (hr : x / y = r) (hp : pc + 1 = q) (g : Go p e below K (T.setTop (mkF m q Ls (.int r :: S)))) : Go p e below K (T.setTop (mkF m pc Ls (.int y :: .int x :: S))) := by
  subst hp hr
  exact Go.by (fun t z => XS.idiv X.here hx rfl hd rfl hy z) g
theorem Go.ineg {x r : Int32} (X : Stand p l e R s m args below meth c T locs cells slots) (hx : p.tables.exec = Jvm.exec) (hd : decode c.code pc = .ok (.ineg, 1)) (hr : -x = r) (hp : pc + 1 = q) (g : Go p e below K (T.setTop (mkF m q Ls (.int r :: S)))) : Go p e below K (T.setTop (mkF m pc Ls (.int x :: S))) := by
  subst hp hr
  exact Go.by (fun t z => XS.ineg X.here hx rfl hd rfl z) g
theorem Go.ldiv {x y r : Int64} (X : Stand p l e R s m args below meth c T locs cells slots) (hx : p.tables.exec = Jvm.exec) (hd : decode c.code pc = .ok (.ldiv, 1)) (hy : y ≠ 0) (hr : x / y = r) (hp : pc + 1 = q) (g : Go p e below K (T.setTop (mkF m q Ls (.long r :: S)))) : Go p e below K (T.setTop (mkF m pc Ls (.long y :: .long x :: S))) := by
  subst hp hr
  exact Go.by (fun t z => XS.ldiv X.here hx rfl hd rfl hy z) g
theorem Go.lneg {x r : Int64} (X : Stand p l e R s m args below meth c T locs cells slots) (hx : p.tables.exec = Jvm.exec) (hd : decode c.code pc = .ok (.lneg, 1)) (hr : -x = r) (hp : pc + 1 = q) (g : Go p e below K (T.setTop (mkF m q Ls (.long r :: S)))) : Go p e below K (T.setTop (mkF m pc Ls (.long x :: S))) := by
  subst hp hr
  exact Go.by (fun t z => XS.lneg X.here hx rfl hd rfl z) g
theorem Go.irem {x y r : Int32} (X : Stand p l e R s m args below meth c T locs cells slots) (hx : p.tables.exec = Jvm.exec) (hd : decode c.code pc = .ok (.irem, 1)) (hy : y ≠ 0) (hr : x % y = r) (hp : pc + 1 = q) (g : Go p e below K (T.setTop (mkF m q Ls (.int r :: S)))) : Go p e below K (T.setTop (mkF m pc Ls (.int y :: .int x :: S))) := by
  subst hp hr
  exact Go.by (fun t z => iremM X hx (g := mkF m pc Ls (.int y :: .int x :: S)) rfl hd rfl hy z) g
theorem Go.lrem {x y r : Int64} (X : Stand p l e R s m args below meth c T locs cells slots) (hx : p.tables.exec = Jvm.exec) (hd : decode c.code pc = .ok (.lrem, 1)) (hy : y ≠ 0) (hr : x - (x / y) * y = r) (hp : pc + 1 = q) (g : Go p e below K (T.setTop (mkF m q Ls (.long r :: S)))) : Go p e below K (T.setTop (mkF m pc Ls (.long y :: .long x :: S))) := by
  subst hp hr
  exact Go.by (fun t z => XS.lrem X.here hx rfl hd rfl hy z) g
theorem Go.ishl {x y r : Int32} (X : Stand p l e R s m args below meth c T locs cells slots) (hx : p.tables.exec = Jvm.exec) (hd : decode c.code pc = .ok (.ishl, 1)) (hr : x <<< (y &&& 31) = r) (hp : pc + 1 = q) (g : Go p e below K (T.setTop (mkF m q Ls (.int r :: S)))) : Go p e below K (T.setTop (mkF m pc Ls (.int y :: .int x :: S))) := by
  subst hp hr
  exact Go.by (fun t z => XS.ishl X.here hx rfl hd rfl z) g
theorem Go.ishr {x y r : Int32} (X : Stand p l e R s m args below meth c T locs cells slots) (hx : p.tables.exec = Jvm.exec) (hd : decode c.code pc = .ok (.ishr, 1)) (hr : x >>> (y &&& 31) = r) (hp : pc + 1 = q) (g : Go p e below K (T.setTop (mkF m q Ls (.int r :: S)))) : Go p e below K (T.setTop (mkF m pc Ls (.int y :: .int x :: S))) := by
  subst hp hr
  exact Go.by (fun t z => XS.ishr X.here hx rfl hd rfl z) g
theorem Go.iushr {x y r : Int32} (X : Stand p l e R s m args below meth c T locs cells slots) (hx : p.tables.exec = Jvm.exec) (hd : decode c.code pc = .ok (.iushr, 1)) (hr : (x.toUInt32 >>> (y &&& 31).toUInt32).toInt32 = r) (hp : pc + 1 = q) (g : Go p e below K (T.setTop (mkF m q Ls (.int r :: S)))) : Go p e below K (T.setTop (mkF m pc Ls (.int y :: .int x :: S))) := by
  subst hp hr
  exact Go.by (fun t z => XS.iushr X.here hx rfl hd rfl z) g
theorem Go.lshl {x : Int64} {y : Int32} {r : Int64} (X : Stand p l e R s m args below meth c T locs cells slots) (hx : p.tables.exec = Jvm.exec) (hd : decode c.code pc = .ok (.lshl, 1)) (hr : x <<< (y &&& 0x3f).toInt64 = r) (hp : pc + 1 = q) (g : Go p e below K (T.setTop (mkF m q Ls (.long r :: S)))) : Go p e below K (T.setTop (mkF m pc Ls (.int y :: .long x :: S))) := by
  subst hp hr
  exact Go.by (fun t z => XS.lshl X.here hx rfl hd rfl z) g
theorem Go.lshr {x : Int64} {y : Int32} {r : Int64} (X : Stand p l e R s m args below meth c T locs cells slots) (hx : p.tables.exec = Jvm.exec) (hd : decode c.code pc = .ok (.lshr, 1)) (hr : x >>> (y &&& 0x3f).toInt64 = r) (hp : pc + 1 = q) (g : Go p e below K (T.setTop (mkF m q Ls (.long r :: S)))) : Go p e below K (T.setTop (mkF m pc Ls (.int y :: .long x :: S))) := by
  subst hp hr
  exact Go.by (fun t z => XS.lshr X.here hx rfl hd rfl z) g
theorem Go.lushr {x : Int64} {y : Int32} {r : Int64} (X : Stand p l e R s m args below meth c T locs cells slots) (hx : p.tables.exec = Jvm.exec) (hd : decode c.code pc = .ok (.lushr, 1)) (hr : (x.toUInt64 >>> (y &&& 0x3f).toInt64.toUInt64).toInt64 = r) (hp : pc + 1 = q) (g : Go p e below K (T.setTop (mkF m q Ls (.long r :: S)))) : Go p e below K (T.setTop (mkF m pc Ls (.int y :: .long x :: S))) := by
  subst hp hr
  exact Go.by (fun t z => XS.lushr X.here hx rfl hd rfl z) g
theorem Go.i2b {x : Int32} {r : Int32} (X : Stand p l e R s m args below meth c T locs cells slots) (hx : p.tables.exec = Jvm.exec) (hd : decode c.code pc = .ok (.i2b, 1)) (hr : x.toInt8.toInt32 = r) (hp : pc + 1 = q) (g : Go p e below K (T.setTop (mkF m q Ls (.int r :: S)))) : Go p e below K (T.setTop (mkF m pc Ls (.int x :: S))) := by
  subst hp hr
  exact Go.by (fun t z => XS.i2b X.here hx rfl hd rfl z) g
theorem Go.i2c {x : Int32} {r : Int32} (X : Stand p l e R s m args below meth c T locs cells slots) (hx : p.tables.exec = Jvm.exec) (hd : decode c.code pc = .ok (.i2c, 1)) (hr : x.toUInt32.toUInt16.toUInt32.toInt32 = r) (hp : pc + 1 = q) (g : Go p e below K (T.setTop (mkF m q Ls (.int r :: S)))) : Go p e below K (T.setTop (mkF m pc Ls (.int x :: S))) := by
  subst hp hr
  exact Go.by (fun t z => XS.i2c X.here hx rfl hd rfl z) g
theorem Go.i2s {x : Int32} {r : Int32} (X : Stand p l e R s m args below meth c T locs cells slots) (hx : p.tables.exec = Jvm.exec) (hd : decode c.code pc = .ok (.i2s, 1)) (hr : x.toInt16.toInt32 = r) (hp : pc + 1 = q) (g : Go p e below K (T.setTop (mkF m q Ls (.int r :: S)))) : Go p e below K (T.setTop (mkF m pc Ls (.int x :: S))) := by
  subst hp hr
  exact Go.by (fun t z => XS.i2s X.here hx rfl hd rfl z) g
theorem Go.i2l {x : Int32} {r : Int64} (X : Stand p l e R s m args below meth c T locs cells slots) (hx : p.tables.exec = Jvm.exec) (hd : decode c.code pc = .ok (.i2l, 1)) (hr : x.toInt64 = r) (hp : pc + 1 = q) (g : Go p e below K (T.setTop (mkF m q Ls (.long r :: S)))) : Go p e below K (T.setTop (mkF m pc Ls (.int x :: S))) := by
  subst hp hr
  exact Go.by (fun t z => XS.i2l X.here hx rfl hd rfl z) g
theorem Go.l2i {x : Int64} {r : Int32} (X : Stand p l e R s m args below meth c T locs cells slots) (hx : p.tables.exec = Jvm.exec) (hd : decode c.code pc = .ok (.l2i, 1)) (hr : x.toInt32 = r) (hp : pc + 1 = q) (g : Go p e below K (T.setTop (mkF m q Ls (.int r :: S)))) : Go p e below K (T.setTop (mkF m pc Ls (.long x :: S))) := by
  subst hp hr
  exact Go.by (fun t z => XS.l2i X.here hx rfl hd rfl z) g
theorem Go.lcmp {x y : Int64} {r : Int32} (X : Stand p l e R s m args below meth c T locs cells slots) (hx : p.tables.exec = Jvm.exec) (hd : decode c.code pc = .ok (.lcmp, 1)) (hr : Jvm.Free.XT.cmpL x y = r) (hp : pc + 1 = q) (g : Go p e below K (T.setTop (mkF m q Ls (.int r :: S)))) : Go p e below K (T.setTop (mkF m pc Ls (.long y :: .long x :: S))) := by
  subst hp hr
  exact Go.by (fun t z => XS.lcmp X.here hx rfl hd rfl z) g
theorem Go.iinc {k : Nat} {cst : Int} {x r : Int32} (X : Stand p l e R s m args below meth c T locs cells slots) (hx : p.tables.exec = Jvm.exec) (hd : decode c.code pc = .ok (.iinc k cst, 3)) (hl : Ls[k]? = some (.val (.int x))) (hr : x + Int32.ofInt cst = r) (hl' : storeLocals Ls k (.int r) = some l') (hp : pc + 3 = q) (g : Go p e below K (T.setTop (mkF m q l' S))) : Go p e below K (T.setTop (mkF m pc Ls S)) := by
  subst hp hr
  exact Go.by (fun t z => XS.iinc X.here hx rfl hd hl hl' z) g
theorem Go.dup {x : Value} (X : Stand p l e R s m args below meth c T locs cells slots) (hx : p.tables.exec = Jvm.exec) (hd : decode c.code pc = .ok (.dup, 1)) (hc : x.category = 1) (hp : pc + 1 = q) (g : Go p e below K (T.setTop (mkF m q Ls (x :: x :: S)))) : Go p e below K (T.setTop (mkF m pc Ls (x :: S))) := by
  subst hp
  exact Go.by (fun t z => XS.dup X.here hx rfl hd rfl hc z) g
theorem Go.dup_x1 {x y : Value} (X : Stand p l e R s m args below meth c T locs cells slots) (hx : p.tables.exec = Jvm.exec) (hd : decode c.code pc = .ok (.dup_x1, 1)) (hc : x.category = 1) (hc2 : y.category = 1) (hp : pc + 1 = q) (g : Go p e below K (T.setTop (mkF m q Ls (x :: y :: x :: S)))) : Go p e below K (T.setTop (mkF m pc Ls (x :: y :: S))) := by
  subst hp
  exact Go.by (fun t z => XS.dupX1 X.here hx rfl hd rfl hc hc2 z) g
theorem Go.swap {x y : Value} (X : Stand p l e R s m args below meth c T locs cells slots) (hx : p.tables.exec = Jvm.exec) (hd : decode c.code pc = .ok (.swap, 1)) (hc : x.category = 1) (hc2 : y.category = 1) (hp : pc + 1 = q) (g : Go p e below K (T.setTop (mkF m q Ls (y :: x :: S)))) : Go p e below K (T.setTop (mkF m pc Ls (x :: y :: S))) := by
  subst hp
  exact Go.by (fun t z => XS.swap X.here hx rfl hd rfl hc hc2 z) g
theorem Go.pop {x : Value} (X : Stand p l e R s m args below meth c T locs cells slots) (hx : p.tables.exec = Jvm.exec) (hd : decode c.code pc = .ok (.pop, 1)) (hc : x.category = 1) (hp : pc + 1 = q) (g : Go p e below K (T.setTop (mkF m q Ls S))) : Go p e below K (T.setTop (mkF m pc Ls (x :: S))) := by
  subst hp
  exact Go.by (fun t z => XS.pop X.here hx rfl hd rfl hc z) g
theorem Go.goto  {o : Int} (X : Stand p l e R s m args below meth c T locs cells slots) (hx : p.tables.exec = Jvm.exec) (hd : decode c.code pc = .ok (.goto o, 3)) (ho : 0 ≤ (pc : Int) + o) (hp : ((pc : Int) + o).toNat = q) (g : Go p e below K (T.setTop (mkF m q Ls S))) : Go p e below K (T.setTop (mkF m pc Ls S)) :=
  Go.by (fun t z => XS.goto X.here hx rfl (pc0 := pc) rfl hd ho hp z) g
theorem Go.ifYes {cd : ClassFile.Cond} {x : Int32} {o : Int} (X : Stand p l e R s m args below meth c T locs cells slots) (hx : p.tables.exec = Jvm.exec) (hd : decode c.code pc = .ok (.ifCond cd o, 3)) (hc : ifCond.holds cd x = true) (ho : 0 ≤ (pc : Int) + o) (hp : ((pc : Int) + o).toNat = q) (g : Go p e below K (T.setTop (mkF m q Ls S))) : Go p e below K (T.setTop (mkF m pc Ls (.int x :: S))) :=
  Go.by (fun t z => XS.ifYes X.here hx rfl (pc0 := pc) rfl hd rfl hc ho hp z) g
theorem Go.icmpYes {cd : ClassFile.Cond} {x y : Int32} {o : Int} (X : Stand p l e R s m args below meth c T locs cells slots) (hx : p.tables.exec = Jvm.exec) (hd : decode c.code pc = .ok (.if_icmp cd o, 3)) (hc : if_icmp.holds cd x y = true) (ho : 0 ≤ (pc : Int) + o) (hp : ((pc : Int) + o).toNat = q) (g : Go p e below K (T.setTop (mkF m q Ls S))) : Go p e below K (T.setTop (mkF m pc Ls (.int y :: .int x :: S))) :=
  Go.by (fun t z => XS.icmpYes X.here hx rfl (pc0 := pc) rfl hd rfl hc ho hp z) g
theorem Go.ifnullYes  {o : Int} (X : Stand p l e R s m args below meth c T locs cells slots) (hx : p.tables.exec = Jvm.exec) (hd : decode c.code pc = .ok (.ifnull o, 3)) (ho : 0 ≤ (pc : Int) + o) (hp : ((pc : Int) + o).toNat = q) (g : Go p e below K (T.setTop (mkF m q Ls S))) : Go p e below K (T.setTop (mkF m pc Ls (.null :: S))) :=
  Go.by (fun t z => XS.ifnullYes X.here hx rfl (pc0 := pc) rfl hd rfl ho hp z) g
theorem Go.ifnonnullYes {b : Addr} {o : Int} (X : Stand p l e R s m args below meth c T locs cells slots) (hx : p.tables.exec = Jvm.exec) (hd : decode c.code pc = .ok (.ifnonnull o, 3)) (ho : 0 ≤ (pc : Int) + o) (hp : ((pc : Int) + o).toNat = q) (g : Go p e below K (T.setTop (mkF m q Ls S))) : Go p e below K (T.setTop (mkF m pc Ls (.ref b :: S))) :=
  Go.by (fun t z => XS.ifnonnullYes X.here hx rfl (pc0 := pc) rfl hd rfl ho hp z) g
theorem Go.ifNo {cd : ClassFile.Cond} {x : Int32} {o : Int} (X : Stand p l e R s m args below meth c T locs cells slots) (hx : p.tables.exec = Jvm.exec) (hd : decode c.code pc = .ok (.ifCond cd o, 3)) (hc : ifCond.holds cd x = false) (hp : pc + 3 = q) (g : Go p e below K (T.setTop (mkF m q Ls S))) : Go p e below K (T.setTop (mkF m pc Ls (.int x :: S))) := by
  subst hp
  exact Go.by (fun t z => XS.ifNo X.here hx rfl hd rfl hc z) g
theorem Go.icmpNo {cd : ClassFile.Cond} {x y : Int32} {o : Int} (X : Stand p l e R s m args below meth c T locs cells slots) (hx : p.tables.exec = Jvm.exec) (hd : decode c.code pc = .ok (.if_icmp cd o, 3)) (hc : if_icmp.holds cd x y = false) (hp : pc + 3 = q) (g : Go p e below K (T.setTop (mkF m q Ls S))) : Go p e below K (T.setTop (mkF m pc Ls (.int y :: .int x :: S))) := by
  subst hp
  exact Go.by (fun t z => XS.icmpNo X.here hx rfl hd rfl hc z) g
theorem Go.ifnullNo {b : Addr} {o : Int} (X : Stand p l e R s m args below meth c T locs cells slots) (hx : p.tables.exec = Jvm.exec) (hd : decode c.code pc = .ok (.ifnull o, 3)) (hp : pc + 3 = q) (g : Go p e below K (T.setTop (mkF m q Ls S))) : Go p e below K (T.setTop (mkF m pc Ls (.ref b :: S))) := by
  subst hp
  exact Go.by (fun t z => XS.ifnullNo X.here hx rfl hd rfl z) g
theorem Go.ifnonnullNo {o : Int} (X : Stand p l e R s m args below meth c T locs cells slots) (hx : p.tables.exec = Jvm.exec) (hd : decode c.code pc = .ok (.ifnonnull o, 3)) (hp : pc + 3 = q) (g : Go p e below K (T.setTop (mkF m q Ls S))) : Go p e below K (T.setTop (mkF m pc Ls (.null :: S))) := by
  subst hp
  exact Go.by (fun t z => XS.ifnonnullNo X.here hx rfl hd rfl z) g
theorem Go.acmp {cd : ACond} {x y : Value} {o : Int} {same : Bool} (X : Stand p l e R s m args below meth c T locs cells slots) (hx : p.tables.exec = Jvm.exec) (h1 : x.isRef = true) (h2 : y.isRef = true) (hd : decode c.code pc = .ok (.if_acmp cd o, 3)) (hq : decide (x = y) = same) (ho : 0 ≤ (pc : Int) + o) (hp : q = if acV cd same = true then ((pc : Int) + o).toNat else pc + 3) (g : Go p e below K (T.setTop (mkF m q Ls S))) : Go p e below K (T.setTop (mkF m pc Ls (y :: x :: S))) :=
  Go.by (fun t z => Jvm.RoadKit.acmp (g := mkF m pc Ls (y :: x :: S)) X hx rfl h1 h2 (pc0 := pc) (same := same) rfl hd rfl hq ho hp z) g
variable {Z : State} {a0 : Array Value} {h : Heap} {own R0 O n d host C : String} {index kk : Nat} {a : Addr} {v v' old : Value} {ty : FieldType}
theorem Go.getF (X : Stand p l e R s m args below meth c T locs cells slots) (hx : p.tables.exec = Jvm.exec) (hZ : Z.Warmed39 s.vm) (hown : s.vm.findClass own = some m.cls) (w : (Cond.fieldLink own index R0 n d).before a0 Z = true ∨ (Cond.fieldLinkNest own index R0 n d host).before a0 Z = true) (via : Via Z R0 O n d) (eT : T.heap = h) (F : Fld Z h a O n d v) (hd : decode c.code pc = .ok (.getfield index, 3)) (hp : pc + 3 = q)
    (g : ∀ T', Stand p l e R s m args below meth c T' locs cells slots → T'.heap = h → Go p e below K (T'.setTop (mkF m q Ls (v :: S)))) : Go p e below K (T.setTop (mkF m pc Ls (.ref a :: S))) := by
  subst hp
  obtain ⟨T', X', e', st⟩ := Jvm.RoadKit.getF X hx hZ hown w via eT F (g := mkF m pc Ls (.ref a :: S)) rfl rfl hd
  exact Go.by st (g T' X' e')
theorem Go.getS (X : Stand p l e R s m args below meth c T locs cells slots) (hx : p.tables.exec = Jvm.exec) (hZ : Z.Warmed39 s.vm) (hown : s.vm.findClass own = some m.cls) (w : (Cond.fieldLink own index R0 n d).before a0 Z = true ∨ (Cond.fieldLinkNest own index R0 n d host).before a0 Z = true) (via : Via Z R0 O n d) (eT : T.heap = h) (F : Sta Z h O n d v) (hd : decode c.code pc = .ok (.getstatic index, 3)) (hp : pc + 3 = q)
    (g : ∀ T', Stand p l e R s m args below meth c T' locs cells slots → T'.heap = h → Go p e below K (T'.setTop (mkF m q Ls (v :: S)))) : Go p e below K (T.setTop (mkF m pc Ls S)) := by
  subst hp
  obtain ⟨T', X', e', st⟩ := Jvm.RoadKit.getS2 X hx hZ hown w via eT F (g := mkF m pc Ls S) rfl hd
  exact Go.by st (g T' X' e')
theorem Go.putF (X : Stand p l e R s m args below meth c T locs cells slots) (hx : p.tables.exec = Jvm.exec) (hZ : Z.Warmed39 s.vm) (hown : s.vm.findClass own = some m.cls) (w : (Cond.fieldLink own index R0 n d).before a0 Z = true ∨ (Cond.fieldLinkNest own index R0 n d host).before a0 Z = true) (via : Via Z R0 O n d) (eT : T.heap = h) (F : Fld Z h a O n d old) (E : Exa Z h a C)
    (L : (Cond.lays C O n d).before a0 Z = true ∨ ((Cond.laysFinal C O n d).before a0 Z = true ∧ own = O ∧ meth.name = "<init>")) (wi : (Cond.instantiable C kk).before a0 Z = true) (hty : parseFieldDescriptor d = some ty) (hn : narrow ty v = v) (hf : fits ty v = true) (hd : decode c.code pc = .ok (.putfield index, 3)) (hp : pc + 3 = q)
    (g : ∀ T' h', Stand p l e R s m args below meth c T' (locs ++ [⟨a, slotOf Z O n d⟩]) cells slots → T'.heap = h' → Wr h h' a (slotOf Z O n d) v → Fld Z h' a O n d v → Go p e below K (T'.setTop (mkF m q Ls S))) : Go p e below K (T.setTop (mkF m pc Ls (v :: .ref a :: S))) := by
  subst hp
  obtain ⟨T', h', X', e', W, st⟩ := Jvm.RoadKit.putF X hx hZ hown w via eT F E L wi hty hn hf (g := mkF m pc Ls (v :: .ref a :: S)) rfl rfl hd
  exact Go.by st (g T' h' X' e' W (F.same W))
theorem Go.putFN (X : Stand p l e R s m args below meth c T locs cells slots) (hx : p.tables.exec = Jvm.exec) (hZ : Z.Warmed39 s.vm) (hown : s.vm.findClass own = some m.cls) (w : (Cond.fieldLink own index R0 n d).before a0 Z = true) (via : Via Z R0 O n d) (eT : T.heap = h) (F : Fld Z h a O n d old) (E : Exa Z h a C)
    (L : (Cond.lays C O n d).before a0 Z = true ∨ ((Cond.laysFinal C O n d).before a0 Z = true ∧ own = O ∧ meth.name = "<init>")) (wi : (Cond.instantiable C kk).before a0 Z = true) (hty : parseFieldDescriptor d = some ty) (hn : narrow ty v = v') (hf : fits ty v' = true) (hd : decode c.code pc = .ok (.putfield index, 3)) (hp : pc + 3 = q)
    (g : ∀ T' h', Stand p l e R s m args below meth c T' (locs ++ [⟨a, slotOf Z O n d⟩]) cells slots → T'.heap = h' → Wr h h' a (slotOf Z O n d) v' → Fld Z h' a O n d v' → Go p e below K (T'.setTop (mkF m q Ls S))) : Go p e below K (T.setTop (mkF m pc Ls (v :: .ref a :: S))) := by
  subst hp
  obtain ⟨T', h', X', e', W, st⟩ := Jvm.RoadKit.putFN X hx hZ hown w via eT F E L wi hty hn hf (g := mkF m pc Ls (v :: .ref a :: S)) rfl rfl hd
  exact Go.by st (g T' h' X' e' W (F.same W))
theorem Go.newO {nn : Nat} (X : Stand p l e R s m args below meth c T locs cells slots) (hx : p.tables.exec = Jvm.exec) (hZ : Z.Warmed39 s.vm) (hown : s.vm.findClass own = some m.cls) (w : (Cond.classLink own index C).before a0 Z = true) (wi : (Cond.instantiable C nn).before a0 Z = true) (wz : (Cond.initialized C).before a0 Z = true) (eT : T.heap = h) (hd : decode c.code pc = .ok (.new index, 3)) (hc : cells + 1 ≤ R.cells) (hl : slots + nn ≤ R.slots) (hp : pc + 3 = q)
    (g : ∀ (b : Addr) T' h', Stand p l e R s m args below meth c T' locs (cells + 1) (slots + nn) → T'.heap = h' → h.size = b → Ext h h' → Exa Z h' b C → (∀ {O nm d : String} {ty : FieldType}, Laid Z a0 C O nm d → parseFieldDescriptor d = some ty → Fld Z h' b O nm d (defaultValue ty)) → Unt h' b → Go p e below K (T'.setTop (mkF m q Ls (.ref b :: S)))) : Go p e below K (T.setTop (mkF m pc Ls S)) := by
  subst hp
  obtain ⟨T', h', X', e', E, A, D, U, st⟩ := Jvm.RoadKit.newO X hx hZ hown w wi wz eT (g := mkF m pc Ls S) rfl hd hc hl
  exact Go.by st (g _ T' h' X' e' rfl E A D U)
theorem Go.newP {aty : ArrayType} {z : Int32} {ad : String} {cap : Nat} (X : Stand p l e R s m args below meth c T locs cells slots) (hx : p.tables.exec = Jvm.exec) (hZ : Z.Warmed39 s.vm) (w : (Cond.arrayClass (newarray.typeOf aty)).before a0 Z = true) (eT : T.heap = h) (hd : decode c.code pc = .ok (.newarray aty, 2)) (hn : ¬ z < 0) (hcap : z.toNatClampNeg ≤ cap) (hb : cap * 8 ≤ 536870912) (hc : cells + 1 ≤ R.cells) (hl : slots + cap ≤ R.slots) (had : "[" ++ (newarray.typeOf aty).toString = ad) (hp : pc + 2 = q)
    (g : ∀ (b : Addr) T' h' cA, Stand p l e R s m args below meth c T' locs (cells + 1) (slots + cap) → T'.heap = h' → h.size = b → Ext h h' → Arv Z h' b cA (newarray.typeOf aty) z [] (defaultValue (newarray.typeOf aty)) → Exa Z h' b ad → Go p e below K (T'.setTop (mkF m q Ls (.ref b :: S)))) : Go p e below K (T.setTop (mkF m pc Ls (.int z :: S))) := by
  subst hp
  obtain ⟨T', h', cA, X', e', E, A, B, st⟩ := Jvm.RoadKit.newPE X hx hZ w eT (g := mkF m pc Ls (.int z :: S)) rfl hd rfl hn hcap hb hc hl had
  exact Go.by st (g _ T' h' cA X' e' rfl E (Arv.new A hn) B)
theorem Go.initO (X : Stand p l e R s m args below meth c T locs cells slots) (hx : p.tables.exec = Jvm.exec) (hZ : Z.Warmed39 s.vm) (hown : s.vm.findClass own = some m.cls) (w1 : (Cond.methodLink own index Lib.objectInit).before a0 Z = true) (w2 : (Cond.instanceMethod Lib.objectInit).before a0 Z = true) (w3 : (Cond.code Lib.objectInit ⟨#[0xb1]⟩ 1 none).before a0 Z = true) (eT : T.heap = h) (hsz : Ls.size = c.maxLocals) (hd : decode c.code pc = .ok (.invokespecial index, 3)) (hf : 1 ≤ R.frames) {W : Nat} (hW : 2 * 0 + (S.map fun v => v.category).sum ≤ W) (hl : W + 12 ≤ R.locals) (hp : pc + 3 = q)
    (g : ∀ T', Stand p l e R s m args below meth c T' locs cells slots → T'.heap = h → Go p e below K (T'.setTop (mkF m q Ls S))) : Go p e below K (T.setTop (mkF m pc Ls (.ref a :: S))) := by
  subst hp
  obtain ⟨T', X', e', st⟩ := Jvm.RoadKit.initO X hx hZ hown w1 w2 w3 eT (g := mkF m pc Ls (.ref a :: S)) rfl hsz rfl hd hf hW hl
  exact Go.by st (g T' X' e')
theorem Go.castY {D : String} (X : Stand p l e R s m args below meth c T locs cells slots) (hx : p.tables.exec = Jvm.exec) (hZ : Z.Warmed39 s.vm) (hown : s.vm.findClass own = some m.cls) (w : (Cond.classLink own index D).before a0 Z = true) (eT : T.heap = h) (F : Ins Z h a D true) (hd : decode c.code pc = .ok (.checkcast index, 3)) (hp : pc + 3 = q)
    (g : ∀ T', Stand p l e R s m args below meth c T' locs cells slots → T'.heap = h → Go p e below K (T'.setTop (mkF m q Ls (.ref a :: S)))) : Go p e below K (T.setTop (mkF m pc Ls (.ref a :: S))) := by
  subst hp
  obtain ⟨T', X', e', st⟩ := Jvm.RoadKit.castY X hx hZ hown w eT F (g := mkF m pc Ls (.ref a :: S)) rfl rfl hd
  exact Go.by st (g T' X' e')
theorem Go.instY {D : String} (X : Stand p l e R s m args below meth c T locs cells slots) (hx : p.tables.exec = Jvm.exec) (hZ : Z.Warmed39 s.vm) (hown : s.vm.findClass own = some m.cls) (w : (Cond.classLink own index D).before a0 Z = true) (eT : T.heap = h) (F : Ins Z h a D true) (hd : decode c.code pc = .ok (.instanceof index, 3)) (hp : pc + 3 = q)
    (g : ∀ T', Stand p l e R s m args below meth c T' locs cells slots → T'.heap = h → Go p e below K (T'.setTop (mkF m q Ls (.int 1 :: S)))) : Go p e below K (T.setTop (mkF m pc Ls (.ref a :: S))) := by
  subst hp
  obtain ⟨T', X', e', st⟩ := Jvm.RoadKit.instY X hx hZ hown w eT F (g := mkF m pc Ls (.ref a :: S)) rfl rfl hd
  exact Go.by st (g T' X' e')
theorem Go.instNo {D : String} (X : Stand p l e R s m args below meth c T locs cells slots) (hx : p.tables.exec = Jvm.exec) (hZ : Z.Warmed39 s.vm) (hown : s.vm.findClass own = some m.cls) (w : (Cond.classLink own index D).before a0 Z = true) (eT : T.heap = h) (E : Exa Z h a C) (F : ∃ c t, Z.vm.findClass C = some c ∧ Z.vm.findClass D = some t ∧ Z.vm.assignable c t = false) (hd : decode c.code pc = .ok (.instanceof index, 3)) (hp : pc + 3 = q)
    (g : ∀ T', Stand p l e R s m args below meth c T' locs cells slots → T'.heap = h → Go p e below K (T'.setTop (mkF m q Ls (.int 0 :: S)))) : Go p e below K (T.setTop (mkF m pc Ls (.ref a :: S))) := by
  subst hp
  obtain ⟨T', X', e', st⟩ := Jvm.RoadKit.instNo X hx hZ hown w eT E F (g := mkF m pc Ls (.ref a :: S)) rfl rfl hd
  exact Go.by st (g T' X' e')
theorem Go.ldcI {z : Int32} (X : Stand p l e R s m args below meth c T locs cells slots) (hx : p.tables.exec = Jvm.exec) (hZ : Z.Warmed39 s.vm) (hown : s.vm.findClass own = some m.cls) (w : (Cond.constant own index z).before a0 Z = true) (hd : decode c.code pc = .ok (.ldc index, 2)) (hp : pc + 2 = q) (g : Go p e below K (T.setTop (mkF m q Ls (.int z :: S)))) : Go p e below K (T.setTop (mkF m pc Ls S)) := by
  subst hp
  exact Go.by (X.ldcInt hx hown (mvT hZ w) (g := mkF m pc Ls S) rfl hd) g
theorem Go.ldcwI {z : Int32} (X : Stand p l e R s m args below meth c T locs cells slots) (hx : p.tables.exec = Jvm.exec) (hZ : Z.Warmed39 s.vm) (hown : s.vm.findClass own = some m.cls) (w : (Cond.constant own index z).before a0 Z = true) (hd : decode c.code pc = .ok (.ldc_w index, 3)) (hp : pc + 3 = q) (g : Go p e below K (T.setTop (mkF m q Ls (.int z :: S)))) : Go p e below K (T.setTop (mkF m pc Ls S)) := by
  subst hp
  exact Go.by (X.ldcwInt hx hown (mvT hZ w) (g := mkF m pc Ls S) rfl hd) g
theorem Go.ldc2 {z : Int64} (X : Stand p l e R s m args below meth c T locs cells slots) (hx : p.tables.exec = Jvm.exec) (hZ : Z.Warmed39 s.vm) (hown : s.vm.findClass own = some m.cls) (w : (Cond.constantLong own index z).before a0 Z = true) (hd : decode c.code pc = .ok (.ldc2_w index, 3)) (hp : pc + 3 = q) (g : Go p e below K (T.setTop (mkF m q Ls (.long z :: S)))) : Go p e below K (T.setTop (mkF m pc Ls S)) := by
  subst hp
  exact Go.by (X.ldc2Long hx hown (mvT hZ w) (g := mkF m pc Ls S) rfl hd) g

end OwnSteps
end Jvm.RoadKit
namespace Jvm.Pilot.@@N@@
open Jvm Jvm.ClassFile Sem Op Lib Jvm.Free Jvm.Stand Jvm.LawKit Jvm.RoadKit Bundle Jvm.Pilot.@@N@@.Jvm.D
theorem wd0 {Z : State} {a0 : Array Value} (hw : ∀ d ∈ tables_1, d.before a0 Z = true) : (Jvm.Cond.methodLink "com/example/loopd/loopd/task/BoundsContainsPinLaw" (7 : Nat) ({ cls := "java/lang/Math", name := "min", desc := "(II)I" } : Jvm.MethodName)).before a0 Z = true := hw _ (List.mem_of_getElem? (i := 0) rfl)
theorem wd1 {Z : State} {a0 : Array Value} (hw : ∀ d ∈ tables_1, d.before a0 Z = true) : (Jvm.Cond.static ({ cls := "java/lang/Math", name := "min", desc := "(II)I" } : Jvm.MethodName)).before a0 Z = true := hw _ (List.mem_of_getElem? (i := 1) rfl)
theorem wd2 {Z : State} {a0 : Array Value} (hw : ∀ d ∈ tables_1, d.before a0 Z = true) : (Jvm.Cond.initialized "java/lang/Math").before a0 Z = true := hw _ (List.mem_of_getElem? (i := 2) rfl)
theorem wd3 {Z : State} {a0 : Array Value} (hw : ∀ d ∈ tables_1, d.before a0 Z = true) : (Jvm.Cond.code ({ cls := "java/lang/Math", name := "min", desc := "(II)I" } : Jvm.MethodName) jdk_29_method_69_code (2 : Nat) (Option.some Jvm.ClassFile.FieldType.int)).before a0 Z = true := hw _ (List.mem_of_getElem? (i := 3) rfl)
theorem wd4 {Z : State} {a0 : Array Value} (hw : ∀ d ∈ tables_1, d.before a0 Z = true) : (Jvm.Cond.methodLink "com/example/loopd/loopd/task/BoundsContainsPinLaw" (13 : Nat) ({ cls := "java/lang/Math", name := "max", desc := "(II)I" } : Jvm.MethodName)).before a0 Z = true := hw _ (List.mem_of_getElem? (i := 4) rfl)
theorem wd5 {Z : State} {a0 : Array Value} (hw : ∀ d ∈ tables_1, d.before a0 Z = true) : (Jvm.Cond.static ({ cls := "java/lang/Math", name := "max", desc := "(II)I" } : Jvm.MethodName)).before a0 Z = true := hw _ (List.mem_of_getElem? (i := 5) rfl)
theorem wd6 {Z : State} {a0 : Array Value} (hw : ∀ d ∈ tables_1, d.before a0 Z = true) : (Jvm.Cond.code ({ cls := "java/lang/Math", name := "max", desc := "(II)I" } : Jvm.MethodName) jdk_29_method_65_code (2 : Nat) (Option.some Jvm.ClassFile.FieldType.int)).before a0 Z = true := hw _ (List.mem_of_getElem? (i := 6) rfl)
theorem wd7 {Z : State} {a0 : Array Value} (hw : ∀ d ∈ tables_1, d.before a0 Z = true) : (Jvm.Cond.classLink "com/example/loopd/loopd/task/BoundsContainsPinLaw" (16 : Nat) "com/example/loopd/loopd/task/Bounds").before a0 Z = true := hw _ (List.mem_of_getElem? (i := 7) rfl)
theorem wd8 {Z : State} {a0 : Array Value} (hw : ∀ d ∈ tables_1, d.before a0 Z = true) : (Jvm.Cond.instantiable "com/example/loopd/loopd/task/Bounds" (2 : Nat)).before a0 Z = true := hw _ (List.mem_of_getElem? (i := 8) rfl)
theorem wd9 {Z : State} {a0 : Array Value} (hw : ∀ d ∈ tables_1, d.before a0 Z = true) : (Jvm.Cond.initialized "com/example/loopd/loopd/task/Bounds").before a0 Z = true := hw _ (List.mem_of_getElem? (i := 9) rfl)
theorem wd10 {Z : State} {a0 : Array Value} (hw : ∀ d ∈ tables_1, d.before a0 Z = true) : (Jvm.Cond.methodLink "com/example/loopd/loopd/task/BoundsContainsPinLaw" (18 : Nat) ({ cls := "com/example/loopd/loopd/task/Bounds", name := "<init>", desc := "(II)V" } : Jvm.MethodName)).before a0 Z = true := hw _ (List.mem_of_getElem? (i := 10) rfl)
theorem wd11 {Z : State} {a0 : Array Value} (hw : ∀ d ∈ tables_1, d.before a0 Z = true) : (Jvm.Cond.instanceMethod ({ cls := "com/example/loopd/loopd/task/Bounds", name := "<init>", desc := "(II)V" } : Jvm.MethodName)).before a0 Z = true := hw _ (List.mem_of_getElem? (i := 11) rfl)
theorem wd12 {Z : State} {a0 : Array Value} (hw : ∀ d ∈ tables_1, d.before a0 Z = true) : (Jvm.Cond.code ({ cls := "com/example/loopd/loopd/task/Bounds", name := "<init>", desc := "(II)V" } : Jvm.MethodName) prog_17_method_1_code (3 : Nat) (Option.none : Option Jvm.ClassFile.FieldType)).before a0 Z = true := hw _ (List.mem_of_getElem? (i := 12) rfl)
theorem wd13 {Z : State} {a0 : Array Value} (hw : ∀ d ∈ tables_1, d.before a0 Z = true) : (Jvm.Cond.methodLink "com/example/loopd/loopd/task/Bounds" (1 : Nat) ({ cls := "java/lang/Record", name := "<init>", desc := "()V" } : Jvm.MethodName)).before a0 Z = true := hw _ (List.mem_of_getElem? (i := 13) rfl)
theorem wd14 {Z : State} {a0 : Array Value} (hw : ∀ d ∈ tables_1, d.before a0 Z = true) : (Jvm.Cond.instanceMethod ({ cls := "java/lang/Record", name := "<init>", desc := "()V" } : Jvm.MethodName)).before a0 Z = true := hw _ (List.mem_of_getElem? (i := 14) rfl)
theorem wd16 {Z : State} {a0 : Array Value} (hw : ∀ d ∈ tables_1, d.before a0 Z = true) : (Jvm.Cond.initialized "java/lang/Record").before a0 Z = true := hw _ (List.mem_of_getElem? (i := 16) rfl)
theorem wd17 {Z : State} {a0 : Array Value} (hw : ∀ d ∈ tables_1, d.before a0 Z = true) : (Jvm.Cond.code ({ cls := "java/lang/Record", name := "<init>", desc := "()V" } : Jvm.MethodName) jdk_30_method_1_code (1 : Nat) (Option.none : Option Jvm.ClassFile.FieldType)).before a0 Z = true := hw _ (List.mem_of_getElem? (i := 17) rfl)
theorem wd18 {Z : State} {a0 : Array Value} (hw : ∀ d ∈ tables_1, d.before a0 Z = true) : (Jvm.Cond.methodLink "java/lang/Record" (1 : Nat) ({ cls := "java/lang/Object", name := "<init>", desc := "()V" } : Jvm.MethodName)).before a0 Z = true := hw _ (List.mem_of_getElem? (i := 18) rfl)
theorem wd19 {Z : State} {a0 : Array Value} (hw : ∀ d ∈ tables_1, d.before a0 Z = true) : (Jvm.Cond.instanceMethod ({ cls := "java/lang/Object", name := "<init>", desc := "()V" } : Jvm.MethodName)).before a0 Z = true := hw _ (List.mem_of_getElem? (i := 19) rfl)
theorem wd20 {Z : State} {a0 : Array Value} (hw : ∀ d ∈ tables_1, d.before a0 Z = true) : (Jvm.Cond.code ({ cls := "java/lang/Object", name := "<init>", desc := "()V" } : Jvm.MethodName) object_method_1_code (1 : Nat) (Option.none : Option Jvm.ClassFile.FieldType)).before a0 Z = true := hw _ (List.mem_of_getElem? (i := 20) rfl)
theorem wd21 {Z : State} {a0 : Array Value} (hw : ∀ d ∈ tables_1, d.before a0 Z = true) : (Jvm.Cond.fieldLink "com/example/loopd/loopd/task/Bounds" (16 : Nat) "com/example/loopd/loopd/task/Bounds" "min" "I").before a0 Z = true := hw _ (List.mem_of_getElem? (i := 21) rfl)
theorem wd22 {Z : State} {a0 : Array Value} (hw : ∀ d ∈ tables_1, d.before a0 Z = true) : (Jvm.Cond.laysFinal "com/example/loopd/loopd/task/Bounds" "com/example/loopd/loopd/task/Bounds" "min" "I").before a0 Z = true := hw _ (List.mem_of_getElem? (i := 22) rfl)
theorem wd23 {Z : State} {a0 : Array Value} (hw : ∀ d ∈ tables_1, d.before a0 Z = true) : (Jvm.Cond.fieldLink "com/example/loopd/loopd/task/Bounds" (22 : Nat) "com/example/loopd/loopd/task/Bounds" "max" "I").before a0 Z = true := hw _ (List.mem_of_getElem? (i := 23) rfl)
theorem wd24 {Z : State} {a0 : Array Value} (hw : ∀ d ∈ tables_1, d.before a0 Z = true) : (Jvm.Cond.laysFinal "com/example/loopd/loopd/task/Bounds" "com/example/loopd/loopd/task/Bounds" "max" "I").before a0 Z = true := hw _ (List.mem_of_getElem? (i := 24) rfl)
theorem wd25 {Z : State} {a0 : Array Value} (hw : ∀ d ∈ tables_1, d.before a0 Z = true) : (Jvm.Cond.methodLink "com/example/loopd/loopd/task/BoundsContainsPinLaw" (21 : Nat) ({ cls := "com/example/loopd/loopd/task/Bounds", name := "contains", desc := "(I)Z" } : Jvm.MethodName)).before a0 Z = true := hw _ (List.mem_of_getElem? (i := 25) rfl)
theorem wd26 {Z : State} {a0 : Array Value} (hw : ∀ d ∈ tables_1, d.before a0 Z = true) : (Jvm.Cond.declares ({ cls := "com/example/loopd/loopd/task/Bounds", name := "contains", desc := "(I)Z" } : Jvm.MethodName)).before a0 Z = true := hw _ (List.mem_of_getElem? (i := 26) rfl)
theorem wd27 {Z : State} {a0 : Array Value} (hw : ∀ d ∈ tables_1, d.before a0 Z = true) : (Jvm.Cond.instanceMethod ({ cls := "com/example/loopd/loopd/task/Bounds", name := "contains", desc := "(I)Z" } : Jvm.MethodName)).before a0 Z = true := hw _ (List.mem_of_getElem? (i := 27) rfl)
theorem wd28 {Z : State} {a0 : Array Value} (hw : ∀ d ∈ tables_1, d.before a0 Z = true) : (Jvm.Cond.selects "com/example/loopd/loopd/task/Bounds" ({ cls := "com/example/loopd/loopd/task/Bounds", name := "contains", desc := "(I)Z" } : Jvm.MethodName) ({ cls := "com/example/loopd/loopd/task/Bounds", name := "contains", desc := "(I)Z" } : Jvm.MethodName)).before a0 Z = true := hw _ (List.mem_of_getElem? (i := 28) rfl)
theorem wd29 {Z : State} {a0 : Array Value} (hw : ∀ d ∈ tables_1, d.before a0 Z = true) : (Jvm.Cond.code ({ cls := "com/example/loopd/loopd/task/Bounds", name := "contains", desc := "(I)Z" } : Jvm.MethodName) prog_17_method_2_code (2 : Nat) (Option.some Jvm.ClassFile.FieldType.boolean)).before a0 Z = true := hw _ (List.mem_of_getElem? (i := 29) rfl)
theorem wd30 {Z : State} {a0 : Array Value} (hw : ∀ d ∈ tables_1, d.before a0 Z = true) : (Jvm.Cond.constant "com/example/loopd/loopd/task/BoundsContainsPinLaw" (27 : Nat) (-2147483648 : Int32)).before a0 Z = true := hw _ (List.mem_of_getElem? (i := 30) rfl)
theorem wd31 {Z : State} {a0 : Array Value} (hw : ∀ d ∈ tables_1, d.before a0 Z = true) : (Jvm.Cond.constant "com/example/loopd/loopd/task/BoundsContainsPinLaw" (28 : Nat) (2147483647 : Int32)).before a0 Z = true := hw _ (List.mem_of_getElem? (i := 31) rfl)
theorem d1_0 : decode jdk_29_method_69_code 0 = .ok (.iload_n 0, 1) := by decide +kernel
theorem d1_1 : decode jdk_29_method_69_code 1 = .ok (.iload_n 1, 1) := by decide +kernel
theorem d1_2 : decode jdk_29_method_69_code 2 = .ok (.if_icmp .gt 7, 3) := by decide +kernel
theorem d1_5 : decode jdk_29_method_69_code 5 = .ok (.iload_n 0, 1) := by decide +kernel
theorem d1_6 : decode jdk_29_method_69_code 6 = .ok (.goto 4, 3) := by decide +kernel
theorem d1_9 : decode jdk_29_method_69_code 9 = .ok (.iload_n 1, 1) := by decide +kernel
theorem d1_10 : decode jdk_29_method_69_code 10 = .ok (.ireturn, 1) := by decide +kernel
theorem d2_0 : decode jdk_29_method_65_code 0 = .ok (.iload_n 0, 1) := by decide +kernel
theorem d2_1 : decode jdk_29_method_65_code 1 = .ok (.iload_n 1, 1) := by decide +kernel
theorem d2_2 : decode jdk_29_method_65_code 2 = .ok (.if_icmp .lt 7, 3) := by decide +kernel
theorem d2_5 : decode jdk_29_method_65_code 5 = .ok (.iload_n 0, 1) := by decide +kernel
theorem d2_6 : decode jdk_29_method_65_code 6 = .ok (.goto 4, 3) := by decide +kernel
theorem d2_9 : decode jdk_29_method_65_code 9 = .ok (.iload_n 1, 1) := by decide +kernel
theorem d2_10 : decode jdk_29_method_65_code 10 = .ok (.ireturn, 1) := by decide +kernel
theorem d3_0 : decode prog_17_method_1_code 0 = .ok (.aload_n 0, 1) := by decide +kernel
theorem d3_1 : decode prog_17_method_1_code 1 = .ok (.invokespecial 1, 3) := by decide +kernel
theorem d3_4 : decode prog_17_method_1_code 4 = .ok (.iload_n 1, 1) := by decide +kernel
theorem d3_5 : decode prog_17_method_1_code 5 = .ok (.iload_n 2, 1) := by decide +kernel
theorem d3_6 : decode prog_17_method_1_code 6 = .ok (.if_icmp .le 18, 3) := by decide +kernel
theorem d3_24 : decode prog_17_method_1_code 24 = .ok (.aload_n 0, 1) := by decide +kernel
theorem d3_25 : decode prog_17_method_1_code 25 = .ok (.iload_n 1, 1) := by decide +kernel
theorem d3_26 : decode prog_17_method_1_code 26 = .ok (.putfield 16, 3) := by decide +kernel
theorem d3_29 : decode prog_17_method_1_code 29 = .ok (.aload_n 0, 1) := by decide +kernel
theorem d3_30 : decode prog_17_method_1_code 30 = .ok (.iload_n 2, 1) := by decide +kernel
theorem d3_31 : decode prog_17_method_1_code 31 = .ok (.putfield 22, 3) := by decide +kernel
theorem d3_34 : decode prog_17_method_1_code 34 = .ok (.return_, 1) := by decide +kernel
theorem d4_0 : decode jdk_30_method_1_code 0 = .ok (.aload_n 0, 1) := by decide +kernel
theorem d4_1 : decode jdk_30_method_1_code 1 = .ok (.invokespecial 1, 3) := by decide +kernel
theorem d4_4 : decode jdk_30_method_1_code 4 = .ok (.return_, 1) := by decide +kernel
theorem d6_0 : decode prog_17_method_2_code 0 = .ok (.iload_n 1, 1) := by decide +kernel
theorem d6_1 : decode prog_17_method_2_code 1 = .ok (.aload_n 0, 1) := by decide +kernel
theorem d6_2 : decode prog_17_method_2_code 2 = .ok (.getfield 16, 3) := by decide +kernel
theorem d6_5 : decode prog_17_method_2_code 5 = .ok (.if_icmp .lt 15, 3) := by decide +kernel
theorem d6_8 : decode prog_17_method_2_code 8 = .ok (.iload_n 1, 1) := by decide +kernel
theorem d6_9 : decode prog_17_method_2_code 9 = .ok (.aload_n 0, 1) := by decide +kernel
theorem d6_10 : decode prog_17_method_2_code 10 = .ok (.getfield 22, 3) := by decide +kernel
theorem d6_13 : decode prog_17_method_2_code 13 = .ok (.if_icmp .gt 7, 3) := by decide +kernel
theorem d6_16 : decode prog_17_method_2_code 16 = .ok (.iconst 1, 1) := by decide +kernel
theorem d6_17 : decode prog_17_method_2_code 17 = .ok (.goto 4, 3) := by decide +kernel
theorem d6_20 : decode prog_17_method_2_code 20 = .ok (.iconst 0, 1) := by decide +kernel
theorem d6_21 : decode prog_17_method_2_code 21 = .ok (.ireturn, 1) := by decide +kernel
theorem pd0 : parseMethodDescriptor "()V" = some ⟨[], none⟩ := by decide +kernel
theorem pd1 : parseMethodDescriptor "(II)I" = some ⟨[.int, .int], some .int⟩ := by decide +kernel
theorem pd2 : parseMethodDescriptor "(II)V" = some ⟨[.int, .int], none⟩ := by decide +kernel
theorem pd3 : parseMethodDescriptor "(I)Z" = some ⟨[.int], some .boolean⟩ := by decide +kernel
theorem pn0 : plainName "java/lang/Record" = true := by first | (simp [plainName, overriddenIn]; done) | decide +kernel
theorem pn1 : plainName "com/example/loopd/loopd/task/Bounds" = true := by first | (simp [plainName, overriddenIn]; done) | decide +kernel
theorem pn2 : plainName "com/example/loopd/loopd/task/BoundsContainsPinLaw" = true := by first | (simp [plainName, overriddenIn]; done) | decide +kernel
theorem ef_cmin (m : MethodId) (x0 : Int32) (x1 : Int32) : entryFrame m #[(.int x0), (.int x1)] 2 = mkF m 0 #[.val (.int x0), .val (.int x1)] [] := by first | (simp [entryFrame, mkF, argsToLocals, Value.category, maxLocals]; done) | rfl
theorem ef_cmax (m : MethodId) (x0 : Int32) (x1 : Int32) : entryFrame m #[(.int x0), (.int x1)] 2 = mkF m 0 #[.val (.int x0), .val (.int x1)] [] := by first | (simp [entryFrame, mkF, argsToLocals, Value.category, maxLocals]; done) | rfl
theorem ef_crec (m : MethodId) (x0 : Addr) : entryFrame m #[(.ref x0)] 1 = mkF m 0 #[.val (.ref x0)] [] := by first | (simp [entryFrame, mkF, argsToLocals, Value.category, maxLocals]; done) | rfl
theorem ef_cini (m : MethodId) (x0 : Addr) (x1 : Int32) (x2 : Int32) : entryFrame m #[(.ref x0), (.int x1), (.int x2)] 3 = mkF m 0 #[.val (.ref x0), .val (.int x1), .val (.int x2)] [] := by first | (simp [entryFrame, mkF, argsToLocals, Value.category, maxLocals]; done) | rfl
theorem ef_cin (m : MethodId) (x0 : Addr) (x1 : Int32) : entryFrame m #[(.ref x0), (.int x1)] 2 = mkF m 0 #[.val (.ref x0), .val (.int x1)] [] := by first | (simp [entryFrame, mkF, argsToLocals, Value.category, maxLocals]; done) | rfl
theorem ef_clo (m : MethodId) (x0 : Addr) (x1 : Int32) : entryFrame m #[(.ref x0), (.int x1)] 2 = mkF m 0 #[.val (.ref x0), .val (.int x1)] [] := by first | (simp [entryFrame, mkF, argsToLocals, Value.category, maxLocals]; done) | rfl
theorem ef_chi (m : MethodId) (x0 : Addr) (x1 : Int32) : entryFrame m #[(.ref x0), (.int x1)] 2 = mkF m 0 #[.val (.ref x0), .val (.int x1)] [] := by first | (simp [entryFrame, mkF, argsToLocals, Value.category, maxLocals]; done) | rfl
theorem ef_law0 (m : MethodId) (x0 : Int32) (x1 : Int32) (x2 : Int32) : entryFrame m #[(.int x0), (.int x1), (.int x2)] maxLocals = mkF m 0 #[.val (.int x0), .val (.int x1), .val (.int x2), .unset, .unset, .unset, .unset, .unset, .unset, .unset, .unset] [] := by first | (simp [entryFrame, mkF, argsToLocals, Value.category, maxLocals]; done) | rfl
def own_min (a b : Int32) : Int32 := if b < a then b else a
def own_max (a b : Int32) : Int32 := if a < b then b else a
theorem own_minmax (a b : Int32) : ¬ own_max a b < own_min a b := by
  unfold own_max own_min
  split <;> split <;> simp_all [Int32.lt_iff_toInt_lt] <;> omega
theorem own_dif (x y : Int32) : (x.toInt64 - y.toInt64) < (0 : Int64) ↔ x < y := by
  have e0 : (0 : Int64).toInt = 0 := rfl
  have h1 := Int32.le_toInt x; have h2 := Int32.toInt_lt x; have h3 := Int32.le_toInt y; have h4 := Int32.toInt_lt y
  rw [Int64.lt_iff_toInt_lt, Int32.lt_iff_toInt_lt, Int64.toInt_sub, Int32.toInt_toInt64, Int32.toInt_toInt64, e0, Int.bmod_eq_of_le (by omega) (by omega)]
  omega
theorem own_pred {x : Int32} (h : ¬ x = (-2147483648 : Int32)) : (x - (1 : Int32)) < x := by
  have e1 : (1 : Int32).toInt = 1 := rfl
  have e2 : (-2147483648 : Int32).toInt = -2147483648 := rfl
  have h1 := Int32.le_toInt x; have h2 := Int32.toInt_lt x
  rw [← Int32.toInt_inj, e2] at h
  rw [Int32.lt_iff_toInt_lt, Int32.toInt_sub, e1, Int.bmod_eq_of_le (by omega) (by omega)]
  omega
theorem own_add {x : Int32} (h : ¬ x = (2147483647 : Int32)) : (x + (1 : Int32)).toInt = x.toInt + 1 := by
  have e1 : (1 : Int32).toInt = 1 := rfl
  have e2 : (2147483647 : Int32).toInt = 2147483647 := rfl
  have h1 := Int32.le_toInt x; have h2 := Int32.toInt_lt x
  rw [← Int32.toInt_inj, e2] at h
  rw [Int32.toInt_add, e1, Int.bmod_eq_of_le (by omega) (by omega)]
theorem own_succ {x : Int32} (h : ¬ x = (2147483647 : Int32)) : x < (x + (1 : Int32)) := by
  rw [Int32.lt_iff_toInt_lt, own_add h]; omega
theorem own_succ2 {x y : Int32} (h : ¬ x = (2147483647 : Int32)) (q : ¬ x < y) : ¬ (x + (1 : Int32)) < y := by
  rw [Int32.lt_iff_toInt_lt] at q
  rw [Int32.lt_iff_toInt_lt, own_add h]; omega
def Q_cmin (Z : State) (pa : Int32) (pb : Int32) (h0 : Heap) (v : Option Value) (h : Heap) (L : List Loc) : Prop := v = some (.int (own_min pa pb)) ∧ Fr Z.heap.size L ∧ h = h0
set_option maxRecDepth 65536 in
set_option maxHeartbeats 40000000 in
theorem cmin (l : Launch) (Z : State) (a0 : Array Value) (hw : ∀ d ∈ tables_1, d.before a0 Z = true) (pa : Int32) (pb : Int32) (h0 : Heap) (O0 : Ext Z.heap h0) :
    Ctr l Z h0 (⟨"java/lang/Math", "min", "(II)I"⟩ : MethodName) jdk_29_method_69_code 2 (some .int) [] ({ frames := 0, cells := 0, slots := 0, locals := 0 } : Room) #[(.int pa), (.int pb)] (Q_cmin Z pa pb h0) := by
  refine enter (Jvm.Free.JP.mathPlain rfl (by decide +kernel)) ?_
  intro pp ee ss mm below meth cc s₁ hx hby hml hZ hown hnm hret hlk X0 e0 hs0
  replace hown : ss.vm.findClass "java/lang/Math" = some mm.cls := hown
  refine Go.cast (congrArg s₁.setTop (ef_cmin mm pa pb)) ?_
  have N0 := Fr.nil Z.heap.size
  show Go pp ee below _ (s₁.setTop (mkF mm 0 #[.val (.int pa), .val (.int pb)] []))
  refine Go.iloadN X0 hx (hb hby d1_0) rfl (q := 1) rfl ?_
  refine Go.iloadN X0 hx (hb hby d1_1) rfl (q := 2) rfl ?_
  by_cases hc101 : pb < pa
  · refine Go.icmpYes X0 hx (hb hby d1_2) (Jvm.Free.XT.ii_gt_t hc101) (q := 9) (by decide) (by decide) ?_
    refine Go.iloadN X0 hx (hb hby d1_9) rfl (q := 10) rfl ?_
    exact Go.retI X0 hx hret hlk (Or.inl rfl) rfl (hb hby d1_10) e0 (by decide) (by decide) ⟨by simp [own_min, *], N0, rfl⟩
  · refine Go.icmpNo X0 hx (hb hby d1_2) (Jvm.Free.XT.ii_gt_f hc101) (q := 5) rfl ?_
    refine Go.iloadN X0 hx (hb hby d1_5) rfl (q := 6) rfl ?_
    refine Go.goto X0 hx (hb hby d1_6) (q := 10) (by decide) (by decide) ?_
    exact Go.retI X0 hx hret hlk (Or.inl rfl) rfl (hb hby d1_10) e0 (by decide) (by decide) ⟨by simp [own_min, *], N0, rfl⟩
def Q_cmax (Z : State) (pa : Int32) (pb : Int32) (h0 : Heap) (v : Option Value) (h : Heap) (L : List Loc) : Prop := v = some (.int (own_max pa pb)) ∧ Fr Z.heap.size L ∧ h = h0
set_option maxRecDepth 65536 in
set_option maxHeartbeats 40000000 in
theorem cmax (l : Launch) (Z : State) (a0 : Array Value) (hw : ∀ d ∈ tables_1, d.before a0 Z = true) (pa : Int32) (pb : Int32) (h0 : Heap) (O0 : Ext Z.heap h0) :
    Ctr l Z h0 (⟨"java/lang/Math", "max", "(II)I"⟩ : MethodName) jdk_29_method_65_code 2 (some .int) [] ({ frames := 0, cells := 0, slots := 0, locals := 0 } : Room) #[(.int pa), (.int pb)] (Q_cmax Z pa pb h0) := by
  refine enter (Jvm.Free.JP.mathPlain rfl (by decide +kernel)) ?_
  intro pp ee ss mm below meth cc s₁ hx hby hml hZ hown hnm hret hlk X0 e0 hs0
  replace hown : ss.vm.findClass "java/lang/Math" = some mm.cls := hown
  refine Go.cast (congrArg s₁.setTop (ef_cmax mm pa pb)) ?_
  have N0 := Fr.nil Z.heap.size
  show Go pp ee below _ (s₁.setTop (mkF mm 0 #[.val (.int pa), .val (.int pb)] []))
  refine Go.iloadN X0 hx (hb hby d2_0) rfl (q := 1) rfl ?_
  refine Go.iloadN X0 hx (hb hby d2_1) rfl (q := 2) rfl ?_
  by_cases hc101 : pa < pb
  · refine Go.icmpYes X0 hx (hb hby d2_2) (Jvm.Free.XT.ii_lt_t hc101) (q := 9) (by decide) (by decide) ?_
    refine Go.iloadN X0 hx (hb hby d2_9) rfl (q := 10) rfl ?_
    exact Go.retI X0 hx hret hlk (Or.inl rfl) rfl (hb hby d2_10) e0 (by decide) (by decide) ⟨by simp [own_max, *], N0, rfl⟩
  · refine Go.icmpNo X0 hx (hb hby d2_2) (Jvm.Free.XT.ii_lt_f hc101) (q := 5) rfl ?_
    refine Go.iloadN X0 hx (hb hby d2_5) rfl (q := 6) rfl ?_
    refine Go.goto X0 hx (hb hby d2_6) (q := 10) (by decide) (by decide) ?_
    exact Go.retI X0 hx hret hlk (Or.inl rfl) rfl (hb hby d2_10) e0 (by decide) (by decide) ⟨by simp [own_max, *], N0, rfl⟩
def Q_crec (Z : State) (o : Addr) (h0 : Heap) (v : Option Value) (h : Heap) (L : List Loc) : Prop := v = none ∧ Fr Z.heap.size L ∧ h = h0
set_option maxRecDepth 65536 in
set_option maxHeartbeats 40000000 in
theorem crec (l : Launch) (Z : State) (a0 : Array Value) (hw : ∀ d ∈ tables_1, d.before a0 Z = true) (o : Addr) (h0 : Heap) (O0 : Ext Z.heap h0) :
    Ctr l Z h0 (⟨"java/lang/Record", "<init>", "()V"⟩ : MethodName) jdk_30_method_1_code 1 none [] ({ frames := 1, cells := 0, slots := 0, locals := 12 } : Room) #[(.ref o)] (Q_crec Z o h0) := by
  refine enter (plainFor_of_name pn0) ?_
  intro pp ee ss mm below meth cc s₁ hx hby hml hZ hown hnm hret hlk X0 e0 hs0
  replace hown : ss.vm.findClass "java/lang/Record" = some mm.cls := hown
  refine Go.cast (congrArg s₁.setTop (ef_crec mm o)) ?_
  have N0 := Fr.nil Z.heap.size
  show Go pp ee below _ (s₁.setTop (mkF mm 0 #[.val (.ref o)] []))
  refine Go.aloadN X0 hx (hb hby d4_0) rfl rfl (q := 1) rfl ?_
  refine Go.initO X0 hx hZ hown (wd18 hw) (wd19 hw) (wd20 hw) e0 (by rw [hml]; rfl) (hb hby d4_1) (by decide) (W := 0) (by exact Nat.le_refl _) (by decide) (q := 4) rfl ?_
  intro T101 X101 e101
  exact Go.retV X101 hx hret hlk (hb hby d4_4) e101 (by decide) (by decide) ⟨rfl, N0, rfl⟩
def Q_cini (Z : State) (o : Addr) (p : Int32) (q : Int32) (h0 : Heap) (v : Option Value) (h : Heap) (L : List Loc) : Prop := v = none ∧ Fr Z.heap.size L ∧ Keep h0 h [o] ∧ Fld Z h o "com/example/loopd/loopd/task/Bounds" "min" "I" (.int p) ∧ Fld Z h o "com/example/loopd/loopd/task/Bounds" "max" "I" (.int q)
set_option maxRecDepth 65536 in
set_option maxHeartbeats 40000000 in
theorem cini (l : Launch) (Z : State) (a0 : Array Value) (hw : ∀ d ∈ tables_1, d.before a0 Z = true) (o : Addr) (p : Int32) (q : Int32) (h0 : Heap) (O0 : Ext Z.heap h0) (E : Exa Z h0 o "com/example/loopd/loopd/task/Bounds") (Fm : Fld Z h0 o "com/example/loopd/loopd/task/Bounds" "min" "I" (.int (0 : Int32))) (Fx : Fld Z h0 o "com/example/loopd/loopd/task/Bounds" "max" "I" (.int (0 : Int32))) (g : Z.heap.size ≤ o) (hpq : ¬ (q < p)) :
    Ctr l Z h0 (⟨"com/example/loopd/loopd/task/Bounds", "<init>", "(II)V"⟩ : MethodName) prog_17_method_1_code 3 none [] ({ frames := 2, cells := 0, slots := 0, locals := 24 } : Room) #[(.ref o), (.int p), (.int q)] (Q_cini Z o p q h0) := by
  refine enter (plainFor_of_name pn1) ?_
  intro pp ee ss mm below meth cc s₁ hx hby hml hZ hown hnm hret hlk X0 e0 hs0
  replace hown : ss.vm.findClass "com/example/loopd/loopd/task/Bounds" = some mm.cls := hown
  refine Go.cast (congrArg s₁.setTop (ef_cini mm o p q)) ?_
  have N0 := Fr.nil Z.heap.size
  have KP := Keep.refl h0 [o]
  show Go pp ee below _ (s₁.setTop (mkF mm 0 #[.val (.ref o), .val (.int p), .val (.int q)] []))
  refine Go.aloadN X0 hx (hb hby d3_0) rfl rfl (q := 1) rfl ?_
  refine Go.init X0 hx hZ hown rfl (wd13 hw) (wd14 hw) (wd16 hw) (wd17 hw) (by decide) (crec l Z a0 hw o h0 O0) e0 (by rw [hml]; rfl) (hb hby d3_1) (argsL := []) (rest := []) (lenOf pd0 rfl) rfl rfl (W := 0) (by first | exact Nat.le_refl _ | decide) (by decide) (by decide) (by decide) (by decide) ?_
  intro v101 T101 L101 X101 hQ101
  obtain ⟨rfl, N101q, e101⟩ := hQ101
  have N101 := Fr.app N0 N101q
  refine Go.iloadN X101 hx (hb hby d3_4) rfl (q := 5) rfl ?_
  refine Go.iloadN X101 hx (hb hby d3_5) rfl (q := 6) rfl ?_
  refine Go.icmpYes X101 hx (hb hby d3_6) (Jvm.Free.XT.ii_le_t hpq) (q := 24) (by decide) (by decide) ?_
  refine Go.aloadN X101 hx (hb hby d3_24) rfl rfl (q := 25) rfl ?_
  refine Go.iloadN X101 hx (hb hby d3_25) rfl (q := 26) rfl ?_
  refine Go.putF X101 hx hZ hown (host := "") (Or.inl (wd21 hw)) Via.refl e101 Fm E (Or.inr ⟨(wd22 hw), rfl, hnm⟩) (wd8 hw) (ty := .int) (by decide) rfl rfl (hb hby d3_26) (q := 29) rfl ?_
  intro T102 h102 X102 e102 W102 F102
  have N102 := Fr.snoc X102 N101 g
  replace E := E.wr W102
  replace Fx := Fx.other W102 (Or.inr (slot_ne (Or.inr (wd24 hw)) (Or.inr (wd22 hw)) (by decide) (t := .int) (t' := .int) (by decide) (by decide)))
  have OW102 := ext_wr O0 W102 g
  replace KP := KP.wr W102 (Or.inl (List.mem_of_getElem? (i := 0) rfl))
  refine Go.aloadN X102 hx (hb hby d3_29) rfl rfl (q := 30) rfl ?_
  refine Go.iloadN X102 hx (hb hby d3_30) rfl (q := 31) rfl ?_
  refine Go.putF X102 hx hZ hown (host := "") (Or.inl (wd23 hw)) Via.refl e102 Fx E (Or.inr ⟨(wd24 hw), rfl, hnm⟩) (wd8 hw) (ty := .int) (by decide) rfl rfl (hb hby d3_31) (q := 34) rfl ?_
  intro T103 h103 X103 e103 W103 F103
  have N103 := Fr.snoc X103 N102 g
  replace E := E.wr W103
  replace F102 := F102.other W103 (Or.inr (slot_ne (Or.inr (wd22 hw)) (Or.inr (wd24 hw)) (by decide) (t := .int) (t' := .int) (by decide) (by decide)))
  have OW103 := ext_wr OW102 W103 g
  replace KP := KP.wr W103 (Or.inl (List.mem_of_getElem? (i := 0) rfl))
  exact Go.retV X103 hx hret hlk (hb hby d3_34) e103 (by decide) (by decide) ⟨rfl, N103, KP, F102, F103⟩
def Q_cin (Z : State) (o : Addr) (p : Int32) (q : Int32) (x : Int32) (h0 : Heap) (v : Option Value) (h : Heap) (L : List Loc) : Prop := v = some (.int (1 : Int32)) ∧ Fr Z.heap.size L ∧ h = h0
set_option maxRecDepth 65536 in
set_option maxHeartbeats 40000000 in
theorem cin (l : Launch) (Z : State) (a0 : Array Value) (hw : ∀ d ∈ tables_1, d.before a0 Z = true) (o : Addr) (p : Int32) (q : Int32) (x : Int32) (h0 : Heap) (O0 : Ext Z.heap h0) (Fm : Fld Z h0 o "com/example/loopd/loopd/task/Bounds" "min" "I" (.int p)) (Fx : Fld Z h0 o "com/example/loopd/loopd/task/Bounds" "max" "I" (.int q)) (h1 : ¬ (x < p)) (h2 : ¬ (q < x)) :
    Ctr l Z h0 (⟨"com/example/loopd/loopd/task/Bounds", "contains", "(I)Z"⟩ : MethodName) prog_17_method_2_code 2 (some .boolean) [] ({ frames := 0, cells := 0, slots := 0, locals := 0 } : Room) #[(.ref o), (.int x)] (Q_cin Z o p q x h0) := by
  refine enter (plainFor_of_name pn1) ?_
  intro pp ee ss mm below meth cc s₁ hx hby hml hZ hown hnm hret hlk X0 e0 hs0
  replace hown : ss.vm.findClass "com/example/loopd/loopd/task/Bounds" = some mm.cls := hown
  refine Go.cast (congrArg s₁.setTop (ef_cin mm o x)) ?_
  have N0 := Fr.nil Z.heap.size
  show Go pp ee below _ (s₁.setTop (mkF mm 0 #[.val (.ref o), .val (.int x)] []))
  refine Go.iloadN X0 hx (hb hby d6_0) rfl (q := 1) rfl ?_
  refine Go.aloadN X0 hx (hb hby d6_1) rfl rfl (q := 2) rfl ?_
  refine Go.getF X0 hx hZ hown (host := "") (Or.inl (wd21 hw)) Via.refl e0 Fm (hb hby d6_2) (q := 5) rfl ?_
  intro T101 X101 e101
  refine Go.icmpNo X101 hx (hb hby d6_5) (Jvm.Free.XT.ii_lt_f h1) (q := 8) rfl ?_
  refine Go.iloadN X101 hx (hb hby d6_8) rfl (q := 9) rfl ?_
  refine Go.aloadN X101 hx (hb hby d6_9) rfl rfl (q := 10) rfl ?_
  refine Go.getF X101 hx hZ hown (host := "") (Or.inl (wd23 hw)) Via.refl e101 Fx (hb hby d6_10) (q := 13) rfl ?_
  intro T102 X102 e102
  refine Go.icmpNo X102 hx (hb hby d6_13) (Jvm.Free.XT.ii_gt_f h2) (q := 16) rfl ?_
  refine Go.iconst X102 hx (hb hby d6_16) (r := (1 : Int32)) rfl (q := 17) rfl ?_
  refine Go.goto X102 hx (hb hby d6_17) (q := 21) (by decide) (by decide) ?_
  exact Go.retI X102 hx hret hlk (by simp) rfl (hb hby d6_21) e102 (by decide) (by decide) ⟨rfl, N0, rfl⟩
def Q_clo (Z : State) (o : Addr) (p : Int32) (q : Int32) (x : Int32) (h0 : Heap) (v : Option Value) (h : Heap) (L : List Loc) : Prop := v = some (.int (0 : Int32)) ∧ Fr Z.heap.size L ∧ h = h0
set_option maxRecDepth 65536 in
set_option maxHeartbeats 40000000 in
theorem clo (l : Launch) (Z : State) (a0 : Array Value) (hw : ∀ d ∈ tables_1, d.before a0 Z = true) (o : Addr) (p : Int32) (q : Int32) (x : Int32) (h0 : Heap) (O0 : Ext Z.heap h0) (Fm : Fld Z h0 o "com/example/loopd/loopd/task/Bounds" "min" "I" (.int p)) (Fx : Fld Z h0 o "com/example/loopd/loopd/task/Bounds" "max" "I" (.int q)) (h1 : x < p) :
    Ctr l Z h0 (⟨"com/example/loopd/loopd/task/Bounds", "contains", "(I)Z"⟩ : MethodName) prog_17_method_2_code 2 (some .boolean) [] ({ frames := 0, cells := 0, slots := 0, locals := 0 } : Room) #[(.ref o), (.int x)] (Q_clo Z o p q x h0) := by
  refine enter (plainFor_of_name pn1) ?_
  intro pp ee ss mm below meth cc s₁ hx hby hml hZ hown hnm hret hlk X0 e0 hs0
  replace hown : ss.vm.findClass "com/example/loopd/loopd/task/Bounds" = some mm.cls := hown
  refine Go.cast (congrArg s₁.setTop (ef_clo mm o x)) ?_
  have N0 := Fr.nil Z.heap.size
  show Go pp ee below _ (s₁.setTop (mkF mm 0 #[.val (.ref o), .val (.int x)] []))
  refine Go.iloadN X0 hx (hb hby d6_0) rfl (q := 1) rfl ?_
  refine Go.aloadN X0 hx (hb hby d6_1) rfl rfl (q := 2) rfl ?_
  refine Go.getF X0 hx hZ hown (host := "") (Or.inl (wd21 hw)) Via.refl e0 Fm (hb hby d6_2) (q := 5) rfl ?_
  intro T101 X101 e101
  refine Go.icmpYes X101 hx (hb hby d6_5) (Jvm.Free.XT.ii_lt_t h1) (q := 20) (by decide) (by decide) ?_
  refine Go.iconst X101 hx (hb hby d6_20) (r := (0 : Int32)) rfl (q := 21) rfl ?_
  exact Go.retI X101 hx hret hlk (by simp) rfl (hb hby d6_21) e101 (by decide) (by decide) ⟨rfl, N0, rfl⟩
def Q_chi (Z : State) (o : Addr) (p : Int32) (q : Int32) (x : Int32) (h0 : Heap) (v : Option Value) (h : Heap) (L : List Loc) : Prop := v = some (.int (0 : Int32)) ∧ Fr Z.heap.size L ∧ h = h0
set_option maxRecDepth 65536 in
set_option maxHeartbeats 40000000 in
theorem chi (l : Launch) (Z : State) (a0 : Array Value) (hw : ∀ d ∈ tables_1, d.before a0 Z = true) (o : Addr) (p : Int32) (q : Int32) (x : Int32) (h0 : Heap) (O0 : Ext Z.heap h0) (Fm : Fld Z h0 o "com/example/loopd/loopd/task/Bounds" "min" "I" (.int p)) (Fx : Fld Z h0 o "com/example/loopd/loopd/task/Bounds" "max" "I" (.int q)) (h1 : ¬ (x < p)) (h2 : q < x) :
    Ctr l Z h0 (⟨"com/example/loopd/loopd/task/Bounds", "contains", "(I)Z"⟩ : MethodName) prog_17_method_2_code 2 (some .boolean) [] ({ frames := 0, cells := 0, slots := 0, locals := 0 } : Room) #[(.ref o), (.int x)] (Q_chi Z o p q x h0) := by
  refine enter (plainFor_of_name pn1) ?_
  intro pp ee ss mm below meth cc s₁ hx hby hml hZ hown hnm hret hlk X0 e0 hs0
  replace hown : ss.vm.findClass "com/example/loopd/loopd/task/Bounds" = some mm.cls := hown
  refine Go.cast (congrArg s₁.setTop (ef_chi mm o x)) ?_
  have N0 := Fr.nil Z.heap.size
  show Go pp ee below _ (s₁.setTop (mkF mm 0 #[.val (.ref o), .val (.int x)] []))
  refine Go.iloadN X0 hx (hb hby d6_0) rfl (q := 1) rfl ?_
  refine Go.aloadN X0 hx (hb hby d6_1) rfl rfl (q := 2) rfl ?_
  refine Go.getF X0 hx hZ hown (host := "") (Or.inl (wd21 hw)) Via.refl e0 Fm (hb hby d6_2) (q := 5) rfl ?_
  intro T101 X101 e101
  refine Go.icmpNo X101 hx (hb hby d6_5) (Jvm.Free.XT.ii_lt_f h1) (q := 8) rfl ?_
  refine Go.iloadN X101 hx (hb hby d6_8) rfl (q := 9) rfl ?_
  refine Go.aloadN X101 hx (hb hby d6_9) rfl rfl (q := 10) rfl ?_
  refine Go.getF X101 hx hZ hown (host := "") (Or.inl (wd23 hw)) Via.refl e101 Fx (hb hby d6_10) (q := 13) rfl ?_
  intro T102 X102 e102
  refine Go.icmpYes X102 hx (hb hby d6_13) (Jvm.Free.XT.ii_gt_t h2) (q := 20) (by decide) (by decide) ?_
  refine Go.iconst X102 hx (hb hby d6_20) (r := (0 : Int32)) rfl (q := 21) rfl ?_
  exact Go.retI X102 hx hret hlk (by simp) rfl (hb hby d6_21) e102 (by decide) (by decide) ⟨rfl, N0, rfl⟩
def Q_law0 (Z : State) (pa : Int32) (pb : Int32) (pv : Int32) (h0 : Heap) (v : Option Value) (h : Heap) (L : List Loc) : Prop := v = some (.int (1 : Int32)) ∧ Fr Z.heap.size L
set_option maxRecDepth 65536 in
set_option maxHeartbeats 40000000 in
theorem law0 (l : Launch) (Z : State) (a0 : Array Value) (hw : ∀ d ∈ tables_1, d.before a0 Z = true) (pa : Int32) (pb : Int32) (pv : Int32) (h0 : Heap) (O0 : Ext Z.heap h0) :
    Ctr l Z h0 x code maxLocals ret tables_1 room_1 #[(.int pa), (.int pb), (.int pv)] (Q_law0 Z pa pb pv h0) := by
  refine enter (plainFor_of_name pn2) ?_
  intro pp ee ss mm below meth cc s₁ hx hby hml hZ hown hnm hret hlk X0 e0 hs0
  replace hown : ss.vm.findClass "com/example/loopd/loopd/task/BoundsContainsPinLaw" = some mm.cls := hown
  refine Go.cast (congrArg s₁.setTop (ef_law0 mm pa pb pv)) ?_
  have N0 := Fr.nil Z.heap.size
  show Go pp ee below _ (s₁.setTop (mkF mm 0 #[.val (.int pa), .val (.int pb), .val (.int pv), .unset, .unset, .unset, .unset, .unset, .unset, .unset, .unset] []))
  refine Go.iloadN X0 hx (hb hby at_0) rfl (q := 1) rfl ?_
  refine Go.iloadN X0 hx (hb hby at_1) rfl (q := 2) rfl ?_
  refine Go.callS X0 hx hZ hown (wd0 hw) (wd1 hw) (wd2 hw) (wd3 hw) (by decide) (cmin l Z a0 hw pa pb h0 O0) e0 (by rw [hml]; rfl) (hb hby at_2) (argsL := [(.int pa), (.int pb)]) (rest := []) (lenOf pd1 rfl) rfl rfl (W := 0) (by first | exact Nat.le_refl _ | decide) (by decide) (by decide) (by decide) (by decide) ?_
  intro v101 T101 L101 X101 hQ101
  obtain ⟨rfl, N101q, e101⟩ := hQ101
  have N101 := Fr.app N0 N101q
  refine Go.istoreN X101 hx (hb hby at_5) (l' := #[.val (.int pa), .val (.int pb), .val (.int pv), .val (.int (own_min pa pb)), .unset, .unset, .unset, .unset, .unset, .unset, .unset]) rfl (q := 6) rfl ?_
  refine Go.iloadN X101 hx (hb hby at_6) rfl (q := 7) rfl ?_
  refine Go.iloadN X101 hx (hb hby at_7) rfl (q := 8) rfl ?_
  refine Go.callS X101 hx hZ hown (wd4 hw) (wd5 hw) (wd2 hw) (wd6 hw) (by decide) (cmax l Z a0 hw pa pb h0 O0) e101 (by rw [hml]; rfl) (hb hby at_8) (argsL := [(.int pa), (.int pb)]) (rest := []) (lenOf pd1 rfl) rfl rfl (W := 0) (by first | exact Nat.le_refl _ | decide) (by decide) (by decide) (by decide) (by decide) ?_
  intro v102 T102 L102 X102 hQ102
  obtain ⟨rfl, N102q, e102⟩ := hQ102
  have N102 := Fr.app N101 N102q
  have hle := own_minmax pa pb
  generalize (own_min pa pb) = lo at hle ⊢
  generalize (own_max pa pb) = hi at hle ⊢
  show Go pp ee below _ (T102.setTop (mkF mm 11 #[.val (.int pa), .val (.int pb), .val (.int pv), .val (.int lo), .unset, .unset, .unset, .unset, .unset, .unset, .unset] [(.int hi)]))
  refine Go.istore X102 hx (hb hby at_11) (l' := #[.val (.int pa), .val (.int pb), .val (.int pv), .val (.int lo), .val (.int hi), .unset, .unset, .unset, .unset, .unset, .unset]) rfl (q := 13) rfl ?_
  refine Go.newO X102 hx hZ hown (wd7 hw) (wd8 hw) (wd9 hw) e102 (hb hby at_13) (by decide) (by decide) (q := 16) rfl ?_
  intro b103 T103 h103 X103 e103 q103 E103 A103 D103 U103
  have g_b103 : Z.heap.size ≤ b103 := Nat.le_trans O0.1 (Nat.le_of_eq q103)
  have OE103 := ext_trans O0 E103
  have F103_min : Fld Z h103 b103 "com/example/loopd/loopd/task/Bounds" "min" "I" (.int (0 : Int32)) := D103 (Or.inr (wd22 hw)) (ty := .int) (by decide)
  have F103_max : Fld Z h103 b103 "com/example/loopd/loopd/task/Bounds" "max" "I" (.int (0 : Int32)) := D103 (Or.inr (wd24 hw)) (ty := .int) (by decide)
  clear D103
  refine Go.dup X103 hx (hb hby at_16) rfl (q := 17) rfl ?_
  refine Go.iloadN X103 hx (hb hby at_17) rfl (q := 18) rfl ?_
  refine Go.iload X103 hx (hb hby at_18) rfl (q := 20) rfl ?_
  refine Go.init X103 hx hZ hown rfl (wd10 hw) (wd11 hw) (wd9 hw) (wd12 hw) (by decide) (cini l Z a0 hw b103 lo hi h103 OE103 A103 F103_min F103_max g_b103 hle) e103 (by rw [hml]; rfl) (hb hby at_20) (argsL := [(.int lo), (.int hi)]) (rest := [(.ref b103)]) (lenOf pd2 rfl) rfl rfl (W := 1) (by first | exact Nat.le_refl _ | decide) (by decide) (by decide) (by decide) (by decide) ?_
  intro v104 T104 L104 X104 hQ104
  obtain ⟨h104, e104⟩ : ∃ z, T104.heap = z := ⟨_, rfl⟩
  rw [e104] at hQ104
  obtain ⟨rfl, N104q, K104, P104_0, P104_1⟩ := hQ104
  have N104 := Fr.app N102 N104q
  replace A103 := A103.keep K104
  have OK104 := ext_keep OE103 K104 (allS g_b103 all0)
  refine Go.astore X104 hx (hb hby at_23) rfl (l' := #[.val (.int pa), .val (.int pb), .val (.int pv), .val (.int lo), .val (.int hi), .val (.ref b103), .unset, .unset, .unset, .unset, .unset]) rfl (q := 25) rfl ?_
  by_cases hc105 : pv < lo
  · show Go pp ee below _ (T104.setTop (mkF mm 25 #[.val (.int pa), .val (.int pb), .val (.int pv), .val (.int lo), .val (.int hi), .val (.ref b103), .unset, .unset, .unset, .unset, .unset] []))
    refine Go.iloadN X104 hx (hb hby at_25) rfl (q := 26) rfl ?_
    refine Go.i2l X104 hx (hb hby at_26) rfl (q := 27) rfl ?_
    refine Go.iloadN X104 hx (hb hby at_27) rfl (q := 28) rfl ?_
    refine Go.i2l X104 hx (hb hby at_28) rfl (q := 29) rfl ?_
    refine Go.lsub X104 hx (hb hby at_29) rfl (q := 30) rfl ?_
    refine Go.lstore X104 hx (hb hby at_30) (l' := #[.val (.int pa), .val (.int pb), .val (.int pv), .val (.int lo), .val (.int hi), .val (.ref b103), .val (.long ((pv.toInt64) - (lo.toInt64))), .second, .unset, .unset, .unset]) rfl (q := 32) rfl ?_
    refine Go.iload X104 hx (hb hby at_32) rfl (q := 34) rfl ?_
    refine Go.i2l X104 hx (hb hby at_34) rfl (q := 35) rfl ?_
    refine Go.iloadN X104 hx (hb hby at_35) rfl (q := 36) rfl ?_
    refine Go.i2l X104 hx (hb hby at_36) rfl (q := 37) rfl ?_
    refine Go.lsub X104 hx (hb hby at_37) rfl (q := 38) rfl ?_
    refine Go.lstore X104 hx (hb hby at_38) (l' := #[.val (.int pa), .val (.int pb), .val (.int pv), .val (.int lo), .val (.int hi), .val (.ref b103), .val (.long ((pv.toInt64) - (lo.toInt64))), .second, .val (.long ((hi.toInt64) - (pv.toInt64))), .second, .unset]) rfl (q := 40) rfl ?_
    refine Go.lload X104 hx (hb hby at_40) rfl (q := 42) rfl ?_
    refine Go.lconst X104 hx (hb hby at_42) (r := (0 : Int64)) rfl (q := 43) rfl ?_
    refine Go.lcmp X104 hx (hb hby at_43) rfl (q := 44) rfl ?_
    refine Go.ifYes X104 hx (hb hby at_44) (Jvm.Free.XT.ll_lt_t ((own_dif _ _).mpr hc105)) (q := 58) (by decide) (by decide) ?_
    refine Go.iconst X104 hx (hb hby at_58) (r := (0 : Int32)) rfl (q := 59) rfl ?_
    refine Go.istore X104 hx (hb hby at_59) (l' := #[.val (.int pa), .val (.int pb), .val (.int pv), .val (.int lo), .val (.int hi), .val (.ref b103), .val (.long ((pv.toInt64) - (lo.toInt64))), .second, .val (.long ((hi.toInt64) - (pv.toInt64))), .second, .val (.int (0 : Int32))]) rfl (q := 61) rfl ?_
    refine Go.aload X104 hx (hb hby at_61) rfl rfl (q := 63) rfl ?_
    refine Go.iloadN X104 hx (hb hby at_63) rfl (q := 64) rfl ?_
    refine Go.virt X104 hx hZ hown (wd25 hw) (wd26 hw) (notFace_of_selects (args := #[]) (mvT hZ (wd28 hw))) (wd28 hw) (wd27 hw) (wd9 hw) (wd29 hw) (by decide) (clo l Z a0 hw b103 lo hi pv h104 OK104 P104_0 P104_1 hc105) e104 A103 (by rw [hml]; rfl) (hb hby at_64) (argsL := [(.int pv)]) (rest := []) (lenOf pd3 rfl) rfl rfl (W := 0) (by first | exact Nat.le_refl _ | decide) (by decide) (by decide) (by decide) (by decide) ?_
    intro v106 T106 L106 X106 hQ106
    obtain ⟨rfl, N106q, e106⟩ := hQ106
    have N106 := Fr.app N104 N106q
    refine Go.iload X106 hx (hb hby at_67) rfl (q := 69) rfl ?_
    refine Go.icmpYes X106 hx (hb hby at_69) (by decide) (q := 74) (by decide) (by decide) ?_
    have hk107 : ¬ (lo < lo) := Int32.lt_irrefl
    refine Go.aload X106 hx (hb hby at_74) rfl rfl (q := 76) rfl ?_
    refine Go.iloadN X106 hx (hb hby at_76) rfl (q := 77) rfl ?_
    refine Go.virt X106 hx hZ hown (wd25 hw) (wd26 hw) (notFace_of_selects (args := #[]) (mvT hZ (wd28 hw))) (wd28 hw) (wd27 hw) (wd9 hw) (wd29 hw) (by decide) (cin l Z a0 hw b103 lo hi lo h104 OK104 P104_0 P104_1 hk107 hle) e106 A103 (by rw [hml]; rfl) (hb hby at_77) (argsL := [(.int lo)]) (rest := []) (lenOf pd3 rfl) rfl rfl (W := 0) (by first | exact Nat.le_refl _ | decide) (by decide) (by decide) (by decide) (by decide) ?_
    intro v108 T108 L108 X108 hQ108
    obtain ⟨rfl, N108q, e108⟩ := hQ108
    have N108 := Fr.app N106 N108q
    refine Go.ifNo X108 hx (hb hby at_80) (by decide) (q := 83) rfl ?_
    have hk109 : ¬ (hi < hi) := Int32.lt_irrefl
    refine Go.aload X108 hx (hb hby at_83) rfl rfl (q := 85) rfl ?_
    refine Go.iload X108 hx (hb hby at_85) rfl (q := 87) rfl ?_
    refine Go.virt X108 hx hZ hown (wd25 hw) (wd26 hw) (notFace_of_selects (args := #[]) (mvT hZ (wd28 hw))) (wd28 hw) (wd27 hw) (wd9 hw) (wd29 hw) (by decide) (cin l Z a0 hw b103 lo hi hi h104 OK104 P104_0 P104_1 hle hk109) e108 A103 (by rw [hml]; rfl) (hb hby at_87) (argsL := [(.int hi)]) (rest := []) (lenOf pd3 rfl) rfl rfl (W := 0) (by first | exact Nat.le_refl _ | decide) (by decide) (by decide) (by decide) (by decide) ?_
    intro v110 T110 L110 X110 hQ110
    obtain ⟨rfl, N110q, e110⟩ := hQ110
    have N110 := Fr.app N108 N110q
    refine Go.ifYes X110 hx (hb hby at_90) (by decide) (q := 95) (by decide) (by decide) ?_
    refine Go.iloadN X110 hx (hb hby at_95) rfl (q := 96) rfl ?_
    refine Go.ldcI X110 hx hZ hown (wd30 hw) (hb hby at_96) (q := 98) rfl ?_
    by_cases hc111 : lo = (-2147483648 : Int32)
    · refine Go.icmpYes X110 hx (hb hby at_98) (Jvm.Free.XT.ii_eq_t hc111) (q := 114) (by decide) (by decide) ?_
      refine Go.iload X110 hx (hb hby at_114) rfl (q := 116) rfl ?_
      refine Go.ldcI X110 hx hZ hown (wd31 hw) (hb hby at_116) (q := 118) rfl ?_
      by_cases hc112 : hi = (2147483647 : Int32)
      · refine Go.icmpYes X110 hx (hb hby at_118) (Jvm.Free.XT.ii_eq_t hc112) (q := 135) (by decide) (by decide) ?_
        refine Go.iconst X110 hx (hb hby at_135) (r := (1 : Int32)) rfl (q := 136) rfl ?_
        exact Go.retI X110 hx hret hlk (by simp) rfl (hb hby at_136) e110 (by decide) (by decide) ⟨rfl, N110⟩
      · refine Go.icmpNo X110 hx (hb hby at_118) (Jvm.Free.XT.ii_eq_f hc112) (q := 121) rfl ?_
        have hk113 : ¬ ((hi + (1 : Int32)) < lo) := own_succ2 hc112 hle
        have hk114 : hi < (hi + (1 : Int32)) := own_succ hc112
        refine Go.aload X110 hx (hb hby at_121) rfl rfl (q := 123) rfl ?_
        refine Go.iload X110 hx (hb hby at_123) rfl (q := 125) rfl ?_
        refine Go.iconst X110 hx (hb hby at_125) (r := (1 : Int32)) rfl (q := 126) rfl ?_
        refine Go.iadd X110 hx (hb hby at_126) rfl (q := 127) rfl ?_
        refine Go.virt X110 hx hZ hown (wd25 hw) (wd26 hw) (notFace_of_selects (args := #[]) (mvT hZ (wd28 hw))) (wd28 hw) (wd27 hw) (wd9 hw) (wd29 hw) (by decide) (chi l Z a0 hw b103 lo hi ((hi + (1 : Int32))) h104 OK104 P104_0 P104_1 hk113 hk114) e110 A103 (by rw [hml]; rfl) (hb hby at_127) (argsL := [(.int (hi + (1 : Int32)))]) (rest := []) (lenOf pd3 rfl) rfl rfl (W := 0) (by first | exact Nat.le_refl _ | decide) (by decide) (by decide) (by decide) (by decide) ?_
        intro v115 T115 L115 X115 hQ115
        obtain ⟨rfl, N115q, e115⟩ := hQ115
        have N115 := Fr.app N110 N115q
        refine Go.ifYes X115 hx (hb hby at_130) (by decide) (q := 135) (by decide) (by decide) ?_
        refine Go.iconst X115 hx (hb hby at_135) (r := (1 : Int32)) rfl (q := 136) rfl ?_
        exact Go.retI X115 hx hret hlk (by simp) rfl (hb hby at_136) e115 (by decide) (by decide) ⟨rfl, N115⟩
    · refine Go.icmpNo X110 hx (hb hby at_98) (Jvm.Free.XT.ii_eq_f hc111) (q := 101) rfl ?_
      have hk116 : (lo - (1 : Int32)) < lo := own_pred hc111
      refine Go.aload X110 hx (hb hby at_101) rfl rfl (q := 103) rfl ?_
      refine Go.iloadN X110 hx (hb hby at_103) rfl (q := 104) rfl ?_
      refine Go.iconst X110 hx (hb hby at_104) (r := (1 : Int32)) rfl (q := 105) rfl ?_
      refine Go.isub X110 hx (hb hby at_105) rfl (q := 106) rfl ?_
      refine Go.virt X110 hx hZ hown (wd25 hw) (wd26 hw) (notFace_of_selects (args := #[]) (mvT hZ (wd28 hw))) (wd28 hw) (wd27 hw) (wd9 hw) (wd29 hw) (by decide) (clo l Z a0 hw b103 lo hi ((lo - (1 : Int32))) h104 OK104 P104_0 P104_1 hk116) e110 A103 (by rw [hml]; rfl) (hb hby at_106) (argsL := [(.int (lo - (1 : Int32)))]) (rest := []) (lenOf pd3 rfl) rfl rfl (W := 0) (by first | exact Nat.le_refl _ | decide) (by decide) (by decide) (by decide) (by decide) ?_
      intro v117 T117 L117 X117 hQ117
      obtain ⟨rfl, N117q, e117⟩ := hQ117
      have N117 := Fr.app N110 N117q
      refine Go.ifYes X117 hx (hb hby at_109) (by decide) (q := 114) (by decide) (by decide) ?_
      refine Go.iload X117 hx (hb hby at_114) rfl (q := 116) rfl ?_
      refine Go.ldcI X117 hx hZ hown (wd31 hw) (hb hby at_116) (q := 118) rfl ?_
      by_cases hc118 : hi = (2147483647 : Int32)
      · refine Go.icmpYes X117 hx (hb hby at_118) (Jvm.Free.XT.ii_eq_t hc118) (q := 135) (by decide) (by decide) ?_
        refine Go.iconst X117 hx (hb hby at_135) (r := (1 : Int32)) rfl (q := 136) rfl ?_
        exact Go.retI X117 hx hret hlk (by simp) rfl (hb hby at_136) e117 (by decide) (by decide) ⟨rfl, N117⟩
      · refine Go.icmpNo X117 hx (hb hby at_118) (Jvm.Free.XT.ii_eq_f hc118) (q := 121) rfl ?_
        have hk119 : ¬ ((hi + (1 : Int32)) < lo) := own_succ2 hc118 hle
        have hk120 : hi < (hi + (1 : Int32)) := own_succ hc118
        refine Go.aload X117 hx (hb hby at_121) rfl rfl (q := 123) rfl ?_
        refine Go.iload X117 hx (hb hby at_123) rfl (q := 125) rfl ?_
        refine Go.iconst X117 hx (hb hby at_125) (r := (1 : Int32)) rfl (q := 126) rfl ?_
        refine Go.iadd X117 hx (hb hby at_126) rfl (q := 127) rfl ?_
        refine Go.virt X117 hx hZ hown (wd25 hw) (wd26 hw) (notFace_of_selects (args := #[]) (mvT hZ (wd28 hw))) (wd28 hw) (wd27 hw) (wd9 hw) (wd29 hw) (by decide) (chi l Z a0 hw b103 lo hi ((hi + (1 : Int32))) h104 OK104 P104_0 P104_1 hk119 hk120) e117 A103 (by rw [hml]; rfl) (hb hby at_127) (argsL := [(.int (hi + (1 : Int32)))]) (rest := []) (lenOf pd3 rfl) rfl rfl (W := 0) (by first | exact Nat.le_refl _ | decide) (by decide) (by decide) (by decide) (by decide) ?_
        intro v121 T121 L121 X121 hQ121
        obtain ⟨rfl, N121q, e121⟩ := hQ121
        have N121 := Fr.app N117 N121q
        refine Go.ifYes X121 hx (hb hby at_130) (by decide) (q := 135) (by decide) (by decide) ?_
        refine Go.iconst X121 hx (hb hby at_135) (r := (1 : Int32)) rfl (q := 136) rfl ?_
        exact Go.retI X121 hx hret hlk (by simp) rfl (hb hby at_136) e121 (by decide) (by decide) ⟨rfl, N121⟩
  · by_cases hc122 : hi < pv
    · show Go pp ee below _ (T104.setTop (mkF mm 25 #[.val (.int pa), .val (.int pb), .val (.int pv), .val (.int lo), .val (.int hi), .val (.ref b103), .unset, .unset, .unset, .unset, .unset] []))
      refine Go.iloadN X104 hx (hb hby at_25) rfl (q := 26) rfl ?_
      refine Go.i2l X104 hx (hb hby at_26) rfl (q := 27) rfl ?_
      refine Go.iloadN X104 hx (hb hby at_27) rfl (q := 28) rfl ?_
      refine Go.i2l X104 hx (hb hby at_28) rfl (q := 29) rfl ?_
      refine Go.lsub X104 hx (hb hby at_29) rfl (q := 30) rfl ?_
      refine Go.lstore X104 hx (hb hby at_30) (l' := #[.val (.int pa), .val (.int pb), .val (.int pv), .val (.int lo), .val (.int hi), .val (.ref b103), .val (.long ((pv.toInt64) - (lo.toInt64))), .second, .unset, .unset, .unset]) rfl (q := 32) rfl ?_
      refine Go.iload X104 hx (hb hby at_32) rfl (q := 34) rfl ?_
      refine Go.i2l X104 hx (hb hby at_34) rfl (q := 35) rfl ?_
      refine Go.iloadN X104 hx (hb hby at_35) rfl (q := 36) rfl ?_
      refine Go.i2l X104 hx (hb hby at_36) rfl (q := 37) rfl ?_
      refine Go.lsub X104 hx (hb hby at_37) rfl (q := 38) rfl ?_
      refine Go.lstore X104 hx (hb hby at_38) (l' := #[.val (.int pa), .val (.int pb), .val (.int pv), .val (.int lo), .val (.int hi), .val (.ref b103), .val (.long ((pv.toInt64) - (lo.toInt64))), .second, .val (.long ((hi.toInt64) - (pv.toInt64))), .second, .unset]) rfl (q := 40) rfl ?_
      refine Go.lload X104 hx (hb hby at_40) rfl (q := 42) rfl ?_
      refine Go.lconst X104 hx (hb hby at_42) (r := (0 : Int64)) rfl (q := 43) rfl ?_
      refine Go.lcmp X104 hx (hb hby at_43) rfl (q := 44) rfl ?_
      refine Go.ifNo X104 hx (hb hby at_44) (Jvm.Free.XT.ll_lt_f (mt (own_dif _ _).mp hc105)) (q := 47) rfl ?_
      refine Go.lload X104 hx (hb hby at_47) rfl (q := 49) rfl ?_
      refine Go.lconst X104 hx (hb hby at_49) (r := (0 : Int64)) rfl (q := 50) rfl ?_
      refine Go.lcmp X104 hx (hb hby at_50) rfl (q := 51) rfl ?_
      refine Go.ifYes X104 hx (hb hby at_51) (Jvm.Free.XT.ll_lt_t ((own_dif _ _).mpr hc122)) (q := 58) (by decide) (by decide) ?_
      refine Go.iconst X104 hx (hb hby at_58) (r := (0 : Int32)) rfl (q := 59) rfl ?_
      refine Go.istore X104 hx (hb hby at_59) (l' := #[.val (.int pa), .val (.int pb), .val (.int pv), .val (.int lo), .val (.int hi), .val (.ref b103), .val (.long ((pv.toInt64) - (lo.toInt64))), .second, .val (.long ((hi.toInt64) - (pv.toInt64))), .second, .val (.int (0 : Int32))]) rfl (q := 61) rfl ?_
      refine Go.aload X104 hx (hb hby at_61) rfl rfl (q := 63) rfl ?_
      refine Go.iloadN X104 hx (hb hby at_63) rfl (q := 64) rfl ?_
      refine Go.virt X104 hx hZ hown (wd25 hw) (wd26 hw) (notFace_of_selects (args := #[]) (mvT hZ (wd28 hw))) (wd28 hw) (wd27 hw) (wd9 hw) (wd29 hw) (by decide) (chi l Z a0 hw b103 lo hi pv h104 OK104 P104_0 P104_1 hc105 hc122) e104 A103 (by rw [hml]; rfl) (hb hby at_64) (argsL := [(.int pv)]) (rest := []) (lenOf pd3 rfl) rfl rfl (W := 0) (by first | exact Nat.le_refl _ | decide) (by decide) (by decide) (by decide) (by decide) ?_
      intro v123 T123 L123 X123 hQ123
      obtain ⟨rfl, N123q, e123⟩ := hQ123
      have N123 := Fr.app N104 N123q
      refine Go.iload X123 hx (hb hby at_67) rfl (q := 69) rfl ?_
      refine Go.icmpYes X123 hx (hb hby at_69) (by decide) (q := 74) (by decide) (by decide) ?_
      have hk124 : ¬ (lo < lo) := Int32.lt_irrefl
      refine Go.aload X123 hx (hb hby at_74) rfl rfl (q := 76) rfl ?_
      refine Go.iloadN X123 hx (hb hby at_76) rfl (q := 77) rfl ?_
      refine Go.virt X123 hx hZ hown (wd25 hw) (wd26 hw) (notFace_of_selects (args := #[]) (mvT hZ (wd28 hw))) (wd28 hw) (wd27 hw) (wd9 hw) (wd29 hw) (by decide) (cin l Z a0 hw b103 lo hi lo h104 OK104 P104_0 P104_1 hk124 hle) e123 A103 (by rw [hml]; rfl) (hb hby at_77) (argsL := [(.int lo)]) (rest := []) (lenOf pd3 rfl) rfl rfl (W := 0) (by first | exact Nat.le_refl _ | decide) (by decide) (by decide) (by decide) (by decide) ?_
      intro v125 T125 L125 X125 hQ125
      obtain ⟨rfl, N125q, e125⟩ := hQ125
      have N125 := Fr.app N123 N125q
      refine Go.ifNo X125 hx (hb hby at_80) (by decide) (q := 83) rfl ?_
      have hk126 : ¬ (hi < hi) := Int32.lt_irrefl
      refine Go.aload X125 hx (hb hby at_83) rfl rfl (q := 85) rfl ?_
      refine Go.iload X125 hx (hb hby at_85) rfl (q := 87) rfl ?_
      refine Go.virt X125 hx hZ hown (wd25 hw) (wd26 hw) (notFace_of_selects (args := #[]) (mvT hZ (wd28 hw))) (wd28 hw) (wd27 hw) (wd9 hw) (wd29 hw) (by decide) (cin l Z a0 hw b103 lo hi hi h104 OK104 P104_0 P104_1 hle hk126) e125 A103 (by rw [hml]; rfl) (hb hby at_87) (argsL := [(.int hi)]) (rest := []) (lenOf pd3 rfl) rfl rfl (W := 0) (by first | exact Nat.le_refl _ | decide) (by decide) (by decide) (by decide) (by decide) ?_
      intro v127 T127 L127 X127 hQ127
      obtain ⟨rfl, N127q, e127⟩ := hQ127
      have N127 := Fr.app N125 N127q
      refine Go.ifYes X127 hx (hb hby at_90) (by decide) (q := 95) (by decide) (by decide) ?_
      refine Go.iloadN X127 hx (hb hby at_95) rfl (q := 96) rfl ?_
      refine Go.ldcI X127 hx hZ hown (wd30 hw) (hb hby at_96) (q := 98) rfl ?_
      by_cases hc128 : lo = (-2147483648 : Int32)
      · refine Go.icmpYes X127 hx (hb hby at_98) (Jvm.Free.XT.ii_eq_t hc128) (q := 114) (by decide) (by decide) ?_
        refine Go.iload X127 hx (hb hby at_114) rfl (q := 116) rfl ?_
        refine Go.ldcI X127 hx hZ hown (wd31 hw) (hb hby at_116) (q := 118) rfl ?_
        by_cases hc129 : hi = (2147483647 : Int32)
        · refine Go.icmpYes X127 hx (hb hby at_118) (Jvm.Free.XT.ii_eq_t hc129) (q := 135) (by decide) (by decide) ?_
          refine Go.iconst X127 hx (hb hby at_135) (r := (1 : Int32)) rfl (q := 136) rfl ?_
          exact Go.retI X127 hx hret hlk (by simp) rfl (hb hby at_136) e127 (by decide) (by decide) ⟨rfl, N127⟩
        · refine Go.icmpNo X127 hx (hb hby at_118) (Jvm.Free.XT.ii_eq_f hc129) (q := 121) rfl ?_
          have hk130 : ¬ ((hi + (1 : Int32)) < lo) := own_succ2 hc129 hle
          have hk131 : hi < (hi + (1 : Int32)) := own_succ hc129
          refine Go.aload X127 hx (hb hby at_121) rfl rfl (q := 123) rfl ?_
          refine Go.iload X127 hx (hb hby at_123) rfl (q := 125) rfl ?_
          refine Go.iconst X127 hx (hb hby at_125) (r := (1 : Int32)) rfl (q := 126) rfl ?_
          refine Go.iadd X127 hx (hb hby at_126) rfl (q := 127) rfl ?_
          refine Go.virt X127 hx hZ hown (wd25 hw) (wd26 hw) (notFace_of_selects (args := #[]) (mvT hZ (wd28 hw))) (wd28 hw) (wd27 hw) (wd9 hw) (wd29 hw) (by decide) (chi l Z a0 hw b103 lo hi ((hi + (1 : Int32))) h104 OK104 P104_0 P104_1 hk130 hk131) e127 A103 (by rw [hml]; rfl) (hb hby at_127) (argsL := [(.int (hi + (1 : Int32)))]) (rest := []) (lenOf pd3 rfl) rfl rfl (W := 0) (by first | exact Nat.le_refl _ | decide) (by decide) (by decide) (by decide) (by decide) ?_
          intro v132 T132 L132 X132 hQ132
          obtain ⟨rfl, N132q, e132⟩ := hQ132
          have N132 := Fr.app N127 N132q
          refine Go.ifYes X132 hx (hb hby at_130) (by decide) (q := 135) (by decide) (by decide) ?_
          refine Go.iconst X132 hx (hb hby at_135) (r := (1 : Int32)) rfl (q := 136) rfl ?_
          exact Go.retI X132 hx hret hlk (by simp) rfl (hb hby at_136) e132 (by decide) (by decide) ⟨rfl, N132⟩
      · refine Go.icmpNo X127 hx (hb hby at_98) (Jvm.Free.XT.ii_eq_f hc128) (q := 101) rfl ?_
        have hk133 : (lo - (1 : Int32)) < lo := own_pred hc128
        refine Go.aload X127 hx (hb hby at_101) rfl rfl (q := 103) rfl ?_
        refine Go.iloadN X127 hx (hb hby at_103) rfl (q := 104) rfl ?_
        refine Go.iconst X127 hx (hb hby at_104) (r := (1 : Int32)) rfl (q := 105) rfl ?_
        refine Go.isub X127 hx (hb hby at_105) rfl (q := 106) rfl ?_
        refine Go.virt X127 hx hZ hown (wd25 hw) (wd26 hw) (notFace_of_selects (args := #[]) (mvT hZ (wd28 hw))) (wd28 hw) (wd27 hw) (wd9 hw) (wd29 hw) (by decide) (clo l Z a0 hw b103 lo hi ((lo - (1 : Int32))) h104 OK104 P104_0 P104_1 hk133) e127 A103 (by rw [hml]; rfl) (hb hby at_106) (argsL := [(.int (lo - (1 : Int32)))]) (rest := []) (lenOf pd3 rfl) rfl rfl (W := 0) (by first | exact Nat.le_refl _ | decide) (by decide) (by decide) (by decide) (by decide) ?_
        intro v134 T134 L134 X134 hQ134
        obtain ⟨rfl, N134q, e134⟩ := hQ134
        have N134 := Fr.app N127 N134q
        refine Go.ifYes X134 hx (hb hby at_109) (by decide) (q := 114) (by decide) (by decide) ?_
        refine Go.iload X134 hx (hb hby at_114) rfl (q := 116) rfl ?_
        refine Go.ldcI X134 hx hZ hown (wd31 hw) (hb hby at_116) (q := 118) rfl ?_
        by_cases hc135 : hi = (2147483647 : Int32)
        · refine Go.icmpYes X134 hx (hb hby at_118) (Jvm.Free.XT.ii_eq_t hc135) (q := 135) (by decide) (by decide) ?_
          refine Go.iconst X134 hx (hb hby at_135) (r := (1 : Int32)) rfl (q := 136) rfl ?_
          exact Go.retI X134 hx hret hlk (by simp) rfl (hb hby at_136) e134 (by decide) (by decide) ⟨rfl, N134⟩
        · refine Go.icmpNo X134 hx (hb hby at_118) (Jvm.Free.XT.ii_eq_f hc135) (q := 121) rfl ?_
          have hk136 : ¬ ((hi + (1 : Int32)) < lo) := own_succ2 hc135 hle
          have hk137 : hi < (hi + (1 : Int32)) := own_succ hc135
          refine Go.aload X134 hx (hb hby at_121) rfl rfl (q := 123) rfl ?_
          refine Go.iload X134 hx (hb hby at_123) rfl (q := 125) rfl ?_
          refine Go.iconst X134 hx (hb hby at_125) (r := (1 : Int32)) rfl (q := 126) rfl ?_
          refine Go.iadd X134 hx (hb hby at_126) rfl (q := 127) rfl ?_
          refine Go.virt X134 hx hZ hown (wd25 hw) (wd26 hw) (notFace_of_selects (args := #[]) (mvT hZ (wd28 hw))) (wd28 hw) (wd27 hw) (wd9 hw) (wd29 hw) (by decide) (chi l Z a0 hw b103 lo hi ((hi + (1 : Int32))) h104 OK104 P104_0 P104_1 hk136 hk137) e134 A103 (by rw [hml]; rfl) (hb hby at_127) (argsL := [(.int (hi + (1 : Int32)))]) (rest := []) (lenOf pd3 rfl) rfl rfl (W := 0) (by first | exact Nat.le_refl _ | decide) (by decide) (by decide) (by decide) (by decide) ?_
          intro v138 T138 L138 X138 hQ138
          obtain ⟨rfl, N138q, e138⟩ := hQ138
          have N138 := Fr.app N134 N138q
          refine Go.ifYes X138 hx (hb hby at_130) (by decide) (q := 135) (by decide) (by decide) ?_
          refine Go.iconst X138 hx (hb hby at_135) (r := (1 : Int32)) rfl (q := 136) rfl ?_
          exact Go.retI X138 hx hret hlk (by simp) rfl (hb hby at_136) e138 (by decide) (by decide) ⟨rfl, N138⟩
    · show Go pp ee below _ (T104.setTop (mkF mm 25 #[.val (.int pa), .val (.int pb), .val (.int pv), .val (.int lo), .val (.int hi), .val (.ref b103), .unset, .unset, .unset, .unset, .unset] []))
      refine Go.iloadN X104 hx (hb hby at_25) rfl (q := 26) rfl ?_
      refine Go.i2l X104 hx (hb hby at_26) rfl (q := 27) rfl ?_
      refine Go.iloadN X104 hx (hb hby at_27) rfl (q := 28) rfl ?_
      refine Go.i2l X104 hx (hb hby at_28) rfl (q := 29) rfl ?_
      refine Go.lsub X104 hx (hb hby at_29) rfl (q := 30) rfl ?_
      refine Go.lstore X104 hx (hb hby at_30) (l' := #[.val (.int pa), .val (.int pb), .val (.int pv), .val (.int lo), .val (.int hi), .val (.ref b103), .val (.long ((pv.toInt64) - (lo.toInt64))), .second, .unset, .unset, .unset]) rfl (q := 32) rfl ?_
      refine Go.iload X104 hx (hb hby at_32) rfl (q := 34) rfl ?_
      refine Go.i2l X104 hx (hb hby at_34) rfl (q := 35) rfl ?_
      refine Go.iloadN X104 hx (hb hby at_35) rfl (q := 36) rfl ?_
      refine Go.i2l X104 hx (hb hby at_36) rfl (q := 37) rfl ?_
      refine Go.lsub X104 hx (hb hby at_37) rfl (q := 38) rfl ?_
      refine Go.lstore X104 hx (hb hby at_38) (l' := #[.val (.int pa), .val (.int pb), .val (.int pv), .val (.int lo), .val (.int hi), .val (.ref b103), .val (.long ((pv.toInt64) - (lo.toInt64))), .second, .val (.long ((hi.toInt64) - (pv.toInt64))), .second, .unset]) rfl (q := 40) rfl ?_
      refine Go.lload X104 hx (hb hby at_40) rfl (q := 42) rfl ?_
      refine Go.lconst X104 hx (hb hby at_42) (r := (0 : Int64)) rfl (q := 43) rfl ?_
      refine Go.lcmp X104 hx (hb hby at_43) rfl (q := 44) rfl ?_
      refine Go.ifNo X104 hx (hb hby at_44) (Jvm.Free.XT.ll_lt_f (mt (own_dif _ _).mp hc105)) (q := 47) rfl ?_
      refine Go.lload X104 hx (hb hby at_47) rfl (q := 49) rfl ?_
      refine Go.lconst X104 hx (hb hby at_49) (r := (0 : Int64)) rfl (q := 50) rfl ?_
      refine Go.lcmp X104 hx (hb hby at_50) rfl (q := 51) rfl ?_
      refine Go.ifNo X104 hx (hb hby at_51) (Jvm.Free.XT.ll_lt_f (mt (own_dif _ _).mp hc122)) (q := 54) rfl ?_
      refine Go.iconst X104 hx (hb hby at_54) (r := (1 : Int32)) rfl (q := 55) rfl ?_
      refine Go.goto X104 hx (hb hby at_55) (q := 59) (by decide) (by decide) ?_
      refine Go.istore X104 hx (hb hby at_59) (l' := #[.val (.int pa), .val (.int pb), .val (.int pv), .val (.int lo), .val (.int hi), .val (.ref b103), .val (.long ((pv.toInt64) - (lo.toInt64))), .second, .val (.long ((hi.toInt64) - (pv.toInt64))), .second, .val (.int (1 : Int32))]) rfl (q := 61) rfl ?_
      refine Go.aload X104 hx (hb hby at_61) rfl rfl (q := 63) rfl ?_
      refine Go.iloadN X104 hx (hb hby at_63) rfl (q := 64) rfl ?_
      refine Go.virt X104 hx hZ hown (wd25 hw) (wd26 hw) (notFace_of_selects (args := #[]) (mvT hZ (wd28 hw))) (wd28 hw) (wd27 hw) (wd9 hw) (wd29 hw) (by decide) (cin l Z a0 hw b103 lo hi pv h104 OK104 P104_0 P104_1 hc105 hc122) e104 A103 (by rw [hml]; rfl) (hb hby at_64) (argsL := [(.int pv)]) (rest := []) (lenOf pd3 rfl) rfl rfl (W := 0) (by first | exact Nat.le_refl _ | decide) (by decide) (by decide) (by decide) (by decide) ?_
      intro v139 T139 L139 X139 hQ139
      obtain ⟨rfl, N139q, e139⟩ := hQ139
      have N139 := Fr.app N104 N139q
      refine Go.iload X139 hx (hb hby at_67) rfl (q := 69) rfl ?_
      refine Go.icmpYes X139 hx (hb hby at_69) (by decide) (q := 74) (by decide) (by decide) ?_
      have hk140 : ¬ (lo < lo) := Int32.lt_irrefl
      refine Go.aload X139 hx (hb hby at_74) rfl rfl (q := 76) rfl ?_
      refine Go.iloadN X139 hx (hb hby at_76) rfl (q := 77) rfl ?_
      refine Go.virt X139 hx hZ hown (wd25 hw) (wd26 hw) (notFace_of_selects (args := #[]) (mvT hZ (wd28 hw))) (wd28 hw) (wd27 hw) (wd9 hw) (wd29 hw) (by decide) (cin l Z a0 hw b103 lo hi lo h104 OK104 P104_0 P104_1 hk140 hle) e139 A103 (by rw [hml]; rfl) (hb hby at_77) (argsL := [(.int lo)]) (rest := []) (lenOf pd3 rfl) rfl rfl (W := 0) (by first | exact Nat.le_refl _ | decide) (by decide) (by decide) (by decide) (by decide) ?_
      intro v141 T141 L141 X141 hQ141
      obtain ⟨rfl, N141q, e141⟩ := hQ141
      have N141 := Fr.app N139 N141q
      refine Go.ifNo X141 hx (hb hby at_80) (by decide) (q := 83) rfl ?_
      have hk142 : ¬ (hi < hi) := Int32.lt_irrefl
      refine Go.aload X141 hx (hb hby at_83) rfl rfl (q := 85) rfl ?_
      refine Go.iload X141 hx (hb hby at_85) rfl (q := 87) rfl ?_
      refine Go.virt X141 hx hZ hown (wd25 hw) (wd26 hw) (notFace_of_selects (args := #[]) (mvT hZ (wd28 hw))) (wd28 hw) (wd27 hw) (wd9 hw) (wd29 hw) (by decide) (cin l Z a0 hw b103 lo hi hi h104 OK104 P104_0 P104_1 hle hk142) e141 A103 (by rw [hml]; rfl) (hb hby at_87) (argsL := [(.int hi)]) (rest := []) (lenOf pd3 rfl) rfl rfl (W := 0) (by first | exact Nat.le_refl _ | decide) (by decide) (by decide) (by decide) (by decide) ?_
      intro v143 T143 L143 X143 hQ143
      obtain ⟨rfl, N143q, e143⟩ := hQ143
      have N143 := Fr.app N141 N143q
      refine Go.ifYes X143 hx (hb hby at_90) (by decide) (q := 95) (by decide) (by decide) ?_
      refine Go.iloadN X143 hx (hb hby at_95) rfl (q := 96) rfl ?_
      refine Go.ldcI X143 hx hZ hown (wd30 hw) (hb hby at_96) (q := 98) rfl ?_
      by_cases hc144 : lo = (-2147483648 : Int32)
      · refine Go.icmpYes X143 hx (hb hby at_98) (Jvm.Free.XT.ii_eq_t hc144) (q := 114) (by decide) (by decide) ?_
        refine Go.iload X143 hx (hb hby at_114) rfl (q := 116) rfl ?_
        refine Go.ldcI X143 hx hZ hown (wd31 hw) (hb hby at_116) (q := 118) rfl ?_
        by_cases hc145 : hi = (2147483647 : Int32)
        · refine Go.icmpYes X143 hx (hb hby at_118) (Jvm.Free.XT.ii_eq_t hc145) (q := 135) (by decide) (by decide) ?_
          refine Go.iconst X143 hx (hb hby at_135) (r := (1 : Int32)) rfl (q := 136) rfl ?_
          exact Go.retI X143 hx hret hlk (by simp) rfl (hb hby at_136) e143 (by decide) (by decide) ⟨rfl, N143⟩
        · refine Go.icmpNo X143 hx (hb hby at_118) (Jvm.Free.XT.ii_eq_f hc145) (q := 121) rfl ?_
          have hk146 : ¬ ((hi + (1 : Int32)) < lo) := own_succ2 hc145 hle
          have hk147 : hi < (hi + (1 : Int32)) := own_succ hc145
          refine Go.aload X143 hx (hb hby at_121) rfl rfl (q := 123) rfl ?_
          refine Go.iload X143 hx (hb hby at_123) rfl (q := 125) rfl ?_
          refine Go.iconst X143 hx (hb hby at_125) (r := (1 : Int32)) rfl (q := 126) rfl ?_
          refine Go.iadd X143 hx (hb hby at_126) rfl (q := 127) rfl ?_
          refine Go.virt X143 hx hZ hown (wd25 hw) (wd26 hw) (notFace_of_selects (args := #[]) (mvT hZ (wd28 hw))) (wd28 hw) (wd27 hw) (wd9 hw) (wd29 hw) (by decide) (chi l Z a0 hw b103 lo hi ((hi + (1 : Int32))) h104 OK104 P104_0 P104_1 hk146 hk147) e143 A103 (by rw [hml]; rfl) (hb hby at_127) (argsL := [(.int (hi + (1 : Int32)))]) (rest := []) (lenOf pd3 rfl) rfl rfl (W := 0) (by first | exact Nat.le_refl _ | decide) (by decide) (by decide) (by decide) (by decide) ?_
          intro v148 T148 L148 X148 hQ148
          obtain ⟨rfl, N148q, e148⟩ := hQ148
          have N148 := Fr.app N143 N148q
          refine Go.ifYes X148 hx (hb hby at_130) (by decide) (q := 135) (by decide) (by decide) ?_
          refine Go.iconst X148 hx (hb hby at_135) (r := (1 : Int32)) rfl (q := 136) rfl ?_
          exact Go.retI X148 hx hret hlk (by simp) rfl (hb hby at_136) e148 (by decide) (by decide) ⟨rfl, N148⟩
      · refine Go.icmpNo X143 hx (hb hby at_98) (Jvm.Free.XT.ii_eq_f hc144) (q := 101) rfl ?_
        have hk149 : (lo - (1 : Int32)) < lo := own_pred hc144
        refine Go.aload X143 hx (hb hby at_101) rfl rfl (q := 103) rfl ?_
        refine Go.iloadN X143 hx (hb hby at_103) rfl (q := 104) rfl ?_
        refine Go.iconst X143 hx (hb hby at_104) (r := (1 : Int32)) rfl (q := 105) rfl ?_
        refine Go.isub X143 hx (hb hby at_105) rfl (q := 106) rfl ?_
        refine Go.virt X143 hx hZ hown (wd25 hw) (wd26 hw) (notFace_of_selects (args := #[]) (mvT hZ (wd28 hw))) (wd28 hw) (wd27 hw) (wd9 hw) (wd29 hw) (by decide) (clo l Z a0 hw b103 lo hi ((lo - (1 : Int32))) h104 OK104 P104_0 P104_1 hk149) e143 A103 (by rw [hml]; rfl) (hb hby at_106) (argsL := [(.int (lo - (1 : Int32)))]) (rest := []) (lenOf pd3 rfl) rfl rfl (W := 0) (by first | exact Nat.le_refl _ | decide) (by decide) (by decide) (by decide) (by decide) ?_
        intro v150 T150 L150 X150 hQ150
        obtain ⟨rfl, N150q, e150⟩ := hQ150
        have N150 := Fr.app N143 N150q
        refine Go.ifYes X150 hx (hb hby at_109) (by decide) (q := 114) (by decide) (by decide) ?_
        refine Go.iload X150 hx (hb hby at_114) rfl (q := 116) rfl ?_
        refine Go.ldcI X150 hx hZ hown (wd31 hw) (hb hby at_116) (q := 118) rfl ?_
        by_cases hc151 : hi = (2147483647 : Int32)
        · refine Go.icmpYes X150 hx (hb hby at_118) (Jvm.Free.XT.ii_eq_t hc151) (q := 135) (by decide) (by decide) ?_
          refine Go.iconst X150 hx (hb hby at_135) (r := (1 : Int32)) rfl (q := 136) rfl ?_
          exact Go.retI X150 hx hret hlk (by simp) rfl (hb hby at_136) e150 (by decide) (by decide) ⟨rfl, N150⟩
        · refine Go.icmpNo X150 hx (hb hby at_118) (Jvm.Free.XT.ii_eq_f hc151) (q := 121) rfl ?_
          have hk152 : ¬ ((hi + (1 : Int32)) < lo) := own_succ2 hc151 hle
          have hk153 : hi < (hi + (1 : Int32)) := own_succ hc151
          refine Go.aload X150 hx (hb hby at_121) rfl rfl (q := 123) rfl ?_
          refine Go.iload X150 hx (hb hby at_123) rfl (q := 125) rfl ?_
          refine Go.iconst X150 hx (hb hby at_125) (r := (1 : Int32)) rfl (q := 126) rfl ?_
          refine Go.iadd X150 hx (hb hby at_126) rfl (q := 127) rfl ?_
          refine Go.virt X150 hx hZ hown (wd25 hw) (wd26 hw) (notFace_of_selects (args := #[]) (mvT hZ (wd28 hw))) (wd28 hw) (wd27 hw) (wd9 hw) (wd29 hw) (by decide) (chi l Z a0 hw b103 lo hi ((hi + (1 : Int32))) h104 OK104 P104_0 P104_1 hk152 hk153) e150 A103 (by rw [hml]; rfl) (hb hby at_127) (argsL := [(.int (hi + (1 : Int32)))]) (rest := []) (lenOf pd3 rfl) rfl rfl (W := 0) (by first | exact Nat.le_refl _ | decide) (by decide) (by decide) (by decide) (by decide) ?_
          intro v154 T154 L154 X154 hQ154
          obtain ⟨rfl, N154q, e154⟩ := hQ154
          have N154 := Fr.app N150 N154q
          refine Go.ifYes X154 hx (hb hby at_130) (by decide) (q := 135) (by decide) (by decide) ?_
          refine Go.iconst X154 hx (hb hby at_135) (r := (1 : Int32)) rfl (q := 136) rfl ?_
          exact Go.retI X154 hx hret hlk (by simp) rfl (hb hby at_136) e154 (by decide) (by decide) ⟨rfl, N154⟩
set_option maxRecDepth 65536 in
set_option maxHeartbeats 40000000 in
theorem comes_1 {Post : Tables → Env → Array Value → State → Outcome → State → Prop} (hpost : ∀ tb e args s v u, (limb_1_1.after args s (.returned v) u = true ∧ limb_1_2.after args s (.returned v) u = true ∧ True) → FrameEnd s (.returned v) u (Jvm.fieldLocs frame_1_writes args s ++ Jvm.arrayLocs frame_1_arrays args s ++ Jvm.staticLocs frame_1_statics s) 16 128 → Post tb e args s (.returned v) u) :
    ArmFor flags0 classFile x code maxLocals ret World_1 tables_1 room_1 Calls_1 rest_1 Pre_1 Post := by
  intro l hfl _ _ p e ha hc hk s m args below hf hA hF happ hP
  obtain ⟨hcalls, hrest, hpre⟩ := hP
  obtain ⟨-, -, -, hnamed, -, -, -, hat⟩ := (Spec.applies_iff hf).mp happ
  obtain ⟨hg, hn⟩ := and_e (Cond.before_iff.mp (show (Jvm.Cond.and given_1 narrow_1).before args s = true from hpre))
  obtain ⟨ga1, gb1⟩ := and_e hg
  obtain ⟨ga2, gb2⟩ := and_e gb1
  obtain ⟨ga3, gb3⟩ := and_e gb2
  obtain ⟨w0, w1, w2, rfl⟩ : ∃ w0 w1 w2 : Value, args = #[w0, w1, w2] := by
    have hs : args.size = 3 := by simpa [Cond.value, given_1] using ga1
    obtain ⟨L⟩ := args
    match L, hs with
    | [w0, w1, w2], _ => exact ⟨w0, w1, w2, rfl⟩
  have hw := fun d (hd : d ∈ tables_1) => atoms_spec (ws := Jvm.Cond.code x code maxLocals ret :: tables_1) hat d (List.mem_cons_of_mem _ hd)
  have hfit : Fit s := fun {y c} hc i hi => by
    obtain ⟨ha, rfl⟩ := Array.getElem?_eq_some_iff.mp hc
    have q := List.all_eq_true.mp ((Array.all_eq_true_iff_forall_mem.mp hF) _ (Array.getElem_mem ha)) i (List.mem_range.mpr hi)
    simpa [Array.getElem?_eq_getElem hi] using q
  obtain ⟨i0, ei0⟩ := is_v ga2
  obtain rfl : w0 = (.int i0) := Option.some.inj ei0
  obtain ⟨i1, ei1⟩ := is_v ga3
  obtain rfl : w1 = (.int i1) := Option.some.inj ei1
  obtain ⟨i2, ei2⟩ := is_v gb3
  obtain rfl : w2 = (.int i2) := Option.some.inj ei2
  obtain ⟨n, o, h1, h2, h3, _, L, rfl, ⟨rfl, N⟩, hq⟩ := law0 l s _ hw i0 i1 i2 s.heap ⟨Nat.le_refl _, fun _ _ q => q⟩ p e ha hc hk s m _ below hf ((Spec.applies_iff_loose hf).mp happ).1 ⟨rfl, State.Warmed39.refl s, rfl⟩ trivial
  refine ⟨n, _, h1, h2, h3, hpost _ _ _ _ _ _ ⟨Cond.after_iff.mpr rfl, Cond.after_iff.mpr (eq_i res_at (Term.int_eval (1)) rfl), trivial⟩ ⟨hq.1, hq.2.1, (hq.2.2.sift fun y hy => Or.inr (N y hy)).mono (by decide) (by decide)⟩⟩
theorem main_1_1 : Claimed_1_1 := comes_1 fun _ _ _ _ _ _ h hF => ⟨h.1, hF⟩
theorem main_1_2 : Claimed_1_2 := comes_1 fun _ _ _ _ _ _ h hF => ⟨h.2.1, hF⟩
end Jvm.Pilot.@@N@@
namespace Jvm.Pilot.@@N@@
open Jvm Jvm.ClassFile Sem Op Lib Jvm.Free Jvm.Stand Jvm.Pilot.@@N@@.Jvm.D
/-! MADE BY PROGRAM (witnessworld.py) out of the Statement's table words and the real class files: 11 classes; the members and pool entries that the words name. The judged class is class 1, her method 1. -/
namespace start1
open Jvm.ClassFile
def u (s : String) : CpInfo := .utf8 (stringToUtf16 s)
/-- a pool by its gaps: so many unusable entries, then the entry; so many at the end -/
def gap : Nat → List CpInfo → List CpInfo
  | 0, r => r
  | n + 1, r => .unusable :: gap n r
def poolList (es : List (Nat × CpInfo)) (last : Nat) : List CpInfo := es.foldr (fun e r => gap e.1 (e.2 :: r)) (gap last [])
def pool (es : List (Nat × CpInfo)) (last : Nat) : Array CpInfo := ⟨poolList es last⟩
def fileOf (pool : Array CpInfo) (this : Nat) (attrs : Array Attribute := #[]) (ms : Array MethodInfo := #[]) (fl : Nat := 33) (sup : Nat := 0) (ifs : Array Nat := #[]) (fds : Array FieldInfo := #[]) : ClassFile where
  minorVersion := 0
  majorVersion := 65
  constantPool := pool
  accessFlags := fl
  thisClass := this
  superClass := sup
  interfaces := ifs
  fields := fds
  methods := ms
  attributes := attrs
def plain (name : String) (sup : Option ClassId) : Class where
  name := name
  kind := .ordinary
  loader := none
  accessFlags := 33
  super := sup
  interfaces := #[]
  cf := none
  fields := #[]
  methods := #[]
  instanceTypes := #[]
  staticTypes := #[]
  resolved := #[]
  callSites := []
  init := .initialized
  statics := none
  mirror := none

def pool0 : Array CpInfo := pool [(5, u "<init>"), (0, u "()V"), (1, .class_ 10), (1, u "java/lang/Object")] 113

def k0c0 : Code := { maxStack := 0, maxLocals := 1, code := object_method_1_code, exceptionTable := #[], attributes := #[] }
def k0m0 : Method := { name := "<init>", desc := "()V", sig := { parameters := [], returnType := none }, accessFlags := 1, code := some k0c0 }
/-- java/lang/Object -/
def k0 : Class := { plain "java/lang/Object" none with
  accessFlags := 33
  interfaces := #[]
  cf := some (fileOf pool0 8 #[] #[{ accessFlags := 1, nameIndex := 5, descriptorIndex := 6, attributes := #[] }] 33 0 #[] #[])
  fields := #[]
  methods := #[k0m0]
  instanceTypes := #[]
  staticTypes := #[]
  resolved := Array.replicate 124 none
  statics := none }

def pool1 : Array CpInfo := pool [(2, .class_ 4), (1, u "java/lang/Object"), (0, u "<init>"), (0, u "()V"), (0, .methodref 8 9), (0, .class_ 10), (0, .nameAndType 11 12), (0, u "java/lang/Math"), (0, u "min"), (0, u "(II)I"), (0, .methodref 8 14), (0, .nameAndType 15 12), (0, u "max"), (0, .class_ 17), (0, u "com/example/loopd/loopd/task/Bounds"), (0, .methodref 16 19), (0, .nameAndType 5 20), (0, u "(II)V"), (0, .methodref 16 22), (0, .nameAndType 23 24), (0, u "contains"), (0, u "(I)Z"), (2, .integer 2147483648), (0, .integer 2147483647), (0, .class_ 30), (0, u "com/example/loopd/loopd/task/BoundsContainsPinLaw"), (2, u "law"), (0, u "(III)Z")] 3

def k1m0 : Method := { name := "<init>", desc := "()V", sig := { parameters := [], returnType := none }, accessFlags := 1, code := none }
def k1c1 : Code := { maxStack := 4, maxLocals := 11, code := code, exceptionTable := #[], attributes := #[] }
def k1m1 : Method := { name := "law", desc := "(III)Z", sig := { parameters := [.int, .int, .int], returnType := some .boolean }, accessFlags := 9, code := some k1c1 }
/-- com/example/loopd/loopd/task/BoundsContainsPinLaw -/
def k1 : Class := { plain "com/example/loopd/loopd/task/BoundsContainsPinLaw" (some 0) with
  accessFlags := 49
  interfaces := #[]
  cf := some (fileOf pool1 29 #[] #[{ accessFlags := 1, nameIndex := 5, descriptorIndex := 6, attributes := #[] }, { accessFlags := 9, nameIndex := 33, descriptorIndex := 34, attributes := #[] }] 49 2 #[] #[])
  fields := #[]
  methods := #[k1m0, k1m1]
  instanceTypes := #[]
  staticTypes := #[]
  resolved := Array.replicate 38 none
  statics := none }

def pool2 : Array CpInfo := pool [(1, .class_ 2), (0, u "java/lang/Math"), (1, .class_ 6), (1, u "java/lang/Object"), (0, u "<init>"), (0, u "()V"), (89, .class_ 100), (1, u "java/lang/Math$RandomNumberGeneratorHolder"), (71, u "negativeZeroFloatBits"), (0, u "J"), (2, u "negativeZeroDoubleBits"), (21, u "max"), (2, u "min"), (43, u "$assertionsDisabled"), (0, u "Z"), (88, u "(II)I"), (2, u "twoToTheDoubleScaleDown"), (0, u "D"), (4, u "twoToTheDoubleScaleUp"), (9, u "E"), (3, u "PI"), (2, u "TAU"), (2, u "DEGREES_TO_RADIANS"), (0, u "RADIANS_TO_DEGREES")] 94

def k2m0 : Method := { name := "<init>", desc := "()V", sig := { parameters := [], returnType := none }, accessFlags := 2, code := none }
def k2c1 : Code := { maxStack := 2, maxLocals := 2, code := jdk_29_method_65_code, exceptionTable := #[], attributes := #[] }
def k2m1 : Method := { name := "max", desc := "(II)I", sig := { parameters := [.int, .int], returnType := some .int }, accessFlags := 9, code := some k2c1 }
def k2c2 : Code := { maxStack := 2, maxLocals := 2, code := jdk_29_method_69_code, exceptionTable := #[], attributes := #[] }
def k2m2 : Method := { name := "min", desc := "(II)I", sig := { parameters := [.int, .int], returnType := some .int }, accessFlags := 9, code := some k2c2 }
/-- java/lang/Math -/
def k2 : Class := { plain "java/lang/Math" (some 0) with
  accessFlags := 49
  interfaces := #[]
  cf := some (fileOf pool2 1 #[.nestMembers #[98]] #[{ accessFlags := 2, nameIndex := 7, descriptorIndex := 8, attributes := #[] }, { accessFlags := 9, nameIndex := 198, descriptorIndex := 335, attributes := #[] }, { accessFlags := 9, nameIndex := 201, descriptorIndex := 335, attributes := #[] }] 49 4 #[] #[{ accessFlags := 25, nameIndex := 354, descriptorIndex := 339, attributes := #[] }, { accessFlags := 25, nameIndex := 358, descriptorIndex := 339, attributes := #[] }, { accessFlags := 25, nameIndex := 361, descriptorIndex := 339, attributes := #[] }, { accessFlags := 26, nameIndex := 364, descriptorIndex := 339, attributes := #[] }, { accessFlags := 26, nameIndex := 365, descriptorIndex := 339, attributes := #[] }, { accessFlags := 26, nameIndex := 172, descriptorIndex := 173, attributes := #[] }, { accessFlags := 26, nameIndex := 176, descriptorIndex := 173, attributes := #[] }, { accessFlags := 8, nameIndex := 344, descriptorIndex := 339, attributes := #[] }, { accessFlags := 8, nameIndex := 338, descriptorIndex := 339, attributes := #[] }, { accessFlags := 4120, nameIndex := 245, descriptorIndex := 246, attributes := #[] }])
  fields := #[{ name := "E", type := .double, accessFlags := 25, slot := 0, constantValue := 0 }, { name := "PI", type := .double, accessFlags := 25, slot := 1, constantValue := 0 }, { name := "TAU", type := .double, accessFlags := 25, slot := 2, constantValue := 0 }, { name := "DEGREES_TO_RADIANS", type := .double, accessFlags := 26, slot := 3, constantValue := 0 }, { name := "RADIANS_TO_DEGREES", type := .double, accessFlags := 26, slot := 4, constantValue := 0 }, { name := "negativeZeroFloatBits", type := .long, accessFlags := 26, slot := 5, constantValue := 0 }, { name := "negativeZeroDoubleBits", type := .long, accessFlags := 26, slot := 6, constantValue := 0 }, { name := "twoToTheDoubleScaleUp", type := .double, accessFlags := 8, slot := 7, constantValue := 0 }, { name := "twoToTheDoubleScaleDown", type := .double, accessFlags := 8, slot := 8, constantValue := 0 }, { name := "$assertionsDisabled", type := .boolean, accessFlags := 4120, slot := 9, constantValue := 0 }]
  methods := #[k2m0, k2m1, k2m2]
  instanceTypes := #[]
  staticTypes := #[.double, .double, .double, .double, .double, .long, .long, .double, .double, .boolean]
  resolved := Array.replicate 460 none
  statics := none }

def pool3 : Array CpInfo := pool [(1, .methodref 2 3), (0, .class_ 4), (0, .nameAndType 5 6), (0, u "java/lang/Object"), (0, u "<init>"), (0, u "()V"), (0, .class_ 8), (0, u "java/lang/Record")] 13

def k3c0 : Code := { maxStack := 1, maxLocals := 1, code := jdk_30_method_1_code, exceptionTable := #[], attributes := #[] }
def k3m0 : Method := { name := "<init>", desc := "()V", sig := { parameters := [], returnType := none }, accessFlags := 4, code := some k3c0 }
/-- java/lang/Record -/
def k3 : Class := { plain "java/lang/Record" (some 0) with
  accessFlags := 1057
  interfaces := #[]
  cf := some (fileOf pool3 7 #[] #[{ accessFlags := 4, nameIndex := 5, descriptorIndex := 6, attributes := #[] }] 1057 2 #[] #[])
  fields := #[]
  methods := #[k3m0]
  instanceTypes := #[]
  staticTypes := #[]
  resolved := Array.replicate 22 none
  statics := none }

def pool4 : Array CpInfo := pool [(1, .methodref 2 3), (0, .class_ 4), (0, .nameAndType 5 6), (0, u "java/lang/Record"), (0, u "<init>"), (0, u "()V"), (9, .fieldref 17 18), (0, .class_ 19), (0, .nameAndType 20 21), (0, u "com/example/loopd/loopd/task/Bounds"), (0, u "min"), (0, u "I"), (0, .fieldref 17 23), (0, .nameAndType 24 21), (0, u "max"), (12, u "(II)V"), (4, u "contains"), (0, u "(I)Z")] 32

def k4c0 : Code := { maxStack := 4, maxLocals := 3, code := prog_17_method_1_code, exceptionTable := #[], attributes := #[] }
def k4m0 : Method := { name := "<init>", desc := "(II)V", sig := { parameters := [.int, .int], returnType := none }, accessFlags := 1, code := some k4c0 }
def k4c1 : Code := { maxStack := 2, maxLocals := 2, code := prog_17_method_2_code, exceptionTable := #[], attributes := #[] }
def k4m1 : Method := { name := "contains", desc := "(I)Z", sig := { parameters := [.int], returnType := some .boolean }, accessFlags := 1, code := some k4c1 }
/-- com/example/loopd/loopd/task/Bounds -/
def k4 : Class := { plain "com/example/loopd/loopd/task/Bounds" (some 3) with
  accessFlags := 49
  interfaces := #[]
  cf := some (fileOf pool4 17 #[] #[{ accessFlags := 1, nameIndex := 5, descriptorIndex := 37, attributes := #[] }, { accessFlags := 1, nameIndex := 42, descriptorIndex := 43, attributes := #[] }] 49 2 #[] #[{ accessFlags := 18, nameIndex := 20, descriptorIndex := 21, attributes := #[] }, { accessFlags := 18, nameIndex := 24, descriptorIndex := 21, attributes := #[] }])
  fields := #[{ name := "min", type := .int, accessFlags := 18, slot := 0, constantValue := 0 }, { name := "max", type := .int, accessFlags := 18, slot := 1, constantValue := 0 }]
  methods := #[k4m0, k4m1]
  instanceTypes := #[.int, .int]
  staticTypes := #[]
  resolved := Array.replicate 76 none
  statics := none }

def pool5 : Array CpInfo := pool [(1, u "java/lang/Cloneable"), (0, .class_ 1), (0, u "java/lang/Object"), (0, .class_ 3)] 3

/-- java/lang/Cloneable -/
def k5 : Class := { plain "java/lang/Cloneable" (some 0) with
  accessFlags := 1537
  interfaces := #[]
  cf := some (fileOf pool5 2 #[] #[] 1537 4 #[] #[])
  fields := #[]
  methods := #[]
  instanceTypes := #[]
  staticTypes := #[]
  resolved := Array.replicate 8 none
  statics := none }

def pool6 : Array CpInfo := pool [(1, u "java/io/Serializable"), (0, .class_ 1), (0, u "java/lang/Object"), (0, .class_ 3)] 3

/-- java/io/Serializable -/
def k6 : Class := { plain "java/io/Serializable" (some 0) with
  accessFlags := 1537
  interfaces := #[]
  cf := some (fileOf pool6 2 #[] #[] 1537 4 #[] #[])
  fields := #[]
  methods := #[]
  instanceTypes := #[]
  staticTypes := #[]
  resolved := Array.replicate 8 none
  statics := none }

/-- the primitive byte -/
def k7 : Class := { plain "byte" none with kind := .primitive 'B', accessFlags := 0x411 }
/-- [B -/
def k8 : Class := { plain "[B" (some 0) with kind := .array 7 .byte, interfaces := #[5, 6], accessFlags := 1041 }

/-- the primitive int -/
def k9 : Class := { plain "int" none with kind := .primitive 'I', accessFlags := 0x411 }
/-- [I -/
def k10 : Class := { plain "[I" (some 0) with kind := .array 9 .int, interfaces := #[5, 6], accessFlags := 1041 }

def heap : Heap := #[]
def classes : Array Class := #[k0, k1, k2, k3, k4, k5, k6, k7, k8, k9, k10]
def interned : List (Array UInt16 × Addr) := []
def slotsUsed : Nat := 0
def theMethod : MethodId := ⟨1, 1⟩
def args0 : Array Value := #[.int 3, .int 9, .int 5]
def aboutOver (below : List Frame) : State where
  vm := { classes := classes, interned := interned.toArray }
  heap := heap
  slotsUsed := slotsUsed
  threads := #[{ frames := .invoking theMethod args0 :: below }]
def below0 : List Frame := [.native { method := ⟨0, 0⟩, args := #[] }]
def about1 : State := aboutOver below0
def p0 : Program := .bare "" "" ""
def e0 : Env := launch0.env 0 0 0
theorem w_frames : about1.frames = Frame.invoking theMethod args0 :: below0 := rfl
set_option maxRecDepth 65536 in
theorem w_args : argsFit about1.vm theMethod args0 = true := by decide +kernel
set_option maxRecDepth 65536 in
theorem w_heap : heapFits about1 = true := by decide +kernel
set_option maxRecDepth 65536 in
theorem w_runnable : about1.curStatus? = some .runnable := by decide +kernel
set_option maxRecDepth 65536 in
theorem w_alone : about1.alone = true := by decide +kernel
set_option maxRecDepth 65536 in
theorem w_named : about1.methodNamed? x = some theMethod := by decide +kernel
set_option maxRecDepth 65536 in
theorem w_hears : about1.hears theMethod below0 = true := by decide +kernel
set_option maxRecDepth 65536 in
theorem w_ripe : about1.ripe theMethod args0 below0 = true := by decide +kernel
theorem w_running : about1.status = .running := rfl
set_option maxRecDepth 65536 in
theorem w_room : about1.hasRoom e0.platform room_1 = true :=
  launch0.hasRoom_least _ room_1 (by decide +kernel) (by decide +kernel) (by decide +kernel) (by decide +kernel) (by decide +kernel) (by decide +kernel)
theorem allAtoms_all (ts : List Jvm.Cond) (a : Array Jvm.Value) (st : Jvm.State) : (allAtoms ts).before a st = ts.all (fun c => c.before a st) := by
  induction ts with
  | nil => rfl
  | cons c t ih =>
    show (Jvm.Cond.and c (allAtoms t)).before a st = _
    rw [Jvm.Cond.before_and, ih, List.all_cons]
def words1 : List Jvm.Cond := Jvm.Cond.code x code maxLocals ret :: tables_1
/-- a 'code' word, met by the world's own term for the bytes: nothing is compared byte by byte -/
theorem code_word {y : MethodName} {bytes : ByteArray} {mx : Nat} {rt : Option FieldType} {a : Array Value} {s : State} {m : MethodId} {meth : Method} {c : Code} (h1 : s.methodNamed? y = some m) (h2 : s.vm.method? m = some meth) (h3 : meth.code = some c) (h4 : c.code = bytes)
    (h5 : (c.maxLocals == mx && c.exceptionTable.isEmpty && decide (c.maxStack ≤ mostOperands) && decide (meth.sig.returnType = rt) && !meth.locks && decide (parseMethodDescriptor y.desc = some meth.sig)) = true) : (Jvm.Cond.code y bytes mx rt).before a s = true := by
  simp only [Bool.and_eq_true, beq_iff_eq, Bool.not_eq_true', decide_eq_true_eq] at h5
  obtain ⟨⟨⟨⟨⟨g1, g2⟩, g3⟩, g4⟩, g5⟩, g6⟩ := h5
  simp [Cond.before, Cond.holds, Cond.value, h1, h2, h3, h4, g1, g2, g3, g4, g5, g6]
def isCode : Jvm.Cond → Bool
  | .code _ _ _ _ => true
  | _ => false
theorem all_split {L : List Jvm.Cond} {P : Jvm.Cond → Bool} (h1 : L.all (fun c => isCode c || P c) = true) (h2 : ∀ c ∈ L.filter isCode, P c = true) : L.all P = true := by
  refine List.all_eq_true.mpr fun c hc => ?_
  have h := List.all_eq_true.mp h1 c hc
  rcases Bool.eq_false_or_eq_true (isCode c) with hi | hi
  · exact h2 c (List.mem_filter.mpr ⟨hc, hi⟩)
  · simpa [hi] using h
set_option maxRecDepth 65536 in
theorem w_c0 : (Jvm.Cond.code x code maxLocals ret).before args0 about1 = true := code_word (m := ⟨1, 1⟩) (meth := k1m1) (c := k1c1) (by decide +kernel) rfl rfl rfl (by decide +kernel)
set_option maxRecDepth 65536 in
theorem w_c1 : (Jvm.Cond.code ({ cls := "java/lang/Math", name := "min", desc := "(II)I" } : Jvm.MethodName) jdk_29_method_69_code (2 : Nat) (Option.some Jvm.ClassFile.FieldType.int)).before args0 about1 = true := code_word (m := ⟨2, 2⟩) (meth := k2m2) (c := k2c2) (by decide +kernel) rfl rfl rfl (by decide +kernel)
set_option maxRecDepth 65536 in
theorem w_c2 : (Jvm.Cond.code ({ cls := "java/lang/Math", name := "max", desc := "(II)I" } : Jvm.MethodName) jdk_29_method_65_code (2 : Nat) (Option.some Jvm.ClassFile.FieldType.int)).before args0 about1 = true := code_word (m := ⟨2, 1⟩) (meth := k2m1) (c := k2c1) (by decide +kernel) rfl rfl rfl (by decide +kernel)
set_option maxRecDepth 65536 in
theorem w_c3 : (Jvm.Cond.code ({ cls := "com/example/loopd/loopd/task/Bounds", name := "<init>", desc := "(II)V" } : Jvm.MethodName) prog_17_method_1_code (3 : Nat) (Option.none : Option Jvm.ClassFile.FieldType)).before args0 about1 = true := code_word (m := ⟨4, 0⟩) (meth := k4m0) (c := k4c0) (by decide +kernel) rfl rfl rfl (by decide +kernel)
set_option maxRecDepth 65536 in
theorem w_c4 : (Jvm.Cond.code ({ cls := "java/lang/Record", name := "<init>", desc := "()V" } : Jvm.MethodName) jdk_30_method_1_code (1 : Nat) (Option.none : Option Jvm.ClassFile.FieldType)).before args0 about1 = true := code_word (m := ⟨3, 0⟩) (meth := k3m0) (c := k3c0) (by decide +kernel) rfl rfl rfl (by decide +kernel)
set_option maxRecDepth 65536 in
theorem w_c5 : (Jvm.Cond.code ({ cls := "java/lang/Object", name := "<init>", desc := "()V" } : Jvm.MethodName) object_method_1_code (1 : Nat) (Option.none : Option Jvm.ClassFile.FieldType)).before args0 about1 = true := code_word (m := ⟨0, 0⟩) (meth := k0m0) (c := k0c0) (by decide +kernel) rfl rfl rfl (by decide +kernel)
set_option maxRecDepth 65536 in
theorem w_c6 : (Jvm.Cond.code ({ cls := "com/example/loopd/loopd/task/Bounds", name := "contains", desc := "(I)Z" } : Jvm.MethodName) prog_17_method_2_code (2 : Nat) (Option.some Jvm.ClassFile.FieldType.boolean)).before args0 about1 = true := code_word (m := ⟨4, 1⟩) (meth := k4m1) (c := k4c1) (by decide +kernel) rfl rfl rfl (by decide +kernel)
def codes1 : List Jvm.Cond := [Jvm.Cond.code x code maxLocals ret, Jvm.Cond.code ({ cls := "java/lang/Math", name := "min", desc := "(II)I" } : Jvm.MethodName) jdk_29_method_69_code (2 : Nat) (Option.some Jvm.ClassFile.FieldType.int), Jvm.Cond.code ({ cls := "java/lang/Math", name := "max", desc := "(II)I" } : Jvm.MethodName) jdk_29_method_65_code (2 : Nat) (Option.some Jvm.ClassFile.FieldType.int), Jvm.Cond.code ({ cls := "com/example/loopd/loopd/task/Bounds", name := "<init>", desc := "(II)V" } : Jvm.MethodName) prog_17_method_1_code (3 : Nat) (Option.none : Option Jvm.ClassFile.FieldType), Jvm.Cond.code ({ cls := "java/lang/Record", name := "<init>", desc := "()V" } : Jvm.MethodName) jdk_30_method_1_code (1 : Nat) (Option.none : Option Jvm.ClassFile.FieldType), Jvm.Cond.code ({ cls := "java/lang/Object", name := "<init>", desc := "()V" } : Jvm.MethodName) object_method_1_code (1 : Nat) (Option.none : Option Jvm.ClassFile.FieldType), Jvm.Cond.code ({ cls := "com/example/loopd/loopd/task/Bounds", name := "contains", desc := "(I)Z" } : Jvm.MethodName) prog_17_method_2_code (2 : Nat) (Option.some Jvm.ClassFile.FieldType.boolean)]
set_option maxRecDepth 65536 in
theorem codes_eq : words1.filter isCode = codes1 := rfl
theorem w_codes : ∀ c ∈ words1.filter isCode, c.before args0 about1 = true := by
  rw [codes_eq]
  intro c hc
  simp only [codes1, List.mem_cons, List.not_mem_nil, or_false] at hc
  rcases hc with rfl | rfl | rfl | rfl | rfl | rfl | rfl
  · exact w_c0
  · exact w_c1
  · exact w_c2
  · exact w_c3
  · exact w_c4
  · exact w_c5
  · exact w_c6
set_option maxRecDepth 65536 in
theorem w_t1 : (words1.take 24).all (fun c => isCode c || c.before args0 about1) = true := by decide +kernel
set_option maxRecDepth 65536 in
theorem w_t2 : (words1.drop 24).all (fun c => isCode c || c.before args0 about1) = true := by decide +kernel
theorem w_tables : (allAtoms (Jvm.Cond.code x code maxLocals ret :: tables_1)).before args0 about1 = true := by
  rw [allAtoms_all]
  show words1.all (fun c => c.before args0 about1) = true
  refine all_split ?_ w_codes
  rw [← List.take_append_drop 24 words1, List.all_append, w_t1, w_t2]
  rfl
set_option maxRecDepth 65536 in
theorem w_case : (Jvm.Cond.and given_1 narrow_1).before args0 about1 = true := by decide +kernel
theorem w_applies : (headSpec (Jvm.Cond.code x code maxLocals ret :: tables_1) room_1).applies x e0.platform about1 = true :=
  (Spec.applies_iff w_frames).mpr ⟨w_running, w_runnable, w_alone, w_named, w_hears, w_ripe, w_room, w_tables⟩
theorem atStart : AtStart classFile x code maxLocals ret World_1 tables_1 room_1 Calls_1 rest_1 Pre_1 launch0 p0 e0 about1 theMethod args0 below0 :=
  ⟨lists_1, trivial, launch0.admits_env _ _ _, launch0.least_env, fairChoices_fair.cas, fairChoices_fair.clock, w_frames, w_args, w_heap, w_applies, trivial, trivial, w_case⟩
end start1
theorem witness_1 : WitnessClaimed_1 := ⟨start1.p0, start1.e0, start1.about1, start1.theMethod, start1.args0, start1.below0, start1.atStart⟩
end Jvm.Pilot.@@N@@
