import JvmDerived
import JvmDerived.Pilot.@@N@@Statement
import JvmDerived.Pilot.@@N@@Code
set_option linter.unusedVariables false
set_option linter.unusedSimpArgs false
namespace Jvm.RoadKit
open Sem ClassFile Op Lib Jvm.Stand Jvm.Free Jvm.LawKit
section Own
variable {p : Program} {l : Launch} {e : Env} {R : Room} {s : State} {m : MethodId} {args : Array Value} {below : List Frame} {meth : Method} {c : Code} {T T' : State} {locs : List Loc} {cells slots : Nat} {Z : State} {a0 : Array Value} {h h' h0 : Heap} {K : State → Outcome → Prop} {pc : Nat} {Ls : Array Slot} {rest : List Value} {Q : Option Value → Heap → List Loc → Prop} {k n : Nat} {a b : Addr} {ws : List Addr} {sl : Nat} {v : Value}
/-- from T the run comes to its end, and K holds there -/
def Go (p : Program) (e : Env) (below : List Frame) (K : State → Outcome → Prop) (T : State) : Prop := ∃ U o, Steps p.tables e below T U ∧ U.status = .running ∧ Ended U below o ∧ K U o
theorem Go.by (st : ∀ t, Steps p.tables e below T' t → Steps p.tables e below T t) (g : Go p e below K T') : Go p e below K T := by
  obtain ⟨U, o, q, r⟩ := g; exact ⟨U, o, st _ q, r⟩
theorem Go.on (st : Steps p.tables e below T T') (g : Go p e below K T') : Go p e below K T := by
  obtain ⟨U, o, q, r⟩ := g; exact ⟨U, o, st.trans q, r⟩
theorem Go.cast {T'' : State} (q : T = T'') (g : Go p e below K T'') : Go p e below K T := q ▸ g
def KK (s : State) (Q : Option Value → Heap → List Loc → Prop) (k n : Nat) : State → Outcome → Prop := fun U o => ∃ v L, o = .returned v ∧ Q v U.heap L ∧ FrameEnd s o U L k n
abbrev Ctr (l : Launch) (Z : State) (h0 : Heap) (y : MethodName) (bytes : ByteArray) (maxL : Nat) (ret : Option FieldType) (ws : List Cond) (rm : Room) (as' : Array Value) (Q : Option Value → Heap → List Loc → Prop) : Prop :=
  MetFree l y (head1 (Cond.code y bytes maxL ret :: ws) rm) (fun a U => a = as' ∧ Z.Warmed39 U.vm ∧ U.heap = h0) (fun _ _ _ _ _ => True) (fun _ U o U' => ∃ v L, o = .returned v ∧ Q v U'.heap L ∧ FrameEnd U o U' L rm.cells rm.slots)
theorem enter {y : MethodName} {bytes : ByteArray} {maxL : Nat} {ret : Option FieldType} {ws : List Cond} {rm : Room} {as' : Array Value} (hp : plainFor y = true)
    (H : ∀ (p : Program) (e : Env) (s : State) (m : MethodId) (below : List Frame) (meth : Method) (c : Code) (s₁ : State), p.tables.exec = Jvm.exec → c.code = bytes → c.maxLocals = maxL → Z.Warmed39 s.vm → s.vm.findClass y.cls = some m.cls → meth.name = y.name → meth.sig.returnType = ret → meth.locks = false →
      Stand p l e rm s m as' below meth c s₁ [] 0 0 → s₁.heap = h0 → s.heap = h0 → Go p e below (KK s Q rm.cells rm.slots) (s₁.setTop (entryFrame m as' maxL))) : Ctr l Z h0 y bytes maxL ret ws rm as' Q := by
  refine MetFree.of_bodySF hp hisR ?_
  intro p e s m args below meth c s₁ Bd hml0 hP hK
  obtain ⟨rfl, hZ, hh⟩ := hP
  exact H p e s m below meth c s₁ Bd.exec Bd.bytes hml0 hZ (findClass_of_methodNamed Bd.named) (name_of_methodNamed Bd.named Bd.method).1 Bd.returns Bd.notSynchronized (Stand.of_body Bd) (by rw [← hh, Bd.state]; rfl) hh
/-! returns -/
theorem Go.ret {w : Value} {t : FieldType} {i : Instr} (X : Stand p l e R s m args below meth c T locs cells slots) (hx : p.tables.exec = Jvm.exec) (hret : meth.sig.returnType = some t) (hlk : meth.locks = false) (hn : narrow t w = w)
    (hi : (i = .ireturn ∧ (t = .int ∨ t = .boolean ∨ t = .byte ∨ t = .char ∨ t = .short) ∧ ∃ z, w = .int z) ∨ (i = .lreturn ∧ t = .long ∧ ∃ z, w = .long z) ∨ (i = .dreturn ∧ t = .double ∧ ∃ z, w = .double z) ∨ (i = .freturn ∧ t = .float ∧ ∃ z, w = .float z) ∨ (i = .areturn ∧ t.isReference = true ∧ w.isRef = true))
    (hd : decode c.code pc = .ok (i, 1)) (eT : T.heap = h) (hk : cells ≤ k) (hs : slots ≤ n) (hQ : Q (some w) h locs) : Go p e below (KK s Q k n) (T.setTop (mkF m pc Ls (w :: rest))) := by
  obtain ⟨fs, hr, hrun, hended, hW, hsame⟩ := X.leave (v := some w) (fun h => by rw [hret] at h; cases h) hlk
  subst eT
  exact ⟨_, _, retOut X hx hret hn hi hd hr, hrun, hended, _, _, rfl, hQ, ⟨_, rfl⟩, hW, hsame.mono hk hs⟩
theorem Go.retI {z : Int32} {t : FieldType} (X : Stand p l e R s m args below meth c T locs cells slots) (hx : p.tables.exec = Jvm.exec) (hret : meth.sig.returnType = some t) (hlk : meth.locks = false) (ht : t = .int ∨ t = .boolean ∨ t = .byte ∨ t = .char ∨ t = .short) (hn : narrow t (.int z) = .int z)
    (hd : decode c.code pc = .ok (.ireturn, 1)) (eT : T.heap = h) (hk : cells ≤ k) (hs : slots ≤ n) (hQ : Q (some (.int z)) h locs) : Go p e below (KK s Q k n) (T.setTop (mkF m pc Ls (.int z :: rest))) :=
  Go.ret X hx hret hlk hn (Or.inl ⟨rfl, ht, z, rfl⟩) hd eT hk hs hQ
theorem Go.retJ {z : Int64} (X : Stand p l e R s m args below meth c T locs cells slots) (hx : p.tables.exec = Jvm.exec) (hret : meth.sig.returnType = some .long) (hlk : meth.locks = false)
    (hd : decode c.code pc = .ok (.lreturn, 1)) (eT : T.heap = h) (hk : cells ≤ k) (hs : slots ≤ n) (hQ : Q (some (.long z)) h locs) : Go p e below (KK s Q k n) (T.setTop (mkF m pc Ls (.long z :: rest))) :=
  Go.ret X hx hret hlk rfl (Or.inr (Or.inl ⟨rfl, rfl, z, rfl⟩)) hd eT hk hs hQ
theorem nar_ref {t : FieldType} {w : Value} (hw : w.isRef = true) : narrow t w = w := by cases w <;> first | (simp [Value.isRef] at hw; done) | (cases t <;> rfl)
theorem fits_any {C : String} {w : Value} (hw : w.isRef = true) : fits (.object C) w = true := by cases w <;> first | (simp [Value.isRef] at hw; done) | rfl
theorem Go.retA {w : Value} {t : FieldType} (X : Stand p l e R s m args below meth c T locs cells slots) (hx : p.tables.exec = Jvm.exec) (hret : meth.sig.returnType = some t) (hlk : meth.locks = false) (ht : t.isReference = true) (hw : w.isRef = true)
    (hd : decode c.code pc = .ok (.areturn, 1)) (eT : T.heap = h) (hk : cells ≤ k) (hs : slots ≤ n) (hQ : Q (some w) h locs) : Go p e below (KK s Q k n) (T.setTop (mkF m pc Ls (w :: rest))) :=
  Go.ret X hx hret hlk (nar_ref hw) (Or.inr (Or.inr (Or.inr (Or.inr ⟨rfl, ht, hw⟩)))) hd eT hk hs hQ
theorem Go.retV (X : Stand p l e R s m args below meth c T locs cells slots) (hx : p.tables.exec = Jvm.exec) (hret : meth.sig.returnType = none) (hlk : meth.locks = false)
    (hd : decode c.code pc = .ok (.return_, 1)) (eT : T.heap = h) (hk : cells ≤ k) (hs : slots ≤ n) (hQ : Q none h locs) : Go p e below (KK s Q k n) (T.setTop (mkF m pc Ls [])) := by
  obtain ⟨fs, hr, hrun, hended, hW, hsame⟩ := X.leave (v := none) (fun _ => rfl) hlk
  subst eT
  exact ⟨_, _, X.returnOut hx hret hd hr, hrun, hended, _, _, rfl, hQ, ⟨_, rfl⟩, hW, hsame.mono hk hs⟩
/-! the old cells -/
theorem ext_trans {h1 h2 h3 : Heap} (E : Ext h1 h2) (F : Ext h2 h3) : Ext h1 h3 := ⟨Nat.le_trans E.1 F.1, fun a c q => F.2 a c (E.2 a c q)⟩
theorem ext_wr {h1 h2 h3 : Heap} (E : Ext h1 h2) (W : Wr h2 h3 a sl v) (g : h1.size ≤ a) : Ext h1 h3 := by
  obtain ⟨cell, q1, q2, q3, rfl⟩ := W
  refine ⟨by simpa using E.1, fun x c q => ?_⟩
  have hx : x < h1.size := (Array.getElem?_eq_some_iff.mp q).1
  rw [Array.getElem?_setIfInBounds_ne (Nat.ne_of_gt (Nat.lt_of_lt_of_le hx g))]
  exact E.2 x c q
theorem ext_keep {h1 h2 h3 : Heap} (E : Ext h1 h2) (F : Keep h2 h3 ws) (g : ∀ x ∈ ws, h1.size ≤ x) : Ext h1 h3 := by
  refine ⟨Nat.le_trans E.1 F.1, fun x c q => F.2.1 x c (E.2 x c q) fun z => ?_⟩
  exact absurd (Array.getElem?_eq_some_iff.mp q).1 (Nat.not_lt.mpr (g x z))
theorem ne_new (q : a < h.size) (r : h.size ≤ b) : a ≠ b := Nat.ne_of_lt (Nat.lt_of_lt_of_le q r)
/-! calls -/
theorem Go.callS {own : String} {index : Nat} {y : MethodName} {bytes : ByteArray} {maxL : Nat} {ret : Option FieldType} {rm : Room} {as' : Array Value} {argsL S : List Value} (X : Stand p l e R s m args below meth c T locs cells slots) (hx : p.tables.exec = Jvm.exec) (hZ : Z.Warmed39 s.vm) (hown : s.vm.findClass own = some m.cls)
    (w1 : (Cond.methodLink own index y).before a0 Z = true) (w2 : (Cond.static y).before a0 Z = true) (w3 : (Cond.initialized y.cls).before a0 Z = true) (w4 : (Cond.code y bytes maxL ret).before a0 Z = true)
    (hy : y.cls ≠ "java/lang/invoke/MethodHandle" ∧ y.cls ≠ "java/lang/invoke/VarHandle") {Q : Option Value → Heap → List Loc → Prop} (hM : Ctr l Z h y bytes maxL ret [] rm as' Q) (eT : T.heap = h) (hsz : Ls.size = c.maxLocals)
    (hd : decode c.code pc = .ok (.invokestatic index, 3)) (hlen : ∀ sig, parseMethodDescriptor y.desc = some sig → argsL.length = sig.parameters.length) (hst : S = argsL.reverse ++ rest) (has : argsL.toArray = as')
    {W : Nat} (hW : 2 * 0 + (rest.map fun v => v.category).sum ≤ W) (hf : rm.frames + 1 ≤ R.frames) (hl : W + (maxL + 11) + rm.locals ≤ R.locals) (hc : cells + rm.cells ≤ R.cells) (hs : slots + rm.slots ≤ R.slots)
    (g : ∀ (v : Option Value) (T' : State) (L : List Loc), Stand p l e R s m args below meth c T' (locs ++ L) (cells + rm.cells) (slots + rm.slots) → Q v T'.heap L → Go p e below K (T'.setTop (mkF m (pc + 3) Ls (v.toList ++ rest)))) : Go p e below K (T.setTop (mkF m pc Ls S)) := by
  obtain ⟨v, _, ⟨T', L', k', n'⟩, -, X', ⟨Lc, hQ, l', y', z'⟩, st⟩ := Jvm.LawKit.callS X hx (y := y) hown (mvT hZ w1) (mvT hZ w2) (mvT hZ w3) (mvT hZ w4) hy (backOf (W := W) hM hZ w4 w3 hf hl) (g := mkF m pc Ls S) rfl hsz (argsL := argsL) (rest := rest) hlen hst hW hd (fun _ _ => ⟨has, eT, hc, hs⟩)
  dsimp only [Pt.U, Pt.locs, Pt.cells, Pt.slots] at X' l' y' z' st hQ
  subst l' y' z'
  exact Go.by st (g v T' Lc X' hQ)
theorem Go.init {own : String} {index : Nat} {y : MethodName} {bytes : ByteArray} {maxL : Nat} {rm : Room} {as' : Array Value} {argsL S : List Value} (X : Stand p l e R s m args below meth c T locs cells slots) (hx : p.tables.exec = Jvm.exec) (hZ : Z.Warmed39 s.vm) (hown : s.vm.findClass own = some m.cls) (hy1 : y.name = "<init>")
    (w1 : (Cond.methodLink own index y).before a0 Z = true) (w2 : (Cond.instanceMethod y).before a0 Z = true) (w3 : (Cond.initialized y.cls).before a0 Z = true) (w4 : (Cond.code y bytes maxL none).before a0 Z = true)
    (hy : y.cls ≠ "java/lang/invoke/MethodHandle" ∧ y.cls ≠ "java/lang/invoke/VarHandle") {Q : Option Value → Heap → List Loc → Prop} (hM : Ctr l Z h y bytes maxL none [] rm as' Q) (eT : T.heap = h) (hsz : Ls.size = c.maxLocals)
    (hd : decode c.code pc = .ok (.invokespecial index, 3)) (hlen : ∀ sig, parseMethodDescriptor y.desc = some sig → argsL.length = sig.parameters.length) (hst : S = argsL.reverse ++ .ref a :: rest) (has : (Value.ref a :: argsL).toArray = as')
    {W : Nat} (hW : 2 * 0 + (rest.map fun v => v.category).sum ≤ W) (hf : rm.frames + 1 ≤ R.frames) (hl : W + (maxL + 11) + rm.locals ≤ R.locals) (hc : cells + rm.cells ≤ R.cells) (hs : slots + rm.slots ≤ R.slots)
    (g : ∀ (v : Option Value) (T' : State) (L : List Loc), Stand p l e R s m args below meth c T' (locs ++ L) (cells + rm.cells) (slots + rm.slots) → Q v T'.heap L → Go p e below K (T'.setTop (mkF m (pc + 3) Ls (v.toList ++ rest)))) : Go p e below K (T.setTop (mkF m pc Ls S)) := by
  obtain ⟨v, _, ⟨T', L', k', n'⟩, -, X', ⟨Lc, hQ, l', y', z'⟩, st⟩ := X.specialBack hx (y := y) hy1 hown (mvT hZ w1) (mvT hZ w2) (mvT hZ w4) hy (backOf (W := W) hM hZ w4 w3 hf hl) (g := mkF m pc Ls S) rfl hsz (Steps.refl _) (a := a) (argsL := argsL) (rest := rest) hlen hst hW hd (fun _ _ => ⟨has, eT, hc, hs⟩)
  dsimp only [Pt.U, Pt.locs, Pt.cells, Pt.slots] at X' l' y' z' st hQ
  subst l' y' z'
  exact Go.on st (g v T' Lc X' hQ)
theorem Go.virt {own C : String} {index : Nat} {y z : MethodName} {bytes : ByteArray} {maxL : Nat} {ret : Option FieldType} {rm : Room} {as' : Array Value} {argsL S : List Value} (X : Stand p l e R s m args below meth c T locs cells slots) (hx : p.tables.exec = Jvm.exec) (hZ : Z.Warmed39 s.vm) (hown : s.vm.findClass own = some m.cls)
    (w1 : (Cond.methodLink own index y).before a0 Z = true) (w2 : (Cond.declares y).before a0 Z = true) (hnf : NotFace s y) (w5 : (Cond.selects C y z).before a0 Z = true) (w6 : (Cond.instanceMethod z).before a0 Z = true) (w3 : (Cond.initialized z.cls).before a0 Z = true) (w4 : (Cond.code z bytes maxL ret).before a0 Z = true)
    (hy : y.cls ≠ "java/lang/invoke/MethodHandle" ∧ y.cls ≠ "java/lang/invoke/VarHandle") {Q : Option Value → Heap → List Loc → Prop} (hM : Ctr l Z h z bytes maxL ret [] rm as' Q) (eT : T.heap = h) (E : Exa Z h a C) (hsz : Ls.size = c.maxLocals)
    (hd : decode c.code pc = .ok (.invokevirtual index, 3)) (hlen : ∀ sig, parseMethodDescriptor y.desc = some sig → argsL.length = sig.parameters.length) (hst : S = argsL.reverse ++ .ref a :: rest) (has : (Value.ref a :: argsL).toArray = as')
    {W : Nat} (hW : 2 * 0 + (rest.map fun v => v.category).sum ≤ W) (hf : rm.frames + 1 ≤ R.frames) (hl : W + (maxL + 11) + rm.locals ≤ R.locals) (hc : cells + rm.cells ≤ R.cells) (hs : slots + rm.slots ≤ R.slots)
    (g : ∀ (v : Option Value) (T' : State) (L : List Loc), Stand p l e R s m args below meth c T' (locs ++ L) (cells + rm.cells) (slots + rm.slots) → Q v T'.heap L → Go p e below K (T'.setTop (mkF m (pc + 3) Ls (v.toList ++ rest)))) : Go p e below K (T.setTop (mkF m pc Ls S)) := by
  obtain ⟨cq, kq, q1, q2, q3⟩ := isOf hZ eT E
  obtain ⟨v, _, ⟨T', L', k', n'⟩, -, X', ⟨Lc, hQ, l', y', z'⟩, st⟩ := X.virtualBack hx (y := y) (z := z) hown (mvT hZ w1) (mvT hZ w2) hnf (mvT hZ w5) (mvT hZ w6) hy (backOf (W := W) hM hZ w4 w3 hf hl) q1 q3 (g := mkF m pc Ls S) rfl hsz (Steps.refl _) (argsL := argsL) (rest := rest) hlen hst hW hd (fun _ _ => ⟨has, eT, hc, hs⟩)
  dsimp only [Pt.U, Pt.locs, Pt.cells, Pt.slots] at X' l' y' z' st hQ
  subst l' y' z'
  exact Go.on st (g v T' Lc X' hQ)
theorem Go.face {own C : String} {index count : Nat} {y z : MethodName} {bytes : ByteArray} {maxL : Nat} {ret : Option FieldType} {rm : Room} {as' : Array Value} {argsL S : List Value} (X : Stand p l e R s m args below meth c T locs cells slots) (hx : p.tables.exec = Jvm.exec) (hZ : Z.Warmed39 s.vm) (hown : s.vm.findClass own = some m.cls)
    (w1 : (Cond.methodLink own index y).before a0 Z = true) (w2 : (Cond.declares y).before a0 Z = true) (w7 : (Cond.interfaceMethod y.cls y.cls y.name y.desc).before a0 Z = true) (w5 : (Cond.selects C y z).before a0 Z = true) (w6 : (Cond.instanceMethod z).before a0 Z = true) (w8 : (Cond.publicMethod z).before a0 Z = true) (w9 : (Cond.unhidden C y.name y.desc).before a0 Z = true) (w10 : (Cond.castable C y.cls).before a0 Z = true) (w3 : (Cond.initialized z.cls).before a0 Z = true) (w4 : (Cond.code z bytes maxL ret).before a0 Z = true)
    (hy : y.cls ≠ "java/lang/invoke/MethodHandle" ∧ y.cls ≠ "java/lang/invoke/VarHandle") {Q : Option Value → Heap → List Loc → Prop} (hM : Ctr l Z h z bytes maxL ret [] rm as' Q) (eT : T.heap = h) (E : Exa Z h a C) (hsz : Ls.size = c.maxLocals)
    (hd : decode c.code pc = .ok (.invokeinterface index count, 5)) (hlen : ∀ sig, parseMethodDescriptor y.desc = some sig → argsL.length = sig.parameters.length) (hst : S = argsL.reverse ++ .ref a :: rest) (has : (Value.ref a :: argsL).toArray = as')
    {W : Nat} (hW : 2 * 0 + (rest.map fun v => v.category).sum ≤ W) (hf : rm.frames + 1 ≤ R.frames) (hl : W + (maxL + 11) + rm.locals ≤ R.locals) (hc : cells + rm.cells ≤ R.cells) (hs : slots + rm.slots ≤ R.slots)
    (g : ∀ (v : Option Value) (T' : State) (L : List Loc), Stand p l e R s m args below meth c T' (locs ++ L) (cells + rm.cells) (slots + rm.slots) → Q v T'.heap L → Go p e below K (T'.setTop (mkF m (pc + 5) Ls (v.toList ++ rest)))) : Go p e below K (T.setTop (mkF m pc Ls S)) := by
  obtain ⟨cq, kq, q1, q2, q3⟩ := isOf hZ eT E
  obtain ⟨v, _, ⟨T', L', k', n'⟩, -, X', ⟨Lc, hQ, l', y', z'⟩, st⟩ := X.interfaceBack hx (xi := y) (y := z) hown (mvT hZ w1) (mvT hZ w2) (mvT hZ w7 (by simp [Cond.onTables, Cond.keepsFace, Cond.keeps, Cond.steady, Cond.faceAtom]; exact hy)) (mvT hZ w5) (mvT hZ w6) (mvT hZ w8) (mvT hZ w9) (mvT hZ w10) hy (backOf (W := W) (len := 5) hM hZ w4 w3 hf hl) q1 q2 q3 (g := mkF m pc Ls S) rfl hsz (Steps.refl _) (argsL := argsL) (rest := rest) hlen hst hW hd (fun _ _ => ⟨has, eT, hc, hs⟩)
  dsimp only [Pt.U, Pt.locs, Pt.cells, Pt.slots] at X' l' y' z' st hQ
  subst l' y' z'
  exact Go.on st (g v T' Lc X' hQ)
theorem Go.priv {own : String} {index : Nat} {y : MethodName} {bytes : ByteArray} {maxL : Nat} {ret : Option FieldType} {rm : Room} {as' : Array Value} {argsL S : List Value} {C : String} (X : Stand p l e R s m args below meth c T locs cells slots) (hx : p.tables.exec = Jvm.exec) (hZ : Z.Warmed39 s.vm) (hown : s.vm.findClass own = some m.cls)
    (w1 : (Cond.methodLink own index y).before a0 Z = true) (w6 : (Cond.instanceMethod y).before a0 Z = true) (w5 : (Cond.selects y.cls y y).before a0 Z = true) (w7 : (Cond.privateMethod y).before a0 Z = true) (w3 : (Cond.initialized y.cls).before a0 Z = true) (w4 : (Cond.code y bytes maxL ret).before a0 Z = true)
    (hy : y.cls ≠ "java/lang/invoke/MethodHandle" ∧ y.cls ≠ "java/lang/invoke/VarHandle") {Q : Option Value → Heap → List Loc → Prop} (hM : Ctr l Z h y bytes maxL ret [] rm as' Q) (eT : T.heap = h) (E : Exa Z h a C) (hsz : Ls.size = c.maxLocals)
    (hd : decode c.code pc = .ok (.invokevirtual index, 3)) (hlen : ∀ sig, parseMethodDescriptor y.desc = some sig → argsL.length = sig.parameters.length) (hst : S = argsL.reverse ++ .ref a :: rest) (has : (Value.ref a :: argsL).toArray = as')
    {W : Nat} (hW : 2 * 0 + (rest.map fun v => v.category).sum ≤ W) (hf : rm.frames + 1 ≤ R.frames) (hl : W + (maxL + 11) + rm.locals ≤ R.locals) (hc : cells + rm.cells ≤ R.cells) (hs : slots + rm.slots ≤ R.slots)
    (g : ∀ (v : Option Value) (T' : State) (L : List Loc), Stand p l e R s m args below meth c T' (locs ++ L) (cells + rm.cells) (slots + rm.slots) → Q v T'.heap L → Go p e below K (T'.setTop (mkF m (pc + 3) Ls (v.toList ++ rest)))) : Go p e below K (T.setTop (mkF m pc Ls S)) := by
  obtain ⟨cq, q1, q2⟩ := E.cell
  subst eT
  obtain ⟨v, _, ⟨T', L', k', n'⟩, -, X', ⟨Lc, hQ, l', y', z'⟩, st⟩ := X.privateBack hx (y := y) hown (mvT hZ w1) (mvT hZ w6) (mvT hZ w5) (Cond.privateMethod_at (mvP hZ w7 (args := #[]))) (mvT hZ w4) hy (backOf (W := W) hM hZ w4 w3 hf hl) (g := mkF m pc Ls S) rfl hsz (Steps.refl _) (a := a) q1 q2 (argsL := argsL) (rest := rest) hlen hst hW hd (fun _ _ => ⟨has, rfl, hc, hs⟩)
  dsimp only [Pt.U, Pt.locs, Pt.cells, Pt.slots] at X' l' y' z' st hQ
  subst l' y' z'
  exact Go.on st (g v T' Lc X' hQ)
theorem Go.sup {own C : String} {index : Nat} {y : MethodName} {bytes : ByteArray} {maxL : Nat} {ret : Option FieldType} {rm : Room} {as' : Array Value} {argsL S : List Value} (X : Stand p l e R s m args below meth c T locs cells slots) (hx : p.tables.exec = Jvm.exec) (hZ : Z.Warmed39 s.vm) (hown : s.vm.findClass own = some m.cls)
    (w1 : (Cond.methodLink own index y).before a0 Z = true) (w2 : (Cond.sameMethod y.cls y.cls y.name y.desc).before a0 Z = true) (w6 : (Cond.instanceMethod y).before a0 Z = true) (w5 : (Cond.superclass own y.cls).before a0 Z = true) (hn : y.name ≠ "<init>") (w3 : (Cond.initialized y.cls).before a0 Z = true) (w4 : (Cond.code y bytes maxL ret).before a0 Z = true)
    {Q : Option Value → Heap → List Loc → Prop} (hM : Ctr l Z h y bytes maxL ret [] rm as' Q) (eT : T.heap = h) (E : Exa Z h a C) (hsz : Ls.size = c.maxLocals)
    (hd : decode c.code pc = .ok (.invokespecial index, 3)) (hlen : ∀ sig, parseMethodDescriptor y.desc = some sig → argsL.length = sig.parameters.length) (hst : S = argsL.reverse ++ .ref a :: rest) (has : (Value.ref a :: argsL).toArray = as')
    {W : Nat} (hW : 2 * 0 + (rest.map fun v => v.category).sum ≤ W) (hf : rm.frames + 1 ≤ R.frames) (hl : W + (maxL + 11) + rm.locals ≤ R.locals) (hc : cells + rm.cells ≤ R.cells) (hs : slots + rm.slots ≤ R.slots)
    (g : ∀ (v : Option Value) (T' : State) (L : List Loc), Stand p l e R s m args below meth c T' (locs ++ L) (cells + rm.cells) (slots + rm.slots) → Q v T'.heap L → Go p e below K (T'.setTop (mkF m (pc + 3) Ls (v.toList ++ rest)))) : Go p e below K (T.setTop (mkF m pc Ls S)) := by
  obtain ⟨v, _, ⟨T', L', k', n'⟩, -, X', ⟨Lc, hQ, l', y', z'⟩, st⟩ := superBack X hx hZ (y := y) hown w1 w2 w6 w5 hn (backOf (W := W) hM hZ w4 w3 hf hl) eT (Ins.self E) (g := mkF m pc Ls S) rfl hsz w4 (argsL := argsL) (rest := rest) hlen hst hW hd (fun _ _ => ⟨has, eT, hc, hs⟩)
  dsimp only [Pt.U, Pt.locs, Pt.cells, Pt.slots] at X' l' y' z' st hQ
  subst l' y' z'
  exact Go.on st (g v T' Lc X' hQ)
/-! arrays whose components are known -/
variable {cA : ClassId} {ty : FieldType} {z j : Int32} {vs : List Value} {dv : Value}
theorem Go.alen (X : Stand p l e R s m args below meth c T locs cells slots) (hx : p.tables.exec = Jvm.exec) (hZ : Z.Warmed39 s.vm) (eT : T.heap = h) (V : Arv Z h a cA ty z vs dv) (hd : decode c.code pc = .ok (.arraylength, 1))
    (g : Go p e below K (T.setTop (mkF m (pc + 1) Ls (.int z :: rest)))) : Go p e below K (T.setTop (mkF m pc Ls (.ref a :: rest))) := by
  obtain ⟨cl, A, -, S, N, -, -⟩ := V
  subst eT
  refine Go.by (fun t q => X.arraylength hx A.1 (State.isArrayOf_alike hZ.alike A.2.1) (g := mkF m pc Ls (.ref a :: rest)) rfl rfl hd _ q) ?_
  rw [len_of S N]
  exact g
/-- an array of which the length alone is known -/
def Lng (Z : State) (h : Heap) (a : Addr) (n : Int32) : Prop := ∃ (cl : Cell) (ty : FieldType), Arr Z h a cl ty ∧ cl.slots.size = n.toNatClampNeg ∧ ¬ n < 0
theorem Lng.ext (L : Lng Z h a z) (E : Ext h h') : Lng Z h' a z := by obtain ⟨cl, ty, A, r⟩ := L; exact ⟨cl, ty, A.ext E, r⟩
theorem Lng.lt (L : Lng Z h a z) : a < h.size := by obtain ⟨cl, ty, A, r⟩ := L; exact A.lt
theorem Lng.of {cl : Cell} (A : Arr Z h a cl ty) (q : cl.slots.size < 2 ^ 31) (e : cl.slots.size.toInt32 = z) (hz : ¬ z < 0) : Lng Z h a z := by
  refine ⟨cl, ty, A, ?_, hz⟩
  rw [← e]; simp only [Int32.toNatClampNeg, len_toInt q]; rfl
theorem Go.aln (X : Stand p l e R s m args below meth c T locs cells slots) (hx : p.tables.exec = Jvm.exec) (hZ : Z.Warmed39 s.vm) (eT : T.heap = h) (V : Lng Z h a z) (hd : decode c.code pc = .ok (.arraylength, 1))
    (g : Go p e below K (T.setTop (mkF m (pc + 1) Ls (.int z :: rest)))) : Go p e below K (T.setTop (mkF m pc Ls (.ref a :: rest))) := by
  obtain ⟨cl, ty, A, S, N⟩ := V
  subst eT
  refine Go.by (fun t q => X.arraylength hx A.1 (State.isArrayOf_alike hZ.alike A.2.1) (g := mkF m pc Ls (.ref a :: rest)) rfl rfl hd _ q) ?_
  rw [len_of S N]
  exact g
theorem bb (x : Int32) : x.toInt8.toInt32.toInt8.toInt32 = x.toInt8.toInt32 := by simp
theorem Go.bal {v : Value} (X : Stand p l e R s m args below meth c T locs cells slots) (hx : p.tables.exec = Jvm.exec) (hZ : Z.Warmed39 s.vm) (eT : T.heap = h) (V : Arv Z h a cA .byte z vs dv) (hj : ¬ j < 0 ∧ j < z) (hv : vs.getD j.toNatClampNeg dv = v) (hd : decode c.code pc = .ok (.baload, 1))
    (g : Go p e below K (T.setTop (mkF m (pc + 1) Ls (v :: rest)))) : Go p e below K (T.setTop (mkF m pc Ls (.int j :: .ref a :: rest))) := by
  obtain ⟨cl, A, -, S, N, H, -⟩ := V
  subst eT
  have hin := inb_of S hj
  exact Go.by (fun t q => X.baloadBytes hx (j := j) (v := v) A.1 (State.isArrayOf_alike hZ.alike A.2.1) A.2.2 hin (H.at hin hv) (g := mkF m pc Ls (.int j :: .ref a :: rest)) rfl rfl hd _ q) g
theorem Go.cal {v : Value} (X : Stand p l e R s m args below meth c T locs cells slots) (hx : p.tables.exec = Jvm.exec) (hZ : Z.Warmed39 s.vm) (eT : T.heap = h) (V : Arv Z h a cA .char z vs dv) (hj : ¬ j < 0 ∧ j < z) (hv : vs.getD j.toNatClampNeg dv = v) (hd : decode c.code pc = .ok (.caload, 1))
    (g : Go p e below K (T.setTop (mkF m (pc + 1) Ls (v :: rest)))) : Go p e below K (T.setTop (mkF m pc Ls (.int j :: .ref a :: rest))) := by
  obtain ⟨cl, A, -, S, N, H, -⟩ := V
  subst eT
  have hin := inb_of S hj
  exact Go.by (fun t q => X.caload hx (j := j) (v := v) A.1 (State.isArrayOf_alike hZ.alike A.2.1) A.2.2 hin (H.at hin hv) (g := mkF m pc Ls (.int j :: .ref a :: rest)) rfl rfl hd _ q) g
theorem Go.ial {v : Value} (X : Stand p l e R s m args below meth c T locs cells slots) (hx : p.tables.exec = Jvm.exec) (hZ : Z.Warmed39 s.vm) (eT : T.heap = h) (V : Arv Z h a cA .int z vs dv) (hj : ¬ j < 0 ∧ j < z) (hv : vs.getD j.toNatClampNeg dv = v) (hd : decode c.code pc = .ok (.iaload, 1))
    (g : Go p e below K (T.setTop (mkF m (pc + 1) Ls (v :: rest)))) : Go p e below K (T.setTop (mkF m pc Ls (.int j :: .ref a :: rest))) := by
  obtain ⟨cl, A, -, S, N, H, -⟩ := V
  subst eT
  have hin := inb_of S hj
  exact Go.by (fun t q => X.iaload hx (j := j) (v := v) A.1 (State.isArrayOf_alike hZ.alike A.2.1) A.2.2 hin (H.at hin hv) (g := mkF m pc Ls (.int j :: .ref a :: rest)) rfl rfl hd _ q) g
theorem Go.aal {v : Value} (X : Stand p l e R s m args below meth c T locs cells slots) (hx : p.tables.exec = Jvm.exec) (hZ : Z.Warmed39 s.vm) (eT : T.heap = h) (V : Arv Z h a cA ty z vs dv) (hty : ty.isReference = true) (hj : ¬ j < 0 ∧ j < z) (hv : vs.getD j.toNatClampNeg dv = v) (hd : decode c.code pc = .ok (.aaload, 1))
    (g : Go p e below K (T.setTop (mkF m (pc + 1) Ls (v :: rest)))) : Go p e below K (T.setTop (mkF m pc Ls (.int j :: .ref a :: rest))) := by
  obtain ⟨cl, A, -, S, N, H, -⟩ := V
  subst eT
  have hin := inb_of S hj
  exact Go.by (fun t q => X.aaload hx (j := j) (v := v) A.1 (State.isArrayOf_alike hZ.alike A.2.1) hty A.2.2 hin (H.at hin hv) (g := mkF m pc Ls (.int j :: .ref a :: rest)) rfl rfl hd _ q) g
theorem Go.bst {x : Int32} {i : Nat} (X : Stand p l e R s m args below meth c T locs cells slots) (hx : p.tables.exec = Jvm.exec) (hZ : Z.Warmed39 s.vm) (eT : T.heap = h) (V : Arv Z h a cA .byte z vs dv) (hj : ¬ j < 0 ∧ j < z) (hi : j.toNatClampNeg = i) (hl : i < vs.length) (hd : decode c.code pc = .ok (.bastore, 1))
    (g : ∀ (T' : State) (h' : Heap), Stand p l e R s m args below meth c T' (locs ++ [⟨a, j.toNatClampNeg⟩]) cells slots → T'.heap = h' → Wr h h' a j.toNatClampNeg (.int x.toInt8.toInt32) → Arv Z h' a cA .byte z (vs.set i (.int x.toInt8.toInt32)) dv → Go p e below K (T'.setTop (mkF m (pc + 1) Ls rest))) : Go p e below K (T.setTop (mkF m pc Ls (.int x :: .int j :: .ref a :: rest))) := by
  obtain ⟨cl, A, q1, S, N, H, G⟩ := V
  obtain ⟨T', h', X', e', W, st⟩ := stB X hx hZ eT A (j := j) (x := x) (inb_of S hj) (g := mkF m pc Ls (.int x :: .int j :: .ref a :: rest)) rfl rfl hd
  exact Go.by st (g T' h' X' e' W (Arv.set A q1 S N H G (fits_nar_byte _) W i hi hl))
theorem Go.cst {x : Int32} {i : Nat} (X : Stand p l e R s m args below meth c T locs cells slots) (hx : p.tables.exec = Jvm.exec) (hZ : Z.Warmed39 s.vm) (eT : T.heap = h) (V : Arv Z h a cA .char z vs dv) (hj : ¬ j < 0 ∧ j < z) (hi : j.toNatClampNeg = i) (hl : i < vs.length) (hd : decode c.code pc = .ok (.castore, 1))
    (g : ∀ (T' : State) (h' : Heap), Stand p l e R s m args below meth c T' (locs ++ [⟨a, j.toNatClampNeg⟩]) cells slots → T'.heap = h' → Wr h h' a j.toNatClampNeg (.int (nar .char x)) → Arv Z h' a cA .char z (vs.set i (.int (nar .char x))) dv → Go p e below K (T'.setTop (mkF m (pc + 1) Ls rest))) : Go p e below K (T.setTop (mkF m pc Ls (.int x :: .int j :: .ref a :: rest))) := by
  obtain ⟨cl, A, q1, S, N, H, G⟩ := V
  obtain ⟨T', h', X', e', W, st⟩ := stC X hx hZ eT A (j := j) (x := x) (inb_of S hj) (g := mkF m pc Ls (.int x :: .int j :: .ref a :: rest)) rfl rfl hd
  exact Go.by st (g T' h' X' e' W (Arv.set A q1 S N H G (fits_nar_char _) W i hi hl))
theorem Go.ist {x : Int32} {i : Nat} (X : Stand p l e R s m args below meth c T locs cells slots) (hx : p.tables.exec = Jvm.exec) (hZ : Z.Warmed39 s.vm) (eT : T.heap = h) (V : Arv Z h a cA .int z vs dv) (hj : ¬ j < 0 ∧ j < z) (hi : j.toNatClampNeg = i) (hl : i < vs.length) (hd : decode c.code pc = .ok (.iastore, 1))
    (g : ∀ (T' : State) (h' : Heap), Stand p l e R s m args below meth c T' (locs ++ [⟨a, j.toNatClampNeg⟩]) cells slots → T'.heap = h' → Wr h h' a j.toNatClampNeg (.int x) → Arv Z h' a cA .int z (vs.set i (.int x)) dv → Go p e below K (T'.setTop (mkF m (pc + 1) Ls rest))) : Go p e below K (T.setTop (mkF m pc Ls (.int x :: .int j :: .ref a :: rest))) := by
  obtain ⟨cl, A, q1, S, N, H, G⟩ := V
  obtain ⟨T', h', X', e', W, st⟩ := stI X hx hZ eT A (j := j) (x := x) (inb_of S hj) (g := mkF m pc Ls (.int x :: .int j :: .ref a :: rest)) rfl rfl hd
  exact Go.by st (g T' h' X' e' W (Arv.set A q1 S N H G rfl W i hi hl))
/-! from the case's words -/
theorem sta_exa {C f d K : String} (hx : (Cond.exactly (Term.static C f d) K).value args s none s [] = some true) (w1 : (Cond.initialized C).before args s = true) (w2 : (Cond.laysStatic C f d).before args s = true) : ∃ a, (Term.static C f d).eval args s none [] s = some (.ref a) ∧ Sta s s.heap C f d (.ref a) ∧ Exa s s.heap a K := by
  obtain ⟨a, ev⟩ := exa_v hx
  exact ⟨a, ev, Sta.start ev (Or.inr ⟨w1, w2⟩), Exa.start ev hx⟩
theorem fld_int {t : Term} {C f d : String} {z : Int32} (ev : t.eval args s none [] s = some (.ref a)) (hx : (Cond.eq (Term.field t C f d) (Term.int z)).value args s none s [] = some true) : Fld s s.heap a C f d (.int z) := by
  obtain ⟨x, y, e1, e2, k1, k2⟩ := cmp_v (Or.inl hx)
  have e3 : y = .int z := by rw [Term.int_eval] at e2; exact (Option.some.inj e2).symm
  subst e3
  obtain ⟨q, rfl⟩ : ∃ q, x = .int q := k2
  have e4 : q = z := by simpa [Cond.value, e1, e2] using hx
  subst e4
  rw [fld_at ev] at e1
  exact Fld.start e1
theorem eq_int {t : Term} {x z : Int32} (ev : t.eval args s none [] s = some (.int x)) (h : (Cond.eq t (Term.int z)).before args s = true) : x = z := by
  have q := Cond.before_iff.mp h
  simpa [Cond.value, ev, Term.int_eval] using q
theorem fld_ref {t : Term} {C f d : String} (ev : t.eval args s none [] s = some (.ref a)) (ev2 : (Term.field t C f d).eval args s none [] s = some (.ref b)) : Fld s s.heap a C f d (.ref b) := by
  rw [fld_at ev] at ev2; exact Fld.start ev2
theorem fld_null {t : Term} {C f d : String} (ev : t.eval args s none [] s = some (.ref a)) (hx : (Cond.eq (Term.field t C f d) Term.null).value args s none s [] = some true) : Fld s s.heap a C f d .null := by
  have q := null_v hx
  rw [fld_at ev] at q; exact Fld.start q
theorem fld_same {t u : Term} {C f d : String} (ev : t.eval args s none [] s = some (.ref a)) (ev2 : u.eval args s none [] s = some (.ref b)) (hx : (Cond.eq (Term.field t C f d) u).value args s none s [] = some true) : Fld s s.heap a C f d (.ref b) := by
  obtain ⟨x, y, e1, e2, k1, k2⟩ := cmp_v (Or.inl hx)
  cases ev2.symm.trans e2
  have hr : x.isRef = true := by
    have := k2
    simp [Kin] at this
    exact this.2
  rw [eq_R e1 e2 hr rfl] at hx
  have e3 : x = .ref b := by simpa using hx
  subst e3
  exact fld_ref ev e1
theorem elem_int {t : Term} {i v : Int32} {cl : Cell} {ty : FieldType} (ev : t.eval args s none [] s = some (.ref a)) (A : Arr s s.heap a cl ty) (hx : (Cond.eq (Term.elem t (Term.int i)) (Term.int v)).value args s none s [] = some true) : cl.slots[i.toNatClampNeg]? = some (.int v) := by
  obtain ⟨x, y, e1, e2, k1, k2⟩ := cmp_v (Or.inl hx)
  have e3 : y = .int v := by rw [Term.int_eval] at e2; exact (Option.some.inj e2).symm
  subst e3
  obtain ⟨q, rfl⟩ : ∃ q, x = .int q := k2
  have e4 : q = v := eq_int e1 (Cond.before_iff.mpr hx)
  subst e4
  exact (elem_in e1 ev (Term.int_eval _) A.1).2
theorem sta_int {C f d : String} (h0 : (Cond.initializedFor C f d).before args s = true) (h1 : (Cond.isInt (Term.static C f d)).before args s = true) : ∃ x, (Term.static C f d).eval args s none [] s = some (.int x) ∧ Sta s s.heap C f d (.int x) := by
  obtain ⟨x, ev⟩ := is_v (Cond.before_iff.mp h1)
  exact ⟨x, ev, Sta.start ev (Or.inl h0)⟩
theorem sta_ref {C f d : String} (h0 : (Cond.initializedFor C f d).before args s = true) (h1 : (Cond.isRef (Term.static C f d)).before args s = true) : ∃ x, (Term.static C f d).eval args s none [] s = some x ∧ x.isRef = true ∧ Sta s s.heap C f d x := by
  obtain ⟨x, ev, hr⟩ := isR_v (Cond.before_iff.mp h1)
  exact ⟨x, ev, hr, Sta.start ev (Or.inl h0)⟩
theorem ne_int {t : Term} {x z : Int32} (ev : t.eval args s none [] s = some (.int x)) (h : (Cond.not (Cond.eq t (Term.int z))).before args s = true) : ¬ x = z := by
  have q := not_v (Cond.before_iff.mp h)
  intro e; subst e
  rw [eq_i ev (Term.int_eval _) rfl] at q
  cases q
/-! a class whose superclasses are named is not one that can be instantiated and isn't among them -/
theorem ns_root {O D : String} {nn : Nat} (w : (Cond.noSuperclass O).before a0 Z = true) (wk : (Cond.instantiable D nn).before a0 Z = true) (hn : O ≠ D) : NS Z O D := by
  obtain ⟨c1, k1, q1, q2, q3, -, -⟩ := Cond.noSuperclass_spec w
  obtain ⟨t, -, g1, -⟩ := Cond.instantiable_spec wk
  refine ⟨c1, t, q1, g1, fun fuel => ?_⟩
  have ne := ids_ne q1 g1 hn
  cases fuel <;> simp [Vm.isSubclassAux, ne, q2, q3]
theorem ns_no {C S D : String} {nn : Nat} (w : (Cond.superclass C S).before a0 Z = true) (wk : (Cond.instantiable D nn).before a0 Z = true) (n : NS Z C D) (hn : C ≠ D) : ∃ c t, Z.vm.findClass C = some c ∧ Z.vm.findClass D = some t ∧ Z.vm.assignable c t = false := by
  obtain ⟨c1, t, q0, g0, n3⟩ := n
  obtain ⟨p1, k1, kp, q1, q2, q3, q4, q5, -, q7⟩ := Cond.superclass_spec q0 w
  obtain ⟨t', k2, g1, g2, g3, g4, -⟩ := Cond.instantiable_spec wk
  cases g0.symm.trans g1
  have ne := ids_ne q0 g0 hn
  have g5 : k2.isInterface = false := by simpa using (Bool.or_eq_false_iff.mp g4).1
  refine ⟨c1, t, q0, g0, ?_⟩
  show Z.vm.assignableAux (255 + 1) c1 t = false
  simp [Vm.assignableAux, ne, q2, g2, q5, g3, g5, Vm.isSubclass, n3]
end Own
end Jvm.RoadKit
namespace Jvm.RoadKit
open Sem ClassFile Op Lib Jvm.Stand Jvm.Free Jvm.LawKit
section OwnSteps
variable {p : Program} {l : Launch} {e : Env} {R : Room} {s : State} {m : MethodId} {args : Array Value} {below : List Frame} {meth : Method} {c : Code} {T : State} {locs : List Loc} {cells slots : Nat} {K : State → Outcome → Prop} {pc q : Nat} {Ls l' : Array Slot} {S : List Value}
theorem Go.iloadN {k : Fin 4} {v : Int32} (X : Stand p l e R s m args below meth c T locs cells slots) (hx : p.tables.exec = Jvm.exec) (hd : decode c.code pc = .ok (.iload_n k, 1)) (hl : Ls[k.val]? = some (.val (.int v))) (hp : pc + 1 = q) (g : Go p e below K (T.setTop (mkF m q Ls (.int v :: S)))) : Go p e below K (T.setTop (mkF m pc Ls S)) := by
  subst hp
  exact Go.by (fun t z => XS.iloadN X.here hx rfl hd hl z) g
theorem Go.iload {k : Nat} {v : Int32} (X : Stand p l e R s m args below meth c T locs cells slots) (hx : p.tables.exec = Jvm.exec) (hd : decode c.code pc = .ok (.iload k, 2)) (hl : Ls[k]? = some (.val (.int v))) (hp : pc + 2 = q) (g : Go p e below K (T.setTop (mkF m q Ls (.int v :: S)))) : Go p e below K (T.setTop (mkF m pc Ls S)) := by
  subst hp
  exact Go.by (fun t z => XS.iload X.here hx rfl hd hl z) g
theorem Go.istoreN {k : Fin 4} {v : Int32} (X : Stand p l e R s m args below meth c T locs cells slots) (hx : p.tables.exec = Jvm.exec) (hd : decode c.code pc = .ok (.istore_n k, 1)) (hl : storeLocals Ls k.val (.int v) = some l') (hp : pc + 1 = q) (g : Go p e below K (T.setTop (mkF m q l' S))) : Go p e below K (T.setTop (mkF m pc Ls (.int v :: S))) := by
  subst hp
  exact Go.by (fun t z => XS.istoreN X.here hx rfl hd rfl hl z) g
theorem Go.istore {k : Nat} {v : Int32} (X : Stand p l e R s m args below meth c T locs cells slots) (hx : p.tables.exec = Jvm.exec) (hd : decode c.code pc = .ok (.istore k, 2)) (hl : storeLocals Ls k (.int v) = some l') (hp : pc + 2 = q) (g : Go p e below K (T.setTop (mkF m q l' S))) : Go p e below K (T.setTop (mkF m pc Ls (.int v :: S))) := by
  subst hp
  exact Go.by (fun t z => XS.istore X.here hx rfl hd rfl hl z) g
theorem Go.lloadN {k : Fin 4} {v : Int64} (X : Stand p l e R s m args below meth c T locs cells slots) (hx : p.tables.exec = Jvm.exec) (hd : decode c.code pc = .ok (.lload_n k, 1)) (hl : Ls[k.val]? = some (.val (.long v))) (hp : pc + 1 = q) (g : Go p e below K (T.setTop (mkF m q Ls (.long v :: S)))) : Go p e below K (T.setTop (mkF m pc Ls S)) := by
  subst hp
  exact Go.by (fun t z => XS.lloadN X.here hx rfl hd hl z) g
theorem Go.lload {k : Nat} {v : Int64} (X : Stand p l e R s m args below meth c T locs cells slots) (hx : p.tables.exec = Jvm.exec) (hd : decode c.code pc = .ok (.lload k, 2)) (hl : Ls[k]? = some (.val (.long v))) (hp : pc + 2 = q) (g : Go p e below K (T.setTop (mkF m q Ls (.long v :: S)))) : Go p e below K (T.setTop (mkF m pc Ls S)) := by
  subst hp
  exact Go.by (fun t z => XS.lload X.here hx rfl hd hl z) g
theorem Go.lstoreN {k : Fin 4} {v : Int64} (X : Stand p l e R s m args below meth c T locs cells slots) (hx : p.tables.exec = Jvm.exec) (hd : decode c.code pc = .ok (.lstore_n k, 1)) (hl : storeLocals Ls k.val (.long v) = some l') (hp : pc + 1 = q) (g : Go p e below K (T.setTop (mkF m q l' S))) : Go p e below K (T.setTop (mkF m pc Ls (.long v :: S))) := by
  subst hp
  exact Go.by (fun t z => XS.lstoreN X.here hx rfl hd rfl hl z) g
theorem Go.lstore {k : Nat} {v : Int64} (X : Stand p l e R s m args below meth c T locs cells slots) (hx : p.tables.exec = Jvm.exec) (hd : decode c.code pc = .ok (.lstore k, 2)) (hl : storeLocals Ls k (.long v) = some l') (hp : pc + 2 = q) (g : Go p e below K (T.setTop (mkF m q l' S))) : Go p e below K (T.setTop (mkF m pc Ls (.long v :: S))) := by
  subst hp
  exact Go.by (fun t z => XS.lstore X.here hx rfl hd rfl hl z) g
theorem Go.aloadN {k : Fin 4} {v : Value} (X : Stand p l e R s m args below meth c T locs cells slots) (hx : p.tables.exec = Jvm.exec) (hd : decode c.code pc = .ok (.aload_n k, 1)) (hl : Ls[k.val]? = some (.val v)) (hv : v.isRef = true) (hp : pc + 1 = q) (g : Go p e below K (T.setTop (mkF m q Ls (v :: S)))) : Go p e below K (T.setTop (mkF m pc Ls S)) := by
  subst hp
  exact Go.by (fun t z => XS.aloadN X.here hx rfl hd hl hv z) g
theorem Go.aload {k : Nat} {v : Value} (X : Stand p l e R s m args below meth c T locs cells slots) (hx : p.tables.exec = Jvm.exec) (hd : decode c.code pc = .ok (.aload k, 2)) (hl : Ls[k]? = some (.val v)) (hv : v.isRef = true) (hp : pc + 2 = q) (g : Go p e below K (T.setTop (mkF m q Ls (v :: S)))) : Go p e below K (T.setTop (mkF m pc Ls S)) := by
  subst hp
  exact Go.by (fun t z => XS.aload X.here hx rfl hd hl hv z) g
theorem Go.astoreN {k : Fin 4} {v : Value} (X : Stand p l e R s m args below meth c T locs cells slots) (hx : p.tables.exec = Jvm.exec) (hd : decode c.code pc = .ok (.astore_n k, 1)) (hv : v.isRef = true) (hl : storeLocals Ls k.val v = some l') (hp : pc + 1 = q) (g : Go p e below K (T.setTop (mkF m q l' S))) : Go p e below K (T.setTop (mkF m pc Ls (v :: S))) := by
  subst hp
  exact Go.by (fun t z => XS.astoreN X.here hx rfl hd rfl hv hl z) g
theorem Go.astore {k : Nat} {v : Value} (X : Stand p l e R s m args below meth c T locs cells slots) (hx : p.tables.exec = Jvm.exec) (hd : decode c.code pc = .ok (.astore k, 2)) (hv : v.isRef = true) (hl : storeLocals Ls k v = some l') (hp : pc + 2 = q) (g : Go p e below K (T.setTop (mkF m q l' S))) : Go p e below K (T.setTop (mkF m pc Ls (v :: S))) := by
  subst hp
  exact Go.by (fun t z => XS.astore X.here hx rfl hd rfl hv hl z) g
theorem Go.iconst {i : Int} {r : Int32} (X : Stand p l e R s m args below meth c T locs cells slots) (hx : p.tables.exec = Jvm.exec) (hd : decode c.code pc = .ok (.iconst i, 1)) (hr : Int32.ofInt i = r) (hp : pc + 1 = q) (g : Go p e below K (T.setTop (mkF m q Ls (.int r :: S)))) : Go p e below K (T.setTop (mkF m pc Ls S)) := by
  subst hp hr
  exact Go.by (fun t z => XS.iconst X.here hx rfl hd z) g
theorem Go.bipush {i : Int} {r : Int32} (X : Stand p l e R s m args below meth c T locs cells slots) (hx : p.tables.exec = Jvm.exec) (hd : decode c.code pc = .ok (.bipush i, 2)) (hr : (Int8.ofInt i).toInt32 = r) (hp : pc + 2 = q) (g : Go p e below K (T.setTop (mkF m q Ls (.int r :: S)))) : Go p e below K (T.setTop (mkF m pc Ls S)) := by
  subst hp hr
  exact Go.by (fun t z => XS.bipush X.here hx rfl hd z) g
theorem Go.sipush {i : Int} {r : Int32} (X : Stand p l e R s m args below meth c T locs cells slots) (hx : p.tables.exec = Jvm.exec) (hd : decode c.code pc = .ok (.sipush i, 3)) (hr : (Int16.ofInt i).toInt32 = r) (hp : pc + 3 = q) (g : Go p e below K (T.setTop (mkF m q Ls (.int r :: S)))) : Go p e below K (T.setTop (mkF m pc Ls S)) := by
  subst hp hr
  exact Go.by (fun t z => XS.sipush X.here hx rfl hd z) g
theorem Go.lconst {k : Fin 2} {r : Int64} (X : Stand p l e R s m args below meth c T locs cells slots) (hx : p.tables.exec = Jvm.exec) (hd : decode c.code pc = .ok (.lconst k, 1)) (hr : Int64.ofNat k = r) (hp : pc + 1 = q) (g : Go p e below K (T.setTop (mkF m q Ls (.long r :: S)))) : Go p e below K (T.setTop (mkF m pc Ls S)) := by
  subst hp hr
  exact Go.by (fun t z => XS.lconst X.here hx rfl hd z) g
theorem Go.aconst_null  (X : Stand p l e R s m args below meth c T locs cells slots) (hx : p.tables.exec = Jvm.exec) (hd : decode c.code pc = .ok (.aconst_null, 1)) (hp : pc + 1 = q) (g : Go p e below K (T.setTop (mkF m q Ls (.null :: S)))) : Go p e below K (T.setTop (mkF m pc Ls S)) := by
  subst hp
  exact Go.by (fun t z => XS.aconstNull X.here hx rfl hd z) g
theorem Go.iadd {x y r : Int32} (X : Stand p l e R s m args below meth c T locs cells slots) (hx : p.tables.exec = Jvm.exec) (hd : decode c.code pc = .ok (.iadd, 1)) (hr : x + y = r) (hp : pc + 1 = q) (g : Go p e below K (T.setTop (mkF m q Ls (.int r :: S)))) : Go p e below K (T.setTop (mkF m pc Ls (.int y :: .int x :: S))) := by
  subst hp hr
  exact Go.by (fun t z => XS.iadd X.here hx rfl hd rfl z) g
theorem Go.ladd {x y r : Int64} (X : Stand p l e R s m args below meth c T locs cells slots) (hx : p.tables.exec = Jvm.exec) (hd : decode c.code pc = .ok (.ladd, 1)) (hr : x + y = r) (hp : pc + 1 = q) (g : Go p e below K (T.setTop (mkF m q Ls (.long r :: S)))) : Go p e below K (T.setTop (mkF m pc Ls (.long y :: .long x :: S))) := by
  subst hp hr
  exact Go.by (fun t z => XS.ladd X.here hx rfl hd rfl z) g
theorem Go.isub {x y r : Int32} (X : Stand p l e R s m args below meth c T locs cells slots) (hx : p.tables.exec = Jvm.exec) (hd : decode c.code pc = .ok (.isub, 1)) (hr : x - y = r) (hp : pc + 1 = q) (g : Go p e below K (T.setTop (mkF m q Ls (.int r :: S)))) : Go p e below K (T.setTop (mkF m pc Ls (.int y :: .int x :: S))) := by
  subst hp hr
  exact Go.by (fun t z => XS.isub X.here hx rfl hd rfl z) g
theorem Go.lsub {x y r : Int64} (X : Stand p l e R s m args below meth c T locs cells slots) (hx : p.tables.exec = Jvm.exec) (hd : decode c.code pc = .ok (.lsub, 1)) (hr : x - y = r) (hp : pc + 1 = q) (g : Go p e below K (T.setTop (mkF m q Ls (.long r :: S)))) : Go p e below K (T.setTop (mkF m pc Ls (.long y :: .long x :: S))) := by
  subst hp hr
  exact Go.by (fun t z => XS.lsub X.here hx rfl hd rfl z) g
theorem Go.imul {x y r : Int32} (X : Stand p l e R s m args below meth c T locs cells slots) (hx : p.tables.exec = Jvm.exec) (hd : decode c.code pc = .ok (.imul, 1)) (hr : x * y = r) (hp : pc + 1 = q) (g : Go p e below K (T.setTop (mkF m q Ls (.int r :: S)))) : Go p e below K (T.setTop (mkF m pc Ls (.int y :: .int x :: S))) := by
  subst hp hr
  exact Go.by (fun t z => XS.imul X.here hx rfl hd rfl z) g
theorem Go.lmul {x y r : Int64} (X : Stand p l e R s m args below meth c T locs cells slots) (hx : p.tables.exec = Jvm.exec) (hd : decode c.code pc = .ok (.lmul, 1)) (hr : x * y = r) (hp : pc + 1 = q) (g : Go p e below K (T.setTop (mkF m q Ls (.long r :: S)))) : Go p e below K (T.setTop (mkF m pc Ls (.long y :: .long x :: S))) := by
  subst hp hr
  exact Go.by (fun t z => XS.lmul X.here hx rfl hd rfl z) g
theorem Go.iand {x y r : Int32} (X : Stand p l e R s m args below meth c T locs cells slots) (hx : p.tables.exec = Jvm.exec) (hd : decode c.code pc = .ok (.iand, 1)) (hr : x &&& y = r) (hp : pc + 1 = q) (g : Go p e below K (T.setTop (mkF m q Ls (.int r :: S)))) : Go p e below K (T.setTop (mkF m pc Ls (.int y :: .int x :: S))) := by
  subst hp hr
  exact Go.by (fun t z => XS.iand X.here hx rfl hd rfl z) g
theorem Go.land {x y r : Int64} (X : Stand p l e R s m args below meth c T locs cells slots) (hx : p.tables.exec = Jvm.exec) (hd : decode c.code pc = .ok (.land, 1)) (hr : x &&& y = r) (hp : pc + 1 = q) (g : Go p e below K (T.setTop (mkF m q Ls (.long r :: S)))) : Go p e below K (T.setTop (mkF m pc Ls (.long y :: .long x :: S))) := by
  subst hp hr
  exact Go.by (fun t z => XS.land X.here hx rfl hd rfl z) g
theorem Go.ior {x y r : Int32} (X : Stand p l e R s m args below meth c T locs cells slots) (hx : p.tables.exec = Jvm.exec) (hd : decode c.code pc = .ok (.ior, 1)) (hr : x ||| y = r) (hp : pc + 1 = q) (g : Go p e below K (T.setTop (mkF m q Ls (.int r :: S)))) : Go p e below K (T.setTop (mkF m pc Ls (.int y :: .int x :: S))) := by
  subst hp hr
  exact Go.by (fun t z => XS.ior X.here hx rfl hd rfl z) g
theorem Go.lor {x y r : Int64} (X : Stand p l e R s m args below meth c T locs cells slots) (hx : p.tables.exec = Jvm.exec) (hd : decode c.code pc = .ok (.lor, 1)) (hr : x ||| y = r) (hp : pc + 1 = q) (g : Go p e below K (T.setTop (mkF m q Ls (.long r :: S)))) : Go p e below K (T.setTop (mkF m pc Ls (.long y :: .long x :: S))) := by
  subst hp hr
  exact Go.by (fun t z => XS.lor X.here hx rfl hd rfl z) g
theorem Go.ixor {x y r : Int32} (X : Stand p l e R s m args below meth c T locs cells slots) (hx : p.tables.exec = Jvm.exec) (hd : decode c.code pc = .ok (.ixor, 1)) (hr : x ^^^ y = r) (hp : pc + 1 = q) (g : Go p e below K (T.setTop (mkF m q Ls (.int r :: S)))) : Go p e below K (T.setTop (mkF m pc Ls (.int y :: .int x :: S))) := by
  subst hp hr
  exact Go.by (fun t z => XS.ixor X.here hx rfl hd rfl z) g
theorem Go.lxor {x y r : Int64} (X : Stand p l e R s m args below meth c T locs cells slots) (hx : p.tables.exec = Jvm.exec) (hd : decode c.code pc = .ok (.lxor, 1)) (hr : x ^^^ y = r) (hp : pc + 1 = q) (g : Go p e below K (T.setTop (mkF m q Ls (.long r :: S)))) : Go p e below K (T.setTop (mkF m pc Ls (.long y :: .long x :: S))) := by
  subst hp hr
  exact Go.by (fun t z => XS.lxor X.here hx rfl hd rfl z) g
theorem Go.idiv {x y r : Int32} (X : Stand p l e R s m args below meth c T locs cells slots) (hx : p.tables.exec = Jvm.exec) (hd : decode c.code pc = .ok (.idiv, 1)) (hy : y ≠ 0) (hr : x / y = r) (hp : pc + 1 = q) (g : Go p e below K (T.setTop (mkF m q Ls (.int r :: S)))) : Go p e below K (T.setTop (mkF m pc Ls (.int y :: .int x :: S))) := by
  subst hp hr
  exact Go.by (fun t z => XS.idiv X.here hx rfl hd rfl hy z) g
theorem Go.ineg {x r : Int32} (X : Stand p l e R s m args below meth c T locs cells slots) (hx : p.tables.exec = Jvm.exec) (hd : decode c.code pc = .ok (.ineg, 1)) (hr : -x = r) (hp : pc + 1 = q) (g : Go p e below K (T.setTop (mkF m q Ls (.int r :: S)))) : Go p e below K (T.setTop (mkF m pc Ls (.int x :: S))) := by
  subst hp hr
  exact Go.by (fun t z => XS.ineg X.here hx rfl hd rfl z) g
theorem Go.ldiv {x y r : Int64} (X : Stand p l e R s m args below meth c T locs cells slots) (hx : p.tables.exec = Jvm.exec) (hd : decode c.code pc = .ok (.ldiv, 1)) (hy : y ≠ 0) (hr : x / y = r) (hp : pc + 1 = q) (g : Go p e below K (T.setTop (mkF m q Ls (.long r :: S)))) : Go p e below K (T.setTop (mkF m pc Ls (.long y :: .long x :: S))) := by
  subst hp hr
  exact Go.by (fun t z => XS.ldiv X.here hx rfl hd rfl hy z) g
theorem Go.lneg {x r : Int64} (X : Stand p l e R s m args below meth c T locs cells slots) (hx : p.tables.exec = Jvm.exec) (hd : decode c.code pc = .ok (.lneg, 1)) (hr : -x = r) (hp : pc + 1 = q) (g : Go p e below K (T.setTop (mkF m q Ls (.long r :: S)))) : Go p e below K (T.setTop (mkF m pc Ls (.long x :: S))) := by
  subst hp hr
  exact Go.by (fun t z => XS.lneg X.here hx rfl hd rfl z) g
theorem Go.irem {x y r : Int32} (X : Stand p l e R s m args below meth c T locs cells slots) (hx : p.tables.exec = Jvm.exec) (hd : decode c.code pc = .ok (.irem, 1)) (hy : y ≠ 0) (hr : x % y = r) (hp : pc + 1 = q) (g : Go p e below K (T.setTop (mkF m q Ls (.int r :: S)))) : Go p e below K (T.setTop (mkF m pc Ls (.int y :: .int x :: S))) := by
  subst hp hr
  exact Go.by (fun t z => iremM X hx (g := mkF m pc Ls (.int y :: .int x :: S)) rfl hd rfl hy z) g
theorem Go.lrem {x y r : Int64} (X : Stand p l e R s m args below meth c T locs cells slots) (hx : p.tables.exec = Jvm.exec) (hd : decode c.code pc = .ok (.lrem, 1)) (hy : y ≠ 0) (hr : x - (x / y) * y = r) (hp : pc + 1 = q) (g : Go p e below K (T.setTop (mkF m q Ls (.long r :: S)))) : Go p e below K (T.setTop (mkF m pc Ls (.long y :: .long x :: S))) := by
  subst hp hr
  exact Go.by (fun t z => XS.lrem X.here hx rfl hd rfl hy z) g
theorem Go.ishl {x y r : Int32} (X : Stand p l e R s m args below meth c T locs cells slots) (hx : p.tables.exec = Jvm.exec) (hd : decode c.code pc = .ok (.ishl, 1)) (hr : x <<< (y &&& 31) = r) (hp : pc + 1 = q) (g : Go p e below K (T.setTop (mkF m q Ls (.int r :: S)))) : Go p e below K (T.setTop (mkF m pc Ls (.int y :: .int x :: S))) := by
  subst hp hr
  exact Go.by (fun t z => XS.ishl X.here hx rfl hd rfl z) g
theorem Go.ishr {x y r : Int32} (X : Stand p l e R s m args below meth c T locs cells slots) (hx : p.tables.exec = Jvm.exec) (hd : decode c.code pc = .ok (.ishr, 1)) (hr : x >>> (y &&& 31) = r) (hp : pc + 1 = q) (g : Go p e below K (T.setTop (mkF m q Ls (.int r :: S)))) : Go p e below K (T.setTop (mkF m pc Ls (.int y :: .int x :: S))) := by
  subst hp hr
  exact Go.by (fun t z => XS.ishr X.here hx rfl hd rfl z) g
theorem Go.iushr {x y r : Int32} (X : Stand p l e R s m args below meth c T locs cells slots) (hx : p.tables.exec = Jvm.exec) (hd : decode c.code pc = .ok (.iushr, 1)) (hr : (x.toUInt32 >>> (y &&& 31).toUInt32).toInt32 = r) (hp : pc + 1 = q) (g : Go p e below K (T.setTop (mkF m q Ls (.int r :: S)))) : Go p e below K (T.setTop (mkF m pc Ls (.int y :: .int x :: S))) := by
  subst hp hr
  exact Go.by (fun t z => XS.iushr X.here hx rfl hd rfl z) g
theorem Go.lshl {x : Int64} {y : Int32} {r : Int64} (X : Stand p l e R s m args below meth c T locs cells slots) (hx : p.tables.exec = Jvm.exec) (hd : decode c.code pc = .ok (.lshl, 1)) (hr : x <<< (y &&& 0x3f).toInt64 = r) (hp : pc + 1 = q) (g : Go p e below K (T.setTop (mkF m q Ls (.long r :: S)))) : Go p e below K (T.setTop (mkF m pc Ls (.int y :: .long x :: S))) := by
  subst hp hr
  exact Go.by (fun t z => XS.lshl X.here hx rfl hd rfl z) g
theorem Go.lshr {x : Int64} {y : Int32} {r : Int64} (X : Stand p l e R s m args below meth c T locs cells slots) (hx : p.tables.exec = Jvm.exec) (hd : decode c.code pc = .ok (.lshr, 1)) (hr : x >>> (y &&& 0x3f).toInt64 = r) (hp : pc + 1 = q) (g : Go p e below K (T.setTop (mkF m q Ls (.long r :: S)))) : Go p e below K (T.setTop (mkF m pc Ls (.int y :: .long x :: S))) := by
  subst hp hr
  exact Go.by (fun t z => XS.lshr X.here hx rfl hd rfl z) g
theorem Go.lushr {x : Int64} {y : Int32} {r : Int64} (X : Stand p l e R s m args below meth c T locs cells slots) (hx : p.tables.exec = Jvm.exec) (hd : decode c.code pc = .ok (.lushr, 1)) (hr : (x.toUInt64 >>> (y &&& 0x3f).toInt64.toUInt64).toInt64 = r) (hp : pc + 1 = q) (g : Go p e below K (T.setTop (mkF m q Ls (.long r :: S)))) : Go p e below K (T.setTop (mkF m pc Ls (.int y :: .long x :: S))) := by
  subst hp hr
  exact Go.by (fun t z => XS.lushr X.here hx rfl hd rfl z) g
theorem Go.i2b {x : Int32} {r : Int32} (X : Stand p l e R s m args below meth c T locs cells slots) (hx : p.tables.exec = Jvm.exec) (hd : decode c.code pc = .ok (.i2b, 1)) (hr : x.toInt8.toInt32 = r) (hp : pc + 1 = q) (g : Go p e below K (T.setTop (mkF m q Ls (.int r :: S)))) : Go p e below K (T.setTop (mkF m pc Ls (.int x :: S))) := by
  subst hp hr
  exact Go.by (fun t z => XS.i2b X.here hx rfl hd rfl z) g
theorem Go.i2c {x : Int32} {r : Int32} (X : Stand p l e R s m args below meth c T locs cells slots) (hx : p.tables.exec = Jvm.exec) (hd : decode c.code pc = .ok (.i2c, 1)) (hr : x.toUInt32.toUInt16.toUInt32.toInt32 = r) (hp : pc + 1 = q) (g : Go p e below K (T.setTop (mkF m q Ls (.int r :: S)))) : Go p e below K (T.setTop (mkF m pc Ls (.int x :: S))) := by
  subst hp hr
  exact Go.by (fun t z => XS.i2c X.here hx rfl hd rfl z) g
theorem Go.i2s {x : Int32} {r : Int32} (X : Stand p l e R s m args below meth c T locs cells slots) (hx : p.tables.exec = Jvm.exec) (hd : decode c.code pc = .ok (.i2s, 1)) (hr : x.toInt16.toInt32 = r) (hp : pc + 1 = q) (g : Go p e below K (T.setTop (mkF m q Ls (.int r :: S)))) : Go p e below K (T.setTop (mkF m pc Ls (.int x :: S))) := by
  subst hp hr
  exact Go.by (fun t z => XS.i2s X.here hx rfl hd rfl z) g
theorem Go.i2l {x : Int32} {r : Int64} (X : Stand p l e R s m args below meth c T locs cells slots) (hx : p.tables.exec = Jvm.exec) (hd : decode c.code pc = .ok (.i2l, 1)) (hr : x.toInt64 = r) (hp : pc + 1 = q) (g : Go p e below K (T.setTop (mkF m q Ls (.long r :: S)))) : Go p e below K (T.setTop (mkF m pc Ls (.int x :: S))) := by
  subst hp hr
  exact Go.by (fun t z => XS.i2l X.here hx rfl hd rfl z) g
theorem Go.l2i {x : Int64} {r : Int32} (X : Stand p l e R s m args below meth c T locs cells slots) (hx : p.tables.exec = Jvm.exec) (hd : decode c.code pc = .ok (.l2i, 1)) (hr : x.toInt32 = r) (hp : pc + 1 = q) (g : Go p e below K (T.setTop (mkF m q Ls (.int r :: S)))) : Go p e below K (T.setTop (mkF m pc Ls (.long x :: S))) := by
  subst hp hr
  exact Go.by (fun t z => XS.l2i X.here hx rfl hd rfl z) g
theorem Go.lcmp {x y : Int64} {r : Int32} (X : Stand p l e R s m args below meth c T locs cells slots) (hx : p.tables.exec = Jvm.exec) (hd : decode c.code pc = .ok (.lcmp, 1)) (hr : Jvm.Free.XT.cmpL x y = r) (hp : pc + 1 = q) (g : Go p e below K (T.setTop (mkF m q Ls (.int r :: S)))) : Go p e below K (T.setTop (mkF m pc Ls (.long y :: .long x :: S))) := by
  subst hp hr
  exact Go.by (fun t z => XS.lcmp X.here hx rfl hd rfl z) g
theorem Go.iinc {k : Nat} {cst : Int} {x r : Int32} (X : Stand p l e R s m args below meth c T locs cells slots) (hx : p.tables.exec = Jvm.exec) (hd : decode c.code pc = .ok (.iinc k cst, 3)) (hl : Ls[k]? = some (.val (.int x))) (hr : x + Int32.ofInt cst = r) (hl' : storeLocals Ls k (.int r) = some l') (hp : pc + 3 = q) (g : Go p e below K (T.setTop (mkF m q l' S))) : Go p e below K (T.setTop (mkF m pc Ls S)) := by
  subst hp hr
  exact Go.by (fun t z => XS.iinc X.here hx rfl hd hl hl' z) g
theorem Go.dup {x : Value} (X : Stand p l e R s m args below meth c T locs cells slots) (hx : p.tables.exec = Jvm.exec) (hd : decode c.code pc = .ok (.dup, 1)) (hc : x.category = 1) (hp : pc + 1 = q) (g : Go p e below K (T.setTop (mkF m q Ls (x :: x :: S)))) : Go p e below K (T.setTop (mkF m pc Ls (x :: S))) := by
  subst hp
  exact Go.by (fun t z => XS.dup X.here hx rfl hd rfl hc z) g
theorem Go.dup_x1 {x y : Value} (X : Stand p l e R s m args below meth c T locs cells slots) (hx : p.tables.exec = Jvm.exec) (hd : decode c.code pc = .ok (.dup_x1, 1)) (hc : x.category = 1) (hc2 : y.category = 1) (hp : pc + 1 = q) (g : Go p e below K (T.setTop (mkF m q Ls (x :: y :: x :: S)))) : Go p e below K (T.setTop (mkF m pc Ls (x :: y :: S))) := by
  subst hp
  exact Go.by (fun t z => XS.dupX1 X.here hx rfl hd rfl hc hc2 z) g
theorem Go.swap {x y : Value} (X : Stand p l e R s m args below meth c T locs cells slots) (hx : p.tables.exec = Jvm.exec) (hd : decode c.code pc = .ok (.swap, 1)) (hc : x.category = 1) (hc2 : y.category = 1) (hp : pc + 1 = q) (g : Go p e below K (T.setTop (mkF m q Ls (y :: x :: S)))) : Go p e below K (T.setTop (mkF m pc Ls (x :: y :: S))) := by
  subst hp
  exact Go.by (fun t z => XS.swap X.here hx rfl hd rfl hc hc2 z) g
theorem Go.pop {x : Value} (X : Stand p l e R s m args below meth c T locs cells slots) (hx : p.tables.exec = Jvm.exec) (hd : decode c.code pc = .ok (.pop, 1)) (hc : x.category = 1) (hp : pc + 1 = q) (g : Go p e below K (T.setTop (mkF m q Ls S))) : Go p e below K (T.setTop (mkF m pc Ls (x :: S))) := by
  subst hp
  exact Go.by (fun t z => XS.pop X.here hx rfl hd rfl hc z) g
theorem Go.goto  {o : Int} (X : Stand p l e R s m args below meth c T locs cells slots) (hx : p.tables.exec = Jvm.exec) (hd : decode c.code pc = .ok (.goto o, 3)) (ho : 0 ≤ (pc : Int) + o) (hp : ((pc : Int) + o).toNat = q) (g : Go p e below K (T.setTop (mkF m q Ls S))) : Go p e below K (T.setTop (mkF m pc Ls S)) :=
  Go.by (fun t z => XS.goto X.here hx rfl (pc0 := pc) rfl hd ho hp z) g
theorem Go.ifYes {cd : ClassFile.Cond} {x : Int32} {o : Int} (X : Stand p l e R s m args below meth c T locs cells slots) (hx : p.tables.exec = Jvm.exec) (hd : decode c.code pc = .ok (.ifCond cd o, 3)) (hc : ifCond.holds cd x = true) (ho : 0 ≤ (pc : Int) + o) (hp : ((pc : Int) + o).toNat = q) (g : Go p e below K (T.setTop (mkF m q Ls S))) : Go p e below K (T.setTop (mkF m pc Ls (.int x :: S))) :=
  Go.by (fun t z => XS.ifYes X.here hx rfl (pc0 := pc) rfl hd rfl hc ho hp z) g
theorem Go.icmpYes {cd : ClassFile.Cond} {x y : Int32} {o : Int} (X : Stand p l e R s m args below meth c T locs cells slots) (hx : p.tables.exec = Jvm.exec) (hd : decode c.code pc = .ok (.if_icmp cd o, 3)) (hc : if_icmp.holds cd x y = true) (ho : 0 ≤ (pc : Int) + o) (hp : ((pc : Int) + o).toNat = q) (g : Go p e below K (T.setTop (mkF m q Ls S))) : Go p e below K (T.setTop (mkF m pc Ls (.int y :: .int x :: S))) :=
  Go.by (fun t z => XS.icmpYes X.here hx rfl (pc0 := pc) rfl hd rfl hc ho hp z) g
theorem Go.ifnullYes  {o : Int} (X : Stand p l e R s m args below meth c T locs cells slots) (hx : p.tables.exec = Jvm.exec) (hd : decode c.code pc = .ok (.ifnull o, 3)) (ho : 0 ≤ (pc : Int) + o) (hp : ((pc : Int) + o).toNat = q) (g : Go p e below K (T.setTop (mkF m q Ls S))) : Go p e below K (T.setTop (mkF m pc Ls (.null :: S))) :=
  Go.by (fun t z => XS.ifnullYes X.here hx rfl (pc0 := pc) rfl hd rfl ho hp z) g
theorem Go.ifnonnullYes {b : Addr} {o : Int} (X : Stand p l e R s m args below meth c T locs cells slots) (hx : p.tables.exec = Jvm.exec) (hd : decode c.code pc = .ok (.ifnonnull o, 3)) (ho : 0 ≤ (pc : Int) + o) (hp : ((pc : Int) + o).toNat = q) (g : Go p e below K (T.setTop (mkF m q Ls S))) : Go p e below K (T.setTop (mkF m pc Ls (.ref b :: S))) :=
  Go.by (fun t z => XS.ifnonnullYes X.here hx rfl (pc0 := pc) rfl hd rfl ho hp z) g
theorem Go.ifNo {cd : ClassFile.Cond} {x : Int32} {o : Int} (X : Stand p l e R s m args below meth c T locs cells slots) (hx : p.tables.exec = Jvm.exec) (hd : decode c.code pc = .ok (.ifCond cd o, 3)) (hc : ifCond.holds cd x = false) (hp : pc + 3 = q) (g : Go p e below K (T.setTop (mkF m q Ls S))) : Go p e below K (T.setTop (mkF m pc Ls (.int x :: S))) := by
  subst hp
  exact Go.by (fun t z => XS.ifNo X.here hx rfl hd rfl hc z) g
theorem Go.icmpNo {cd : ClassFile.Cond} {x y : Int32} {o : Int} (X : Stand p l e R s m args below meth c T locs cells slots) (hx : p.tables.exec = Jvm.exec) (hd : decode c.code pc = .ok (.if_icmp cd o, 3)) (hc : if_icmp.holds cd x y = false) (hp : pc + 3 = q) (g : Go p e below K (T.setTop (mkF m q Ls S))) : Go p e below K (T.setTop (mkF m pc Ls (.int y :: .int x :: S))) := by
  subst hp
  exact Go.by (fun t z => XS.icmpNo X.here hx rfl hd rfl hc z) g
theorem Go.ifnullNo {b : Addr} {o : Int} (X : Stand p l e R s m args below meth c T locs cells slots) (hx : p.tables.exec = Jvm.exec) (hd : decode c.code pc = .ok (.ifnull o, 3)) (hp : pc + 3 = q) (g : Go p e below K (T.setTop (mkF m q Ls S))) : Go p e below K (T.setTop (mkF m pc Ls (.ref b :: S))) := by
  subst hp
  exact Go.by (fun t z => XS.ifnullNo X.here hx rfl hd rfl z) g
theorem Go.ifnonnullNo {o : Int} (X : Stand p l e R s m args below meth c T locs cells slots) (hx : p.tables.exec = Jvm.exec) (hd : decode c.code pc = .ok (.ifnonnull o, 3)) (hp : pc + 3 = q) (g : Go p e below K (T.setTop (mkF m q Ls S))) : Go p e below K (T.setTop (mkF m pc Ls (.null :: S))) := by
  subst hp
  exact Go.by (fun t z => XS.ifnonnullNo X.here hx rfl hd rfl z) g
theorem Go.acmp {cd : ACond} {x y : Value} {o : Int} {same : Bool} (X : Stand p l e R s m args below meth c T locs cells slots) (hx : p.tables.exec = Jvm.exec) (h1 : x.isRef = true) (h2 : y.isRef = true) (hd : decode c.code pc = .ok (.if_acmp cd o, 3)) (hq : decide (x = y) = same) (ho : 0 ≤ (pc : Int) + o) (hp : q = if acV cd same = true then ((pc : Int) + o).toNat else pc + 3) (g : Go p e below K (T.setTop (mkF m q Ls S))) : Go p e below K (T.setTop (mkF m pc Ls (y :: x :: S))) :=
  Go.by (fun t z => Jvm.RoadKit.acmp (g := mkF m pc Ls (y :: x :: S)) X hx rfl h1 h2 (pc0 := pc) (same := same) rfl hd rfl hq ho hp z) g
variable {Z : State} {a0 : Array Value} {h : Heap} {own R0 O n d host C : String} {index kk : Nat} {a : Addr} {v v' old : Value} {ty : FieldType}
theorem Go.getF (X : Stand p l e R s m args below meth c T locs cells slots) (hx : p.tables.exec = Jvm.exec) (hZ : Z.Warmed39 s.vm) (hown : s.vm.findClass own = some m.cls) (w : (Cond.fieldLink own index R0 n d).before a0 Z = true ∨ (Cond.fieldLinkNest own index R0 n d host).before a0 Z = true) (via : Via Z R0 O n d) (eT : T.heap = h) (F : Fld Z h a O n d v) (hd : decode c.code pc = .ok (.getfield index, 3)) (hp : pc + 3 = q)
    (g : ∀ T', Stand p l e R s m args below meth c T' locs cells slots → T'.heap = h → Go p e below K (T'.setTop (mkF m q Ls (v :: S)))) : Go p e below K (T.setTop (mkF m pc Ls (.ref a :: S))) := by
  subst hp
  obtain ⟨T', X', e', st⟩ := Jvm.RoadKit.getF X hx hZ hown w via eT F (g := mkF m pc Ls (.ref a :: S)) rfl rfl hd
  exact Go.by st (g T' X' e')
theorem Go.getS (X : Stand p l e R s m args below meth c T locs cells slots) (hx : p.tables.exec = Jvm.exec) (hZ : Z.Warmed39 s.vm) (hown : s.vm.findClass own = some m.cls) (w : (Cond.fieldLink own index R0 n d).before a0 Z = true ∨ (Cond.fieldLinkNest own index R0 n d host).before a0 Z = true) (via : Via Z R0 O n d) (eT : T.heap = h) (F : Sta Z h O n d v) (hd : decode c.code pc = .ok (.getstatic index, 3)) (hp : pc + 3 = q)
    (g : ∀ T', Stand p l e R s m args below meth c T' locs cells slots → T'.heap = h → Go p e below K (T'.setTop (mkF m q Ls (v :: S)))) : Go p e below K (T.setTop (mkF m pc Ls S)) := by
  subst hp
  obtain ⟨T', X', e', st⟩ := Jvm.RoadKit.getS2 X hx hZ hown w via eT F (g := mkF m pc Ls S) rfl hd
  exact Go.by st (g T' X' e')
theorem Go.putF (X : Stand p l e R s m args below meth c T locs cells slots) (hx : p.tables.exec = Jvm.exec) (hZ : Z.Warmed39 s.vm) (hown : s.vm.findClass own = some m.cls) (w : (Cond.fieldLink own index R0 n d).before a0 Z = true ∨ (Cond.fieldLinkNest own index R0 n d host).before a0 Z = true) (via : Via Z R0 O n d) (eT : T.heap = h) (F : Fld Z h a O n d old) (E : Exa Z h a C)
    (L : (Cond.lays C O n d).before a0 Z = true ∨ ((Cond.laysFinal C O n d).before a0 Z = true ∧ own = O ∧ meth.name = "<init>")) (wi : (Cond.instantiable C kk).before a0 Z = true) (hty : parseFieldDescriptor d = some ty) (hn : narrow ty v = v) (hf : fits ty v = true) (hd : decode c.code pc = .ok (.putfield index, 3)) (hp : pc + 3 = q)
    (g : ∀ T' h', Stand p l e R s m args below meth c T' (locs ++ [⟨a, slotOf Z O n d⟩]) cells slots → T'.heap = h' → Wr h h' a (slotOf Z O n d) v → Fld Z h' a O n d v → Go p e below K (T'.setTop (mkF m q Ls S))) : Go p e below K (T.setTop (mkF m pc Ls (v :: .ref a :: S))) := by
  subst hp
  obtain ⟨T', h', X', e', W, st⟩ := Jvm.RoadKit.putF X hx hZ hown w via eT F E L wi hty hn hf (g := mkF m pc Ls (v :: .ref a :: S)) rfl rfl hd
  exact Go.by st (g T' h' X' e' W (F.same W))
theorem Go.putFN (X : Stand p l e R s m args below meth c T locs cells slots) (hx : p.tables.exec = Jvm.exec) (hZ : Z.Warmed39 s.vm) (hown : s.vm.findClass own = some m.cls) (w : (Cond.fieldLink own index R0 n d).before a0 Z = true) (via : Via Z R0 O n d) (eT : T.heap = h) (F : Fld Z h a O n d old) (E : Exa Z h a C)
    (L : (Cond.lays C O n d).before a0 Z = true ∨ ((Cond.laysFinal C O n d).before a0 Z = true ∧ own = O ∧ meth.name = "<init>")) (wi : (Cond.instantiable C kk).before a0 Z = true) (hty : parseFieldDescriptor d = some ty) (hn : narrow ty v = v') (hf : fits ty v' = true) (hd : decode c.code pc = .ok (.putfield index, 3)) (hp : pc + 3 = q)
    (g : ∀ T' h', Stand p l e R s m args below meth c T' (locs ++ [⟨a, slotOf Z O n d⟩]) cells slots → T'.heap = h' → Wr h h' a (slotOf Z O n d) v' → Fld Z h' a O n d v' → Go p e below K (T'.setTop (mkF m q Ls S))) : Go p e below K (T.setTop (mkF m pc Ls (v :: .ref a :: S))) := by
  subst hp
  obtain ⟨T', h', X', e', W, st⟩ := Jvm.RoadKit.putFN X hx hZ hown w via eT F E L wi hty hn hf (g := mkF m pc Ls (v :: .ref a :: S)) rfl rfl hd
  exact Go.by st (g T' h' X' e' W (F.same W))
theorem Go.newO {nn : Nat} (X : Stand p l e R s m args below meth c T locs cells slots) (hx : p.tables.exec = Jvm.exec) (hZ : Z.Warmed39 s.vm) (hown : s.vm.findClass own = some m.cls) (w : (Cond.classLink own index C).before a0 Z = true) (wi : (Cond.instantiable C nn).before a0 Z = true) (wz : (Cond.initialized C).before a0 Z = true) (eT : T.heap = h) (hd : decode c.code pc = .ok (.new index, 3)) (hc : cells + 1 ≤ R.cells) (hl : slots + nn ≤ R.slots) (hp : pc + 3 = q)
    (g : ∀ (b : Addr) T' h', Stand p l e R s m args below meth c T' locs (cells + 1) (slots + nn) → T'.heap = h' → h.size = b → Ext h h' → Exa Z h' b C → (∀ {O nm d : String} {ty : FieldType}, Laid Z a0 C O nm d → parseFieldDescriptor d = some ty → Fld Z h' b O nm d (defaultValue ty)) → Unt h' b → Go p e below K (T'.setTop (mkF m q Ls (.ref b :: S)))) : Go p e below K (T.setTop (mkF m pc Ls S)) := by
  subst hp
  obtain ⟨T', h', X', e', E, A, D, U, st⟩ := Jvm.RoadKit.newO X hx hZ hown w wi wz eT (g := mkF m pc Ls S) rfl hd hc hl
  exact Go.by st (g _ T' h' X' e' rfl E A D U)
theorem Go.newP {aty : ArrayType} {z : Int32} {ad : String} {cap : Nat} (X : Stand p l e R s m args below meth c T locs cells slots) (hx : p.tables.exec = Jvm.exec) (hZ : Z.Warmed39 s.vm) (hd : decode c.code pc = .ok (.newarray aty, 2)) (w : (Cond.arrayClass (newarray.typeOf aty)).before a0 Z = true) (eT : T.heap = h) (hn : ¬ z < 0) (hcap : z.toNatClampNeg ≤ cap) (hb : cap * 8 ≤ 536870912) (hc : cells + 1 ≤ R.cells) (hl : slots + cap ≤ R.slots) (had : "[" ++ (newarray.typeOf aty).toString = ad) (hp : pc + 2 = q)
    (g : ∀ (b : Addr) T' h' cA, Stand p l e R s m args below meth c T' locs (cells + 1) (slots + cap) → T'.heap = h' → h.size = b → Ext h h' → Arv Z h' b cA (newarray.typeOf aty) z [] (defaultValue (newarray.typeOf aty)) → Exa Z h' b ad → Go p e below K (T'.setTop (mkF m q Ls (.ref b :: S)))) : Go p e below K (T.setTop (mkF m pc Ls (.int z :: S))) := by
  subst hp
  obtain ⟨T', h', cA, X', e', E, A, B, st⟩ := Jvm.RoadKit.newPE X hx hZ w eT (g := mkF m pc Ls (.int z :: S)) rfl hd rfl hn hcap hb hc hl had
  exact Go.by st (g _ T' h' cA X' e' rfl E (Arv.new A hn) B)
theorem Go.initO (X : Stand p l e R s m args below meth c T locs cells slots) (hx : p.tables.exec = Jvm.exec) (hZ : Z.Warmed39 s.vm) (hown : s.vm.findClass own = some m.cls) (w1 : (Cond.methodLink own index Lib.objectInit).before a0 Z = true) (w2 : (Cond.instanceMethod Lib.objectInit).before a0 Z = true) (w3 : (Cond.code Lib.objectInit ⟨#[0xb1]⟩ 1 none).before a0 Z = true) (eT : T.heap = h) (hsz : Ls.size = c.maxLocals) (hd : decode c.code pc = .ok (.invokespecial index, 3)) (hf : 1 ≤ R.frames) {W : Nat} (hW : 2 * 0 + (S.map fun v => v.category).sum ≤ W) (hl : W + 12 ≤ R.locals) (hp : pc + 3 = q)
    (g : ∀ T', Stand p l e R s m args below meth c T' locs cells slots → T'.heap = h → Go p e below K (T'.setTop (mkF m q Ls S))) : Go p e below K (T.setTop (mkF m pc Ls (.ref a :: S))) := by
  subst hp
  obtain ⟨T', X', e', st⟩ := Jvm.RoadKit.initO X hx hZ hown w1 w2 w3 eT (g := mkF m pc Ls (.ref a :: S)) rfl hsz rfl hd hf hW hl
  exact Go.by st (g T' X' e')
theorem Go.castY {D : String} (X : Stand p l e R s m args below meth c T locs cells slots) (hx : p.tables.exec = Jvm.exec) (hZ : Z.Warmed39 s.vm) (hown : s.vm.findClass own = some m.cls) (w : (Cond.classLink own index D).before a0 Z = true) (eT : T.heap = h) (F : Ins Z h a D true) (hd : decode c.code pc = .ok (.checkcast index, 3)) (hp : pc + 3 = q)
    (g : ∀ T', Stand p l e R s m args below meth c T' locs cells slots → T'.heap = h → Go p e below K (T'.setTop (mkF m q Ls (.ref a :: S)))) : Go p e below K (T.setTop (mkF m pc Ls (.ref a :: S))) := by
  subst hp
  obtain ⟨T', X', e', st⟩ := Jvm.RoadKit.castY X hx hZ hown w eT F (g := mkF m pc Ls (.ref a :: S)) rfl rfl hd
  exact Go.by st (g T' X' e')
theorem Go.instY {D : String} (X : Stand p l e R s m args below meth c T locs cells slots) (hx : p.tables.exec = Jvm.exec) (hZ : Z.Warmed39 s.vm) (hown : s.vm.findClass own = some m.cls) (w : (Cond.classLink own index D).before a0 Z = true) (eT : T.heap = h) (F : Ins Z h a D true) (hd : decode c.code pc = .ok (.instanceof index, 3)) (hp : pc + 3 = q)
    (g : ∀ T', Stand p l e R s m args below meth c T' locs cells slots → T'.heap = h → Go p e below K (T'.setTop (mkF m q Ls (.int 1 :: S)))) : Go p e below K (T.setTop (mkF m pc Ls (.ref a :: S))) := by
  subst hp
  obtain ⟨T', X', e', st⟩ := Jvm.RoadKit.instY X hx hZ hown w eT F (g := mkF m pc Ls (.ref a :: S)) rfl rfl hd
  exact Go.by st (g T' X' e')
theorem Go.instNo {D : String} (X : Stand p l e R s m args below meth c T locs cells slots) (hx : p.tables.exec = Jvm.exec) (hZ : Z.Warmed39 s.vm) (hown : s.vm.findClass own = some m.cls) (w : (Cond.classLink own index D).before a0 Z = true) (eT : T.heap = h) (E : Exa Z h a C) (F : ∃ c t, Z.vm.findClass C = some c ∧ Z.vm.findClass D = some t ∧ Z.vm.assignable c t = false) (hd : decode c.code pc = .ok (.instanceof index, 3)) (hp : pc + 3 = q)
    (g : ∀ T', Stand p l e R s m args below meth c T' locs cells slots → T'.heap = h → Go p e below K (T'.setTop (mkF m q Ls (.int 0 :: S)))) : Go p e below K (T.setTop (mkF m pc Ls (.ref a :: S))) := by
  subst hp
  obtain ⟨T', X', e', st⟩ := Jvm.RoadKit.instNo X hx hZ hown w eT E F (g := mkF m pc Ls (.ref a :: S)) rfl rfl hd
  exact Go.by st (g T' X' e')
theorem Go.ldcI {z : Int32} (X : Stand p l e R s m args below meth c T locs cells slots) (hx : p.tables.exec = Jvm.exec) (hZ : Z.Warmed39 s.vm) (hown : s.vm.findClass own = some m.cls) (w : (Cond.constant own index z).before a0 Z = true) (hd : decode c.code pc = .ok (.ldc index, 2)) (hp : pc + 2 = q) (g : Go p e below K (T.setTop (mkF m q Ls (.int z :: S)))) : Go p e below K (T.setTop (mkF m pc Ls S)) := by
  subst hp
  exact Go.by (X.ldcInt hx hown (mvT hZ w) (g := mkF m pc Ls S) rfl hd) g
theorem Go.ldcwI {z : Int32} (X : Stand p l e R s m args below meth c T locs cells slots) (hx : p.tables.exec = Jvm.exec) (hZ : Z.Warmed39 s.vm) (hown : s.vm.findClass own = some m.cls) (w : (Cond.constant own index z).before a0 Z = true) (hd : decode c.code pc = .ok (.ldc_w index, 3)) (hp : pc + 3 = q) (g : Go p e below K (T.setTop (mkF m q Ls (.int z :: S)))) : Go p e below K (T.setTop (mkF m pc Ls S)) := by
  subst hp
  exact Go.by (X.ldcwInt hx hown (mvT hZ w) (g := mkF m pc Ls S) rfl hd) g
theorem Go.ldc2 {z : Int64} (X : Stand p l e R s m args below meth c T locs cells slots) (hx : p.tables.exec = Jvm.exec) (hZ : Z.Warmed39 s.vm) (hown : s.vm.findClass own = some m.cls) (w : (Cond.constantLong own index z).before a0 Z = true) (hd : decode c.code pc = .ok (.ldc2_w index, 3)) (hp : pc + 3 = q) (g : Go p e below K (T.setTop (mkF m q Ls (.long z :: S)))) : Go p e below K (T.setTop (mkF m pc Ls S)) := by
  subst hp
  exact Go.by (X.ldc2Long hx hown (mvT hZ w) (g := mkF m pc Ls S) rfl hd) g

end OwnSteps
end Jvm.RoadKit
namespace Jvm.Pilot.@@N@@
open Jvm Jvm.ClassFile Sem Op Lib Jvm.Free Jvm.Stand Jvm.LawKit Jvm.RoadKit Bundle Jvm.Pilot.@@N@@.Jvm.D
theorem wd0 {Z : State} {a0 : Array Value} (hw : ∀ d ∈ tables_1, d.before a0 Z = true) : (Jvm.Cond.methodLink "com/example/stampwise/stampwise/ComparisonHoldsPinLaw" (7 : Nat) ({ cls := "java/lang/String", name := "valueOf", desc := "(C)Ljava/lang/String;" } : Jvm.MethodName)).before a0 Z = true := hw _ (List.mem_of_getElem? (i := 0) rfl)
theorem wd1 {Z : State} {a0 : Array Value} (hw : ∀ d ∈ tables_1, d.before a0 Z = true) : (Jvm.Cond.static ({ cls := "java/lang/String", name := "valueOf", desc := "(C)Ljava/lang/String;" } : Jvm.MethodName)).before a0 Z = true := hw _ (List.mem_of_getElem? (i := 1) rfl)
theorem wd2 {Z : State} {a0 : Array Value} (hw : ∀ d ∈ tables_1, d.before a0 Z = true) : (Jvm.Cond.initialized "java/lang/String").before a0 Z = true := hw _ (List.mem_of_getElem? (i := 2) rfl)
theorem wd3 {Z : State} {a0 : Array Value} (hw : ∀ d ∈ tables_1, d.before a0 Z = true) : (Jvm.Cond.code ({ cls := "java/lang/String", name := "valueOf", desc := "(C)Ljava/lang/String;" } : Jvm.MethodName) jdk_42_method_139_code (1 : Nat) (Option.some (Jvm.ClassFile.FieldType.object "java/lang/String"))).before a0 Z = true := hw _ (List.mem_of_getElem? (i := 3) rfl)
theorem wd4 {Z : State} {a0 : Array Value} (hw : ∀ d ∈ tables_1, d.before a0 Z = true) : (Jvm.Cond.fieldLink "java/lang/String" (38 : Nat) "java/lang/String" "COMPACT_STRINGS" "Z").before a0 Z = true := hw _ (List.mem_of_getElem? (i := 4) rfl)
theorem wd5 {Z : State} {a0 : Array Value} (hw : ∀ d ∈ tables_1, d.before a0 Z = true) : (Jvm.Cond.methodLink "java/lang/String" (1015 : Nat) ({ cls := "java/lang/StringLatin1", name := "canEncode", desc := "(C)Z" } : Jvm.MethodName)).before a0 Z = true := hw _ (List.mem_of_getElem? (i := 5) rfl)
theorem wd6 {Z : State} {a0 : Array Value} (hw : ∀ d ∈ tables_1, d.before a0 Z = true) : (Jvm.Cond.static ({ cls := "java/lang/StringLatin1", name := "canEncode", desc := "(C)Z" } : Jvm.MethodName)).before a0 Z = true := hw _ (List.mem_of_getElem? (i := 6) rfl)
theorem wd7 {Z : State} {a0 : Array Value} (hw : ∀ d ∈ tables_1, d.before a0 Z = true) : (Jvm.Cond.initialized "java/lang/StringLatin1").before a0 Z = true := hw _ (List.mem_of_getElem? (i := 7) rfl)
theorem wd8 {Z : State} {a0 : Array Value} (hw : ∀ d ∈ tables_1, d.before a0 Z = true) : (Jvm.Cond.code ({ cls := "java/lang/StringLatin1", name := "canEncode", desc := "(C)Z" } : Jvm.MethodName) jdk_43_method_3_code (1 : Nat) (Option.some Jvm.ClassFile.FieldType.boolean)).before a0 Z = true := hw _ (List.mem_of_getElem? (i := 8) rfl)
theorem wd9 {Z : State} {a0 : Array Value} (hw : ∀ d ∈ tables_1, d.before a0 Z = true) : (Jvm.Cond.classLink "java/lang/String" (10 : Nat) "java/lang/String").before a0 Z = true := hw _ (List.mem_of_getElem? (i := 9) rfl)
theorem wd10 {Z : State} {a0 : Array Value} (hw : ∀ d ∈ tables_1, d.before a0 Z = true) : (Jvm.Cond.instantiable "java/lang/String" (4 : Nat)).before a0 Z = true := hw _ (List.mem_of_getElem? (i := 10) rfl)
theorem wd11 {Z : State} {a0 : Array Value} (hw : ∀ d ∈ tables_1, d.before a0 Z = true) : (Jvm.Cond.methodLink "java/lang/String" (1018 : Nat) ({ cls := "java/lang/StringLatin1", name := "toBytes", desc := "(C)[B" } : Jvm.MethodName)).before a0 Z = true := hw _ (List.mem_of_getElem? (i := 11) rfl)
theorem wd12 {Z : State} {a0 : Array Value} (hw : ∀ d ∈ tables_1, d.before a0 Z = true) : (Jvm.Cond.static ({ cls := "java/lang/StringLatin1", name := "toBytes", desc := "(C)[B" } : Jvm.MethodName)).before a0 Z = true := hw _ (List.mem_of_getElem? (i := 12) rfl)
theorem wd13 {Z : State} {a0 : Array Value} (hw : ∀ d ∈ tables_1, d.before a0 Z = true) : (Jvm.Cond.code ({ cls := "java/lang/StringLatin1", name := "toBytes", desc := "(C)[B" } : Jvm.MethodName) jdk_43_method_46_code (1 : Nat) (Option.some (Jvm.ClassFile.FieldType.array Jvm.ClassFile.FieldType.byte))).before a0 Z = true := hw _ (List.mem_of_getElem? (i := 13) rfl)
theorem wd14 {Z : State} {a0 : Array Value} (hw : ∀ d ∈ tables_1, d.before a0 Z = true) : (Jvm.Cond.arrayClass Jvm.ClassFile.FieldType.byte).before a0 Z = true := hw _ (List.mem_of_getElem? (i := 14) rfl)
theorem wd15 {Z : State} {a0 : Array Value} (hw : ∀ d ∈ tables_1, d.before a0 Z = true) : (Jvm.Cond.methodLink "java/lang/String" (209 : Nat) ({ cls := "java/lang/String", name := "<init>", desc := "([BB)V" } : Jvm.MethodName)).before a0 Z = true := hw _ (List.mem_of_getElem? (i := 15) rfl)
theorem wd16 {Z : State} {a0 : Array Value} (hw : ∀ d ∈ tables_1, d.before a0 Z = true) : (Jvm.Cond.instanceMethod ({ cls := "java/lang/String", name := "<init>", desc := "([BB)V" } : Jvm.MethodName)).before a0 Z = true := hw _ (List.mem_of_getElem? (i := 16) rfl)
theorem wd18 {Z : State} {a0 : Array Value} (hw : ∀ d ∈ tables_1, d.before a0 Z = true) : (Jvm.Cond.code ({ cls := "java/lang/String", name := "<init>", desc := "([BB)V" } : Jvm.MethodName) jdk_42_method_151_code (3 : Nat) (Option.none : Option Jvm.ClassFile.FieldType)).before a0 Z = true := hw _ (List.mem_of_getElem? (i := 18) rfl)
theorem wd19 {Z : State} {a0 : Array Value} (hw : ∀ d ∈ tables_1, d.before a0 Z = true) : (Jvm.Cond.methodLink "java/lang/String" (1 : Nat) ({ cls := "java/lang/Object", name := "<init>", desc := "()V" } : Jvm.MethodName)).before a0 Z = true := hw _ (List.mem_of_getElem? (i := 19) rfl)
theorem wd20 {Z : State} {a0 : Array Value} (hw : ∀ d ∈ tables_1, d.before a0 Z = true) : (Jvm.Cond.instanceMethod ({ cls := "java/lang/Object", name := "<init>", desc := "()V" } : Jvm.MethodName)).before a0 Z = true := hw _ (List.mem_of_getElem? (i := 20) rfl)
theorem wd21 {Z : State} {a0 : Array Value} (hw : ∀ d ∈ tables_1, d.before a0 Z = true) : (Jvm.Cond.code ({ cls := "java/lang/Object", name := "<init>", desc := "()V" } : Jvm.MethodName) object_method_1_code (1 : Nat) (Option.none : Option Jvm.ClassFile.FieldType)).before a0 Z = true := hw _ (List.mem_of_getElem? (i := 21) rfl)
theorem wd22 {Z : State} {a0 : Array Value} (hw : ∀ d ∈ tables_1, d.before a0 Z = true) : (Jvm.Cond.fieldLink "java/lang/String" (9 : Nat) "java/lang/String" "value" "[B").before a0 Z = true := hw _ (List.mem_of_getElem? (i := 22) rfl)
theorem wd23 {Z : State} {a0 : Array Value} (hw : ∀ d ∈ tables_1, d.before a0 Z = true) : (Jvm.Cond.laysFinal "java/lang/String" "java/lang/String" "value" "[B").before a0 Z = true := hw _ (List.mem_of_getElem? (i := 23) rfl)
theorem wd24 {Z : State} {a0 : Array Value} (hw : ∀ d ∈ tables_1, d.before a0 Z = true) : (Jvm.Cond.fieldLink "java/lang/String" (15 : Nat) "java/lang/String" "coder" "B").before a0 Z = true := hw _ (List.mem_of_getElem? (i := 24) rfl)
theorem wd25 {Z : State} {a0 : Array Value} (hw : ∀ d ∈ tables_1, d.before a0 Z = true) : (Jvm.Cond.laysFinal "java/lang/String" "java/lang/String" "coder" "B").before a0 Z = true := hw _ (List.mem_of_getElem? (i := 25) rfl)
theorem wd26 {Z : State} {a0 : Array Value} (hw : ∀ d ∈ tables_1, d.before a0 Z = true) : (Jvm.Cond.classLink "com/example/stampwise/stampwise/ComparisonHoldsPinLaw" (13 : Nat) "com/example/stampwise/stampwise/Comparison").before a0 Z = true := hw _ (List.mem_of_getElem? (i := 26) rfl)
theorem wd27 {Z : State} {a0 : Array Value} (hw : ∀ d ∈ tables_1, d.before a0 Z = true) : (Jvm.Cond.instantiable "com/example/stampwise/stampwise/Comparison" (3 : Nat)).before a0 Z = true := hw _ (List.mem_of_getElem? (i := 27) rfl)
theorem wd28 {Z : State} {a0 : Array Value} (hw : ∀ d ∈ tables_1, d.before a0 Z = true) : (Jvm.Cond.initialized "com/example/stampwise/stampwise/Comparison").before a0 Z = true := hw _ (List.mem_of_getElem? (i := 28) rfl)
theorem wd29 {Z : State} {a0 : Array Value} (hw : ∀ d ∈ tables_1, d.before a0 Z = true) : (Jvm.Cond.methodLink "com/example/stampwise/stampwise/ComparisonHoldsPinLaw" (15 : Nat) ({ cls := "com/example/stampwise/stampwise/Comparison", name := "<init>", desc := "(JLjava/lang/String;J)V" } : Jvm.MethodName)).before a0 Z = true := hw _ (List.mem_of_getElem? (i := 29) rfl)
theorem wd30 {Z : State} {a0 : Array Value} (hw : ∀ d ∈ tables_1, d.before a0 Z = true) : (Jvm.Cond.instanceMethod ({ cls := "com/example/stampwise/stampwise/Comparison", name := "<init>", desc := "(JLjava/lang/String;J)V" } : Jvm.MethodName)).before a0 Z = true := hw _ (List.mem_of_getElem? (i := 30) rfl)
theorem wd31 {Z : State} {a0 : Array Value} (hw : ∀ d ∈ tables_1, d.before a0 Z = true) : (Jvm.Cond.code ({ cls := "com/example/stampwise/stampwise/Comparison", name := "<init>", desc := "(JLjava/lang/String;J)V" } : Jvm.MethodName) prog_1_method_1_code (6 : Nat) (Option.none : Option Jvm.ClassFile.FieldType)).before a0 Z = true := hw _ (List.mem_of_getElem? (i := 31) rfl)
theorem wd32 {Z : State} {a0 : Array Value} (hw : ∀ d ∈ tables_1, d.before a0 Z = true) : (Jvm.Cond.methodLink "com/example/stampwise/stampwise/Comparison" (1 : Nat) ({ cls := "java/lang/Record", name := "<init>", desc := "()V" } : Jvm.MethodName)).before a0 Z = true := hw _ (List.mem_of_getElem? (i := 32) rfl)
theorem wd33 {Z : State} {a0 : Array Value} (hw : ∀ d ∈ tables_1, d.before a0 Z = true) : (Jvm.Cond.instanceMethod ({ cls := "java/lang/Record", name := "<init>", desc := "()V" } : Jvm.MethodName)).before a0 Z = true := hw _ (List.mem_of_getElem? (i := 33) rfl)
theorem wd35 {Z : State} {a0 : Array Value} (hw : ∀ d ∈ tables_1, d.before a0 Z = true) : (Jvm.Cond.initialized "java/lang/Record").before a0 Z = true := hw _ (List.mem_of_getElem? (i := 35) rfl)
theorem wd36 {Z : State} {a0 : Array Value} (hw : ∀ d ∈ tables_1, d.before a0 Z = true) : (Jvm.Cond.code ({ cls := "java/lang/Record", name := "<init>", desc := "()V" } : Jvm.MethodName) jdk_30_method_1_code (1 : Nat) (Option.none : Option Jvm.ClassFile.FieldType)).before a0 Z = true := hw _ (List.mem_of_getElem? (i := 36) rfl)
theorem wd37 {Z : State} {a0 : Array Value} (hw : ∀ d ∈ tables_1, d.before a0 Z = true) : (Jvm.Cond.methodLink "java/lang/Record" (1 : Nat) ({ cls := "java/lang/Object", name := "<init>", desc := "()V" } : Jvm.MethodName)).before a0 Z = true := hw _ (List.mem_of_getElem? (i := 37) rfl)
theorem wd38 {Z : State} {a0 : Array Value} (hw : ∀ d ∈ tables_1, d.before a0 Z = true) : (Jvm.Cond.fieldLink "com/example/stampwise/stampwise/Comparison" (7 : Nat) "com/example/stampwise/stampwise/Comparison" "timestamp" "J").before a0 Z = true := hw _ (List.mem_of_getElem? (i := 38) rfl)
theorem wd39 {Z : State} {a0 : Array Value} (hw : ∀ d ∈ tables_1, d.before a0 Z = true) : (Jvm.Cond.laysFinal "com/example/stampwise/stampwise/Comparison" "com/example/stampwise/stampwise/Comparison" "timestamp" "J").before a0 Z = true := hw _ (List.mem_of_getElem? (i := 39) rfl)
theorem wd40 {Z : State} {a0 : Array Value} (hw : ∀ d ∈ tables_1, d.before a0 Z = true) : (Jvm.Cond.fieldLink "com/example/stampwise/stampwise/Comparison" (13 : Nat) "com/example/stampwise/stampwise/Comparison" "boundName" "Ljava/lang/String;").before a0 Z = true := hw _ (List.mem_of_getElem? (i := 40) rfl)
theorem wd41 {Z : State} {a0 : Array Value} (hw : ∀ d ∈ tables_1, d.before a0 Z = true) : (Jvm.Cond.laysFinal "com/example/stampwise/stampwise/Comparison" "com/example/stampwise/stampwise/Comparison" "boundName" "Ljava/lang/String;").before a0 Z = true := hw _ (List.mem_of_getElem? (i := 41) rfl)
theorem wd42 {Z : State} {a0 : Array Value} (hw : ∀ d ∈ tables_1, d.before a0 Z = true) : (Jvm.Cond.fieldLink "com/example/stampwise/stampwise/Comparison" (17 : Nat) "com/example/stampwise/stampwise/Comparison" "bound" "J").before a0 Z = true := hw _ (List.mem_of_getElem? (i := 42) rfl)
theorem wd43 {Z : State} {a0 : Array Value} (hw : ∀ d ∈ tables_1, d.before a0 Z = true) : (Jvm.Cond.laysFinal "com/example/stampwise/stampwise/Comparison" "com/example/stampwise/stampwise/Comparison" "bound" "J").before a0 Z = true := hw _ (List.mem_of_getElem? (i := 43) rfl)
theorem wd44 {Z : State} {a0 : Array Value} (hw : ∀ d ∈ tables_1, d.before a0 Z = true) : (Jvm.Cond.constantLong "com/example/stampwise/stampwise/ComparisonHoldsPinLaw" (20 : Nat) (-9223372036854775808 : Int64)).before a0 Z = true := hw _ (List.mem_of_getElem? (i := 44) rfl)
theorem wd45 {Z : State} {a0 : Array Value} (hw : ∀ d ∈ tables_1, d.before a0 Z = true) : (Jvm.Cond.methodLink "com/example/stampwise/stampwise/ComparisonHoldsPinLaw" (22 : Nat) ({ cls := "com/example/stampwise/stampwise/Comparison", name := "holds", desc := "()Z" } : Jvm.MethodName)).before a0 Z = true := hw _ (List.mem_of_getElem? (i := 45) rfl)
theorem wd46 {Z : State} {a0 : Array Value} (hw : ∀ d ∈ tables_1, d.before a0 Z = true) : (Jvm.Cond.declares ({ cls := "com/example/stampwise/stampwise/Comparison", name := "holds", desc := "()Z" } : Jvm.MethodName)).before a0 Z = true := hw _ (List.mem_of_getElem? (i := 46) rfl)
theorem wd47 {Z : State} {a0 : Array Value} (hw : ∀ d ∈ tables_1, d.before a0 Z = true) : (Jvm.Cond.instanceMethod ({ cls := "com/example/stampwise/stampwise/Comparison", name := "holds", desc := "()Z" } : Jvm.MethodName)).before a0 Z = true := hw _ (List.mem_of_getElem? (i := 47) rfl)
theorem wd48 {Z : State} {a0 : Array Value} (hw : ∀ d ∈ tables_1, d.before a0 Z = true) : (Jvm.Cond.selects "com/example/stampwise/stampwise/Comparison" ({ cls := "com/example/stampwise/stampwise/Comparison", name := "holds", desc := "()Z" } : Jvm.MethodName) ({ cls := "com/example/stampwise/stampwise/Comparison", name := "holds", desc := "()Z" } : Jvm.MethodName)).before a0 Z = true := hw _ (List.mem_of_getElem? (i := 48) rfl)
theorem wd49 {Z : State} {a0 : Array Value} (hw : ∀ d ∈ tables_1, d.before a0 Z = true) : (Jvm.Cond.code ({ cls := "com/example/stampwise/stampwise/Comparison", name := "holds", desc := "()Z" } : Jvm.MethodName) prog_1_method_2_code (1 : Nat) (Option.some Jvm.ClassFile.FieldType.boolean)).before a0 Z = true := hw _ (List.mem_of_getElem? (i := 49) rfl)
theorem d1_0 : decode jdk_42_method_139_code 0 = .ok (.getstatic 38, 3) := by decide +kernel
theorem d1_3 : decode jdk_42_method_139_code 3 = .ok (.ifCond .eq 23, 3) := by decide +kernel
theorem d1_6 : decode jdk_42_method_139_code 6 = .ok (.iload_n 0, 1) := by decide +kernel
theorem d1_7 : decode jdk_42_method_139_code 7 = .ok (.invokestatic 1015, 3) := by decide +kernel
theorem d1_10 : decode jdk_42_method_139_code 10 = .ok (.ifCond .eq 16, 3) := by decide +kernel
theorem d1_13 : decode jdk_42_method_139_code 13 = .ok (.new 10, 3) := by decide +kernel
theorem d1_16 : decode jdk_42_method_139_code 16 = .ok (.dup, 1) := by decide +kernel
theorem d1_17 : decode jdk_42_method_139_code 17 = .ok (.iload_n 0, 1) := by decide +kernel
theorem d1_18 : decode jdk_42_method_139_code 18 = .ok (.invokestatic 1018, 3) := by decide +kernel
theorem d1_21 : decode jdk_42_method_139_code 21 = .ok (.iconst 0, 1) := by decide +kernel
theorem d1_22 : decode jdk_42_method_139_code 22 = .ok (.invokespecial 209, 3) := by decide +kernel
theorem d1_25 : decode jdk_42_method_139_code 25 = .ok (.areturn, 1) := by decide +kernel
theorem d2_0 : decode jdk_43_method_3_code 0 = .ok (.iload_n 0, 1) := by decide +kernel
theorem d2_1 : decode jdk_43_method_3_code 1 = .ok (.sipush 255, 3) := by decide +kernel
theorem d2_4 : decode jdk_43_method_3_code 4 = .ok (.if_icmp .gt 7, 3) := by decide +kernel
theorem d2_7 : decode jdk_43_method_3_code 7 = .ok (.iconst 1, 1) := by decide +kernel
theorem d2_8 : decode jdk_43_method_3_code 8 = .ok (.goto 4, 3) := by decide +kernel
theorem d2_12 : decode jdk_43_method_3_code 12 = .ok (.ireturn, 1) := by decide +kernel
theorem d3_0 : decode jdk_43_method_46_code 0 = .ok (.iconst 1, 1) := by decide +kernel
theorem d3_1 : decode jdk_43_method_46_code 1 = .ok (.newarray .byte, 2) := by decide +kernel
theorem d3_3 : decode jdk_43_method_46_code 3 = .ok (.dup, 1) := by decide +kernel
theorem d3_4 : decode jdk_43_method_46_code 4 = .ok (.iconst 0, 1) := by decide +kernel
theorem d3_5 : decode jdk_43_method_46_code 5 = .ok (.iload_n 0, 1) := by decide +kernel
theorem d3_6 : decode jdk_43_method_46_code 6 = .ok (.i2b, 1) := by decide +kernel
theorem d3_7 : decode jdk_43_method_46_code 7 = .ok (.bastore, 1) := by decide +kernel
theorem d3_8 : decode jdk_43_method_46_code 8 = .ok (.areturn, 1) := by decide +kernel
theorem d4_0 : decode jdk_42_method_151_code 0 = .ok (.aload_n 0, 1) := by decide +kernel
theorem d4_1 : decode jdk_42_method_151_code 1 = .ok (.invokespecial 1, 3) := by decide +kernel
theorem d4_4 : decode jdk_42_method_151_code 4 = .ok (.aload_n 0, 1) := by decide +kernel
theorem d4_5 : decode jdk_42_method_151_code 5 = .ok (.aload_n 1, 1) := by decide +kernel
theorem d4_6 : decode jdk_42_method_151_code 6 = .ok (.putfield 9, 3) := by decide +kernel
theorem d4_9 : decode jdk_42_method_151_code 9 = .ok (.aload_n 0, 1) := by decide +kernel
theorem d4_10 : decode jdk_42_method_151_code 10 = .ok (.iload_n 2, 1) := by decide +kernel
theorem d4_11 : decode jdk_42_method_151_code 11 = .ok (.putfield 15, 3) := by decide +kernel
theorem d4_14 : decode jdk_42_method_151_code 14 = .ok (.return_, 1) := by decide +kernel
theorem d6_0 : decode prog_1_method_1_code 0 = .ok (.aload_n 0, 1) := by decide +kernel
theorem d6_1 : decode prog_1_method_1_code 1 = .ok (.invokespecial 1, 3) := by decide +kernel
theorem d6_4 : decode prog_1_method_1_code 4 = .ok (.aload_n 0, 1) := by decide +kernel
theorem d6_5 : decode prog_1_method_1_code 5 = .ok (.lload_n 1, 1) := by decide +kernel
theorem d6_6 : decode prog_1_method_1_code 6 = .ok (.putfield 7, 3) := by decide +kernel
theorem d6_9 : decode prog_1_method_1_code 9 = .ok (.aload_n 0, 1) := by decide +kernel
theorem d6_10 : decode prog_1_method_1_code 10 = .ok (.aload_n 3, 1) := by decide +kernel
theorem d6_11 : decode prog_1_method_1_code 11 = .ok (.putfield 13, 3) := by decide +kernel
theorem d6_14 : decode prog_1_method_1_code 14 = .ok (.aload_n 0, 1) := by decide +kernel
theorem d6_15 : decode prog_1_method_1_code 15 = .ok (.lload 4, 2) := by decide +kernel
theorem d6_17 : decode prog_1_method_1_code 17 = .ok (.putfield 17, 3) := by decide +kernel
theorem d6_20 : decode prog_1_method_1_code 20 = .ok (.return_, 1) := by decide +kernel
theorem d7_0 : decode jdk_30_method_1_code 0 = .ok (.aload_n 0, 1) := by decide +kernel
theorem d7_1 : decode jdk_30_method_1_code 1 = .ok (.invokespecial 1, 3) := by decide +kernel
theorem d7_4 : decode jdk_30_method_1_code 4 = .ok (.return_, 1) := by decide +kernel
theorem d8_0 : decode prog_1_method_2_code 0 = .ok (.aload_n 0, 1) := by decide +kernel
theorem d8_1 : decode prog_1_method_2_code 1 = .ok (.getfield 7, 3) := by decide +kernel
theorem d8_4 : decode prog_1_method_2_code 4 = .ok (.aload_n 0, 1) := by decide +kernel
theorem d8_5 : decode prog_1_method_2_code 5 = .ok (.getfield 17, 3) := by decide +kernel
theorem d8_8 : decode prog_1_method_2_code 8 = .ok (.lcmp, 1) := by decide +kernel
theorem d8_9 : decode prog_1_method_2_code 9 = .ok (.ifCond .lt 7, 3) := by decide +kernel
theorem d8_12 : decode prog_1_method_2_code 12 = .ok (.iconst 1, 1) := by decide +kernel
theorem d8_13 : decode prog_1_method_2_code 13 = .ok (.goto 4, 3) := by decide +kernel
theorem d8_16 : decode prog_1_method_2_code 16 = .ok (.iconst 0, 1) := by decide +kernel
theorem d8_17 : decode prog_1_method_2_code 17 = .ok (.ireturn, 1) := by decide +kernel
theorem pd0 : parseMethodDescriptor "(C)Z" = some ⟨[.char], some .boolean⟩ := by decide +kernel
theorem pd1 : parseMethodDescriptor "(C)[B" = some ⟨[.char], some (.array .byte)⟩ := by decide +kernel
theorem pd2 : parseMethodDescriptor "([BB)V" = some ⟨[(.array .byte), .byte], none⟩ := by decide +kernel
theorem pd3 : parseMethodDescriptor "()V" = some ⟨[], none⟩ := by decide +kernel
theorem pd4 : parseMethodDescriptor "(C)Ljava/lang/String;" = some ⟨[.char], some (.object "java/lang/String")⟩ := by decide +kernel
theorem pd5 : parseMethodDescriptor "(JLjava/lang/String;J)V" = some ⟨[.long, (.object "java/lang/String"), .long], none⟩ := by decide +kernel
theorem pd6 : parseMethodDescriptor "()Z" = some ⟨[], some .boolean⟩ := by decide +kernel
theorem pn0 : plainName "java/lang/Record" = true := by first | (simp [plainName, overriddenIn]; done) | decide +kernel
theorem pn1 : plainName "java/lang/StringLatin1" = true := by first | (simp [plainName, overriddenIn]; done) | decide +kernel
theorem pn2 : plainName "java/lang/String" = true := by first | (simp [plainName, overriddenIn]; done) | decide +kernel
theorem pn3 : plainName "com/example/stampwise/stampwise/Comparison" = true := by first | (simp [plainName, overriddenIn]; done) | decide +kernel
theorem pn4 : plainName "com/example/stampwise/stampwise/ComparisonHoldsPinLaw" = true := by first | (simp [plainName, overriddenIn]; done) | decide +kernel
theorem ef_crec (m : MethodId) (x0 : Addr) : entryFrame m #[(.ref x0)] 1 = mkF m 0 #[.val (.ref x0)] [] := by first | (simp [entryFrame, mkF, argsToLocals, Value.category, maxLocals]; done) | rfl
theorem ef_ccan (m : MethodId) (x0 : Int32) : entryFrame m #[(.int x0)] 1 = mkF m 0 #[.val (.int x0)] [] := by first | (simp [entryFrame, mkF, argsToLocals, Value.category, maxLocals]; done) | rfl
theorem ef_ctob (m : MethodId) (x0 : Int32) : entryFrame m #[(.int x0)] 1 = mkF m 0 #[.val (.int x0)] [] := by first | (simp [entryFrame, mkF, argsToLocals, Value.category, maxLocals]; done) | rfl
theorem ef_cstr (m : MethodId) (x0 : Addr) (x1 : Addr) : entryFrame m #[(.ref x0), (.ref x1), (.int (0 : Int32))] 3 = mkF m 0 #[.val (.ref x0), .val (.ref x1), .val (.int (0 : Int32))] [] := by first | (simp [entryFrame, mkF, argsToLocals, Value.category, maxLocals]; done) | rfl
theorem ef_cvofc (m : MethodId) (x0 : Int32) : entryFrame m #[(.int x0)] 1 = mkF m 0 #[.val (.int x0)] [] := by first | (simp [entryFrame, mkF, argsToLocals, Value.category, maxLocals]; done) | rfl
theorem ef_ccmp (m : MethodId) (x0 : Addr) (x1 : Int64) (x2 : Addr) (x3 : Int64) : entryFrame m #[(.ref x0), (.long x1), (.ref x2), (.long x3)] 6 = mkF m 0 #[.val (.ref x0), .val (.long x1), .second, .val (.ref x2), .val (.long x3), .second] [] := by first | (simp [entryFrame, mkF, argsToLocals, Value.category, maxLocals]; done) | rfl
theorem ef_hold1 (m : MethodId) (x0 : Addr) : entryFrame m #[(.ref x0)] 1 = mkF m 0 #[.val (.ref x0)] [] := by first | (simp [entryFrame, mkF, argsToLocals, Value.category, maxLocals]; done) | rfl
theorem ef_hold0 (m : MethodId) (x0 : Addr) : entryFrame m #[(.ref x0)] 1 = mkF m 0 #[.val (.ref x0)] [] := by first | (simp [entryFrame, mkF, argsToLocals, Value.category, maxLocals]; done) | rfl
theorem ef_law0 (m : MethodId) (x0 : Int64) (x1 : Int64) (x2 : Int64) (x3 : Int32) : entryFrame m #[(.long x0), (.long x1), (.long x2), (.int x3)] maxLocals = mkF m 0 #[.val (.long x0), .second, .val (.long x1), .second, .val (.long x2), .second, .val (.int x3), .unset, .unset, .unset, .unset, .unset, .unset, .unset, .unset, .unset, .unset, .unset, .unset, .unset, .unset] [] := by first | (simp [entryFrame, mkF, argsToLocals, Value.category, maxLocals]; done) | rfl
theorem own_ch (x : Int32) : ¬ (255 : Int32) < (x &&& (255 : Int32)).toUInt32.toUInt16.toUInt32.toInt32 := by
  rw [i2c_mask]
  have e : (255 : Int32).toInt = 255 := rfl
  have := c_and x 255 (by decide)
  rw [Int32.lt_iff_toInt_lt, e] at *
  omega
theorem own_min (x : Int64) : ¬ x < (-9223372036854775808 : Int64) := by
  have e : (-9223372036854775808 : Int64).toInt = -9223372036854775808 := rfl
  have := (rng64 x).1
  rw [Int64.lt_iff_toInt_lt, e]; omega
theorem own_tr {x y z : Int64} (h : ¬ x < y) (g : ¬ y < z) : ¬ x < z := by
  rw [Int64.lt_iff_toInt_lt] at *; omega
theorem own_as {x y : Int64} (h : x < y) : ¬ y < x := by
  rw [Int64.lt_iff_toInt_lt] at *; omega
theorem own_ne {x y : Int64} (h : x < y) : ¬ x = y := by
  rintro rfl; rw [Int64.lt_iff_toInt_lt] at h; omega
theorem own_ne' {x y : Int64} (h : y < x) : ¬ x = y := by
  rintro rfl; rw [Int64.lt_iff_toInt_lt] at h; omega
theorem own_eq {x y : Int64} (h : ¬ x < y) (g : ¬ y < x) : x = y := by
  rw [Int64.lt_iff_toInt_lt] at h g; exact Int64.toInt_inj.mp (by omega)
def Q_crec (Z : State) (o : Addr) (h0 : Heap) (vR : Option Value) (hR : Heap) (LR : List Loc) : Prop := vR = none ∧ Fr Z.heap.size LR ∧ hR = h0
set_option maxRecDepth 65536 in
set_option maxHeartbeats 40000000 in
theorem crec (l : Launch) (Z : State) (a0 : Array Value) (hw : ∀ d ∈ tables_1, d.before a0 Z = true) (o : Addr) (h0 : Heap) (O0 : Ext Z.heap h0) :
    Ctr l Z h0 (⟨"java/lang/Record", "<init>", "()V"⟩ : MethodName) jdk_30_method_1_code 1 none [] ({ frames := 1, cells := 0, slots := 0, locals := 12 } : Room) #[(.ref o)] (Q_crec Z o h0) := by
  refine enter (plainFor_of_name pn0) ?_
  intro pp ee ss mm below meth cc s₁ hx hby hml hZ hown hnm hret hlk X0 e0 hs0
  replace hown : ss.vm.findClass "java/lang/Record" = some mm.cls := hown
  refine Go.cast (congrArg s₁.setTop (ef_crec mm o)) ?_
  have N0 := Fr.nil Z.heap.size
  show Go pp ee below _ (s₁.setTop (mkF mm 0 #[.val (.ref o)] []))
  refine Go.aloadN X0 hx (hb hby d7_0) rfl rfl (q := 1) rfl ?_
  refine Go.initO X0 hx hZ hown (wd37 hw) (wd20 hw) (wd21 hw) e0 (by rw [hml]; rfl) (hb hby d7_1) (by decide) (W := 0) (by exact Nat.le_refl _) (by decide) (q := 4) rfl ?_
  intro T101 X101 e101
  exact Go.retV X101 hx hret hlk (hb hby d7_4) e101 (by decide) (by decide) ⟨rfl, N0, rfl⟩
def Q_ccan (Z : State) (c : Int32) (h0 : Heap) (vR : Option Value) (hR : Heap) (LR : List Loc) : Prop := vR = some (.int (1 : Int32)) ∧ Fr Z.heap.size LR ∧ hR = h0
set_option maxRecDepth 65536 in
set_option maxHeartbeats 40000000 in
theorem ccan (l : Launch) (Z : State) (a0 : Array Value) (hw : ∀ d ∈ tables_1, d.before a0 Z = true) (c : Int32) (h0 : Heap) (O0 : Ext Z.heap h0) (hc : ¬ ((255 : Int32) < c)) :
    Ctr l Z h0 (⟨"java/lang/StringLatin1", "canEncode", "(C)Z"⟩ : MethodName) jdk_43_method_3_code 1 (some .boolean) [] ({ frames := 0, cells := 0, slots := 0, locals := 0 } : Room) #[(.int c)] (Q_ccan Z c h0) := by
  refine enter (plainFor_of_name pn1) ?_
  intro pp ee ss mm below meth cc s₁ hx hby hml hZ hown hnm hret hlk X0 e0 hs0
  replace hown : ss.vm.findClass "java/lang/StringLatin1" = some mm.cls := hown
  refine Go.cast (congrArg s₁.setTop (ef_ccan mm c)) ?_
  have N0 := Fr.nil Z.heap.size
  show Go pp ee below _ (s₁.setTop (mkF mm 0 #[.val (.int c)] []))
  refine Go.iloadN X0 hx (hb hby d2_0) rfl (q := 1) rfl ?_
  refine Go.sipush X0 hx (hb hby d2_1) (r := (255 : Int32)) rfl (q := 4) rfl ?_
  refine Go.icmpNo X0 hx (hb hby d2_4) (Jvm.Free.XT.ii_gt_f hc) (q := 7) rfl ?_
  refine Go.iconst X0 hx (hb hby d2_7) (r := (1 : Int32)) rfl (q := 8) rfl ?_
  refine Go.goto X0 hx (hb hby d2_8) (q := 12) (by decide) (by decide) ?_
  exact Go.retI X0 hx hret hlk (by simp) rfl (hb hby d2_12) e0 (by decide) (by decide) ⟨rfl, N0, rfl⟩
def Q_ctob (Z : State) (c : Int32) (h0 : Heap) (vR : Option Value) (hR : Heap) (LR : List Loc) : Prop := ∃ b : Addr, ∃ kb : ClassId, vR = some (.ref b) ∧ Fr Z.heap.size LR ∧ Keep h0 hR [] ∧ h0.size ≤ b ∧ Arv Z hR b kb .byte (1 : Int32) [(.int (c.toInt8.toInt32))] (.int (0 : Int32))
set_option maxRecDepth 65536 in
set_option maxHeartbeats 40000000 in
theorem ctob (l : Launch) (Z : State) (a0 : Array Value) (hw : ∀ d ∈ tables_1, d.before a0 Z = true) (c : Int32) (h0 : Heap) (O0 : Ext Z.heap h0) :
    Ctr l Z h0 (⟨"java/lang/StringLatin1", "toBytes", "(C)[B"⟩ : MethodName) jdk_43_method_46_code 1 (some (.array .byte)) [] ({ frames := 0, cells := 1, slots := 1, locals := 0 } : Room) #[(.int c)] (Q_ctob Z c h0) := by
  refine enter (plainFor_of_name pn1) ?_
  intro pp ee ss mm below meth cc s₁ hx hby hml hZ hown hnm hret hlk X0 e0 hs0
  replace hown : ss.vm.findClass "java/lang/StringLatin1" = some mm.cls := hown
  refine Go.cast (congrArg s₁.setTop (ef_ctob mm c)) ?_
  have N0 := Fr.nil Z.heap.size
  have KP := Keep.refl h0 []
  show Go pp ee below _ (s₁.setTop (mkF mm 0 #[.val (.int c)] []))
  refine Go.iconst X0 hx (hb hby d3_0) (r := (1 : Int32)) rfl (q := 1) rfl ?_
  refine Go.newP X0 hx hZ (hb hby d3_1) (wd14 hw) e0 (by decide) (cap := 1) (by decide) (by decide) (by decide) (by decide) (ad := "[B") rfl (q := 3) rfl ?_
  intro b101 T101 h101 k101 X101 e101 q101 E101 V101 B101
  have g_b101 : Z.heap.size ≤ b101 := Nat.le_trans O0.1 (Nat.le_of_eq q101)
  have z_b101 : h0.size ≤ b101 := Nat.le_trans KP.1 (Nat.le_of_eq q101)
  have OE101 := ext_trans O0 E101
  replace KP := KP.ext E101
  replace V101 : Arv Z h101 b101 k101 .byte (1 : Int32) [(.int (0 : Int32))] (.int (0 : Int32)) := V101.pad (pad_rep [] (.int (0 : Int32)) 1)
  refine Go.dup X101 hx (hb hby d3_3) rfl (q := 4) rfl ?_
  refine Go.iconst X101 hx (hb hby d3_4) (r := (0 : Int32)) rfl (q := 5) rfl ?_
  refine Go.iloadN X101 hx (hb hby d3_5) rfl (q := 6) rfl ?_
  refine Go.i2b X101 hx (hb hby d3_6) rfl (q := 7) rfl ?_
  refine Go.bst X101 hx hZ e101 V101 ⟨by decide, by decide⟩ (i := 0) rfl (Nat.le_of_ble_eq_true rfl) (hb hby d3_7) ?_
  intro T102 h102 X102 e102 W102 V102
  rw [bb c] at V102
  replace V102 : Arv Z h102 b101 k101 .byte (1 : Int32) [(.int (c.toInt8.toInt32))] (.int (0 : Int32)) := V102
  have N102 := Fr.snoc X102 N0 g_b101
  replace B101 := B101.wr W102
  have OW102 := ext_wr OE101 W102 g_b101
  replace KP := KP.wr W102 (Or.inr z_b101)
  exact Go.retA X102 hx hret hlk rfl rfl (hb hby d3_8) e102 (by decide) (by decide) ⟨b101, k101, rfl, N102, KP, z_b101, V102⟩
def Q_cstr (Z : State) (o : Addr) (v : Addr) (h0 : Heap) (vR : Option Value) (hR : Heap) (LR : List Loc) : Prop := vR = none ∧ Fr Z.heap.size LR ∧ Keep h0 hR [o] ∧ Fld Z hR o "java/lang/String" "value" "[B" (.ref v) ∧ Fld Z hR o "java/lang/String" "coder" "B" (.int (0 : Int32))
set_option maxRecDepth 65536 in
set_option maxHeartbeats 40000000 in
theorem cstr (l : Launch) (Z : State) (a0 : Array Value) (hw : ∀ d ∈ tables_1, d.before a0 Z = true) (o : Addr) (v : Addr) (h0 : Heap) (O0 : Ext Z.heap h0) (E : Exa Z h0 o "java/lang/String") (F : Fld Z h0 o "java/lang/String" "value" "[B" .null) (G : Fld Z h0 o "java/lang/String" "coder" "B" (.int (0 : Int32))) (g : Z.heap.size ≤ o) :
    Ctr l Z h0 (⟨"java/lang/String", "<init>", "([BB)V"⟩ : MethodName) jdk_42_method_151_code 3 none [] ({ frames := 1, cells := 0, slots := 0, locals := 12 } : Room) #[(.ref o), (.ref v), (.int (0 : Int32))] (Q_cstr Z o v h0) := by
  refine enter (plainFor_of_name pn2) ?_
  intro pp ee ss mm below meth cc s₁ hx hby hml hZ hown hnm hret hlk X0 e0 hs0
  replace hown : ss.vm.findClass "java/lang/String" = some mm.cls := hown
  refine Go.cast (congrArg s₁.setTop (ef_cstr mm o v)) ?_
  have N0 := Fr.nil Z.heap.size
  have KP := Keep.refl h0 [o]
  show Go pp ee below _ (s₁.setTop (mkF mm 0 #[.val (.ref o), .val (.ref v), .val (.int (0 : Int32))] []))
  refine Go.aloadN X0 hx (hb hby d4_0) rfl rfl (q := 1) rfl ?_
  refine Go.initO X0 hx hZ hown (wd19 hw) (wd20 hw) (wd21 hw) e0 (by rw [hml]; rfl) (hb hby d4_1) (by decide) (W := 0) (by exact Nat.le_refl _) (by decide) (q := 4) rfl ?_
  intro T101 X101 e101
  refine Go.aloadN X101 hx (hb hby d4_4) rfl rfl (q := 5) rfl ?_
  refine Go.aloadN X101 hx (hb hby d4_5) rfl rfl (q := 6) rfl ?_
  refine Go.putF X101 hx hZ hown (host := "") (Or.inl (wd22 hw)) Via.refl e101 F E (Or.inr ⟨(wd23 hw), rfl, hnm⟩) (wd10 hw) (ty := (.array .byte)) (by decide) rfl rfl (hb hby d4_6) (q := 9) rfl ?_
  intro T102 h102 X102 e102 W102 F102
  have N102 := Fr.snoc X102 N0 g
  replace E := E.wr W102
  replace G := G.other W102 (Or.inr (slot_ne (Or.inr (wd25 hw)) (Or.inr (wd23 hw)) (by decide) (t := .byte) (t' := (.array .byte)) (by decide) (by decide)))
  have OW102 := ext_wr O0 W102 g
  replace KP := KP.wr W102 (Or.inl (List.mem_of_getElem? (i := 0) rfl))
  refine Go.aloadN X102 hx (hb hby d4_9) rfl rfl (q := 10) rfl ?_
  refine Go.iloadN X102 hx (hb hby d4_10) rfl (q := 11) rfl ?_
  refine Go.putF X102 hx hZ hown (host := "") (Or.inl (wd24 hw)) Via.refl e102 G E (Or.inr ⟨(wd25 hw), rfl, hnm⟩) (wd10 hw) (ty := .byte) (by decide) rfl rfl (hb hby d4_11) (q := 14) rfl ?_
  intro T103 h103 X103 e103 W103 F103
  have N103 := Fr.snoc X103 N102 g
  replace E := E.wr W103
  replace F102 := F102.other W103 (Or.inr (slot_ne (Or.inr (wd23 hw)) (Or.inr (wd25 hw)) (by decide) (t := (.array .byte)) (t' := .byte) (by decide) (by decide)))
  have OW103 := ext_wr OW102 W103 g
  replace KP := KP.wr W103 (Or.inl (List.mem_of_getElem? (i := 0) rfl))
  exact Go.retV X103 hx hret hlk (hb hby d4_14) e103 (by decide) (by decide) ⟨rfl, N103, KP, F102, F103⟩
def Q_cvofc (Z : State) (c : Int32) (cs : Int32) (h0 : Heap) (vR : Option Value) (hR : Heap) (LR : List Loc) : Prop := ∃ b : Addr, ∃ v : Addr, ∃ kb : ClassId, vR = some (.ref b) ∧ Fr Z.heap.size LR ∧ Keep h0 hR [] ∧ h0.size ≤ b ∧ Exa Z hR b "java/lang/String" ∧ Fld Z hR b "java/lang/String" "coder" "B" (.int (0 : Int32)) ∧ Fld Z hR b "java/lang/String" "value" "[B" (.ref v) ∧ Arv Z hR v kb .byte (1 : Int32) [(.int (c.toInt8.toInt32))] (.int (0 : Int32))
set_option maxRecDepth 65536 in
set_option maxHeartbeats 40000000 in
theorem cvofc (l : Launch) (Z : State) (a0 : Array Value) (hw : ∀ d ∈ tables_1, d.before a0 Z = true) (c : Int32) (cs : Int32) (h0 : Heap) (O0 : Ext Z.heap h0) (SCS : Sta Z Z.heap "java/lang/String" "COMPACT_STRINGS" "Z" (.int cs)) (hcs : ¬ (cs = (0 : Int32))) (hc : ¬ ((255 : Int32) < c)) :
    Ctr l Z h0 (⟨"java/lang/String", "valueOf", "(C)Ljava/lang/String;"⟩ : MethodName) jdk_42_method_139_code 1 (some (.object "java/lang/String")) [] ({ frames := 2, cells := 2, slots := 5, locals := 27 } : Room) #[(.int c)] (Q_cvofc Z c cs h0) := by
  refine enter (plainFor_of_name pn2) ?_
  intro pp ee ss mm below meth cc s₁ hx hby hml hZ hown hnm hret hlk X0 e0 hs0
  replace hown : ss.vm.findClass "java/lang/String" = some mm.cls := hown
  refine Go.cast (congrArg s₁.setTop (ef_cvofc mm c)) ?_
  have N0 := Fr.nil Z.heap.size
  have KP := Keep.refl h0 []
  show Go pp ee below _ (s₁.setTop (mkF mm 0 #[.val (.int c)] []))
  refine Go.getS X0 hx hZ hown (host := "") (Or.inl (wd4 hw)) Via.refl e0 (SCS.ext O0) (hb hby d1_0) (q := 3) rfl ?_
  intro T101 X101 e101
  refine Go.ifNo X101 hx (hb hby d1_3) (Jvm.Free.XT.i0_eq_f hcs) (q := 6) rfl ?_
  refine Go.iloadN X101 hx (hb hby d1_6) rfl (q := 7) rfl ?_
  refine Go.callS X101 hx hZ hown (wd5 hw) (wd6 hw) (wd7 hw) (wd8 hw) (by decide) (ccan l Z a0 hw c h0 O0 hc) e101 (by rw [hml]; rfl) (hb hby d1_7) (argsL := [(.int c)]) (rest := []) (lenOf pd0 rfl) rfl rfl (W := 0) (by first | exact Nat.le_refl _ | decide) (by decide) (by decide) (by decide) (by decide) ?_
  intro v102 T102 L102 X102 hQ102
  obtain ⟨rfl, N102q, e102⟩ := hQ102
  have N102 := Fr.app N0 N102q
  refine Go.ifNo X102 hx (hb hby d1_10) (by decide) (q := 13) rfl ?_
  refine Go.newO X102 hx hZ hown (wd9 hw) (wd10 hw) (wd2 hw) e102 (hb hby d1_13) (by decide) (by decide) (q := 16) rfl ?_
  intro b103 T103 h103 X103 e103 q103 E103 A103 D103 U103
  have g_b103 : Z.heap.size ≤ b103 := Nat.le_trans O0.1 (Nat.le_of_eq q103)
  have z_b103 : h0.size ≤ b103 := Nat.le_trans KP.1 (Nat.le_of_eq q103)
  have OE103 := ext_trans O0 E103
  replace KP := KP.ext E103
  have F103_value : Fld Z h103 b103 "java/lang/String" "value" "[B" .null := D103 (Or.inr (wd23 hw)) (ty := (.array .byte)) (by decide)
  have F103_coder : Fld Z h103 b103 "java/lang/String" "coder" "B" (.int (0 : Int32)) := D103 (Or.inr (wd25 hw)) (ty := .byte) (by decide)
  clear D103
  refine Go.dup X103 hx (hb hby d1_16) rfl (q := 17) rfl ?_
  refine Go.iloadN X103 hx (hb hby d1_17) rfl (q := 18) rfl ?_
  refine Go.callS X103 hx hZ hown (wd11 hw) (wd12 hw) (wd7 hw) (wd13 hw) (by decide) (ctob l Z a0 hw c h103 OE103) e103 (by rw [hml]; rfl) (hb hby d1_18) (argsL := [(.int c)]) (rest := [(.ref b103), (.ref b103)]) (lenOf pd1 rfl) rfl rfl (W := 2) (by first | exact Nat.le_refl _ | decide) (by decide) (by decide) (by decide) (by decide) ?_
  intro v104 T104 L104 X104 hQ104
  obtain ⟨h104, e104⟩ : ∃ z, T104.heap = z := ⟨_, rfl⟩
  rw [e104] at hQ104
  obtain ⟨b_104, kb_104, rfl, N104q, K104, fr104_b, P104_0⟩ := hQ104
  have N104 := Fr.app N102 N104q
  have ne_b103_b_104 : b103 ≠ b_104 := ne_new A103.lt fr104_b
  have g_b_104 : Z.heap.size ≤ b_104 := Nat.le_trans OE103.1 fr104_b
  have z_b_104 : h0.size ≤ b_104 := Nat.le_trans KP.1 fr104_b
  replace A103 := A103.keep K104
  replace F103_value := F103_value.keep K104 nin0
  replace F103_coder := F103_coder.keep K104 nin0
  have OK104 := ext_keep OE103 K104 all0
  replace KP := KP.trans K104 all0
  refine Go.iconst X104 hx (hb hby d1_21) (r := (0 : Int32)) rfl (q := 22) rfl ?_
  refine Go.init X104 hx hZ hown rfl (wd15 hw) (wd16 hw) (wd2 hw) (wd18 hw) (by decide) (cstr l Z a0 hw b103 b_104 h104 OK104 A103 F103_value F103_coder g_b103) e104 (by rw [hml]; rfl) (hb hby d1_22) (argsL := [(.ref b_104), (.int (0 : Int32))]) (rest := [(.ref b103)]) (lenOf pd2 rfl) rfl rfl (W := 1) (by first | exact Nat.le_refl _ | decide) (by decide) (by decide) (by decide) (by decide) ?_
  intro v105 T105 L105 X105 hQ105
  obtain ⟨h105, e105⟩ : ∃ z, T105.heap = z := ⟨_, rfl⟩
  rw [e105] at hQ105
  obtain ⟨rfl, N105q, K105, P105_0, P105_1⟩ := hQ105
  have N105 := Fr.app N104 N105q
  replace A103 := A103.keep K105
  replace P104_0 := P104_0.keep K105 (ninS (Ne.symm ne_b103_b_104) nin0)
  have OK105 := ext_keep OK104 K105 (allS g_b103 all0)
  replace KP := KP.trans K105 (allS (Or.inr z_b103) all0)
  exact Go.retA X105 hx hret hlk rfl rfl (hb hby d1_25) e105 (by decide) (by decide) ⟨b103, b_104, kb_104, rfl, N105, KP, z_b103, A103, P105_1, P105_0, P104_0⟩
def Q_ccmp (Z : State) (o : Addr) (x : Int64) (s : Addr) (y : Int64) (h0 : Heap) (vR : Option Value) (hR : Heap) (LR : List Loc) : Prop := vR = none ∧ Fr Z.heap.size LR ∧ Keep h0 hR [o] ∧ Fld Z hR o "com/example/stampwise/stampwise/Comparison" "timestamp" "J" (.long x) ∧ Fld Z hR o "com/example/stampwise/stampwise/Comparison" "boundName" "Ljava/lang/String;" (.ref s) ∧ Fld Z hR o "com/example/stampwise/stampwise/Comparison" "bound" "J" (.long y)
set_option maxRecDepth 65536 in
set_option maxHeartbeats 40000000 in
theorem ccmp (l : Launch) (Z : State) (a0 : Array Value) (hw : ∀ d ∈ tables_1, d.before a0 Z = true) (o : Addr) (x : Int64) (s : Addr) (y : Int64) (h0 : Heap) (O0 : Ext Z.heap h0) (E : Exa Z h0 o "com/example/stampwise/stampwise/Comparison") (F1 : Fld Z h0 o "com/example/stampwise/stampwise/Comparison" "timestamp" "J" (.long (0 : Int64))) (F2 : Fld Z h0 o "com/example/stampwise/stampwise/Comparison" "boundName" "Ljava/lang/String;" .null) (F3 : Fld Z h0 o "com/example/stampwise/stampwise/Comparison" "bound" "J" (.long (0 : Int64))) (g : Z.heap.size ≤ o) :
    Ctr l Z h0 (⟨"com/example/stampwise/stampwise/Comparison", "<init>", "(JLjava/lang/String;J)V"⟩ : MethodName) prog_1_method_1_code 6 none [] ({ frames := 2, cells := 0, slots := 0, locals := 24 } : Room) #[(.ref o), (.long x), (.ref s), (.long y)] (Q_ccmp Z o x s y h0) := by
  refine enter (plainFor_of_name pn3) ?_
  intro pp ee ss mm below meth cc s₁ hx hby hml hZ hown hnm hret hlk X0 e0 hs0
  replace hown : ss.vm.findClass "com/example/stampwise/stampwise/Comparison" = some mm.cls := hown
  refine Go.cast (congrArg s₁.setTop (ef_ccmp mm o x s y)) ?_
  have N0 := Fr.nil Z.heap.size
  have KP := Keep.refl h0 [o]
  show Go pp ee below _ (s₁.setTop (mkF mm 0 #[.val (.ref o), .val (.long x), .second, .val (.ref s), .val (.long y), .second] []))
  refine Go.aloadN X0 hx (hb hby d6_0) rfl rfl (q := 1) rfl ?_
  refine Go.init X0 hx hZ hown rfl (wd32 hw) (wd33 hw) (wd35 hw) (wd36 hw) (by decide) (crec l Z a0 hw o h0 O0) e0 (by rw [hml]; rfl) (hb hby d6_1) (argsL := []) (rest := []) (lenOf pd3 rfl) rfl rfl (W := 0) (by first | exact Nat.le_refl _ | decide) (by decide) (by decide) (by decide) (by decide) ?_
  intro v101 T101 L101 X101 hQ101
  obtain ⟨rfl, N101q, e101⟩ := hQ101
  have N101 := Fr.app N0 N101q
  refine Go.aloadN X101 hx (hb hby d6_4) rfl rfl (q := 5) rfl ?_
  refine Go.lloadN X101 hx (hb hby d6_5) rfl (q := 6) rfl ?_
  refine Go.putF X101 hx hZ hown (host := "") (Or.inl (wd38 hw)) Via.refl e101 F1 E (Or.inr ⟨(wd39 hw), rfl, hnm⟩) (wd27 hw) (ty := .long) (by decide) rfl rfl (hb hby d6_6) (q := 9) rfl ?_
  intro T102 h102 X102 e102 W102 F102
  have N102 := Fr.snoc X102 N101 g
  replace E := E.wr W102
  replace F2 := F2.other W102 (Or.inr (slot_ne (Or.inr (wd41 hw)) (Or.inr (wd39 hw)) (by decide) (t := (.object "java/lang/String")) (t' := .long) (by decide) (by decide)))
  replace F3 := F3.other W102 (Or.inr (slot_ne (Or.inr (wd43 hw)) (Or.inr (wd39 hw)) (by decide) (t := .long) (t' := .long) (by decide) (by decide)))
  have OW102 := ext_wr O0 W102 g
  replace KP := KP.wr W102 (Or.inl (List.mem_of_getElem? (i := 0) rfl))
  refine Go.aloadN X102 hx (hb hby d6_9) rfl rfl (q := 10) rfl ?_
  refine Go.aloadN X102 hx (hb hby d6_10) rfl rfl (q := 11) rfl ?_
  refine Go.putF X102 hx hZ hown (host := "") (Or.inl (wd40 hw)) Via.refl e102 F2 E (Or.inr ⟨(wd41 hw), rfl, hnm⟩) (wd27 hw) (ty := (.object "java/lang/String")) (by decide) rfl rfl (hb hby d6_11) (q := 14) rfl ?_
  intro T103 h103 X103 e103 W103 F103
  have N103 := Fr.snoc X103 N102 g
  replace E := E.wr W103
  replace F3 := F3.other W103 (Or.inr (slot_ne (Or.inr (wd43 hw)) (Or.inr (wd41 hw)) (by decide) (t := .long) (t' := (.object "java/lang/String")) (by decide) (by decide)))
  replace F102 := F102.other W103 (Or.inr (slot_ne (Or.inr (wd39 hw)) (Or.inr (wd41 hw)) (by decide) (t := .long) (t' := (.object "java/lang/String")) (by decide) (by decide)))
  have OW103 := ext_wr OW102 W103 g
  replace KP := KP.wr W103 (Or.inl (List.mem_of_getElem? (i := 0) rfl))
  refine Go.aloadN X103 hx (hb hby d6_14) rfl rfl (q := 15) rfl ?_
  refine Go.lload X103 hx (hb hby d6_15) rfl (q := 17) rfl ?_
  refine Go.putF X103 hx hZ hown (host := "") (Or.inl (wd42 hw)) Via.refl e103 F3 E (Or.inr ⟨(wd43 hw), rfl, hnm⟩) (wd27 hw) (ty := .long) (by decide) rfl rfl (hb hby d6_17) (q := 20) rfl ?_
  intro T104 h104 X104 e104 W104 F104
  have N104 := Fr.snoc X104 N103 g
  replace E := E.wr W104
  replace F102 := F102.other W104 (Or.inr (slot_ne (Or.inr (wd39 hw)) (Or.inr (wd43 hw)) (by decide) (t := .long) (t' := .long) (by decide) (by decide)))
  replace F103 := F103.other W104 (Or.inr (slot_ne (Or.inr (wd41 hw)) (Or.inr (wd43 hw)) (by decide) (t := (.object "java/lang/String")) (t' := .long) (by decide) (by decide)))
  have OW104 := ext_wr OW103 W104 g
  replace KP := KP.wr W104 (Or.inl (List.mem_of_getElem? (i := 0) rfl))
  exact Go.retV X104 hx hret hlk (hb hby d6_20) e104 (by decide) (by decide) ⟨rfl, N104, KP, F102, F103, F104⟩
def Q_hold1 (Z : State) (o : Addr) (x : Int64) (y : Int64) (h0 : Heap) (vR : Option Value) (hR : Heap) (LR : List Loc) : Prop := vR = some (.int (1 : Int32)) ∧ Fr Z.heap.size LR ∧ hR = h0
set_option maxRecDepth 65536 in
set_option maxHeartbeats 40000000 in
theorem hold1 (l : Launch) (Z : State) (a0 : Array Value) (hw : ∀ d ∈ tables_1, d.before a0 Z = true) (o : Addr) (x : Int64) (y : Int64) (h0 : Heap) (O0 : Ext Z.heap h0) (F1 : Fld Z h0 o "com/example/stampwise/stampwise/Comparison" "timestamp" "J" (.long x)) (F3 : Fld Z h0 o "com/example/stampwise/stampwise/Comparison" "bound" "J" (.long y)) (h : ¬ (x < y)) :
    Ctr l Z h0 (⟨"com/example/stampwise/stampwise/Comparison", "holds", "()Z"⟩ : MethodName) prog_1_method_2_code 1 (some .boolean) [] ({ frames := 0, cells := 0, slots := 0, locals := 0 } : Room) #[(.ref o)] (Q_hold1 Z o x y h0) := by
  refine enter (plainFor_of_name pn3) ?_
  intro pp ee ss mm below meth cc s₁ hx hby hml hZ hown hnm hret hlk X0 e0 hs0
  replace hown : ss.vm.findClass "com/example/stampwise/stampwise/Comparison" = some mm.cls := hown
  refine Go.cast (congrArg s₁.setTop (ef_hold1 mm o)) ?_
  have N0 := Fr.nil Z.heap.size
  show Go pp ee below _ (s₁.setTop (mkF mm 0 #[.val (.ref o)] []))
  refine Go.aloadN X0 hx (hb hby d8_0) rfl rfl (q := 1) rfl ?_
  refine Go.getF X0 hx hZ hown (host := "") (Or.inl (wd38 hw)) Via.refl e0 F1 (hb hby d8_1) (q := 4) rfl ?_
  intro T101 X101 e101
  refine Go.aloadN X101 hx (hb hby d8_4) rfl rfl (q := 5) rfl ?_
  refine Go.getF X101 hx hZ hown (host := "") (Or.inl (wd42 hw)) Via.refl e101 F3 (hb hby d8_5) (q := 8) rfl ?_
  intro T102 X102 e102
  refine Go.lcmp X102 hx (hb hby d8_8) rfl (q := 9) rfl ?_
  refine Go.ifNo X102 hx (hb hby d8_9) (Jvm.Free.XT.ll_lt_f h) (q := 12) rfl ?_
  refine Go.iconst X102 hx (hb hby d8_12) (r := (1 : Int32)) rfl (q := 13) rfl ?_
  refine Go.goto X102 hx (hb hby d8_13) (q := 17) (by decide) (by decide) ?_
  exact Go.retI X102 hx hret hlk (by simp) rfl (hb hby d8_17) e102 (by decide) (by decide) ⟨rfl, N0, rfl⟩
def Q_hold0 (Z : State) (o : Addr) (x : Int64) (y : Int64) (h0 : Heap) (vR : Option Value) (hR : Heap) (LR : List Loc) : Prop := vR = some (.int (0 : Int32)) ∧ Fr Z.heap.size LR ∧ hR = h0
set_option maxRecDepth 65536 in
set_option maxHeartbeats 40000000 in
theorem hold0 (l : Launch) (Z : State) (a0 : Array Value) (hw : ∀ d ∈ tables_1, d.before a0 Z = true) (o : Addr) (x : Int64) (y : Int64) (h0 : Heap) (O0 : Ext Z.heap h0) (F1 : Fld Z h0 o "com/example/stampwise/stampwise/Comparison" "timestamp" "J" (.long x)) (F3 : Fld Z h0 o "com/example/stampwise/stampwise/Comparison" "bound" "J" (.long y)) (h : x < y) :
    Ctr l Z h0 (⟨"com/example/stampwise/stampwise/Comparison", "holds", "()Z"⟩ : MethodName) prog_1_method_2_code 1 (some .boolean) [] ({ frames := 0, cells := 0, slots := 0, locals := 0 } : Room) #[(.ref o)] (Q_hold0 Z o x y h0) := by
  refine enter (plainFor_of_name pn3) ?_
  intro pp ee ss mm below meth cc s₁ hx hby hml hZ hown hnm hret hlk X0 e0 hs0
  replace hown : ss.vm.findClass "com/example/stampwise/stampwise/Comparison" = some mm.cls := hown
  refine Go.cast (congrArg s₁.setTop (ef_hold0 mm o)) ?_
  have N0 := Fr.nil Z.heap.size
  show Go pp ee below _ (s₁.setTop (mkF mm 0 #[.val (.ref o)] []))
  refine Go.aloadN X0 hx (hb hby d8_0) rfl rfl (q := 1) rfl ?_
  refine Go.getF X0 hx hZ hown (host := "") (Or.inl (wd38 hw)) Via.refl e0 F1 (hb hby d8_1) (q := 4) rfl ?_
  intro T101 X101 e101
  refine Go.aloadN X101 hx (hb hby d8_4) rfl rfl (q := 5) rfl ?_
  refine Go.getF X101 hx hZ hown (host := "") (Or.inl (wd42 hw)) Via.refl e101 F3 (hb hby d8_5) (q := 8) rfl ?_
  intro T102 X102 e102
  refine Go.lcmp X102 hx (hb hby d8_8) rfl (q := 9) rfl ?_
  refine Go.ifYes X102 hx (hb hby d8_9) (Jvm.Free.XT.ll_lt_t h) (q := 16) (by decide) (by decide) ?_
  refine Go.iconst X102 hx (hb hby d8_16) (r := (0 : Int32)) rfl (q := 17) rfl ?_
  exact Go.retI X102 hx hret hlk (by simp) rfl (hb hby d8_17) e102 (by decide) (by decide) ⟨rfl, N0, rfl⟩
def Q_law0 (Z : State) (pt : Int64) (pb : Int64) (qc : Int64) (pn : Int32) (cs : Int32) (h0 : Heap) (vR : Option Value) (hR : Heap) (LR : List Loc) : Prop := vR = some (.int (1 : Int32)) ∧ Fr Z.heap.size LR
set_option maxRecDepth 65536 in
set_option maxHeartbeats 40000000 in
theorem law0 (l : Launch) (Z : State) (a0 : Array Value) (hw : ∀ d ∈ tables_1, d.before a0 Z = true) (pt : Int64) (pb : Int64) (qc : Int64) (pn : Int32) (cs : Int32) (h0 : Heap) (O0 : Ext Z.heap h0) (SCS : Sta Z Z.heap "java/lang/String" "COMPACT_STRINGS" "Z" (.int cs)) (hcs : ¬ (cs = (0 : Int32))) :
    Ctr l Z h0 x code maxLocals ret tables_1 room_1 #[(.long pt), (.long pb), (.long qc), (.int pn)] (Q_law0 Z pt pb qc pn cs h0) := by
  refine enter (plainFor_of_name pn4) ?_
  intro pp ee ss mm below meth cc s₁ hx hby hml hZ hown hnm hret hlk X0 e0 hs0
  replace hown : ss.vm.findClass "com/example/stampwise/stampwise/ComparisonHoldsPinLaw" = some mm.cls := hown
  refine Go.cast (congrArg s₁.setTop (ef_law0 mm pt pb qc pn)) ?_
  have N0 := Fr.nil Z.heap.size
  show Go pp ee below _ (s₁.setTop (mkF mm 0 #[.val (.long pt), .second, .val (.long pb), .second, .val (.long qc), .second, .val (.int pn), .unset, .unset, .unset, .unset, .unset, .unset, .unset, .unset, .unset, .unset, .unset, .unset, .unset, .unset] []))
  refine Go.iload X0 hx (hb hby at_0) rfl (q := 2) rfl ?_
  refine Go.sipush X0 hx (hb hby at_2) (r := (255 : Int32)) rfl (q := 5) rfl ?_
  refine Go.iand X0 hx (hb hby at_5) rfl (q := 6) rfl ?_
  refine Go.i2c X0 hx (hb hby at_6) rfl (q := 7) rfl ?_
  have hch := own_ch pn
  generalize ((pn &&& (255 : Int32)).toUInt32.toUInt16.toUInt32.toInt32) = ch at hch ⊢
  show Go pp ee below _ (s₁.setTop (mkF mm 7 #[.val (.long pt), .second, .val (.long pb), .second, .val (.long qc), .second, .val (.int pn), .unset, .unset, .unset, .unset, .unset, .unset, .unset, .unset, .unset, .unset, .unset, .unset, .unset, .unset] [(.int ch)]))
  refine Go.callS X0 hx hZ hown (wd0 hw) (wd1 hw) (wd2 hw) (wd3 hw) (by decide) (cvofc l Z a0 hw ch cs h0 O0 SCS hcs hch) e0 (by rw [hml]; rfl) (hb hby at_7) (argsL := [(.int ch)]) (rest := []) (lenOf pd4 rfl) rfl rfl (W := 0) (by first | exact Nat.le_refl _ | decide) (by decide) (by decide) (by decide) (by decide) ?_
  intro v101 T101 L101 X101 hQ101
  obtain ⟨h101, e101⟩ : ∃ z, T101.heap = z := ⟨_, rfl⟩
  rw [e101] at hQ101
  obtain ⟨b_101, v_101, kb_101, rfl, N101q, K101, fr101_b, P101_0, P101_1, P101_2, P101_3⟩ := hQ101
  have N101 := Fr.app N0 N101q
  have g_b_101 : Z.heap.size ≤ b_101 := Nat.le_trans O0.1 fr101_b
  have OK101 := ext_keep O0 K101 all0
  refine Go.astore X101 hx (hb hby at_10) rfl (l' := #[.val (.long pt), .second, .val (.long pb), .second, .val (.long qc), .second, .val (.int pn), .val (.ref b_101), .unset, .unset, .unset, .unset, .unset, .unset, .unset, .unset, .unset, .unset, .unset, .unset, .unset]) rfl (q := 12) rfl ?_
  refine Go.newO X101 hx hZ hown (wd26 hw) (wd27 hw) (wd28 hw) e101 (hb hby at_12) (by decide) (by decide) (q := 15) rfl ?_
  intro b102 T102 h102 X102 e102 q102 E102 A102 D102 U102
  have ne_b_101_b102 : b_101 ≠ b102 := ne_new P101_0.lt (Nat.le_of_eq q102)
  have ne_v_101_b102 : v_101 ≠ b102 := ne_new P101_3.lt (Nat.le_of_eq q102)
  have g_b102 : Z.heap.size ≤ b102 := Nat.le_trans OK101.1 (Nat.le_of_eq q102)
  replace P101_0 := P101_0.ext E102
  replace P101_1 := P101_1.ext E102
  replace P101_2 := P101_2.ext E102
  replace P101_3 := P101_3.ext E102
  have OE102 := ext_trans OK101 E102
  have F102_timestamp : Fld Z h102 b102 "com/example/stampwise/stampwise/Comparison" "timestamp" "J" (.long (0 : Int64)) := D102 (Or.inr (wd39 hw)) (ty := .long) (by decide)
  have F102_boundName : Fld Z h102 b102 "com/example/stampwise/stampwise/Comparison" "boundName" "Ljava/lang/String;" .null := D102 (Or.inr (wd41 hw)) (ty := (.object "java/lang/String")) (by decide)
  have F102_bound : Fld Z h102 b102 "com/example/stampwise/stampwise/Comparison" "bound" "J" (.long (0 : Int64)) := D102 (Or.inr (wd43 hw)) (ty := .long) (by decide)
  clear D102
  refine Go.dup X102 hx (hb hby at_15) rfl (q := 16) rfl ?_
  refine Go.lloadN X102 hx (hb hby at_16) rfl (q := 17) rfl ?_
  refine Go.aload X102 hx (hb hby at_17) rfl rfl (q := 19) rfl ?_
  refine Go.lloadN X102 hx (hb hby at_19) rfl (q := 20) rfl ?_
  refine Go.init X102 hx hZ hown rfl (wd29 hw) (wd30 hw) (wd28 hw) (wd31 hw) (by decide) (ccmp l Z a0 hw b102 pt b_101 pb h102 OE102 A102 F102_timestamp F102_boundName F102_bound g_b102) e102 (by rw [hml]; rfl) (hb hby at_20) (argsL := [(.long pt), (.ref b_101), (.long pb)]) (rest := [(.ref b102)]) (lenOf pd5 rfl) rfl rfl (W := 1) (by first | exact Nat.le_refl _ | decide) (by decide) (by decide) (by decide) (by decide) ?_
  intro v103 T103 L103 X103 hQ103
  obtain ⟨h103, e103⟩ : ∃ z, T103.heap = z := ⟨_, rfl⟩
  rw [e103] at hQ103
  obtain ⟨rfl, N103q, K103, P103_0, P103_1, P103_2⟩ := hQ103
  have N103 := Fr.app N101 N103q
  replace P101_0 := P101_0.keep K103
  replace P101_1 := P101_1.keep K103 (ninS ne_b_101_b102 nin0)
  replace P101_2 := P101_2.keep K103 (ninS ne_b_101_b102 nin0)
  replace P101_3 := P101_3.keep K103 (ninS ne_v_101_b102 nin0)
  replace A102 := A102.keep K103
  have OK103 := ext_keep OE102 K103 (allS g_b102 all0)
  refine Go.astore X103 hx (hb hby at_23) rfl (l' := #[.val (.long pt), .second, .val (.long pb), .second, .val (.long qc), .second, .val (.int pn), .val (.ref b_101), .val (.ref b102), .unset, .unset, .unset, .unset, .unset, .unset, .unset, .unset, .unset, .unset, .unset, .unset]) rfl (q := 25) rfl ?_
  refine Go.newO X103 hx hZ hown (wd26 hw) (wd27 hw) (wd28 hw) e103 (hb hby at_25) (by decide) (by decide) (q := 28) rfl ?_
  intro b104 T104 h104 X104 e104 q104 E104 A104 D104 U104
  have ne_b_101_b104 : b_101 ≠ b104 := ne_new P101_0.lt (Nat.le_of_eq q104)
  have ne_v_101_b104 : v_101 ≠ b104 := ne_new P101_3.lt (Nat.le_of_eq q104)
  have ne_b102_b104 : b102 ≠ b104 := ne_new A102.lt (Nat.le_of_eq q104)
  have g_b104 : Z.heap.size ≤ b104 := Nat.le_trans OK103.1 (Nat.le_of_eq q104)
  replace P101_0 := P101_0.ext E104
  replace P101_1 := P101_1.ext E104
  replace P101_2 := P101_2.ext E104
  replace P101_3 := P101_3.ext E104
  replace A102 := A102.ext E104
  replace P103_0 := P103_0.ext E104
  replace P103_1 := P103_1.ext E104
  replace P103_2 := P103_2.ext E104
  have OE104 := ext_trans OK103 E104
  have F104_timestamp : Fld Z h104 b104 "com/example/stampwise/stampwise/Comparison" "timestamp" "J" (.long (0 : Int64)) := D104 (Or.inr (wd39 hw)) (ty := .long) (by decide)
  have F104_boundName : Fld Z h104 b104 "com/example/stampwise/stampwise/Comparison" "boundName" "Ljava/lang/String;" .null := D104 (Or.inr (wd41 hw)) (ty := (.object "java/lang/String")) (by decide)
  have F104_bound : Fld Z h104 b104 "com/example/stampwise/stampwise/Comparison" "bound" "J" (.long (0 : Int64)) := D104 (Or.inr (wd43 hw)) (ty := .long) (by decide)
  clear D104
  refine Go.dup X104 hx (hb hby at_28) rfl (q := 29) rfl ?_
  refine Go.lloadN X104 hx (hb hby at_29) rfl (q := 30) rfl ?_
  refine Go.aload X104 hx (hb hby at_30) rfl rfl (q := 32) rfl ?_
  refine Go.lloadN X104 hx (hb hby at_32) rfl (q := 33) rfl ?_
  refine Go.init X104 hx hZ hown rfl (wd29 hw) (wd30 hw) (wd28 hw) (wd31 hw) (by decide) (ccmp l Z a0 hw b104 pb b_101 pt h104 OE104 A104 F104_timestamp F104_boundName F104_bound g_b104) e104 (by rw [hml]; rfl) (hb hby at_33) (argsL := [(.long pb), (.ref b_101), (.long pt)]) (rest := [(.ref b104)]) (lenOf pd5 rfl) rfl rfl (W := 1) (by first | exact Nat.le_refl _ | decide) (by decide) (by decide) (by decide) (by decide) ?_
  intro v105 T105 L105 X105 hQ105
  obtain ⟨h105, e105⟩ : ∃ z, T105.heap = z := ⟨_, rfl⟩
  rw [e105] at hQ105
  obtain ⟨rfl, N105q, K105, P105_0, P105_1, P105_2⟩ := hQ105
  have N105 := Fr.app N103 N105q
  replace P101_0 := P101_0.keep K105
  replace P101_1 := P101_1.keep K105 (ninS ne_b_101_b104 nin0)
  replace P101_2 := P101_2.keep K105 (ninS ne_b_101_b104 nin0)
  replace P101_3 := P101_3.keep K105 (ninS ne_v_101_b104 nin0)
  replace A102 := A102.keep K105
  replace P103_0 := P103_0.keep K105 (ninS ne_b102_b104 nin0)
  replace P103_1 := P103_1.keep K105 (ninS ne_b102_b104 nin0)
  replace P103_2 := P103_2.keep K105 (ninS ne_b102_b104 nin0)
  replace A104 := A104.keep K105
  have OK105 := ext_keep OE104 K105 (allS g_b104 all0)
  refine Go.astore X105 hx (hb hby at_36) rfl (l' := #[.val (.long pt), .second, .val (.long pb), .second, .val (.long qc), .second, .val (.int pn), .val (.ref b_101), .val (.ref b102), .val (.ref b104), .unset, .unset, .unset, .unset, .unset, .unset, .unset, .unset, .unset, .unset, .unset]) rfl (q := 38) rfl ?_
  refine Go.newO X105 hx hZ hown (wd26 hw) (wd27 hw) (wd28 hw) e105 (hb hby at_38) (by decide) (by decide) (q := 41) rfl ?_
  intro b106 T106 h106 X106 e106 q106 E106 A106 D106 U106
  have ne_b_101_b106 : b_101 ≠ b106 := ne_new P101_0.lt (Nat.le_of_eq q106)
  have ne_v_101_b106 : v_101 ≠ b106 := ne_new P101_3.lt (Nat.le_of_eq q106)
  have ne_b102_b106 : b102 ≠ b106 := ne_new A102.lt (Nat.le_of_eq q106)
  have ne_b104_b106 : b104 ≠ b106 := ne_new A104.lt (Nat.le_of_eq q106)
  have g_b106 : Z.heap.size ≤ b106 := Nat.le_trans OK105.1 (Nat.le_of_eq q106)
  replace P101_0 := P101_0.ext E106
  replace P101_1 := P101_1.ext E106
  replace P101_2 := P101_2.ext E106
  replace P101_3 := P101_3.ext E106
  replace A102 := A102.ext E106
  replace P103_0 := P103_0.ext E106
  replace P103_1 := P103_1.ext E106
  replace P103_2 := P103_2.ext E106
  replace A104 := A104.ext E106
  replace P105_0 := P105_0.ext E106
  replace P105_1 := P105_1.ext E106
  replace P105_2 := P105_2.ext E106
  have OE106 := ext_trans OK105 E106
  have F106_timestamp : Fld Z h106 b106 "com/example/stampwise/stampwise/Comparison" "timestamp" "J" (.long (0 : Int64)) := D106 (Or.inr (wd39 hw)) (ty := .long) (by decide)
  have F106_boundName : Fld Z h106 b106 "com/example/stampwise/stampwise/Comparison" "boundName" "Ljava/lang/String;" .null := D106 (Or.inr (wd41 hw)) (ty := (.object "java/lang/String")) (by decide)
  have F106_bound : Fld Z h106 b106 "com/example/stampwise/stampwise/Comparison" "bound" "J" (.long (0 : Int64)) := D106 (Or.inr (wd43 hw)) (ty := .long) (by decide)
  clear D106
  refine Go.dup X106 hx (hb hby at_41) rfl (q := 42) rfl ?_
  refine Go.lloadN X106 hx (hb hby at_42) rfl (q := 43) rfl ?_
  refine Go.aload X106 hx (hb hby at_43) rfl rfl (q := 45) rfl ?_
  refine Go.lload X106 hx (hb hby at_45) rfl (q := 47) rfl ?_
  refine Go.init X106 hx hZ hown rfl (wd29 hw) (wd30 hw) (wd28 hw) (wd31 hw) (by decide) (ccmp l Z a0 hw b106 pb b_101 qc h106 OE106 A106 F106_timestamp F106_boundName F106_bound g_b106) e106 (by rw [hml]; rfl) (hb hby at_47) (argsL := [(.long pb), (.ref b_101), (.long qc)]) (rest := [(.ref b106)]) (lenOf pd5 rfl) rfl rfl (W := 1) (by first | exact Nat.le_refl _ | decide) (by decide) (by decide) (by decide) (by decide) ?_
  intro v107 T107 L107 X107 hQ107
  obtain ⟨h107, e107⟩ : ∃ z, T107.heap = z := ⟨_, rfl⟩
  rw [e107] at hQ107
  obtain ⟨rfl, N107q, K107, P107_0, P107_1, P107_2⟩ := hQ107
  have N107 := Fr.app N105 N107q
  replace P101_0 := P101_0.keep K107
  replace P101_1 := P101_1.keep K107 (ninS ne_b_101_b106 nin0)
  replace P101_2 := P101_2.keep K107 (ninS ne_b_101_b106 nin0)
  replace P101_3 := P101_3.keep K107 (ninS ne_v_101_b106 nin0)
  replace A102 := A102.keep K107
  replace P103_0 := P103_0.keep K107 (ninS ne_b102_b106 nin0)
  replace P103_1 := P103_1.keep K107 (ninS ne_b102_b106 nin0)
  replace P103_2 := P103_2.keep K107 (ninS ne_b102_b106 nin0)
  replace A104 := A104.keep K107
  replace P105_0 := P105_0.keep K107 (ninS ne_b104_b106 nin0)
  replace P105_1 := P105_1.keep K107 (ninS ne_b104_b106 nin0)
  replace P105_2 := P105_2.keep K107 (ninS ne_b104_b106 nin0)
  replace A106 := A106.keep K107
  have OK107 := ext_keep OE106 K107 (allS g_b106 all0)
  refine Go.astore X107 hx (hb hby at_50) rfl (l' := #[.val (.long pt), .second, .val (.long pb), .second, .val (.long qc), .second, .val (.int pn), .val (.ref b_101), .val (.ref b102), .val (.ref b104), .val (.ref b106), .unset, .unset, .unset, .unset, .unset, .unset, .unset, .unset, .unset, .unset]) rfl (q := 52) rfl ?_
  refine Go.newO X107 hx hZ hown (wd26 hw) (wd27 hw) (wd28 hw) e107 (hb hby at_52) (by decide) (by decide) (q := 55) rfl ?_
  intro b108 T108 h108 X108 e108 q108 E108 A108 D108 U108
  have ne_b_101_b108 : b_101 ≠ b108 := ne_new P101_0.lt (Nat.le_of_eq q108)
  have ne_v_101_b108 : v_101 ≠ b108 := ne_new P101_3.lt (Nat.le_of_eq q108)
  have ne_b102_b108 : b102 ≠ b108 := ne_new A102.lt (Nat.le_of_eq q108)
  have ne_b104_b108 : b104 ≠ b108 := ne_new A104.lt (Nat.le_of_eq q108)
  have ne_b106_b108 : b106 ≠ b108 := ne_new A106.lt (Nat.le_of_eq q108)
  have g_b108 : Z.heap.size ≤ b108 := Nat.le_trans OK107.1 (Nat.le_of_eq q108)
  replace P101_0 := P101_0.ext E108
  replace P101_1 := P101_1.ext E108
  replace P101_2 := P101_2.ext E108
  replace P101_3 := P101_3.ext E108
  replace A102 := A102.ext E108
  replace P103_0 := P103_0.ext E108
  replace P103_1 := P103_1.ext E108
  replace P103_2 := P103_2.ext E108
  replace A104 := A104.ext E108
  replace P105_0 := P105_0.ext E108
  replace P105_1 := P105_1.ext E108
  replace P105_2 := P105_2.ext E108
  replace A106 := A106.ext E108
  replace P107_0 := P107_0.ext E108
  replace P107_1 := P107_1.ext E108
  replace P107_2 := P107_2.ext E108
  have OE108 := ext_trans OK107 E108
  have F108_timestamp : Fld Z h108 b108 "com/example/stampwise/stampwise/Comparison" "timestamp" "J" (.long (0 : Int64)) := D108 (Or.inr (wd39 hw)) (ty := .long) (by decide)
  have F108_boundName : Fld Z h108 b108 "com/example/stampwise/stampwise/Comparison" "boundName" "Ljava/lang/String;" .null := D108 (Or.inr (wd41 hw)) (ty := (.object "java/lang/String")) (by decide)
  have F108_bound : Fld Z h108 b108 "com/example/stampwise/stampwise/Comparison" "bound" "J" (.long (0 : Int64)) := D108 (Or.inr (wd43 hw)) (ty := .long) (by decide)
  clear D108
  refine Go.dup X108 hx (hb hby at_55) rfl (q := 56) rfl ?_
  refine Go.lloadN X108 hx (hb hby at_56) rfl (q := 57) rfl ?_
  refine Go.aload X108 hx (hb hby at_57) rfl rfl (q := 59) rfl ?_
  refine Go.lload X108 hx (hb hby at_59) rfl (q := 61) rfl ?_
  refine Go.init X108 hx hZ hown rfl (wd29 hw) (wd30 hw) (wd28 hw) (wd31 hw) (by decide) (ccmp l Z a0 hw b108 pt b_101 qc h108 OE108 A108 F108_timestamp F108_boundName F108_bound g_b108) e108 (by rw [hml]; rfl) (hb hby at_61) (argsL := [(.long pt), (.ref b_101), (.long qc)]) (rest := [(.ref b108)]) (lenOf pd5 rfl) rfl rfl (W := 1) (by first | exact Nat.le_refl _ | decide) (by decide) (by decide) (by decide) (by decide) ?_
  intro v109 T109 L109 X109 hQ109
  obtain ⟨h109, e109⟩ : ∃ z, T109.heap = z := ⟨_, rfl⟩
  rw [e109] at hQ109
  obtain ⟨rfl, N109q, K109, P109_0, P109_1, P109_2⟩ := hQ109
  have N109 := Fr.app N107 N109q
  replace P101_0 := P101_0.keep K109
  replace P101_1 := P101_1.keep K109 (ninS ne_b_101_b108 nin0)
  replace P101_2 := P101_2.keep K109 (ninS ne_b_101_b108 nin0)
  replace P101_3 := P101_3.keep K109 (ninS ne_v_101_b108 nin0)
  replace A102 := A102.keep K109
  replace P103_0 := P103_0.keep K109 (ninS ne_b102_b108 nin0)
  replace P103_1 := P103_1.keep K109 (ninS ne_b102_b108 nin0)
  replace P103_2 := P103_2.keep K109 (ninS ne_b102_b108 nin0)
  replace A104 := A104.keep K109
  replace P105_0 := P105_0.keep K109 (ninS ne_b104_b108 nin0)
  replace P105_1 := P105_1.keep K109 (ninS ne_b104_b108 nin0)
  replace P105_2 := P105_2.keep K109 (ninS ne_b104_b108 nin0)
  replace A106 := A106.keep K109
  replace P107_0 := P107_0.keep K109 (ninS ne_b106_b108 nin0)
  replace P107_1 := P107_1.keep K109 (ninS ne_b106_b108 nin0)
  replace P107_2 := P107_2.keep K109 (ninS ne_b106_b108 nin0)
  replace A108 := A108.keep K109
  have OK109 := ext_keep OE108 K109 (allS g_b108 all0)
  refine Go.astore X109 hx (hb hby at_64) rfl (l' := #[.val (.long pt), .second, .val (.long pb), .second, .val (.long qc), .second, .val (.int pn), .val (.ref b_101), .val (.ref b102), .val (.ref b104), .val (.ref b106), .val (.ref b108), .unset, .unset, .unset, .unset, .unset, .unset, .unset, .unset, .unset]) rfl (q := 66) rfl ?_
  refine Go.newO X109 hx hZ hown (wd26 hw) (wd27 hw) (wd28 hw) e109 (hb hby at_66) (by decide) (by decide) (q := 69) rfl ?_
  intro b110 T110 h110 X110 e110 q110 E110 A110 D110 U110
  have ne_b_101_b110 : b_101 ≠ b110 := ne_new P101_0.lt (Nat.le_of_eq q110)
  have ne_v_101_b110 : v_101 ≠ b110 := ne_new P101_3.lt (Nat.le_of_eq q110)
  have ne_b102_b110 : b102 ≠ b110 := ne_new A102.lt (Nat.le_of_eq q110)
  have ne_b104_b110 : b104 ≠ b110 := ne_new A104.lt (Nat.le_of_eq q110)
  have ne_b106_b110 : b106 ≠ b110 := ne_new A106.lt (Nat.le_of_eq q110)
  have ne_b108_b110 : b108 ≠ b110 := ne_new A108.lt (Nat.le_of_eq q110)
  have g_b110 : Z.heap.size ≤ b110 := Nat.le_trans OK109.1 (Nat.le_of_eq q110)
  replace P101_0 := P101_0.ext E110
  replace P101_1 := P101_1.ext E110
  replace P101_2 := P101_2.ext E110
  replace P101_3 := P101_3.ext E110
  replace A102 := A102.ext E110
  replace P103_0 := P103_0.ext E110
  replace P103_1 := P103_1.ext E110
  replace P103_2 := P103_2.ext E110
  replace A104 := A104.ext E110
  replace P105_0 := P105_0.ext E110
  replace P105_1 := P105_1.ext E110
  replace P105_2 := P105_2.ext E110
  replace A106 := A106.ext E110
  replace P107_0 := P107_0.ext E110
  replace P107_1 := P107_1.ext E110
  replace P107_2 := P107_2.ext E110
  replace A108 := A108.ext E110
  replace P109_0 := P109_0.ext E110
  replace P109_1 := P109_1.ext E110
  replace P109_2 := P109_2.ext E110
  have OE110 := ext_trans OK109 E110
  have F110_timestamp : Fld Z h110 b110 "com/example/stampwise/stampwise/Comparison" "timestamp" "J" (.long (0 : Int64)) := D110 (Or.inr (wd39 hw)) (ty := .long) (by decide)
  have F110_boundName : Fld Z h110 b110 "com/example/stampwise/stampwise/Comparison" "boundName" "Ljava/lang/String;" .null := D110 (Or.inr (wd41 hw)) (ty := (.object "java/lang/String")) (by decide)
  have F110_bound : Fld Z h110 b110 "com/example/stampwise/stampwise/Comparison" "bound" "J" (.long (0 : Int64)) := D110 (Or.inr (wd43 hw)) (ty := .long) (by decide)
  clear D110
  refine Go.dup X110 hx (hb hby at_69) rfl (q := 70) rfl ?_
  refine Go.lloadN X110 hx (hb hby at_70) rfl (q := 71) rfl ?_
  refine Go.aload X110 hx (hb hby at_71) rfl rfl (q := 73) rfl ?_
  refine Go.ldc2 X110 hx hZ hown (wd44 hw) (hb hby at_73) (q := 76) rfl ?_
  refine Go.init X110 hx hZ hown rfl (wd29 hw) (wd30 hw) (wd28 hw) (wd31 hw) (by decide) (ccmp l Z a0 hw b110 pt b_101 ((-9223372036854775808 : Int64)) h110 OE110 A110 F110_timestamp F110_boundName F110_bound g_b110) e110 (by rw [hml]; rfl) (hb hby at_76) (argsL := [(.long pt), (.ref b_101), (.long (-9223372036854775808 : Int64))]) (rest := [(.ref b110)]) (lenOf pd5 rfl) rfl rfl (W := 1) (by first | exact Nat.le_refl _ | decide) (by decide) (by decide) (by decide) (by decide) ?_
  intro v111 T111 L111 X111 hQ111
  obtain ⟨h111, e111⟩ : ∃ z, T111.heap = z := ⟨_, rfl⟩
  rw [e111] at hQ111
  obtain ⟨rfl, N111q, K111, P111_0, P111_1, P111_2⟩ := hQ111
  have N111 := Fr.app N109 N111q
  replace P101_0 := P101_0.keep K111
  replace P101_1 := P101_1.keep K111 (ninS ne_b_101_b110 nin0)
  replace P101_2 := P101_2.keep K111 (ninS ne_b_101_b110 nin0)
  replace P101_3 := P101_3.keep K111 (ninS ne_v_101_b110 nin0)
  replace A102 := A102.keep K111
  replace P103_0 := P103_0.keep K111 (ninS ne_b102_b110 nin0)
  replace P103_1 := P103_1.keep K111 (ninS ne_b102_b110 nin0)
  replace P103_2 := P103_2.keep K111 (ninS ne_b102_b110 nin0)
  replace A104 := A104.keep K111
  replace P105_0 := P105_0.keep K111 (ninS ne_b104_b110 nin0)
  replace P105_1 := P105_1.keep K111 (ninS ne_b104_b110 nin0)
  replace P105_2 := P105_2.keep K111 (ninS ne_b104_b110 nin0)
  replace A106 := A106.keep K111
  replace P107_0 := P107_0.keep K111 (ninS ne_b106_b110 nin0)
  replace P107_1 := P107_1.keep K111 (ninS ne_b106_b110 nin0)
  replace P107_2 := P107_2.keep K111 (ninS ne_b106_b110 nin0)
  replace A108 := A108.keep K111
  replace P109_0 := P109_0.keep K111 (ninS ne_b108_b110 nin0)
  replace P109_1 := P109_1.keep K111 (ninS ne_b108_b110 nin0)
  replace P109_2 := P109_2.keep K111 (ninS ne_b108_b110 nin0)
  replace A110 := A110.keep K111
  have OK111 := ext_keep OE110 K111 (allS g_b110 all0)
  refine Go.astore X111 hx (hb hby at_79) rfl (l' := #[.val (.long pt), .second, .val (.long pb), .second, .val (.long qc), .second, .val (.int pn), .val (.ref b_101), .val (.ref b102), .val (.ref b104), .val (.ref b106), .val (.ref b108), .val (.ref b110), .unset, .unset, .unset, .unset, .unset, .unset, .unset, .unset]) rfl (q := 81) rfl ?_
  have hk112 : ¬ (pt < (-9223372036854775808 : Int64)) := own_min pt
  by_cases hc113 : pt < pb
  · have hk114 : ¬ (pb < pt) := own_as hc113
    have hk115 : ¬ (pt = pb) := own_ne hc113
    by_cases hc116 : pb < qc
    · by_cases hc117 : pt < qc
      · show Go pp ee below _ (T111.setTop (mkF mm 81 #[.val (.long pt), .second, .val (.long pb), .second, .val (.long qc), .second, .val (.int pn), .val (.ref b_101), .val (.ref b102), .val (.ref b104), .val (.ref b106), .val (.ref b108), .val (.ref b110), .unset, .unset, .unset, .unset, .unset, .unset, .unset, .unset] []))
        refine Go.aload X111 hx (hb hby at_81) rfl rfl (q := 83) rfl ?_
        refine Go.virt X111 hx hZ hown (wd45 hw) (wd46 hw) (notFace_of_selects (args := #[]) (mvT hZ (wd48 hw))) (wd48 hw) (wd47 hw) (wd28 hw) (wd49 hw) (by decide) (hold0 l Z a0 hw b102 pt pb h111 OK111 P103_0 P103_2 hc113) e111 A102 (by rw [hml]; rfl) (hb hby at_83) (argsL := []) (rest := []) (lenOf pd6 rfl) rfl rfl (W := 0) (by first | exact Nat.le_refl _ | decide) (by decide) (by decide) (by decide) (by decide) ?_
        intro v118 T118 L118 X118 hQ118
        obtain ⟨rfl, N118q, e118⟩ := hQ118
        have N118 := Fr.app N111 N118q
        refine Go.istore X118 hx (hb hby at_86) (l' := #[.val (.long pt), .second, .val (.long pb), .second, .val (.long qc), .second, .val (.int pn), .val (.ref b_101), .val (.ref b102), .val (.ref b104), .val (.ref b106), .val (.ref b108), .val (.ref b110), .val (.int (0 : Int32)), .unset, .unset, .unset, .unset, .unset, .unset, .unset]) rfl (q := 88) rfl ?_
        refine Go.aload X118 hx (hb hby at_88) rfl rfl (q := 90) rfl ?_
        refine Go.virt X118 hx hZ hown (wd45 hw) (wd46 hw) (notFace_of_selects (args := #[]) (mvT hZ (wd48 hw))) (wd48 hw) (wd47 hw) (wd28 hw) (wd49 hw) (by decide) (hold1 l Z a0 hw b104 pb pt h111 OK111 P105_0 P105_2 hk114) e118 A104 (by rw [hml]; rfl) (hb hby at_90) (argsL := []) (rest := []) (lenOf pd6 rfl) rfl rfl (W := 0) (by first | exact Nat.le_refl _ | decide) (by decide) (by decide) (by decide) (by decide) ?_
        intro v119 T119 L119 X119 hQ119
        obtain ⟨rfl, N119q, e119⟩ := hQ119
        have N119 := Fr.app N118 N119q
        refine Go.istore X119 hx (hb hby at_93) (l' := #[.val (.long pt), .second, .val (.long pb), .second, .val (.long qc), .second, .val (.int pn), .val (.ref b_101), .val (.ref b102), .val (.ref b104), .val (.ref b106), .val (.ref b108), .val (.ref b110), .val (.int (0 : Int32)), .val (.int (1 : Int32)), .unset, .unset, .unset, .unset, .unset, .unset]) rfl (q := 95) rfl ?_
        refine Go.aload X119 hx (hb hby at_95) rfl rfl (q := 97) rfl ?_
        refine Go.virt X119 hx hZ hown (wd45 hw) (wd46 hw) (notFace_of_selects (args := #[]) (mvT hZ (wd48 hw))) (wd48 hw) (wd47 hw) (wd28 hw) (wd49 hw) (by decide) (hold0 l Z a0 hw b106 pb qc h111 OK111 P107_0 P107_2 hc116) e119 A106 (by rw [hml]; rfl) (hb hby at_97) (argsL := []) (rest := []) (lenOf pd6 rfl) rfl rfl (W := 0) (by first | exact Nat.le_refl _ | decide) (by decide) (by decide) (by decide) (by decide) ?_
        intro v120 T120 L120 X120 hQ120
        obtain ⟨rfl, N120q, e120⟩ := hQ120
        have N120 := Fr.app N119 N120q
        refine Go.istore X120 hx (hb hby at_100) (l' := #[.val (.long pt), .second, .val (.long pb), .second, .val (.long qc), .second, .val (.int pn), .val (.ref b_101), .val (.ref b102), .val (.ref b104), .val (.ref b106), .val (.ref b108), .val (.ref b110), .val (.int (0 : Int32)), .val (.int (1 : Int32)), .val (.int (0 : Int32)), .unset, .unset, .unset, .unset, .unset]) rfl (q := 102) rfl ?_
        refine Go.aload X120 hx (hb hby at_102) rfl rfl (q := 104) rfl ?_
        refine Go.virt X120 hx hZ hown (wd45 hw) (wd46 hw) (notFace_of_selects (args := #[]) (mvT hZ (wd48 hw))) (wd48 hw) (wd47 hw) (wd28 hw) (wd49 hw) (by decide) (hold0 l Z a0 hw b108 pt qc h111 OK111 P109_0 P109_2 hc117) e120 A108 (by rw [hml]; rfl) (hb hby at_104) (argsL := []) (rest := []) (lenOf pd6 rfl) rfl rfl (W := 0) (by first | exact Nat.le_refl _ | decide) (by decide) (by decide) (by decide) (by decide) ?_
        intro v121 T121 L121 X121 hQ121
        obtain ⟨rfl, N121q, e121⟩ := hQ121
        have N121 := Fr.app N120 N121q
        refine Go.istore X121 hx (hb hby at_107) (l' := #[.val (.long pt), .second, .val (.long pb), .second, .val (.long qc), .second, .val (.int pn), .val (.ref b_101), .val (.ref b102), .val (.ref b104), .val (.ref b106), .val (.ref b108), .val (.ref b110), .val (.int (0 : Int32)), .val (.int (1 : Int32)), .val (.int (0 : Int32)), .val (.int (0 : Int32)), .unset, .unset, .unset, .unset]) rfl (q := 109) rfl ?_
        refine Go.aload X121 hx (hb hby at_109) rfl rfl (q := 111) rfl ?_
        refine Go.virt X121 hx hZ hown (wd45 hw) (wd46 hw) (notFace_of_selects (args := #[]) (mvT hZ (wd48 hw))) (wd48 hw) (wd47 hw) (wd28 hw) (wd49 hw) (by decide) (hold1 l Z a0 hw b110 pt ((-9223372036854775808 : Int64)) h111 OK111 P111_0 P111_2 hk112) e121 A110 (by rw [hml]; rfl) (hb hby at_111) (argsL := []) (rest := []) (lenOf pd6 rfl) rfl rfl (W := 0) (by first | exact Nat.le_refl _ | decide) (by decide) (by decide) (by decide) (by decide) ?_
        intro v122 T122 L122 X122 hQ122
        obtain ⟨rfl, N122q, e122⟩ := hQ122
        have N122 := Fr.app N121 N122q
        refine Go.istore X122 hx (hb hby at_114) (l' := #[.val (.long pt), .second, .val (.long pb), .second, .val (.long qc), .second, .val (.int pn), .val (.ref b_101), .val (.ref b102), .val (.ref b104), .val (.ref b106), .val (.ref b108), .val (.ref b110), .val (.int (0 : Int32)), .val (.int (1 : Int32)), .val (.int (0 : Int32)), .val (.int (0 : Int32)), .val (.int (1 : Int32)), .unset, .unset, .unset]) rfl (q := 116) rfl ?_
        refine Go.iload X122 hx (hb hby at_116) rfl (q := 118) rfl ?_
        refine Go.ifNo X122 hx (hb hby at_118) (by decide) (q := 121) rfl ?_
        refine Go.iload X122 hx (hb hby at_121) rfl (q := 123) rfl ?_
        refine Go.ifNo X122 hx (hb hby at_123) (by decide) (q := 126) rfl ?_
        refine Go.iconst X122 hx (hb hby at_126) (r := (1 : Int32)) rfl (q := 127) rfl ?_
        refine Go.goto X122 hx (hb hby at_127) (q := 131) (by decide) (by decide) ?_
        refine Go.istore X122 hx (hb hby at_131) (l' := #[.val (.long pt), .second, .val (.long pb), .second, .val (.long qc), .second, .val (.int pn), .val (.ref b_101), .val (.ref b102), .val (.ref b104), .val (.ref b106), .val (.ref b108), .val (.ref b110), .val (.int (0 : Int32)), .val (.int (1 : Int32)), .val (.int (0 : Int32)), .val (.int (0 : Int32)), .val (.int (1 : Int32)), .val (.int (1 : Int32)), .unset, .unset]) rfl (q := 133) rfl ?_
        refine Go.iload X122 hx (hb hby at_133) rfl (q := 135) rfl ?_
        refine Go.ifYes X122 hx (hb hby at_135) (by decide) (q := 147) (by decide) (by decide) ?_
        refine Go.iconst X122 hx (hb hby at_147) (r := (0 : Int32)) rfl (q := 148) rfl ?_
        refine Go.lloadN X122 hx (hb hby at_148) rfl (q := 149) rfl ?_
        refine Go.lloadN X122 hx (hb hby at_149) rfl (q := 150) rfl ?_
        refine Go.lcmp X122 hx (hb hby at_150) rfl (q := 151) rfl ?_
        refine Go.ifYes X122 hx (hb hby at_151) (Jvm.Free.XT.ll_ne_t hk115) (q := 158) (by decide) (by decide) ?_
        refine Go.iconst X122 hx (hb hby at_158) (r := (0 : Int32)) rfl (q := 159) rfl ?_
        refine Go.icmpNo X122 hx (hb hby at_159) (by decide) (q := 162) rfl ?_
        refine Go.iconst X122 hx (hb hby at_162) (r := (1 : Int32)) rfl (q := 163) rfl ?_
        refine Go.goto X122 hx (hb hby at_163) (q := 167) (by decide) (by decide) ?_
        refine Go.istore X122 hx (hb hby at_167) (l' := #[.val (.long pt), .second, .val (.long pb), .second, .val (.long qc), .second, .val (.int pn), .val (.ref b_101), .val (.ref b102), .val (.ref b104), .val (.ref b106), .val (.ref b108), .val (.ref b110), .val (.int (0 : Int32)), .val (.int (1 : Int32)), .val (.int (0 : Int32)), .val (.int (0 : Int32)), .val (.int (1 : Int32)), .val (.int (1 : Int32)), .val (.int (1 : Int32)), .unset]) rfl (q := 169) rfl ?_
        refine Go.iload X122 hx (hb hby at_169) rfl (q := 171) rfl ?_
        refine Go.ifYes X122 hx (hb hby at_171) (by decide) (q := 184) (by decide) (by decide) ?_
        refine Go.iconst X122 hx (hb hby at_184) (r := (1 : Int32)) rfl (q := 185) rfl ?_
        refine Go.goto X122 hx (hb hby at_185) (q := 189) (by decide) (by decide) ?_
        refine Go.istore X122 hx (hb hby at_189) (l' := #[.val (.long pt), .second, .val (.long pb), .second, .val (.long qc), .second, .val (.int pn), .val (.ref b_101), .val (.ref b102), .val (.ref b104), .val (.ref b106), .val (.ref b108), .val (.ref b110), .val (.int (0 : Int32)), .val (.int (1 : Int32)), .val (.int (0 : Int32)), .val (.int (0 : Int32)), .val (.int (1 : Int32)), .val (.int (1 : Int32)), .val (.int (1 : Int32)), .val (.int (1 : Int32))]) rfl (q := 191) rfl ?_
        refine Go.iload X122 hx (hb hby at_191) rfl (q := 193) rfl ?_
        refine Go.ifNo X122 hx (hb hby at_193) (by decide) (q := 196) rfl ?_
        refine Go.iload X122 hx (hb hby at_196) rfl (q := 198) rfl ?_
        refine Go.ifNo X122 hx (hb hby at_198) (by decide) (q := 201) rfl ?_
        refine Go.iload X122 hx (hb hby at_201) rfl (q := 203) rfl ?_
        refine Go.ifNo X122 hx (hb hby at_203) (by decide) (q := 206) rfl ?_
        refine Go.iload X122 hx (hb hby at_206) rfl (q := 208) rfl ?_
        refine Go.ifNo X122 hx (hb hby at_208) (by decide) (q := 211) rfl ?_
        refine Go.iconst X122 hx (hb hby at_211) (r := (1 : Int32)) rfl (q := 212) rfl ?_
        refine Go.goto X122 hx (hb hby at_212) (q := 216) (by decide) (by decide) ?_
        exact Go.retI X122 hx hret hlk (by simp) rfl (hb hby at_216) e122 (by decide) (by decide) ⟨rfl, N122⟩
      · show Go pp ee below _ (T111.setTop (mkF mm 81 #[.val (.long pt), .second, .val (.long pb), .second, .val (.long qc), .second, .val (.int pn), .val (.ref b_101), .val (.ref b102), .val (.ref b104), .val (.ref b106), .val (.ref b108), .val (.ref b110), .unset, .unset, .unset, .unset, .unset, .unset, .unset, .unset] []))
        refine Go.aload X111 hx (hb hby at_81) rfl rfl (q := 83) rfl ?_
        refine Go.virt X111 hx hZ hown (wd45 hw) (wd46 hw) (notFace_of_selects (args := #[]) (mvT hZ (wd48 hw))) (wd48 hw) (wd47 hw) (wd28 hw) (wd49 hw) (by decide) (hold0 l Z a0 hw b102 pt pb h111 OK111 P103_0 P103_2 hc113) e111 A102 (by rw [hml]; rfl) (hb hby at_83) (argsL := []) (rest := []) (lenOf pd6 rfl) rfl rfl (W := 0) (by first | exact Nat.le_refl _ | decide) (by decide) (by decide) (by decide) (by decide) ?_
        intro v123 T123 L123 X123 hQ123
        obtain ⟨rfl, N123q, e123⟩ := hQ123
        have N123 := Fr.app N111 N123q
        refine Go.istore X123 hx (hb hby at_86) (l' := #[.val (.long pt), .second, .val (.long pb), .second, .val (.long qc), .second, .val (.int pn), .val (.ref b_101), .val (.ref b102), .val (.ref b104), .val (.ref b106), .val (.ref b108), .val (.ref b110), .val (.int (0 : Int32)), .unset, .unset, .unset, .unset, .unset, .unset, .unset]) rfl (q := 88) rfl ?_
        refine Go.aload X123 hx (hb hby at_88) rfl rfl (q := 90) rfl ?_
        refine Go.virt X123 hx hZ hown (wd45 hw) (wd46 hw) (notFace_of_selects (args := #[]) (mvT hZ (wd48 hw))) (wd48 hw) (wd47 hw) (wd28 hw) (wd49 hw) (by decide) (hold1 l Z a0 hw b104 pb pt h111 OK111 P105_0 P105_2 hk114) e123 A104 (by rw [hml]; rfl) (hb hby at_90) (argsL := []) (rest := []) (lenOf pd6 rfl) rfl rfl (W := 0) (by first | exact Nat.le_refl _ | decide) (by decide) (by decide) (by decide) (by decide) ?_
        intro v124 T124 L124 X124 hQ124
        obtain ⟨rfl, N124q, e124⟩ := hQ124
        have N124 := Fr.app N123 N124q
        refine Go.istore X124 hx (hb hby at_93) (l' := #[.val (.long pt), .second, .val (.long pb), .second, .val (.long qc), .second, .val (.int pn), .val (.ref b_101), .val (.ref b102), .val (.ref b104), .val (.ref b106), .val (.ref b108), .val (.ref b110), .val (.int (0 : Int32)), .val (.int (1 : Int32)), .unset, .unset, .unset, .unset, .unset, .unset]) rfl (q := 95) rfl ?_
        refine Go.aload X124 hx (hb hby at_95) rfl rfl (q := 97) rfl ?_
        refine Go.virt X124 hx hZ hown (wd45 hw) (wd46 hw) (notFace_of_selects (args := #[]) (mvT hZ (wd48 hw))) (wd48 hw) (wd47 hw) (wd28 hw) (wd49 hw) (by decide) (hold0 l Z a0 hw b106 pb qc h111 OK111 P107_0 P107_2 hc116) e124 A106 (by rw [hml]; rfl) (hb hby at_97) (argsL := []) (rest := []) (lenOf pd6 rfl) rfl rfl (W := 0) (by first | exact Nat.le_refl _ | decide) (by decide) (by decide) (by decide) (by decide) ?_
        intro v125 T125 L125 X125 hQ125
        obtain ⟨rfl, N125q, e125⟩ := hQ125
        have N125 := Fr.app N124 N125q
        refine Go.istore X125 hx (hb hby at_100) (l' := #[.val (.long pt), .second, .val (.long pb), .second, .val (.long qc), .second, .val (.int pn), .val (.ref b_101), .val (.ref b102), .val (.ref b104), .val (.ref b106), .val (.ref b108), .val (.ref b110), .val (.int (0 : Int32)), .val (.int (1 : Int32)), .val (.int (0 : Int32)), .unset, .unset, .unset, .unset, .unset]) rfl (q := 102) rfl ?_
        refine Go.aload X125 hx (hb hby at_102) rfl rfl (q := 104) rfl ?_
        refine Go.virt X125 hx hZ hown (wd45 hw) (wd46 hw) (notFace_of_selects (args := #[]) (mvT hZ (wd48 hw))) (wd48 hw) (wd47 hw) (wd28 hw) (wd49 hw) (by decide) (hold1 l Z a0 hw b108 pt qc h111 OK111 P109_0 P109_2 hc117) e125 A108 (by rw [hml]; rfl) (hb hby at_104) (argsL := []) (rest := []) (lenOf pd6 rfl) rfl rfl (W := 0) (by first | exact Nat.le_refl _ | decide) (by decide) (by decide) (by decide) (by decide) ?_
        intro v126 T126 L126 X126 hQ126
        obtain ⟨rfl, N126q, e126⟩ := hQ126
        have N126 := Fr.app N125 N126q
        refine Go.istore X126 hx (hb hby at_107) (l' := #[.val (.long pt), .second, .val (.long pb), .second, .val (.long qc), .second, .val (.int pn), .val (.ref b_101), .val (.ref b102), .val (.ref b104), .val (.ref b106), .val (.ref b108), .val (.ref b110), .val (.int (0 : Int32)), .val (.int (1 : Int32)), .val (.int (0 : Int32)), .val (.int (1 : Int32)), .unset, .unset, .unset, .unset]) rfl (q := 109) rfl ?_
        refine Go.aload X126 hx (hb hby at_109) rfl rfl (q := 111) rfl ?_
        refine Go.virt X126 hx hZ hown (wd45 hw) (wd46 hw) (notFace_of_selects (args := #[]) (mvT hZ (wd48 hw))) (wd48 hw) (wd47 hw) (wd28 hw) (wd49 hw) (by decide) (hold1 l Z a0 hw b110 pt ((-9223372036854775808 : Int64)) h111 OK111 P111_0 P111_2 hk112) e126 A110 (by rw [hml]; rfl) (hb hby at_111) (argsL := []) (rest := []) (lenOf pd6 rfl) rfl rfl (W := 0) (by first | exact Nat.le_refl _ | decide) (by decide) (by decide) (by decide) (by decide) ?_
        intro v127 T127 L127 X127 hQ127
        obtain ⟨rfl, N127q, e127⟩ := hQ127
        have N127 := Fr.app N126 N127q
        refine Go.istore X127 hx (hb hby at_114) (l' := #[.val (.long pt), .second, .val (.long pb), .second, .val (.long qc), .second, .val (.int pn), .val (.ref b_101), .val (.ref b102), .val (.ref b104), .val (.ref b106), .val (.ref b108), .val (.ref b110), .val (.int (0 : Int32)), .val (.int (1 : Int32)), .val (.int (0 : Int32)), .val (.int (1 : Int32)), .val (.int (1 : Int32)), .unset, .unset, .unset]) rfl (q := 116) rfl ?_
        refine Go.iload X127 hx (hb hby at_116) rfl (q := 118) rfl ?_
        refine Go.ifNo X127 hx (hb hby at_118) (by decide) (q := 121) rfl ?_
        refine Go.iload X127 hx (hb hby at_121) rfl (q := 123) rfl ?_
        refine Go.ifNo X127 hx (hb hby at_123) (by decide) (q := 126) rfl ?_
        refine Go.iconst X127 hx (hb hby at_126) (r := (1 : Int32)) rfl (q := 127) rfl ?_
        refine Go.goto X127 hx (hb hby at_127) (q := 131) (by decide) (by decide) ?_
        refine Go.istore X127 hx (hb hby at_131) (l' := #[.val (.long pt), .second, .val (.long pb), .second, .val (.long qc), .second, .val (.int pn), .val (.ref b_101), .val (.ref b102), .val (.ref b104), .val (.ref b106), .val (.ref b108), .val (.ref b110), .val (.int (0 : Int32)), .val (.int (1 : Int32)), .val (.int (0 : Int32)), .val (.int (1 : Int32)), .val (.int (1 : Int32)), .val (.int (1 : Int32)), .unset, .unset]) rfl (q := 133) rfl ?_
        refine Go.iload X127 hx (hb hby at_133) rfl (q := 135) rfl ?_
        refine Go.ifYes X127 hx (hb hby at_135) (by decide) (q := 147) (by decide) (by decide) ?_
        refine Go.iconst X127 hx (hb hby at_147) (r := (0 : Int32)) rfl (q := 148) rfl ?_
        refine Go.lloadN X127 hx (hb hby at_148) rfl (q := 149) rfl ?_
        refine Go.lloadN X127 hx (hb hby at_149) rfl (q := 150) rfl ?_
        refine Go.lcmp X127 hx (hb hby at_150) rfl (q := 151) rfl ?_
        refine Go.ifYes X127 hx (hb hby at_151) (Jvm.Free.XT.ll_ne_t hk115) (q := 158) (by decide) (by decide) ?_
        refine Go.iconst X127 hx (hb hby at_158) (r := (0 : Int32)) rfl (q := 159) rfl ?_
        refine Go.icmpNo X127 hx (hb hby at_159) (by decide) (q := 162) rfl ?_
        refine Go.iconst X127 hx (hb hby at_162) (r := (1 : Int32)) rfl (q := 163) rfl ?_
        refine Go.goto X127 hx (hb hby at_163) (q := 167) (by decide) (by decide) ?_
        refine Go.istore X127 hx (hb hby at_167) (l' := #[.val (.long pt), .second, .val (.long pb), .second, .val (.long qc), .second, .val (.int pn), .val (.ref b_101), .val (.ref b102), .val (.ref b104), .val (.ref b106), .val (.ref b108), .val (.ref b110), .val (.int (0 : Int32)), .val (.int (1 : Int32)), .val (.int (0 : Int32)), .val (.int (1 : Int32)), .val (.int (1 : Int32)), .val (.int (1 : Int32)), .val (.int (1 : Int32)), .unset]) rfl (q := 169) rfl ?_
        refine Go.iload X127 hx (hb hby at_169) rfl (q := 171) rfl ?_
        refine Go.ifYes X127 hx (hb hby at_171) (by decide) (q := 184) (by decide) (by decide) ?_
        refine Go.iconst X127 hx (hb hby at_184) (r := (1 : Int32)) rfl (q := 185) rfl ?_
        refine Go.goto X127 hx (hb hby at_185) (q := 189) (by decide) (by decide) ?_
        refine Go.istore X127 hx (hb hby at_189) (l' := #[.val (.long pt), .second, .val (.long pb), .second, .val (.long qc), .second, .val (.int pn), .val (.ref b_101), .val (.ref b102), .val (.ref b104), .val (.ref b106), .val (.ref b108), .val (.ref b110), .val (.int (0 : Int32)), .val (.int (1 : Int32)), .val (.int (0 : Int32)), .val (.int (1 : Int32)), .val (.int (1 : Int32)), .val (.int (1 : Int32)), .val (.int (1 : Int32)), .val (.int (1 : Int32))]) rfl (q := 191) rfl ?_
        refine Go.iload X127 hx (hb hby at_191) rfl (q := 193) rfl ?_
        refine Go.ifNo X127 hx (hb hby at_193) (by decide) (q := 196) rfl ?_
        refine Go.iload X127 hx (hb hby at_196) rfl (q := 198) rfl ?_
        refine Go.ifNo X127 hx (hb hby at_198) (by decide) (q := 201) rfl ?_
        refine Go.iload X127 hx (hb hby at_201) rfl (q := 203) rfl ?_
        refine Go.ifNo X127 hx (hb hby at_203) (by decide) (q := 206) rfl ?_
        refine Go.iload X127 hx (hb hby at_206) rfl (q := 208) rfl ?_
        refine Go.ifNo X127 hx (hb hby at_208) (by decide) (q := 211) rfl ?_
        refine Go.iconst X127 hx (hb hby at_211) (r := (1 : Int32)) rfl (q := 212) rfl ?_
        refine Go.goto X127 hx (hb hby at_212) (q := 216) (by decide) (by decide) ?_
        exact Go.retI X127 hx hret hlk (by simp) rfl (hb hby at_216) e127 (by decide) (by decide) ⟨rfl, N127⟩
    · by_cases hc128 : pt < qc
      · show Go pp ee below _ (T111.setTop (mkF mm 81 #[.val (.long pt), .second, .val (.long pb), .second, .val (.long qc), .second, .val (.int pn), .val (.ref b_101), .val (.ref b102), .val (.ref b104), .val (.ref b106), .val (.ref b108), .val (.ref b110), .unset, .unset, .unset, .unset, .unset, .unset, .unset, .unset] []))
        refine Go.aload X111 hx (hb hby at_81) rfl rfl (q := 83) rfl ?_
        refine Go.virt X111 hx hZ hown (wd45 hw) (wd46 hw) (notFace_of_selects (args := #[]) (mvT hZ (wd48 hw))) (wd48 hw) (wd47 hw) (wd28 hw) (wd49 hw) (by decide) (hold0 l Z a0 hw b102 pt pb h111 OK111 P103_0 P103_2 hc113) e111 A102 (by rw [hml]; rfl) (hb hby at_83) (argsL := []) (rest := []) (lenOf pd6 rfl) rfl rfl (W := 0) (by first | exact Nat.le_refl _ | decide) (by decide) (by decide) (by decide) (by decide) ?_
        intro v129 T129 L129 X129 hQ129
        obtain ⟨rfl, N129q, e129⟩ := hQ129
        have N129 := Fr.app N111 N129q
        refine Go.istore X129 hx (hb hby at_86) (l' := #[.val (.long pt), .second, .val (.long pb), .second, .val (.long qc), .second, .val (.int pn), .val (.ref b_101), .val (.ref b102), .val (.ref b104), .val (.ref b106), .val (.ref b108), .val (.ref b110), .val (.int (0 : Int32)), .unset, .unset, .unset, .unset, .unset, .unset, .unset]) rfl (q := 88) rfl ?_
        refine Go.aload X129 hx (hb hby at_88) rfl rfl (q := 90) rfl ?_
        refine Go.virt X129 hx hZ hown (wd45 hw) (wd46 hw) (notFace_of_selects (args := #[]) (mvT hZ (wd48 hw))) (wd48 hw) (wd47 hw) (wd28 hw) (wd49 hw) (by decide) (hold1 l Z a0 hw b104 pb pt h111 OK111 P105_0 P105_2 hk114) e129 A104 (by rw [hml]; rfl) (hb hby at_90) (argsL := []) (rest := []) (lenOf pd6 rfl) rfl rfl (W := 0) (by first | exact Nat.le_refl _ | decide) (by decide) (by decide) (by decide) (by decide) ?_
        intro v130 T130 L130 X130 hQ130
        obtain ⟨rfl, N130q, e130⟩ := hQ130
        have N130 := Fr.app N129 N130q
        refine Go.istore X130 hx (hb hby at_93) (l' := #[.val (.long pt), .second, .val (.long pb), .second, .val (.long qc), .second, .val (.int pn), .val (.ref b_101), .val (.ref b102), .val (.ref b104), .val (.ref b106), .val (.ref b108), .val (.ref b110), .val (.int (0 : Int32)), .val (.int (1 : Int32)), .unset, .unset, .unset, .unset, .unset, .unset]) rfl (q := 95) rfl ?_
        refine Go.aload X130 hx (hb hby at_95) rfl rfl (q := 97) rfl ?_
        refine Go.virt X130 hx hZ hown (wd45 hw) (wd46 hw) (notFace_of_selects (args := #[]) (mvT hZ (wd48 hw))) (wd48 hw) (wd47 hw) (wd28 hw) (wd49 hw) (by decide) (hold1 l Z a0 hw b106 pb qc h111 OK111 P107_0 P107_2 hc116) e130 A106 (by rw [hml]; rfl) (hb hby at_97) (argsL := []) (rest := []) (lenOf pd6 rfl) rfl rfl (W := 0) (by first | exact Nat.le_refl _ | decide) (by decide) (by decide) (by decide) (by decide) ?_
        intro v131 T131 L131 X131 hQ131
        obtain ⟨rfl, N131q, e131⟩ := hQ131
        have N131 := Fr.app N130 N131q
        refine Go.istore X131 hx (hb hby at_100) (l' := #[.val (.long pt), .second, .val (.long pb), .second, .val (.long qc), .second, .val (.int pn), .val (.ref b_101), .val (.ref b102), .val (.ref b104), .val (.ref b106), .val (.ref b108), .val (.ref b110), .val (.int (0 : Int32)), .val (.int (1 : Int32)), .val (.int (1 : Int32)), .unset, .unset, .unset, .unset, .unset]) rfl (q := 102) rfl ?_
        refine Go.aload X131 hx (hb hby at_102) rfl rfl (q := 104) rfl ?_
        refine Go.virt X131 hx hZ hown (wd45 hw) (wd46 hw) (notFace_of_selects (args := #[]) (mvT hZ (wd48 hw))) (wd48 hw) (wd47 hw) (wd28 hw) (wd49 hw) (by decide) (hold0 l Z a0 hw b108 pt qc h111 OK111 P109_0 P109_2 hc128) e131 A108 (by rw [hml]; rfl) (hb hby at_104) (argsL := []) (rest := []) (lenOf pd6 rfl) rfl rfl (W := 0) (by first | exact Nat.le_refl _ | decide) (by decide) (by decide) (by decide) (by decide) ?_
        intro v132 T132 L132 X132 hQ132
        obtain ⟨rfl, N132q, e132⟩ := hQ132
        have N132 := Fr.app N131 N132q
        refine Go.istore X132 hx (hb hby at_107) (l' := #[.val (.long pt), .second, .val (.long pb), .second, .val (.long qc), .second, .val (.int pn), .val (.ref b_101), .val (.ref b102), .val (.ref b104), .val (.ref b106), .val (.ref b108), .val (.ref b110), .val (.int (0 : Int32)), .val (.int (1 : Int32)), .val (.int (1 : Int32)), .val (.int (0 : Int32)), .unset, .unset, .unset, .unset]) rfl (q := 109) rfl ?_
        refine Go.aload X132 hx (hb hby at_109) rfl rfl (q := 111) rfl ?_
        refine Go.virt X132 hx hZ hown (wd45 hw) (wd46 hw) (notFace_of_selects (args := #[]) (mvT hZ (wd48 hw))) (wd48 hw) (wd47 hw) (wd28 hw) (wd49 hw) (by decide) (hold1 l Z a0 hw b110 pt ((-9223372036854775808 : Int64)) h111 OK111 P111_0 P111_2 hk112) e132 A110 (by rw [hml]; rfl) (hb hby at_111) (argsL := []) (rest := []) (lenOf pd6 rfl) rfl rfl (W := 0) (by first | exact Nat.le_refl _ | decide) (by decide) (by decide) (by decide) (by decide) ?_
        intro v133 T133 L133 X133 hQ133
        obtain ⟨rfl, N133q, e133⟩ := hQ133
        have N133 := Fr.app N132 N133q
        refine Go.istore X133 hx (hb hby at_114) (l' := #[.val (.long pt), .second, .val (.long pb), .second, .val (.long qc), .second, .val (.int pn), .val (.ref b_101), .val (.ref b102), .val (.ref b104), .val (.ref b106), .val (.ref b108), .val (.ref b110), .val (.int (0 : Int32)), .val (.int (1 : Int32)), .val (.int (1 : Int32)), .val (.int (0 : Int32)), .val (.int (1 : Int32)), .unset, .unset, .unset]) rfl (q := 116) rfl ?_
        refine Go.iload X133 hx (hb hby at_116) rfl (q := 118) rfl ?_
        refine Go.ifNo X133 hx (hb hby at_118) (by decide) (q := 121) rfl ?_
        refine Go.iload X133 hx (hb hby at_121) rfl (q := 123) rfl ?_
        refine Go.ifNo X133 hx (hb hby at_123) (by decide) (q := 126) rfl ?_
        refine Go.iconst X133 hx (hb hby at_126) (r := (1 : Int32)) rfl (q := 127) rfl ?_
        refine Go.goto X133 hx (hb hby at_127) (q := 131) (by decide) (by decide) ?_
        refine Go.istore X133 hx (hb hby at_131) (l' := #[.val (.long pt), .second, .val (.long pb), .second, .val (.long qc), .second, .val (.int pn), .val (.ref b_101), .val (.ref b102), .val (.ref b104), .val (.ref b106), .val (.ref b108), .val (.ref b110), .val (.int (0 : Int32)), .val (.int (1 : Int32)), .val (.int (1 : Int32)), .val (.int (0 : Int32)), .val (.int (1 : Int32)), .val (.int (1 : Int32)), .unset, .unset]) rfl (q := 133) rfl ?_
        refine Go.iload X133 hx (hb hby at_133) rfl (q := 135) rfl ?_
        refine Go.ifYes X133 hx (hb hby at_135) (by decide) (q := 147) (by decide) (by decide) ?_
        refine Go.iconst X133 hx (hb hby at_147) (r := (0 : Int32)) rfl (q := 148) rfl ?_
        refine Go.lloadN X133 hx (hb hby at_148) rfl (q := 149) rfl ?_
        refine Go.lloadN X133 hx (hb hby at_149) rfl (q := 150) rfl ?_
        refine Go.lcmp X133 hx (hb hby at_150) rfl (q := 151) rfl ?_
        refine Go.ifYes X133 hx (hb hby at_151) (Jvm.Free.XT.ll_ne_t hk115) (q := 158) (by decide) (by decide) ?_
        refine Go.iconst X133 hx (hb hby at_158) (r := (0 : Int32)) rfl (q := 159) rfl ?_
        refine Go.icmpNo X133 hx (hb hby at_159) (by decide) (q := 162) rfl ?_
        refine Go.iconst X133 hx (hb hby at_162) (r := (1 : Int32)) rfl (q := 163) rfl ?_
        refine Go.goto X133 hx (hb hby at_163) (q := 167) (by decide) (by decide) ?_
        refine Go.istore X133 hx (hb hby at_167) (l' := #[.val (.long pt), .second, .val (.long pb), .second, .val (.long qc), .second, .val (.int pn), .val (.ref b_101), .val (.ref b102), .val (.ref b104), .val (.ref b106), .val (.ref b108), .val (.ref b110), .val (.int (0 : Int32)), .val (.int (1 : Int32)), .val (.int (1 : Int32)), .val (.int (0 : Int32)), .val (.int (1 : Int32)), .val (.int (1 : Int32)), .val (.int (1 : Int32)), .unset]) rfl (q := 169) rfl ?_
        refine Go.iload X133 hx (hb hby at_169) rfl (q := 171) rfl ?_
        refine Go.ifYes X133 hx (hb hby at_171) (by decide) (q := 184) (by decide) (by decide) ?_
        refine Go.iconst X133 hx (hb hby at_184) (r := (1 : Int32)) rfl (q := 185) rfl ?_
        refine Go.goto X133 hx (hb hby at_185) (q := 189) (by decide) (by decide) ?_
        refine Go.istore X133 hx (hb hby at_189) (l' := #[.val (.long pt), .second, .val (.long pb), .second, .val (.long qc), .second, .val (.int pn), .val (.ref b_101), .val (.ref b102), .val (.ref b104), .val (.ref b106), .val (.ref b108), .val (.ref b110), .val (.int (0 : Int32)), .val (.int (1 : Int32)), .val (.int (1 : Int32)), .val (.int (0 : Int32)), .val (.int (1 : Int32)), .val (.int (1 : Int32)), .val (.int (1 : Int32)), .val (.int (1 : Int32))]) rfl (q := 191) rfl ?_
        refine Go.iload X133 hx (hb hby at_191) rfl (q := 193) rfl ?_
        refine Go.ifNo X133 hx (hb hby at_193) (by decide) (q := 196) rfl ?_
        refine Go.iload X133 hx (hb hby at_196) rfl (q := 198) rfl ?_
        refine Go.ifNo X133 hx (hb hby at_198) (by decide) (q := 201) rfl ?_
        refine Go.iload X133 hx (hb hby at_201) rfl (q := 203) rfl ?_
        refine Go.ifNo X133 hx (hb hby at_203) (by decide) (q := 206) rfl ?_
        refine Go.iload X133 hx (hb hby at_206) rfl (q := 208) rfl ?_
        refine Go.ifNo X133 hx (hb hby at_208) (by decide) (q := 211) rfl ?_
        refine Go.iconst X133 hx (hb hby at_211) (r := (1 : Int32)) rfl (q := 212) rfl ?_
        refine Go.goto X133 hx (hb hby at_212) (q := 216) (by decide) (by decide) ?_
        exact Go.retI X133 hx hret hlk (by simp) rfl (hb hby at_216) e133 (by decide) (by decide) ⟨rfl, N133⟩
      · show Go pp ee below _ (T111.setTop (mkF mm 81 #[.val (.long pt), .second, .val (.long pb), .second, .val (.long qc), .second, .val (.int pn), .val (.ref b_101), .val (.ref b102), .val (.ref b104), .val (.ref b106), .val (.ref b108), .val (.ref b110), .unset, .unset, .unset, .unset, .unset, .unset, .unset, .unset] []))
        refine Go.aload X111 hx (hb hby at_81) rfl rfl (q := 83) rfl ?_
        refine Go.virt X111 hx hZ hown (wd45 hw) (wd46 hw) (notFace_of_selects (args := #[]) (mvT hZ (wd48 hw))) (wd48 hw) (wd47 hw) (wd28 hw) (wd49 hw) (by decide) (hold0 l Z a0 hw b102 pt pb h111 OK111 P103_0 P103_2 hc113) e111 A102 (by rw [hml]; rfl) (hb hby at_83) (argsL := []) (rest := []) (lenOf pd6 rfl) rfl rfl (W := 0) (by first | exact Nat.le_refl _ | decide) (by decide) (by decide) (by decide) (by decide) ?_
        intro v134 T134 L134 X134 hQ134
        obtain ⟨rfl, N134q, e134⟩ := hQ134
        have N134 := Fr.app N111 N134q
        refine Go.istore X134 hx (hb hby at_86) (l' := #[.val (.long pt), .second, .val (.long pb), .second, .val (.long qc), .second, .val (.int pn), .val (.ref b_101), .val (.ref b102), .val (.ref b104), .val (.ref b106), .val (.ref b108), .val (.ref b110), .val (.int (0 : Int32)), .unset, .unset, .unset, .unset, .unset, .unset, .unset]) rfl (q := 88) rfl ?_
        refine Go.aload X134 hx (hb hby at_88) rfl rfl (q := 90) rfl ?_
        refine Go.virt X134 hx hZ hown (wd45 hw) (wd46 hw) (notFace_of_selects (args := #[]) (mvT hZ (wd48 hw))) (wd48 hw) (wd47 hw) (wd28 hw) (wd49 hw) (by decide) (hold1 l Z a0 hw b104 pb pt h111 OK111 P105_0 P105_2 hk114) e134 A104 (by rw [hml]; rfl) (hb hby at_90) (argsL := []) (rest := []) (lenOf pd6 rfl) rfl rfl (W := 0) (by first | exact Nat.le_refl _ | decide) (by decide) (by decide) (by decide) (by decide) ?_
        intro v135 T135 L135 X135 hQ135
        obtain ⟨rfl, N135q, e135⟩ := hQ135
        have N135 := Fr.app N134 N135q
        refine Go.istore X135 hx (hb hby at_93) (l' := #[.val (.long pt), .second, .val (.long pb), .second, .val (.long qc), .second, .val (.int pn), .val (.ref b_101), .val (.ref b102), .val (.ref b104), .val (.ref b106), .val (.ref b108), .val (.ref b110), .val (.int (0 : Int32)), .val (.int (1 : Int32)), .unset, .unset, .unset, .unset, .unset, .unset]) rfl (q := 95) rfl ?_
        refine Go.aload X135 hx (hb hby at_95) rfl rfl (q := 97) rfl ?_
        refine Go.virt X135 hx hZ hown (wd45 hw) (wd46 hw) (notFace_of_selects (args := #[]) (mvT hZ (wd48 hw))) (wd48 hw) (wd47 hw) (wd28 hw) (wd49 hw) (by decide) (hold1 l Z a0 hw b106 pb qc h111 OK111 P107_0 P107_2 hc116) e135 A106 (by rw [hml]; rfl) (hb hby at_97) (argsL := []) (rest := []) (lenOf pd6 rfl) rfl rfl (W := 0) (by first | exact Nat.le_refl _ | decide) (by decide) (by decide) (by decide) (by decide) ?_
        intro v136 T136 L136 X136 hQ136
        obtain ⟨rfl, N136q, e136⟩ := hQ136
        have N136 := Fr.app N135 N136q
        refine Go.istore X136 hx (hb hby at_100) (l' := #[.val (.long pt), .second, .val (.long pb), .second, .val (.long qc), .second, .val (.int pn), .val (.ref b_101), .val (.ref b102), .val (.ref b104), .val (.ref b106), .val (.ref b108), .val (.ref b110), .val (.int (0 : Int32)), .val (.int (1 : Int32)), .val (.int (1 : Int32)), .unset, .unset, .unset, .unset, .unset]) rfl (q := 102) rfl ?_
        refine Go.aload X136 hx (hb hby at_102) rfl rfl (q := 104) rfl ?_
        refine Go.virt X136 hx hZ hown (wd45 hw) (wd46 hw) (notFace_of_selects (args := #[]) (mvT hZ (wd48 hw))) (wd48 hw) (wd47 hw) (wd28 hw) (wd49 hw) (by decide) (hold1 l Z a0 hw b108 pt qc h111 OK111 P109_0 P109_2 hc128) e136 A108 (by rw [hml]; rfl) (hb hby at_104) (argsL := []) (rest := []) (lenOf pd6 rfl) rfl rfl (W := 0) (by first | exact Nat.le_refl _ | decide) (by decide) (by decide) (by decide) (by decide) ?_
        intro v137 T137 L137 X137 hQ137
        obtain ⟨rfl, N137q, e137⟩ := hQ137
        have N137 := Fr.app N136 N137q
        refine Go.istore X137 hx (hb hby at_107) (l' := #[.val (.long pt), .second, .val (.long pb), .second, .val (.long qc), .second, .val (.int pn), .val (.ref b_101), .val (.ref b102), .val (.ref b104), .val (.ref b106), .val (.ref b108), .val (.ref b110), .val (.int (0 : Int32)), .val (.int (1 : Int32)), .val (.int (1 : Int32)), .val (.int (1 : Int32)), .unset, .unset, .unset, .unset]) rfl (q := 109) rfl ?_
        refine Go.aload X137 hx (hb hby at_109) rfl rfl (q := 111) rfl ?_
        refine Go.virt X137 hx hZ hown (wd45 hw) (wd46 hw) (notFace_of_selects (args := #[]) (mvT hZ (wd48 hw))) (wd48 hw) (wd47 hw) (wd28 hw) (wd49 hw) (by decide) (hold1 l Z a0 hw b110 pt ((-9223372036854775808 : Int64)) h111 OK111 P111_0 P111_2 hk112) e137 A110 (by rw [hml]; rfl) (hb hby at_111) (argsL := []) (rest := []) (lenOf pd6 rfl) rfl rfl (W := 0) (by first | exact Nat.le_refl _ | decide) (by decide) (by decide) (by decide) (by decide) ?_
        intro v138 T138 L138 X138 hQ138
        obtain ⟨rfl, N138q, e138⟩ := hQ138
        have N138 := Fr.app N137 N138q
        refine Go.istore X138 hx (hb hby at_114) (l' := #[.val (.long pt), .second, .val (.long pb), .second, .val (.long qc), .second, .val (.int pn), .val (.ref b_101), .val (.ref b102), .val (.ref b104), .val (.ref b106), .val (.ref b108), .val (.ref b110), .val (.int (0 : Int32)), .val (.int (1 : Int32)), .val (.int (1 : Int32)), .val (.int (1 : Int32)), .val (.int (1 : Int32)), .unset, .unset, .unset]) rfl (q := 116) rfl ?_
        refine Go.iload X138 hx (hb hby at_116) rfl (q := 118) rfl ?_
        refine Go.ifNo X138 hx (hb hby at_118) (by decide) (q := 121) rfl ?_
        refine Go.iload X138 hx (hb hby at_121) rfl (q := 123) rfl ?_
        refine Go.ifNo X138 hx (hb hby at_123) (by decide) (q := 126) rfl ?_
        refine Go.iconst X138 hx (hb hby at_126) (r := (1 : Int32)) rfl (q := 127) rfl ?_
        refine Go.goto X138 hx (hb hby at_127) (q := 131) (by decide) (by decide) ?_
        refine Go.istore X138 hx (hb hby at_131) (l' := #[.val (.long pt), .second, .val (.long pb), .second, .val (.long qc), .second, .val (.int pn), .val (.ref b_101), .val (.ref b102), .val (.ref b104), .val (.ref b106), .val (.ref b108), .val (.ref b110), .val (.int (0 : Int32)), .val (.int (1 : Int32)), .val (.int (1 : Int32)), .val (.int (1 : Int32)), .val (.int (1 : Int32)), .val (.int (1 : Int32)), .unset, .unset]) rfl (q := 133) rfl ?_
        refine Go.iload X138 hx (hb hby at_133) rfl (q := 135) rfl ?_
        refine Go.ifYes X138 hx (hb hby at_135) (by decide) (q := 147) (by decide) (by decide) ?_
        refine Go.iconst X138 hx (hb hby at_147) (r := (0 : Int32)) rfl (q := 148) rfl ?_
        refine Go.lloadN X138 hx (hb hby at_148) rfl (q := 149) rfl ?_
        refine Go.lloadN X138 hx (hb hby at_149) rfl (q := 150) rfl ?_
        refine Go.lcmp X138 hx (hb hby at_150) rfl (q := 151) rfl ?_
        refine Go.ifYes X138 hx (hb hby at_151) (Jvm.Free.XT.ll_ne_t hk115) (q := 158) (by decide) (by decide) ?_
        refine Go.iconst X138 hx (hb hby at_158) (r := (0 : Int32)) rfl (q := 159) rfl ?_
        refine Go.icmpNo X138 hx (hb hby at_159) (by decide) (q := 162) rfl ?_
        refine Go.iconst X138 hx (hb hby at_162) (r := (1 : Int32)) rfl (q := 163) rfl ?_
        refine Go.goto X138 hx (hb hby at_163) (q := 167) (by decide) (by decide) ?_
        refine Go.istore X138 hx (hb hby at_167) (l' := #[.val (.long pt), .second, .val (.long pb), .second, .val (.long qc), .second, .val (.int pn), .val (.ref b_101), .val (.ref b102), .val (.ref b104), .val (.ref b106), .val (.ref b108), .val (.ref b110), .val (.int (0 : Int32)), .val (.int (1 : Int32)), .val (.int (1 : Int32)), .val (.int (1 : Int32)), .val (.int (1 : Int32)), .val (.int (1 : Int32)), .val (.int (1 : Int32)), .unset]) rfl (q := 169) rfl ?_
        refine Go.iload X138 hx (hb hby at_169) rfl (q := 171) rfl ?_
        refine Go.ifYes X138 hx (hb hby at_171) (by decide) (q := 184) (by decide) (by decide) ?_
        refine Go.iconst X138 hx (hb hby at_184) (r := (1 : Int32)) rfl (q := 185) rfl ?_
        refine Go.goto X138 hx (hb hby at_185) (q := 189) (by decide) (by decide) ?_
        refine Go.istore X138 hx (hb hby at_189) (l' := #[.val (.long pt), .second, .val (.long pb), .second, .val (.long qc), .second, .val (.int pn), .val (.ref b_101), .val (.ref b102), .val (.ref b104), .val (.ref b106), .val (.ref b108), .val (.ref b110), .val (.int (0 : Int32)), .val (.int (1 : Int32)), .val (.int (1 : Int32)), .val (.int (1 : Int32)), .val (.int (1 : Int32)), .val (.int (1 : Int32)), .val (.int (1 : Int32)), .val (.int (1 : Int32))]) rfl (q := 191) rfl ?_
        refine Go.iload X138 hx (hb hby at_191) rfl (q := 193) rfl ?_
        refine Go.ifNo X138 hx (hb hby at_193) (by decide) (q := 196) rfl ?_
        refine Go.iload X138 hx (hb hby at_196) rfl (q := 198) rfl ?_
        refine Go.ifNo X138 hx (hb hby at_198) (by decide) (q := 201) rfl ?_
        refine Go.iload X138 hx (hb hby at_201) rfl (q := 203) rfl ?_
        refine Go.ifNo X138 hx (hb hby at_203) (by decide) (q := 206) rfl ?_
        refine Go.iload X138 hx (hb hby at_206) rfl (q := 208) rfl ?_
        refine Go.ifNo X138 hx (hb hby at_208) (by decide) (q := 211) rfl ?_
        refine Go.iconst X138 hx (hb hby at_211) (r := (1 : Int32)) rfl (q := 212) rfl ?_
        refine Go.goto X138 hx (hb hby at_212) (q := 216) (by decide) (by decide) ?_
        exact Go.retI X138 hx hret hlk (by simp) rfl (hb hby at_216) e138 (by decide) (by decide) ⟨rfl, N138⟩
  · by_cases hc139 : pb < pt
    · have hk140 : ¬ (pt = pb) := own_ne' hc139
      by_cases hc141 : pb < qc
      · by_cases hc142 : pt < qc
        · show Go pp ee below _ (T111.setTop (mkF mm 81 #[.val (.long pt), .second, .val (.long pb), .second, .val (.long qc), .second, .val (.int pn), .val (.ref b_101), .val (.ref b102), .val (.ref b104), .val (.ref b106), .val (.ref b108), .val (.ref b110), .unset, .unset, .unset, .unset, .unset, .unset, .unset, .unset] []))
          refine Go.aload X111 hx (hb hby at_81) rfl rfl (q := 83) rfl ?_
          refine Go.virt X111 hx hZ hown (wd45 hw) (wd46 hw) (notFace_of_selects (args := #[]) (mvT hZ (wd48 hw))) (wd48 hw) (wd47 hw) (wd28 hw) (wd49 hw) (by decide) (hold1 l Z a0 hw b102 pt pb h111 OK111 P103_0 P103_2 hc113) e111 A102 (by rw [hml]; rfl) (hb hby at_83) (argsL := []) (rest := []) (lenOf pd6 rfl) rfl rfl (W := 0) (by first | exact Nat.le_refl _ | decide) (by decide) (by decide) (by decide) (by decide) ?_
          intro v143 T143 L143 X143 hQ143
          obtain ⟨rfl, N143q, e143⟩ := hQ143
          have N143 := Fr.app N111 N143q
          refine Go.istore X143 hx (hb hby at_86) (l' := #[.val (.long pt), .second, .val (.long pb), .second, .val (.long qc), .second, .val (.int pn), .val (.ref b_101), .val (.ref b102), .val (.ref b104), .val (.ref b106), .val (.ref b108), .val (.ref b110), .val (.int (1 : Int32)), .unset, .unset, .unset, .unset, .unset, .unset, .unset]) rfl (q := 88) rfl ?_
          refine Go.aload X143 hx (hb hby at_88) rfl rfl (q := 90) rfl ?_
          refine Go.virt X143 hx hZ hown (wd45 hw) (wd46 hw) (notFace_of_selects (args := #[]) (mvT hZ (wd48 hw))) (wd48 hw) (wd47 hw) (wd28 hw) (wd49 hw) (by decide) (hold0 l Z a0 hw b104 pb pt h111 OK111 P105_0 P105_2 hc139) e143 A104 (by rw [hml]; rfl) (hb hby at_90) (argsL := []) (rest := []) (lenOf pd6 rfl) rfl rfl (W := 0) (by first | exact Nat.le_refl _ | decide) (by decide) (by decide) (by decide) (by decide) ?_
          intro v144 T144 L144 X144 hQ144
          obtain ⟨rfl, N144q, e144⟩ := hQ144
          have N144 := Fr.app N143 N144q
          refine Go.istore X144 hx (hb hby at_93) (l' := #[.val (.long pt), .second, .val (.long pb), .second, .val (.long qc), .second, .val (.int pn), .val (.ref b_101), .val (.ref b102), .val (.ref b104), .val (.ref b106), .val (.ref b108), .val (.ref b110), .val (.int (1 : Int32)), .val (.int (0 : Int32)), .unset, .unset, .unset, .unset, .unset, .unset]) rfl (q := 95) rfl ?_
          refine Go.aload X144 hx (hb hby at_95) rfl rfl (q := 97) rfl ?_
          refine Go.virt X144 hx hZ hown (wd45 hw) (wd46 hw) (notFace_of_selects (args := #[]) (mvT hZ (wd48 hw))) (wd48 hw) (wd47 hw) (wd28 hw) (wd49 hw) (by decide) (hold0 l Z a0 hw b106 pb qc h111 OK111 P107_0 P107_2 hc141) e144 A106 (by rw [hml]; rfl) (hb hby at_97) (argsL := []) (rest := []) (lenOf pd6 rfl) rfl rfl (W := 0) (by first | exact Nat.le_refl _ | decide) (by decide) (by decide) (by decide) (by decide) ?_
          intro v145 T145 L145 X145 hQ145
          obtain ⟨rfl, N145q, e145⟩ := hQ145
          have N145 := Fr.app N144 N145q
          refine Go.istore X145 hx (hb hby at_100) (l' := #[.val (.long pt), .second, .val (.long pb), .second, .val (.long qc), .second, .val (.int pn), .val (.ref b_101), .val (.ref b102), .val (.ref b104), .val (.ref b106), .val (.ref b108), .val (.ref b110), .val (.int (1 : Int32)), .val (.int (0 : Int32)), .val (.int (0 : Int32)), .unset, .unset, .unset, .unset, .unset]) rfl (q := 102) rfl ?_
          refine Go.aload X145 hx (hb hby at_102) rfl rfl (q := 104) rfl ?_
          refine Go.virt X145 hx hZ hown (wd45 hw) (wd46 hw) (notFace_of_selects (args := #[]) (mvT hZ (wd48 hw))) (wd48 hw) (wd47 hw) (wd28 hw) (wd49 hw) (by decide) (hold0 l Z a0 hw b108 pt qc h111 OK111 P109_0 P109_2 hc142) e145 A108 (by rw [hml]; rfl) (hb hby at_104) (argsL := []) (rest := []) (lenOf pd6 rfl) rfl rfl (W := 0) (by first | exact Nat.le_refl _ | decide) (by decide) (by decide) (by decide) (by decide) ?_
          intro v146 T146 L146 X146 hQ146
          obtain ⟨rfl, N146q, e146⟩ := hQ146
          have N146 := Fr.app N145 N146q
          refine Go.istore X146 hx (hb hby at_107) (l' := #[.val (.long pt), .second, .val (.long pb), .second, .val (.long qc), .second, .val (.int pn), .val (.ref b_101), .val (.ref b102), .val (.ref b104), .val (.ref b106), .val (.ref b108), .val (.ref b110), .val (.int (1 : Int32)), .val (.int (0 : Int32)), .val (.int (0 : Int32)), .val (.int (0 : Int32)), .unset, .unset, .unset, .unset]) rfl (q := 109) rfl ?_
          refine Go.aload X146 hx (hb hby at_109) rfl rfl (q := 111) rfl ?_
          refine Go.virt X146 hx hZ hown (wd45 hw) (wd46 hw) (notFace_of_selects (args := #[]) (mvT hZ (wd48 hw))) (wd48 hw) (wd47 hw) (wd28 hw) (wd49 hw) (by decide) (hold1 l Z a0 hw b110 pt ((-9223372036854775808 : Int64)) h111 OK111 P111_0 P111_2 hk112) e146 A110 (by rw [hml]; rfl) (hb hby at_111) (argsL := []) (rest := []) (lenOf pd6 rfl) rfl rfl (W := 0) (by first | exact Nat.le_refl _ | decide) (by decide) (by decide) (by decide) (by decide) ?_
          intro v147 T147 L147 X147 hQ147
          obtain ⟨rfl, N147q, e147⟩ := hQ147
          have N147 := Fr.app N146 N147q
          refine Go.istore X147 hx (hb hby at_114) (l' := #[.val (.long pt), .second, .val (.long pb), .second, .val (.long qc), .second, .val (.int pn), .val (.ref b_101), .val (.ref b102), .val (.ref b104), .val (.ref b106), .val (.ref b108), .val (.ref b110), .val (.int (1 : Int32)), .val (.int (0 : Int32)), .val (.int (0 : Int32)), .val (.int (0 : Int32)), .val (.int (1 : Int32)), .unset, .unset, .unset]) rfl (q := 116) rfl ?_
          refine Go.iload X147 hx (hb hby at_116) rfl (q := 118) rfl ?_
          refine Go.ifYes X147 hx (hb hby at_118) (by decide) (q := 126) (by decide) (by decide) ?_
          refine Go.iconst X147 hx (hb hby at_126) (r := (1 : Int32)) rfl (q := 127) rfl ?_
          refine Go.goto X147 hx (hb hby at_127) (q := 131) (by decide) (by decide) ?_
          refine Go.istore X147 hx (hb hby at_131) (l' := #[.val (.long pt), .second, .val (.long pb), .second, .val (.long qc), .second, .val (.int pn), .val (.ref b_101), .val (.ref b102), .val (.ref b104), .val (.ref b106), .val (.ref b108), .val (.ref b110), .val (.int (1 : Int32)), .val (.int (0 : Int32)), .val (.int (0 : Int32)), .val (.int (0 : Int32)), .val (.int (1 : Int32)), .val (.int (1 : Int32)), .unset, .unset]) rfl (q := 133) rfl ?_
          refine Go.iload X147 hx (hb hby at_133) rfl (q := 135) rfl ?_
          refine Go.ifNo X147 hx (hb hby at_135) (by decide) (q := 138) rfl ?_
          refine Go.iload X147 hx (hb hby at_138) rfl (q := 140) rfl ?_
          refine Go.ifYes X147 hx (hb hby at_140) (by decide) (q := 147) (by decide) (by decide) ?_
          refine Go.iconst X147 hx (hb hby at_147) (r := (0 : Int32)) rfl (q := 148) rfl ?_
          refine Go.lloadN X147 hx (hb hby at_148) rfl (q := 149) rfl ?_
          refine Go.lloadN X147 hx (hb hby at_149) rfl (q := 150) rfl ?_
          refine Go.lcmp X147 hx (hb hby at_150) rfl (q := 151) rfl ?_
          refine Go.ifYes X147 hx (hb hby at_151) (Jvm.Free.XT.ll_ne_t hk140) (q := 158) (by decide) (by decide) ?_
          refine Go.iconst X147 hx (hb hby at_158) (r := (0 : Int32)) rfl (q := 159) rfl ?_
          refine Go.icmpNo X147 hx (hb hby at_159) (by decide) (q := 162) rfl ?_
          refine Go.iconst X147 hx (hb hby at_162) (r := (1 : Int32)) rfl (q := 163) rfl ?_
          refine Go.goto X147 hx (hb hby at_163) (q := 167) (by decide) (by decide) ?_
          refine Go.istore X147 hx (hb hby at_167) (l' := #[.val (.long pt), .second, .val (.long pb), .second, .val (.long qc), .second, .val (.int pn), .val (.ref b_101), .val (.ref b102), .val (.ref b104), .val (.ref b106), .val (.ref b108), .val (.ref b110), .val (.int (1 : Int32)), .val (.int (0 : Int32)), .val (.int (0 : Int32)), .val (.int (0 : Int32)), .val (.int (1 : Int32)), .val (.int (1 : Int32)), .val (.int (1 : Int32)), .unset]) rfl (q := 169) rfl ?_
          refine Go.iload X147 hx (hb hby at_169) rfl (q := 171) rfl ?_
          refine Go.ifNo X147 hx (hb hby at_171) (by decide) (q := 174) rfl ?_
          refine Go.iload X147 hx (hb hby at_174) rfl (q := 176) rfl ?_
          refine Go.ifYes X147 hx (hb hby at_176) (by decide) (q := 184) (by decide) (by decide) ?_
          refine Go.iconst X147 hx (hb hby at_184) (r := (1 : Int32)) rfl (q := 185) rfl ?_
          refine Go.goto X147 hx (hb hby at_185) (q := 189) (by decide) (by decide) ?_
          refine Go.istore X147 hx (hb hby at_189) (l' := #[.val (.long pt), .second, .val (.long pb), .second, .val (.long qc), .second, .val (.int pn), .val (.ref b_101), .val (.ref b102), .val (.ref b104), .val (.ref b106), .val (.ref b108), .val (.ref b110), .val (.int (1 : Int32)), .val (.int (0 : Int32)), .val (.int (0 : Int32)), .val (.int (0 : Int32)), .val (.int (1 : Int32)), .val (.int (1 : Int32)), .val (.int (1 : Int32)), .val (.int (1 : Int32))]) rfl (q := 191) rfl ?_
          refine Go.iload X147 hx (hb hby at_191) rfl (q := 193) rfl ?_
          refine Go.ifNo X147 hx (hb hby at_193) (by decide) (q := 196) rfl ?_
          refine Go.iload X147 hx (hb hby at_196) rfl (q := 198) rfl ?_
          refine Go.ifNo X147 hx (hb hby at_198) (by decide) (q := 201) rfl ?_
          refine Go.iload X147 hx (hb hby at_201) rfl (q := 203) rfl ?_
          refine Go.ifNo X147 hx (hb hby at_203) (by decide) (q := 206) rfl ?_
          refine Go.iload X147 hx (hb hby at_206) rfl (q := 208) rfl ?_
          refine Go.ifNo X147 hx (hb hby at_208) (by decide) (q := 211) rfl ?_
          refine Go.iconst X147 hx (hb hby at_211) (r := (1 : Int32)) rfl (q := 212) rfl ?_
          refine Go.goto X147 hx (hb hby at_212) (q := 216) (by decide) (by decide) ?_
          exact Go.retI X147 hx hret hlk (by simp) rfl (hb hby at_216) e147 (by decide) (by decide) ⟨rfl, N147⟩
        · show Go pp ee below _ (T111.setTop (mkF mm 81 #[.val (.long pt), .second, .val (.long pb), .second, .val (.long qc), .second, .val (.int pn), .val (.ref b_101), .val (.ref b102), .val (.ref b104), .val (.ref b106), .val (.ref b108), .val (.ref b110), .unset, .unset, .unset, .unset, .unset, .unset, .unset, .unset] []))
          refine Go.aload X111 hx (hb hby at_81) rfl rfl (q := 83) rfl ?_
          refine Go.virt X111 hx hZ hown (wd45 hw) (wd46 hw) (notFace_of_selects (args := #[]) (mvT hZ (wd48 hw))) (wd48 hw) (wd47 hw) (wd28 hw) (wd49 hw) (by decide) (hold1 l Z a0 hw b102 pt pb h111 OK111 P103_0 P103_2 hc113) e111 A102 (by rw [hml]; rfl) (hb hby at_83) (argsL := []) (rest := []) (lenOf pd6 rfl) rfl rfl (W := 0) (by first | exact Nat.le_refl _ | decide) (by decide) (by decide) (by decide) (by decide) ?_
          intro v148 T148 L148 X148 hQ148
          obtain ⟨rfl, N148q, e148⟩ := hQ148
          have N148 := Fr.app N111 N148q
          refine Go.istore X148 hx (hb hby at_86) (l' := #[.val (.long pt), .second, .val (.long pb), .second, .val (.long qc), .second, .val (.int pn), .val (.ref b_101), .val (.ref b102), .val (.ref b104), .val (.ref b106), .val (.ref b108), .val (.ref b110), .val (.int (1 : Int32)), .unset, .unset, .unset, .unset, .unset, .unset, .unset]) rfl (q := 88) rfl ?_
          refine Go.aload X148 hx (hb hby at_88) rfl rfl (q := 90) rfl ?_
          refine Go.virt X148 hx hZ hown (wd45 hw) (wd46 hw) (notFace_of_selects (args := #[]) (mvT hZ (wd48 hw))) (wd48 hw) (wd47 hw) (wd28 hw) (wd49 hw) (by decide) (hold0 l Z a0 hw b104 pb pt h111 OK111 P105_0 P105_2 hc139) e148 A104 (by rw [hml]; rfl) (hb hby at_90) (argsL := []) (rest := []) (lenOf pd6 rfl) rfl rfl (W := 0) (by first | exact Nat.le_refl _ | decide) (by decide) (by decide) (by decide) (by decide) ?_
          intro v149 T149 L149 X149 hQ149
          obtain ⟨rfl, N149q, e149⟩ := hQ149
          have N149 := Fr.app N148 N149q
          refine Go.istore X149 hx (hb hby at_93) (l' := #[.val (.long pt), .second, .val (.long pb), .second, .val (.long qc), .second, .val (.int pn), .val (.ref b_101), .val (.ref b102), .val (.ref b104), .val (.ref b106), .val (.ref b108), .val (.ref b110), .val (.int (1 : Int32)), .val (.int (0 : Int32)), .unset, .unset, .unset, .unset, .unset, .unset]) rfl (q := 95) rfl ?_
          refine Go.aload X149 hx (hb hby at_95) rfl rfl (q := 97) rfl ?_
          refine Go.virt X149 hx hZ hown (wd45 hw) (wd46 hw) (notFace_of_selects (args := #[]) (mvT hZ (wd48 hw))) (wd48 hw) (wd47 hw) (wd28 hw) (wd49 hw) (by decide) (hold0 l Z a0 hw b106 pb qc h111 OK111 P107_0 P107_2 hc141) e149 A106 (by rw [hml]; rfl) (hb hby at_97) (argsL := []) (rest := []) (lenOf pd6 rfl) rfl rfl (W := 0) (by first | exact Nat.le_refl _ | decide) (by decide) (by decide) (by decide) (by decide) ?_
          intro v150 T150 L150 X150 hQ150
          obtain ⟨rfl, N150q, e150⟩ := hQ150
          have N150 := Fr.app N149 N150q
          refine Go.istore X150 hx (hb hby at_100) (l' := #[.val (.long pt), .second, .val (.long pb), .second, .val (.long qc), .second, .val (.int pn), .val (.ref b_101), .val (.ref b102), .val (.ref b104), .val (.ref b106), .val (.ref b108), .val (.ref b110), .val (.int (1 : Int32)), .val (.int (0 : Int32)), .val (.int (0 : Int32)), .unset, .unset, .unset, .unset, .unset]) rfl (q := 102) rfl ?_
          refine Go.aload X150 hx (hb hby at_102) rfl rfl (q := 104) rfl ?_
          refine Go.virt X150 hx hZ hown (wd45 hw) (wd46 hw) (notFace_of_selects (args := #[]) (mvT hZ (wd48 hw))) (wd48 hw) (wd47 hw) (wd28 hw) (wd49 hw) (by decide) (hold1 l Z a0 hw b108 pt qc h111 OK111 P109_0 P109_2 hc142) e150 A108 (by rw [hml]; rfl) (hb hby at_104) (argsL := []) (rest := []) (lenOf pd6 rfl) rfl rfl (W := 0) (by first | exact Nat.le_refl _ | decide) (by decide) (by decide) (by decide) (by decide) ?_
          intro v151 T151 L151 X151 hQ151
          obtain ⟨rfl, N151q, e151⟩ := hQ151
          have N151 := Fr.app N150 N151q
          refine Go.istore X151 hx (hb hby at_107) (l' := #[.val (.long pt), .second, .val (.long pb), .second, .val (.long qc), .second, .val (.int pn), .val (.ref b_101), .val (.ref b102), .val (.ref b104), .val (.ref b106), .val (.ref b108), .val (.ref b110), .val (.int (1 : Int32)), .val (.int (0 : Int32)), .val (.int (0 : Int32)), .val (.int (1 : Int32)), .unset, .unset, .unset, .unset]) rfl (q := 109) rfl ?_
          refine Go.aload X151 hx (hb hby at_109) rfl rfl (q := 111) rfl ?_
          refine Go.virt X151 hx hZ hown (wd45 hw) (wd46 hw) (notFace_of_selects (args := #[]) (mvT hZ (wd48 hw))) (wd48 hw) (wd47 hw) (wd28 hw) (wd49 hw) (by decide) (hold1 l Z a0 hw b110 pt ((-9223372036854775808 : Int64)) h111 OK111 P111_0 P111_2 hk112) e151 A110 (by rw [hml]; rfl) (hb hby at_111) (argsL := []) (rest := []) (lenOf pd6 rfl) rfl rfl (W := 0) (by first | exact Nat.le_refl _ | decide) (by decide) (by decide) (by decide) (by decide) ?_
          intro v152 T152 L152 X152 hQ152
          obtain ⟨rfl, N152q, e152⟩ := hQ152
          have N152 := Fr.app N151 N152q
          refine Go.istore X152 hx (hb hby at_114) (l' := #[.val (.long pt), .second, .val (.long pb), .second, .val (.long qc), .second, .val (.int pn), .val (.ref b_101), .val (.ref b102), .val (.ref b104), .val (.ref b106), .val (.ref b108), .val (.ref b110), .val (.int (1 : Int32)), .val (.int (0 : Int32)), .val (.int (0 : Int32)), .val (.int (1 : Int32)), .val (.int (1 : Int32)), .unset, .unset, .unset]) rfl (q := 116) rfl ?_
          refine Go.iload X152 hx (hb hby at_116) rfl (q := 118) rfl ?_
          refine Go.ifYes X152 hx (hb hby at_118) (by decide) (q := 126) (by decide) (by decide) ?_
          refine Go.iconst X152 hx (hb hby at_126) (r := (1 : Int32)) rfl (q := 127) rfl ?_
          refine Go.goto X152 hx (hb hby at_127) (q := 131) (by decide) (by decide) ?_
          refine Go.istore X152 hx (hb hby at_131) (l' := #[.val (.long pt), .second, .val (.long pb), .second, .val (.long qc), .second, .val (.int pn), .val (.ref b_101), .val (.ref b102), .val (.ref b104), .val (.ref b106), .val (.ref b108), .val (.ref b110), .val (.int (1 : Int32)), .val (.int (0 : Int32)), .val (.int (0 : Int32)), .val (.int (1 : Int32)), .val (.int (1 : Int32)), .val (.int (1 : Int32)), .unset, .unset]) rfl (q := 133) rfl ?_
          refine Go.iload X152 hx (hb hby at_133) rfl (q := 135) rfl ?_
          refine Go.ifNo X152 hx (hb hby at_135) (by decide) (q := 138) rfl ?_
          refine Go.iload X152 hx (hb hby at_138) rfl (q := 140) rfl ?_
          refine Go.ifYes X152 hx (hb hby at_140) (by decide) (q := 147) (by decide) (by decide) ?_
          refine Go.iconst X152 hx (hb hby at_147) (r := (0 : Int32)) rfl (q := 148) rfl ?_
          refine Go.lloadN X152 hx (hb hby at_148) rfl (q := 149) rfl ?_
          refine Go.lloadN X152 hx (hb hby at_149) rfl (q := 150) rfl ?_
          refine Go.lcmp X152 hx (hb hby at_150) rfl (q := 151) rfl ?_
          refine Go.ifYes X152 hx (hb hby at_151) (Jvm.Free.XT.ll_ne_t hk140) (q := 158) (by decide) (by decide) ?_
          refine Go.iconst X152 hx (hb hby at_158) (r := (0 : Int32)) rfl (q := 159) rfl ?_
          refine Go.icmpNo X152 hx (hb hby at_159) (by decide) (q := 162) rfl ?_
          refine Go.iconst X152 hx (hb hby at_162) (r := (1 : Int32)) rfl (q := 163) rfl ?_
          refine Go.goto X152 hx (hb hby at_163) (q := 167) (by decide) (by decide) ?_
          refine Go.istore X152 hx (hb hby at_167) (l' := #[.val (.long pt), .second, .val (.long pb), .second, .val (.long qc), .second, .val (.int pn), .val (.ref b_101), .val (.ref b102), .val (.ref b104), .val (.ref b106), .val (.ref b108), .val (.ref b110), .val (.int (1 : Int32)), .val (.int (0 : Int32)), .val (.int (0 : Int32)), .val (.int (1 : Int32)), .val (.int (1 : Int32)), .val (.int (1 : Int32)), .val (.int (1 : Int32)), .unset]) rfl (q := 169) rfl ?_
          refine Go.iload X152 hx (hb hby at_169) rfl (q := 171) rfl ?_
          refine Go.ifNo X152 hx (hb hby at_171) (by decide) (q := 174) rfl ?_
          refine Go.iload X152 hx (hb hby at_174) rfl (q := 176) rfl ?_
          refine Go.ifYes X152 hx (hb hby at_176) (by decide) (q := 184) (by decide) (by decide) ?_
          refine Go.iconst X152 hx (hb hby at_184) (r := (1 : Int32)) rfl (q := 185) rfl ?_
          refine Go.goto X152 hx (hb hby at_185) (q := 189) (by decide) (by decide) ?_
          refine Go.istore X152 hx (hb hby at_189) (l' := #[.val (.long pt), .second, .val (.long pb), .second, .val (.long qc), .second, .val (.int pn), .val (.ref b_101), .val (.ref b102), .val (.ref b104), .val (.ref b106), .val (.ref b108), .val (.ref b110), .val (.int (1 : Int32)), .val (.int (0 : Int32)), .val (.int (0 : Int32)), .val (.int (1 : Int32)), .val (.int (1 : Int32)), .val (.int (1 : Int32)), .val (.int (1 : Int32)), .val (.int (1 : Int32))]) rfl (q := 191) rfl ?_
          refine Go.iload X152 hx (hb hby at_191) rfl (q := 193) rfl ?_
          refine Go.ifNo X152 hx (hb hby at_193) (by decide) (q := 196) rfl ?_
          refine Go.iload X152 hx (hb hby at_196) rfl (q := 198) rfl ?_
          refine Go.ifNo X152 hx (hb hby at_198) (by decide) (q := 201) rfl ?_
          refine Go.iload X152 hx (hb hby at_201) rfl (q := 203) rfl ?_
          refine Go.ifNo X152 hx (hb hby at_203) (by decide) (q := 206) rfl ?_
          refine Go.iload X152 hx (hb hby at_206) rfl (q := 208) rfl ?_
          refine Go.ifNo X152 hx (hb hby at_208) (by decide) (q := 211) rfl ?_
          refine Go.iconst X152 hx (hb hby at_211) (r := (1 : Int32)) rfl (q := 212) rfl ?_
          refine Go.goto X152 hx (hb hby at_212) (q := 216) (by decide) (by decide) ?_
          exact Go.retI X152 hx hret hlk (by simp) rfl (hb hby at_216) e152 (by decide) (by decide) ⟨rfl, N152⟩
      · have hk153 : ¬ (pt < qc) := own_tr hc113 hc141
        show Go pp ee below _ (T111.setTop (mkF mm 81 #[.val (.long pt), .second, .val (.long pb), .second, .val (.long qc), .second, .val (.int pn), .val (.ref b_101), .val (.ref b102), .val (.ref b104), .val (.ref b106), .val (.ref b108), .val (.ref b110), .unset, .unset, .unset, .unset, .unset, .unset, .unset, .unset] []))
        refine Go.aload X111 hx (hb hby at_81) rfl rfl (q := 83) rfl ?_
        refine Go.virt X111 hx hZ hown (wd45 hw) (wd46 hw) (notFace_of_selects (args := #[]) (mvT hZ (wd48 hw))) (wd48 hw) (wd47 hw) (wd28 hw) (wd49 hw) (by decide) (hold1 l Z a0 hw b102 pt pb h111 OK111 P103_0 P103_2 hc113) e111 A102 (by rw [hml]; rfl) (hb hby at_83) (argsL := []) (rest := []) (lenOf pd6 rfl) rfl rfl (W := 0) (by first | exact Nat.le_refl _ | decide) (by decide) (by decide) (by decide) (by decide) ?_
        intro v154 T154 L154 X154 hQ154
        obtain ⟨rfl, N154q, e154⟩ := hQ154
        have N154 := Fr.app N111 N154q
        refine Go.istore X154 hx (hb hby at_86) (l' := #[.val (.long pt), .second, .val (.long pb), .second, .val (.long qc), .second, .val (.int pn), .val (.ref b_101), .val (.ref b102), .val (.ref b104), .val (.ref b106), .val (.ref b108), .val (.ref b110), .val (.int (1 : Int32)), .unset, .unset, .unset, .unset, .unset, .unset, .unset]) rfl (q := 88) rfl ?_
        refine Go.aload X154 hx (hb hby at_88) rfl rfl (q := 90) rfl ?_
        refine Go.virt X154 hx hZ hown (wd45 hw) (wd46 hw) (notFace_of_selects (args := #[]) (mvT hZ (wd48 hw))) (wd48 hw) (wd47 hw) (wd28 hw) (wd49 hw) (by decide) (hold0 l Z a0 hw b104 pb pt h111 OK111 P105_0 P105_2 hc139) e154 A104 (by rw [hml]; rfl) (hb hby at_90) (argsL := []) (rest := []) (lenOf pd6 rfl) rfl rfl (W := 0) (by first | exact Nat.le_refl _ | decide) (by decide) (by decide) (by decide) (by decide) ?_
        intro v155 T155 L155 X155 hQ155
        obtain ⟨rfl, N155q, e155⟩ := hQ155
        have N155 := Fr.app N154 N155q
        refine Go.istore X155 hx (hb hby at_93) (l' := #[.val (.long pt), .second, .val (.long pb), .second, .val (.long qc), .second, .val (.int pn), .val (.ref b_101), .val (.ref b102), .val (.ref b104), .val (.ref b106), .val (.ref b108), .val (.ref b110), .val (.int (1 : Int32)), .val (.int (0 : Int32)), .unset, .unset, .unset, .unset, .unset, .unset]) rfl (q := 95) rfl ?_
        refine Go.aload X155 hx (hb hby at_95) rfl rfl (q := 97) rfl ?_
        refine Go.virt X155 hx hZ hown (wd45 hw) (wd46 hw) (notFace_of_selects (args := #[]) (mvT hZ (wd48 hw))) (wd48 hw) (wd47 hw) (wd28 hw) (wd49 hw) (by decide) (hold1 l Z a0 hw b106 pb qc h111 OK111 P107_0 P107_2 hc141) e155 A106 (by rw [hml]; rfl) (hb hby at_97) (argsL := []) (rest := []) (lenOf pd6 rfl) rfl rfl (W := 0) (by first | exact Nat.le_refl _ | decide) (by decide) (by decide) (by decide) (by decide) ?_
        intro v156 T156 L156 X156 hQ156
        obtain ⟨rfl, N156q, e156⟩ := hQ156
        have N156 := Fr.app N155 N156q
        refine Go.istore X156 hx (hb hby at_100) (l' := #[.val (.long pt), .second, .val (.long pb), .second, .val (.long qc), .second, .val (.int pn), .val (.ref b_101), .val (.ref b102), .val (.ref b104), .val (.ref b106), .val (.ref b108), .val (.ref b110), .val (.int (1 : Int32)), .val (.int (0 : Int32)), .val (.int (1 : Int32)), .unset, .unset, .unset, .unset, .unset]) rfl (q := 102) rfl ?_
        refine Go.aload X156 hx (hb hby at_102) rfl rfl (q := 104) rfl ?_
        refine Go.virt X156 hx hZ hown (wd45 hw) (wd46 hw) (notFace_of_selects (args := #[]) (mvT hZ (wd48 hw))) (wd48 hw) (wd47 hw) (wd28 hw) (wd49 hw) (by decide) (hold1 l Z a0 hw b108 pt qc h111 OK111 P109_0 P109_2 hk153) e156 A108 (by rw [hml]; rfl) (hb hby at_104) (argsL := []) (rest := []) (lenOf pd6 rfl) rfl rfl (W := 0) (by first | exact Nat.le_refl _ | decide) (by decide) (by decide) (by decide) (by decide) ?_
        intro v157 T157 L157 X157 hQ157
        obtain ⟨rfl, N157q, e157⟩ := hQ157
        have N157 := Fr.app N156 N157q
        refine Go.istore X157 hx (hb hby at_107) (l' := #[.val (.long pt), .second, .val (.long pb), .second, .val (.long qc), .second, .val (.int pn), .val (.ref b_101), .val (.ref b102), .val (.ref b104), .val (.ref b106), .val (.ref b108), .val (.ref b110), .val (.int (1 : Int32)), .val (.int (0 : Int32)), .val (.int (1 : Int32)), .val (.int (1 : Int32)), .unset, .unset, .unset, .unset]) rfl (q := 109) rfl ?_
        refine Go.aload X157 hx (hb hby at_109) rfl rfl (q := 111) rfl ?_
        refine Go.virt X157 hx hZ hown (wd45 hw) (wd46 hw) (notFace_of_selects (args := #[]) (mvT hZ (wd48 hw))) (wd48 hw) (wd47 hw) (wd28 hw) (wd49 hw) (by decide) (hold1 l Z a0 hw b110 pt ((-9223372036854775808 : Int64)) h111 OK111 P111_0 P111_2 hk112) e157 A110 (by rw [hml]; rfl) (hb hby at_111) (argsL := []) (rest := []) (lenOf pd6 rfl) rfl rfl (W := 0) (by first | exact Nat.le_refl _ | decide) (by decide) (by decide) (by decide) (by decide) ?_
        intro v158 T158 L158 X158 hQ158
        obtain ⟨rfl, N158q, e158⟩ := hQ158
        have N158 := Fr.app N157 N158q
        refine Go.istore X158 hx (hb hby at_114) (l' := #[.val (.long pt), .second, .val (.long pb), .second, .val (.long qc), .second, .val (.int pn), .val (.ref b_101), .val (.ref b102), .val (.ref b104), .val (.ref b106), .val (.ref b108), .val (.ref b110), .val (.int (1 : Int32)), .val (.int (0 : Int32)), .val (.int (1 : Int32)), .val (.int (1 : Int32)), .val (.int (1 : Int32)), .unset, .unset, .unset]) rfl (q := 116) rfl ?_
        refine Go.iload X158 hx (hb hby at_116) rfl (q := 118) rfl ?_
        refine Go.ifYes X158 hx (hb hby at_118) (by decide) (q := 126) (by decide) (by decide) ?_
        refine Go.iconst X158 hx (hb hby at_126) (r := (1 : Int32)) rfl (q := 127) rfl ?_
        refine Go.goto X158 hx (hb hby at_127) (q := 131) (by decide) (by decide) ?_
        refine Go.istore X158 hx (hb hby at_131) (l' := #[.val (.long pt), .second, .val (.long pb), .second, .val (.long qc), .second, .val (.int pn), .val (.ref b_101), .val (.ref b102), .val (.ref b104), .val (.ref b106), .val (.ref b108), .val (.ref b110), .val (.int (1 : Int32)), .val (.int (0 : Int32)), .val (.int (1 : Int32)), .val (.int (1 : Int32)), .val (.int (1 : Int32)), .val (.int (1 : Int32)), .unset, .unset]) rfl (q := 133) rfl ?_
        refine Go.iload X158 hx (hb hby at_133) rfl (q := 135) rfl ?_
        refine Go.ifNo X158 hx (hb hby at_135) (by decide) (q := 138) rfl ?_
        refine Go.iload X158 hx (hb hby at_138) rfl (q := 140) rfl ?_
        refine Go.ifYes X158 hx (hb hby at_140) (by decide) (q := 147) (by decide) (by decide) ?_
        refine Go.iconst X158 hx (hb hby at_147) (r := (0 : Int32)) rfl (q := 148) rfl ?_
        refine Go.lloadN X158 hx (hb hby at_148) rfl (q := 149) rfl ?_
        refine Go.lloadN X158 hx (hb hby at_149) rfl (q := 150) rfl ?_
        refine Go.lcmp X158 hx (hb hby at_150) rfl (q := 151) rfl ?_
        refine Go.ifYes X158 hx (hb hby at_151) (Jvm.Free.XT.ll_ne_t hk140) (q := 158) (by decide) (by decide) ?_
        refine Go.iconst X158 hx (hb hby at_158) (r := (0 : Int32)) rfl (q := 159) rfl ?_
        refine Go.icmpNo X158 hx (hb hby at_159) (by decide) (q := 162) rfl ?_
        refine Go.iconst X158 hx (hb hby at_162) (r := (1 : Int32)) rfl (q := 163) rfl ?_
        refine Go.goto X158 hx (hb hby at_163) (q := 167) (by decide) (by decide) ?_
        refine Go.istore X158 hx (hb hby at_167) (l' := #[.val (.long pt), .second, .val (.long pb), .second, .val (.long qc), .second, .val (.int pn), .val (.ref b_101), .val (.ref b102), .val (.ref b104), .val (.ref b106), .val (.ref b108), .val (.ref b110), .val (.int (1 : Int32)), .val (.int (0 : Int32)), .val (.int (1 : Int32)), .val (.int (1 : Int32)), .val (.int (1 : Int32)), .val (.int (1 : Int32)), .val (.int (1 : Int32)), .unset]) rfl (q := 169) rfl ?_
        refine Go.iload X158 hx (hb hby at_169) rfl (q := 171) rfl ?_
        refine Go.ifNo X158 hx (hb hby at_171) (by decide) (q := 174) rfl ?_
        refine Go.iload X158 hx (hb hby at_174) rfl (q := 176) rfl ?_
        refine Go.ifNo X158 hx (hb hby at_176) (by decide) (q := 179) rfl ?_
        refine Go.iload X158 hx (hb hby at_179) rfl (q := 181) rfl ?_
        refine Go.ifNo X158 hx (hb hby at_181) (by decide) (q := 184) rfl ?_
        refine Go.iconst X158 hx (hb hby at_184) (r := (1 : Int32)) rfl (q := 185) rfl ?_
        refine Go.goto X158 hx (hb hby at_185) (q := 189) (by decide) (by decide) ?_
        refine Go.istore X158 hx (hb hby at_189) (l' := #[.val (.long pt), .second, .val (.long pb), .second, .val (.long qc), .second, .val (.int pn), .val (.ref b_101), .val (.ref b102), .val (.ref b104), .val (.ref b106), .val (.ref b108), .val (.ref b110), .val (.int (1 : Int32)), .val (.int (0 : Int32)), .val (.int (1 : Int32)), .val (.int (1 : Int32)), .val (.int (1 : Int32)), .val (.int (1 : Int32)), .val (.int (1 : Int32)), .val (.int (1 : Int32))]) rfl (q := 191) rfl ?_
        refine Go.iload X158 hx (hb hby at_191) rfl (q := 193) rfl ?_
        refine Go.ifNo X158 hx (hb hby at_193) (by decide) (q := 196) rfl ?_
        refine Go.iload X158 hx (hb hby at_196) rfl (q := 198) rfl ?_
        refine Go.ifNo X158 hx (hb hby at_198) (by decide) (q := 201) rfl ?_
        refine Go.iload X158 hx (hb hby at_201) rfl (q := 203) rfl ?_
        refine Go.ifNo X158 hx (hb hby at_203) (by decide) (q := 206) rfl ?_
        refine Go.iload X158 hx (hb hby at_206) rfl (q := 208) rfl ?_
        refine Go.ifNo X158 hx (hb hby at_208) (by decide) (q := 211) rfl ?_
        refine Go.iconst X158 hx (hb hby at_211) (r := (1 : Int32)) rfl (q := 212) rfl ?_
        refine Go.goto X158 hx (hb hby at_212) (q := 216) (by decide) (by decide) ?_
        exact Go.retI X158 hx hret hlk (by simp) rfl (hb hby at_216) e158 (by decide) (by decide) ⟨rfl, N158⟩
    · have hk159 : pt = pb := own_eq hc113 hc139
      by_cases hc160 : pb < qc
      · by_cases hc161 : pt < qc
        · show Go pp ee below _ (T111.setTop (mkF mm 81 #[.val (.long pt), .second, .val (.long pb), .second, .val (.long qc), .second, .val (.int pn), .val (.ref b_101), .val (.ref b102), .val (.ref b104), .val (.ref b106), .val (.ref b108), .val (.ref b110), .unset, .unset, .unset, .unset, .unset, .unset, .unset, .unset] []))
          refine Go.aload X111 hx (hb hby at_81) rfl rfl (q := 83) rfl ?_
          refine Go.virt X111 hx hZ hown (wd45 hw) (wd46 hw) (notFace_of_selects (args := #[]) (mvT hZ (wd48 hw))) (wd48 hw) (wd47 hw) (wd28 hw) (wd49 hw) (by decide) (hold1 l Z a0 hw b102 pt pb h111 OK111 P103_0 P103_2 hc113) e111 A102 (by rw [hml]; rfl) (hb hby at_83) (argsL := []) (rest := []) (lenOf pd6 rfl) rfl rfl (W := 0) (by first | exact Nat.le_refl _ | decide) (by decide) (by decide) (by decide) (by decide) ?_
          intro v162 T162 L162 X162 hQ162
          obtain ⟨rfl, N162q, e162⟩ := hQ162
          have N162 := Fr.app N111 N162q
          refine Go.istore X162 hx (hb hby at_86) (l' := #[.val (.long pt), .second, .val (.long pb), .second, .val (.long qc), .second, .val (.int pn), .val (.ref b_101), .val (.ref b102), .val (.ref b104), .val (.ref b106), .val (.ref b108), .val (.ref b110), .val (.int (1 : Int32)), .unset, .unset, .unset, .unset, .unset, .unset, .unset]) rfl (q := 88) rfl ?_
          refine Go.aload X162 hx (hb hby at_88) rfl rfl (q := 90) rfl ?_
          refine Go.virt X162 hx hZ hown (wd45 hw) (wd46 hw) (notFace_of_selects (args := #[]) (mvT hZ (wd48 hw))) (wd48 hw) (wd47 hw) (wd28 hw) (wd49 hw) (by decide) (hold1 l Z a0 hw b104 pb pt h111 OK111 P105_0 P105_2 hc139) e162 A104 (by rw [hml]; rfl) (hb hby at_90) (argsL := []) (rest := []) (lenOf pd6 rfl) rfl rfl (W := 0) (by first | exact Nat.le_refl _ | decide) (by decide) (by decide) (by decide) (by decide) ?_
          intro v163 T163 L163 X163 hQ163
          obtain ⟨rfl, N163q, e163⟩ := hQ163
          have N163 := Fr.app N162 N163q
          refine Go.istore X163 hx (hb hby at_93) (l' := #[.val (.long pt), .second, .val (.long pb), .second, .val (.long qc), .second, .val (.int pn), .val (.ref b_101), .val (.ref b102), .val (.ref b104), .val (.ref b106), .val (.ref b108), .val (.ref b110), .val (.int (1 : Int32)), .val (.int (1 : Int32)), .unset, .unset, .unset, .unset, .unset, .unset]) rfl (q := 95) rfl ?_
          refine Go.aload X163 hx (hb hby at_95) rfl rfl (q := 97) rfl ?_
          refine Go.virt X163 hx hZ hown (wd45 hw) (wd46 hw) (notFace_of_selects (args := #[]) (mvT hZ (wd48 hw))) (wd48 hw) (wd47 hw) (wd28 hw) (wd49 hw) (by decide) (hold0 l Z a0 hw b106 pb qc h111 OK111 P107_0 P107_2 hc160) e163 A106 (by rw [hml]; rfl) (hb hby at_97) (argsL := []) (rest := []) (lenOf pd6 rfl) rfl rfl (W := 0) (by first | exact Nat.le_refl _ | decide) (by decide) (by decide) (by decide) (by decide) ?_
          intro v164 T164 L164 X164 hQ164
          obtain ⟨rfl, N164q, e164⟩ := hQ164
          have N164 := Fr.app N163 N164q
          refine Go.istore X164 hx (hb hby at_100) (l' := #[.val (.long pt), .second, .val (.long pb), .second, .val (.long qc), .second, .val (.int pn), .val (.ref b_101), .val (.ref b102), .val (.ref b104), .val (.ref b106), .val (.ref b108), .val (.ref b110), .val (.int (1 : Int32)), .val (.int (1 : Int32)), .val (.int (0 : Int32)), .unset, .unset, .unset, .unset, .unset]) rfl (q := 102) rfl ?_
          refine Go.aload X164 hx (hb hby at_102) rfl rfl (q := 104) rfl ?_
          refine Go.virt X164 hx hZ hown (wd45 hw) (wd46 hw) (notFace_of_selects (args := #[]) (mvT hZ (wd48 hw))) (wd48 hw) (wd47 hw) (wd28 hw) (wd49 hw) (by decide) (hold0 l Z a0 hw b108 pt qc h111 OK111 P109_0 P109_2 hc161) e164 A108 (by rw [hml]; rfl) (hb hby at_104) (argsL := []) (rest := []) (lenOf pd6 rfl) rfl rfl (W := 0) (by first | exact Nat.le_refl _ | decide) (by decide) (by decide) (by decide) (by decide) ?_
          intro v165 T165 L165 X165 hQ165
          obtain ⟨rfl, N165q, e165⟩ := hQ165
          have N165 := Fr.app N164 N165q
          refine Go.istore X165 hx (hb hby at_107) (l' := #[.val (.long pt), .second, .val (.long pb), .second, .val (.long qc), .second, .val (.int pn), .val (.ref b_101), .val (.ref b102), .val (.ref b104), .val (.ref b106), .val (.ref b108), .val (.ref b110), .val (.int (1 : Int32)), .val (.int (1 : Int32)), .val (.int (0 : Int32)), .val (.int (0 : Int32)), .unset, .unset, .unset, .unset]) rfl (q := 109) rfl ?_
          refine Go.aload X165 hx (hb hby at_109) rfl rfl (q := 111) rfl ?_
          refine Go.virt X165 hx hZ hown (wd45 hw) (wd46 hw) (notFace_of_selects (args := #[]) (mvT hZ (wd48 hw))) (wd48 hw) (wd47 hw) (wd28 hw) (wd49 hw) (by decide) (hold1 l Z a0 hw b110 pt ((-9223372036854775808 : Int64)) h111 OK111 P111_0 P111_2 hk112) e165 A110 (by rw [hml]; rfl) (hb hby at_111) (argsL := []) (rest := []) (lenOf pd6 rfl) rfl rfl (W := 0) (by first | exact Nat.le_refl _ | decide) (by decide) (by decide) (by decide) (by decide) ?_
          intro v166 T166 L166 X166 hQ166
          obtain ⟨rfl, N166q, e166⟩ := hQ166
          have N166 := Fr.app N165 N166q
          refine Go.istore X166 hx (hb hby at_114) (l' := #[.val (.long pt), .second, .val (.long pb), .second, .val (.long qc), .second, .val (.int pn), .val (.ref b_101), .val (.ref b102), .val (.ref b104), .val (.ref b106), .val (.ref b108), .val (.ref b110), .val (.int (1 : Int32)), .val (.int (1 : Int32)), .val (.int (0 : Int32)), .val (.int (0 : Int32)), .val (.int (1 : Int32)), .unset, .unset, .unset]) rfl (q := 116) rfl ?_
          refine Go.iload X166 hx (hb hby at_116) rfl (q := 118) rfl ?_
          refine Go.ifYes X166 hx (hb hby at_118) (by decide) (q := 126) (by decide) (by decide) ?_
          refine Go.iconst X166 hx (hb hby at_126) (r := (1 : Int32)) rfl (q := 127) rfl ?_
          refine Go.goto X166 hx (hb hby at_127) (q := 131) (by decide) (by decide) ?_
          refine Go.istore X166 hx (hb hby at_131) (l' := #[.val (.long pt), .second, .val (.long pb), .second, .val (.long qc), .second, .val (.int pn), .val (.ref b_101), .val (.ref b102), .val (.ref b104), .val (.ref b106), .val (.ref b108), .val (.ref b110), .val (.int (1 : Int32)), .val (.int (1 : Int32)), .val (.int (0 : Int32)), .val (.int (0 : Int32)), .val (.int (1 : Int32)), .val (.int (1 : Int32)), .unset, .unset]) rfl (q := 133) rfl ?_
          refine Go.iload X166 hx (hb hby at_133) rfl (q := 135) rfl ?_
          refine Go.ifNo X166 hx (hb hby at_135) (by decide) (q := 138) rfl ?_
          refine Go.iload X166 hx (hb hby at_138) rfl (q := 140) rfl ?_
          refine Go.ifNo X166 hx (hb hby at_140) (by decide) (q := 143) rfl ?_
          refine Go.iconst X166 hx (hb hby at_143) (r := (1 : Int32)) rfl (q := 144) rfl ?_
          refine Go.goto X166 hx (hb hby at_144) (q := 148) (by decide) (by decide) ?_
          refine Go.lloadN X166 hx (hb hby at_148) rfl (q := 149) rfl ?_
          refine Go.lloadN X166 hx (hb hby at_149) rfl (q := 150) rfl ?_
          refine Go.lcmp X166 hx (hb hby at_150) rfl (q := 151) rfl ?_
          refine Go.ifNo X166 hx (hb hby at_151) (Jvm.Free.XT.ll_ne_f hk159) (q := 154) rfl ?_
          refine Go.iconst X166 hx (hb hby at_154) (r := (1 : Int32)) rfl (q := 155) rfl ?_
          refine Go.goto X166 hx (hb hby at_155) (q := 159) (by decide) (by decide) ?_
          refine Go.icmpNo X166 hx (hb hby at_159) (by decide) (q := 162) rfl ?_
          refine Go.iconst X166 hx (hb hby at_162) (r := (1 : Int32)) rfl (q := 163) rfl ?_
          refine Go.goto X166 hx (hb hby at_163) (q := 167) (by decide) (by decide) ?_
          refine Go.istore X166 hx (hb hby at_167) (l' := #[.val (.long pt), .second, .val (.long pb), .second, .val (.long qc), .second, .val (.int pn), .val (.ref b_101), .val (.ref b102), .val (.ref b104), .val (.ref b106), .val (.ref b108), .val (.ref b110), .val (.int (1 : Int32)), .val (.int (1 : Int32)), .val (.int (0 : Int32)), .val (.int (0 : Int32)), .val (.int (1 : Int32)), .val (.int (1 : Int32)), .val (.int (1 : Int32)), .unset]) rfl (q := 169) rfl ?_
          refine Go.iload X166 hx (hb hby at_169) rfl (q := 171) rfl ?_
          refine Go.ifNo X166 hx (hb hby at_171) (by decide) (q := 174) rfl ?_
          refine Go.iload X166 hx (hb hby at_174) rfl (q := 176) rfl ?_
          refine Go.ifYes X166 hx (hb hby at_176) (by decide) (q := 184) (by decide) (by decide) ?_
          refine Go.iconst X166 hx (hb hby at_184) (r := (1 : Int32)) rfl (q := 185) rfl ?_
          refine Go.goto X166 hx (hb hby at_185) (q := 189) (by decide) (by decide) ?_
          refine Go.istore X166 hx (hb hby at_189) (l' := #[.val (.long pt), .second, .val (.long pb), .second, .val (.long qc), .second, .val (.int pn), .val (.ref b_101), .val (.ref b102), .val (.ref b104), .val (.ref b106), .val (.ref b108), .val (.ref b110), .val (.int (1 : Int32)), .val (.int (1 : Int32)), .val (.int (0 : Int32)), .val (.int (0 : Int32)), .val (.int (1 : Int32)), .val (.int (1 : Int32)), .val (.int (1 : Int32)), .val (.int (1 : Int32))]) rfl (q := 191) rfl ?_
          refine Go.iload X166 hx (hb hby at_191) rfl (q := 193) rfl ?_
          refine Go.ifNo X166 hx (hb hby at_193) (by decide) (q := 196) rfl ?_
          refine Go.iload X166 hx (hb hby at_196) rfl (q := 198) rfl ?_
          refine Go.ifNo X166 hx (hb hby at_198) (by decide) (q := 201) rfl ?_
          refine Go.iload X166 hx (hb hby at_201) rfl (q := 203) rfl ?_
          refine Go.ifNo X166 hx (hb hby at_203) (by decide) (q := 206) rfl ?_
          refine Go.iload X166 hx (hb hby at_206) rfl (q := 208) rfl ?_
          refine Go.ifNo X166 hx (hb hby at_208) (by decide) (q := 211) rfl ?_
          refine Go.iconst X166 hx (hb hby at_211) (r := (1 : Int32)) rfl (q := 212) rfl ?_
          refine Go.goto X166 hx (hb hby at_212) (q := 216) (by decide) (by decide) ?_
          exact Go.retI X166 hx hret hlk (by simp) rfl (hb hby at_216) e166 (by decide) (by decide) ⟨rfl, N166⟩
        · show Go pp ee below _ (T111.setTop (mkF mm 81 #[.val (.long pt), .second, .val (.long pb), .second, .val (.long qc), .second, .val (.int pn), .val (.ref b_101), .val (.ref b102), .val (.ref b104), .val (.ref b106), .val (.ref b108), .val (.ref b110), .unset, .unset, .unset, .unset, .unset, .unset, .unset, .unset] []))
          refine Go.aload X111 hx (hb hby at_81) rfl rfl (q := 83) rfl ?_
          refine Go.virt X111 hx hZ hown (wd45 hw) (wd46 hw) (notFace_of_selects (args := #[]) (mvT hZ (wd48 hw))) (wd48 hw) (wd47 hw) (wd28 hw) (wd49 hw) (by decide) (hold1 l Z a0 hw b102 pt pb h111 OK111 P103_0 P103_2 hc113) e111 A102 (by rw [hml]; rfl) (hb hby at_83) (argsL := []) (rest := []) (lenOf pd6 rfl) rfl rfl (W := 0) (by first | exact Nat.le_refl _ | decide) (by decide) (by decide) (by decide) (by decide) ?_
          intro v167 T167 L167 X167 hQ167
          obtain ⟨rfl, N167q, e167⟩ := hQ167
          have N167 := Fr.app N111 N167q
          refine Go.istore X167 hx (hb hby at_86) (l' := #[.val (.long pt), .second, .val (.long pb), .second, .val (.long qc), .second, .val (.int pn), .val (.ref b_101), .val (.ref b102), .val (.ref b104), .val (.ref b106), .val (.ref b108), .val (.ref b110), .val (.int (1 : Int32)), .unset, .unset, .unset, .unset, .unset, .unset, .unset]) rfl (q := 88) rfl ?_
          refine Go.aload X167 hx (hb hby at_88) rfl rfl (q := 90) rfl ?_
          refine Go.virt X167 hx hZ hown (wd45 hw) (wd46 hw) (notFace_of_selects (args := #[]) (mvT hZ (wd48 hw))) (wd48 hw) (wd47 hw) (wd28 hw) (wd49 hw) (by decide) (hold1 l Z a0 hw b104 pb pt h111 OK111 P105_0 P105_2 hc139) e167 A104 (by rw [hml]; rfl) (hb hby at_90) (argsL := []) (rest := []) (lenOf pd6 rfl) rfl rfl (W := 0) (by first | exact Nat.le_refl _ | decide) (by decide) (by decide) (by decide) (by decide) ?_
          intro v168 T168 L168 X168 hQ168
          obtain ⟨rfl, N168q, e168⟩ := hQ168
          have N168 := Fr.app N167 N168q
          refine Go.istore X168 hx (hb hby at_93) (l' := #[.val (.long pt), .second, .val (.long pb), .second, .val (.long qc), .second, .val (.int pn), .val (.ref b_101), .val (.ref b102), .val (.ref b104), .val (.ref b106), .val (.ref b108), .val (.ref b110), .val (.int (1 : Int32)), .val (.int (1 : Int32)), .unset, .unset, .unset, .unset, .unset, .unset]) rfl (q := 95) rfl ?_
          refine Go.aload X168 hx (hb hby at_95) rfl rfl (q := 97) rfl ?_
          refine Go.virt X168 hx hZ hown (wd45 hw) (wd46 hw) (notFace_of_selects (args := #[]) (mvT hZ (wd48 hw))) (wd48 hw) (wd47 hw) (wd28 hw) (wd49 hw) (by decide) (hold0 l Z a0 hw b106 pb qc h111 OK111 P107_0 P107_2 hc160) e168 A106 (by rw [hml]; rfl) (hb hby at_97) (argsL := []) (rest := []) (lenOf pd6 rfl) rfl rfl (W := 0) (by first | exact Nat.le_refl _ | decide) (by decide) (by decide) (by decide) (by decide) ?_
          intro v169 T169 L169 X169 hQ169
          obtain ⟨rfl, N169q, e169⟩ := hQ169
          have N169 := Fr.app N168 N169q
          refine Go.istore X169 hx (hb hby at_100) (l' := #[.val (.long pt), .second, .val (.long pb), .second, .val (.long qc), .second, .val (.int pn), .val (.ref b_101), .val (.ref b102), .val (.ref b104), .val (.ref b106), .val (.ref b108), .val (.ref b110), .val (.int (1 : Int32)), .val (.int (1 : Int32)), .val (.int (0 : Int32)), .unset, .unset, .unset, .unset, .unset]) rfl (q := 102) rfl ?_
          refine Go.aload X169 hx (hb hby at_102) rfl rfl (q := 104) rfl ?_
          refine Go.virt X169 hx hZ hown (wd45 hw) (wd46 hw) (notFace_of_selects (args := #[]) (mvT hZ (wd48 hw))) (wd48 hw) (wd47 hw) (wd28 hw) (wd49 hw) (by decide) (hold1 l Z a0 hw b108 pt qc h111 OK111 P109_0 P109_2 hc161) e169 A108 (by rw [hml]; rfl) (hb hby at_104) (argsL := []) (rest := []) (lenOf pd6 rfl) rfl rfl (W := 0) (by first | exact Nat.le_refl _ | decide) (by decide) (by decide) (by decide) (by decide) ?_
          intro v170 T170 L170 X170 hQ170
          obtain ⟨rfl, N170q, e170⟩ := hQ170
          have N170 := Fr.app N169 N170q
          refine Go.istore X170 hx (hb hby at_107) (l' := #[.val (.long pt), .second, .val (.long pb), .second, .val (.long qc), .second, .val (.int pn), .val (.ref b_101), .val (.ref b102), .val (.ref b104), .val (.ref b106), .val (.ref b108), .val (.ref b110), .val (.int (1 : Int32)), .val (.int (1 : Int32)), .val (.int (0 : Int32)), .val (.int (1 : Int32)), .unset, .unset, .unset, .unset]) rfl (q := 109) rfl ?_
          refine Go.aload X170 hx (hb hby at_109) rfl rfl (q := 111) rfl ?_
          refine Go.virt X170 hx hZ hown (wd45 hw) (wd46 hw) (notFace_of_selects (args := #[]) (mvT hZ (wd48 hw))) (wd48 hw) (wd47 hw) (wd28 hw) (wd49 hw) (by decide) (hold1 l Z a0 hw b110 pt ((-9223372036854775808 : Int64)) h111 OK111 P111_0 P111_2 hk112) e170 A110 (by rw [hml]; rfl) (hb hby at_111) (argsL := []) (rest := []) (lenOf pd6 rfl) rfl rfl (W := 0) (by first | exact Nat.le_refl _ | decide) (by decide) (by decide) (by decide) (by decide) ?_
          intro v171 T171 L171 X171 hQ171
          obtain ⟨rfl, N171q, e171⟩ := hQ171
          have N171 := Fr.app N170 N171q
          refine Go.istore X171 hx (hb hby at_114) (l' := #[.val (.long pt), .second, .val (.long pb), .second, .val (.long qc), .second, .val (.int pn), .val (.ref b_101), .val (.ref b102), .val (.ref b104), .val (.ref b106), .val (.ref b108), .val (.ref b110), .val (.int (1 : Int32)), .val (.int (1 : Int32)), .val (.int (0 : Int32)), .val (.int (1 : Int32)), .val (.int (1 : Int32)), .unset, .unset, .unset]) rfl (q := 116) rfl ?_
          refine Go.iload X171 hx (hb hby at_116) rfl (q := 118) rfl ?_
          refine Go.ifYes X171 hx (hb hby at_118) (by decide) (q := 126) (by decide) (by decide) ?_
          refine Go.iconst X171 hx (hb hby at_126) (r := (1 : Int32)) rfl (q := 127) rfl ?_
          refine Go.goto X171 hx (hb hby at_127) (q := 131) (by decide) (by decide) ?_
          refine Go.istore X171 hx (hb hby at_131) (l' := #[.val (.long pt), .second, .val (.long pb), .second, .val (.long qc), .second, .val (.int pn), .val (.ref b_101), .val (.ref b102), .val (.ref b104), .val (.ref b106), .val (.ref b108), .val (.ref b110), .val (.int (1 : Int32)), .val (.int (1 : Int32)), .val (.int (0 : Int32)), .val (.int (1 : Int32)), .val (.int (1 : Int32)), .val (.int (1 : Int32)), .unset, .unset]) rfl (q := 133) rfl ?_
          refine Go.iload X171 hx (hb hby at_133) rfl (q := 135) rfl ?_
          refine Go.ifNo X171 hx (hb hby at_135) (by decide) (q := 138) rfl ?_
          refine Go.iload X171 hx (hb hby at_138) rfl (q := 140) rfl ?_
          refine Go.ifNo X171 hx (hb hby at_140) (by decide) (q := 143) rfl ?_
          refine Go.iconst X171 hx (hb hby at_143) (r := (1 : Int32)) rfl (q := 144) rfl ?_
          refine Go.goto X171 hx (hb hby at_144) (q := 148) (by decide) (by decide) ?_
          refine Go.lloadN X171 hx (hb hby at_148) rfl (q := 149) rfl ?_
          refine Go.lloadN X171 hx (hb hby at_149) rfl (q := 150) rfl ?_
          refine Go.lcmp X171 hx (hb hby at_150) rfl (q := 151) rfl ?_
          refine Go.ifNo X171 hx (hb hby at_151) (Jvm.Free.XT.ll_ne_f hk159) (q := 154) rfl ?_
          refine Go.iconst X171 hx (hb hby at_154) (r := (1 : Int32)) rfl (q := 155) rfl ?_
          refine Go.goto X171 hx (hb hby at_155) (q := 159) (by decide) (by decide) ?_
          refine Go.icmpNo X171 hx (hb hby at_159) (by decide) (q := 162) rfl ?_
          refine Go.iconst X171 hx (hb hby at_162) (r := (1 : Int32)) rfl (q := 163) rfl ?_
          refine Go.goto X171 hx (hb hby at_163) (q := 167) (by decide) (by decide) ?_
          refine Go.istore X171 hx (hb hby at_167) (l' := #[.val (.long pt), .second, .val (.long pb), .second, .val (.long qc), .second, .val (.int pn), .val (.ref b_101), .val (.ref b102), .val (.ref b104), .val (.ref b106), .val (.ref b108), .val (.ref b110), .val (.int (1 : Int32)), .val (.int (1 : Int32)), .val (.int (0 : Int32)), .val (.int (1 : Int32)), .val (.int (1 : Int32)), .val (.int (1 : Int32)), .val (.int (1 : Int32)), .unset]) rfl (q := 169) rfl ?_
          refine Go.iload X171 hx (hb hby at_169) rfl (q := 171) rfl ?_
          refine Go.ifNo X171 hx (hb hby at_171) (by decide) (q := 174) rfl ?_
          refine Go.iload X171 hx (hb hby at_174) rfl (q := 176) rfl ?_
          refine Go.ifYes X171 hx (hb hby at_176) (by decide) (q := 184) (by decide) (by decide) ?_
          refine Go.iconst X171 hx (hb hby at_184) (r := (1 : Int32)) rfl (q := 185) rfl ?_
          refine Go.goto X171 hx (hb hby at_185) (q := 189) (by decide) (by decide) ?_
          refine Go.istore X171 hx (hb hby at_189) (l' := #[.val (.long pt), .second, .val (.long pb), .second, .val (.long qc), .second, .val (.int pn), .val (.ref b_101), .val (.ref b102), .val (.ref b104), .val (.ref b106), .val (.ref b108), .val (.ref b110), .val (.int (1 : Int32)), .val (.int (1 : Int32)), .val (.int (0 : Int32)), .val (.int (1 : Int32)), .val (.int (1 : Int32)), .val (.int (1 : Int32)), .val (.int (1 : Int32)), .val (.int (1 : Int32))]) rfl (q := 191) rfl ?_
          refine Go.iload X171 hx (hb hby at_191) rfl (q := 193) rfl ?_
          refine Go.ifNo X171 hx (hb hby at_193) (by decide) (q := 196) rfl ?_
          refine Go.iload X171 hx (hb hby at_196) rfl (q := 198) rfl ?_
          refine Go.ifNo X171 hx (hb hby at_198) (by decide) (q := 201) rfl ?_
          refine Go.iload X171 hx (hb hby at_201) rfl (q := 203) rfl ?_
          refine Go.ifNo X171 hx (hb hby at_203) (by decide) (q := 206) rfl ?_
          refine Go.iload X171 hx (hb hby at_206) rfl (q := 208) rfl ?_
          refine Go.ifNo X171 hx (hb hby at_208) (by decide) (q := 211) rfl ?_
          refine Go.iconst X171 hx (hb hby at_211) (r := (1 : Int32)) rfl (q := 212) rfl ?_
          refine Go.goto X171 hx (hb hby at_212) (q := 216) (by decide) (by decide) ?_
          exact Go.retI X171 hx hret hlk (by simp) rfl (hb hby at_216) e171 (by decide) (by decide) ⟨rfl, N171⟩
      · have hk172 : ¬ (pt < qc) := own_tr hc113 hc160
        show Go pp ee below _ (T111.setTop (mkF mm 81 #[.val (.long pt), .second, .val (.long pb), .second, .val (.long qc), .second, .val (.int pn), .val (.ref b_101), .val (.ref b102), .val (.ref b104), .val (.ref b106), .val (.ref b108), .val (.ref b110), .unset, .unset, .unset, .unset, .unset, .unset, .unset, .unset] []))
        refine Go.aload X111 hx (hb hby at_81) rfl rfl (q := 83) rfl ?_
        refine Go.virt X111 hx hZ hown (wd45 hw) (wd46 hw) (notFace_of_selects (args := #[]) (mvT hZ (wd48 hw))) (wd48 hw) (wd47 hw) (wd28 hw) (wd49 hw) (by decide) (hold1 l Z a0 hw b102 pt pb h111 OK111 P103_0 P103_2 hc113) e111 A102 (by rw [hml]; rfl) (hb hby at_83) (argsL := []) (rest := []) (lenOf pd6 rfl) rfl rfl (W := 0) (by first | exact Nat.le_refl _ | decide) (by decide) (by decide) (by decide) (by decide) ?_
        intro v173 T173 L173 X173 hQ173
        obtain ⟨rfl, N173q, e173⟩ := hQ173
        have N173 := Fr.app N111 N173q
        refine Go.istore X173 hx (hb hby at_86) (l' := #[.val (.long pt), .second, .val (.long pb), .second, .val (.long qc), .second, .val (.int pn), .val (.ref b_101), .val (.ref b102), .val (.ref b104), .val (.ref b106), .val (.ref b108), .val (.ref b110), .val (.int (1 : Int32)), .unset, .unset, .unset, .unset, .unset, .unset, .unset]) rfl (q := 88) rfl ?_
        refine Go.aload X173 hx (hb hby at_88) rfl rfl (q := 90) rfl ?_
        refine Go.virt X173 hx hZ hown (wd45 hw) (wd46 hw) (notFace_of_selects (args := #[]) (mvT hZ (wd48 hw))) (wd48 hw) (wd47 hw) (wd28 hw) (wd49 hw) (by decide) (hold1 l Z a0 hw b104 pb pt h111 OK111 P105_0 P105_2 hc139) e173 A104 (by rw [hml]; rfl) (hb hby at_90) (argsL := []) (rest := []) (lenOf pd6 rfl) rfl rfl (W := 0) (by first | exact Nat.le_refl _ | decide) (by decide) (by decide) (by decide) (by decide) ?_
        intro v174 T174 L174 X174 hQ174
        obtain ⟨rfl, N174q, e174⟩ := hQ174
        have N174 := Fr.app N173 N174q
        refine Go.istore X174 hx (hb hby at_93) (l' := #[.val (.long pt), .second, .val (.long pb), .second, .val (.long qc), .second, .val (.int pn), .val (.ref b_101), .val (.ref b102), .val (.ref b104), .val (.ref b106), .val (.ref b108), .val (.ref b110), .val (.int (1 : Int32)), .val (.int (1 : Int32)), .unset, .unset, .unset, .unset, .unset, .unset]) rfl (q := 95) rfl ?_
        refine Go.aload X174 hx (hb hby at_95) rfl rfl (q := 97) rfl ?_
        refine Go.virt X174 hx hZ hown (wd45 hw) (wd46 hw) (notFace_of_selects (args := #[]) (mvT hZ (wd48 hw))) (wd48 hw) (wd47 hw) (wd28 hw) (wd49 hw) (by decide) (hold1 l Z a0 hw b106 pb qc h111 OK111 P107_0 P107_2 hc160) e174 A106 (by rw [hml]; rfl) (hb hby at_97) (argsL := []) (rest := []) (lenOf pd6 rfl) rfl rfl (W := 0) (by first | exact Nat.le_refl _ | decide) (by decide) (by decide) (by decide) (by decide) ?_
        intro v175 T175 L175 X175 hQ175
        obtain ⟨rfl, N175q, e175⟩ := hQ175
        have N175 := Fr.app N174 N175q
        refine Go.istore X175 hx (hb hby at_100) (l' := #[.val (.long pt), .second, .val (.long pb), .second, .val (.long qc), .second, .val (.int pn), .val (.ref b_101), .val (.ref b102), .val (.ref b104), .val (.ref b106), .val (.ref b108), .val (.ref b110), .val (.int (1 : Int32)), .val (.int (1 : Int32)), .val (.int (1 : Int32)), .unset, .unset, .unset, .unset, .unset]) rfl (q := 102) rfl ?_
        refine Go.aload X175 hx (hb hby at_102) rfl rfl (q := 104) rfl ?_
        refine Go.virt X175 hx hZ hown (wd45 hw) (wd46 hw) (notFace_of_selects (args := #[]) (mvT hZ (wd48 hw))) (wd48 hw) (wd47 hw) (wd28 hw) (wd49 hw) (by decide) (hold1 l Z a0 hw b108 pt qc h111 OK111 P109_0 P109_2 hk172) e175 A108 (by rw [hml]; rfl) (hb hby at_104) (argsL := []) (rest := []) (lenOf pd6 rfl) rfl rfl (W := 0) (by first | exact Nat.le_refl _ | decide) (by decide) (by decide) (by decide) (by decide) ?_
        intro v176 T176 L176 X176 hQ176
        obtain ⟨rfl, N176q, e176⟩ := hQ176
        have N176 := Fr.app N175 N176q
        refine Go.istore X176 hx (hb hby at_107) (l' := #[.val (.long pt), .second, .val (.long pb), .second, .val (.long qc), .second, .val (.int pn), .val (.ref b_101), .val (.ref b102), .val (.ref b104), .val (.ref b106), .val (.ref b108), .val (.ref b110), .val (.int (1 : Int32)), .val (.int (1 : Int32)), .val (.int (1 : Int32)), .val (.int (1 : Int32)), .unset, .unset, .unset, .unset]) rfl (q := 109) rfl ?_
        refine Go.aload X176 hx (hb hby at_109) rfl rfl (q := 111) rfl ?_
        refine Go.virt X176 hx hZ hown (wd45 hw) (wd46 hw) (notFace_of_selects (args := #[]) (mvT hZ (wd48 hw))) (wd48 hw) (wd47 hw) (wd28 hw) (wd49 hw) (by decide) (hold1 l Z a0 hw b110 pt ((-9223372036854775808 : Int64)) h111 OK111 P111_0 P111_2 hk112) e176 A110 (by rw [hml]; rfl) (hb hby at_111) (argsL := []) (rest := []) (lenOf pd6 rfl) rfl rfl (W := 0) (by first | exact Nat.le_refl _ | decide) (by decide) (by decide) (by decide) (by decide) ?_
        intro v177 T177 L177 X177 hQ177
        obtain ⟨rfl, N177q, e177⟩ := hQ177
        have N177 := Fr.app N176 N177q
        refine Go.istore X177 hx (hb hby at_114) (l' := #[.val (.long pt), .second, .val (.long pb), .second, .val (.long qc), .second, .val (.int pn), .val (.ref b_101), .val (.ref b102), .val (.ref b104), .val (.ref b106), .val (.ref b108), .val (.ref b110), .val (.int (1 : Int32)), .val (.int (1 : Int32)), .val (.int (1 : Int32)), .val (.int (1 : Int32)), .val (.int (1 : Int32)), .unset, .unset, .unset]) rfl (q := 116) rfl ?_
        refine Go.iload X177 hx (hb hby at_116) rfl (q := 118) rfl ?_
        refine Go.ifYes X177 hx (hb hby at_118) (by decide) (q := 126) (by decide) (by decide) ?_
        refine Go.iconst X177 hx (hb hby at_126) (r := (1 : Int32)) rfl (q := 127) rfl ?_
        refine Go.goto X177 hx (hb hby at_127) (q := 131) (by decide) (by decide) ?_
        refine Go.istore X177 hx (hb hby at_131) (l' := #[.val (.long pt), .second, .val (.long pb), .second, .val (.long qc), .second, .val (.int pn), .val (.ref b_101), .val (.ref b102), .val (.ref b104), .val (.ref b106), .val (.ref b108), .val (.ref b110), .val (.int (1 : Int32)), .val (.int (1 : Int32)), .val (.int (1 : Int32)), .val (.int (1 : Int32)), .val (.int (1 : Int32)), .val (.int (1 : Int32)), .unset, .unset]) rfl (q := 133) rfl ?_
        refine Go.iload X177 hx (hb hby at_133) rfl (q := 135) rfl ?_
        refine Go.ifNo X177 hx (hb hby at_135) (by decide) (q := 138) rfl ?_
        refine Go.iload X177 hx (hb hby at_138) rfl (q := 140) rfl ?_
        refine Go.ifNo X177 hx (hb hby at_140) (by decide) (q := 143) rfl ?_
        refine Go.iconst X177 hx (hb hby at_143) (r := (1 : Int32)) rfl (q := 144) rfl ?_
        refine Go.goto X177 hx (hb hby at_144) (q := 148) (by decide) (by decide) ?_
        refine Go.lloadN X177 hx (hb hby at_148) rfl (q := 149) rfl ?_
        refine Go.lloadN X177 hx (hb hby at_149) rfl (q := 150) rfl ?_
        refine Go.lcmp X177 hx (hb hby at_150) rfl (q := 151) rfl ?_
        refine Go.ifNo X177 hx (hb hby at_151) (Jvm.Free.XT.ll_ne_f hk159) (q := 154) rfl ?_
        refine Go.iconst X177 hx (hb hby at_154) (r := (1 : Int32)) rfl (q := 155) rfl ?_
        refine Go.goto X177 hx (hb hby at_155) (q := 159) (by decide) (by decide) ?_
        refine Go.icmpNo X177 hx (hb hby at_159) (by decide) (q := 162) rfl ?_
        refine Go.iconst X177 hx (hb hby at_162) (r := (1 : Int32)) rfl (q := 163) rfl ?_
        refine Go.goto X177 hx (hb hby at_163) (q := 167) (by decide) (by decide) ?_
        refine Go.istore X177 hx (hb hby at_167) (l' := #[.val (.long pt), .second, .val (.long pb), .second, .val (.long qc), .second, .val (.int pn), .val (.ref b_101), .val (.ref b102), .val (.ref b104), .val (.ref b106), .val (.ref b108), .val (.ref b110), .val (.int (1 : Int32)), .val (.int (1 : Int32)), .val (.int (1 : Int32)), .val (.int (1 : Int32)), .val (.int (1 : Int32)), .val (.int (1 : Int32)), .val (.int (1 : Int32)), .unset]) rfl (q := 169) rfl ?_
        refine Go.iload X177 hx (hb hby at_169) rfl (q := 171) rfl ?_
        refine Go.ifNo X177 hx (hb hby at_171) (by decide) (q := 174) rfl ?_
        refine Go.iload X177 hx (hb hby at_174) rfl (q := 176) rfl ?_
        refine Go.ifNo X177 hx (hb hby at_176) (by decide) (q := 179) rfl ?_
        refine Go.iload X177 hx (hb hby at_179) rfl (q := 181) rfl ?_
        refine Go.ifNo X177 hx (hb hby at_181) (by decide) (q := 184) rfl ?_
        refine Go.iconst X177 hx (hb hby at_184) (r := (1 : Int32)) rfl (q := 185) rfl ?_
        refine Go.goto X177 hx (hb hby at_185) (q := 189) (by decide) (by decide) ?_
        refine Go.istore X177 hx (hb hby at_189) (l' := #[.val (.long pt), .second, .val (.long pb), .second, .val (.long qc), .second, .val (.int pn), .val (.ref b_101), .val (.ref b102), .val (.ref b104), .val (.ref b106), .val (.ref b108), .val (.ref b110), .val (.int (1 : Int32)), .val (.int (1 : Int32)), .val (.int (1 : Int32)), .val (.int (1 : Int32)), .val (.int (1 : Int32)), .val (.int (1 : Int32)), .val (.int (1 : Int32)), .val (.int (1 : Int32))]) rfl (q := 191) rfl ?_
        refine Go.iload X177 hx (hb hby at_191) rfl (q := 193) rfl ?_
        refine Go.ifNo X177 hx (hb hby at_193) (by decide) (q := 196) rfl ?_
        refine Go.iload X177 hx (hb hby at_196) rfl (q := 198) rfl ?_
        refine Go.ifNo X177 hx (hb hby at_198) (by decide) (q := 201) rfl ?_
        refine Go.iload X177 hx (hb hby at_201) rfl (q := 203) rfl ?_
        refine Go.ifNo X177 hx (hb hby at_203) (by decide) (q := 206) rfl ?_
        refine Go.iload X177 hx (hb hby at_206) rfl (q := 208) rfl ?_
        refine Go.ifNo X177 hx (hb hby at_208) (by decide) (q := 211) rfl ?_
        refine Go.iconst X177 hx (hb hby at_211) (r := (1 : Int32)) rfl (q := 212) rfl ?_
        refine Go.goto X177 hx (hb hby at_212) (q := 216) (by decide) (by decide) ?_
        exact Go.retI X177 hx hret hlk (by simp) rfl (hb hby at_216) e177 (by decide) (by decide) ⟨rfl, N177⟩
set_option maxRecDepth 65536 in
set_option maxHeartbeats 40000000 in
theorem comes_1 {Post : Tables → Env → Array Value → State → Outcome → State → Prop} (hpost : ∀ tb e args s v u, (limb_1_1.after args s (.returned v) u = true ∧ limb_1_2.after args s (.returned v) u = true ∧ True) → FrameEnd s (.returned v) u (Jvm.fieldLocs frame_1_writes args s ++ Jvm.arrayLocs frame_1_arrays args s ++ Jvm.staticLocs frame_1_statics s) 24 128 → Post tb e args s (.returned v) u) :
    ArmFor flags0 classFile x code maxLocals ret World_1 tables_1 room_1 Calls_1 rest_1 Pre_1 Post := by
  intro l hfl _ _ p e ha hc hk s m args below hf hA hF happ hP
  obtain ⟨hcalls, hrest, hpre⟩ := hP
  obtain ⟨-, -, -, hnamed, -, -, -, hat⟩ := (Spec.applies_iff hf).mp happ
  obtain ⟨hg, hn⟩ := and_e (Cond.before_iff.mp (show (Jvm.Cond.and given_1 narrow_1).before args s = true from hpre))
  obtain ⟨ga1, gb1⟩ := and_e hg
  obtain ⟨ga2, gb2⟩ := and_e gb1
  obtain ⟨ga3, gb3⟩ := and_e gb2
  obtain ⟨ga4, gb4⟩ := and_e gb3
  obtain ⟨w0, w1, w2, w3, rfl⟩ : ∃ w0 w1 w2 w3 : Value, args = #[w0, w1, w2, w3] := by
    have hs : args.size = 4 := by simpa [Cond.value, given_1] using ga1
    obtain ⟨L⟩ := args
    match L, hs with
    | [w0, w1, w2, w3], _ => exact ⟨w0, w1, w2, w3, rfl⟩
  have hw := fun d (hd : d ∈ tables_1) => atoms_spec (ws := Jvm.Cond.code x code maxLocals ret :: tables_1) hat d (List.mem_cons_of_mem _ hd)
  have hfit : Fit s := fun {y c} hc i hi => by
    obtain ⟨ha, rfl⟩ := Array.getElem?_eq_some_iff.mp hc
    have q := List.all_eq_true.mp ((Array.all_eq_true_iff_forall_mem.mp hF) _ (Array.getElem_mem ha)) i (List.mem_range.mpr hi)
    simpa [Array.getElem?_eq_getElem hi] using q
  obtain ⟨hsets, hown0⟩ := atoms_of _ (rest_1_c_eq ▸ (show rest_1_c.before _ s = true from hrest))
  have hr0 := Cond.before_iff.mp hown0
  obtain ⟨i0, ei0⟩ := isL_v ga2
  obtain rfl : w0 = (.long i0) := Option.some.inj ei0
  obtain ⟨i1, ei1⟩ := isL_v ga3
  obtain rfl : w1 = (.long i1) := Option.some.inj ei1
  obtain ⟨i2, ei2⟩ := isL_v ga4
  obtain rfl : w2 = (.long i2) := Option.some.inj ei2
  obtain ⟨i3, ei3⟩ := is_v gb4
  obtain rfl : w3 = (.int i3) := Option.some.inj ei3
  obtain ⟨cs, ecs, SCS⟩ := sta_int (hsets _ (List.mem_of_getElem? (i := 0) rfl)) (hsets _ (List.mem_of_getElem? (i := 1) rfl))
  have hcs := ne_int ecs (hsets _ (List.mem_of_getElem? (i := 2) rfl))
  obtain ⟨n, o, h1, h2, h3, _, L, rfl, ⟨rfl, N⟩, hq⟩ := law0 l s _ hw i0 i1 i2 i3 cs s.heap ⟨Nat.le_refl _, fun _ _ q => q⟩ SCS hcs p e ha hc hk s m _ below hf ((Spec.applies_iff_loose hf).mp happ).1 ⟨rfl, State.Warmed39.refl s, rfl⟩ trivial
  refine ⟨n, _, h1, h2, h3, hpost _ _ _ _ _ _ ⟨Cond.after_iff.mpr rfl, Cond.after_iff.mpr (eq_i res_at (Term.int_eval (1)) rfl), trivial⟩ ⟨hq.1, hq.2.1, (hq.2.2.sift fun y hy => Or.inr (N y hy)).mono (by decide) (by decide)⟩⟩
theorem main_1_1 : Claimed_1_1 := comes_1 fun _ _ _ _ _ _ h hF => ⟨h.1, hF⟩
theorem main_1_2 : Claimed_1_2 := comes_1 fun _ _ _ _ _ _ h hF => ⟨h.2.1, hF⟩
end Jvm.Pilot.@@N@@
namespace Jvm.Pilot.@@N@@
open Jvm Jvm.ClassFile Sem Op Lib Jvm.Free Jvm.Stand Jvm.Pilot.@@N@@.Jvm.D
/-! MADE BY PROGRAM (witnessworld.py) out of the Statement's table words and the real class files: 19 classes; the members and pool entries that the words name. The judged class is class 1, her method 1. -/
namespace start1
open Jvm.ClassFile
def u (s : String) : CpInfo := .utf8 (stringToUtf16 s)
/-- a pool by its gaps: so many unusable entries, then the entry; so many at the end -/
def gap : Nat → List CpInfo → List CpInfo
  | 0, r => r
  | n + 1, r => .unusable :: gap n r
def poolList (es : List (Nat × CpInfo)) (last : Nat) : List CpInfo := es.foldr (fun e r => gap e.1 (e.2 :: r)) (gap last [])
def pool (es : List (Nat × CpInfo)) (last : Nat) : Array CpInfo := ⟨poolList es last⟩
def fileOf (pool : Array CpInfo) (this : Nat) (attrs : Array Attribute := #[]) (ms : Array MethodInfo := #[]) (fl : Nat := 33) (sup : Nat := 0) (ifs : Array Nat := #[]) (fds : Array FieldInfo := #[]) : ClassFile where
  minorVersion := 0
  majorVersion := 65
  constantPool := pool
  accessFlags := fl
  thisClass := this
  superClass := sup
  interfaces := ifs
  fields := fds
  methods := ms
  attributes := attrs
def plain (name : String) (sup : Option ClassId) : Class where
  name := name
  kind := .ordinary
  loader := none
  accessFlags := 33
  super := sup
  interfaces := #[]
  cf := none
  fields := #[]
  methods := #[]
  instanceTypes := #[]
  staticTypes := #[]
  resolved := #[]
  callSites := []
  init := .initialized
  statics := none
  mirror := none

def pool0 : Array CpInfo := pool [(5, u "<init>"), (0, u "()V"), (1, .class_ 10), (1, u "java/lang/Object")] 113

def k0c0 : Code := { maxStack := 0, maxLocals := 1, code := object_method_1_code, exceptionTable := #[], attributes := #[] }
def k0m0 : Method := { name := "<init>", desc := "()V", sig := { parameters := [], returnType := none }, accessFlags := 1, code := some k0c0 }
/-- java/lang/Object -/
def k0 : Class := { plain "java/lang/Object" none with
  accessFlags := 33
  interfaces := #[]
  cf := some (fileOf pool0 8 #[] #[{ accessFlags := 1, nameIndex := 5, descriptorIndex := 6, attributes := #[] }] 33 0 #[] #[])
  fields := #[]
  methods := #[k0m0]
  instanceTypes := #[]
  staticTypes := #[]
  resolved := Array.replicate 124 none
  statics := none }

def pool1 : Array CpInfo := pool [(2, .class_ 4), (1, u "java/lang/Object"), (0, u "<init>"), (0, u "()V"), (0, .methodref 8 9), (0, .class_ 10), (0, .nameAndType 11 12), (0, u "java/lang/String"), (0, u "valueOf"), (0, u "(C)Ljava/lang/String;"), (0, .class_ 14), (0, u "com/example/stampwise/stampwise/Comparison"), (0, .methodref 13 16), (0, .nameAndType 5 17), (0, u "(JLjava/lang/String;J)V"), (2, .long 9223372036854775808), (1, .methodref 13 23), (0, .nameAndType 24 25), (0, u "holds"), (0, u "()Z"), (0, .class_ 27), (0, u "com/example/stampwise/stampwise/ComparisonHoldsPinLaw"), (2, u "law"), (0, u "(JJJI)Z")] 3

def k1m0 : Method := { name := "<init>", desc := "()V", sig := { parameters := [], returnType := none }, accessFlags := 1, code := none }
def k1c1 : Code := { maxStack := 7, maxLocals := 21, code := code, exceptionTable := #[], attributes := #[] }
def k1m1 : Method := { name := "law", desc := "(JJJI)Z", sig := { parameters := [.long, .long, .long, .int], returnType := some .boolean }, accessFlags := 9, code := some k1c1 }
/-- com/example/stampwise/stampwise/ComparisonHoldsPinLaw -/
def k1 : Class := { plain "com/example/stampwise/stampwise/ComparisonHoldsPinLaw" (some 0) with
  accessFlags := 49
  interfaces := #[]
  cf := some (fileOf pool1 26 #[] #[{ accessFlags := 1, nameIndex := 5, descriptorIndex := 6, attributes := #[] }, { accessFlags := 9, nameIndex := 30, descriptorIndex := 31, attributes := #[] }] 49 2 #[] #[])
  fields := #[]
  methods := #[k1m0, k1m1]
  instanceTypes := #[]
  staticTypes := #[]
  resolved := Array.replicate 35 none
  statics := none }

def pool2 : Array CpInfo := pool [(1, .class_ 2), (0, u "java/io/Serializable"), (0, .class_ 4), (0, u "java/lang/Object")] 2

/-- java/io/Serializable -/
def k2 : Class := { plain "java/io/Serializable" (some 0) with
  accessFlags := 1537
  interfaces := #[]
  cf := some (fileOf pool2 1 #[] #[] 1537 3 #[] #[])
  fields := #[]
  methods := #[]
  instanceTypes := #[]
  staticTypes := #[]
  resolved := Array.replicate 7 none
  statics := none }

def pool3 : Array CpInfo := pool [(1, .class_ 2), (0, u "java/lang/Comparable"), (0, .class_ 4), (0, u "java/lang/Object")] 7

/-- java/lang/Comparable -/
def k3 : Class := { plain "java/lang/Comparable" (some 0) with
  accessFlags := 1537
  interfaces := #[]
  cf := some (fileOf pool3 1 #[] #[] 1537 3 #[] #[])
  fields := #[]
  methods := #[]
  instanceTypes := #[]
  staticTypes := #[]
  resolved := Array.replicate 12 none
  statics := none }

def pool4 : Array CpInfo := pool [(2, .class_ 4), (1, u "java/lang/CharSequence"), (42, .class_ 48), (0, u "java/lang/CharSequence$1CodePointIterator"), (10, .class_ 60), (0, u "java/lang/CharSequence$1CharIterator"), (5, .class_ 67), (0, u "java/lang/Object")] 63

/-- java/lang/CharSequence -/
def k4 : Class := { plain "java/lang/CharSequence" (some 0) with
  accessFlags := 1537
  interfaces := #[]
  cf := some (fileOf pool4 2 #[.nestMembers #[47, 59]] #[] 1537 66 #[] #[])
  fields := #[]
  methods := #[]
  instanceTypes := #[]
  staticTypes := #[]
  resolved := Array.replicate 131 none
  statics := none }

def pool5 : Array CpInfo := pool [(1, .class_ 2), (0, u "java/lang/constant/Constable"), (0, .class_ 4), (0, u "java/lang/Object")] 6

/-- java/lang/constant/Constable -/
def k5 : Class := { plain "java/lang/constant/Constable" (some 0) with
  accessFlags := 1537
  interfaces := #[]
  cf := some (fileOf pool5 1 #[] #[] 1537 3 #[] #[])
  fields := #[]
  methods := #[]
  instanceTypes := #[]
  staticTypes := #[]
  resolved := Array.replicate 11 none
  statics := none }

def pool6 : Array CpInfo := pool [(1, .class_ 2), (0, u "java/lang/constant/ConstantDesc"), (0, .class_ 4), (0, u "java/lang/Object")] 32

/-- java/lang/constant/ConstantDesc -/
def k6 : Class := { plain "java/lang/constant/ConstantDesc" (some 0) with
  accessFlags := 1537
  interfaces := #[]
  cf := some (fileOf pool6 1 #[] #[] 1537 3 #[] #[])
  fields := #[]
  methods := #[]
  instanceTypes := #[]
  staticTypes := #[]
  resolved := Array.replicate 37 none
  statics := none }

def pool7 : Array CpInfo := pool [(1, .methodref 2 3), (0, .class_ 4), (0, .nameAndType 5 6), (0, u "java/lang/Object"), (0, u "<init>"), (0, u "()V"), (2, .fieldref 10 11), (0, .class_ 12), (0, .nameAndType 13 14), (0, u "java/lang/String"), (0, u "value"), (0, u "[B"), (0, .fieldref 10 16), (0, .nameAndType 17 18), (0, u "coder"), (0, u "B"), (2, u "hash"), (0, u "I"), (2, u "hashIsZero"), (0, u "Z"), (11, .fieldref 10 39), (0, .nameAndType 40 26), (0, u "COMPACT_STRINGS"), (12, u "toBytes"), (53, .class_ 109), (1, u "java/lang/StringLatin1"), (99, .methodref 10 210), (0, .nameAndType 5 211), (0, u "([BB)V"), (157, u "(C)Z"), (205, .class_ 576), (0, u "java/lang/CharSequence"), (22, u "CASE_INSENSITIVE_ORDER"), (0, u "Ljava/util/Comparator;"), (181, u "valueOf"), (0, u "(C)Ljava/lang/String;"), (231, .methodref 107 1016), (0, .nameAndType 1017 369), (0, u "canEncode"), (0, .methodref 107 1019), (0, .nameAndType 53 1020), (0, u "(C)[B"), (80, u "serialPersistentFields"), (0, u "[Ljava/io/ObjectStreamField;"), (0, .class_ 1104), (0, u "java/lang/String$CaseInsensitiveComparator"), (1, .class_ 1107), (0, u "java/io/Serializable"), (0, .class_ 1109), (0, u "java/lang/Comparable"), (0, .class_ 1111), (0, u "java/lang/constant/Constable"), (0, .class_ 1113), (0, u "java/lang/constant/ConstantDesc"), (2, u "serialVersionUID"), (0, u "J"), (3, u "REPL"), (0, u "C"), (2, u "LATIN1"), (1, u "UTF16")] 323

def k7m0 : Method := { name := "<init>", desc := "()V", sig := { parameters := [], returnType := none }, accessFlags := 1, code := none }
def k7c1 : Code := { maxStack := 4, maxLocals := 1, code := jdk_42_method_139_code, exceptionTable := #[], attributes := #[] }
def k7m1 : Method := { name := "valueOf", desc := "(C)Ljava/lang/String;", sig := { parameters := [.char], returnType := some (.object "java/lang/String") }, accessFlags := 9, code := some k7c1 }
def k7c2 : Code := { maxStack := 2, maxLocals := 3, code := jdk_42_method_151_code, exceptionTable := #[], attributes := #[] }
def k7m2 : Method := { name := "<init>", desc := "([BB)V", sig := { parameters := [(.array .byte), .byte], returnType := none }, accessFlags := 0, code := some k7c2 }
/-- java/lang/String -/
def k7 : Class := { plain "java/lang/String" (some 0) with
  accessFlags := 49
  interfaces := #[2, 3, 4, 5, 6]
  cf := some (fileOf pool7 10 #[.nestMembers #[1103]] #[{ accessFlags := 1, nameIndex := 5, descriptorIndex := 6, attributes := #[] }, { accessFlags := 9, nameIndex := 782, descriptorIndex := 783, attributes := #[] }, { accessFlags := 0, nameIndex := 5, descriptorIndex := 211, attributes := #[] }] 49 2 #[1106, 1108, 575, 1110, 1112] #[{ accessFlags := 18, nameIndex := 13, descriptorIndex := 14, attributes := #[] }, { accessFlags := 18, nameIndex := 17, descriptorIndex := 18, attributes := #[] }, { accessFlags := 2, nameIndex := 21, descriptorIndex := 22, attributes := #[] }, { accessFlags := 2, nameIndex := 25, descriptorIndex := 26, attributes := #[] }, { accessFlags := 26, nameIndex := 1116, descriptorIndex := 1117, attributes := #[] }, { accessFlags := 24, nameIndex := 40, descriptorIndex := 26, attributes := #[] }, { accessFlags := 26, nameIndex := 1101, descriptorIndex := 1102, attributes := #[] }, { accessFlags := 26, nameIndex := 1121, descriptorIndex := 1122, attributes := #[] }, { accessFlags := 25, nameIndex := 599, descriptorIndex := 600, attributes := #[] }, { accessFlags := 24, nameIndex := 1125, descriptorIndex := 18, attributes := #[] }, { accessFlags := 24, nameIndex := 1127, descriptorIndex := 18, attributes := #[] }])
  fields := #[{ name := "value", type := (.array .byte), accessFlags := 18, slot := 0, constantValue := 0 }, { name := "coder", type := .byte, accessFlags := 18, slot := 1, constantValue := 0 }, { name := "hash", type := .int, accessFlags := 2, slot := 2, constantValue := 0 }, { name := "hashIsZero", type := .boolean, accessFlags := 2, slot := 3, constantValue := 0 }, { name := "serialVersionUID", type := .long, accessFlags := 26, slot := 0, constantValue := 0 }, { name := "COMPACT_STRINGS", type := .boolean, accessFlags := 24, slot := 1, constantValue := 0 }, { name := "serialPersistentFields", type := (.array (.object "java/io/ObjectStreamField")), accessFlags := 26, slot := 2, constantValue := 0 }, { name := "REPL", type := .char, accessFlags := 26, slot := 3, constantValue := 0 }, { name := "CASE_INSENSITIVE_ORDER", type := (.object "java/util/Comparator"), accessFlags := 25, slot := 4, constantValue := 0 }, { name := "LATIN1", type := .byte, accessFlags := 24, slot := 5, constantValue := 0 }, { name := "UTF16", type := .byte, accessFlags := 24, slot := 6, constantValue := 0 }]
  methods := #[k7m0, k7m1, k7m2]
  instanceTypes := #[(.array .byte), .byte, .int, .boolean]
  staticTypes := #[.long, .boolean, (.array (.object "java/io/ObjectStreamField")), .char, (.object "java/util/Comparator"), .byte, .byte]
  resolved := Array.replicate 1451 none
  statics := some 0 }

def pool8 : Array CpInfo := pool [(4, .class_ 6), (1, u "java/lang/Object"), (0, u "<init>"), (0, u "()V"), (5, .class_ 16), (1, u "java/lang/StringLatin1"), (73, u "canEncode"), (14, u "(C)Z"), (15, u "$assertionsDisabled"), (0, u "Z"), (98, .class_ 223), (1, u "java/lang/StringLatin1$LinesSpliterator"), (156, u "toBytes"), (1, u "(C)[B"), (7, .class_ 391), (0, u "java/lang/StringLatin1$CharsSpliterator")] 3

def k8m0 : Method := { name := "<init>", desc := "()V", sig := { parameters := [], returnType := none }, accessFlags := 0, code := none }
def k8c1 : Code := { maxStack := 2, maxLocals := 1, code := jdk_43_method_3_code, exceptionTable := #[], attributes := #[] }
def k8m1 : Method := { name := "canEncode", desc := "(C)Z", sig := { parameters := [.char], returnType := some .boolean }, accessFlags := 9, code := some k8c1 }
def k8c2 : Code := { maxStack := 4, maxLocals := 1, code := jdk_43_method_46_code, exceptionTable := #[], attributes := #[] }
def k8m2 : Method := { name := "toBytes", desc := "(C)[B", sig := { parameters := [.char], returnType := some (.array .byte) }, accessFlags := 9, code := some k8c2 }
/-- java/lang/StringLatin1 -/
def k8 : Class := { plain "java/lang/StringLatin1" (some 0) with
  accessFlags := 48
  interfaces := #[]
  cf := some (fileOf pool8 14 #[.nestMembers #[390, 221]] #[{ accessFlags := 0, nameIndex := 7, descriptorIndex := 8, attributes := #[] }, { accessFlags := 9, nameIndex := 90, descriptorIndex := 105, attributes := #[] }, { accessFlags := 9, nameIndex := 380, descriptorIndex := 382, attributes := #[] }] 48 4 #[] #[{ accessFlags := 4120, nameIndex := 121, descriptorIndex := 122, attributes := #[] }])
  fields := #[{ name := "$assertionsDisabled", type := .boolean, accessFlags := 4120, slot := 0, constantValue := 0 }]
  methods := #[k8m0, k8m1, k8m2]
  instanceTypes := #[]
  staticTypes := #[.boolean]
  resolved := Array.replicate 395 none
  statics := none }

def pool9 : Array CpInfo := pool [(1, .methodref 2 3), (0, .class_ 4), (0, .nameAndType 5 6), (0, u "java/lang/Object"), (0, u "<init>"), (0, u "()V"), (0, .class_ 8), (0, u "java/lang/Record")] 13

def k9c0 : Code := { maxStack := 1, maxLocals := 1, code := jdk_30_method_1_code, exceptionTable := #[], attributes := #[] }
def k9m0 : Method := { name := "<init>", desc := "()V", sig := { parameters := [], returnType := none }, accessFlags := 4, code := some k9c0 }
/-- java/lang/Record -/
def k9 : Class := { plain "java/lang/Record" (some 0) with
  accessFlags := 1057
  interfaces := #[]
  cf := some (fileOf pool9 7 #[] #[{ accessFlags := 4, nameIndex := 5, descriptorIndex := 6, attributes := #[] }] 1057 2 #[] #[])
  fields := #[]
  methods := #[k9m0]
  instanceTypes := #[]
  staticTypes := #[]
  resolved := Array.replicate 22 none
  statics := none }

def pool10 : Array CpInfo := pool [(1, .class_ 2), (0, u "com/example/stampwise/stampwise/Ruling"), (0, .class_ 4), (0, u "java/lang/Object")] 6

/-- com/example/stampwise/stampwise/Ruling -/
def k10 : Class := { plain "com/example/stampwise/stampwise/Ruling" (some 0) with
  accessFlags := 1536
  interfaces := #[]
  cf := some (fileOf pool10 1 #[] #[] 1536 3 #[] #[])
  fields := #[]
  methods := #[]
  instanceTypes := #[]
  staticTypes := #[]
  resolved := Array.replicate 11 none
  statics := none }

def pool11 : Array CpInfo := pool [(1, .methodref 2 3), (0, .class_ 4), (0, .nameAndType 5 6), (0, u "java/lang/Record"), (0, u "<init>"), (0, u "()V"), (0, .fieldref 8 9), (0, .class_ 10), (0, .nameAndType 11 12), (0, u "com/example/stampwise/stampwise/Comparison"), (0, u "timestamp"), (0, u "J"), (0, .fieldref 8 14), (0, .nameAndType 15 16), (0, u "boundName"), (0, u "Ljava/lang/String;"), (0, .fieldref 8 18), (0, .nameAndType 19 12), (0, u "bound"), (2, u "holds"), (0, u "()Z"), (20, .class_ 45), (0, u "com/example/stampwise/stampwise/Ruling"), (0, u "(JLjava/lang/String;J)V")] 41

def k11c0 : Code := { maxStack := 3, maxLocals := 6, code := prog_1_method_1_code, exceptionTable := #[], attributes := #[] }
def k11m0 : Method := { name := "<init>", desc := "(JLjava/lang/String;J)V", sig := { parameters := [.long, (.object "java/lang/String"), .long], returnType := none }, accessFlags := 0, code := some k11c0 }
def k11c1 : Code := { maxStack := 4, maxLocals := 1, code := prog_1_method_2_code, exceptionTable := #[], attributes := #[] }
def k11m1 : Method := { name := "holds", desc := "()Z", sig := { parameters := [], returnType := some .boolean }, accessFlags := 1, code := some k11c1 }
/-- com/example/stampwise/stampwise/Comparison -/
def k11 : Class := { plain "com/example/stampwise/stampwise/Comparison" (some 9) with
  accessFlags := 48
  interfaces := #[10]
  cf := some (fileOf pool11 8 #[] #[{ accessFlags := 0, nameIndex := 5, descriptorIndex := 46, attributes := #[] }, { accessFlags := 1, nameIndex := 22, descriptorIndex := 23, attributes := #[] }] 48 2 #[44] #[{ accessFlags := 18, nameIndex := 11, descriptorIndex := 12, attributes := #[] }, { accessFlags := 18, nameIndex := 15, descriptorIndex := 16, attributes := #[] }, { accessFlags := 18, nameIndex := 19, descriptorIndex := 12, attributes := #[] }])
  fields := #[{ name := "timestamp", type := .long, accessFlags := 18, slot := 0, constantValue := 0 }, { name := "boundName", type := (.object "java/lang/String"), accessFlags := 18, slot := 1, constantValue := 0 }, { name := "bound", type := .long, accessFlags := 18, slot := 2, constantValue := 0 }]
  methods := #[k11m0, k11m1]
  instanceTypes := #[.long, (.object "java/lang/String"), .long]
  staticTypes := #[]
  resolved := Array.replicate 88 none
  statics := none }

def pool12 : Array CpInfo := pool [(2, .class_ 4), (1, u "java/lang/Object"), (0, u "<init>"), (0, u "()V"), (17, .class_ 26), (1, u "jdk/internal/util/Preconditions"), (28, .class_ 56), (0, u "jdk/internal/util/Preconditions$4"), (57, .class_ 115), (0, u "jdk/internal/util/Preconditions$1"), (7, u "SIOOBE_FORMATTER"), (0, u "Ljava/util/function/BiFunction;"), (0, .class_ 126), (0, u "jdk/internal/util/Preconditions$2"), (3, u "AIOOBE_FORMATTER"), (0, .class_ 132), (0, u "jdk/internal/util/Preconditions$3"), (3, u "IOOBE_FORMATTER")] 57

def k12m0 : Method := { name := "<init>", desc := "()V", sig := { parameters := [], returnType := none }, accessFlags := 1, code := none }
/-- jdk/internal/util/Preconditions -/
def k12 : Class := { plain "jdk/internal/util/Preconditions" (some 0) with
  accessFlags := 33
  interfaces := #[]
  cf := some (fileOf pool12 24 #[.nestMembers #[55, 131, 125, 114]] #[{ accessFlags := 1, nameIndex := 5, descriptorIndex := 6, attributes := #[] }] 33 2 #[] #[{ accessFlags := 25, nameIndex := 123, descriptorIndex := 124, attributes := #[] }, { accessFlags := 25, nameIndex := 130, descriptorIndex := 124, attributes := #[] }, { accessFlags := 25, nameIndex := 136, descriptorIndex := 124, attributes := #[] }])
  fields := #[{ name := "SIOOBE_FORMATTER", type := (.object "java/util/function/BiFunction"), accessFlags := 25, slot := 0, constantValue := 0 }, { name := "AIOOBE_FORMATTER", type := (.object "java/util/function/BiFunction"), accessFlags := 25, slot := 1, constantValue := 0 }, { name := "IOOBE_FORMATTER", type := (.object "java/util/function/BiFunction"), accessFlags := 25, slot := 2, constantValue := 0 }]
  methods := #[k12m0]
  instanceTypes := #[]
  staticTypes := #[(.object "java/util/function/BiFunction"), (.object "java/util/function/BiFunction"), (.object "java/util/function/BiFunction")]
  resolved := Array.replicate 194 none
  statics := some 1 }

def pool13 : Array CpInfo := pool [(9, u "<init>"), (6, .class_ 18), (1, u "java/lang/Object"), (0, u "()V"), (1, .class_ 23), (1, u "jdk/internal/util/ArraysSupport"), (0, u "LOG2_ARRAY_LONG_INDEX_SCALE"), (0, u "I"), (2, u "U"), (0, u "Ljdk/internal/misc/Unsafe;"), (8, u "BIG_ENDIAN"), (0, u "Z"), (8, u "LOG2_BYTE_BIT_SIZE"), (4, u "LOG2_ARRAY_INT_INDEX_SCALE"), (54, u "JLA"), (0, u "Ljdk/internal/access/JavaLangAccess;"), (11, u "LOG2_ARRAY_BOOLEAN_INDEX_SCALE"), (9, u "LOG2_ARRAY_BYTE_INDEX_SCALE"), (5, u "LOG2_ARRAY_CHAR_INDEX_SCALE"), (5, u "LOG2_ARRAY_SHORT_INDEX_SCALE"), (18, u "LOG2_ARRAY_FLOAT_INDEX_SCALE"), (24, u "LOG2_ARRAY_DOUBLE_INDEX_SCALE"), (89, u "T_BOOLEAN"), (2, u "T_CHAR"), (1, u "T_FLOAT"), (1, u "T_DOUBLE"), (1, u "T_BYTE"), (1, u "T_SHORT"), (1, u "T_INT"), (1, u "T_LONG"), (1, u "SOFT_MAX_ARRAY_LENGTH")] 83

def k13m0 : Method := { name := "<init>", desc := "()V", sig := { parameters := [], returnType := none }, accessFlags := 2, code := none }
/-- jdk/internal/util/ArraysSupport -/
def k13 : Class := { plain "jdk/internal/util/ArraysSupport" (some 0) with
  accessFlags := 33
  interfaces := #[]
  cf := some (fileOf pool13 21 #[] #[{ accessFlags := 2, nameIndex := 9, descriptorIndex := 19, attributes := #[] }] 33 16 #[] #[{ accessFlags := 24, nameIndex := 28, descriptorIndex := 29, attributes := #[] }, { accessFlags := 26, nameIndex := 38, descriptorIndex := 39, attributes := #[] }, { accessFlags := 25, nameIndex := 121, descriptorIndex := 25, attributes := #[] }, { accessFlags := 25, nameIndex := 131, descriptorIndex := 25, attributes := #[] }, { accessFlags := 25, nameIndex := 137, descriptorIndex := 25, attributes := #[] }, { accessFlags := 25, nameIndex := 143, descriptorIndex := 25, attributes := #[] }, { accessFlags := 25, nameIndex := 53, descriptorIndex := 25, attributes := #[] }, { accessFlags := 25, nameIndex := 24, descriptorIndex := 25, attributes := #[] }, { accessFlags := 25, nameIndex := 162, descriptorIndex := 25, attributes := #[] }, { accessFlags := 25, nameIndex := 187, descriptorIndex := 25, attributes := #[] }, { accessFlags := 26, nameIndex := 48, descriptorIndex := 25, attributes := #[] }, { accessFlags := 25, nameIndex := 277, descriptorIndex := 25, attributes := #[] }, { accessFlags := 25, nameIndex := 280, descriptorIndex := 25, attributes := #[] }, { accessFlags := 25, nameIndex := 282, descriptorIndex := 25, attributes := #[] }, { accessFlags := 25, nameIndex := 284, descriptorIndex := 25, attributes := #[] }, { accessFlags := 25, nameIndex := 286, descriptorIndex := 25, attributes := #[] }, { accessFlags := 25, nameIndex := 288, descriptorIndex := 25, attributes := #[] }, { accessFlags := 25, nameIndex := 290, descriptorIndex := 25, attributes := #[] }, { accessFlags := 25, nameIndex := 292, descriptorIndex := 25, attributes := #[] }, { accessFlags := 26, nameIndex := 108, descriptorIndex := 109, attributes := #[] }, { accessFlags := 25, nameIndex := 294, descriptorIndex := 25, attributes := #[] }])
  fields := #[{ name := "U", type := (.object "jdk/internal/misc/Unsafe"), accessFlags := 24, slot := 0, constantValue := 0 }, { name := "BIG_ENDIAN", type := .boolean, accessFlags := 26, slot := 1, constantValue := 0 }, { name := "LOG2_ARRAY_BOOLEAN_INDEX_SCALE", type := .int, accessFlags := 25, slot := 2, constantValue := 0 }, { name := "LOG2_ARRAY_BYTE_INDEX_SCALE", type := .int, accessFlags := 25, slot := 3, constantValue := 0 }, { name := "LOG2_ARRAY_CHAR_INDEX_SCALE", type := .int, accessFlags := 25, slot := 4, constantValue := 0 }, { name := "LOG2_ARRAY_SHORT_INDEX_SCALE", type := .int, accessFlags := 25, slot := 5, constantValue := 0 }, { name := "LOG2_ARRAY_INT_INDEX_SCALE", type := .int, accessFlags := 25, slot := 6, constantValue := 0 }, { name := "LOG2_ARRAY_LONG_INDEX_SCALE", type := .int, accessFlags := 25, slot := 7, constantValue := 0 }, { name := "LOG2_ARRAY_FLOAT_INDEX_SCALE", type := .int, accessFlags := 25, slot := 8, constantValue := 0 }, { name := "LOG2_ARRAY_DOUBLE_INDEX_SCALE", type := .int, accessFlags := 25, slot := 9, constantValue := 0 }, { name := "LOG2_BYTE_BIT_SIZE", type := .int, accessFlags := 26, slot := 10, constantValue := 0 }, { name := "T_BOOLEAN", type := .int, accessFlags := 25, slot := 11, constantValue := 0 }, { name := "T_CHAR", type := .int, accessFlags := 25, slot := 12, constantValue := 0 }, { name := "T_FLOAT", type := .int, accessFlags := 25, slot := 13, constantValue := 0 }, { name := "T_DOUBLE", type := .int, accessFlags := 25, slot := 14, constantValue := 0 }, { name := "T_BYTE", type := .int, accessFlags := 25, slot := 15, constantValue := 0 }, { name := "T_SHORT", type := .int, accessFlags := 25, slot := 16, constantValue := 0 }, { name := "T_INT", type := .int, accessFlags := 25, slot := 17, constantValue := 0 }, { name := "T_LONG", type := .int, accessFlags := 25, slot := 18, constantValue := 0 }, { name := "JLA", type := (.object "jdk/internal/access/JavaLangAccess"), accessFlags := 26, slot := 19, constantValue := 0 }, { name := "SOFT_MAX_ARRAY_LENGTH", type := .int, accessFlags := 25, slot := 20, constantValue := 0 }]
  methods := #[k13m0]
  instanceTypes := #[]
  staticTypes := #[(.object "jdk/internal/misc/Unsafe"), .boolean, .int, .int, .int, .int, .int, .int, .int, .int, .int, .int, .int, .int, .int, .int, .int, .int, .int, (.object "jdk/internal/access/JavaLangAccess"), .int]
  resolved := Array.replicate 378 none
  statics := none }

def pool14 : Array CpInfo := pool [(1, u "java/lang/Cloneable"), (0, .class_ 1), (0, u "java/lang/Object"), (0, .class_ 3)] 3

/-- java/lang/Cloneable -/
def k14 : Class := { plain "java/lang/Cloneable" (some 0) with
  accessFlags := 1537
  interfaces := #[]
  cf := some (fileOf pool14 2 #[] #[] 1537 4 #[] #[])
  fields := #[]
  methods := #[]
  instanceTypes := #[]
  staticTypes := #[]
  resolved := Array.replicate 8 none
  statics := none }

/-- the primitive byte -/
def k15 : Class := { plain "byte" none with kind := .primitive 'B', accessFlags := 0x411 }
/-- [B -/
def k16 : Class := { plain "[B" (some 0) with kind := .array 15 .byte, interfaces := #[14, 2], accessFlags := 1041 }

/-- the primitive int -/
def k17 : Class := { plain "int" none with kind := .primitive 'I', accessFlags := 0x411 }
/-- [I -/
def k18 : Class := { plain "[I" (some 0) with kind := .array 17 .int, interfaces := #[14, 2], accessFlags := 1041 }

def heap : Heap := #[{ cls := 7, slots := #[.long 0, .int 1, .null, .int 0, .null, .int 0, .int 0], vm := .statics 7 },
  { cls := 12, slots := #[.null, .null, .null], vm := .statics 12 }]
def classes : Array Class := #[k0, k1, k2, k3, k4, k5, k6, k7, k8, k9, k10, k11, k12, k13, k14, k15, k16, k17, k18]
def interned : List (Array UInt16 × Addr) := []
def slotsUsed : Nat := 10
def theMethod : MethodId := ⟨1, 1⟩
def args0 : Array Value := #[.long 3, .long 9, .long 5, .int 65]
def aboutOver (below : List Frame) : State where
  vm := { classes := classes, interned := interned.toArray }
  heap := heap
  slotsUsed := slotsUsed
  threads := #[{ frames := .invoking theMethod args0 :: below }]
def below0 : List Frame := [.native { method := ⟨0, 0⟩, args := #[] }]
def about1 : State := aboutOver below0
def p0 : Program := .bare "" "" ""
def e0 : Env := launch0.env 0 0 0
theorem w_frames : about1.frames = Frame.invoking theMethod args0 :: below0 := rfl
set_option maxRecDepth 65536 in
theorem w_args : argsFit about1.vm theMethod args0 = true := by decide +kernel
set_option maxRecDepth 65536 in
theorem w_heap : heapFits about1 = true := by decide +kernel
set_option maxRecDepth 65536 in
theorem w_runnable : about1.curStatus? = some .runnable := by decide +kernel
set_option maxRecDepth 65536 in
theorem w_alone : about1.alone = true := by decide +kernel
set_option maxRecDepth 65536 in
theorem w_named : about1.methodNamed? x = some theMethod := by decide +kernel
set_option maxRecDepth 65536 in
theorem w_hears : about1.hears theMethod below0 = true := by decide +kernel
set_option maxRecDepth 65536 in
theorem w_ripe : about1.ripe theMethod args0 below0 = true := by decide +kernel
theorem w_running : about1.status = .running := rfl
set_option maxRecDepth 65536 in
theorem w_room : about1.hasRoom e0.platform room_1 = true :=
  launch0.hasRoom_least _ room_1 (by decide +kernel) (by decide +kernel) (by decide +kernel) (by decide +kernel) (by decide +kernel) (by decide +kernel)
theorem allAtoms_all (ts : List Jvm.Cond) (a : Array Jvm.Value) (st : Jvm.State) : (allAtoms ts).before a st = ts.all (fun c => c.before a st) := by
  induction ts with
  | nil => rfl
  | cons c t ih =>
    show (Jvm.Cond.and c (allAtoms t)).before a st = _
    rw [Jvm.Cond.before_and, ih, List.all_cons]
def words1 : List Jvm.Cond := Jvm.Cond.code x code maxLocals ret :: tables_1
/-- a 'code' word, met by the world's own term for the bytes: nothing is compared byte by byte -/
theorem code_word {y : MethodName} {bytes : ByteArray} {mx : Nat} {rt : Option FieldType} {a : Array Value} {s : State} {m : MethodId} {meth : Method} {c : Code} (h1 : s.methodNamed? y = some m) (h2 : s.vm.method? m = some meth) (h3 : meth.code = some c) (h4 : c.code = bytes)
    (h5 : (c.maxLocals == mx && c.exceptionTable.isEmpty && decide (c.maxStack ≤ mostOperands) && decide (meth.sig.returnType = rt) && !meth.locks && decide (parseMethodDescriptor y.desc = some meth.sig)) = true) : (Jvm.Cond.code y bytes mx rt).before a s = true := by
  simp only [Bool.and_eq_true, beq_iff_eq, Bool.not_eq_true', decide_eq_true_eq] at h5
  obtain ⟨⟨⟨⟨⟨g1, g2⟩, g3⟩, g4⟩, g5⟩, g6⟩ := h5
  simp [Cond.before, Cond.holds, Cond.value, h1, h2, h3, h4, g1, g2, g3, g4, g5, g6]
def isCode : Jvm.Cond → Bool
  | .code _ _ _ _ => true
  | _ => false
theorem all_split {L : List Jvm.Cond} {P : Jvm.Cond → Bool} (h1 : L.all (fun c => isCode c || P c) = true) (h2 : ∀ c ∈ L.filter isCode, P c = true) : L.all P = true := by
  refine List.all_eq_true.mpr fun c hc => ?_
  have h := List.all_eq_true.mp h1 c hc
  rcases Bool.eq_false_or_eq_true (isCode c) with hi | hi
  · exact h2 c (List.mem_filter.mpr ⟨hc, hi⟩)
  · simpa [hi] using h
set_option maxRecDepth 65536 in
theorem w_c0 : (Jvm.Cond.code x code maxLocals ret).before args0 about1 = true := code_word (m := ⟨1, 1⟩) (meth := k1m1) (c := k1c1) (by decide +kernel) rfl rfl rfl (by decide +kernel)
set_option maxRecDepth 65536 in
theorem w_c1 : (Jvm.Cond.code ({ cls := "java/lang/String", name := "valueOf", desc := "(C)Ljava/lang/String;" } : Jvm.MethodName) jdk_42_method_139_code (1 : Nat) (Option.some (Jvm.ClassFile.FieldType.object "java/lang/String"))).before args0 about1 = true := code_word (m := ⟨7, 1⟩) (meth := k7m1) (c := k7c1) (by decide +kernel) rfl rfl rfl (by decide +kernel)
set_option maxRecDepth 65536 in
theorem w_c2 : (Jvm.Cond.code ({ cls := "java/lang/StringLatin1", name := "canEncode", desc := "(C)Z" } : Jvm.MethodName) jdk_43_method_3_code (1 : Nat) (Option.some Jvm.ClassFile.FieldType.boolean)).before args0 about1 = true := code_word (m := ⟨8, 1⟩) (meth := k8m1) (c := k8c1) (by decide +kernel) rfl rfl rfl (by decide +kernel)
set_option maxRecDepth 65536 in
theorem w_c3 : (Jvm.Cond.code ({ cls := "java/lang/StringLatin1", name := "toBytes", desc := "(C)[B" } : Jvm.MethodName) jdk_43_method_46_code (1 : Nat) (Option.some (Jvm.ClassFile.FieldType.array Jvm.ClassFile.FieldType.byte))).before args0 about1 = true := code_word (m := ⟨8, 2⟩) (meth := k8m2) (c := k8c2) (by decide +kernel) rfl rfl rfl (by decide +kernel)
set_option maxRecDepth 65536 in
theorem w_c4 : (Jvm.Cond.code ({ cls := "java/lang/String", name := "<init>", desc := "([BB)V" } : Jvm.MethodName) jdk_42_method_151_code (3 : Nat) (Option.none : Option Jvm.ClassFile.FieldType)).before args0 about1 = true := code_word (m := ⟨7, 2⟩) (meth := k7m2) (c := k7c2) (by decide +kernel) rfl rfl rfl (by decide +kernel)
set_option maxRecDepth 65536 in
theorem w_c5 : (Jvm.Cond.code ({ cls := "java/lang/Object", name := "<init>", desc := "()V" } : Jvm.MethodName) object_method_1_code (1 : Nat) (Option.none : Option Jvm.ClassFile.FieldType)).before args0 about1 = true := code_word (m := ⟨0, 0⟩) (meth := k0m0) (c := k0c0) (by decide +kernel) rfl rfl rfl (by decide +kernel)
set_option maxRecDepth 65536 in
theorem w_c6 : (Jvm.Cond.code ({ cls := "com/example/stampwise/stampwise/Comparison", name := "<init>", desc := "(JLjava/lang/String;J)V" } : Jvm.MethodName) prog_1_method_1_code (6 : Nat) (Option.none : Option Jvm.ClassFile.FieldType)).before args0 about1 = true := code_word (m := ⟨11, 0⟩) (meth := k11m0) (c := k11c0) (by decide +kernel) rfl rfl rfl (by decide +kernel)
set_option maxRecDepth 65536 in
theorem w_c7 : (Jvm.Cond.code ({ cls := "java/lang/Record", name := "<init>", desc := "()V" } : Jvm.MethodName) jdk_30_method_1_code (1 : Nat) (Option.none : Option Jvm.ClassFile.FieldType)).before args0 about1 = true := code_word (m := ⟨9, 0⟩) (meth := k9m0) (c := k9c0) (by decide +kernel) rfl rfl rfl (by decide +kernel)
set_option maxRecDepth 65536 in
theorem w_c8 : (Jvm.Cond.code ({ cls := "com/example/stampwise/stampwise/Comparison", name := "holds", desc := "()Z" } : Jvm.MethodName) prog_1_method_2_code (1 : Nat) (Option.some Jvm.ClassFile.FieldType.boolean)).before args0 about1 = true := code_word (m := ⟨11, 1⟩) (meth := k11m1) (c := k11c1) (by decide +kernel) rfl rfl rfl (by decide +kernel)
def codes1 : List Jvm.Cond := [Jvm.Cond.code x code maxLocals ret, Jvm.Cond.code ({ cls := "java/lang/String", name := "valueOf", desc := "(C)Ljava/lang/String;" } : Jvm.MethodName) jdk_42_method_139_code (1 : Nat) (Option.some (Jvm.ClassFile.FieldType.object "java/lang/String")), Jvm.Cond.code ({ cls := "java/lang/StringLatin1", name := "canEncode", desc := "(C)Z" } : Jvm.MethodName) jdk_43_method_3_code (1 : Nat) (Option.some Jvm.ClassFile.FieldType.boolean), Jvm.Cond.code ({ cls := "java/lang/StringLatin1", name := "toBytes", desc := "(C)[B" } : Jvm.MethodName) jdk_43_method_46_code (1 : Nat) (Option.some (Jvm.ClassFile.FieldType.array Jvm.ClassFile.FieldType.byte)), Jvm.Cond.code ({ cls := "java/lang/String", name := "<init>", desc := "([BB)V" } : Jvm.MethodName) jdk_42_method_151_code (3 : Nat) (Option.none : Option Jvm.ClassFile.FieldType), Jvm.Cond.code ({ cls := "java/lang/Object", name := "<init>", desc := "()V" } : Jvm.MethodName) object_method_1_code (1 : Nat) (Option.none : Option Jvm.ClassFile.FieldType), Jvm.Cond.code ({ cls := "com/example/stampwise/stampwise/Comparison", name := "<init>", desc := "(JLjava/lang/String;J)V" } : Jvm.MethodName) prog_1_method_1_code (6 : Nat) (Option.none : Option Jvm.ClassFile.FieldType), Jvm.Cond.code ({ cls := "java/lang/Record", name := "<init>", desc := "()V" } : Jvm.MethodName) jdk_30_method_1_code (1 : Nat) (Option.none : Option Jvm.ClassFile.FieldType), Jvm.Cond.code ({ cls := "com/example/stampwise/stampwise/Comparison", name := "holds", desc := "()Z" } : Jvm.MethodName) prog_1_method_2_code (1 : Nat) (Option.some Jvm.ClassFile.FieldType.boolean)]
set_option maxRecDepth 65536 in
theorem codes_eq : words1.filter isCode = codes1 := rfl
theorem w_codes : ∀ c ∈ words1.filter isCode, c.before args0 about1 = true := by
  rw [codes_eq]
  intro c hc
  simp only [codes1, List.mem_cons, List.not_mem_nil, or_false] at hc
  rcases hc with rfl | rfl | rfl | rfl | rfl | rfl | rfl | rfl | rfl
  · exact w_c0
  · exact w_c1
  · exact w_c2
  · exact w_c3
  · exact w_c4
  · exact w_c5
  · exact w_c6
  · exact w_c7
  · exact w_c8
set_option maxRecDepth 65536 in
theorem w_t1 : (words1.take 24).all (fun c => isCode c || c.before args0 about1) = true := by decide +kernel
set_option maxRecDepth 65536 in
theorem w_t2 : ((words1.drop 24).take 24).all (fun c => isCode c || c.before args0 about1) = true := by decide +kernel
set_option maxRecDepth 65536 in
theorem w_t3 : ((words1.drop 24).drop 24).all (fun c => isCode c || c.before args0 about1) = true := by decide +kernel
theorem w_tables : (allAtoms (Jvm.Cond.code x code maxLocals ret :: tables_1)).before args0 about1 = true := by
  rw [allAtoms_all]
  show words1.all (fun c => c.before args0 about1) = true
  refine all_split ?_ w_codes
  rw [← List.take_append_drop 24 words1, List.all_append, w_t1, ← List.take_append_drop 24 (words1.drop 24), List.all_append, w_t2, w_t3]
  rfl
set_option maxRecDepth 65536 in
theorem w_rest : rest_1_c.before args0 about1 = true := by decide +kernel
set_option maxRecDepth 65536 in
theorem w_case : (Jvm.Cond.and given_1 narrow_1).before args0 about1 = true := by decide +kernel
theorem w_applies : (headSpec (Jvm.Cond.code x code maxLocals ret :: tables_1) room_1).applies x e0.platform about1 = true :=
  (Spec.applies_iff w_frames).mpr ⟨w_running, w_runnable, w_alone, w_named, w_hears, w_ripe, w_room, w_tables⟩
theorem atStart : AtStart classFile x code maxLocals ret World_1 tables_1 room_1 Calls_1 rest_1 Pre_1 launch0 p0 e0 about1 theMethod args0 below0 :=
  ⟨lists_1, trivial, launch0.admits_env _ _ _, launch0.least_env, fairChoices_fair.cas, fairChoices_fair.clock, w_frames, w_args, w_heap, w_applies, trivial, w_rest, w_case⟩
end start1
theorem witness_1 : WitnessClaimed_1 := ⟨start1.p0, start1.e0, start1.about1, start1.theMethod, start1.args0, start1.below0, start1.atStart⟩
end Jvm.Pilot.@@N@@
