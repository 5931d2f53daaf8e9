import JvmDerived
import JvmDerived.Pilot.@@N@@Statement
import JvmDerived.Pilot.@@N@@Code
set_option linter.unusedVariables false
set_option linter.unusedSimpArgs false
namespace Jvm.RoadKit
open Sem ClassFile Op Lib Jvm.Stand Jvm.Free Jvm.LawKit
section Own
variable {p : Program} {l : Launch} {e : Env} {R : Room} {s : State} {m : MethodId} {args : Array Value} {below : List Frame} {meth : Method} {c : Code} {T T' : State} {locs : List Loc} {cells slots : Nat} {Z : State} {a0 : Array Value} {h h' h0 : Heap} {K : State → Outcome → Prop} {pc : Nat} {Ls : Array Slot} {rest : List Value} {Q : Option Value → Heap → List Loc → Prop} {k n : Nat} {a b : Addr} {ws : List Addr} {sl : Nat} {v : Value}
/-- from T the run comes to its end, and K holds there -/
def Go (p : Program) (e : Env) (below : List Frame) (K : State → Outcome → Prop) (T : State) : Prop := ∃ U o, Steps p.tables e below T U ∧ U.status = .running ∧ Ended U below o ∧ K U o
theorem Go.by (st : ∀ t, Steps p.tables e below T' t → Steps p.tables e below T t) (g : Go p e below K T') : Go p e below K T := by
  obtain ⟨U, o, q, r⟩ := g; exact ⟨U, o, st _ q, r⟩
theorem Go.on (st : Steps p.tables e below T T') (g : Go p e below K T') : Go p e below K T := by
  obtain ⟨U, o, q, r⟩ := g; exact ⟨U, o, st.trans q, r⟩
theorem Go.cast {T'' : State} (q : T = T'') (g : Go p e below K T'') : Go p e below K T := q ▸ g
def KK (s : State) (Q : Option Value → Heap → List Loc → Prop) (k n : Nat) : State → Outcome → Prop := fun U o => ∃ v L, o = .returned v ∧ Q v U.heap L ∧ FrameEnd s o U L k n
abbrev Ctr (l : Launch) (Z : State) (h0 : Heap) (y : MethodName) (bytes : ByteArray) (maxL : Nat) (ret : Option FieldType) (ws : List Cond) (rm : Room) (as' : Array Value) (Q : Option Value → Heap → List Loc → Prop) : Prop :=
  MetFree l y (head1 (Cond.code y bytes maxL ret :: ws) rm) (fun a U => a = as' ∧ Z.Warmed39 U.vm ∧ U.heap = h0) (fun _ _ _ _ _ => True) (fun _ U o U' => ∃ v L, o = .returned v ∧ Q v U'.heap L ∧ FrameEnd U o U' L rm.cells rm.slots)
theorem enter {y : MethodName} {bytes : ByteArray} {maxL : Nat} {ret : Option FieldType} {ws : List Cond} {rm : Room} {as' : Array Value} (hp : plainFor y = true)
    (H : ∀ (p : Program) (e : Env) (s : State) (m : MethodId) (below : List Frame) (meth : Method) (c : Code) (s₁ : State), p.tables.exec = Jvm.exec → c.code = bytes → c.maxLocals = maxL → Z.Warmed39 s.vm → s.vm.findClass y.cls = some m.cls → meth.name = y.name → meth.sig.returnType = ret → meth.locks = false →
      Stand p l e rm s m as' below meth c s₁ [] 0 0 → s₁.heap = h0 → s.heap = h0 → Go p e below (KK s Q rm.cells rm.slots) (s₁.setTop (entryFrame m as' maxL))) : Ctr l Z h0 y bytes maxL ret ws rm as' Q := by
  refine MetFree.of_bodySF hp hisR ?_
  intro p e s m args below meth c s₁ Bd hml0 hP hK
  obtain ⟨rfl, hZ, hh⟩ := hP
  exact H p e s m below meth c s₁ Bd.exec Bd.bytes hml0 hZ (findClass_of_methodNamed Bd.named) (name_of_methodNamed Bd.named Bd.method).1 Bd.returns Bd.notSynchronized (Stand.of_body Bd) (by rw [← hh, Bd.state]; rfl) hh
/-! returns -/
theorem Go.ret {w : Value} {t : FieldType} {i : Instr} (X : Stand p l e R s m args below meth c T locs cells slots) (hx : p.tables.exec = Jvm.exec) (hret : meth.sig.returnType = some t) (hlk : meth.locks = false) (hn : narrow t w = w)
    (hi : (i = .ireturn ∧ (t = .int ∨ t = .boolean ∨ t = .byte ∨ t = .char ∨ t = .short) ∧ ∃ z, w = .int z) ∨ (i = .lreturn ∧ t = .long ∧ ∃ z, w = .long z) ∨ (i = .dreturn ∧ t = .double ∧ ∃ z, w = .double z) ∨ (i = .freturn ∧ t = .float ∧ ∃ z, w = .float z) ∨ (i = .areturn ∧ t.isReference = true ∧ w.isRef = true))
    (hd : decode c.code pc = .ok (i, 1)) (eT : T.heap = h) (hk : cells ≤ k) (hs : slots ≤ n) (hQ : Q (some w) h locs) : Go p e below (KK s Q k n) (T.setTop (mkF m pc Ls (w :: rest))) := by
  obtain ⟨fs, hr, hrun, hended, hW, hsame⟩ := X.leave (v := some w) (fun h => by rw [hret] at h; cases h) hlk
  subst eT
  exact ⟨_, _, retOut X hx hret hn hi hd hr, hrun, hended, _, _, rfl, hQ, ⟨_, rfl⟩, hW, hsame.mono hk hs⟩
theorem Go.retI {z : Int32} {t : FieldType} (X : Stand p l e R s m args below meth c T locs cells slots) (hx : p.tables.exec = Jvm.exec) (hret : meth.sig.returnType = some t) (hlk : meth.locks = false) (ht : t = .int ∨ t = .boolean ∨ t = .byte ∨ t = .char ∨ t = .short) (hn : narrow t (.int z) = .int z)
    (hd : decode c.code pc = .ok (.ireturn, 1)) (eT : T.heap = h) (hk : cells ≤ k) (hs : slots ≤ n) (hQ : Q (some (.int z)) h locs) : Go p e below (KK s Q k n) (T.setTop (mkF m pc Ls (.int z :: rest))) :=
  Go.ret X hx hret hlk hn (Or.inl ⟨rfl, ht, z, rfl⟩) hd eT hk hs hQ
theorem Go.retJ {z : Int64} (X : Stand p l e R s m args below meth c T locs cells slots) (hx : p.tables.exec = Jvm.exec) (hret : meth.sig.returnType = some .long) (hlk : meth.locks = false)
    (hd : decode c.code pc = .ok (.lreturn, 1)) (eT : T.heap = h) (hk : cells ≤ k) (hs : slots ≤ n) (hQ : Q (some (.long z)) h locs) : Go p e below (KK s Q k n) (T.setTop (mkF m pc Ls (.long z :: rest))) :=
  Go.ret X hx hret hlk rfl (Or.inr (Or.inl ⟨rfl, rfl, z, rfl⟩)) hd eT hk hs hQ
theorem nar_ref {t : FieldType} {w : Value} (hw : w.isRef = true) : narrow t w = w := by cases w <;> first | (simp [Value.isRef] at hw; done) | (cases t <;> rfl)
theorem fits_any {C : String} {w : Value} (hw : w.isRef = true) : fits (.object C) w = true := by cases w <;> first | (simp [Value.isRef] at hw; done) | rfl
theorem Go.retA {w : Value} {t : FieldType} (X : Stand p l e R s m args below meth c T locs cells slots) (hx : p.tables.exec = Jvm.exec) (hret : meth.sig.returnType = some t) (hlk : meth.locks = false) (ht : t.isReference = true) (hw : w.isRef = true)
    (hd : decode c.code pc = .ok (.areturn, 1)) (eT : T.heap = h) (hk : cells ≤ k) (hs : slots ≤ n) (hQ : Q (some w) h locs) : Go p e below (KK s Q k n) (T.setTop (mkF m pc Ls (w :: rest))) :=
  Go.ret X hx hret hlk (nar_ref hw) (Or.inr (Or.inr (Or.inr (Or.inr ⟨rfl, ht, hw⟩)))) hd eT hk hs hQ
theorem Go.retV (X : Stand p l e R s m args below meth c T locs cells slots) (hx : p.tables.exec = Jvm.exec) (hret : meth.sig.returnType = none) (hlk : meth.locks = false)
    (hd : decode c.code pc = .ok (.return_, 1)) (eT : T.heap = h) (hk : cells ≤ k) (hs : slots ≤ n) (hQ : Q none h locs) : Go p e below (KK s Q k n) (T.setTop (mkF m pc Ls [])) := by
  obtain ⟨fs, hr, hrun, hended, hW, hsame⟩ := X.leave (v := none) (fun _ => rfl) hlk
  subst eT
  exact ⟨_, _, X.returnOut hx hret hd hr, hrun, hended, _, _, rfl, hQ, ⟨_, rfl⟩, hW, hsame.mono hk hs⟩
/-! the old cells -/
theorem ext_trans {h1 h2 h3 : Heap} (E : Ext h1 h2) (F : Ext h2 h3) : Ext h1 h3 := ⟨Nat.le_trans E.1 F.1, fun a c q => F.2 a c (E.2 a c q)⟩
theorem ext_wr {h1 h2 h3 : Heap} (E : Ext h1 h2) (W : Wr h2 h3 a sl v) (g : h1.size ≤ a) : Ext h1 h3 := by
  obtain ⟨cell, q1, q2, q3, rfl⟩ := W
  refine ⟨by simpa using E.1, fun x c q => ?_⟩
  have hx : x < h1.size := (Array.getElem?_eq_some_iff.mp q).1
  rw [Array.getElem?_setIfInBounds_ne (Nat.ne_of_gt (Nat.lt_of_lt_of_le hx g))]
  exact E.2 x c q
theorem ext_keep {h1 h2 h3 : Heap} (E : Ext h1 h2) (F : Keep h2 h3 ws) (g : ∀ x ∈ ws, h1.size ≤ x) : Ext h1 h3 := by
  refine ⟨Nat.le_trans E.1 F.1, fun x c q => F.2.1 x c (E.2 x c q) fun z => ?_⟩
  exact absurd (Array.getElem?_eq_some_iff.mp q).1 (Nat.not_lt.mpr (g x z))
theorem ne_new (q : a < h.size) (r : h.size ≤ b) : a ≠ b := Nat.ne_of_lt (Nat.lt_of_lt_of_le q r)
/-! calls -/
theorem Go.callS {own : String} {index : Nat} {y : MethodName} {bytes : ByteArray} {maxL : Nat} {ret : Option FieldType} {rm : Room} {as' : Array Value} {argsL S : List Value} (X : Stand p l e R s m args below meth c T locs cells slots) (hx : p.tables.exec = Jvm.exec) (hZ : Z.Warmed39 s.vm) (hown : s.vm.findClass own = some m.cls)
    (w1 : (Cond.methodLink own index y).before a0 Z = true) (w2 : (Cond.static y).before a0 Z = true) (w3 : (Cond.initialized y.cls).before a0 Z = true) (w4 : (Cond.code y bytes maxL ret).before a0 Z = true)
    (hy : y.cls ≠ "java/lang/invoke/MethodHandle" ∧ y.cls ≠ "java/lang/invoke/VarHandle") {Q : Option Value → Heap → List Loc → Prop} (hM : Ctr l Z h y bytes maxL ret [] rm as' Q) (eT : T.heap = h) (hsz : Ls.size = c.maxLocals)
    (hd : decode c.code pc = .ok (.invokestatic index, 3)) (hlen : ∀ sig, parseMethodDescriptor y.desc = some sig → argsL.length = sig.parameters.length) (hst : S = argsL.reverse ++ rest) (has : argsL.toArray = as')
    {W : Nat} (hW : 2 * 0 + (rest.map fun v => v.category).sum ≤ W) (hf : rm.frames + 1 ≤ R.frames) (hl : W + (maxL + 11) + rm.locals ≤ R.locals) (hc : cells + rm.cells ≤ R.cells) (hs : slots + rm.slots ≤ R.slots)
    (g : ∀ (v : Option Value) (T' : State) (L : List Loc), Stand p l e R s m args below meth c T' (locs ++ L) (cells + rm.cells) (slots + rm.slots) → Q v T'.heap L → Go p e below K (T'.setTop (mkF m (pc + 3) Ls (v.toList ++ rest)))) : Go p e below K (T.setTop (mkF m pc Ls S)) := by
  obtain ⟨v, _, ⟨T', L', k', n'⟩, -, X', ⟨Lc, hQ, l', y', z'⟩, st⟩ := Jvm.LawKit.callS X hx (y := y) hown (mvT hZ w1) (mvT hZ w2) (mvT hZ w3) (mvT hZ w4) hy (backOf (W := W) hM hZ w4 w3 hf hl) (g := mkF m pc Ls S) rfl hsz (argsL := argsL) (rest := rest) hlen hst hW hd (fun _ _ => ⟨has, eT, hc, hs⟩)
  dsimp only [Pt.U, Pt.locs, Pt.cells, Pt.slots] at X' l' y' z' st hQ
  subst l' y' z'
  exact Go.by st (g v T' Lc X' hQ)
theorem Go.init {own : String} {index : Nat} {y : MethodName} {bytes : ByteArray} {maxL : Nat} {rm : Room} {as' : Array Value} {argsL S : List Value} (X : Stand p l e R s m args below meth c T locs cells slots) (hx : p.tables.exec = Jvm.exec) (hZ : Z.Warmed39 s.vm) (hown : s.vm.findClass own = some m.cls) (hy1 : y.name = "<init>")
    (w1 : (Cond.methodLink own index y).before a0 Z = true) (w2 : (Cond.instanceMethod y).before a0 Z = true) (w3 : (Cond.initialized y.cls).before a0 Z = true) (w4 : (Cond.code y bytes maxL none).before a0 Z = true)
    (hy : y.cls ≠ "java/lang/invoke/MethodHandle" ∧ y.cls ≠ "java/lang/invoke/VarHandle") {Q : Option Value → Heap → List Loc → Prop} (hM : Ctr l Z h y bytes maxL none [] rm as' Q) (eT : T.heap = h) (hsz : Ls.size = c.maxLocals)
    (hd : decode c.code pc = .ok (.invokespecial index, 3)) (hlen : ∀ sig, parseMethodDescriptor y.desc = some sig → argsL.length = sig.parameters.length) (hst : S = argsL.reverse ++ .ref a :: rest) (has : (Value.ref a :: argsL).toArray = as')
    {W : Nat} (hW : 2 * 0 + (rest.map fun v => v.category).sum ≤ W) (hf : rm.frames + 1 ≤ R.frames) (hl : W + (maxL + 11) + rm.locals ≤ R.locals) (hc : cells + rm.cells ≤ R.cells) (hs : slots + rm.slots ≤ R.slots)
    (g : ∀ (v : Option Value) (T' : State) (L : List Loc), Stand p l e R s m args below meth c T' (locs ++ L) (cells + rm.cells) (slots + rm.slots) → Q v T'.heap L → Go p e below K (T'.setTop (mkF m (pc + 3) Ls (v.toList ++ rest)))) : Go p e below K (T.setTop (mkF m pc Ls S)) := by
  obtain ⟨v, _, ⟨T', L', k', n'⟩, -, X', ⟨Lc, hQ, l', y', z'⟩, st⟩ := X.specialBack hx (y := y) hy1 hown (mvT hZ w1) (mvT hZ w2) (mvT hZ w4) hy (backOf (W := W) hM hZ w4 w3 hf hl) (g := mkF m pc Ls S) rfl hsz (Steps.refl _) (a := a) (argsL := argsL) (rest := rest) hlen hst hW hd (fun _ _ => ⟨has, eT, hc, hs⟩)
  dsimp only [Pt.U, Pt.locs, Pt.cells, Pt.slots] at X' l' y' z' st hQ
  subst l' y' z'
  exact Go.on st (g v T' Lc X' hQ)
theorem Go.virt {own C : String} {index : Nat} {y z : MethodName} {bytes : ByteArray} {maxL : Nat} {ret : Option FieldType} {rm : Room} {as' : Array Value} {argsL S : List Value} (X : Stand p l e R s m args below meth c T locs cells slots) (hx : p.tables.exec = Jvm.exec) (hZ : Z.Warmed39 s.vm) (hown : s.vm.findClass own = some m.cls)
    (w1 : (Cond.methodLink own index y).before a0 Z = true) (w2 : (Cond.declares y).before a0 Z = true) (hnf : NotFace s y) (w5 : (Cond.selects C y z).before a0 Z = true) (w6 : (Cond.instanceMethod z).before a0 Z = true) (w3 : (Cond.initialized z.cls).before a0 Z = true) (w4 : (Cond.code z bytes maxL ret).before a0 Z = true)
    (hy : y.cls ≠ "java/lang/invoke/MethodHandle" ∧ y.cls ≠ "java/lang/invoke/VarHandle") {Q : Option Value → Heap → List Loc → Prop} (hM : Ctr l Z h z bytes maxL ret [] rm as' Q) (eT : T.heap = h) (E : Exa Z h a C) (hsz : Ls.size = c.maxLocals)
    (hd : decode c.code pc = .ok (.invokevirtual index, 3)) (hlen : ∀ sig, parseMethodDescriptor y.desc = some sig → argsL.length = sig.parameters.length) (hst : S = argsL.reverse ++ .ref a :: rest) (has : (Value.ref a :: argsL).toArray = as')
    {W : Nat} (hW : 2 * 0 + (rest.map fun v => v.category).sum ≤ W) (hf : rm.frames + 1 ≤ R.frames) (hl : W + (maxL + 11) + rm.locals ≤ R.locals) (hc : cells + rm.cells ≤ R.cells) (hs : slots + rm.slots ≤ R.slots)
    (g : ∀ (v : Option Value) (T' : State) (L : List Loc), Stand p l e R s m args below meth c T' (locs ++ L) (cells + rm.cells) (slots + rm.slots) → Q v T'.heap L → Go p e below K (T'.setTop (mkF m (pc + 3) Ls (v.toList ++ rest)))) : Go p e below K (T.setTop (mkF m pc Ls S)) := by
  obtain ⟨cq, kq, q1, q2, q3⟩ := isOf hZ eT E
  obtain ⟨v, _, ⟨T', L', k', n'⟩, -, X', ⟨Lc, hQ, l', y', z'⟩, st⟩ := X.virtualBack hx (y := y) (z := z) hown (mvT hZ w1) (mvT hZ w2) hnf (mvT hZ w5) (mvT hZ w6) hy (backOf (W := W) hM hZ w4 w3 hf hl) q1 q3 (g := mkF m pc Ls S) rfl hsz (Steps.refl _) (argsL := argsL) (rest := rest) hlen hst hW hd (fun _ _ => ⟨has, eT, hc, hs⟩)
  dsimp only [Pt.U, Pt.locs, Pt.cells, Pt.slots] at X' l' y' z' st hQ
  subst l' y' z'
  exact Go.on st (g v T' Lc X' hQ)
theorem Go.face {own C : String} {index count : Nat} {y z : MethodName} {bytes : ByteArray} {maxL : Nat} {ret : Option FieldType} {rm : Room} {as' : Array Value} {argsL S : List Value} (X : Stand p l e R s m args below meth c T locs cells slots) (hx : p.tables.exec = Jvm.exec) (hZ : Z.Warmed39 s.vm) (hown : s.vm.findClass own = some m.cls)
    (w1 : (Cond.methodLink own index y).before a0 Z = true) (w2 : (Cond.declares y).before a0 Z = true) (w7 : (Cond.interfaceMethod y.cls y.cls y.name y.desc).before a0 Z = true) (w5 : (Cond.selects C y z).before a0 Z = true) (w6 : (Cond.instanceMethod z).before a0 Z = true) (w8 : (Cond.publicMethod z).before a0 Z = true) (w9 : (Cond.unhidden C y.name y.desc).before a0 Z = true) (w10 : (Cond.castable C y.cls).before a0 Z = true) (w3 : (Cond.initialized z.cls).before a0 Z = true) (w4 : (Cond.code z bytes maxL ret).before a0 Z = true)
    (hy : y.cls ≠ "java/lang/invoke/MethodHandle" ∧ y.cls ≠ "java/lang/invoke/VarHandle") {Q : Option Value → Heap → List Loc → Prop} (hM : Ctr l Z h z bytes maxL ret [] rm as' Q) (eT : T.heap = h) (E : Exa Z h a C) (hsz : Ls.size = c.maxLocals)
    (hd : decode c.code pc = .ok (.invokeinterface index count, 5)) (hlen : ∀ sig, parseMethodDescriptor y.desc = some sig → argsL.length = sig.parameters.length) (hst : S = argsL.reverse ++ .ref a :: rest) (has : (Value.ref a :: argsL).toArray = as')
    {W : Nat} (hW : 2 * 0 + (rest.map fun v => v.category).sum ≤ W) (hf : rm.frames + 1 ≤ R.frames) (hl : W + (maxL + 11) + rm.locals ≤ R.locals) (hc : cells + rm.cells ≤ R.cells) (hs : slots + rm.slots ≤ R.slots)
    (g : ∀ (v : Option Value) (T' : State) (L : List Loc), Stand p l e R s m args below meth c T' (locs ++ L) (cells + rm.cells) (slots + rm.slots) → Q v T'.heap L → Go p e below K (T'.setTop (mkF m (pc + 5) Ls (v.toList ++ rest)))) : Go p e below K (T.setTop (mkF m pc Ls S)) := by
  obtain ⟨cq, kq, q1, q2, q3⟩ := isOf hZ eT E
  obtain ⟨v, _, ⟨T', L', k', n'⟩, -, X', ⟨Lc, hQ, l', y', z'⟩, st⟩ := X.interfaceBack hx (xi := y) (y := z) hown (mvT hZ w1) (mvT hZ w2) (mvT hZ w7 (by simp [Cond.onTables, Cond.keepsFace, Cond.keeps, Cond.steady, Cond.faceAtom]; exact hy)) (mvT hZ w5) (mvT hZ w6) (mvT hZ w8) (mvT hZ w9) (mvT hZ w10) hy (backOf (W := W) (len := 5) hM hZ w4 w3 hf hl) q1 q2 q3 (g := mkF m pc Ls S) rfl hsz (Steps.refl _) (argsL := argsL) (rest := rest) hlen hst hW hd (fun _ _ => ⟨has, eT, hc, hs⟩)
  dsimp only [Pt.U, Pt.locs, Pt.cells, Pt.slots] at X' l' y' z' st hQ
  subst l' y' z'
  exact Go.on st (g v T' Lc X' hQ)
theorem Go.priv {own : String} {index : Nat} {y : MethodName} {bytes : ByteArray} {maxL : Nat} {ret : Option FieldType} {rm : Room} {as' : Array Value} {argsL S : List Value} {C : String} (X : Stand p l e R s m args below meth c T locs cells slots) (hx : p.tables.exec = Jvm.exec) (hZ : Z.Warmed39 s.vm) (hown : s.vm.findClass own = some m.cls)
    (w1 : (Cond.methodLink own index y).before a0 Z = true) (w6 : (Cond.instanceMethod y).before a0 Z = true) (w5 : (Cond.selects y.cls y y).before a0 Z = true) (w7 : (Cond.privateMethod y).before a0 Z = true) (w3 : (Cond.initialized y.cls).before a0 Z = true) (w4 : (Cond.code y bytes maxL ret).before a0 Z = true)
    (hy : y.cls ≠ "java/lang/invoke/MethodHandle" ∧ y.cls ≠ "java/lang/invoke/VarHandle") {Q : Option Value → Heap → List Loc → Prop} (hM : Ctr l Z h y bytes maxL ret [] rm as' Q) (eT : T.heap = h) (E : Exa Z h a C) (hsz : Ls.size = c.maxLocals)
    (hd : decode c.code pc = .ok (.invokevirtual index, 3)) (hlen : ∀ sig, parseMethodDescriptor y.desc = some sig → argsL.length = sig.parameters.length) (hst : S = argsL.reverse ++ .ref a :: rest) (has : (Value.ref a :: argsL).toArray = as')
    {W : Nat} (hW : 2 * 0 + (rest.map fun v => v.category).sum ≤ W) (hf : rm.frames + 1 ≤ R.frames) (hl : W + (maxL + 11) + rm.locals ≤ R.locals) (hc : cells + rm.cells ≤ R.cells) (hs : slots + rm.slots ≤ R.slots)
    (g : ∀ (v : Option Value) (T' : State) (L : List Loc), Stand p l e R s m args below meth c T' (locs ++ L) (cells + rm.cells) (slots + rm.slots) → Q v T'.heap L → Go p e below K (T'.setTop (mkF m (pc + 3) Ls (v.toList ++ rest)))) : Go p e below K (T.setTop (mkF m pc Ls S)) := by
  obtain ⟨cq, q1, q2⟩ := E.cell
  subst eT
  obtain ⟨v, _, ⟨T', L', k', n'⟩, -, X', ⟨Lc, hQ, l', y', z'⟩, st⟩ := X.privateBack hx (y := y) hown (mvT hZ w1) (mvT hZ w6) (mvT hZ w5) (Cond.privateMethod_at (mvP hZ w7 (args := #[]))) (mvT hZ w4) hy (backOf (W := W) hM hZ w4 w3 hf hl) (g := mkF m pc Ls S) rfl hsz (Steps.refl _) (a := a) q1 q2 (argsL := argsL) (rest := rest) hlen hst hW hd (fun _ _ => ⟨has, rfl, hc, hs⟩)
  dsimp only [Pt.U, Pt.locs, Pt.cells, Pt.slots] at X' l' y' z' st hQ
  subst l' y' z'
  exact Go.on st (g v T' Lc X' hQ)
theorem Go.sup {own C : String} {index : Nat} {y : MethodName} {bytes : ByteArray} {maxL : Nat} {ret : Option FieldType} {rm : Room} {as' : Array Value} {argsL S : List Value} (X : Stand p l e R s m args below meth c T locs cells slots) (hx : p.tables.exec = Jvm.exec) (hZ : Z.Warmed39 s.vm) (hown : s.vm.findClass own = some m.cls)
    (w1 : (Cond.methodLink own index y).before a0 Z = true) (w2 : (Cond.sameMethod y.cls y.cls y.name y.desc).before a0 Z = true) (w6 : (Cond.instanceMethod y).before a0 Z = true) (w5 : (Cond.superclass own y.cls).before a0 Z = true) (hn : y.name ≠ "<init>") (w3 : (Cond.initialized y.cls).before a0 Z = true) (w4 : (Cond.code y bytes maxL ret).before a0 Z = true)
    {Q : Option Value → Heap → List Loc → Prop} (hM : Ctr l Z h y bytes maxL ret [] rm as' Q) (eT : T.heap = h) (E : Exa Z h a C) (hsz : Ls.size = c.maxLocals)
    (hd : decode c.code pc = .ok (.invokespecial index, 3)) (hlen : ∀ sig, parseMethodDescriptor y.desc = some sig → argsL.length = sig.parameters.length) (hst : S = argsL.reverse ++ .ref a :: rest) (has : (Value.ref a :: argsL).toArray = as')
    {W : Nat} (hW : 2 * 0 + (rest.map fun v => v.category).sum ≤ W) (hf : rm.frames + 1 ≤ R.frames) (hl : W + (maxL + 11) + rm.locals ≤ R.locals) (hc : cells + rm.cells ≤ R.cells) (hs : slots + rm.slots ≤ R.slots)
    (g : ∀ (v : Option Value) (T' : State) (L : List Loc), Stand p l e R s m args below meth c T' (locs ++ L) (cells + rm.cells) (slots + rm.slots) → Q v T'.heap L → Go p e below K (T'.setTop (mkF m (pc + 3) Ls (v.toList ++ rest)))) : Go p e below K (T.setTop (mkF m pc Ls S)) := by
  obtain ⟨v, _, ⟨T', L', k', n'⟩, -, X', ⟨Lc, hQ, l', y', z'⟩, st⟩ := superBack X hx hZ (y := y) hown w1 w2 w6 w5 hn (backOf (W := W) hM hZ w4 w3 hf hl) eT (Ins.self E) (g := mkF m pc Ls S) rfl hsz w4 (argsL := argsL) (rest := rest) hlen hst hW hd (fun _ _ => ⟨has, eT, hc, hs⟩)
  dsimp only [Pt.U, Pt.locs, Pt.cells, Pt.slots] at X' l' y' z' st hQ
  subst l' y' z'
  exact Go.on st (g v T' Lc X' hQ)
/-! arrays whose components are known -/
variable {cA : ClassId} {ty : FieldType} {z j : Int32} {vs : List Value} {dv : Value}
theorem Go.alen (X : Stand p l e R s m args below meth c T locs cells slots) (hx : p.tables.exec = Jvm.exec) (hZ : Z.Warmed39 s.vm) (eT : T.heap = h) (V : Arv Z h a cA ty z vs dv) (hd : decode c.code pc = .ok (.arraylength, 1))
    (g : Go p e below K (T.setTop (mkF m (pc + 1) Ls (.int z :: rest)))) : Go p e below K (T.setTop (mkF m pc Ls (.ref a :: rest))) := by
  obtain ⟨cl, A, -, S, N, -, -⟩ := V
  subst eT
  refine Go.by (fun t q => X.arraylength hx A.1 (State.isArrayOf_alike hZ.alike A.2.1) (g := mkF m pc Ls (.ref a :: rest)) rfl rfl hd _ q) ?_
  rw [len_of S N]
  exact g
/-- an array of which the length alone is known -/
def Lng (Z : State) (h : Heap) (a : Addr) (n : Int32) : Prop := ∃ (cl : Cell) (ty : FieldType), Arr Z h a cl ty ∧ cl.slots.size = n.toNatClampNeg ∧ ¬ n < 0
theorem Lng.ext (L : Lng Z h a z) (E : Ext h h') : Lng Z h' a z := by obtain ⟨cl, ty, A, r⟩ := L; exact ⟨cl, ty, A.ext E, r⟩
theorem Lng.lt (L : Lng Z h a z) : a < h.size := by obtain ⟨cl, ty, A, r⟩ := L; exact A.lt
theorem Lng.of {cl : Cell} (A : Arr Z h a cl ty) (q : cl.slots.size < 2 ^ 31) (e : cl.slots.size.toInt32 = z) (hz : ¬ z < 0) : Lng Z h a z := by
  refine ⟨cl, ty, A, ?_, hz⟩
  rw [← e]; simp only [Int32.toNatClampNeg, len_toInt q]; rfl
theorem Go.aln (X : Stand p l e R s m args below meth c T locs cells slots) (hx : p.tables.exec = Jvm.exec) (hZ : Z.Warmed39 s.vm) (eT : T.heap = h) (V : Lng Z h a z) (hd : decode c.code pc = .ok (.arraylength, 1))
    (g : Go p e below K (T.setTop (mkF m (pc + 1) Ls (.int z :: rest)))) : Go p e below K (T.setTop (mkF m pc Ls (.ref a :: rest))) := by
  obtain ⟨cl, ty, A, S, N⟩ := V
  subst eT
  refine Go.by (fun t q => X.arraylength hx A.1 (State.isArrayOf_alike hZ.alike A.2.1) (g := mkF m pc Ls (.ref a :: rest)) rfl rfl hd _ q) ?_
  rw [len_of S N]
  exact g
theorem cc (x : Int32) : nar .char x.toUInt32.toUInt16.toUInt32.toInt32 = x.toUInt32.toUInt16.toUInt32.toInt32 := by
  have h := Jvm.Free.XT.narrow_c x
  exact Value.int.inj h
theorem bb (x : Int32) : x.toInt8.toInt32.toInt8.toInt32 = x.toInt8.toInt32 := by simp
theorem Go.bal {v : Value} (X : Stand p l e R s m args below meth c T locs cells slots) (hx : p.tables.exec = Jvm.exec) (hZ : Z.Warmed39 s.vm) (eT : T.heap = h) (V : Arv Z h a cA .byte z vs dv) (hj : ¬ j < 0 ∧ j < z) (hv : vs.getD j.toNatClampNeg dv = v) (hd : decode c.code pc = .ok (.baload, 1))
    (g : Go p e below K (T.setTop (mkF m (pc + 1) Ls (v :: rest)))) : Go p e below K (T.setTop (mkF m pc Ls (.int j :: .ref a :: rest))) := by
  obtain ⟨cl, A, -, S, N, H, -⟩ := V
  subst eT
  have hin := inb_of S hj
  exact Go.by (fun t q => X.baloadBytes hx (j := j) (v := v) A.1 (State.isArrayOf_alike hZ.alike A.2.1) A.2.2 hin (H.at hin hv) (g := mkF m pc Ls (.int j :: .ref a :: rest)) rfl rfl hd _ q) g
theorem Go.cal {v : Value} (X : Stand p l e R s m args below meth c T locs cells slots) (hx : p.tables.exec = Jvm.exec) (hZ : Z.Warmed39 s.vm) (eT : T.heap = h) (V : Arv Z h a cA .char z vs dv) (hj : ¬ j < 0 ∧ j < z) (hv : vs.getD j.toNatClampNeg dv = v) (hd : decode c.code pc = .ok (.caload, 1))
    (g : Go p e below K (T.setTop (mkF m (pc + 1) Ls (v :: rest)))) : Go p e below K (T.setTop (mkF m pc Ls (.int j :: .ref a :: rest))) := by
  obtain ⟨cl, A, -, S, N, H, -⟩ := V
  subst eT
  have hin := inb_of S hj
  exact Go.by (fun t q => X.caload hx (j := j) (v := v) A.1 (State.isArrayOf_alike hZ.alike A.2.1) A.2.2 hin (H.at hin hv) (g := mkF m pc Ls (.int j :: .ref a :: rest)) rfl rfl hd _ q) g
theorem Go.ial {v : Value} (X : Stand p l e R s m args below meth c T locs cells slots) (hx : p.tables.exec = Jvm.exec) (hZ : Z.Warmed39 s.vm) (eT : T.heap = h) (V : Arv Z h a cA .int z vs dv) (hj : ¬ j < 0 ∧ j < z) (hv : vs.getD j.toNatClampNeg dv = v) (hd : decode c.code pc = .ok (.iaload, 1))
    (g : Go p e below K (T.setTop (mkF m (pc + 1) Ls (v :: rest)))) : Go p e below K (T.setTop (mkF m pc Ls (.int j :: .ref a :: rest))) := by
  obtain ⟨cl, A, -, S, N, H, -⟩ := V
  subst eT
  have hin := inb_of S hj
  exact Go.by (fun t q => X.iaload hx (j := j) (v := v) A.1 (State.isArrayOf_alike hZ.alike A.2.1) A.2.2 hin (H.at hin hv) (g := mkF m pc Ls (.int j :: .ref a :: rest)) rfl rfl hd _ q) g
theorem Go.aal {v : Value} (X : Stand p l e R s m args below meth c T locs cells slots) (hx : p.tables.exec = Jvm.exec) (hZ : Z.Warmed39 s.vm) (eT : T.heap = h) (V : Arv Z h a cA ty z vs dv) (hty : ty.isReference = true) (hj : ¬ j < 0 ∧ j < z) (hv : vs.getD j.toNatClampNeg dv = v) (hd : decode c.code pc = .ok (.aaload, 1))
    (g : Go p e below K (T.setTop (mkF m (pc + 1) Ls (v :: rest)))) : Go p e below K (T.setTop (mkF m pc Ls (.int j :: .ref a :: rest))) := by
  obtain ⟨cl, A, -, S, N, H, -⟩ := V
  subst eT
  have hin := inb_of S hj
  exact Go.by (fun t q => X.aaload hx (j := j) (v := v) A.1 (State.isArrayOf_alike hZ.alike A.2.1) hty A.2.2 hin (H.at hin hv) (g := mkF m pc Ls (.int j :: .ref a :: rest)) rfl rfl hd _ q) g
theorem Go.bst {x : Int32} {i : Nat} (X : Stand p l e R s m args below meth c T locs cells slots) (hx : p.tables.exec = Jvm.exec) (hZ : Z.Warmed39 s.vm) (eT : T.heap = h) (V : Arv Z h a cA .byte z vs dv) (hj : ¬ j < 0 ∧ j < z) (hi : j.toNatClampNeg = i) (hl : i < vs.length) (hd : decode c.code pc = .ok (.bastore, 1))
    (g : ∀ (T' : State) (h' : Heap), Stand p l e R s m args below meth c T' (locs ++ [⟨a, j.toNatClampNeg⟩]) cells slots → T'.heap = h' → Wr h h' a j.toNatClampNeg (.int x.toInt8.toInt32) → Arv Z h' a cA .byte z (vs.set i (.int x.toInt8.toInt32)) dv → Go p e below K (T'.setTop (mkF m (pc + 1) Ls rest))) : Go p e below K (T.setTop (mkF m pc Ls (.int x :: .int j :: .ref a :: rest))) := by
  obtain ⟨cl, A, q1, S, N, H, G⟩ := V
  obtain ⟨T', h', X', e', W, st⟩ := stB X hx hZ eT A (j := j) (x := x) (inb_of S hj) (g := mkF m pc Ls (.int x :: .int j :: .ref a :: rest)) rfl rfl hd
  exact Go.by st (g T' h' X' e' W (Arv.set A q1 S N H G (fits_nar_byte _) W i hi hl))
theorem Go.cst {x : Int32} {i : Nat} (X : Stand p l e R s m args below meth c T locs cells slots) (hx : p.tables.exec = Jvm.exec) (hZ : Z.Warmed39 s.vm) (eT : T.heap = h) (V : Arv Z h a cA .char z vs dv) (hj : ¬ j < 0 ∧ j < z) (hi : j.toNatClampNeg = i) (hl : i < vs.length) (hd : decode c.code pc = .ok (.castore, 1))
    (g : ∀ (T' : State) (h' : Heap), Stand p l e R s m args below meth c T' (locs ++ [⟨a, j.toNatClampNeg⟩]) cells slots → T'.heap = h' → Wr h h' a j.toNatClampNeg (.int (nar .char x)) → Arv Z h' a cA .char z (vs.set i (.int (nar .char x))) dv → Go p e below K (T'.setTop (mkF m (pc + 1) Ls rest))) : Go p e below K (T.setTop (mkF m pc Ls (.int x :: .int j :: .ref a :: rest))) := by
  obtain ⟨cl, A, q1, S, N, H, G⟩ := V
  obtain ⟨T', h', X', e', W, st⟩ := stC X hx hZ eT A (j := j) (x := x) (inb_of S hj) (g := mkF m pc Ls (.int x :: .int j :: .ref a :: rest)) rfl rfl hd
  exact Go.by st (g T' h' X' e' W (Arv.set A q1 S N H G (fits_nar_char _) W i hi hl))
theorem Go.ist {x : Int32} {i : Nat} (X : Stand p l e R s m args below meth c T locs cells slots) (hx : p.tables.exec = Jvm.exec) (hZ : Z.Warmed39 s.vm) (eT : T.heap = h) (V : Arv Z h a cA .int z vs dv) (hj : ¬ j < 0 ∧ j < z) (hi : j.toNatClampNeg = i) (hl : i < vs.length) (hd : decode c.code pc = .ok (.iastore, 1))
    (g : ∀ (T' : State) (h' : Heap), Stand p l e R s m args below meth c T' (locs ++ [⟨a, j.toNatClampNeg⟩]) cells slots → T'.heap = h' → Wr h h' a j.toNatClampNeg (.int x) → Arv Z h' a cA .int z (vs.set i (.int x)) dv → Go p e below K (T'.setTop (mkF m (pc + 1) Ls rest))) : Go p e below K (T.setTop (mkF m pc Ls (.int x :: .int j :: .ref a :: rest))) := by
  obtain ⟨cl, A, q1, S, N, H, G⟩ := V
  obtain ⟨T', h', X', e', W, st⟩ := stI X hx hZ eT A (j := j) (x := x) (inb_of S hj) (g := mkF m pc Ls (.int x :: .int j :: .ref a :: rest)) rfl rfl hd
  exact Go.by st (g T' h' X' e' W (Arv.set A q1 S N H G rfl W i hi hl))
/-! from the case's words -/
theorem sta_exa {C f d K : String} (hx : (Cond.exactly (Term.static C f d) K).value args s none s [] = some true) (w1 : (Cond.initialized C).before args s = true) (w2 : (Cond.laysStatic C f d).before args s = true) : ∃ a, (Term.static C f d).eval args s none [] s = some (.ref a) ∧ Sta s s.heap C f d (.ref a) ∧ Exa s s.heap a K := by
  obtain ⟨a, ev⟩ := exa_v hx
  exact ⟨a, ev, Sta.start ev (Or.inr ⟨w1, w2⟩), Exa.start ev hx⟩
theorem fld_int {t : Term} {C f d : String} {z : Int32} (ev : t.eval args s none [] s = some (.ref a)) (hx : (Cond.eq (Term.field t C f d) (Term.int z)).value args s none s [] = some true) : Fld s s.heap a C f d (.int z) := by
  obtain ⟨x, y, e1, e2, k1, k2⟩ := cmp_v (Or.inl hx)
  have e3 : y = .int z := by rw [Term.int_eval] at e2; exact (Option.some.inj e2).symm
  subst e3
  obtain ⟨q, rfl⟩ : ∃ q, x = .int q := k2
  have e4 : q = z := by simpa [Cond.value, e1, e2] using hx
  subst e4
  rw [fld_at ev] at e1
  exact Fld.start e1
theorem eq_int {t : Term} {x z : Int32} (ev : t.eval args s none [] s = some (.int x)) (h : (Cond.eq t (Term.int z)).before args s = true) : x = z := by
  have q := Cond.before_iff.mp h
  simpa [Cond.value, ev, Term.int_eval] using q
theorem fld_ref {t : Term} {C f d : String} (ev : t.eval args s none [] s = some (.ref a)) (ev2 : (Term.field t C f d).eval args s none [] s = some (.ref b)) : Fld s s.heap a C f d (.ref b) := by
  rw [fld_at ev] at ev2; exact Fld.start ev2
theorem fld_null {t : Term} {C f d : String} (ev : t.eval args s none [] s = some (.ref a)) (hx : (Cond.eq (Term.field t C f d) Term.null).value args s none s [] = some true) : Fld s s.heap a C f d .null := by
  have q := null_v hx
  rw [fld_at ev] at q; exact Fld.start q
theorem fld_same {t u : Term} {C f d : String} (ev : t.eval args s none [] s = some (.ref a)) (ev2 : u.eval args s none [] s = some (.ref b)) (hx : (Cond.eq (Term.field t C f d) u).value args s none s [] = some true) : Fld s s.heap a C f d (.ref b) := by
  obtain ⟨x, y, e1, e2, k1, k2⟩ := cmp_v (Or.inl hx)
  cases ev2.symm.trans e2
  have hr : x.isRef = true := by
    have := k2
    simp [Kin] at this
    exact this.2
  rw [eq_R e1 e2 hr rfl] at hx
  have e3 : x = .ref b := by simpa using hx
  subst e3
  exact fld_ref ev e1
theorem elem_int {t : Term} {i v : Int32} {cl : Cell} {ty : FieldType} (ev : t.eval args s none [] s = some (.ref a)) (A : Arr s s.heap a cl ty) (hx : (Cond.eq (Term.elem t (Term.int i)) (Term.int v)).value args s none s [] = some true) : cl.slots[i.toNatClampNeg]? = some (.int v) := by
  obtain ⟨x, y, e1, e2, k1, k2⟩ := cmp_v (Or.inl hx)
  have e3 : y = .int v := by rw [Term.int_eval] at e2; exact (Option.some.inj e2).symm
  subst e3
  obtain ⟨q, rfl⟩ : ∃ q, x = .int q := k2
  have e4 : q = v := eq_int e1 (Cond.before_iff.mpr hx)
  subst e4
  exact (elem_in e1 ev (Term.int_eval _) A.1).2
theorem sta_int {C f d : String} (h0 : (Cond.initializedFor C f d).before args s = true) (h1 : (Cond.isInt (Term.static C f d)).before args s = true) : ∃ x, (Term.static C f d).eval args s none [] s = some (.int x) ∧ Sta s s.heap C f d (.int x) := by
  obtain ⟨x, ev⟩ := is_v (Cond.before_iff.mp h1)
  exact ⟨x, ev, Sta.start ev (Or.inl h0)⟩
theorem sta_ref {C f d : String} (h0 : (Cond.initializedFor C f d).before args s = true) (h1 : (Cond.isRef (Term.static C f d)).before args s = true) : ∃ x, (Term.static C f d).eval args s none [] s = some x ∧ x.isRef = true ∧ Sta s s.heap C f d x := by
  obtain ⟨x, ev, hr⟩ := isR_v (Cond.before_iff.mp h1)
  exact ⟨x, ev, hr, Sta.start ev (Or.inl h0)⟩
theorem ne_int {t : Term} {x z : Int32} (ev : t.eval args s none [] s = some (.int x)) (h : (Cond.not (Cond.eq t (Term.int z))).before args s = true) : ¬ x = z := by
  have q := not_v (Cond.before_iff.mp h)
  intro e; subst e
  rw [eq_i ev (Term.int_eval _) rfl] at q
  cases q
/-! a class whose superclasses are named is not one that can be instantiated and isn't among them -/
theorem ns_root {O D : String} {nn : Nat} (w : (Cond.noSuperclass O).before a0 Z = true) (wk : (Cond.instantiable D nn).before a0 Z = true) (hn : O ≠ D) : NS Z O D := by
  obtain ⟨c1, k1, q1, q2, q3, -, -⟩ := Cond.noSuperclass_spec w
  obtain ⟨t, -, g1, -⟩ := Cond.instantiable_spec wk
  refine ⟨c1, t, q1, g1, fun fuel => ?_⟩
  have ne := ids_ne q1 g1 hn
  cases fuel <;> simp [Vm.isSubclassAux, ne, q2, q3]
theorem ns_no {C S D : String} {nn : Nat} (w : (Cond.superclass C S).before a0 Z = true) (wk : (Cond.instantiable D nn).before a0 Z = true) (n : NS Z C D) (hn : C ≠ D) : ∃ c t, Z.vm.findClass C = some c ∧ Z.vm.findClass D = some t ∧ Z.vm.assignable c t = false := by
  obtain ⟨c1, t, q0, g0, n3⟩ := n
  obtain ⟨p1, k1, kp, q1, q2, q3, q4, q5, -, q7⟩ := Cond.superclass_spec q0 w
  obtain ⟨t', k2, g1, g2, g3, g4, -⟩ := Cond.instantiable_spec wk
  cases g0.symm.trans g1
  have ne := ids_ne q0 g0 hn
  have g5 : k2.isInterface = false := by simpa using (Bool.or_eq_false_iff.mp g4).1
  refine ⟨c1, t, q0, g0, ?_⟩
  show Z.vm.assignableAux (255 + 1) c1 t = false
  simp [Vm.assignableAux, ne, q2, g2, q5, g3, g5, Vm.isSubclass, n3]
end Own
end Jvm.RoadKit
namespace Jvm.RoadKit
open Sem ClassFile Op Lib Jvm.Stand Jvm.Free Jvm.LawKit
section OwnSteps
variable {p : Program} {l : Launch} {e : Env} {R : Room} {s : State} {m : MethodId} {args : Array Value} {below : List Frame} {meth : Method} {c : Code} {T : State} {locs : List Loc} {cells slots : Nat} {K : State → Outcome → Prop} {pc q : Nat} {Ls l' : Array Slot} {S : List Value}
theorem Go.iloadN {k : Fin 4} {v : Int32} (X : Stand p l e R s m args below meth c T locs cells slots) (hx : p.tables.exec = Jvm.exec) (hd : decode c.code pc = .ok (.iload_n k, 1)) (hl : Ls[k.val]? = some (.val (.int v))) (hp : pc + 1 = q) (g : Go p e below K (T.setTop (mkF m q Ls (.int v :: S)))) : Go p e below K (T.setTop (mkF m pc Ls S)) := by
  subst hp
  exact Go.by (fun t z => XS.iloadN X.here hx rfl hd hl z) g
theorem Go.iload {k : Nat} {v : Int32} (X : Stand p l e R s m args below meth c T locs cells slots) (hx : p.tables.exec = Jvm.exec) (hd : decode c.code pc = .ok (.iload k, 2)) (hl : Ls[k]? = some (.val (.int v))) (hp : pc + 2 = q) (g : Go p e below K (T.setTop (mkF m q Ls (.int v :: S)))) : Go p e below K (T.setTop (mkF m pc Ls S)) := by
  subst hp
  exact Go.by (fun t z => XS.iload X.here hx rfl hd hl z) g
theorem Go.istoreN {k : Fin 4} {v : Int32} (X : Stand p l e R s m args below meth c T locs cells slots) (hx : p.tables.exec = Jvm.exec) (hd : decode c.code pc = .ok (.istore_n k, 1)) (hl : storeLocals Ls k.val (.int v) = some l') (hp : pc + 1 = q) (g : Go p e below K (T.setTop (mkF m q l' S))) : Go p e below K (T.setTop (mkF m pc Ls (.int v :: S))) := by
  subst hp
  exact Go.by (fun t z => XS.istoreN X.here hx rfl hd rfl hl z) g
theorem Go.istore {k : Nat} {v : Int32} (X : Stand p l e R s m args below meth c T locs cells slots) (hx : p.tables.exec = Jvm.exec) (hd : decode c.code pc = .ok (.istore k, 2)) (hl : storeLocals Ls k (.int v) = some l') (hp : pc + 2 = q) (g : Go p e below K (T.setTop (mkF m q l' S))) : Go p e below K (T.setTop (mkF m pc Ls (.int v :: S))) := by
  subst hp
  exact Go.by (fun t z => XS.istore X.here hx rfl hd rfl hl z) g
theorem Go.lloadN {k : Fin 4} {v : Int64} (X : Stand p l e R s m args below meth c T locs cells slots) (hx : p.tables.exec = Jvm.exec) (hd : decode c.code pc = .ok (.lload_n k, 1)) (hl : Ls[k.val]? = some (.val (.long v))) (hp : pc + 1 = q) (g : Go p e below K (T.setTop (mkF m q Ls (.long v :: S)))) : Go p e below K (T.setTop (mkF m pc Ls S)) := by
  subst hp
  exact Go.by (fun t z => XS.lloadN X.here hx rfl hd hl z) g
theorem Go.lload {k : Nat} {v : Int64} (X : Stand p l e R s m args below meth c T locs cells slots) (hx : p.tables.exec = Jvm.exec) (hd : decode c.code pc = .ok (.lload k, 2)) (hl : Ls[k]? = some (.val (.long v))) (hp : pc + 2 = q) (g : Go p e below K (T.setTop (mkF m q Ls (.long v :: S)))) : Go p e below K (T.setTop (mkF m pc Ls S)) := by
  subst hp
  exact Go.by (fun t z => XS.lload X.here hx rfl hd hl z) g
theorem Go.lstoreN {k : Fin 4} {v : Int64} (X : Stand p l e R s m args below meth c T locs cells slots) (hx : p.tables.exec = Jvm.exec) (hd : decode c.code pc = .ok (.lstore_n k, 1)) (hl : storeLocals Ls k.val (.long v) = some l') (hp : pc + 1 = q) (g : Go p e below K (T.setTop (mkF m q l' S))) : Go p e below K (T.setTop (mkF m pc Ls (.long v :: S))) := by
  subst hp
  exact Go.by (fun t z => XS.lstoreN X.here hx rfl hd rfl hl z) g
theorem Go.lstore {k : Nat} {v : Int64} (X : Stand p l e R s m args below meth c T locs cells slots) (hx : p.tables.exec = Jvm.exec) (hd : decode c.code pc = .ok (.lstore k, 2)) (hl : storeLocals Ls k (.long v) = some l') (hp : pc + 2 = q) (g : Go p e below K (T.setTop (mkF m q l' S))) : Go p e below K (T.setTop (mkF m pc Ls (.long v :: S))) := by
  subst hp
  exact Go.by (fun t z => XS.lstore X.here hx rfl hd rfl hl z) g
theorem Go.aloadN {k : Fin 4} {v : Value} (X : Stand p l e R s m args below meth c T locs cells slots) (hx : p.tables.exec = Jvm.exec) (hd : decode c.code pc = .ok (.aload_n k, 1)) (hl : Ls[k.val]? = some (.val v)) (hv : v.isRef = true) (hp : pc + 1 = q) (g : Go p e below K (T.setTop (mkF m q Ls (v :: S)))) : Go p e below K (T.setTop (mkF m pc Ls S)) := by
  subst hp
  exact Go.by (fun t z => XS.aloadN X.here hx rfl hd hl hv z) g
theorem Go.aload {k : Nat} {v : Value} (X : Stand p l e R s m args below meth c T locs cells slots) (hx : p.tables.exec = Jvm.exec) (hd : decode c.code pc = .ok (.aload k, 2)) (hl : Ls[k]? = some (.val v)) (hv : v.isRef = true) (hp : pc + 2 = q) (g : Go p e below K (T.setTop (mkF m q Ls (v :: S)))) : Go p e below K (T.setTop (mkF m pc Ls S)) := by
  subst hp
  exact Go.by (fun t z => XS.aload X.here hx rfl hd hl hv z) g
theorem Go.astoreN {k : Fin 4} {v : Value} (X : Stand p l e R s m args below meth c T locs cells slots) (hx : p.tables.exec = Jvm.exec) (hd : decode c.code pc = .ok (.astore_n k, 1)) (hv : v.isRef = true) (hl : storeLocals Ls k.val v = some l') (hp : pc + 1 = q) (g : Go p e below K (T.setTop (mkF m q l' S))) : Go p e below K (T.setTop (mkF m pc Ls (v :: S))) := by
  subst hp
  exact Go.by (fun t z => XS.astoreN X.here hx rfl hd rfl hv hl z) g
theorem Go.astore {k : Nat} {v : Value} (X : Stand p l e R s m args below meth c T locs cells slots) (hx : p.tables.exec = Jvm.exec) (hd : decode c.code pc = .ok (.astore k, 2)) (hv : v.isRef = true) (hl : storeLocals Ls k v = some l') (hp : pc + 2 = q) (g : Go p e below K (T.setTop (mkF m q l' S))) : Go p e below K (T.setTop (mkF m pc Ls (v :: S))) := by
  subst hp
  exact Go.by (fun t z => XS.astore X.here hx rfl hd rfl hv hl z) g
theorem Go.iconst {i : Int} {r : Int32} (X : Stand p l e R s m args below meth c T locs cells slots) (hx : p.tables.exec = Jvm.exec) (hd : decode c.code pc = .ok (.iconst i, 1)) (hr : Int32.ofInt i = r) (hp : pc + 1 = q) (g : Go p e below K (T.setTop (mkF m q Ls (.int r :: S)))) : Go p e below K (T.setTop (mkF m pc Ls S)) := by
  subst hp hr
  exact Go.by (fun t z => XS.iconst X.here hx rfl hd z) g
theorem Go.bipush {i : Int} {r : Int32} (X : Stand p l e R s m args below meth c T locs cells slots) (hx : p.tables.exec = Jvm.exec) (hd : decode c.code pc = .ok (.bipush i, 2)) (hr : (Int8.ofInt i).toInt32 = r) (hp : pc + 2 = q) (g : Go p e below K (T.setTop (mkF m q Ls (.int r :: S)))) : Go p e below K (T.setTop (mkF m pc Ls S)) := by
  subst hp hr
  exact Go.by (fun t z => XS.bipush X.here hx rfl hd z) g
theorem Go.sipush {i : Int} {r : Int32} (X : Stand p l e R s m args below meth c T locs cells slots) (hx : p.tables.exec = Jvm.exec) (hd : decode c.code pc = .ok (.sipush i, 3)) (hr : (Int16.ofInt i).toInt32 = r) (hp : pc + 3 = q) (g : Go p e below K (T.setTop (mkF m q Ls (.int r :: S)))) : Go p e below K (T.setTop (mkF m pc Ls S)) := by
  subst hp hr
  exact Go.by (fun t z => XS.sipush X.here hx rfl hd z) g
theorem Go.lconst {k : Fin 2} {r : Int64} (X : Stand p l e R s m args below meth c T locs cells slots) (hx : p.tables.exec = Jvm.exec) (hd : decode c.code pc = .ok (.lconst k, 1)) (hr : Int64.ofNat k = r) (hp : pc + 1 = q) (g : Go p e below K (T.setTop (mkF m q Ls (.long r :: S)))) : Go p e below K (T.setTop (mkF m pc Ls S)) := by
  subst hp hr
  exact Go.by (fun t z => XS.lconst X.here hx rfl hd z) g
theorem Go.aconst_null  (X : Stand p l e R s m args below meth c T locs cells slots) (hx : p.tables.exec = Jvm.exec) (hd : decode c.code pc = .ok (.aconst_null, 1)) (hp : pc + 1 = q) (g : Go p e below K (T.setTop (mkF m q Ls (.null :: S)))) : Go p e below K (T.setTop (mkF m pc Ls S)) := by
  subst hp
  exact Go.by (fun t z => XS.aconstNull X.here hx rfl hd z) g
theorem Go.iadd {x y r : Int32} (X : Stand p l e R s m args below meth c T locs cells slots) (hx : p.tables.exec = Jvm.exec) (hd : decode c.code pc = .ok (.iadd, 1)) (hr : x + y = r) (hp : pc + 1 = q) (g : Go p e below K (T.setTop (mkF m q Ls (.int r :: S)))) : Go p e below K (T.setTop (mkF m pc Ls (.int y :: .int x :: S))) := by
  subst hp hr
  exact Go.by (fun t z => XS.iadd X.here hx rfl hd rfl z) g
theorem Go.ladd {x y r : Int64} (X : Stand p l e R s m args below meth c T locs cells slots) (hx : p.tables.exec = Jvm.exec) (hd : decode c.code pc = .ok (.ladd, 1)) (hr : x + y = r) (hp : pc + 1 = q) (g : Go p e below K (T.setTop (mkF m q Ls (.long r :: S)))) : Go p e below K (T.setTop (mkF m pc Ls (.long y :: .long x :: S))) := by
  subst hp hr
  exact Go.by (fun t z => XS.ladd X.here hx rfl hd rfl z) g
theorem Go.isub {x y r : Int32} (X : Stand p l e R s m args below meth c T locs cells slots) (hx : p.tables.exec = Jvm.exec) (hd : decode c.code pc = .ok (.isub, 1)) (hr : x - y = r) (hp : pc + 1 = q) (g : Go p e below K (T.setTop (mkF m q Ls (.int r :: S)))) : Go p e below K (T.setTop (mkF m pc Ls (.int y :: .int x :: S))) := by
  subst hp hr
  exact Go.by (fun t z => XS.isub X.here hx rfl hd rfl z) g
theorem Go.lsub {x y r : Int64} (X : Stand p l e R s m args below meth c T locs cells slots) (hx : p.tables.exec = Jvm.exec) (hd : decode c.code pc = .ok (.lsub, 1)) (hr : x - y = r) (hp : pc + 1 = q) (g : Go p e below K (T.setTop (mkF m q Ls (.long r :: S)))) : Go p e below K (T.setTop (mkF m pc Ls (.long y :: .long x :: S))) := by
  subst hp hr
  exact Go.by (fun t z => XS.lsub X.here hx rfl hd rfl z) g
theorem Go.imul {x y r : Int32} (X : Stand p l e R s m args below meth c T locs cells slots) (hx : p.tables.exec = Jvm.exec) (hd : decode c.code pc = .ok (.imul, 1)) (hr : x * y = r) (hp : pc + 1 = q) (g : Go p e below K (T.setTop (mkF m q Ls (.int r :: S)))) : Go p e below K (T.setTop (mkF m pc Ls (.int y :: .int x :: S))) := by
  subst hp hr
  exact Go.by (fun t z => XS.imul X.here hx rfl hd rfl z) g
theorem Go.lmul {x y r : Int64} (X : Stand p l e R s m args below meth c T locs cells slots) (hx : p.tables.exec = Jvm.exec) (hd : decode c.code pc = .ok (.lmul, 1)) (hr : x * y = r) (hp : pc + 1 = q) (g : Go p e below K (T.setTop (mkF m q Ls (.long r :: S)))) : Go p e below K (T.setTop (mkF m pc Ls (.long y :: .long x :: S))) := by
  subst hp hr
  exact Go.by (fun t z => XS.lmul X.here hx rfl hd rfl z) g
theorem Go.iand {x y r : Int32} (X : Stand p l e R s m args below meth c T locs cells slots) (hx : p.tables.exec = Jvm.exec) (hd : decode c.code pc = .ok (.iand, 1)) (hr : x &&& y = r) (hp : pc + 1 = q) (g : Go p e below K (T.setTop (mkF m q Ls (.int r :: S)))) : Go p e below K (T.setTop (mkF m pc Ls (.int y :: .int x :: S))) := by
  subst hp hr
  exact Go.by (fun t z => XS.iand X.here hx rfl hd rfl z) g
theorem Go.land {x y r : Int64} (X : Stand p l e R s m args below meth c T locs cells slots) (hx : p.tables.exec = Jvm.exec) (hd : decode c.code pc = .ok (.land, 1)) (hr : x &&& y = r) (hp : pc + 1 = q) (g : Go p e below K (T.setTop (mkF m q Ls (.long r :: S)))) : Go p e below K (T.setTop (mkF m pc Ls (.long y :: .long x :: S))) := by
  subst hp hr
  exact Go.by (fun t z => XS.land X.here hx rfl hd rfl z) g
theorem Go.ior {x y r : Int32} (X : Stand p l e R s m args below meth c T locs cells slots) (hx : p.tables.exec = Jvm.exec) (hd : decode c.code pc = .ok (.ior, 1)) (hr : x ||| y = r) (hp : pc + 1 = q) (g : Go p e below K (T.setTop (mkF m q Ls (.int r :: S)))) : Go p e below K (T.setTop (mkF m pc Ls (.int y :: .int x :: S))) := by
  subst hp hr
  exact Go.by (fun t z => XS.ior X.here hx rfl hd rfl z) g
theorem Go.lor {x y r : Int64} (X : Stand p l e R s m args below meth c T locs cells slots) (hx : p.tables.exec = Jvm.exec) (hd : decode c.code pc = .ok (.lor, 1)) (hr : x ||| y = r) (hp : pc + 1 = q) (g : Go p e below K (T.setTop (mkF m q Ls (.long r :: S)))) : Go p e below K (T.setTop (mkF m pc Ls (.long y :: .long x :: S))) := by
  subst hp hr
  exact Go.by (fun t z => XS.lor X.here hx rfl hd rfl z) g
theorem Go.ixor {x y r : Int32} (X : Stand p l e R s m args below meth c T locs cells slots) (hx : p.tables.exec = Jvm.exec) (hd : decode c.code pc = .ok (.ixor, 1)) (hr : x ^^^ y = r) (hp : pc + 1 = q) (g : Go p e below K (T.setTop (mkF m q Ls (.int r :: S)))) : Go p e below K (T.setTop (mkF m pc Ls (.int y :: .int x :: S))) := by
  subst hp hr
  exact Go.by (fun t z => XS.ixor X.here hx rfl hd rfl z) g
theorem Go.lxor {x y r : Int64} (X : Stand p l e R s m args below meth c T locs cells slots) (hx : p.tables.exec = Jvm.exec) (hd : decode c.code pc = .ok (.lxor, 1)) (hr : x ^^^ y = r) (hp : pc + 1 = q) (g : Go p e below K (T.setTop (mkF m q Ls (.long r :: S)))) : Go p e below K (T.setTop (mkF m pc Ls (.long y :: .long x :: S))) := by
  subst hp hr
  exact Go.by (fun t z => XS.lxor X.here hx rfl hd rfl z) g
theorem Go.idiv {x y r : Int32} (X : Stand p l e R s m args below meth c T locs cells slots) (hx : p.tables.exec = Jvm.exec) (hd : decode c.code pc = .ok (.idiv, 1)) (hy : y ≠ 0) (hr : x / y = r) (hp : pc + 1 = q) (g : Go p e below K (T.setTop (mkF m q Ls (.int r :: S)))) : Go p e below K (T.setTop (mkF m pc Ls (.int y :: .int x :: S))) := by
  subst hp hr
  exact Go.by (fun t z => XS.idiv X.here hx rfl hd rfl hy z) g
theorem Go.ineg {x r : Int32} (X : Stand p l e R s m args below meth c T locs cells slots) (hx : p.tables.exec = Jvm.exec) (hd : decode c.code pc = .ok (.ineg, 1)) (hr : -x = r) (hp : pc + 1 = q) (g : Go p e below K (T.setTop (mkF m q Ls (.int r :: S)))) : Go p e below K (T.setTop (mkF m pc Ls (.int x :: S))) := by
  subst hp hr
  exact Go.by (fun t z => XS.ineg X.here hx rfl hd rfl z) g
theorem Go.ldiv {x y r : Int64} (X : Stand p l e R s m args below meth c T locs cells slots) (hx : p.tables.exec = Jvm.exec) (hd : decode c.code pc = .ok (.ldiv, 1)) (hy : y ≠ 0) (hr : x / y = r) (hp : pc + 1 = q) (g : Go p e below K (T.setTop (mkF m q Ls (.long r :: S)))) : Go p e below K (T.setTop (mkF m pc Ls (.long y :: .long x :: S))) := by
  subst hp hr
  exact Go.by (fun t z => XS.ldiv X.here hx rfl hd rfl hy z) g
theorem Go.lneg {x r : Int64} (X : Stand p l e R s m args below meth c T locs cells slots) (hx : p.tables.exec = Jvm.exec) (hd : decode c.code pc = .ok (.lneg, 1)) (hr : -x = r) (hp : pc + 1 = q) (g : Go p e below K (T.setTop (mkF m q Ls (.long r :: S)))) : Go p e below K (T.setTop (mkF m pc Ls (.long x :: S))) := by
  subst hp hr
  exact Go.by (fun t z => XS.lneg X.here hx rfl hd rfl z) g
theorem Go.irem {x y r : Int32} (X : Stand p l e R s m args below meth c T locs cells slots) (hx : p.tables.exec = Jvm.exec) (hd : decode c.code pc = .ok (.irem, 1)) (hy : y ≠ 0) (hr : x % y = r) (hp : pc + 1 = q) (g : Go p e below K (T.setTop (mkF m q Ls (.int r :: S)))) : Go p e below K (T.setTop (mkF m pc Ls (.int y :: .int x :: S))) := by
  subst hp hr
  exact Go.by (fun t z => iremM X hx (g := mkF m pc Ls (.int y :: .int x :: S)) rfl hd rfl hy z) g
theorem Go.lrem {x y r : Int64} (X : Stand p l e R s m args below meth c T locs cells slots) (hx : p.tables.exec = Jvm.exec) (hd : decode c.code pc = .ok (.lrem, 1)) (hy : y ≠ 0) (hr : x - (x / y) * y = r) (hp : pc + 1 = q) (g : Go p e below K (T.setTop (mkF m q Ls (.long r :: S)))) : Go p e below K (T.setTop (mkF m pc Ls (.long y :: .long x :: S))) := by
  subst hp hr
  exact Go.by (fun t z => XS.lrem X.here hx rfl hd rfl hy z) g
theorem Go.ishl {x y r : Int32} (X : Stand p l e R s m args below meth c T locs cells slots) (hx : p.tables.exec = Jvm.exec) (hd : decode c.code pc = .ok (.ishl, 1)) (hr : x <<< (y &&& 31) = r) (hp : pc + 1 = q) (g : Go p e below K (T.setTop (mkF m q Ls (.int r :: S)))) : Go p e below K (T.setTop (mkF m pc Ls (.int y :: .int x :: S))) := by
  subst hp hr
  exact Go.by (fun t z => XS.ishl X.here hx rfl hd rfl z) g
theorem Go.ishr {x y r : Int32} (X : Stand p l e R s m args below meth c T locs cells slots) (hx : p.tables.exec = Jvm.exec) (hd : decode c.code pc = .ok (.ishr, 1)) (hr : x >>> (y &&& 31) = r) (hp : pc + 1 = q) (g : Go p e below K (T.setTop (mkF m q Ls (.int r :: S)))) : Go p e below K (T.setTop (mkF m pc Ls (.int y :: .int x :: S))) := by
  subst hp hr
  exact Go.by (fun t z => XS.ishr X.here hx rfl hd rfl z) g
theorem Go.iushr {x y r : Int32} (X : Stand p l e R s m args below meth c T locs cells slots) (hx : p.tables.exec = Jvm.exec) (hd : decode c.code pc = .ok (.iushr, 1)) (hr : (x.toUInt32 >>> (y &&& 31).toUInt32).toInt32 = r) (hp : pc + 1 = q) (g : Go p e below K (T.setTop (mkF m q Ls (.int r :: S)))) : Go p e below K (T.setTop (mkF m pc Ls (.int y :: .int x :: S))) := by
  subst hp hr
  exact Go.by (fun t z => XS.iushr X.here hx rfl hd rfl z) g
theorem Go.lshl {x : Int64} {y : Int32} {r : Int64} (X : Stand p l e R s m args below meth c T locs cells slots) (hx : p.tables.exec = Jvm.exec) (hd : decode c.code pc = .ok (.lshl, 1)) (hr : x <<< (y &&& 0x3f).toInt64 = r) (hp : pc + 1 = q) (g : Go p e below K (T.setTop (mkF m q Ls (.long r :: S)))) : Go p e below K (T.setTop (mkF m pc Ls (.int y :: .long x :: S))) := by
  subst hp hr
  exact Go.by (fun t z => XS.lshl X.here hx rfl hd rfl z) g
theorem Go.lshr {x : Int64} {y : Int32} {r : Int64} (X : Stand p l e R s m args below meth c T locs cells slots) (hx : p.tables.exec = Jvm.exec) (hd : decode c.code pc = .ok (.lshr, 1)) (hr : x >>> (y &&& 0x3f).toInt64 = r) (hp : pc + 1 = q) (g : Go p e below K (T.setTop (mkF m q Ls (.long r :: S)))) : Go p e below K (T.setTop (mkF m pc Ls (.int y :: .long x :: S))) := by
  subst hp hr
  exact Go.by (fun t z => XS.lshr X.here hx rfl hd rfl z) g
theorem Go.lushr {x : Int64} {y : Int32} {r : Int64} (X : Stand p l e R s m args below meth c T locs cells slots) (hx : p.tables.exec = Jvm.exec) (hd : decode c.code pc = .ok (.lushr, 1)) (hr : (x.toUInt64 >>> (y &&& 0x3f).toInt64.toUInt64).toInt64 = r) (hp : pc + 1 = q) (g : Go p e below K (T.setTop (mkF m q Ls (.long r :: S)))) : Go p e below K (T.setTop (mkF m pc Ls (.int y :: .long x :: S))) := by
  subst hp hr
  exact Go.by (fun t z => XS.lushr X.here hx rfl hd rfl z) g
theorem Go.i2b {x : Int32} {r : Int32} (X : Stand p l e R s m args below meth c T locs cells slots) (hx : p.tables.exec = Jvm.exec) (hd : decode c.code pc = .ok (.i2b, 1)) (hr : x.toInt8.toInt32 = r) (hp : pc + 1 = q) (g : Go p e below K (T.setTop (mkF m q Ls (.int r :: S)))) : Go p e below K (T.setTop (mkF m pc Ls (.int x :: S))) := by
  subst hp hr
  exact Go.by (fun t z => XS.i2b X.here hx rfl hd rfl z) g
theorem Go.i2c {x : Int32} {r : Int32} (X : Stand p l e R s m args below meth c T locs cells slots) (hx : p.tables.exec = Jvm.exec) (hd : decode c.code pc = .ok (.i2c, 1)) (hr : x.toUInt32.toUInt16.toUInt32.toInt32 = r) (hp : pc + 1 = q) (g : Go p e below K (T.setTop (mkF m q Ls (.int r :: S)))) : Go p e below K (T.setTop (mkF m pc Ls (.int x :: S))) := by
  subst hp hr
  exact Go.by (fun t z => XS.i2c X.here hx rfl hd rfl z) g
theorem Go.i2s {x : Int32} {r : Int32} (X : Stand p l e R s m args below meth c T locs cells slots) (hx : p.tables.exec = Jvm.exec) (hd : decode c.code pc = .ok (.i2s, 1)) (hr : x.toInt16.toInt32 = r) (hp : pc + 1 = q) (g : Go p e below K (T.setTop (mkF m q Ls (.int r :: S)))) : Go p e below K (T.setTop (mkF m pc Ls (.int x :: S))) := by
  subst hp hr
  exact Go.by (fun t z => XS.i2s X.here hx rfl hd rfl z) g
theorem Go.i2l {x : Int32} {r : Int64} (X : Stand p l e R s m args below meth c T locs cells slots) (hx : p.tables.exec = Jvm.exec) (hd : decode c.code pc = .ok (.i2l, 1)) (hr : x.toInt64 = r) (hp : pc + 1 = q) (g : Go p e below K (T.setTop (mkF m q Ls (.long r :: S)))) : Go p e below K (T.setTop (mkF m pc Ls (.int x :: S))) := by
  subst hp hr
  exact Go.by (fun t z => XS.i2l X.here hx rfl hd rfl z) g
theorem Go.l2i {x : Int64} {r : Int32} (X : Stand p l e R s m args below meth c T locs cells slots) (hx : p.tables.exec = Jvm.exec) (hd : decode c.code pc = .ok (.l2i, 1)) (hr : x.toInt32 = r) (hp : pc + 1 = q) (g : Go p e below K (T.setTop (mkF m q Ls (.int r :: S)))) : Go p e below K (T.setTop (mkF m pc Ls (.long x :: S))) := by
  subst hp hr
  exact Go.by (fun t z => XS.l2i X.here hx rfl hd rfl z) g
theorem Go.lcmp {x y : Int64} {r : Int32} (X : Stand p l e R s m args below meth c T locs cells slots) (hx : p.tables.exec = Jvm.exec) (hd : decode c.code pc = .ok (.lcmp, 1)) (hr : Jvm.Free.XT.cmpL x y = r) (hp : pc + 1 = q) (g : Go p e below K (T.setTop (mkF m q Ls (.int r :: S)))) : Go p e below K (T.setTop (mkF m pc Ls (.long y :: .long x :: S))) := by
  subst hp hr
  exact Go.by (fun t z => XS.lcmp X.here hx rfl hd rfl z) g
theorem Go.iinc {k : Nat} {cst : Int} {x r : Int32} (X : Stand p l e R s m args below meth c T locs cells slots) (hx : p.tables.exec = Jvm.exec) (hd : decode c.code pc = .ok (.iinc k cst, 3)) (hl : Ls[k]? = some (.val (.int x))) (hr : x + Int32.ofInt cst = r) (hl' : storeLocals Ls k (.int r) = some l') (hp : pc + 3 = q) (g : Go p e below K (T.setTop (mkF m q l' S))) : Go p e below K (T.setTop (mkF m pc Ls S)) := by
  subst hp hr
  exact Go.by (fun t z => XS.iinc X.here hx rfl hd hl hl' z) g
theorem Go.dup {x : Value} (X : Stand p l e R s m args below meth c T locs cells slots) (hx : p.tables.exec = Jvm.exec) (hd : decode c.code pc = .ok (.dup, 1)) (hc : x.category = 1) (hp : pc + 1 = q) (g : Go p e below K (T.setTop (mkF m q Ls (x :: x :: S)))) : Go p e below K (T.setTop (mkF m pc Ls (x :: S))) := by
  subst hp
  exact Go.by (fun t z => XS.dup X.here hx rfl hd rfl hc z) g
theorem Go.dup_x1 {x y : Value} (X : Stand p l e R s m args below meth c T locs cells slots) (hx : p.tables.exec = Jvm.exec) (hd : decode c.code pc = .ok (.dup_x1, 1)) (hc : x.category = 1) (hc2 : y.category = 1) (hp : pc + 1 = q) (g : Go p e below K (T.setTop (mkF m q Ls (x :: y :: x :: S)))) : Go p e below K (T.setTop (mkF m pc Ls (x :: y :: S))) := by
  subst hp
  exact Go.by (fun t z => XS.dupX1 X.here hx rfl hd rfl hc hc2 z) g
theorem Go.swap {x y : Value} (X : Stand p l e R s m args below meth c T locs cells slots) (hx : p.tables.exec = Jvm.exec) (hd : decode c.code pc = .ok (.swap, 1)) (hc : x.category = 1) (hc2 : y.category = 1) (hp : pc + 1 = q) (g : Go p e below K (T.setTop (mkF m q Ls (y :: x :: S)))) : Go p e below K (T.setTop (mkF m pc Ls (x :: y :: S))) := by
  subst hp
  exact Go.by (fun t z => XS.swap X.here hx rfl hd rfl hc hc2 z) g
theorem Go.pop {x : Value} (X : Stand p l e R s m args below meth c T locs cells slots) (hx : p.tables.exec = Jvm.exec) (hd : decode c.code pc = .ok (.pop, 1)) (hc : x.category = 1) (hp : pc + 1 = q) (g : Go p e below K (T.setTop (mkF m q Ls S))) : Go p e below K (T.setTop (mkF m pc Ls (x :: S))) := by
  subst hp
  exact Go.by (fun t z => XS.pop X.here hx rfl hd rfl hc z) g
theorem Go.goto  {o : Int} (X : Stand p l e R s m args below meth c T locs cells slots) (hx : p.tables.exec = Jvm.exec) (hd : decode c.code pc = .ok (.goto o, 3)) (ho : 0 ≤ (pc : Int) + o) (hp : ((pc : Int) + o).toNat = q) (g : Go p e below K (T.setTop (mkF m q Ls S))) : Go p e below K (T.setTop (mkF m pc Ls S)) :=
  Go.by (fun t z => XS.goto X.here hx rfl (pc0 := pc) rfl hd ho hp z) g
theorem Go.ifYes {cd : ClassFile.Cond} {x : Int32} {o : Int} (X : Stand p l e R s m args below meth c T locs cells slots) (hx : p.tables.exec = Jvm.exec) (hd : decode c.code pc = .ok (.ifCond cd o, 3)) (hc : ifCond.holds cd x = true) (ho : 0 ≤ (pc : Int) + o) (hp : ((pc : Int) + o).toNat = q) (g : Go p e below K (T.setTop (mkF m q Ls S))) : Go p e below K (T.setTop (mkF m pc Ls (.int x :: S))) :=
  Go.by (fun t z => XS.ifYes X.here hx rfl (pc0 := pc) rfl hd rfl hc ho hp z) g
theorem Go.icmpYes {cd : ClassFile.Cond} {x y : Int32} {o : Int} (X : Stand p l e R s m args below meth c T locs cells slots) (hx : p.tables.exec = Jvm.exec) (hd : decode c.code pc = .ok (.if_icmp cd o, 3)) (hc : if_icmp.holds cd x y = true) (ho : 0 ≤ (pc : Int) + o) (hp : ((pc : Int) + o).toNat = q) (g : Go p e below K (T.setTop (mkF m q Ls S))) : Go p e below K (T.setTop (mkF m pc Ls (.int y :: .int x :: S))) :=
  Go.by (fun t z => XS.icmpYes X.here hx rfl (pc0 := pc) rfl hd rfl hc ho hp z) g
theorem Go.ifnullYes  {o : Int} (X : Stand p l e R s m args below meth c T locs cells slots) (hx : p.tables.exec = Jvm.exec) (hd : decode c.code pc = .ok (.ifnull o, 3)) (ho : 0 ≤ (pc : Int) + o) (hp : ((pc : Int) + o).toNat = q) (g : Go p e below K (T.setTop (mkF m q Ls S))) : Go p e below K (T.setTop (mkF m pc Ls (.null :: S))) :=
  Go.by (fun t z => XS.ifnullYes X.here hx rfl (pc0 := pc) rfl hd rfl ho hp z) g
theorem Go.ifnonnullYes {b : Addr} {o : Int} (X : Stand p l e R s m args below meth c T locs cells slots) (hx : p.tables.exec = Jvm.exec) (hd : decode c.code pc = .ok (.ifnonnull o, 3)) (ho : 0 ≤ (pc : Int) + o) (hp : ((pc : Int) + o).toNat = q) (g : Go p e below K (T.setTop (mkF m q Ls S))) : Go p e below K (T.setTop (mkF m pc Ls (.ref b :: S))) :=
  Go.by (fun t z => XS.ifnonnullYes X.here hx rfl (pc0 := pc) rfl hd rfl ho hp z) g
theorem Go.ifNo {cd : ClassFile.Cond} {x : Int32} {o : Int} (X : Stand p l e R s m args below meth c T locs cells slots) (hx : p.tables.exec = Jvm.exec) (hd : decode c.code pc = .ok (.ifCond cd o, 3)) (hc : ifCond.holds cd x = false) (hp : pc + 3 = q) (g : Go p e below K (T.setTop (mkF m q Ls S))) : Go p e below K (T.setTop (mkF m pc Ls (.int x :: S))) := by
  subst hp
  exact Go.by (fun t z => XS.ifNo X.here hx rfl hd rfl hc z) g
theorem Go.icmpNo {cd : ClassFile.Cond} {x y : Int32} {o : Int} (X : Stand p l e R s m args below meth c T locs cells slots) (hx : p.tables.exec = Jvm.exec) (hd : decode c.code pc = .ok (.if_icmp cd o, 3)) (hc : if_icmp.holds cd x y = false) (hp : pc + 3 = q) (g : Go p e below K (T.setTop (mkF m q Ls S))) : Go p e below K (T.setTop (mkF m pc Ls (.int y :: .int x :: S))) := by
  subst hp
  exact Go.by (fun t z => XS.icmpNo X.here hx rfl hd rfl hc z) g
theorem Go.ifnullNo {b : Addr} {o : Int} (X : Stand p l e R s m args below meth c T locs cells slots) (hx : p.tables.exec = Jvm.exec) (hd : decode c.code pc = .ok (.ifnull o, 3)) (hp : pc + 3 = q) (g : Go p e below K (T.setTop (mkF m q Ls S))) : Go p e below K (T.setTop (mkF m pc Ls (.ref b :: S))) := by
  subst hp
  exact Go.by (fun t z => XS.ifnullNo X.here hx rfl hd rfl z) g
theorem Go.ifnonnullNo {o : Int} (X : Stand p l e R s m args below meth c T locs cells slots) (hx : p.tables.exec = Jvm.exec) (hd : decode c.code pc = .ok (.ifnonnull o, 3)) (hp : pc + 3 = q) (g : Go p e below K (T.setTop (mkF m q Ls S))) : Go p e below K (T.setTop (mkF m pc Ls (.null :: S))) := by
  subst hp
  exact Go.by (fun t z => XS.ifnonnullNo X.here hx rfl hd rfl z) g
theorem Go.acmp {cd : ACond} {x y : Value} {o : Int} {same : Bool} (X : Stand p l e R s m args below meth c T locs cells slots) (hx : p.tables.exec = Jvm.exec) (h1 : x.isRef = true) (h2 : y.isRef = true) (hd : decode c.code pc = .ok (.if_acmp cd o, 3)) (hq : decide (x = y) = same) (ho : 0 ≤ (pc : Int) + o) (hp : q = if acV cd same = true then ((pc : Int) + o).toNat else pc + 3) (g : Go p e below K (T.setTop (mkF m q Ls S))) : Go p e below K (T.setTop (mkF m pc Ls (y :: x :: S))) :=
  Go.by (fun t z => Jvm.RoadKit.acmp (g := mkF m pc Ls (y :: x :: S)) X hx rfl h1 h2 (pc0 := pc) (same := same) rfl hd rfl hq ho hp z) g
variable {Z : State} {a0 : Array Value} {h : Heap} {own R0 O n d host C : String} {index kk : Nat} {a : Addr} {v v' old : Value} {ty : FieldType}
theorem Go.getF (X : Stand p l e R s m args below meth c T locs cells slots) (hx : p.tables.exec = Jvm.exec) (hZ : Z.Warmed39 s.vm) (hown : s.vm.findClass own = some m.cls) (w : (Cond.fieldLink own index R0 n d).before a0 Z = true ∨ (Cond.fieldLinkNest own index R0 n d host).before a0 Z = true) (via : Via Z R0 O n d) (eT : T.heap = h) (F : Fld Z h a O n d v) (hd : decode c.code pc = .ok (.getfield index, 3)) (hp : pc + 3 = q)
    (g : ∀ T', Stand p l e R s m args below meth c T' locs cells slots → T'.heap = h → Go p e below K (T'.setTop (mkF m q Ls (v :: S)))) : Go p e below K (T.setTop (mkF m pc Ls (.ref a :: S))) := by
  subst hp
  obtain ⟨T', X', e', st⟩ := Jvm.RoadKit.getF X hx hZ hown w via eT F (g := mkF m pc Ls (.ref a :: S)) rfl rfl hd
  exact Go.by st (g T' X' e')
theorem Go.getS (X : Stand p l e R s m args below meth c T locs cells slots) (hx : p.tables.exec = Jvm.exec) (hZ : Z.Warmed39 s.vm) (hown : s.vm.findClass own = some m.cls) (w : (Cond.fieldLink own index R0 n d).before a0 Z = true ∨ (Cond.fieldLinkNest own index R0 n d host).before a0 Z = true) (via : Via Z R0 O n d) (eT : T.heap = h) (F : Sta Z h O n d v) (hd : decode c.code pc = .ok (.getstatic index, 3)) (hp : pc + 3 = q)
    (g : ∀ T', Stand p l e R s m args below meth c T' locs cells slots → T'.heap = h → Go p e below K (T'.setTop (mkF m q Ls (v :: S)))) : Go p e below K (T.setTop (mkF m pc Ls S)) := by
  subst hp
  obtain ⟨T', X', e', st⟩ := Jvm.RoadKit.getS2 X hx hZ hown w via eT F (g := mkF m pc Ls S) rfl hd
  exact Go.by st (g T' X' e')
theorem Go.putF (X : Stand p l e R s m args below meth c T locs cells slots) (hx : p.tables.exec = Jvm.exec) (hZ : Z.Warmed39 s.vm) (hown : s.vm.findClass own = some m.cls) (w : (Cond.fieldLink own index R0 n d).before a0 Z = true ∨ (Cond.fieldLinkNest own index R0 n d host).before a0 Z = true) (via : Via Z R0 O n d) (eT : T.heap = h) (F : Fld Z h a O n d old) (E : Exa Z h a C)
    (L : (Cond.lays C O n d).before a0 Z = true ∨ ((Cond.laysFinal C O n d).before a0 Z = true ∧ own = O ∧ meth.name = "<init>")) (wi : (Cond.instantiable C kk).before a0 Z = true) (hty : parseFieldDescriptor d = some ty) (hn : narrow ty v = v) (hf : fits ty v = true) (hd : decode c.code pc = .ok (.putfield index, 3)) (hp : pc + 3 = q)
    (g : ∀ T' h', Stand p l e R s m args below meth c T' (locs ++ [⟨a, slotOf Z O n d⟩]) cells slots → T'.heap = h' → Wr h h' a (slotOf Z O n d) v → Fld Z h' a O n d v → Go p e below K (T'.setTop (mkF m q Ls S))) : Go p e below K (T.setTop (mkF m pc Ls (v :: .ref a :: S))) := by
  subst hp
  obtain ⟨T', h', X', e', W, st⟩ := Jvm.RoadKit.putF X hx hZ hown w via eT F E L wi hty hn hf (g := mkF m pc Ls (v :: .ref a :: S)) rfl rfl hd
  exact Go.by st (g T' h' X' e' W (F.same W))
theorem Go.putFN (X : Stand p l e R s m args below meth c T locs cells slots) (hx : p.tables.exec = Jvm.exec) (hZ : Z.Warmed39 s.vm) (hown : s.vm.findClass own = some m.cls) (w : (Cond.fieldLink own index R0 n d).before a0 Z = true) (via : Via Z R0 O n d) (eT : T.heap = h) (F : Fld Z h a O n d old) (E : Exa Z h a C)
    (L : (Cond.lays C O n d).before a0 Z = true ∨ ((Cond.laysFinal C O n d).before a0 Z = true ∧ own = O ∧ meth.name = "<init>")) (wi : (Cond.instantiable C kk).before a0 Z = true) (hty : parseFieldDescriptor d = some ty) (hn : narrow ty v = v') (hf : fits ty v' = true) (hd : decode c.code pc = .ok (.putfield index, 3)) (hp : pc + 3 = q)
    (g : ∀ T' h', Stand p l e R s m args below meth c T' (locs ++ [⟨a, slotOf Z O n d⟩]) cells slots → T'.heap = h' → Wr h h' a (slotOf Z O n d) v' → Fld Z h' a O n d v' → Go p e below K (T'.setTop (mkF m q Ls S))) : Go p e below K (T.setTop (mkF m pc Ls (v :: .ref a :: S))) := by
  subst hp
  obtain ⟨T', h', X', e', W, st⟩ := Jvm.RoadKit.putFN X hx hZ hown w via eT F E L wi hty hn hf (g := mkF m pc Ls (v :: .ref a :: S)) rfl rfl hd
  exact Go.by st (g T' h' X' e' W (F.same W))
theorem Go.newO {nn : Nat} (X : Stand p l e R s m args below meth c T locs cells slots) (hx : p.tables.exec = Jvm.exec) (hZ : Z.Warmed39 s.vm) (hown : s.vm.findClass own = some m.cls) (w : (Cond.classLink own index C).before a0 Z = true) (wi : (Cond.instantiable C nn).before a0 Z = true) (wz : (Cond.initialized C).before a0 Z = true) (eT : T.heap = h) (hd : decode c.code pc = .ok (.new index, 3)) (hc : cells + 1 ≤ R.cells) (hl : slots + nn ≤ R.slots) (hp : pc + 3 = q)
    (g : ∀ (b : Addr) T' h', Stand p l e R s m args below meth c T' locs (cells + 1) (slots + nn) → T'.heap = h' → h.size = b → Ext h h' → Exa Z h' b C → (∀ {O nm d : String} {ty : FieldType}, Laid Z a0 C O nm d → parseFieldDescriptor d = some ty → Fld Z h' b O nm d (defaultValue ty)) → Unt h' b → Go p e below K (T'.setTop (mkF m q Ls (.ref b :: S)))) : Go p e below K (T.setTop (mkF m pc Ls S)) := by
  subst hp
  obtain ⟨T', h', X', e', E, A, D, U, st⟩ := Jvm.RoadKit.newO X hx hZ hown w wi wz eT (g := mkF m pc Ls S) rfl hd hc hl
  exact Go.by st (g _ T' h' X' e' rfl E A D U)
theorem Go.newP {aty : ArrayType} {z : Int32} {ad : String} {cap : Nat} (X : Stand p l e R s m args below meth c T locs cells slots) (hx : p.tables.exec = Jvm.exec) (hZ : Z.Warmed39 s.vm) (hd : decode c.code pc = .ok (.newarray aty, 2)) (w : (Cond.arrayClass (newarray.typeOf aty)).before a0 Z = true) (eT : T.heap = h) (hn : ¬ z < 0) (hcap : z.toNatClampNeg ≤ cap) (hb : cap * 8 ≤ 536870912) (hc : cells + 1 ≤ R.cells) (hl : slots + cap ≤ R.slots) (had : "[" ++ (newarray.typeOf aty).toString = ad) (hp : pc + 2 = q)
    (g : ∀ (b : Addr) T' h' cA, Stand p l e R s m args below meth c T' locs (cells + 1) (slots + cap) → T'.heap = h' → h.size = b → Ext h h' → Arv Z h' b cA (newarray.typeOf aty) z [] (defaultValue (newarray.typeOf aty)) → Exa Z h' b ad → Go p e below K (T'.setTop (mkF m q Ls (.ref b :: S)))) : Go p e below K (T.setTop (mkF m pc Ls (.int z :: S))) := by
  subst hp
  obtain ⟨T', h', cA, X', e', E, A, B, st⟩ := Jvm.RoadKit.newPE X hx hZ w eT (g := mkF m pc Ls (.int z :: S)) rfl hd rfl hn hcap hb hc hl had
  exact Go.by st (g _ T' h' cA X' e' rfl E (Arv.new A hn) B)
theorem Go.initO (X : Stand p l e R s m args below meth c T locs cells slots) (hx : p.tables.exec = Jvm.exec) (hZ : Z.Warmed39 s.vm) (hown : s.vm.findClass own = some m.cls) (w1 : (Cond.methodLink own index Lib.objectInit).before a0 Z = true) (w2 : (Cond.instanceMethod Lib.objectInit).before a0 Z = true) (w3 : (Cond.code Lib.objectInit ⟨#[0xb1]⟩ 1 none).before a0 Z = true) (eT : T.heap = h) (hsz : Ls.size = c.maxLocals) (hd : decode c.code pc = .ok (.invokespecial index, 3)) (hf : 1 ≤ R.frames) {W : Nat} (hW : 2 * 0 + (S.map fun v => v.category).sum ≤ W) (hl : W + 12 ≤ R.locals) (hp : pc + 3 = q)
    (g : ∀ T', Stand p l e R s m args below meth c T' locs cells slots → T'.heap = h → Go p e below K (T'.setTop (mkF m q Ls S))) : Go p e below K (T.setTop (mkF m pc Ls (.ref a :: S))) := by
  subst hp
  obtain ⟨T', X', e', st⟩ := Jvm.RoadKit.initO X hx hZ hown w1 w2 w3 eT (g := mkF m pc Ls (.ref a :: S)) rfl hsz rfl hd hf hW hl
  exact Go.by st (g T' X' e')
theorem Go.castY {D : String} (X : Stand p l e R s m args below meth c T locs cells slots) (hx : p.tables.exec = Jvm.exec) (hZ : Z.Warmed39 s.vm) (hown : s.vm.findClass own = some m.cls) (w : (Cond.classLink own index D).before a0 Z = true) (eT : T.heap = h) (F : Ins Z h a D true) (hd : decode c.code pc = .ok (.checkcast index, 3)) (hp : pc + 3 = q)
    (g : ∀ T', Stand p l e R s m args below meth c T' locs cells slots → T'.heap = h → Go p e below K (T'.setTop (mkF m q Ls (.ref a :: S)))) : Go p e below K (T.setTop (mkF m pc Ls (.ref a :: S))) := by
  subst hp
  obtain ⟨T', X', e', st⟩ := Jvm.RoadKit.castY X hx hZ hown w eT F (g := mkF m pc Ls (.ref a :: S)) rfl rfl hd
  exact Go.by st (g T' X' e')
theorem Go.instY {D : String} (X : Stand p l e R s m args below meth c T locs cells slots) (hx : p.tables.exec = Jvm.exec) (hZ : Z.Warmed39 s.vm) (hown : s.vm.findClass own = some m.cls) (w : (Cond.classLink own index D).before a0 Z = true) (eT : T.heap = h) (F : Ins Z h a D true) (hd : decode c.code pc = .ok (.instanceof index, 3)) (hp : pc + 3 = q)
    (g : ∀ T', Stand p l e R s m args below meth c T' locs cells slots → T'.heap = h → Go p e below K (T'.setTop (mkF m q Ls (.int 1 :: S)))) : Go p e below K (T.setTop (mkF m pc Ls (.ref a :: S))) := by
  subst hp
  obtain ⟨T', X', e', st⟩ := Jvm.RoadKit.instY X hx hZ hown w eT F (g := mkF m pc Ls (.ref a :: S)) rfl rfl hd
  exact Go.by st (g T' X' e')
theorem Go.instNo {D : String} (X : Stand p l e R s m args below meth c T locs cells slots) (hx : p.tables.exec = Jvm.exec) (hZ : Z.Warmed39 s.vm) (hown : s.vm.findClass own = some m.cls) (w : (Cond.classLink own index D).before a0 Z = true) (eT : T.heap = h) (E : Exa Z h a C) (F : ∃ c t, Z.vm.findClass C = some c ∧ Z.vm.findClass D = some t ∧ Z.vm.assignable c t = false) (hd : decode c.code pc = .ok (.instanceof index, 3)) (hp : pc + 3 = q)
    (g : ∀ T', Stand p l e R s m args below meth c T' locs cells slots → T'.heap = h → Go p e below K (T'.setTop (mkF m q Ls (.int 0 :: S)))) : Go p e below K (T.setTop (mkF m pc Ls (.ref a :: S))) := by
  subst hp
  obtain ⟨T', X', e', st⟩ := Jvm.RoadKit.instNo X hx hZ hown w eT E F (g := mkF m pc Ls (.ref a :: S)) rfl rfl hd
  exact Go.by st (g T' X' e')
theorem Go.ldcI {z : Int32} (X : Stand p l e R s m args below meth c T locs cells slots) (hx : p.tables.exec = Jvm.exec) (hZ : Z.Warmed39 s.vm) (hown : s.vm.findClass own = some m.cls) (w : (Cond.constant own index z).before a0 Z = true) (hd : decode c.code pc = .ok (.ldc index, 2)) (hp : pc + 2 = q) (g : Go p e below K (T.setTop (mkF m q Ls (.int z :: S)))) : Go p e below K (T.setTop (mkF m pc Ls S)) := by
  subst hp
  exact Go.by (X.ldcInt hx hown (mvT hZ w) (g := mkF m pc Ls S) rfl hd) g
theorem Go.ldcwI {z : Int32} (X : Stand p l e R s m args below meth c T locs cells slots) (hx : p.tables.exec = Jvm.exec) (hZ : Z.Warmed39 s.vm) (hown : s.vm.findClass own = some m.cls) (w : (Cond.constant own index z).before a0 Z = true) (hd : decode c.code pc = .ok (.ldc_w index, 3)) (hp : pc + 3 = q) (g : Go p e below K (T.setTop (mkF m q Ls (.int z :: S)))) : Go p e below K (T.setTop (mkF m pc Ls S)) := by
  subst hp
  exact Go.by (X.ldcwInt hx hown (mvT hZ w) (g := mkF m pc Ls S) rfl hd) g
theorem Go.ldc2 {z : Int64} (X : Stand p l e R s m args below meth c T locs cells slots) (hx : p.tables.exec = Jvm.exec) (hZ : Z.Warmed39 s.vm) (hown : s.vm.findClass own = some m.cls) (w : (Cond.constantLong own index z).before a0 Z = true) (hd : decode c.code pc = .ok (.ldc2_w index, 3)) (hp : pc + 3 = q) (g : Go p e below K (T.setTop (mkF m q Ls (.long z :: S)))) : Go p e below K (T.setTop (mkF m pc Ls S)) := by
  subst hp
  exact Go.by (X.ldc2Long hx hown (mvT hZ w) (g := mkF m pc Ls S) rfl hd) g

end OwnSteps
end Jvm.RoadKit
namespace Jvm.RoadKit
open Sem ClassFile Op Lib Jvm.Stand Jvm.Free Jvm.LawKit
section OwnWide
variable {p : Program} {l : Launch} {e : Env} {R : Room} {s : State} {m : MethodId} {args : Array Value} {below : List Frame} {meth : Method} {c : Code} {T T' : State} {locs : List Loc} {cells slots : Nat} {Z : State} {a0 : Array Value} {h h' h0 : Heap} {K : State → Outcome → Prop} {pc q : Nat} {Ls : Array Slot} {rest S : List Value} {Q : Option Value → Heap → List Loc → Prop} {k n k0 : Nat} {a b : Addr} {vm0 : Vm}
/-- as KK, where String constants may have been resolved and interned -/
def KKW (s : State) (Q : Option Value → Heap → List Loc → Prop) (k n : Nat) : State → Outcome → Prop := fun U o => ∃ v L, o = .returned v ∧ Q v U.heap L ∧ ReturnedEndW s o U L k n
abbrev CtrW (l : Launch) (Z : State) (h0 : Heap) (y : MethodName) (bytes : ByteArray) (maxL : Nat) (ret : Option FieldType) (ws : List Cond) (rm : Room) (as' : Array Value) (Q : Option Value → Heap → List Loc → Prop) : Prop :=
  MetFree l y (head1 (Cond.code y bytes maxL ret :: ws) rm) (fun a U => a = as' ∧ Z.Warmed39 U.vm ∧ U.heap = h0) (fun _ _ _ _ _ => True) (fun _ U o U' => ∃ v L, o = .returned v ∧ Q v U'.heap L ∧ ReturnedEndW U o U' L rm.cells rm.slots)
theorem enterW {y : MethodName} {bytes : ByteArray} {maxL : Nat} {ret : Option FieldType} {ws : List Cond} {rm : Room} {as' : Array Value} (hp : plainFor y = true)
    (H : ∀ (p : Program) (e : Env) (s : State) (m : MethodId) (below : List Frame) (meth : Method) (c : Code) (s₁ : State), p.tables.exec = Jvm.exec → c.code = bytes → c.maxLocals = maxL → Z.Warmed39 (s.setVm s.vm).vm → (s.setVm s.vm).vm.findClass y.cls = some m.cls → meth.name = y.name → meth.sig.returnType = ret → meth.locks = false →
      Stand p l e rm (s.setVm s.vm) m as' below meth c s₁ [] 0 0 → s₁.heap = h0 → s.heap = h0 → s.Since s.vm 0 → Go p e below (KKW s Q rm.cells rm.slots) (s₁.setTop (entryFrame m as' maxL))) : CtrW l Z h0 y bytes maxL ret ws rm as' Q := by
  refine MetFree.of_bodySF hp hisR ?_
  intro p e s m args below meth c s₁ Bd hml0 hP hK
  obtain ⟨rfl, hZ, hh⟩ := hP
  exact H p e s m below meth c s₁ Bd.exec Bd.bytes hml0 hZ (findClass_of_methodNamed Bd.named) (name_of_methodNamed Bd.named Bd.method).1 Bd.returns Bd.notSynchronized (Stand.of_body Bd) (by rw [← hh, Bd.state]; rfl) hh ((State.WarmedH.refl s).since 0)
theorem Go.retW {w : Value} {t : FieldType} {i : Instr} (X : Stand p l e R (s.setVm vm0) m args below meth c T locs cells slots) (hx : p.tables.exec = Jvm.exec) (hS : s.Since vm0 k0) (hk0 : k0 ≤ h.size) (hret : meth.sig.returnType = some t) (hlk : meth.locks = false) (hn : narrow t w = w)
    (hi : (i = .ireturn ∧ (t = .int ∨ t = .boolean ∨ t = .byte ∨ t = .char ∨ t = .short) ∧ ∃ z, w = .int z) ∨ (i = .lreturn ∧ t = .long ∧ ∃ z, w = .long z) ∨ (i = .dreturn ∧ t = .double ∧ ∃ z, w = .double z) ∨ (i = .freturn ∧ t = .float ∧ ∃ z, w = .float z) ∨ (i = .areturn ∧ t.isReference = true ∧ w.isRef = true))
    (hd : decode c.code pc = .ok (i, 1)) (eT : T.heap = h) (hk : cells ≤ k) (hs : slots ≤ n) (hQ : Q (some w) h locs) : Go p e below (KKW s Q k n) (T.setTop (mkF m pc Ls (w :: rest))) := by
  subst eT
  obtain ⟨fs, hr, hrun, hended, hq⟩ := X.leaveW hS hk0 (v := some w) (fun h => by rw [hret] at h; cases h) hlk
  exact ⟨_, _, retOut X hx hret hn hi hd hr, hrun, hended, _, _, rfl, hQ, hq.1, hq.2.1, hq.2.2.1, hq.2.2.2.mono hk hs⟩
theorem Go.retIW {z : Int32} {t : FieldType} (X : Stand p l e R (s.setVm vm0) m args below meth c T locs cells slots) (hx : p.tables.exec = Jvm.exec) (hS : s.Since vm0 k0) (hk0 : k0 ≤ h.size) (hret : meth.sig.returnType = some t) (hlk : meth.locks = false) (ht : t = .int ∨ t = .boolean ∨ t = .byte ∨ t = .char ∨ t = .short) (hn : narrow t (.int z) = .int z)
    (hd : decode c.code pc = .ok (.ireturn, 1)) (eT : T.heap = h) (hk : cells ≤ k) (hs : slots ≤ n) (hQ : Q (some (.int z)) h locs) : Go p e below (KKW s Q k n) (T.setTop (mkF m pc Ls (.int z :: rest))) :=
  Go.retW X hx hS hk0 hret hlk hn (Or.inl ⟨rfl, ht, z, rfl⟩) hd eT hk hs hQ
theorem Go.retAW {w : Value} {t : FieldType} (X : Stand p l e R (s.setVm vm0) m args below meth c T locs cells slots) (hx : p.tables.exec = Jvm.exec) (hS : s.Since vm0 k0) (hk0 : k0 ≤ h.size) (hret : meth.sig.returnType = some t) (hlk : meth.locks = false) (ht : t.isReference = true) (hw : w.isRef = true)
    (hd : decode c.code pc = .ok (.areturn, 1)) (eT : T.heap = h) (hk : cells ≤ k) (hs : slots ≤ n) (hQ : Q (some w) h locs) : Go p e below (KKW s Q k n) (T.setTop (mkF m pc Ls (w :: rest))) :=
  Go.retW X hx hS hk0 hret hlk (nar_ref hw) (Or.inr (Or.inr (Or.inr (Or.inr ⟨rfl, ht, hw⟩)))) hd eT hk hs hQ
theorem Go.retVW (X : Stand p l e R (s.setVm vm0) m args below meth c T locs cells slots) (hx : p.tables.exec = Jvm.exec) (hS : s.Since vm0 k0) (hk0 : k0 ≤ h.size) (hret : meth.sig.returnType = none) (hlk : meth.locks = false)
    (hd : decode c.code pc = .ok (.return_, 1)) (eT : T.heap = h) (hk : cells ≤ k) (hs : slots ≤ n) (hQ : Q none h locs) : Go p e below (KKW s Q k n) (T.setTop (mkF m pc Ls [])) := by
  subst eT
  obtain ⟨fs, hr, hrun, hended, hq⟩ := X.leaveW hS hk0 (v := none) (fun _ => rfl) hlk
  exact ⟨_, _, X.returnOut hx hret hd hr, hrun, hended, _, _, rfl, hQ, hq.1, hq.2.1, hq.2.2.1, hq.2.2.2.mono hk hs⟩
/-- ldc of a String: which object it is isn't said -/
theorem Go.ldcS {own text : String} {index nn : Nat} (X : Stand p l e R (s.setVm vm0) m args below meth c T locs cells slots) (hx : p.tables.exec = Jvm.exec) (hZ : Z.Warmed39 (s.setVm vm0).vm) (hown : (s.setVm vm0).vm.findClass own = some m.cls) (w : (Cond.stringLink own index text).before a0 Z = true) (wS : ∀ a ∈ Bundle.stringAtoms, a.before a0 Z = true)
    (eT : T.heap = h) (hS : s.Since vm0 k0) (hk0 : k0 ≤ h.size) (hd : decode c.code pc = .ok (.ldc index, 2)) (hn : 4 * text.toList.length ≤ nn) (hbig : nn ≤ 536870912) (hc : cells + 2 ≤ R.cells) (hl : slots + (nn + 4) ≤ R.slots) (hp : pc + 2 = q)
    (g : ∀ (b : Addr) (T' : State) (h' : Heap) (k1 : Nat), Stand p l e R (s.setVm T'.vm) m args below meth c T' locs (cells + 2) (slots + (nn + 4)) → T'.heap = h' → Ext h h' → s.Since T'.vm k1 → k1 ≤ h'.size → Z.Warmed39 (s.setVm T'.vm).vm → (s.setVm T'.vm).vm.findClass own = some m.cls → Go p e below K (T'.setTop (mkF m q Ls (.ref b :: S)))) : Go p e below K (T.setTop (mkF m pc Ls S)) := by
  subst hp
  obtain ⟨b, T', h', k1, X', e', E, hS', hk1, hZ', ho', st⟩ := Jvm.RoadKit.ldcS X hx hZ hown w wS eT hS hk0 (g := mkF m pc Ls S) rfl hd hn hbig hc hl
  exact Go.by st (g b T' h' k1 X' e' E hS' hk1 hZ' ho')
theorem Go.callSW {own : String} {index : Nat} {y : MethodName} {bytes : ByteArray} {maxL : Nat} {ret : Option FieldType} {rm : Room} {as' : Array Value} {argsL : List Value} (X : Stand p l e R (s.setVm vm0) m args below meth c T locs cells slots) (hx : p.tables.exec = Jvm.exec) (hZ : Z.Warmed39 (s.setVm vm0).vm) (hown : (s.setVm vm0).vm.findClass own = some m.cls) (hS : s.Since vm0 k0) (hk0 : k0 ≤ h.size)
    (w1 : (Cond.methodLink own index y).before a0 Z = true) (w2 : (Cond.static y).before a0 Z = true) (w3 : (Cond.initialized y.cls).before a0 Z = true) (w4 : (Cond.code y bytes maxL ret).before a0 Z = true)
    (hy : y.cls ≠ "java/lang/invoke/MethodHandle" ∧ y.cls ≠ "java/lang/invoke/VarHandle") {Q : Option Value → Heap → List Loc → Prop} (hM : CtrW l Z h y bytes maxL ret [] rm as' Q) (eT : T.heap = h) (hsz : Ls.size = c.maxLocals)
    (hd : decode c.code pc = .ok (.invokestatic index, 3)) (hlen : ∀ sig, parseMethodDescriptor y.desc = some sig → argsL.length = sig.parameters.length) (hst : S = argsL.reverse ++ rest) (has : argsL.toArray = as')
    {W : Nat} (hW : 2 * 0 + (rest.map fun v => v.category).sum ≤ W) (hf : rm.frames + 1 ≤ R.frames) (hl : W + (maxL + 11) + rm.locals ≤ R.locals) (hc : cells + rm.cells ≤ R.cells) (hs : slots + rm.slots ≤ R.slots)
    (g : ∀ (v : Option Value) (T' : State) (L : List Loc) (k1 : Nat), Stand p l e R (s.setVm T'.vm) m args below meth c T' (locs ++ L) (cells + rm.cells) (slots + rm.slots) → s.Since T'.vm k1 → k1 ≤ T'.heap.size → Z.Warmed39 (s.setVm T'.vm).vm → (s.setVm T'.vm).vm.findClass own = some m.cls → Q v T'.heap L → Go p e below K (T'.setTop (mkF m (pc + 3) Ls (v.toList ++ rest)))) : Go p e below K (T.setTop (mkF m pc Ls S)) := by
  subst eT
  obtain ⟨v, _, ⟨T', L', k', n'⟩, -, X', hS', hgr, ⟨Lc, hQ, l', y', z'⟩, st⟩ := callSS X hx (y := y) hown (mvT hZ w1) (mvT hZ w2) (mvT hZ w3) (mvT hZ w4) hy (backOfS (W := W) hM hZ w4 w3 hf hl) (g := mkF m pc Ls S) rfl hsz (argsL := argsL) (rest := rest) hlen hst hW hd (fun _ _ => ⟨has, rfl, hc, hs⟩)
  dsimp only [Pt.U, Pt.locs, Pt.cells, Pt.slots] at X' l' y' z' st hQ hS' hgr
  subst l' y' z'
  exact Go.on st (g v T' Lc _ X' (foldS hS hk0 hS' hgr) (Nat.le_refl _) (State.Warmed39.trans (t := s.setVm vm0) hZ hS'.1) (by rw [show (s.setVm T'.vm).vm = T'.vm from rfl, hS'.1.alike.findClass]; exact hown) hQ)
theorem Go.virtW {own C : String} {index : Nat} {y z : MethodName} {bytes : ByteArray} {maxL : Nat} {ret : Option FieldType} {rm : Room} {as' : Array Value} {argsL : List Value} (X : Stand p l e R (s.setVm vm0) m args below meth c T locs cells slots) (hx : p.tables.exec = Jvm.exec) (hZ : Z.Warmed39 (s.setVm vm0).vm) (hown : (s.setVm vm0).vm.findClass own = some m.cls) (hS : s.Since vm0 k0) (hk0 : k0 ≤ h.size)
    (w1 : (Cond.methodLink own index y).before a0 Z = true) (w2 : (Cond.declares y).before a0 Z = true) (hnf : NotFace (s.setVm vm0) y) (w5 : (Cond.selects C y z).before a0 Z = true) (w6 : (Cond.instanceMethod z).before a0 Z = true) (w3 : (Cond.initialized z.cls).before a0 Z = true) (w4 : (Cond.code z bytes maxL ret).before a0 Z = true)
    (hy : y.cls ≠ "java/lang/invoke/MethodHandle" ∧ y.cls ≠ "java/lang/invoke/VarHandle") {Q : Option Value → Heap → List Loc → Prop} (hM : CtrW l Z h z bytes maxL ret [] rm as' Q) (eT : T.heap = h) (E : Exa Z h a C) (hsz : Ls.size = c.maxLocals)
    (hd : decode c.code pc = .ok (.invokevirtual index, 3)) (hlen : ∀ sig, parseMethodDescriptor y.desc = some sig → argsL.length = sig.parameters.length) (hst : S = argsL.reverse ++ .ref a :: rest) (has : (Value.ref a :: argsL).toArray = as')
    {W : Nat} (hW : 2 * 0 + (rest.map fun v => v.category).sum ≤ W) (hf : rm.frames + 1 ≤ R.frames) (hl : W + (maxL + 11) + rm.locals ≤ R.locals) (hc : cells + rm.cells ≤ R.cells) (hs : slots + rm.slots ≤ R.slots)
    (g : ∀ (v : Option Value) (T' : State) (L : List Loc) (k1 : Nat), Stand p l e R (s.setVm T'.vm) m args below meth c T' (locs ++ L) (cells + rm.cells) (slots + rm.slots) → s.Since T'.vm k1 → k1 ≤ T'.heap.size → Z.Warmed39 (s.setVm T'.vm).vm → (s.setVm T'.vm).vm.findClass own = some m.cls → Q v T'.heap L → Go p e below K (T'.setTop (mkF m (pc + 3) Ls (v.toList ++ rest)))) : Go p e below K (T.setTop (mkF m pc Ls S)) := by
  obtain ⟨cq, kq, q1, q2, q3⟩ := isOf hZ eT E
  subst eT
  obtain ⟨v, _, ⟨T', L', k', n'⟩, -, X', hS', hgr, ⟨Lc, hQ, l', y', z'⟩, st⟩ := X.virtualBackS hx (y := y) (z := z) hown (mvT hZ w1) (mvT hZ w2) hnf (mvT hZ w5) (mvT hZ w6) hy (backOfS (W := W) hM hZ w4 w3 hf hl) q1 q3 (g := mkF m pc Ls S) rfl hsz (Steps.refl _) (argsL := argsL) (rest := rest) hlen hst hW hd (fun _ _ => ⟨has, rfl, hc, hs⟩)
  dsimp only [Pt.U, Pt.locs, Pt.cells, Pt.slots] at X' l' y' z' st hQ hS' hgr
  subst l' y' z'
  exact Go.on st (g v T' Lc _ X' (foldS hS hk0 hS' hgr) (Nat.le_refl _) (State.Warmed39.trans (t := s.setVm vm0) hZ hS'.1) (by rw [show (s.setVm T'.vm).vm = T'.vm from rfl, hS'.1.alike.findClass]; exact hown) hQ)
end OwnWide
end Jvm.RoadKit
namespace Jvm.Pilot.@@N@@
open Jvm Jvm.ClassFile Sem Op Lib Jvm.Free Jvm.Stand Jvm.LawKit Jvm.RoadKit Bundle Jvm.Pilot.@@N@@.Jvm.D
theorem wd0 {Z : State} {a0 : Array Value} (hw : ∀ d ∈ tables_1, d.before a0 Z = true) : (Jvm.Cond.methodLink "com/example/cronopoly/cronopoly/ScheduleIdOfPinLaw" (13 : Nat) ({ cls := "com/example/cronopoly/cronopoly/ScheduleIdOfPinLaw", name := "idChar", desc := "(I)C" } : Jvm.MethodName)).before a0 Z = true := hw _ (List.mem_of_getElem? (i := 0) rfl)
theorem wd1 {Z : State} {a0 : Array Value} (hw : ∀ d ∈ tables_1, d.before a0 Z = true) : (Jvm.Cond.static ({ cls := "com/example/cronopoly/cronopoly/ScheduleIdOfPinLaw", name := "idChar", desc := "(I)C" } : Jvm.MethodName)).before a0 Z = true := hw _ (List.mem_of_getElem? (i := 1) rfl)
theorem wd2 {Z : State} {a0 : Array Value} (hw : ∀ d ∈ tables_1, d.before a0 Z = true) : (Jvm.Cond.initialized "com/example/cronopoly/cronopoly/ScheduleIdOfPinLaw").before a0 Z = true := hw _ (List.mem_of_getElem? (i := 2) rfl)
theorem wd3 {Z : State} {a0 : Array Value} (hw : ∀ d ∈ tables_1, d.before a0 Z = true) : (Jvm.Cond.code ({ cls := "com/example/cronopoly/cronopoly/ScheduleIdOfPinLaw", name := "idChar", desc := "(I)C" } : Jvm.MethodName) method_2_code (2 : Nat) (Option.some Jvm.ClassFile.FieldType.char)).before a0 Z = true := hw _ (List.mem_of_getElem? (i := 3) rfl)
theorem wd4 {Z : State} {a0 : Array Value} (hw : ∀ d ∈ tables_1, d.before a0 Z = true) : (Jvm.Cond.constant "com/example/cronopoly/cronopoly/ScheduleIdOfPinLaw" (7 : Nat) (2147483647 : Int32)).before a0 Z = true := hw _ (List.mem_of_getElem? (i := 4) rfl)
theorem wd5 {Z : State} {a0 : Array Value} (hw : ∀ d ∈ tables_1, d.before a0 Z = true) : (Jvm.Cond.methodLink "com/example/cronopoly/cronopoly/ScheduleIdOfPinLaw" (19 : Nat) ({ cls := "com/example/cronopoly/cronopoly/ScheduleIdOfPinLaw", name := "make", desc := "(ICCCC)Ljava/lang/String;" } : Jvm.MethodName)).before a0 Z = true := hw _ (List.mem_of_getElem? (i := 5) rfl)
theorem wd6 {Z : State} {a0 : Array Value} (hw : ∀ d ∈ tables_1, d.before a0 Z = true) : (Jvm.Cond.static ({ cls := "com/example/cronopoly/cronopoly/ScheduleIdOfPinLaw", name := "make", desc := "(ICCCC)Ljava/lang/String;" } : Jvm.MethodName)).before a0 Z = true := hw _ (List.mem_of_getElem? (i := 6) rfl)
theorem wd7 {Z : State} {a0 : Array Value} (hw : ∀ d ∈ tables_1, d.before a0 Z = true) : (Jvm.Cond.code ({ cls := "com/example/cronopoly/cronopoly/ScheduleIdOfPinLaw", name := "make", desc := "(ICCCC)Ljava/lang/String;" } : Jvm.MethodName) method_3_code (5 : Nat) (Option.some (Jvm.ClassFile.FieldType.object "java/lang/String"))).before a0 Z = true := hw _ (List.mem_of_getElem? (i := 7) rfl)
theorem wd8 {Z : State} {a0 : Array Value} (hw : ∀ d ∈ tables_1, d.before a0 Z = true) : (Jvm.Cond.classLink "com/example/cronopoly/cronopoly/ScheduleIdOfPinLaw" (8 : Nat) "java/lang/String").before a0 Z = true := hw _ (List.mem_of_getElem? (i := 8) rfl)
theorem wd9 {Z : State} {a0 : Array Value} (hw : ∀ d ∈ tables_1, d.before a0 Z = true) : (Jvm.Cond.instantiable "java/lang/String" (4 : Nat)).before a0 Z = true := hw _ (List.mem_of_getElem? (i := 9) rfl)
theorem wd10 {Z : State} {a0 : Array Value} (hw : ∀ d ∈ tables_1, d.before a0 Z = true) : (Jvm.Cond.initialized "java/lang/String").before a0 Z = true := hw _ (List.mem_of_getElem? (i := 10) rfl)
theorem wd11 {Z : State} {a0 : Array Value} (hw : ∀ d ∈ tables_1, d.before a0 Z = true) : (Jvm.Cond.arrayClass Jvm.ClassFile.FieldType.char).before a0 Z = true := hw _ (List.mem_of_getElem? (i := 11) rfl)
theorem wd12 {Z : State} {a0 : Array Value} (hw : ∀ d ∈ tables_1, d.before a0 Z = true) : (Jvm.Cond.methodLink "com/example/cronopoly/cronopoly/ScheduleIdOfPinLaw" (10 : Nat) ({ cls := "java/lang/String", name := "<init>", desc := "([C)V" } : Jvm.MethodName)).before a0 Z = true := hw _ (List.mem_of_getElem? (i := 12) rfl)
theorem wd13 {Z : State} {a0 : Array Value} (hw : ∀ d ∈ tables_1, d.before a0 Z = true) : (Jvm.Cond.instanceMethod ({ cls := "java/lang/String", name := "<init>", desc := "([C)V" } : Jvm.MethodName)).before a0 Z = true := hw _ (List.mem_of_getElem? (i := 13) rfl)
theorem wd14 {Z : State} {a0 : Array Value} (hw : ∀ d ∈ tables_1, d.before a0 Z = true) : (Jvm.Cond.code ({ cls := "java/lang/String", name := "<init>", desc := "([C)V" } : Jvm.MethodName) jdk_42_method_3_code (2 : Nat) (Option.none : Option Jvm.ClassFile.FieldType)).before a0 Z = true := hw _ (List.mem_of_getElem? (i := 14) rfl)
theorem wd15 {Z : State} {a0 : Array Value} (hw : ∀ d ∈ tables_1, d.before a0 Z = true) : (Jvm.Cond.methodLink "java/lang/String" (27 : Nat) ({ cls := "java/lang/String", name := "<init>", desc := "([CIILjava/lang/Void;)V" } : Jvm.MethodName)).before a0 Z = true := hw _ (List.mem_of_getElem? (i := 15) rfl)
theorem wd16 {Z : State} {a0 : Array Value} (hw : ∀ d ∈ tables_1, d.before a0 Z = true) : (Jvm.Cond.instanceMethod ({ cls := "java/lang/String", name := "<init>", desc := "([CIILjava/lang/Void;)V" } : Jvm.MethodName)).before a0 Z = true := hw _ (List.mem_of_getElem? (i := 16) rfl)
theorem wd18 {Z : State} {a0 : Array Value} (hw : ∀ d ∈ tables_1, d.before a0 Z = true) : (Jvm.Cond.code ({ cls := "java/lang/String", name := "<init>", desc := "([CIILjava/lang/Void;)V" } : Jvm.MethodName) jdk_42_method_149_code (6 : Nat) (Option.none : Option Jvm.ClassFile.FieldType)).before a0 Z = true := hw _ (List.mem_of_getElem? (i := 18) rfl)
theorem wd19 {Z : State} {a0 : Array Value} (hw : ∀ d ∈ tables_1, d.before a0 Z = true) : (Jvm.Cond.methodLink "java/lang/String" (1 : Nat) ({ cls := "java/lang/Object", name := "<init>", desc := "()V" } : Jvm.MethodName)).before a0 Z = true := hw _ (List.mem_of_getElem? (i := 19) rfl)
theorem wd20 {Z : State} {a0 : Array Value} (hw : ∀ d ∈ tables_1, d.before a0 Z = true) : (Jvm.Cond.instanceMethod ({ cls := "java/lang/Object", name := "<init>", desc := "()V" } : Jvm.MethodName)).before a0 Z = true := hw _ (List.mem_of_getElem? (i := 20) rfl)
theorem wd21 {Z : State} {a0 : Array Value} (hw : ∀ d ∈ tables_1, d.before a0 Z = true) : (Jvm.Cond.code ({ cls := "java/lang/Object", name := "<init>", desc := "()V" } : Jvm.MethodName) object_method_1_code (1 : Nat) (Option.none : Option Jvm.ClassFile.FieldType)).before a0 Z = true := hw _ (List.mem_of_getElem? (i := 21) rfl)
theorem wd22 {Z : State} {a0 : Array Value} (hw : ∀ d ∈ tables_1, d.before a0 Z = true) : (Jvm.Cond.fieldLink "java/lang/String" (38 : Nat) "java/lang/String" "COMPACT_STRINGS" "Z").before a0 Z = true := hw _ (List.mem_of_getElem? (i := 22) rfl)
theorem wd23 {Z : State} {a0 : Array Value} (hw : ∀ d ∈ tables_1, d.before a0 Z = true) : (Jvm.Cond.methodLink "java/lang/String" (177 : Nat) ({ cls := "java/lang/StringUTF16", name := "compress", desc := "([CII)[B" } : Jvm.MethodName)).before a0 Z = true := hw _ (List.mem_of_getElem? (i := 23) rfl)
theorem wd24 {Z : State} {a0 : Array Value} (hw : ∀ d ∈ tables_1, d.before a0 Z = true) : (Jvm.Cond.static ({ cls := "java/lang/StringUTF16", name := "compress", desc := "([CII)[B" } : Jvm.MethodName)).before a0 Z = true := hw _ (List.mem_of_getElem? (i := 24) rfl)
theorem wd25 {Z : State} {a0 : Array Value} (hw : ∀ d ∈ tables_1, d.before a0 Z = true) : (Jvm.Cond.initialized "java/lang/StringUTF16").before a0 Z = true := hw _ (List.mem_of_getElem? (i := 25) rfl)
theorem wd26 {Z : State} {a0 : Array Value} (hw : ∀ d ∈ tables_1, d.before a0 Z = true) : (Jvm.Cond.code ({ cls := "java/lang/StringUTF16", name := "compress", desc := "([CII)[B" } : Jvm.MethodName) jdk_52_method_16_code (6 : Nat) (Option.some (Jvm.ClassFile.FieldType.array Jvm.ClassFile.FieldType.byte))).before a0 Z = true := hw _ (List.mem_of_getElem? (i := 26) rfl)
theorem wd27 {Z : State} {a0 : Array Value} (hw : ∀ d ∈ tables_1, d.before a0 Z = true) : (Jvm.Cond.arrayClass Jvm.ClassFile.FieldType.byte).before a0 Z = true := hw _ (List.mem_of_getElem? (i := 27) rfl)
theorem wd28 {Z : State} {a0 : Array Value} (hw : ∀ d ∈ tables_1, d.before a0 Z = true) : (Jvm.Cond.methodLink "java/lang/StringUTF16" (115 : Nat) ({ cls := "java/lang/StringUTF16", name := "compress", desc := "([CI[BII)I" } : Jvm.MethodName)).before a0 Z = true := hw _ (List.mem_of_getElem? (i := 28) rfl)
theorem wd29 {Z : State} {a0 : Array Value} (hw : ∀ d ∈ tables_1, d.before a0 Z = true) : (Jvm.Cond.static ({ cls := "java/lang/StringUTF16", name := "compress", desc := "([CI[BII)I" } : Jvm.MethodName)).before a0 Z = true := hw _ (List.mem_of_getElem? (i := 29) rfl)
theorem wd30 {Z : State} {a0 : Array Value} (hw : ∀ d ∈ tables_1, d.before a0 Z = true) : (Jvm.Cond.code ({ cls := "java/lang/StringUTF16", name := "compress", desc := "([CI[BII)I" } : Jvm.MethodName) jdk_52_method_21_code (7 : Nat) (Option.some Jvm.ClassFile.FieldType.int)).before a0 Z = true := hw _ (List.mem_of_getElem? (i := 30) rfl)
theorem wd31 {Z : State} {a0 : Array Value} (hw : ∀ d ∈ tables_1, d.before a0 Z = true) : (Jvm.Cond.methodLink "java/lang/String" (47 : Nat) ({ cls := "java/lang/StringUTF16", name := "coderFromArrayLen", desc := "([BI)B" } : Jvm.MethodName)).before a0 Z = true := hw _ (List.mem_of_getElem? (i := 31) rfl)
theorem wd32 {Z : State} {a0 : Array Value} (hw : ∀ d ∈ tables_1, d.before a0 Z = true) : (Jvm.Cond.static ({ cls := "java/lang/StringUTF16", name := "coderFromArrayLen", desc := "([BI)B" } : Jvm.MethodName)).before a0 Z = true := hw _ (List.mem_of_getElem? (i := 32) rfl)
theorem wd33 {Z : State} {a0 : Array Value} (hw : ∀ d ∈ tables_1, d.before a0 Z = true) : (Jvm.Cond.code ({ cls := "java/lang/StringUTF16", name := "coderFromArrayLen", desc := "([BI)B" } : Jvm.MethodName) jdk_52_method_15_code (2 : Nat) (Option.some Jvm.ClassFile.FieldType.byte)).before a0 Z = true := hw _ (List.mem_of_getElem? (i := 33) rfl)
theorem wd34 {Z : State} {a0 : Array Value} (hw : ∀ d ∈ tables_1, d.before a0 Z = true) : (Jvm.Cond.fieldLink "java/lang/String" (15 : Nat) "java/lang/String" "coder" "B").before a0 Z = true := hw _ (List.mem_of_getElem? (i := 34) rfl)
theorem wd35 {Z : State} {a0 : Array Value} (hw : ∀ d ∈ tables_1, d.before a0 Z = true) : (Jvm.Cond.laysFinal "java/lang/String" "java/lang/String" "coder" "B").before a0 Z = true := hw _ (List.mem_of_getElem? (i := 35) rfl)
theorem wd36 {Z : State} {a0 : Array Value} (hw : ∀ d ∈ tables_1, d.before a0 Z = true) : (Jvm.Cond.fieldLink "java/lang/String" (9 : Nat) "java/lang/String" "value" "[B").before a0 Z = true := hw _ (List.mem_of_getElem? (i := 36) rfl)
theorem wd37 {Z : State} {a0 : Array Value} (hw : ∀ d ∈ tables_1, d.before a0 Z = true) : (Jvm.Cond.laysFinal "java/lang/String" "java/lang/String" "value" "[B").before a0 Z = true := hw _ (List.mem_of_getElem? (i := 37) rfl)
theorem wd38 {Z : State} {a0 : Array Value} (hw : ∀ d ∈ tables_1, d.before a0 Z = true) : (Jvm.Cond.methodLink "com/example/cronopoly/cronopoly/ScheduleIdOfPinLaw" (23 : Nat) ({ cls := "com/example/cronopoly/cronopoly/ScheduleId", name := "of", desc := "(Ljava/lang/String;)Lcom/example/cronopoly/cronopoly/ScheduleId;" } : Jvm.MethodName)).before a0 Z = true := hw _ (List.mem_of_getElem? (i := 38) rfl)
theorem wd39 {Z : State} {a0 : Array Value} (hw : ∀ d ∈ tables_1, d.before a0 Z = true) : (Jvm.Cond.static ({ cls := "com/example/cronopoly/cronopoly/ScheduleId", name := "of", desc := "(Ljava/lang/String;)Lcom/example/cronopoly/cronopoly/ScheduleId;" } : Jvm.MethodName)).before a0 Z = true := hw _ (List.mem_of_getElem? (i := 39) rfl)
theorem wd40 {Z : State} {a0 : Array Value} (hw : ∀ d ∈ tables_1, d.before a0 Z = true) : (Jvm.Cond.initialized "com/example/cronopoly/cronopoly/ScheduleId").before a0 Z = true := hw _ (List.mem_of_getElem? (i := 40) rfl)
theorem wd41 {Z : State} {a0 : Array Value} (hw : ∀ d ∈ tables_1, d.before a0 Z = true) : (Jvm.Cond.code ({ cls := "com/example/cronopoly/cronopoly/ScheduleId", name := "of", desc := "(Ljava/lang/String;)Lcom/example/cronopoly/cronopoly/ScheduleId;" } : Jvm.MethodName) prog_16_method_2_code (3 : Nat) (Option.some (Jvm.ClassFile.FieldType.object "com/example/cronopoly/cronopoly/ScheduleId"))).before a0 Z = true := hw _ (List.mem_of_getElem? (i := 41) rfl)
theorem wd42 {Z : State} {a0 : Array Value} (hw : ∀ d ∈ tables_1, d.before a0 Z = true) : (Jvm.Cond.stringLink "com/example/cronopoly/cronopoly/ScheduleId" (13 : Nat) "text").before a0 Z = true := hw _ (List.mem_of_getElem? (i := 42) rfl)
theorem wd45 {Z : State} {a0 : Array Value} (hw : ∀ d ∈ tables_1, d.before a0 Z = true) : (Jvm.Cond.methodLink "com/example/cronopoly/cronopoly/ScheduleId" (14 : Nat) ({ cls := "java/util/Objects", name := "requireNonNull", desc := "(Ljava/lang/Object;Ljava/lang/String;)Ljava/lang/Object;" } : Jvm.MethodName)).before a0 Z = true := hw _ (List.mem_of_getElem? (i := 45) rfl)
theorem wd46 {Z : State} {a0 : Array Value} (hw : ∀ d ∈ tables_1, d.before a0 Z = true) : (Jvm.Cond.static ({ cls := "java/util/Objects", name := "requireNonNull", desc := "(Ljava/lang/Object;Ljava/lang/String;)Ljava/lang/Object;" } : Jvm.MethodName)).before a0 Z = true := hw _ (List.mem_of_getElem? (i := 46) rfl)
theorem wd47 {Z : State} {a0 : Array Value} (hw : ∀ d ∈ tables_1, d.before a0 Z = true) : (Jvm.Cond.initialized "java/util/Objects").before a0 Z = true := hw _ (List.mem_of_getElem? (i := 47) rfl)
theorem wd48 {Z : State} {a0 : Array Value} (hw : ∀ d ∈ tables_1, d.before a0 Z = true) : (Jvm.Cond.code ({ cls := "java/util/Objects", name := "requireNonNull", desc := "(Ljava/lang/Object;Ljava/lang/String;)Ljava/lang/Object;" } : Jvm.MethodName) jdk_31_method_11_code (2 : Nat) (Option.some (Jvm.ClassFile.FieldType.object "java/lang/Object"))).before a0 Z = true := hw _ (List.mem_of_getElem? (i := 48) rfl)
theorem wd49 {Z : State} {a0 : Array Value} (hw : ∀ d ∈ tables_1, d.before a0 Z = true) : (Jvm.Cond.methodLink "com/example/cronopoly/cronopoly/ScheduleId" (20 : Nat) ({ cls := "java/lang/String", name := "isEmpty", desc := "()Z" } : Jvm.MethodName)).before a0 Z = true := hw _ (List.mem_of_getElem? (i := 49) rfl)
theorem wd50 {Z : State} {a0 : Array Value} (hw : ∀ d ∈ tables_1, d.before a0 Z = true) : (Jvm.Cond.declares ({ cls := "java/lang/String", name := "isEmpty", desc := "()Z" } : Jvm.MethodName)).before a0 Z = true := hw _ (List.mem_of_getElem? (i := 50) rfl)
theorem wd51 {Z : State} {a0 : Array Value} (hw : ∀ d ∈ tables_1, d.before a0 Z = true) : (Jvm.Cond.instanceMethod ({ cls := "java/lang/String", name := "isEmpty", desc := "()Z" } : Jvm.MethodName)).before a0 Z = true := hw _ (List.mem_of_getElem? (i := 51) rfl)
theorem wd52 {Z : State} {a0 : Array Value} (hw : ∀ d ∈ tables_1, d.before a0 Z = true) : (Jvm.Cond.selects "java/lang/String" ({ cls := "java/lang/String", name := "isEmpty", desc := "()Z" } : Jvm.MethodName) ({ cls := "java/lang/String", name := "isEmpty", desc := "()Z" } : Jvm.MethodName)).before a0 Z = true := hw _ (List.mem_of_getElem? (i := 52) rfl)
theorem wd53 {Z : State} {a0 : Array Value} (hw : ∀ d ∈ tables_1, d.before a0 Z = true) : (Jvm.Cond.code ({ cls := "java/lang/String", name := "isEmpty", desc := "()Z" } : Jvm.MethodName) jdk_42_method_55_code (1 : Nat) (Option.some Jvm.ClassFile.FieldType.boolean)).before a0 Z = true := hw _ (List.mem_of_getElem? (i := 53) rfl)
theorem wd54 {Z : State} {a0 : Array Value} (hw : ∀ d ∈ tables_1, d.before a0 Z = true) : (Jvm.Cond.methodLink "com/example/cronopoly/cronopoly/ScheduleId" (32 : Nat) ({ cls := "java/lang/String", name := "length", desc := "()I" } : Jvm.MethodName)).before a0 Z = true := hw _ (List.mem_of_getElem? (i := 54) rfl)
theorem wd55 {Z : State} {a0 : Array Value} (hw : ∀ d ∈ tables_1, d.before a0 Z = true) : (Jvm.Cond.declares ({ cls := "java/lang/String", name := "length", desc := "()I" } : Jvm.MethodName)).before a0 Z = true := hw _ (List.mem_of_getElem? (i := 55) rfl)
theorem wd56 {Z : State} {a0 : Array Value} (hw : ∀ d ∈ tables_1, d.before a0 Z = true) : (Jvm.Cond.instanceMethod ({ cls := "java/lang/String", name := "length", desc := "()I" } : Jvm.MethodName)).before a0 Z = true := hw _ (List.mem_of_getElem? (i := 56) rfl)
theorem wd57 {Z : State} {a0 : Array Value} (hw : ∀ d ∈ tables_1, d.before a0 Z = true) : (Jvm.Cond.selects "java/lang/String" ({ cls := "java/lang/String", name := "length", desc := "()I" } : Jvm.MethodName) ({ cls := "java/lang/String", name := "length", desc := "()I" } : Jvm.MethodName)).before a0 Z = true := hw _ (List.mem_of_getElem? (i := 57) rfl)
theorem wd58 {Z : State} {a0 : Array Value} (hw : ∀ d ∈ tables_1, d.before a0 Z = true) : (Jvm.Cond.code ({ cls := "java/lang/String", name := "length", desc := "()I" } : Jvm.MethodName) jdk_42_method_54_code (1 : Nat) (Option.some Jvm.ClassFile.FieldType.int)).before a0 Z = true := hw _ (List.mem_of_getElem? (i := 58) rfl)
theorem wd59 {Z : State} {a0 : Array Value} (hw : ∀ d ∈ tables_1, d.before a0 Z = true) : (Jvm.Cond.methodLink "java/lang/String" (335 : Nat) ({ cls := "java/lang/String", name := "coder", desc := "()B" } : Jvm.MethodName)).before a0 Z = true := hw _ (List.mem_of_getElem? (i := 59) rfl)
theorem wd60 {Z : State} {a0 : Array Value} (hw : ∀ d ∈ tables_1, d.before a0 Z = true) : (Jvm.Cond.declares ({ cls := "java/lang/String", name := "coder", desc := "()B" } : Jvm.MethodName)).before a0 Z = true := hw _ (List.mem_of_getElem? (i := 60) rfl)
theorem wd61 {Z : State} {a0 : Array Value} (hw : ∀ d ∈ tables_1, d.before a0 Z = true) : (Jvm.Cond.instanceMethod ({ cls := "java/lang/String", name := "coder", desc := "()B" } : Jvm.MethodName)).before a0 Z = true := hw _ (List.mem_of_getElem? (i := 61) rfl)
theorem wd62 {Z : State} {a0 : Array Value} (hw : ∀ d ∈ tables_1, d.before a0 Z = true) : (Jvm.Cond.selects "java/lang/String" ({ cls := "java/lang/String", name := "coder", desc := "()B" } : Jvm.MethodName) ({ cls := "java/lang/String", name := "coder", desc := "()B" } : Jvm.MethodName)).before a0 Z = true := hw _ (List.mem_of_getElem? (i := 62) rfl)
theorem wd63 {Z : State} {a0 : Array Value} (hw : ∀ d ∈ tables_1, d.before a0 Z = true) : (Jvm.Cond.code ({ cls := "java/lang/String", name := "coder", desc := "()B" } : Jvm.MethodName) jdk_42_method_152_code (1 : Nat) (Option.some Jvm.ClassFile.FieldType.byte)).before a0 Z = true := hw _ (List.mem_of_getElem? (i := 63) rfl)
theorem wd64 {Z : State} {a0 : Array Value} (hw : ∀ d ∈ tables_1, d.before a0 Z = true) : (Jvm.Cond.methodLink "com/example/cronopoly/cronopoly/ScheduleId" (36 : Nat) ({ cls := "java/lang/String", name := "codePointAt", desc := "(I)I" } : Jvm.MethodName)).before a0 Z = true := hw _ (List.mem_of_getElem? (i := 64) rfl)
theorem wd65 {Z : State} {a0 : Array Value} (hw : ∀ d ∈ tables_1, d.before a0 Z = true) : (Jvm.Cond.declares ({ cls := "java/lang/String", name := "codePointAt", desc := "(I)I" } : Jvm.MethodName)).before a0 Z = true := hw _ (List.mem_of_getElem? (i := 65) rfl)
theorem wd66 {Z : State} {a0 : Array Value} (hw : ∀ d ∈ tables_1, d.before a0 Z = true) : (Jvm.Cond.instanceMethod ({ cls := "java/lang/String", name := "codePointAt", desc := "(I)I" } : Jvm.MethodName)).before a0 Z = true := hw _ (List.mem_of_getElem? (i := 66) rfl)
theorem wd67 {Z : State} {a0 : Array Value} (hw : ∀ d ∈ tables_1, d.before a0 Z = true) : (Jvm.Cond.selects "java/lang/String" ({ cls := "java/lang/String", name := "codePointAt", desc := "(I)I" } : Jvm.MethodName) ({ cls := "java/lang/String", name := "codePointAt", desc := "(I)I" } : Jvm.MethodName)).before a0 Z = true := hw _ (List.mem_of_getElem? (i := 67) rfl)
theorem wd68 {Z : State} {a0 : Array Value} (hw : ∀ d ∈ tables_1, d.before a0 Z = true) : (Jvm.Cond.code ({ cls := "java/lang/String", name := "codePointAt", desc := "(I)I" } : Jvm.MethodName) jdk_42_method_57_code (3 : Nat) (Option.some Jvm.ClassFile.FieldType.int)).before a0 Z = true := hw _ (List.mem_of_getElem? (i := 68) rfl)
theorem wd69 {Z : State} {a0 : Array Value} (hw : ∀ d ∈ tables_1, d.before a0 Z = true) : (Jvm.Cond.methodLink "java/lang/String" (492 : Nat) ({ cls := "java/lang/String", name := "isLatin1", desc := "()Z" } : Jvm.MethodName)).before a0 Z = true := hw _ (List.mem_of_getElem? (i := 69) rfl)
theorem wd70 {Z : State} {a0 : Array Value} (hw : ∀ d ∈ tables_1, d.before a0 Z = true) : (Jvm.Cond.declares ({ cls := "java/lang/String", name := "isLatin1", desc := "()Z" } : Jvm.MethodName)).before a0 Z = true := hw _ (List.mem_of_getElem? (i := 70) rfl)
theorem wd71 {Z : State} {a0 : Array Value} (hw : ∀ d ∈ tables_1, d.before a0 Z = true) : (Jvm.Cond.instanceMethod ({ cls := "java/lang/String", name := "isLatin1", desc := "()Z" } : Jvm.MethodName)).before a0 Z = true := hw _ (List.mem_of_getElem? (i := 71) rfl)
theorem wd72 {Z : State} {a0 : Array Value} (hw : ∀ d ∈ tables_1, d.before a0 Z = true) : (Jvm.Cond.selects "java/lang/String" ({ cls := "java/lang/String", name := "isLatin1", desc := "()Z" } : Jvm.MethodName) ({ cls := "java/lang/String", name := "isLatin1", desc := "()Z" } : Jvm.MethodName)).before a0 Z = true := hw _ (List.mem_of_getElem? (i := 72) rfl)
theorem wd73 {Z : State} {a0 : Array Value} (hw : ∀ d ∈ tables_1, d.before a0 Z = true) : (Jvm.Cond.code ({ cls := "java/lang/String", name := "isLatin1", desc := "()Z" } : Jvm.MethodName) jdk_42_method_154_code (1 : Nat) (Option.some Jvm.ClassFile.FieldType.boolean)).before a0 Z = true := hw _ (List.mem_of_getElem? (i := 73) rfl)
theorem wd74 {Z : State} {a0 : Array Value} (hw : ∀ d ∈ tables_1, d.before a0 Z = true) : (Jvm.Cond.methodLink "java/lang/String" (499 : Nat) ({ cls := "java/lang/String", name := "checkIndex", desc := "(II)V" } : Jvm.MethodName)).before a0 Z = true := hw _ (List.mem_of_getElem? (i := 74) rfl)
theorem wd75 {Z : State} {a0 : Array Value} (hw : ∀ d ∈ tables_1, d.before a0 Z = true) : (Jvm.Cond.static ({ cls := "java/lang/String", name := "checkIndex", desc := "(II)V" } : Jvm.MethodName)).before a0 Z = true := hw _ (List.mem_of_getElem? (i := 75) rfl)
theorem wd76 {Z : State} {a0 : Array Value} (hw : ∀ d ∈ tables_1, d.before a0 Z = true) : (Jvm.Cond.code ({ cls := "java/lang/String", name := "checkIndex", desc := "(II)V" } : Jvm.MethodName) jdk_42_method_155_code (2 : Nat) (Option.none : Option Jvm.ClassFile.FieldType)).before a0 Z = true := hw _ (List.mem_of_getElem? (i := 76) rfl)
theorem wd77 {Z : State} {a0 : Array Value} (hw : ∀ d ∈ tables_1, d.before a0 Z = true) : (Jvm.Cond.fieldLink "java/lang/String" (1053 : Nat) "jdk/internal/util/Preconditions" "SIOOBE_FORMATTER" "Ljava/util/function/BiFunction;").before a0 Z = true := hw _ (List.mem_of_getElem? (i := 77) rfl)
theorem wd78 {Z : State} {a0 : Array Value} (hw : ∀ d ∈ tables_1, d.before a0 Z = true) : (Jvm.Cond.initialized "jdk/internal/util/Preconditions").before a0 Z = true := hw _ (List.mem_of_getElem? (i := 78) rfl)
theorem wd79 {Z : State} {a0 : Array Value} (hw : ∀ d ∈ tables_1, d.before a0 Z = true) : (Jvm.Cond.methodLink "java/lang/String" (1059 : Nat) ({ cls := "jdk/internal/util/Preconditions", name := "checkIndex", desc := "(IILjava/util/function/BiFunction;)I" } : Jvm.MethodName)).before a0 Z = true := hw _ (List.mem_of_getElem? (i := 79) rfl)
theorem wd80 {Z : State} {a0 : Array Value} (hw : ∀ d ∈ tables_1, d.before a0 Z = true) : (Jvm.Cond.static ({ cls := "jdk/internal/util/Preconditions", name := "checkIndex", desc := "(IILjava/util/function/BiFunction;)I" } : Jvm.MethodName)).before a0 Z = true := hw _ (List.mem_of_getElem? (i := 80) rfl)
theorem wd81 {Z : State} {a0 : Array Value} (hw : ∀ d ∈ tables_1, d.before a0 Z = true) : (Jvm.Cond.code ({ cls := "jdk/internal/util/Preconditions", name := "checkIndex", desc := "(IILjava/util/function/BiFunction;)I" } : Jvm.MethodName) jdk_41_method_11_code (3 : Nat) (Option.some Jvm.ClassFile.FieldType.int)).before a0 Z = true := hw _ (List.mem_of_getElem? (i := 81) rfl)
theorem wd82 {Z : State} {a0 : Array Value} (hw : ∀ d ∈ tables_1, d.before a0 Z = true) : (Jvm.Cond.methodLink "com/example/cronopoly/cronopoly/ScheduleId" (40 : Nat) ({ cls := "com/example/cronopoly/cronopoly/ScheduleId", name := "isIdCharacter", desc := "(I)Z" } : Jvm.MethodName)).before a0 Z = true := hw _ (List.mem_of_getElem? (i := 82) rfl)
theorem wd83 {Z : State} {a0 : Array Value} (hw : ∀ d ∈ tables_1, d.before a0 Z = true) : (Jvm.Cond.static ({ cls := "com/example/cronopoly/cronopoly/ScheduleId", name := "isIdCharacter", desc := "(I)Z" } : Jvm.MethodName)).before a0 Z = true := hw _ (List.mem_of_getElem? (i := 83) rfl)
theorem wd84 {Z : State} {a0 : Array Value} (hw : ∀ d ∈ tables_1, d.before a0 Z = true) : (Jvm.Cond.code ({ cls := "com/example/cronopoly/cronopoly/ScheduleId", name := "isIdCharacter", desc := "(I)Z" } : Jvm.MethodName) prog_16_method_3_code (2 : Nat) (Option.some Jvm.ClassFile.FieldType.boolean)).before a0 Z = true := hw _ (List.mem_of_getElem? (i := 84) rfl)
theorem wd85 {Z : State} {a0 : Array Value} (hw : ∀ d ∈ tables_1, d.before a0 Z = true) : (Jvm.Cond.classLink "com/example/cronopoly/cronopoly/ScheduleId" (8 : Nat) "com/example/cronopoly/cronopoly/ScheduleId").before a0 Z = true := hw _ (List.mem_of_getElem? (i := 85) rfl)
theorem wd86 {Z : State} {a0 : Array Value} (hw : ∀ d ∈ tables_1, d.before a0 Z = true) : (Jvm.Cond.instantiable "com/example/cronopoly/cronopoly/ScheduleId" (1 : Nat)).before a0 Z = true := hw _ (List.mem_of_getElem? (i := 86) rfl)
theorem wd87 {Z : State} {a0 : Array Value} (hw : ∀ d ∈ tables_1, d.before a0 Z = true) : (Jvm.Cond.methodLink "com/example/cronopoly/cronopoly/ScheduleId" (54 : Nat) ({ cls := "com/example/cronopoly/cronopoly/ScheduleId", name := "<init>", desc := "(Ljava/lang/String;)V" } : Jvm.MethodName)).before a0 Z = true := hw _ (List.mem_of_getElem? (i := 87) rfl)
theorem wd88 {Z : State} {a0 : Array Value} (hw : ∀ d ∈ tables_1, d.before a0 Z = true) : (Jvm.Cond.instanceMethod ({ cls := "com/example/cronopoly/cronopoly/ScheduleId", name := "<init>", desc := "(Ljava/lang/String;)V" } : Jvm.MethodName)).before a0 Z = true := hw _ (List.mem_of_getElem? (i := 88) rfl)
theorem wd89 {Z : State} {a0 : Array Value} (hw : ∀ d ∈ tables_1, d.before a0 Z = true) : (Jvm.Cond.code ({ cls := "com/example/cronopoly/cronopoly/ScheduleId", name := "<init>", desc := "(Ljava/lang/String;)V" } : Jvm.MethodName) prog_16_method_1_code (2 : Nat) (Option.none : Option Jvm.ClassFile.FieldType)).before a0 Z = true := hw _ (List.mem_of_getElem? (i := 89) rfl)
theorem wd90 {Z : State} {a0 : Array Value} (hw : ∀ d ∈ tables_1, d.before a0 Z = true) : (Jvm.Cond.methodLink "com/example/cronopoly/cronopoly/ScheduleId" (1 : Nat) ({ cls := "java/lang/Object", name := "<init>", desc := "()V" } : Jvm.MethodName)).before a0 Z = true := hw _ (List.mem_of_getElem? (i := 90) rfl)
theorem wd91 {Z : State} {a0 : Array Value} (hw : ∀ d ∈ tables_1, d.before a0 Z = true) : (Jvm.Cond.fieldLink "com/example/cronopoly/cronopoly/ScheduleId" (7 : Nat) "com/example/cronopoly/cronopoly/ScheduleId" "text" "Ljava/lang/String;").before a0 Z = true := hw _ (List.mem_of_getElem? (i := 91) rfl)
theorem wd92 {Z : State} {a0 : Array Value} (hw : ∀ d ∈ tables_1, d.before a0 Z = true) : (Jvm.Cond.laysFinal "com/example/cronopoly/cronopoly/ScheduleId" "com/example/cronopoly/cronopoly/ScheduleId" "text" "Ljava/lang/String;").before a0 Z = true := hw _ (List.mem_of_getElem? (i := 92) rfl)
theorem wd93 {Z : State} {a0 : Array Value} (hw : ∀ d ∈ tables_1, d.before a0 Z = true) : (Jvm.Cond.methodLink "com/example/cronopoly/cronopoly/ScheduleIdOfPinLaw" (29 : Nat) ({ cls := "com/example/cronopoly/cronopoly/ScheduleId", name := "toString", desc := "()Ljava/lang/String;" } : Jvm.MethodName)).before a0 Z = true := hw _ (List.mem_of_getElem? (i := 93) rfl)
theorem wd94 {Z : State} {a0 : Array Value} (hw : ∀ d ∈ tables_1, d.before a0 Z = true) : (Jvm.Cond.declares ({ cls := "com/example/cronopoly/cronopoly/ScheduleId", name := "toString", desc := "()Ljava/lang/String;" } : Jvm.MethodName)).before a0 Z = true := hw _ (List.mem_of_getElem? (i := 94) rfl)
theorem wd95 {Z : State} {a0 : Array Value} (hw : ∀ d ∈ tables_1, d.before a0 Z = true) : (Jvm.Cond.instanceMethod ({ cls := "com/example/cronopoly/cronopoly/ScheduleId", name := "toString", desc := "()Ljava/lang/String;" } : Jvm.MethodName)).before a0 Z = true := hw _ (List.mem_of_getElem? (i := 95) rfl)
theorem wd96 {Z : State} {a0 : Array Value} (hw : ∀ d ∈ tables_1, d.before a0 Z = true) : (Jvm.Cond.selects "com/example/cronopoly/cronopoly/ScheduleId" ({ cls := "com/example/cronopoly/cronopoly/ScheduleId", name := "toString", desc := "()Ljava/lang/String;" } : Jvm.MethodName) ({ cls := "com/example/cronopoly/cronopoly/ScheduleId", name := "toString", desc := "()Ljava/lang/String;" } : Jvm.MethodName)).before a0 Z = true := hw _ (List.mem_of_getElem? (i := 96) rfl)
theorem wd97 {Z : State} {a0 : Array Value} (hw : ∀ d ∈ tables_1, d.before a0 Z = true) : (Jvm.Cond.code ({ cls := "com/example/cronopoly/cronopoly/ScheduleId", name := "toString", desc := "()Ljava/lang/String;" } : Jvm.MethodName) prog_16_method_6_code (1 : Nat) (Option.some (Jvm.ClassFile.FieldType.object "java/lang/String"))).before a0 Z = true := hw _ (List.mem_of_getElem? (i := 97) rfl)
theorem wd98 {Z : State} {a0 : Array Value} (hw : ∀ d ∈ tables_1, d.before a0 Z = true) : (Jvm.Cond.methodLink "com/example/cronopoly/cronopoly/ScheduleIdOfPinLaw" (33 : Nat) ({ cls := "java/lang/String", name := "equals", desc := "(Ljava/lang/Object;)Z" } : Jvm.MethodName)).before a0 Z = true := hw _ (List.mem_of_getElem? (i := 98) rfl)
theorem wd99 {Z : State} {a0 : Array Value} (hw : ∀ d ∈ tables_1, d.before a0 Z = true) : (Jvm.Cond.declares ({ cls := "java/lang/String", name := "equals", desc := "(Ljava/lang/Object;)Z" } : Jvm.MethodName)).before a0 Z = true := hw _ (List.mem_of_getElem? (i := 99) rfl)
theorem wd100 {Z : State} {a0 : Array Value} (hw : ∀ d ∈ tables_1, d.before a0 Z = true) : (Jvm.Cond.instanceMethod ({ cls := "java/lang/String", name := "equals", desc := "(Ljava/lang/Object;)Z" } : Jvm.MethodName)).before a0 Z = true := hw _ (List.mem_of_getElem? (i := 100) rfl)
theorem wd101 {Z : State} {a0 : Array Value} (hw : ∀ d ∈ tables_1, d.before a0 Z = true) : (Jvm.Cond.selects "java/lang/String" ({ cls := "java/lang/String", name := "equals", desc := "(Ljava/lang/Object;)Z" } : Jvm.MethodName) ({ cls := "java/lang/String", name := "equals", desc := "(Ljava/lang/Object;)Z" } : Jvm.MethodName)).before a0 Z = true := hw _ (List.mem_of_getElem? (i := 101) rfl)
theorem wd102 {Z : State} {a0 : Array Value} (hw : ∀ d ∈ tables_1, d.before a0 Z = true) : (Jvm.Cond.code ({ cls := "java/lang/String", name := "equals", desc := "(Ljava/lang/Object;)Z" } : Jvm.MethodName) jdk_42_method_66_code (3 : Nat) (Option.some Jvm.ClassFile.FieldType.boolean)).before a0 Z = true := hw _ (List.mem_of_getElem? (i := 102) rfl)
theorem wd103 {Z : State} {a0 : Array Value} (hw : ∀ d ∈ tables_1, d.before a0 Z = true) : (Jvm.Cond.methodLink "com/example/cronopoly/cronopoly/ScheduleIdOfPinLaw" (37 : Nat) ({ cls := "java/lang/String", name := "length", desc := "()I" } : Jvm.MethodName)).before a0 Z = true := hw _ (List.mem_of_getElem? (i := 103) rfl)
theorem wd104 {Z : State} {a0 : Array Value} (hw : ∀ d ∈ tables_1, d.before a0 Z = true) : (Jvm.Cond.methodLink "com/example/cronopoly/cronopoly/ScheduleIdOfPinLaw" (41 : Nat) ({ cls := "com/example/cronopoly/cronopoly/ScheduleId", name := "equals", desc := "(Ljava/lang/Object;)Z" } : Jvm.MethodName)).before a0 Z = true := hw _ (List.mem_of_getElem? (i := 104) rfl)
theorem wd105 {Z : State} {a0 : Array Value} (hw : ∀ d ∈ tables_1, d.before a0 Z = true) : (Jvm.Cond.declares ({ cls := "com/example/cronopoly/cronopoly/ScheduleId", name := "equals", desc := "(Ljava/lang/Object;)Z" } : Jvm.MethodName)).before a0 Z = true := hw _ (List.mem_of_getElem? (i := 105) rfl)
theorem wd106 {Z : State} {a0 : Array Value} (hw : ∀ d ∈ tables_1, d.before a0 Z = true) : (Jvm.Cond.instanceMethod ({ cls := "com/example/cronopoly/cronopoly/ScheduleId", name := "equals", desc := "(Ljava/lang/Object;)Z" } : Jvm.MethodName)).before a0 Z = true := hw _ (List.mem_of_getElem? (i := 106) rfl)
theorem wd107 {Z : State} {a0 : Array Value} (hw : ∀ d ∈ tables_1, d.before a0 Z = true) : (Jvm.Cond.selects "com/example/cronopoly/cronopoly/ScheduleId" ({ cls := "com/example/cronopoly/cronopoly/ScheduleId", name := "equals", desc := "(Ljava/lang/Object;)Z" } : Jvm.MethodName) ({ cls := "com/example/cronopoly/cronopoly/ScheduleId", name := "equals", desc := "(Ljava/lang/Object;)Z" } : Jvm.MethodName)).before a0 Z = true := hw _ (List.mem_of_getElem? (i := 107) rfl)
theorem wd108 {Z : State} {a0 : Array Value} (hw : ∀ d ∈ tables_1, d.before a0 Z = true) : (Jvm.Cond.code ({ cls := "com/example/cronopoly/cronopoly/ScheduleId", name := "equals", desc := "(Ljava/lang/Object;)Z" } : Jvm.MethodName) prog_16_method_7_code (3 : Nat) (Option.some Jvm.ClassFile.FieldType.boolean)).before a0 Z = true := hw _ (List.mem_of_getElem? (i := 108) rfl)
theorem wd110 {Z : State} {a0 : Array Value} (hw : ∀ d ∈ tables_1, d.before a0 Z = true) : (Jvm.Cond.methodLink "com/example/cronopoly/cronopoly/ScheduleId" (85 : Nat) ({ cls := "java/lang/String", name := "equals", desc := "(Ljava/lang/Object;)Z" } : Jvm.MethodName)).before a0 Z = true := hw _ (List.mem_of_getElem? (i := 110) rfl)
theorem wd111 {Z : State} {a0 : Array Value} (hw : ∀ d ∈ tables_1, d.before a0 Z = true) : (Jvm.Cond.classLink "java/lang/String" (10 : Nat) "java/lang/String").before a0 Z = true := hw _ (List.mem_of_getElem? (i := 111) rfl)
theorem wd112 {Z : State} {a0 : Array Value} (hw : ∀ d ∈ tables_1, d.before a0 Z = true) : (Jvm.Cond.methodLink "java/lang/String" (541 : Nat) ({ cls := "java/lang/StringLatin1", name := "equals", desc := "([B[B)Z" } : Jvm.MethodName)).before a0 Z = true := hw _ (List.mem_of_getElem? (i := 112) rfl)
theorem wd113 {Z : State} {a0 : Array Value} (hw : ∀ d ∈ tables_1, d.before a0 Z = true) : (Jvm.Cond.static ({ cls := "java/lang/StringLatin1", name := "equals", desc := "([B[B)Z" } : Jvm.MethodName)).before a0 Z = true := hw _ (List.mem_of_getElem? (i := 113) rfl)
theorem wd114 {Z : State} {a0 : Array Value} (hw : ∀ d ∈ tables_1, d.before a0 Z = true) : (Jvm.Cond.initialized "java/lang/StringLatin1").before a0 Z = true := hw _ (List.mem_of_getElem? (i := 114) rfl)
theorem wd115 {Z : State} {a0 : Array Value} (hw : ∀ d ∈ tables_1, d.before a0 Z = true) : (Jvm.Cond.code ({ cls := "java/lang/StringLatin1", name := "equals", desc := "([B[B)Z" } : Jvm.MethodName) jdk_43_method_13_code (3 : Nat) (Option.some Jvm.ClassFile.FieldType.boolean)).before a0 Z = true := hw _ (List.mem_of_getElem? (i := 115) rfl)
theorem own_wS {Z : State} {a0 : Array Value} (hw : ∀ d ∈ tables_1, d.before a0 Z = true) : ∀ d ∈ Bundle.stringAtoms, d.before a0 Z = true := by
  intro d hd
  simp only [Bundle.stringAtoms, List.mem_cons, List.not_mem_nil, or_false] at hd
  rcases hd with rfl | rfl | rfl | rfl | rfl | rfl | rfl
  · exact hw _ (List.mem_of_getElem? (i := 10) rfl)
  · exact hw _ (List.mem_of_getElem? (i := 9) rfl)
  · exact hw _ (List.mem_of_getElem? (i := 27) rfl)
  · exact hw _ (List.mem_of_getElem? (i := 37) rfl)
  · exact hw _ (List.mem_of_getElem? (i := 35) rfl)
  · exact hw _ (List.mem_of_getElem? (i := 43) rfl)
  · exact hw _ (List.mem_of_getElem? (i := 44) rfl)
theorem d1_0 : decode method_2_code 0 = .ok (.iload_n 0, 1) := by decide +kernel
theorem d1_1 : decode method_2_code 1 = .ok (.ldc 7, 2) := by decide +kernel
theorem d1_3 : decode method_2_code 3 = .ok (.iand, 1) := by decide +kernel
theorem d1_4 : decode method_2_code 4 = .ok (.bipush 65, 2) := by decide +kernel
theorem d1_6 : decode method_2_code 6 = .ok (.irem, 1) := by decide +kernel
theorem d1_7 : decode method_2_code 7 = .ok (.istore_n 1, 1) := by decide +kernel
theorem d1_8 : decode method_2_code 8 = .ok (.iload_n 1, 1) := by decide +kernel
theorem d1_9 : decode method_2_code 9 = .ok (.bipush 26, 2) := by decide +kernel
theorem d1_11 : decode method_2_code 11 = .ok (.if_icmp .ge 9, 3) := by decide +kernel
theorem d1_14 : decode method_2_code 14 = .ok (.bipush 65, 2) := by decide +kernel
theorem d1_16 : decode method_2_code 16 = .ok (.iload_n 1, 1) := by decide +kernel
theorem d1_17 : decode method_2_code 17 = .ok (.iadd, 1) := by decide +kernel
theorem d1_18 : decode method_2_code 18 = .ok (.i2c, 1) := by decide +kernel
theorem d1_19 : decode method_2_code 19 = .ok (.ireturn, 1) := by decide +kernel
theorem d1_20 : decode method_2_code 20 = .ok (.iload_n 1, 1) := by decide +kernel
theorem d1_21 : decode method_2_code 21 = .ok (.bipush 52, 2) := by decide +kernel
theorem d1_23 : decode method_2_code 23 = .ok (.if_icmp .ge 12, 3) := by decide +kernel
theorem d1_26 : decode method_2_code 26 = .ok (.bipush 97, 2) := by decide +kernel
theorem d1_28 : decode method_2_code 28 = .ok (.iload_n 1, 1) := by decide +kernel
theorem d1_29 : decode method_2_code 29 = .ok (.bipush 26, 2) := by decide +kernel
theorem d1_31 : decode method_2_code 31 = .ok (.isub, 1) := by decide +kernel
theorem d1_32 : decode method_2_code 32 = .ok (.iadd, 1) := by decide +kernel
theorem d1_33 : decode method_2_code 33 = .ok (.i2c, 1) := by decide +kernel
theorem d1_34 : decode method_2_code 34 = .ok (.ireturn, 1) := by decide +kernel
theorem d1_35 : decode method_2_code 35 = .ok (.iload_n 1, 1) := by decide +kernel
theorem d1_36 : decode method_2_code 36 = .ok (.bipush 62, 2) := by decide +kernel
theorem d1_38 : decode method_2_code 38 = .ok (.if_icmp .ge 12, 3) := by decide +kernel
theorem d1_41 : decode method_2_code 41 = .ok (.bipush 48, 2) := by decide +kernel
theorem d1_43 : decode method_2_code 43 = .ok (.iload_n 1, 1) := by decide +kernel
theorem d1_44 : decode method_2_code 44 = .ok (.bipush 52, 2) := by decide +kernel
theorem d1_46 : decode method_2_code 46 = .ok (.isub, 1) := by decide +kernel
theorem d1_47 : decode method_2_code 47 = .ok (.iadd, 1) := by decide +kernel
theorem d1_48 : decode method_2_code 48 = .ok (.i2c, 1) := by decide +kernel
theorem d1_49 : decode method_2_code 49 = .ok (.ireturn, 1) := by decide +kernel
theorem d1_50 : decode method_2_code 50 = .ok (.iload_n 1, 1) := by decide +kernel
theorem d1_51 : decode method_2_code 51 = .ok (.bipush 62, 2) := by decide +kernel
theorem d1_53 : decode method_2_code 53 = .ok (.if_icmp .ne 6, 3) := by decide +kernel
theorem d1_56 : decode method_2_code 56 = .ok (.bipush 46, 2) := by decide +kernel
theorem d1_58 : decode method_2_code 58 = .ok (.ireturn, 1) := by decide +kernel
theorem d1_59 : decode method_2_code 59 = .ok (.iload_n 1, 1) := by decide +kernel
theorem d1_60 : decode method_2_code 60 = .ok (.bipush 63, 2) := by decide +kernel
theorem d1_62 : decode method_2_code 62 = .ok (.if_icmp .ne 6, 3) := by decide +kernel
theorem d1_65 : decode method_2_code 65 = .ok (.bipush 95, 2) := by decide +kernel
theorem d1_67 : decode method_2_code 67 = .ok (.ireturn, 1) := by decide +kernel
theorem d1_68 : decode method_2_code 68 = .ok (.bipush 45, 2) := by decide +kernel
theorem d1_70 : decode method_2_code 70 = .ok (.ireturn, 1) := by decide +kernel
theorem d2_0 : decode method_3_code 0 = .ok (.iload_n 0, 1) := by decide +kernel
theorem d2_1 : decode method_3_code 1 = .ok (.iconst 1, 1) := by decide +kernel
theorem d2_2 : decode method_3_code 2 = .ok (.if_icmp .ne 18, 3) := by decide +kernel
theorem d2_5 : decode method_3_code 5 = .ok (.new 8, 3) := by decide +kernel
theorem d2_8 : decode method_3_code 8 = .ok (.dup, 1) := by decide +kernel
theorem d2_9 : decode method_3_code 9 = .ok (.iconst 1, 1) := by decide +kernel
theorem d2_10 : decode method_3_code 10 = .ok (.newarray .char, 2) := by decide +kernel
theorem d2_12 : decode method_3_code 12 = .ok (.dup, 1) := by decide +kernel
theorem d2_13 : decode method_3_code 13 = .ok (.iconst 0, 1) := by decide +kernel
theorem d2_14 : decode method_3_code 14 = .ok (.iload_n 1, 1) := by decide +kernel
theorem d2_15 : decode method_3_code 15 = .ok (.castore, 1) := by decide +kernel
theorem d2_16 : decode method_3_code 16 = .ok (.invokespecial 10, 3) := by decide +kernel
theorem d2_19 : decode method_3_code 19 = .ok (.areturn, 1) := by decide +kernel
theorem d2_20 : decode method_3_code 20 = .ok (.iload_n 0, 1) := by decide +kernel
theorem d2_21 : decode method_3_code 21 = .ok (.iconst 2, 1) := by decide +kernel
theorem d2_22 : decode method_3_code 22 = .ok (.if_icmp .ne 22, 3) := by decide +kernel
theorem d2_25 : decode method_3_code 25 = .ok (.new 8, 3) := by decide +kernel
theorem d2_28 : decode method_3_code 28 = .ok (.dup, 1) := by decide +kernel
theorem d2_29 : decode method_3_code 29 = .ok (.iconst 2, 1) := by decide +kernel
theorem d2_30 : decode method_3_code 30 = .ok (.newarray .char, 2) := by decide +kernel
theorem d2_32 : decode method_3_code 32 = .ok (.dup, 1) := by decide +kernel
theorem d2_33 : decode method_3_code 33 = .ok (.iconst 0, 1) := by decide +kernel
theorem d2_34 : decode method_3_code 34 = .ok (.iload_n 1, 1) := by decide +kernel
theorem d2_35 : decode method_3_code 35 = .ok (.castore, 1) := by decide +kernel
theorem d2_36 : decode method_3_code 36 = .ok (.dup, 1) := by decide +kernel
theorem d2_37 : decode method_3_code 37 = .ok (.iconst 1, 1) := by decide +kernel
theorem d2_38 : decode method_3_code 38 = .ok (.iload_n 2, 1) := by decide +kernel
theorem d2_39 : decode method_3_code 39 = .ok (.castore, 1) := by decide +kernel
theorem d2_40 : decode method_3_code 40 = .ok (.invokespecial 10, 3) := by decide +kernel
theorem d2_43 : decode method_3_code 43 = .ok (.areturn, 1) := by decide +kernel
theorem d2_44 : decode method_3_code 44 = .ok (.iload_n 0, 1) := by decide +kernel
theorem d2_45 : decode method_3_code 45 = .ok (.iconst 3, 1) := by decide +kernel
theorem d2_46 : decode method_3_code 46 = .ok (.if_icmp .ne 26, 3) := by decide +kernel
theorem d2_49 : decode method_3_code 49 = .ok (.new 8, 3) := by decide +kernel
theorem d2_52 : decode method_3_code 52 = .ok (.dup, 1) := by decide +kernel
theorem d2_53 : decode method_3_code 53 = .ok (.iconst 3, 1) := by decide +kernel
theorem d2_54 : decode method_3_code 54 = .ok (.newarray .char, 2) := by decide +kernel
theorem d2_56 : decode method_3_code 56 = .ok (.dup, 1) := by decide +kernel
theorem d2_57 : decode method_3_code 57 = .ok (.iconst 0, 1) := by decide +kernel
theorem d2_58 : decode method_3_code 58 = .ok (.iload_n 1, 1) := by decide +kernel
theorem d2_59 : decode method_3_code 59 = .ok (.castore, 1) := by decide +kernel
theorem d2_60 : decode method_3_code 60 = .ok (.dup, 1) := by decide +kernel
theorem d2_61 : decode method_3_code 61 = .ok (.iconst 1, 1) := by decide +kernel
theorem d2_62 : decode method_3_code 62 = .ok (.iload_n 2, 1) := by decide +kernel
theorem d2_63 : decode method_3_code 63 = .ok (.castore, 1) := by decide +kernel
theorem d2_64 : decode method_3_code 64 = .ok (.dup, 1) := by decide +kernel
theorem d2_65 : decode method_3_code 65 = .ok (.iconst 2, 1) := by decide +kernel
theorem d2_66 : decode method_3_code 66 = .ok (.iload_n 3, 1) := by decide +kernel
theorem d2_67 : decode method_3_code 67 = .ok (.castore, 1) := by decide +kernel
theorem d2_68 : decode method_3_code 68 = .ok (.invokespecial 10, 3) := by decide +kernel
theorem d2_71 : decode method_3_code 71 = .ok (.areturn, 1) := by decide +kernel
theorem d2_72 : decode method_3_code 72 = .ok (.new 8, 3) := by decide +kernel
theorem d2_75 : decode method_3_code 75 = .ok (.dup, 1) := by decide +kernel
theorem d2_76 : decode method_3_code 76 = .ok (.iconst 4, 1) := by decide +kernel
theorem d2_77 : decode method_3_code 77 = .ok (.newarray .char, 2) := by decide +kernel
theorem d2_79 : decode method_3_code 79 = .ok (.dup, 1) := by decide +kernel
theorem d2_80 : decode method_3_code 80 = .ok (.iconst 0, 1) := by decide +kernel
theorem d2_81 : decode method_3_code 81 = .ok (.iload_n 1, 1) := by decide +kernel
theorem d2_82 : decode method_3_code 82 = .ok (.castore, 1) := by decide +kernel
theorem d2_83 : decode method_3_code 83 = .ok (.dup, 1) := by decide +kernel
theorem d2_84 : decode method_3_code 84 = .ok (.iconst 1, 1) := by decide +kernel
theorem d2_85 : decode method_3_code 85 = .ok (.iload_n 2, 1) := by decide +kernel
theorem d2_86 : decode method_3_code 86 = .ok (.castore, 1) := by decide +kernel
theorem d2_87 : decode method_3_code 87 = .ok (.dup, 1) := by decide +kernel
theorem d2_88 : decode method_3_code 88 = .ok (.iconst 2, 1) := by decide +kernel
theorem d2_89 : decode method_3_code 89 = .ok (.iload_n 3, 1) := by decide +kernel
theorem d2_90 : decode method_3_code 90 = .ok (.castore, 1) := by decide +kernel
theorem d2_91 : decode method_3_code 91 = .ok (.dup, 1) := by decide +kernel
theorem d2_92 : decode method_3_code 92 = .ok (.iconst 3, 1) := by decide +kernel
theorem d2_93 : decode method_3_code 93 = .ok (.iload 4, 2) := by decide +kernel
theorem d2_95 : decode method_3_code 95 = .ok (.castore, 1) := by decide +kernel
theorem d2_96 : decode method_3_code 96 = .ok (.invokespecial 10, 3) := by decide +kernel
theorem d2_99 : decode method_3_code 99 = .ok (.areturn, 1) := by decide +kernel
theorem d3_0 : decode jdk_42_method_3_code 0 = .ok (.aload_n 0, 1) := by decide +kernel
theorem d3_1 : decode jdk_42_method_3_code 1 = .ok (.aload_n 1, 1) := by decide +kernel
theorem d3_2 : decode jdk_42_method_3_code 2 = .ok (.iconst 0, 1) := by decide +kernel
theorem d3_3 : decode jdk_42_method_3_code 3 = .ok (.aload_n 1, 1) := by decide +kernel
theorem d3_4 : decode jdk_42_method_3_code 4 = .ok (.arraylength, 1) := by decide +kernel
theorem d3_5 : decode jdk_42_method_3_code 5 = .ok (.aconst_null, 1) := by decide +kernel
theorem d3_6 : decode jdk_42_method_3_code 6 = .ok (.invokespecial 27, 3) := by decide +kernel
theorem d3_9 : decode jdk_42_method_3_code 9 = .ok (.return_, 1) := by decide +kernel
theorem d4_0 : decode jdk_42_method_149_code 0 = .ok (.aload_n 0, 1) := by decide +kernel
theorem d4_1 : decode jdk_42_method_149_code 1 = .ok (.invokespecial 1, 3) := by decide +kernel
theorem d4_4 : decode jdk_42_method_149_code 4 = .ok (.iload_n 3, 1) := by decide +kernel
theorem d4_5 : decode jdk_42_method_149_code 5 = .ok (.ifCond .ne 22, 3) := by decide +kernel
theorem d4_27 : decode jdk_42_method_149_code 27 = .ok (.getstatic 38, 3) := by decide +kernel
theorem d4_30 : decode jdk_42_method_149_code 30 = .ok (.ifCond .eq 28, 3) := by decide +kernel
theorem d4_33 : decode jdk_42_method_149_code 33 = .ok (.aload_n 1, 1) := by decide +kernel
theorem d4_34 : decode jdk_42_method_149_code 34 = .ok (.iload_n 2, 1) := by decide +kernel
theorem d4_35 : decode jdk_42_method_149_code 35 = .ok (.iload_n 3, 1) := by decide +kernel
theorem d4_36 : decode jdk_42_method_149_code 36 = .ok (.invokestatic 177, 3) := by decide +kernel
theorem d4_39 : decode jdk_42_method_149_code 39 = .ok (.astore 5, 2) := by decide +kernel
theorem d4_41 : decode jdk_42_method_149_code 41 = .ok (.aload_n 0, 1) := by decide +kernel
theorem d4_42 : decode jdk_42_method_149_code 42 = .ok (.aload 5, 2) := by decide +kernel
theorem d4_44 : decode jdk_42_method_149_code 44 = .ok (.iload_n 3, 1) := by decide +kernel
theorem d4_45 : decode jdk_42_method_149_code 45 = .ok (.invokestatic 47, 3) := by decide +kernel
theorem d4_48 : decode jdk_42_method_149_code 48 = .ok (.putfield 15, 3) := by decide +kernel
theorem d4_51 : decode jdk_42_method_149_code 51 = .ok (.aload_n 0, 1) := by decide +kernel
theorem d4_52 : decode jdk_42_method_149_code 52 = .ok (.aload 5, 2) := by decide +kernel
theorem d4_54 : decode jdk_42_method_149_code 54 = .ok (.putfield 9, 3) := by decide +kernel
theorem d4_57 : decode jdk_42_method_149_code 57 = .ok (.return_, 1) := by decide +kernel
theorem d6_0 : decode jdk_52_method_16_code 0 = .ok (.iload_n 2, 1) := by decide +kernel
theorem d6_1 : decode jdk_52_method_16_code 1 = .ok (.newarray .byte, 2) := by decide +kernel
theorem d6_3 : decode jdk_52_method_16_code 3 = .ok (.astore_n 3, 1) := by decide +kernel
theorem d6_4 : decode jdk_52_method_16_code 4 = .ok (.aload_n 0, 1) := by decide +kernel
theorem d6_5 : decode jdk_52_method_16_code 5 = .ok (.iload_n 1, 1) := by decide +kernel
theorem d6_6 : decode jdk_52_method_16_code 6 = .ok (.aload_n 3, 1) := by decide +kernel
theorem d6_7 : decode jdk_52_method_16_code 7 = .ok (.iconst 0, 1) := by decide +kernel
theorem d6_8 : decode jdk_52_method_16_code 8 = .ok (.iload_n 2, 1) := by decide +kernel
theorem d6_9 : decode jdk_52_method_16_code 9 = .ok (.invokestatic 115, 3) := by decide +kernel
theorem d6_12 : decode jdk_52_method_16_code 12 = .ok (.istore 4, 2) := by decide +kernel
theorem d6_14 : decode jdk_52_method_16_code 14 = .ok (.iload 4, 2) := by decide +kernel
theorem d6_16 : decode jdk_52_method_16_code 16 = .ok (.iload_n 2, 1) := by decide +kernel
theorem d6_17 : decode jdk_52_method_16_code 17 = .ok (.if_icmp .eq 40, 3) := by decide +kernel
theorem d6_57 : decode jdk_52_method_16_code 57 = .ok (.aload_n 3, 1) := by decide +kernel
theorem d6_58 : decode jdk_52_method_16_code 58 = .ok (.areturn, 1) := by decide +kernel
theorem d7_0 : decode jdk_52_method_21_code 0 = .ok (.iconst 0, 1) := by decide +kernel
theorem d7_1 : decode jdk_52_method_21_code 1 = .ok (.istore 5, 2) := by decide +kernel
theorem d7_3 : decode jdk_52_method_21_code 3 = .ok (.iload 5, 2) := by decide +kernel
theorem d7_5 : decode jdk_52_method_21_code 5 = .ok (.iload 4, 2) := by decide +kernel
theorem d7_7 : decode jdk_52_method_21_code 7 = .ok (.if_icmp .ge 37, 3) := by decide +kernel
theorem d7_10 : decode jdk_52_method_21_code 10 = .ok (.aload_n 0, 1) := by decide +kernel
theorem d7_11 : decode jdk_52_method_21_code 11 = .ok (.iload_n 1, 1) := by decide +kernel
theorem d7_12 : decode jdk_52_method_21_code 12 = .ok (.caload, 1) := by decide +kernel
theorem d7_13 : decode jdk_52_method_21_code 13 = .ok (.istore 6, 2) := by decide +kernel
theorem d7_15 : decode jdk_52_method_21_code 15 = .ok (.iload 6, 2) := by decide +kernel
theorem d7_17 : decode jdk_52_method_21_code 17 = .ok (.sipush 255, 3) := by decide +kernel
theorem d7_20 : decode jdk_52_method_21_code 20 = .ok (.if_icmp .le 6, 3) := by decide +kernel
theorem d7_26 : decode jdk_52_method_21_code 26 = .ok (.aload_n 2, 1) := by decide +kernel
theorem d7_27 : decode jdk_52_method_21_code 27 = .ok (.iload_n 3, 1) := by decide +kernel
theorem d7_28 : decode jdk_52_method_21_code 28 = .ok (.iload 6, 2) := by decide +kernel
theorem d7_30 : decode jdk_52_method_21_code 30 = .ok (.i2b, 1) := by decide +kernel
theorem d7_31 : decode jdk_52_method_21_code 31 = .ok (.bastore, 1) := by decide +kernel
theorem d7_32 : decode jdk_52_method_21_code 32 = .ok (.iinc 1 1, 3) := by decide +kernel
theorem d7_35 : decode jdk_52_method_21_code 35 = .ok (.iinc 3 1, 3) := by decide +kernel
theorem d7_38 : decode jdk_52_method_21_code 38 = .ok (.iinc 5 1, 3) := by decide +kernel
theorem d7_41 : decode jdk_52_method_21_code 41 = .ok (.goto (-38), 3) := by decide +kernel
theorem d7_44 : decode jdk_52_method_21_code 44 = .ok (.iload 4, 2) := by decide +kernel
theorem d7_46 : decode jdk_52_method_21_code 46 = .ok (.ireturn, 1) := by decide +kernel
theorem d8_0 : decode jdk_52_method_15_code 0 = .ok (.iload_n 1, 1) := by decide +kernel
theorem d8_1 : decode jdk_52_method_15_code 1 = .ok (.aload_n 0, 1) := by decide +kernel
theorem d8_2 : decode jdk_52_method_15_code 2 = .ok (.arraylength, 1) := by decide +kernel
theorem d8_3 : decode jdk_52_method_15_code 3 = .ok (.isub, 1) := by decide +kernel
theorem d8_4 : decode jdk_52_method_15_code 4 = .ok (.bipush 31, 2) := by decide +kernel
theorem d8_6 : decode jdk_52_method_15_code 6 = .ok (.iushr, 1) := by decide +kernel
theorem d8_7 : decode jdk_52_method_15_code 7 = .ok (.i2b, 1) := by decide +kernel
theorem d8_8 : decode jdk_52_method_15_code 8 = .ok (.ireturn, 1) := by decide +kernel
theorem d9_0 : decode prog_16_method_2_code 0 = .ok (.aload_n 0, 1) := by decide +kernel
theorem d9_1 : decode prog_16_method_2_code 1 = .ok (.ldc 13, 2) := by decide +kernel
theorem d9_3 : decode prog_16_method_2_code 3 = .ok (.invokestatic 14, 3) := by decide +kernel
theorem d9_6 : decode prog_16_method_2_code 6 = .ok (.pop, 1) := by decide +kernel
theorem d9_7 : decode prog_16_method_2_code 7 = .ok (.aload_n 0, 1) := by decide +kernel
theorem d9_8 : decode prog_16_method_2_code 8 = .ok (.invokevirtual 20, 3) := by decide +kernel
theorem d9_11 : decode prog_16_method_2_code 11 = .ok (.ifCond .eq 10, 3) := by decide +kernel
theorem d9_21 : decode prog_16_method_2_code 21 = .ok (.iconst 0, 1) := by decide +kernel
theorem d9_22 : decode prog_16_method_2_code 22 = .ok (.istore_n 1, 1) := by decide +kernel
theorem d9_23 : decode prog_16_method_2_code 23 = .ok (.iload_n 1, 1) := by decide +kernel
theorem d9_24 : decode prog_16_method_2_code 24 = .ok (.aload_n 0, 1) := by decide +kernel
theorem d9_25 : decode prog_16_method_2_code 25 = .ok (.invokevirtual 32, 3) := by decide +kernel
theorem d9_28 : decode prog_16_method_2_code 28 = .ok (.if_icmp .ge 39, 3) := by decide +kernel
theorem d9_31 : decode prog_16_method_2_code 31 = .ok (.aload_n 0, 1) := by decide +kernel
theorem d9_32 : decode prog_16_method_2_code 32 = .ok (.iload_n 1, 1) := by decide +kernel
theorem d9_33 : decode prog_16_method_2_code 33 = .ok (.invokevirtual 36, 3) := by decide +kernel
theorem d9_36 : decode prog_16_method_2_code 36 = .ok (.istore_n 2, 1) := by decide +kernel
theorem d9_37 : decode prog_16_method_2_code 37 = .ok (.iload_n 2, 1) := by decide +kernel
theorem d9_38 : decode prog_16_method_2_code 38 = .ok (.invokestatic 40, 3) := by decide +kernel
theorem d9_41 : decode prog_16_method_2_code 41 = .ok (.ifCond .ne 20, 3) := by decide +kernel
theorem d9_61 : decode prog_16_method_2_code 61 = .ok (.iinc 1 1, 3) := by decide +kernel
theorem d9_64 : decode prog_16_method_2_code 64 = .ok (.goto (-41), 3) := by decide +kernel
theorem d9_67 : decode prog_16_method_2_code 67 = .ok (.aload_n 0, 1) := by decide +kernel
theorem d9_68 : decode prog_16_method_2_code 68 = .ok (.invokevirtual 32, 3) := by decide +kernel
theorem d9_71 : decode prog_16_method_2_code 71 = .ok (.sipush 255, 3) := by decide +kernel
theorem d9_74 : decode prog_16_method_2_code 74 = .ok (.if_icmp .le 17, 3) := by decide +kernel
theorem d9_91 : decode prog_16_method_2_code 91 = .ok (.new 8, 3) := by decide +kernel
theorem d9_94 : decode prog_16_method_2_code 94 = .ok (.dup, 1) := by decide +kernel
theorem d9_95 : decode prog_16_method_2_code 95 = .ok (.aload_n 0, 1) := by decide +kernel
theorem d9_96 : decode prog_16_method_2_code 96 = .ok (.invokespecial 54, 3) := by decide +kernel
theorem d9_99 : decode prog_16_method_2_code 99 = .ok (.areturn, 1) := by decide +kernel
theorem d10_0 : decode jdk_31_method_11_code 0 = .ok (.aload_n 0, 1) := by decide +kernel
theorem d10_1 : decode jdk_31_method_11_code 1 = .ok (.ifnonnull 12, 3) := by decide +kernel
theorem d10_13 : decode jdk_31_method_11_code 13 = .ok (.aload_n 0, 1) := by decide +kernel
theorem d10_14 : decode jdk_31_method_11_code 14 = .ok (.areturn, 1) := by decide +kernel
theorem d11_0 : decode jdk_42_method_55_code 0 = .ok (.aload_n 0, 1) := by decide +kernel
theorem d11_1 : decode jdk_42_method_55_code 1 = .ok (.getfield 9, 3) := by decide +kernel
theorem d11_4 : decode jdk_42_method_55_code 4 = .ok (.arraylength, 1) := by decide +kernel
theorem d11_5 : decode jdk_42_method_55_code 5 = .ok (.ifCond .ne 7, 3) := by decide +kernel
theorem d11_12 : decode jdk_42_method_55_code 12 = .ok (.iconst 0, 1) := by decide +kernel
theorem d11_13 : decode jdk_42_method_55_code 13 = .ok (.ireturn, 1) := by decide +kernel
theorem d12_0 : decode jdk_42_method_54_code 0 = .ok (.aload_n 0, 1) := by decide +kernel
theorem d12_1 : decode jdk_42_method_54_code 1 = .ok (.getfield 9, 3) := by decide +kernel
theorem d12_4 : decode jdk_42_method_54_code 4 = .ok (.arraylength, 1) := by decide +kernel
theorem d12_5 : decode jdk_42_method_54_code 5 = .ok (.aload_n 0, 1) := by decide +kernel
theorem d12_6 : decode jdk_42_method_54_code 6 = .ok (.invokevirtual 335, 3) := by decide +kernel
theorem d12_9 : decode jdk_42_method_54_code 9 = .ok (.ishr, 1) := by decide +kernel
theorem d12_10 : decode jdk_42_method_54_code 10 = .ok (.ireturn, 1) := by decide +kernel
theorem d13_0 : decode jdk_42_method_152_code 0 = .ok (.getstatic 38, 3) := by decide +kernel
theorem d13_3 : decode jdk_42_method_152_code 3 = .ok (.ifCond .eq 10, 3) := by decide +kernel
theorem d13_6 : decode jdk_42_method_152_code 6 = .ok (.aload_n 0, 1) := by decide +kernel
theorem d13_7 : decode jdk_42_method_152_code 7 = .ok (.getfield 15, 3) := by decide +kernel
theorem d13_10 : decode jdk_42_method_152_code 10 = .ok (.goto 4, 3) := by decide +kernel
theorem d13_14 : decode jdk_42_method_152_code 14 = .ok (.ireturn, 1) := by decide +kernel
theorem d14_0 : decode jdk_42_method_57_code 0 = .ok (.aload_n 0, 1) := by decide +kernel
theorem d14_1 : decode jdk_42_method_57_code 1 = .ok (.invokevirtual 492, 3) := by decide +kernel
theorem d14_4 : decode jdk_42_method_57_code 4 = .ok (.ifCond .eq 23, 3) := by decide +kernel
theorem d14_7 : decode jdk_42_method_57_code 7 = .ok (.iload_n 1, 1) := by decide +kernel
theorem d14_8 : decode jdk_42_method_57_code 8 = .ok (.aload_n 0, 1) := by decide +kernel
theorem d14_9 : decode jdk_42_method_57_code 9 = .ok (.getfield 9, 3) := by decide +kernel
theorem d14_12 : decode jdk_42_method_57_code 12 = .ok (.arraylength, 1) := by decide +kernel
theorem d14_13 : decode jdk_42_method_57_code 13 = .ok (.invokestatic 499, 3) := by decide +kernel
theorem d14_16 : decode jdk_42_method_57_code 16 = .ok (.aload_n 0, 1) := by decide +kernel
theorem d14_17 : decode jdk_42_method_57_code 17 = .ok (.getfield 9, 3) := by decide +kernel
theorem d14_20 : decode jdk_42_method_57_code 20 = .ok (.iload_n 1, 1) := by decide +kernel
theorem d14_21 : decode jdk_42_method_57_code 21 = .ok (.baload, 1) := by decide +kernel
theorem d14_22 : decode jdk_42_method_57_code 22 = .ok (.sipush 255, 3) := by decide +kernel
theorem d14_25 : decode jdk_42_method_57_code 25 = .ok (.iand, 1) := by decide +kernel
theorem d14_26 : decode jdk_42_method_57_code 26 = .ok (.ireturn, 1) := by decide +kernel
theorem d15_0 : decode jdk_42_method_154_code 0 = .ok (.getstatic 38, 3) := by decide +kernel
theorem d15_3 : decode jdk_42_method_154_code 3 = .ok (.ifCond .eq 14, 3) := by decide +kernel
theorem d15_6 : decode jdk_42_method_154_code 6 = .ok (.aload_n 0, 1) := by decide +kernel
theorem d15_7 : decode jdk_42_method_154_code 7 = .ok (.getfield 15, 3) := by decide +kernel
theorem d15_10 : decode jdk_42_method_154_code 10 = .ok (.ifCond .ne 7, 3) := by decide +kernel
theorem d15_13 : decode jdk_42_method_154_code 13 = .ok (.iconst 1, 1) := by decide +kernel
theorem d15_14 : decode jdk_42_method_154_code 14 = .ok (.goto 4, 3) := by decide +kernel
theorem d15_18 : decode jdk_42_method_154_code 18 = .ok (.ireturn, 1) := by decide +kernel
theorem d16_0 : decode jdk_42_method_155_code 0 = .ok (.iload_n 0, 1) := by decide +kernel
theorem d16_1 : decode jdk_42_method_155_code 1 = .ok (.iload_n 1, 1) := by decide +kernel
theorem d16_2 : decode jdk_42_method_155_code 2 = .ok (.getstatic 1053, 3) := by decide +kernel
theorem d16_5 : decode jdk_42_method_155_code 5 = .ok (.invokestatic 1059, 3) := by decide +kernel
theorem d16_8 : decode jdk_42_method_155_code 8 = .ok (.pop, 1) := by decide +kernel
theorem d16_9 : decode jdk_42_method_155_code 9 = .ok (.return_, 1) := by decide +kernel
theorem d17_0 : decode jdk_41_method_11_code 0 = .ok (.iload_n 0, 1) := by decide +kernel
theorem d17_1 : decode jdk_41_method_11_code 1 = .ok (.ifCond .lt 8, 3) := by decide +kernel
theorem d17_4 : decode jdk_41_method_11_code 4 = .ok (.iload_n 0, 1) := by decide +kernel
theorem d17_5 : decode jdk_41_method_11_code 5 = .ok (.iload_n 1, 1) := by decide +kernel
theorem d17_6 : decode jdk_41_method_11_code 6 = .ok (.if_icmp .lt 10, 3) := by decide +kernel
theorem d17_16 : decode jdk_41_method_11_code 16 = .ok (.iload_n 0, 1) := by decide +kernel
theorem d17_17 : decode jdk_41_method_11_code 17 = .ok (.ireturn, 1) := by decide +kernel
theorem d18_0 : decode prog_16_method_3_code 0 = .ok (.iload_n 0, 1) := by decide +kernel
theorem d18_1 : decode prog_16_method_3_code 1 = .ok (.bipush 65, 2) := by decide +kernel
theorem d18_3 : decode prog_16_method_3_code 3 = .ok (.if_icmp .lt 9, 3) := by decide +kernel
theorem d18_6 : decode prog_16_method_3_code 6 = .ok (.iload_n 0, 1) := by decide +kernel
theorem d18_7 : decode prog_16_method_3_code 7 = .ok (.bipush 90, 2) := by decide +kernel
theorem d18_9 : decode prog_16_method_3_code 9 = .ok (.if_icmp .le 27, 3) := by decide +kernel
theorem d18_12 : decode prog_16_method_3_code 12 = .ok (.iload_n 0, 1) := by decide +kernel
theorem d18_13 : decode prog_16_method_3_code 13 = .ok (.bipush 97, 2) := by decide +kernel
theorem d18_15 : decode prog_16_method_3_code 15 = .ok (.if_icmp .lt 9, 3) := by decide +kernel
theorem d18_18 : decode prog_16_method_3_code 18 = .ok (.iload_n 0, 1) := by decide +kernel
theorem d18_19 : decode prog_16_method_3_code 19 = .ok (.bipush 122, 2) := by decide +kernel
theorem d18_21 : decode prog_16_method_3_code 21 = .ok (.if_icmp .le 15, 3) := by decide +kernel
theorem d18_24 : decode prog_16_method_3_code 24 = .ok (.iload_n 0, 1) := by decide +kernel
theorem d18_25 : decode prog_16_method_3_code 25 = .ok (.bipush 48, 2) := by decide +kernel
theorem d18_27 : decode prog_16_method_3_code 27 = .ok (.if_icmp .lt 13, 3) := by decide +kernel
theorem d18_30 : decode prog_16_method_3_code 30 = .ok (.iload_n 0, 1) := by decide +kernel
theorem d18_31 : decode prog_16_method_3_code 31 = .ok (.bipush 57, 2) := by decide +kernel
theorem d18_33 : decode prog_16_method_3_code 33 = .ok (.if_icmp .gt 7, 3) := by decide +kernel
theorem d18_36 : decode prog_16_method_3_code 36 = .ok (.iconst 1, 1) := by decide +kernel
theorem d18_37 : decode prog_16_method_3_code 37 = .ok (.goto 4, 3) := by decide +kernel
theorem d18_40 : decode prog_16_method_3_code 40 = .ok (.iconst 0, 1) := by decide +kernel
theorem d18_41 : decode prog_16_method_3_code 41 = .ok (.istore_n 1, 1) := by decide +kernel
theorem d18_42 : decode prog_16_method_3_code 42 = .ok (.iload_n 1, 1) := by decide +kernel
theorem d18_43 : decode prog_16_method_3_code 43 = .ok (.ifCond .ne 21, 3) := by decide +kernel
theorem d18_46 : decode prog_16_method_3_code 46 = .ok (.iload_n 0, 1) := by decide +kernel
theorem d18_47 : decode prog_16_method_3_code 47 = .ok (.bipush 46, 2) := by decide +kernel
theorem d18_49 : decode prog_16_method_3_code 49 = .ok (.if_icmp .eq 15, 3) := by decide +kernel
theorem d18_52 : decode prog_16_method_3_code 52 = .ok (.iload_n 0, 1) := by decide +kernel
theorem d18_53 : decode prog_16_method_3_code 53 = .ok (.bipush 95, 2) := by decide +kernel
theorem d18_55 : decode prog_16_method_3_code 55 = .ok (.if_icmp .eq 9, 3) := by decide +kernel
theorem d18_58 : decode prog_16_method_3_code 58 = .ok (.iload_n 0, 1) := by decide +kernel
theorem d18_59 : decode prog_16_method_3_code 59 = .ok (.bipush 45, 2) := by decide +kernel
theorem d18_61 : decode prog_16_method_3_code 61 = .ok (.if_icmp .ne 7, 3) := by decide +kernel
theorem d18_64 : decode prog_16_method_3_code 64 = .ok (.iconst 1, 1) := by decide +kernel
theorem d18_65 : decode prog_16_method_3_code 65 = .ok (.goto 4, 3) := by decide +kernel
theorem d18_68 : decode prog_16_method_3_code 68 = .ok (.iconst 0, 1) := by decide +kernel
theorem d18_69 : decode prog_16_method_3_code 69 = .ok (.ireturn, 1) := by decide +kernel
theorem d19_0 : decode prog_16_method_1_code 0 = .ok (.aload_n 0, 1) := by decide +kernel
theorem d19_1 : decode prog_16_method_1_code 1 = .ok (.invokespecial 1, 3) := by decide +kernel
theorem d19_4 : decode prog_16_method_1_code 4 = .ok (.aload_n 0, 1) := by decide +kernel
theorem d19_5 : decode prog_16_method_1_code 5 = .ok (.aload_n 1, 1) := by decide +kernel
theorem d19_6 : decode prog_16_method_1_code 6 = .ok (.putfield 7, 3) := by decide +kernel
theorem d19_9 : decode prog_16_method_1_code 9 = .ok (.return_, 1) := by decide +kernel
theorem d20_0 : decode prog_16_method_6_code 0 = .ok (.aload_n 0, 1) := by decide +kernel
theorem d20_1 : decode prog_16_method_6_code 1 = .ok (.getfield 7, 3) := by decide +kernel
theorem d20_4 : decode prog_16_method_6_code 4 = .ok (.areturn, 1) := by decide +kernel
theorem d21_0 : decode jdk_42_method_66_code 0 = .ok (.aload_n 0, 1) := by decide +kernel
theorem d21_1 : decode jdk_42_method_66_code 1 = .ok (.aload_n 1, 1) := by decide +kernel
theorem d21_2 : decode jdk_42_method_66_code 2 = .ok (.if_acmp .ne 5, 3) := by decide +kernel
theorem d21_5 : decode jdk_42_method_66_code 5 = .ok (.iconst 1, 1) := by decide +kernel
theorem d21_6 : decode jdk_42_method_66_code 6 = .ok (.ireturn, 1) := by decide +kernel
theorem d21_7 : decode jdk_42_method_66_code 7 = .ok (.aload_n 1, 1) := by decide +kernel
theorem d21_8 : decode jdk_42_method_66_code 8 = .ok (.instanceof 10, 3) := by decide +kernel
theorem d21_11 : decode jdk_42_method_66_code 11 = .ok (.ifCond .eq 43, 3) := by decide +kernel
theorem d21_14 : decode jdk_42_method_66_code 14 = .ok (.aload_n 1, 1) := by decide +kernel
theorem d21_15 : decode jdk_42_method_66_code 15 = .ok (.checkcast 10, 3) := by decide +kernel
theorem d21_18 : decode jdk_42_method_66_code 18 = .ok (.astore_n 2, 1) := by decide +kernel
theorem d21_19 : decode jdk_42_method_66_code 19 = .ok (.getstatic 38, 3) := by decide +kernel
theorem d21_22 : decode jdk_42_method_66_code 22 = .ok (.ifCond .eq 14, 3) := by decide +kernel
theorem d21_25 : decode jdk_42_method_66_code 25 = .ok (.aload_n 0, 1) := by decide +kernel
theorem d21_26 : decode jdk_42_method_66_code 26 = .ok (.getfield 15, 3) := by decide +kernel
theorem d21_29 : decode jdk_42_method_66_code 29 = .ok (.aload_n 2, 1) := by decide +kernel
theorem d21_30 : decode jdk_42_method_66_code 30 = .ok (.getfield 15, 3) := by decide +kernel
theorem d21_33 : decode jdk_42_method_66_code 33 = .ok (.if_icmp .ne 21, 3) := by decide +kernel
theorem d21_36 : decode jdk_42_method_66_code 36 = .ok (.aload_n 0, 1) := by decide +kernel
theorem d21_37 : decode jdk_42_method_66_code 37 = .ok (.getfield 9, 3) := by decide +kernel
theorem d21_40 : decode jdk_42_method_66_code 40 = .ok (.aload_n 2, 1) := by decide +kernel
theorem d21_41 : decode jdk_42_method_66_code 41 = .ok (.getfield 9, 3) := by decide +kernel
theorem d21_44 : decode jdk_42_method_66_code 44 = .ok (.invokestatic 541, 3) := by decide +kernel
theorem d21_47 : decode jdk_42_method_66_code 47 = .ok (.ifCond .eq 7, 3) := by decide +kernel
theorem d21_50 : decode jdk_42_method_66_code 50 = .ok (.iconst 1, 1) := by decide +kernel
theorem d21_51 : decode jdk_42_method_66_code 51 = .ok (.goto 4, 3) := by decide +kernel
theorem d21_54 : decode jdk_42_method_66_code 54 = .ok (.iconst 0, 1) := by decide +kernel
theorem d21_55 : decode jdk_42_method_66_code 55 = .ok (.ireturn, 1) := by decide +kernel
theorem d22_0 : decode prog_16_method_7_code 0 = .ok (.aload_n 1, 1) := by decide +kernel
theorem d22_1 : decode prog_16_method_7_code 1 = .ok (.instanceof 8, 3) := by decide +kernel
theorem d22_4 : decode prog_16_method_7_code 4 = .ok (.ifCond .eq 26, 3) := by decide +kernel
theorem d22_7 : decode prog_16_method_7_code 7 = .ok (.aload_n 1, 1) := by decide +kernel
theorem d22_8 : decode prog_16_method_7_code 8 = .ok (.checkcast 8, 3) := by decide +kernel
theorem d22_11 : decode prog_16_method_7_code 11 = .ok (.astore_n 2, 1) := by decide +kernel
theorem d22_12 : decode prog_16_method_7_code 12 = .ok (.aload_n 0, 1) := by decide +kernel
theorem d22_13 : decode prog_16_method_7_code 13 = .ok (.getfield 7, 3) := by decide +kernel
theorem d22_16 : decode prog_16_method_7_code 16 = .ok (.aload_n 2, 1) := by decide +kernel
theorem d22_17 : decode prog_16_method_7_code 17 = .ok (.getfield 7, 3) := by decide +kernel
theorem d22_20 : decode prog_16_method_7_code 20 = .ok (.invokevirtual 85, 3) := by decide +kernel
theorem d22_23 : decode prog_16_method_7_code 23 = .ok (.ifCond .eq 7, 3) := by decide +kernel
theorem d22_26 : decode prog_16_method_7_code 26 = .ok (.iconst 1, 1) := by decide +kernel
theorem d22_27 : decode prog_16_method_7_code 27 = .ok (.goto 4, 3) := by decide +kernel
theorem d22_30 : decode prog_16_method_7_code 30 = .ok (.iconst 0, 1) := by decide +kernel
theorem d22_31 : decode prog_16_method_7_code 31 = .ok (.ireturn, 1) := by decide +kernel
theorem d23_0 : decode jdk_43_method_13_code 0 = .ok (.aload_n 0, 1) := by decide +kernel
theorem d23_1 : decode jdk_43_method_13_code 1 = .ok (.arraylength, 1) := by decide +kernel
theorem d23_2 : decode jdk_43_method_13_code 2 = .ok (.aload_n 1, 1) := by decide +kernel
theorem d23_3 : decode jdk_43_method_13_code 3 = .ok (.arraylength, 1) := by decide +kernel
theorem d23_4 : decode jdk_43_method_13_code 4 = .ok (.if_icmp .ne 30, 3) := by decide +kernel
theorem d23_7 : decode jdk_43_method_13_code 7 = .ok (.iconst 0, 1) := by decide +kernel
theorem d23_8 : decode jdk_43_method_13_code 8 = .ok (.istore_n 2, 1) := by decide +kernel
theorem d23_9 : decode jdk_43_method_13_code 9 = .ok (.iload_n 2, 1) := by decide +kernel
theorem d23_10 : decode jdk_43_method_13_code 10 = .ok (.aload_n 0, 1) := by decide +kernel
theorem d23_11 : decode jdk_43_method_13_code 11 = .ok (.arraylength, 1) := by decide +kernel
theorem d23_12 : decode jdk_43_method_13_code 12 = .ok (.if_icmp .ge 20, 3) := by decide +kernel
theorem d23_15 : decode jdk_43_method_13_code 15 = .ok (.aload_n 0, 1) := by decide +kernel
theorem d23_16 : decode jdk_43_method_13_code 16 = .ok (.iload_n 2, 1) := by decide +kernel
theorem d23_17 : decode jdk_43_method_13_code 17 = .ok (.baload, 1) := by decide +kernel
theorem d23_18 : decode jdk_43_method_13_code 18 = .ok (.aload_n 1, 1) := by decide +kernel
theorem d23_19 : decode jdk_43_method_13_code 19 = .ok (.iload_n 2, 1) := by decide +kernel
theorem d23_20 : decode jdk_43_method_13_code 20 = .ok (.baload, 1) := by decide +kernel
theorem d23_21 : decode jdk_43_method_13_code 21 = .ok (.if_icmp .eq 5, 3) := by decide +kernel
theorem d23_24 : decode jdk_43_method_13_code 24 = .ok (.iconst 0, 1) := by decide +kernel
theorem d23_25 : decode jdk_43_method_13_code 25 = .ok (.ireturn, 1) := by decide +kernel
theorem d23_26 : decode jdk_43_method_13_code 26 = .ok (.iinc 2 1, 3) := by decide +kernel
theorem d23_29 : decode jdk_43_method_13_code 29 = .ok (.goto (-20), 3) := by decide +kernel
theorem d23_32 : decode jdk_43_method_13_code 32 = .ok (.iconst 1, 1) := by decide +kernel
theorem d23_33 : decode jdk_43_method_13_code 33 = .ok (.ireturn, 1) := by decide +kernel
theorem pd0 : parseMethodDescriptor "([CI[BII)I" = some ⟨[(.array .char), .int, (.array .byte), .int, .int], some .int⟩ := by decide +kernel
theorem pd1 : parseMethodDescriptor "([CII)[B" = some ⟨[(.array .char), .int, .int], some (.array .byte)⟩ := by decide +kernel
theorem pd2 : parseMethodDescriptor "([BI)B" = some ⟨[(.array .byte), .int], some .byte⟩ := by decide +kernel
theorem pd3 : parseMethodDescriptor "([CIILjava/lang/Void;)V" = some ⟨[(.array .char), .int, .int, (.object "java/lang/Void")], none⟩ := by decide +kernel
theorem pd4 : parseMethodDescriptor "([C)V" = some ⟨[(.array .char)], none⟩ := by decide +kernel
theorem pd5 : parseMethodDescriptor "()B" = some ⟨[], some .byte⟩ := by decide +kernel
theorem pd6 : parseMethodDescriptor "(IILjava/util/function/BiFunction;)I" = some ⟨[.int, .int, (.object "java/util/function/BiFunction")], some .int⟩ := by decide +kernel
theorem pd7 : parseMethodDescriptor "()Z" = some ⟨[], some .boolean⟩ := by decide +kernel
theorem pd8 : parseMethodDescriptor "(II)V" = some ⟨[.int, .int], none⟩ := by decide +kernel
theorem pd9 : parseMethodDescriptor "(Ljava/lang/Object;Ljava/lang/String;)Ljava/lang/Object;" = some ⟨[(.object "java/lang/Object"), (.object "java/lang/String")], some (.object "java/lang/Object")⟩ := by decide +kernel
theorem pd10 : parseMethodDescriptor "()I" = some ⟨[], some .int⟩ := by decide +kernel
theorem pd11 : parseMethodDescriptor "(I)I" = some ⟨[.int], some .int⟩ := by decide +kernel
theorem pd12 : parseMethodDescriptor "(I)Z" = some ⟨[.int], some .boolean⟩ := by decide +kernel
theorem pd13 : parseMethodDescriptor "(Ljava/lang/String;)V" = some ⟨[(.object "java/lang/String")], none⟩ := by decide +kernel
theorem pd14 : parseMethodDescriptor "(Ljava/lang/Object;)Z" = some ⟨[(.object "java/lang/Object")], some .boolean⟩ := by decide +kernel
theorem pd15 : parseMethodDescriptor "([B[B)Z" = some ⟨[(.array .byte), (.array .byte)], some .boolean⟩ := by decide +kernel
theorem pd16 : parseMethodDescriptor "(I)C" = some ⟨[.int], some .char⟩ := by decide +kernel
theorem pd17 : parseMethodDescriptor "(ICCCC)Ljava/lang/String;" = some ⟨[.int, .char, .char, .char, .char], some (.object "java/lang/String")⟩ := by decide +kernel
theorem pd18 : parseMethodDescriptor "(Ljava/lang/String;)Lcom/example/cronopoly/cronopoly/ScheduleId;" = some ⟨[(.object "java/lang/String")], some (.object "com/example/cronopoly/cronopoly/ScheduleId")⟩ := by decide +kernel
theorem pd19 : parseMethodDescriptor "()Ljava/lang/String;" = some ⟨[], some (.object "java/lang/String")⟩ := by decide +kernel
theorem pn0 : plainName "com/example/cronopoly/cronopoly/ScheduleIdOfPinLaw" = true := by first | (simp [plainName, overriddenIn]; done) | decide +kernel
theorem pn1 : plainName "java/lang/StringUTF16" = true := by first | (simp [plainName, overriddenIn]; done) | decide +kernel
theorem pn2 : plainName "java/lang/String" = true := by first | (simp [plainName, overriddenIn]; done) | decide +kernel
theorem pn3 : plainName "java/util/Objects" = true := by first | (simp [plainName, overriddenIn]; done) | decide +kernel
theorem pn4 : plainName "jdk/internal/util/Preconditions" = true := by first | (simp [plainName, overriddenIn]; done) | decide +kernel
theorem pn5 : plainName "com/example/cronopoly/cronopoly/ScheduleId" = true := by first | (simp [plainName, overriddenIn]; done) | decide +kernel
theorem pn6 : plainName "java/lang/StringLatin1" = true := by first | (simp [plainName, overriddenIn]; done) | decide +kernel
theorem ef_cidc (m : MethodId) (x0 : Int32) : entryFrame m #[(.int x0)] 2 = mkF m 0 #[.val (.int x0), .unset] [] := by first | (simp [entryFrame, mkF, argsToLocals, Value.category, maxLocals]; done) | rfl
theorem ef_ccmp1 (m : MethodId) (x0 : Addr) (x2 : Addr) : entryFrame m #[(.ref x0), (.int (0 : Int32)), (.ref x2), (.int (0 : Int32)), (.int (1 : Int32))] 7 = mkF m 0 #[.val (.ref x0), .val (.int (0 : Int32)), .val (.ref x2), .val (.int (0 : Int32)), .val (.int (1 : Int32)), .unset, .unset] [] := by first | (simp [entryFrame, mkF, argsToLocals, Value.category, maxLocals]; done) | rfl
theorem ef_ccmq1 (m : MethodId) (x0 : Addr) : entryFrame m #[(.ref x0), (.int (0 : Int32)), (.int (1 : Int32))] 6 = mkF m 0 #[.val (.ref x0), .val (.int (0 : Int32)), .val (.int (1 : Int32)), .unset, .unset, .unset] [] := by first | (simp [entryFrame, mkF, argsToLocals, Value.category, maxLocals]; done) | rfl
theorem ef_ccal1 (m : MethodId) (x0 : Addr) : entryFrame m #[(.ref x0), (.int (1 : Int32))] 2 = mkF m 0 #[.val (.ref x0), .val (.int (1 : Int32))] [] := by first | (simp [entryFrame, mkF, argsToLocals, Value.category, maxLocals]; done) | rfl
theorem ef_csi1 (m : MethodId) (x0 : Addr) (x1 : Addr) : entryFrame m #[(.ref x0), (.ref x1), (.int (0 : Int32)), (.int (1 : Int32)), .null] 6 = mkF m 0 #[.val (.ref x0), .val (.ref x1), .val (.int (0 : Int32)), .val (.int (1 : Int32)), .val .null, .unset] [] := by first | (simp [entryFrame, mkF, argsToLocals, Value.category, maxLocals]; done) | rfl
theorem ef_csj1 (m : MethodId) (x0 : Addr) (x1 : Addr) : entryFrame m #[(.ref x0), (.ref x1)] 2 = mkF m 0 #[.val (.ref x0), .val (.ref x1)] [] := by first | (simp [entryFrame, mkF, argsToLocals, Value.category, maxLocals]; done) | rfl
theorem ef_cmk1 (m : MethodId) (x1 : Int32) (x2 : Int32) (x3 : Int32) (x4 : Int32) : entryFrame m #[(.int (1 : Int32)), (.int x1), (.int x2), (.int x3), (.int x4)] 5 = mkF m 0 #[.val (.int (1 : Int32)), .val (.int x1), .val (.int x2), .val (.int x3), .val (.int x4)] [] := by first | (simp [entryFrame, mkF, argsToLocals, Value.category, maxLocals]; done) | rfl
theorem ef_ccmp2 (m : MethodId) (x0 : Addr) (x2 : Addr) : entryFrame m #[(.ref x0), (.int (0 : Int32)), (.ref x2), (.int (0 : Int32)), (.int (2 : Int32))] 7 = mkF m 0 #[.val (.ref x0), .val (.int (0 : Int32)), .val (.ref x2), .val (.int (0 : Int32)), .val (.int (2 : Int32)), .unset, .unset] [] := by first | (simp [entryFrame, mkF, argsToLocals, Value.category, maxLocals]; done) | rfl
theorem ef_ccmq2 (m : MethodId) (x0 : Addr) : entryFrame m #[(.ref x0), (.int (0 : Int32)), (.int (2 : Int32))] 6 = mkF m 0 #[.val (.ref x0), .val (.int (0 : Int32)), .val (.int (2 : Int32)), .unset, .unset, .unset] [] := by first | (simp [entryFrame, mkF, argsToLocals, Value.category, maxLocals]; done) | rfl
theorem ef_ccal2 (m : MethodId) (x0 : Addr) : entryFrame m #[(.ref x0), (.int (2 : Int32))] 2 = mkF m 0 #[.val (.ref x0), .val (.int (2 : Int32))] [] := by first | (simp [entryFrame, mkF, argsToLocals, Value.category, maxLocals]; done) | rfl
theorem ef_csi2 (m : MethodId) (x0 : Addr) (x1 : Addr) : entryFrame m #[(.ref x0), (.ref x1), (.int (0 : Int32)), (.int (2 : Int32)), .null] 6 = mkF m 0 #[.val (.ref x0), .val (.ref x1), .val (.int (0 : Int32)), .val (.int (2 : Int32)), .val .null, .unset] [] := by first | (simp [entryFrame, mkF, argsToLocals, Value.category, maxLocals]; done) | rfl
theorem ef_csj2 (m : MethodId) (x0 : Addr) (x1 : Addr) : entryFrame m #[(.ref x0), (.ref x1)] 2 = mkF m 0 #[.val (.ref x0), .val (.ref x1)] [] := by first | (simp [entryFrame, mkF, argsToLocals, Value.category, maxLocals]; done) | rfl
theorem ef_cmk2 (m : MethodId) (x1 : Int32) (x2 : Int32) (x3 : Int32) (x4 : Int32) : entryFrame m #[(.int (2 : Int32)), (.int x1), (.int x2), (.int x3), (.int x4)] 5 = mkF m 0 #[.val (.int (2 : Int32)), .val (.int x1), .val (.int x2), .val (.int x3), .val (.int x4)] [] := by first | (simp [entryFrame, mkF, argsToLocals, Value.category, maxLocals]; done) | rfl
theorem ef_ccmp3 (m : MethodId) (x0 : Addr) (x2 : Addr) : entryFrame m #[(.ref x0), (.int (0 : Int32)), (.ref x2), (.int (0 : Int32)), (.int (3 : Int32))] 7 = mkF m 0 #[.val (.ref x0), .val (.int (0 : Int32)), .val (.ref x2), .val (.int (0 : Int32)), .val (.int (3 : Int32)), .unset, .unset] [] := by first | (simp [entryFrame, mkF, argsToLocals, Value.category, maxLocals]; done) | rfl
theorem ef_ccmq3 (m : MethodId) (x0 : Addr) : entryFrame m #[(.ref x0), (.int (0 : Int32)), (.int (3 : Int32))] 6 = mkF m 0 #[.val (.ref x0), .val (.int (0 : Int32)), .val (.int (3 : Int32)), .unset, .unset, .unset] [] := by first | (simp [entryFrame, mkF, argsToLocals, Value.category, maxLocals]; done) | rfl
theorem ef_ccal3 (m : MethodId) (x0 : Addr) : entryFrame m #[(.ref x0), (.int (3 : Int32))] 2 = mkF m 0 #[.val (.ref x0), .val (.int (3 : Int32))] [] := by first | (simp [entryFrame, mkF, argsToLocals, Value.category, maxLocals]; done) | rfl
theorem ef_csi3 (m : MethodId) (x0 : Addr) (x1 : Addr) : entryFrame m #[(.ref x0), (.ref x1), (.int (0 : Int32)), (.int (3 : Int32)), .null] 6 = mkF m 0 #[.val (.ref x0), .val (.ref x1), .val (.int (0 : Int32)), .val (.int (3 : Int32)), .val .null, .unset] [] := by first | (simp [entryFrame, mkF, argsToLocals, Value.category, maxLocals]; done) | rfl
theorem ef_csj3 (m : MethodId) (x0 : Addr) (x1 : Addr) : entryFrame m #[(.ref x0), (.ref x1)] 2 = mkF m 0 #[.val (.ref x0), .val (.ref x1)] [] := by first | (simp [entryFrame, mkF, argsToLocals, Value.category, maxLocals]; done) | rfl
theorem ef_cmk3 (m : MethodId) (x1 : Int32) (x2 : Int32) (x3 : Int32) (x4 : Int32) : entryFrame m #[(.int (3 : Int32)), (.int x1), (.int x2), (.int x3), (.int x4)] 5 = mkF m 0 #[.val (.int (3 : Int32)), .val (.int x1), .val (.int x2), .val (.int x3), .val (.int x4)] [] := by first | (simp [entryFrame, mkF, argsToLocals, Value.category, maxLocals]; done) | rfl
theorem ef_ccmp4 (m : MethodId) (x0 : Addr) (x2 : Addr) : entryFrame m #[(.ref x0), (.int (0 : Int32)), (.ref x2), (.int (0 : Int32)), (.int (4 : Int32))] 7 = mkF m 0 #[.val (.ref x0), .val (.int (0 : Int32)), .val (.ref x2), .val (.int (0 : Int32)), .val (.int (4 : Int32)), .unset, .unset] [] := by first | (simp [entryFrame, mkF, argsToLocals, Value.category, maxLocals]; done) | rfl
theorem ef_ccmq4 (m : MethodId) (x0 : Addr) : entryFrame m #[(.ref x0), (.int (0 : Int32)), (.int (4 : Int32))] 6 = mkF m 0 #[.val (.ref x0), .val (.int (0 : Int32)), .val (.int (4 : Int32)), .unset, .unset, .unset] [] := by first | (simp [entryFrame, mkF, argsToLocals, Value.category, maxLocals]; done) | rfl
theorem ef_ccal4 (m : MethodId) (x0 : Addr) : entryFrame m #[(.ref x0), (.int (4 : Int32))] 2 = mkF m 0 #[.val (.ref x0), .val (.int (4 : Int32))] [] := by first | (simp [entryFrame, mkF, argsToLocals, Value.category, maxLocals]; done) | rfl
theorem ef_csi4 (m : MethodId) (x0 : Addr) (x1 : Addr) : entryFrame m #[(.ref x0), (.ref x1), (.int (0 : Int32)), (.int (4 : Int32)), .null] 6 = mkF m 0 #[.val (.ref x0), .val (.ref x1), .val (.int (0 : Int32)), .val (.int (4 : Int32)), .val .null, .unset] [] := by first | (simp [entryFrame, mkF, argsToLocals, Value.category, maxLocals]; done) | rfl
theorem ef_csj4 (m : MethodId) (x0 : Addr) (x1 : Addr) : entryFrame m #[(.ref x0), (.ref x1)] 2 = mkF m 0 #[.val (.ref x0), .val (.ref x1)] [] := by first | (simp [entryFrame, mkF, argsToLocals, Value.category, maxLocals]; done) | rfl
theorem ef_cmk4 (m : MethodId) (x1 : Int32) (x2 : Int32) (x3 : Int32) (x4 : Int32) : entryFrame m #[(.int (4 : Int32)), (.int x1), (.int x2), (.int x3), (.int x4)] 5 = mkF m 0 #[.val (.int (4 : Int32)), .val (.int x1), .val (.int x2), .val (.int x3), .val (.int x4)] [] := by first | (simp [entryFrame, mkF, argsToLocals, Value.category, maxLocals]; done) | rfl
theorem ef_creq (m : MethodId) (x0 : Addr) (x1 : Addr) : entryFrame m #[(.ref x0), (.ref x1)] 2 = mkF m 0 #[.val (.ref x0), .val (.ref x1)] [] := by first | (simp [entryFrame, mkF, argsToLocals, Value.category, maxLocals]; done) | rfl
theorem ef_cemp (m : MethodId) (x0 : Addr) : entryFrame m #[(.ref x0)] 1 = mkF m 0 #[.val (.ref x0)] [] := by first | (simp [entryFrame, mkF, argsToLocals, Value.category, maxLocals]; done) | rfl
theorem ef_ccoder (m : MethodId) (x0 : Addr) : entryFrame m #[(.ref x0)] 1 = mkF m 0 #[.val (.ref x0)] [] := by first | (simp [entryFrame, mkF, argsToLocals, Value.category, maxLocals]; done) | rfl
theorem ef_clen (m : MethodId) (x0 : Addr) : entryFrame m #[(.ref x0)] 1 = mkF m 0 #[.val (.ref x0)] [] := by first | (simp [entryFrame, mkF, argsToLocals, Value.category, maxLocals]; done) | rfl
theorem ef_clat (m : MethodId) (x0 : Addr) : entryFrame m #[(.ref x0)] 1 = mkF m 0 #[.val (.ref x0)] [] := by first | (simp [entryFrame, mkF, argsToLocals, Value.category, maxLocals]; done) | rfl
theorem ef_cpchk (m : MethodId) (x0 : Int32) (x1 : Int32) (x2 : Value) (hx2 : x2.isRef = true) : entryFrame m #[(.int x0), (.int x1), x2] 3 = mkF m 0 #[.val (.int x0), .val (.int x1), .val x2] [] := by rcases ref_cases hx2 with rfl | ⟨_, rfl⟩ <;> first | (simp [entryFrame, mkF, argsToLocals, Value.category, maxLocals]; done) | rfl
theorem ef_cschk (m : MethodId) (x0 : Int32) (x1 : Int32) : entryFrame m #[(.int x0), (.int x1)] 2 = mkF m 0 #[.val (.int x0), .val (.int x1)] [] := by first | (simp [entryFrame, mkF, argsToLocals, Value.category, maxLocals]; done) | rfl
theorem ef_ccpa (m : MethodId) (x0 : Addr) (x1 : Int32) : entryFrame m #[(.ref x0), (.int x1)] 3 = mkF m 0 #[.val (.ref x0), .val (.int x1), .unset] [] := by first | (simp [entryFrame, mkF, argsToLocals, Value.category, maxLocals]; done) | rfl
theorem ef_cisi (m : MethodId) (x0 : Int32) : entryFrame m #[(.int x0)] 2 = mkF m 0 #[.val (.int x0), .unset] [] := by first | (simp [entryFrame, mkF, argsToLocals, Value.category, maxLocals]; done) | rfl
theorem ef_csid (m : MethodId) (x0 : Addr) (x1 : Addr) : entryFrame m #[(.ref x0), (.ref x1)] 2 = mkF m 0 #[.val (.ref x0), .val (.ref x1)] [] := by first | (simp [entryFrame, mkF, argsToLocals, Value.category, maxLocals]; done) | rfl
theorem ef_cof1 (m : MethodId) (x0 : Addr) : entryFrame m #[(.ref x0)] 3 = mkF m 0 #[.val (.ref x0), .unset, .unset] [] := by first | (simp [entryFrame, mkF, argsToLocals, Value.category, maxLocals]; done) | rfl
theorem ef_cof2 (m : MethodId) (x0 : Addr) : entryFrame m #[(.ref x0)] 3 = mkF m 0 #[.val (.ref x0), .unset, .unset] [] := by first | (simp [entryFrame, mkF, argsToLocals, Value.category, maxLocals]; done) | rfl
theorem ef_cof3 (m : MethodId) (x0 : Addr) : entryFrame m #[(.ref x0)] 3 = mkF m 0 #[.val (.ref x0), .unset, .unset] [] := by first | (simp [entryFrame, mkF, argsToLocals, Value.category, maxLocals]; done) | rfl
theorem ef_cof4 (m : MethodId) (x0 : Addr) : entryFrame m #[(.ref x0)] 3 = mkF m 0 #[.val (.ref x0), .unset, .unset] [] := by first | (simp [entryFrame, mkF, argsToLocals, Value.category, maxLocals]; done) | rfl
theorem ef_ctos (m : MethodId) (x0 : Addr) : entryFrame m #[(.ref x0)] 1 = mkF m 0 #[.val (.ref x0)] [] := by first | (simp [entryFrame, mkF, argsToLocals, Value.category, maxLocals]; done) | rfl
theorem ef_ceqs (m : MethodId) (x0 : Addr) (x1 : Addr) : entryFrame m #[(.ref x1), (.ref x1)] 3 = mkF m 0 #[.val (.ref x1), .val (.ref x1), .unset] [] := by first | (simp [entryFrame, mkF, argsToLocals, Value.category, maxLocals]; done) | rfl
theorem ef_cqes (m : MethodId) (x0 : Addr) (x1 : Addr) : entryFrame m #[(.ref x0), (.ref x1)] 3 = mkF m 0 #[.val (.ref x0), .val (.ref x1), .unset] [] := by first | (simp [entryFrame, mkF, argsToLocals, Value.category, maxLocals]; done) | rfl
theorem ef_cle1_1 (m : MethodId) (x0 : Addr) (x1 : Addr) : entryFrame m #[(.ref x0), (.ref x1)] 3 = mkF m 0 #[.val (.ref x0), .val (.ref x1), .unset] [] := by first | (simp [entryFrame, mkF, argsToLocals, Value.category, maxLocals]; done) | rfl
theorem ef_cse1_1 (m : MethodId) (x0 : Addr) (x1 : Addr) : entryFrame m #[(.ref x0), (.ref x1)] 3 = mkF m 0 #[.val (.ref x0), .val (.ref x1), .unset] [] := by first | (simp [entryFrame, mkF, argsToLocals, Value.category, maxLocals]; done) | rfl
theorem ef_cqe1_1 (m : MethodId) (x0 : Addr) (x1 : Addr) : entryFrame m #[(.ref x0), (.ref x1)] 3 = mkF m 0 #[.val (.ref x0), .val (.ref x1), .unset] [] := by first | (simp [entryFrame, mkF, argsToLocals, Value.category, maxLocals]; done) | rfl
theorem ef_cle1_0 (m : MethodId) (x0 : Addr) (x1 : Addr) : entryFrame m #[(.ref x0), (.ref x1)] 3 = mkF m 0 #[.val (.ref x0), .val (.ref x1), .unset] [] := by first | (simp [entryFrame, mkF, argsToLocals, Value.category, maxLocals]; done) | rfl
theorem ef_cse1_0 (m : MethodId) (x0 : Addr) (x1 : Addr) : entryFrame m #[(.ref x0), (.ref x1)] 3 = mkF m 0 #[.val (.ref x0), .val (.ref x1), .unset] [] := by first | (simp [entryFrame, mkF, argsToLocals, Value.category, maxLocals]; done) | rfl
theorem ef_cqe1_0 (m : MethodId) (x0 : Addr) (x1 : Addr) : entryFrame m #[(.ref x0), (.ref x1)] 3 = mkF m 0 #[.val (.ref x0), .val (.ref x1), .unset] [] := by first | (simp [entryFrame, mkF, argsToLocals, Value.category, maxLocals]; done) | rfl
theorem ef_cle2_1 (m : MethodId) (x0 : Addr) (x1 : Addr) : entryFrame m #[(.ref x0), (.ref x1)] 3 = mkF m 0 #[.val (.ref x0), .val (.ref x1), .unset] [] := by first | (simp [entryFrame, mkF, argsToLocals, Value.category, maxLocals]; done) | rfl
theorem ef_cse2_1 (m : MethodId) (x0 : Addr) (x1 : Addr) : entryFrame m #[(.ref x0), (.ref x1)] 3 = mkF m 0 #[.val (.ref x0), .val (.ref x1), .unset] [] := by first | (simp [entryFrame, mkF, argsToLocals, Value.category, maxLocals]; done) | rfl
theorem ef_cqe2_1 (m : MethodId) (x0 : Addr) (x1 : Addr) : entryFrame m #[(.ref x0), (.ref x1)] 3 = mkF m 0 #[.val (.ref x0), .val (.ref x1), .unset] [] := by first | (simp [entryFrame, mkF, argsToLocals, Value.category, maxLocals]; done) | rfl
theorem ef_cle2_0 (m : MethodId) (x0 : Addr) (x1 : Addr) : entryFrame m #[(.ref x0), (.ref x1)] 3 = mkF m 0 #[.val (.ref x0), .val (.ref x1), .unset] [] := by first | (simp [entryFrame, mkF, argsToLocals, Value.category, maxLocals]; done) | rfl
theorem ef_cse2_0 (m : MethodId) (x0 : Addr) (x1 : Addr) : entryFrame m #[(.ref x0), (.ref x1)] 3 = mkF m 0 #[.val (.ref x0), .val (.ref x1), .unset] [] := by first | (simp [entryFrame, mkF, argsToLocals, Value.category, maxLocals]; done) | rfl
theorem ef_cqe2_0 (m : MethodId) (x0 : Addr) (x1 : Addr) : entryFrame m #[(.ref x0), (.ref x1)] 3 = mkF m 0 #[.val (.ref x0), .val (.ref x1), .unset] [] := by first | (simp [entryFrame, mkF, argsToLocals, Value.category, maxLocals]; done) | rfl
theorem ef_cle3_1 (m : MethodId) (x0 : Addr) (x1 : Addr) : entryFrame m #[(.ref x0), (.ref x1)] 3 = mkF m 0 #[.val (.ref x0), .val (.ref x1), .unset] [] := by first | (simp [entryFrame, mkF, argsToLocals, Value.category, maxLocals]; done) | rfl
theorem ef_cse3_1 (m : MethodId) (x0 : Addr) (x1 : Addr) : entryFrame m #[(.ref x0), (.ref x1)] 3 = mkF m 0 #[.val (.ref x0), .val (.ref x1), .unset] [] := by first | (simp [entryFrame, mkF, argsToLocals, Value.category, maxLocals]; done) | rfl
theorem ef_cqe3_1 (m : MethodId) (x0 : Addr) (x1 : Addr) : entryFrame m #[(.ref x0), (.ref x1)] 3 = mkF m 0 #[.val (.ref x0), .val (.ref x1), .unset] [] := by first | (simp [entryFrame, mkF, argsToLocals, Value.category, maxLocals]; done) | rfl
theorem ef_cle3_0 (m : MethodId) (x0 : Addr) (x1 : Addr) : entryFrame m #[(.ref x0), (.ref x1)] 3 = mkF m 0 #[.val (.ref x0), .val (.ref x1), .unset] [] := by first | (simp [entryFrame, mkF, argsToLocals, Value.category, maxLocals]; done) | rfl
theorem ef_cse3_0 (m : MethodId) (x0 : Addr) (x1 : Addr) : entryFrame m #[(.ref x0), (.ref x1)] 3 = mkF m 0 #[.val (.ref x0), .val (.ref x1), .unset] [] := by first | (simp [entryFrame, mkF, argsToLocals, Value.category, maxLocals]; done) | rfl
theorem ef_cqe3_0 (m : MethodId) (x0 : Addr) (x1 : Addr) : entryFrame m #[(.ref x0), (.ref x1)] 3 = mkF m 0 #[.val (.ref x0), .val (.ref x1), .unset] [] := by first | (simp [entryFrame, mkF, argsToLocals, Value.category, maxLocals]; done) | rfl
theorem ef_cle4_1 (m : MethodId) (x0 : Addr) (x1 : Addr) : entryFrame m #[(.ref x0), (.ref x1)] 3 = mkF m 0 #[.val (.ref x0), .val (.ref x1), .unset] [] := by first | (simp [entryFrame, mkF, argsToLocals, Value.category, maxLocals]; done) | rfl
theorem ef_cse4_1 (m : MethodId) (x0 : Addr) (x1 : Addr) : entryFrame m #[(.ref x0), (.ref x1)] 3 = mkF m 0 #[.val (.ref x0), .val (.ref x1), .unset] [] := by first | (simp [entryFrame, mkF, argsToLocals, Value.category, maxLocals]; done) | rfl
theorem ef_cqe4_1 (m : MethodId) (x0 : Addr) (x1 : Addr) : entryFrame m #[(.ref x0), (.ref x1)] 3 = mkF m 0 #[.val (.ref x0), .val (.ref x1), .unset] [] := by first | (simp [entryFrame, mkF, argsToLocals, Value.category, maxLocals]; done) | rfl
theorem ef_cle4_0 (m : MethodId) (x0 : Addr) (x1 : Addr) : entryFrame m #[(.ref x0), (.ref x1)] 3 = mkF m 0 #[.val (.ref x0), .val (.ref x1), .unset] [] := by first | (simp [entryFrame, mkF, argsToLocals, Value.category, maxLocals]; done) | rfl
theorem ef_cse4_0 (m : MethodId) (x0 : Addr) (x1 : Addr) : entryFrame m #[(.ref x0), (.ref x1)] 3 = mkF m 0 #[.val (.ref x0), .val (.ref x1), .unset] [] := by first | (simp [entryFrame, mkF, argsToLocals, Value.category, maxLocals]; done) | rfl
theorem ef_cqe4_0 (m : MethodId) (x0 : Addr) (x1 : Addr) : entryFrame m #[(.ref x0), (.ref x1)] 3 = mkF m 0 #[.val (.ref x0), .val (.ref x1), .unset] [] := by first | (simp [entryFrame, mkF, argsToLocals, Value.category, maxLocals]; done) | rfl
theorem ef_law0 (m : MethodId) (x0 : Int32) (x1 : Int32) (x2 : Int32) (x3 : Int32) (x4 : Int32) (x5 : Int32) : entryFrame m #[(.int x0), (.int x1), (.int x2), (.int x3), (.int x4), (.int x5)] maxLocals = mkF m 0 #[.val (.int x0), .val (.int x1), .val (.int x2), .val (.int x3), .val (.int x4), .val (.int x5), .unset, .unset, .unset, .unset, .unset, .unset, .unset, .unset, .unset, .unset, .unset, .unset, .unset] [] := by first | (simp [entryFrame, mkF, argsToLocals, Value.category, maxLocals]; done) | rfl
theorem own_rem65 (x : Int32) : (x &&& (2147483647 : Int32)) % (65 : Int32) = 0 ∨ (x &&& (2147483647 : Int32)) % (65 : Int32) = 1 ∨ (x &&& (2147483647 : Int32)) % (65 : Int32) = 2 ∨ (x &&& (2147483647 : Int32)) % (65 : Int32) = 3 ∨ (x &&& (2147483647 : Int32)) % (65 : Int32) = 4 ∨ (x &&& (2147483647 : Int32)) % (65 : Int32) = 5 ∨ (x &&& (2147483647 : Int32)) % (65 : Int32) = 6 ∨ (x &&& (2147483647 : Int32)) % (65 : Int32) = 7 ∨ (x &&& (2147483647 : Int32)) % (65 : Int32) = 8 ∨ (x &&& (2147483647 : Int32)) % (65 : Int32) = 9 ∨ (x &&& (2147483647 : Int32)) % (65 : Int32) = 10 ∨ (x &&& (2147483647 : Int32)) % (65 : Int32) = 11 ∨ (x &&& (2147483647 : Int32)) % (65 : Int32) = 12 ∨ (x &&& (2147483647 : Int32)) % (65 : Int32) = 13 ∨ (x &&& (2147483647 : Int32)) % (65 : Int32) = 14 ∨ (x &&& (2147483647 : Int32)) % (65 : Int32) = 15 ∨ (x &&& (2147483647 : Int32)) % (65 : Int32) = 16 ∨ (x &&& (2147483647 : Int32)) % (65 : Int32) = 17 ∨ (x &&& (2147483647 : Int32)) % (65 : Int32) = 18 ∨ (x &&& (2147483647 : Int32)) % (65 : Int32) = 19 ∨ (x &&& (2147483647 : Int32)) % (65 : Int32) = 20 ∨ (x &&& (2147483647 : Int32)) % (65 : Int32) = 21 ∨ (x &&& (2147483647 : Int32)) % (65 : Int32) = 22 ∨ (x &&& (2147483647 : Int32)) % (65 : Int32) = 23 ∨ (x &&& (2147483647 : Int32)) % (65 : Int32) = 24 ∨ (x &&& (2147483647 : Int32)) % (65 : Int32) = 25 ∨ (x &&& (2147483647 : Int32)) % (65 : Int32) = 26 ∨ (x &&& (2147483647 : Int32)) % (65 : Int32) = 27 ∨ (x &&& (2147483647 : Int32)) % (65 : Int32) = 28 ∨ (x &&& (2147483647 : Int32)) % (65 : Int32) = 29 ∨ (x &&& (2147483647 : Int32)) % (65 : Int32) = 30 ∨ (x &&& (2147483647 : Int32)) % (65 : Int32) = 31 ∨ (x &&& (2147483647 : Int32)) % (65 : Int32) = 32 ∨ (x &&& (2147483647 : Int32)) % (65 : Int32) = 33 ∨ (x &&& (2147483647 : Int32)) % (65 : Int32) = 34 ∨ (x &&& (2147483647 : Int32)) % (65 : Int32) = 35 ∨ (x &&& (2147483647 : Int32)) % (65 : Int32) = 36 ∨ (x &&& (2147483647 : Int32)) % (65 : Int32) = 37 ∨ (x &&& (2147483647 : Int32)) % (65 : Int32) = 38 ∨ (x &&& (2147483647 : Int32)) % (65 : Int32) = 39 ∨ (x &&& (2147483647 : Int32)) % (65 : Int32) = 40 ∨ (x &&& (2147483647 : Int32)) % (65 : Int32) = 41 ∨ (x &&& (2147483647 : Int32)) % (65 : Int32) = 42 ∨ (x &&& (2147483647 : Int32)) % (65 : Int32) = 43 ∨ (x &&& (2147483647 : Int32)) % (65 : Int32) = 44 ∨ (x &&& (2147483647 : Int32)) % (65 : Int32) = 45 ∨ (x &&& (2147483647 : Int32)) % (65 : Int32) = 46 ∨ (x &&& (2147483647 : Int32)) % (65 : Int32) = 47 ∨ (x &&& (2147483647 : Int32)) % (65 : Int32) = 48 ∨ (x &&& (2147483647 : Int32)) % (65 : Int32) = 49 ∨ (x &&& (2147483647 : Int32)) % (65 : Int32) = 50 ∨ (x &&& (2147483647 : Int32)) % (65 : Int32) = 51 ∨ (x &&& (2147483647 : Int32)) % (65 : Int32) = 52 ∨ (x &&& (2147483647 : Int32)) % (65 : Int32) = 53 ∨ (x &&& (2147483647 : Int32)) % (65 : Int32) = 54 ∨ (x &&& (2147483647 : Int32)) % (65 : Int32) = 55 ∨ (x &&& (2147483647 : Int32)) % (65 : Int32) = 56 ∨ (x &&& (2147483647 : Int32)) % (65 : Int32) = 57 ∨ (x &&& (2147483647 : Int32)) % (65 : Int32) = 58 ∨ (x &&& (2147483647 : Int32)) % (65 : Int32) = 59 ∨ (x &&& (2147483647 : Int32)) % (65 : Int32) = 60 ∨ (x &&& (2147483647 : Int32)) % (65 : Int32) = 61 ∨ (x &&& (2147483647 : Int32)) % (65 : Int32) = 62 ∨ (x &&& (2147483647 : Int32)) % (65 : Int32) = 63 ∨ (x &&& (2147483647 : Int32)) % (65 : Int32) = 64 := by
  have h0 : 0 ≤ (x &&& (2147483647 : Int32)).toInt := by
    have : ¬ (x &&& (2147483647 : Int32)) < 0 := by rw [Jvm.Free.XT.and_neg32]; exact fun q => absurd q.2 (by decide)
    rw [Jvm.Free.XT.negI32] at this; omega
  generalize x &&& (2147483647 : Int32) = y at h0 ⊢
  have h1 : (y % 65).toInt = y.toInt.tmod 65 := Int32.toInt_mod y 65
  rw [Int.tmod_eq_emod_of_nonneg h0] at h1
  have h2 := Int.emod_nonneg y.toInt (by decide : (65 : Int) ≠ 0)
  have h3 := Int.emod_lt_of_pos y.toInt (by decide : (0 : Int) < 65)
  simp only [← Int32.toInt_inj]
  have e0 : (0 : Int32).toInt = 0 := rfl
  have e1 : (1 : Int32).toInt = 1 := rfl
  have e2 : (2 : Int32).toInt = 2 := rfl
  have e3 : (3 : Int32).toInt = 3 := rfl
  have e4 : (4 : Int32).toInt = 4 := rfl
  have e5 : (5 : Int32).toInt = 5 := rfl
  have e6 : (6 : Int32).toInt = 6 := rfl
  have e7 : (7 : Int32).toInt = 7 := rfl
  have e8 : (8 : Int32).toInt = 8 := rfl
  have e9 : (9 : Int32).toInt = 9 := rfl
  have e10 : (10 : Int32).toInt = 10 := rfl
  have e11 : (11 : Int32).toInt = 11 := rfl
  have e12 : (12 : Int32).toInt = 12 := rfl
  have e13 : (13 : Int32).toInt = 13 := rfl
  have e14 : (14 : Int32).toInt = 14 := rfl
  have e15 : (15 : Int32).toInt = 15 := rfl
  have e16 : (16 : Int32).toInt = 16 := rfl
  have e17 : (17 : Int32).toInt = 17 := rfl
  have e18 : (18 : Int32).toInt = 18 := rfl
  have e19 : (19 : Int32).toInt = 19 := rfl
  have e20 : (20 : Int32).toInt = 20 := rfl
  have e21 : (21 : Int32).toInt = 21 := rfl
  have e22 : (22 : Int32).toInt = 22 := rfl
  have e23 : (23 : Int32).toInt = 23 := rfl
  have e24 : (24 : Int32).toInt = 24 := rfl
  have e25 : (25 : Int32).toInt = 25 := rfl
  have e26 : (26 : Int32).toInt = 26 := rfl
  have e27 : (27 : Int32).toInt = 27 := rfl
  have e28 : (28 : Int32).toInt = 28 := rfl
  have e29 : (29 : Int32).toInt = 29 := rfl
  have e30 : (30 : Int32).toInt = 30 := rfl
  have e31 : (31 : Int32).toInt = 31 := rfl
  have e32 : (32 : Int32).toInt = 32 := rfl
  have e33 : (33 : Int32).toInt = 33 := rfl
  have e34 : (34 : Int32).toInt = 34 := rfl
  have e35 : (35 : Int32).toInt = 35 := rfl
  have e36 : (36 : Int32).toInt = 36 := rfl
  have e37 : (37 : Int32).toInt = 37 := rfl
  have e38 : (38 : Int32).toInt = 38 := rfl
  have e39 : (39 : Int32).toInt = 39 := rfl
  have e40 : (40 : Int32).toInt = 40 := rfl
  have e41 : (41 : Int32).toInt = 41 := rfl
  have e42 : (42 : Int32).toInt = 42 := rfl
  have e43 : (43 : Int32).toInt = 43 := rfl
  have e44 : (44 : Int32).toInt = 44 := rfl
  have e45 : (45 : Int32).toInt = 45 := rfl
  have e46 : (46 : Int32).toInt = 46 := rfl
  have e47 : (47 : Int32).toInt = 47 := rfl
  have e48 : (48 : Int32).toInt = 48 := rfl
  have e49 : (49 : Int32).toInt = 49 := rfl
  have e50 : (50 : Int32).toInt = 50 := rfl
  have e51 : (51 : Int32).toInt = 51 := rfl
  have e52 : (52 : Int32).toInt = 52 := rfl
  have e53 : (53 : Int32).toInt = 53 := rfl
  have e54 : (54 : Int32).toInt = 54 := rfl
  have e55 : (55 : Int32).toInt = 55 := rfl
  have e56 : (56 : Int32).toInt = 56 := rfl
  have e57 : (57 : Int32).toInt = 57 := rfl
  have e58 : (58 : Int32).toInt = 58 := rfl
  have e59 : (59 : Int32).toInt = 59 := rfl
  have e60 : (60 : Int32).toInt = 60 := rfl
  have e61 : (61 : Int32).toInt = 61 := rfl
  have e62 : (62 : Int32).toInt = 62 := rfl
  have e63 : (63 : Int32).toInt = 63 := rfl
  have e64 : (64 : Int32).toInt = 64 := rfl
  omega
theorem own_and3 (x : Int32) : x &&& (3 : Int32) = 0 ∨ x &&& (3 : Int32) = 1 ∨ x &&& (3 : Int32) = 2 ∨ x &&& (3 : Int32) = 3 := by
  have h := c_and x 3 (by decide)
  have e0 : (0 : Int32).toInt = 0 := rfl
  have e1 : (1 : Int32).toInt = 1 := rfl
  have e2 : (2 : Int32).toInt = 2 := rfl
  have e3 : (3 : Int32).toInt = 3 := rfl
  simp only [← Int32.toInt_inj]
  omega
theorem own_shr0 (n : Int32) : n >>> ((0 : Int32) &&& 31) = n := by
  have := c_ishr n 0 0 rfl
  apply Int32.toInt_inj.mp
  rw [this]; simp
def ownL : List Int32 := [65, 66, 67, 68, 69, 70, 71, 72, 73, 74, 75, 76, 77, 78, 79, 80, 81, 82, 83, 84, 85, 86, 87, 88, 89, 90, 97, 98, 99, 100, 101, 102, 103, 104, 105, 106, 107, 108, 109, 110, 111, 112, 113, 114, 115, 116, 117, 118, 119, 120, 121, 122, 48, 49, 50, 51, 52, 53, 54, 55, 56, 57, 46, 95, 45]
theorem own_b : ∀ c ∈ ownL, c.toInt8.toInt32 = c := by decide +kernel
theorem own_nar : ∀ c ∈ ownL, nar .char c = c := by decide +kernel
theorem own_a : ∀ c ∈ ownL, c &&& (255 : Int32) = c := by decide +kernel
theorem own_255 : ∀ c ∈ ownL, ¬ (255 : Int32) < c := by decide +kernel
theorem own_rng : ∀ c ∈ ownL, (65 ≤ c.toInt ∧ c.toInt ≤ 90) ∨ (97 ≤ c.toInt ∧ c.toInt ≤ 122) ∨ (48 ≤ c.toInt ∧ c.toInt ≤ 57) ∨ c.toInt = 46 ∨ c.toInt = 95 ∨ c.toInt = 45 := by decide +kernel
theorem own_lt {x y : Int32} (h : x < y) : x.toInt < y.toInt := Int32.lt_iff_toInt_lt.mp h
theorem own_ltn {x y : Int32} (h : ¬ x < y) : ¬ x.toInt < y.toInt := fun q => h (Int32.lt_iff_toInt_lt.mpr q)
theorem own_eq {x y : Int32} (h : x = y) : x.toInt = y.toInt := congrArg _ h
theorem own_eqn {x y : Int32} (h : ¬ x = y) : ¬ x.toInt = y.toInt := fun q => h (Int32.toInt_inj.mp q)
def Q_cidc (Z : State) (p : Int32) (h0 : Heap) (vR : Option Value) (hR : Heap) (LR : List Loc) : Prop := ∃ c : Int32, vR = some (.int c) ∧ Fr Z.heap.size LR ∧ hR = h0 ∧ c ∈ ownL
set_option maxRecDepth 65536 in
set_option maxHeartbeats 40000000 in
theorem cidc (l : Launch) (Z : State) (a0 : Array Value) (hw : ∀ d ∈ tables_1, d.before a0 Z = true) (p : Int32) (h0 : Heap) (O0 : Ext Z.heap h0) :
    Ctr l Z h0 (⟨"com/example/cronopoly/cronopoly/ScheduleIdOfPinLaw", "idChar", "(I)C"⟩ : MethodName) method_2_code 2 (some .char) [] ({ frames := 0, cells := 0, slots := 0, locals := 0 } : Room) #[(.int p)] (Q_cidc Z p h0) := by
  refine enter (plainFor_of_name pn0) ?_
  intro pp ee ss mm below meth cc s₁ hx hby hml hZ hown hnm hret hlk X0 e0 hs0
  replace hown : ss.vm.findClass "com/example/cronopoly/cronopoly/ScheduleIdOfPinLaw" = some mm.cls := hown
  refine Go.cast (congrArg s₁.setTop (ef_cidc mm p)) ?_
  have N0 := Fr.nil Z.heap.size
  show Go pp ee below _ (s₁.setTop (mkF mm 0 #[.val (.int p), .unset] []))
  refine Go.iloadN X0 hx (hb hby d1_0) rfl (q := 1) rfl ?_
  refine Go.ldcI X0 hx hZ hown (wd4 hw) (hb hby d1_1) (q := 3) rfl ?_
  refine Go.iand X0 hx (hb hby d1_3) rfl (q := 4) rfl ?_
  refine Go.bipush X0 hx (hb hby d1_4) (r := (65 : Int32)) rfl (q := 6) rfl ?_
  refine Go.irem X0 hx (hb hby d1_6) (by decide) rfl (q := 7) rfl ?_
  have hk := own_rem65 p
  generalize ((p &&& (2147483647 : Int32)) % (65 : Int32)) = k at hk ⊢
  rcases hk with rfl | rfl | rfl | rfl | rfl | rfl | rfl | rfl | rfl | rfl | rfl | rfl | rfl | rfl | rfl | rfl | rfl | rfl | rfl | rfl | rfl | rfl | rfl | rfl | rfl | rfl | rfl | rfl | rfl | rfl | rfl | rfl | rfl | rfl | rfl | rfl | rfl | rfl | rfl | rfl | rfl | rfl | rfl | rfl | rfl | rfl | rfl | rfl | rfl | rfl | rfl | rfl | rfl | rfl | rfl | rfl | rfl | rfl | rfl | rfl | rfl | rfl | rfl | rfl | rfl
  · show Go pp ee below _ (s₁.setTop (mkF mm 7 #[.val (.int p), .unset] [(.int (0 : Int32))]))
    refine Go.istoreN X0 hx (hb hby d1_7) (l' := #[.val (.int p), .val (.int (0 : Int32))]) rfl (q := 8) rfl ?_
    refine Go.iloadN X0 hx (hb hby d1_8) rfl (q := 9) rfl ?_
    refine Go.bipush X0 hx (hb hby d1_9) (r := (26 : Int32)) rfl (q := 11) rfl ?_
    refine Go.icmpNo X0 hx (hb hby d1_11) (by decide) (q := 14) rfl ?_
    refine Go.bipush X0 hx (hb hby d1_14) (r := (65 : Int32)) rfl (q := 16) rfl ?_
    refine Go.iloadN X0 hx (hb hby d1_16) rfl (q := 17) rfl ?_
    refine Go.iadd X0 hx (hb hby d1_17) (r := (65 : Int32)) rfl (q := 18) rfl ?_
    refine Go.i2c X0 hx (hb hby d1_18) (r := (65 : Int32)) rfl (q := 19) rfl ?_
    exact Go.retI X0 hx hret hlk (by simp) rfl (hb hby d1_19) e0 (by decide) (by decide) ⟨_, rfl, N0, rfl, by decide +kernel⟩
  · show Go pp ee below _ (s₁.setTop (mkF mm 7 #[.val (.int p), .unset] [(.int (1 : Int32))]))
    refine Go.istoreN X0 hx (hb hby d1_7) (l' := #[.val (.int p), .val (.int (1 : Int32))]) rfl (q := 8) rfl ?_
    refine Go.iloadN X0 hx (hb hby d1_8) rfl (q := 9) rfl ?_
    refine Go.bipush X0 hx (hb hby d1_9) (r := (26 : Int32)) rfl (q := 11) rfl ?_
    refine Go.icmpNo X0 hx (hb hby d1_11) (by decide) (q := 14) rfl ?_
    refine Go.bipush X0 hx (hb hby d1_14) (r := (65 : Int32)) rfl (q := 16) rfl ?_
    refine Go.iloadN X0 hx (hb hby d1_16) rfl (q := 17) rfl ?_
    refine Go.iadd X0 hx (hb hby d1_17) (r := (66 : Int32)) rfl (q := 18) rfl ?_
    refine Go.i2c X0 hx (hb hby d1_18) (r := (66 : Int32)) rfl (q := 19) rfl ?_
    exact Go.retI X0 hx hret hlk (by simp) rfl (hb hby d1_19) e0 (by decide) (by decide) ⟨_, rfl, N0, rfl, by decide +kernel⟩
  · show Go pp ee below _ (s₁.setTop (mkF mm 7 #[.val (.int p), .unset] [(.int (2 : Int32))]))
    refine Go.istoreN X0 hx (hb hby d1_7) (l' := #[.val (.int p), .val (.int (2 : Int32))]) rfl (q := 8) rfl ?_
    refine Go.iloadN X0 hx (hb hby d1_8) rfl (q := 9) rfl ?_
    refine Go.bipush X0 hx (hb hby d1_9) (r := (26 : Int32)) rfl (q := 11) rfl ?_
    refine Go.icmpNo X0 hx (hb hby d1_11) (by decide) (q := 14) rfl ?_
    refine Go.bipush X0 hx (hb hby d1_14) (r := (65 : Int32)) rfl (q := 16) rfl ?_
    refine Go.iloadN X0 hx (hb hby d1_16) rfl (q := 17) rfl ?_
    refine Go.iadd X0 hx (hb hby d1_17) (r := (67 : Int32)) rfl (q := 18) rfl ?_
    refine Go.i2c X0 hx (hb hby d1_18) (r := (67 : Int32)) rfl (q := 19) rfl ?_
    exact Go.retI X0 hx hret hlk (by simp) rfl (hb hby d1_19) e0 (by decide) (by decide) ⟨_, rfl, N0, rfl, by decide +kernel⟩
  · show Go pp ee below _ (s₁.setTop (mkF mm 7 #[.val (.int p), .unset] [(.int (3 : Int32))]))
    refine Go.istoreN X0 hx (hb hby d1_7) (l' := #[.val (.int p), .val (.int (3 : Int32))]) rfl (q := 8) rfl ?_
    refine Go.iloadN X0 hx (hb hby d1_8) rfl (q := 9) rfl ?_
    refine Go.bipush X0 hx (hb hby d1_9) (r := (26 : Int32)) rfl (q := 11) rfl ?_
    refine Go.icmpNo X0 hx (hb hby d1_11) (by decide) (q := 14) rfl ?_
    refine Go.bipush X0 hx (hb hby d1_14) (r := (65 : Int32)) rfl (q := 16) rfl ?_
    refine Go.iloadN X0 hx (hb hby d1_16) rfl (q := 17) rfl ?_
    refine Go.iadd X0 hx (hb hby d1_17) (r := (68 : Int32)) rfl (q := 18) rfl ?_
    refine Go.i2c X0 hx (hb hby d1_18) (r := (68 : Int32)) rfl (q := 19) rfl ?_
    exact Go.retI X0 hx hret hlk (by simp) rfl (hb hby d1_19) e0 (by decide) (by decide) ⟨_, rfl, N0, rfl, by decide +kernel⟩
  · show Go pp ee below _ (s₁.setTop (mkF mm 7 #[.val (.int p), .unset] [(.int (4 : Int32))]))
    refine Go.istoreN X0 hx (hb hby d1_7) (l' := #[.val (.int p), .val (.int (4 : Int32))]) rfl (q := 8) rfl ?_
    refine Go.iloadN X0 hx (hb hby d1_8) rfl (q := 9) rfl ?_
    refine Go.bipush X0 hx (hb hby d1_9) (r := (26 : Int32)) rfl (q := 11) rfl ?_
    refine Go.icmpNo X0 hx (hb hby d1_11) (by decide) (q := 14) rfl ?_
    refine Go.bipush X0 hx (hb hby d1_14) (r := (65 : Int32)) rfl (q := 16) rfl ?_
    refine Go.iloadN X0 hx (hb hby d1_16) rfl (q := 17) rfl ?_
    refine Go.iadd X0 hx (hb hby d1_17) (r := (69 : Int32)) rfl (q := 18) rfl ?_
    refine Go.i2c X0 hx (hb hby d1_18) (r := (69 : Int32)) rfl (q := 19) rfl ?_
    exact Go.retI X0 hx hret hlk (by simp) rfl (hb hby d1_19) e0 (by decide) (by decide) ⟨_, rfl, N0, rfl, by decide +kernel⟩
  · show Go pp ee below _ (s₁.setTop (mkF mm 7 #[.val (.int p), .unset] [(.int (5 : Int32))]))
    refine Go.istoreN X0 hx (hb hby d1_7) (l' := #[.val (.int p), .val (.int (5 : Int32))]) rfl (q := 8) rfl ?_
    refine Go.iloadN X0 hx (hb hby d1_8) rfl (q := 9) rfl ?_
    refine Go.bipush X0 hx (hb hby d1_9) (r := (26 : Int32)) rfl (q := 11) rfl ?_
    refine Go.icmpNo X0 hx (hb hby d1_11) (by decide) (q := 14) rfl ?_
    refine Go.bipush X0 hx (hb hby d1_14) (r := (65 : Int32)) rfl (q := 16) rfl ?_
    refine Go.iloadN X0 hx (hb hby d1_16) rfl (q := 17) rfl ?_
    refine Go.iadd X0 hx (hb hby d1_17) (r := (70 : Int32)) rfl (q := 18) rfl ?_
    refine Go.i2c X0 hx (hb hby d1_18) (r := (70 : Int32)) rfl (q := 19) rfl ?_
    exact Go.retI X0 hx hret hlk (by simp) rfl (hb hby d1_19) e0 (by decide) (by decide) ⟨_, rfl, N0, rfl, by decide +kernel⟩
  · show Go pp ee below _ (s₁.setTop (mkF mm 7 #[.val (.int p), .unset] [(.int (6 : Int32))]))
    refine Go.istoreN X0 hx (hb hby d1_7) (l' := #[.val (.int p), .val (.int (6 : Int32))]) rfl (q := 8) rfl ?_
    refine Go.iloadN X0 hx (hb hby d1_8) rfl (q := 9) rfl ?_
    refine Go.bipush X0 hx (hb hby d1_9) (r := (26 : Int32)) rfl (q := 11) rfl ?_
    refine Go.icmpNo X0 hx (hb hby d1_11) (by decide) (q := 14) rfl ?_
    refine Go.bipush X0 hx (hb hby d1_14) (r := (65 : Int32)) rfl (q := 16) rfl ?_
    refine Go.iloadN X0 hx (hb hby d1_16) rfl (q := 17) rfl ?_
    refine Go.iadd X0 hx (hb hby d1_17) (r := (71 : Int32)) rfl (q := 18) rfl ?_
    refine Go.i2c X0 hx (hb hby d1_18) (r := (71 : Int32)) rfl (q := 19) rfl ?_
    exact Go.retI X0 hx hret hlk (by simp) rfl (hb hby d1_19) e0 (by decide) (by decide) ⟨_, rfl, N0, rfl, by decide +kernel⟩
  · show Go pp ee below _ (s₁.setTop (mkF mm 7 #[.val (.int p), .unset] [(.int (7 : Int32))]))
    refine Go.istoreN X0 hx (hb hby d1_7) (l' := #[.val (.int p), .val (.int (7 : Int32))]) rfl (q := 8) rfl ?_
    refine Go.iloadN X0 hx (hb hby d1_8) rfl (q := 9) rfl ?_
    refine Go.bipush X0 hx (hb hby d1_9) (r := (26 : Int32)) rfl (q := 11) rfl ?_
    refine Go.icmpNo X0 hx (hb hby d1_11) (by decide) (q := 14) rfl ?_
    refine Go.bipush X0 hx (hb hby d1_14) (r := (65 : Int32)) rfl (q := 16) rfl ?_
    refine Go.iloadN X0 hx (hb hby d1_16) rfl (q := 17) rfl ?_
    refine Go.iadd X0 hx (hb hby d1_17) (r := (72 : Int32)) rfl (q := 18) rfl ?_
    refine Go.i2c X0 hx (hb hby d1_18) (r := (72 : Int32)) rfl (q := 19) rfl ?_
    exact Go.retI X0 hx hret hlk (by simp) rfl (hb hby d1_19) e0 (by decide) (by decide) ⟨_, rfl, N0, rfl, by decide +kernel⟩
  · show Go pp ee below _ (s₁.setTop (mkF mm 7 #[.val (.int p), .unset] [(.int (8 : Int32))]))
    refine Go.istoreN X0 hx (hb hby d1_7) (l' := #[.val (.int p), .val (.int (8 : Int32))]) rfl (q := 8) rfl ?_
    refine Go.iloadN X0 hx (hb hby d1_8) rfl (q := 9) rfl ?_
    refine Go.bipush X0 hx (hb hby d1_9) (r := (26 : Int32)) rfl (q := 11) rfl ?_
    refine Go.icmpNo X0 hx (hb hby d1_11) (by decide) (q := 14) rfl ?_
    refine Go.bipush X0 hx (hb hby d1_14) (r := (65 : Int32)) rfl (q := 16) rfl ?_
    refine Go.iloadN X0 hx (hb hby d1_16) rfl (q := 17) rfl ?_
    refine Go.iadd X0 hx (hb hby d1_17) (r := (73 : Int32)) rfl (q := 18) rfl ?_
    refine Go.i2c X0 hx (hb hby d1_18) (r := (73 : Int32)) rfl (q := 19) rfl ?_
    exact Go.retI X0 hx hret hlk (by simp) rfl (hb hby d1_19) e0 (by decide) (by decide) ⟨_, rfl, N0, rfl, by decide +kernel⟩
  · show Go pp ee below _ (s₁.setTop (mkF mm 7 #[.val (.int p), .unset] [(.int (9 : Int32))]))
    refine Go.istoreN X0 hx (hb hby d1_7) (l' := #[.val (.int p), .val (.int (9 : Int32))]) rfl (q := 8) rfl ?_
    refine Go.iloadN X0 hx (hb hby d1_8) rfl (q := 9) rfl ?_
    refine Go.bipush X0 hx (hb hby d1_9) (r := (26 : Int32)) rfl (q := 11) rfl ?_
    refine Go.icmpNo X0 hx (hb hby d1_11) (by decide) (q := 14) rfl ?_
    refine Go.bipush X0 hx (hb hby d1_14) (r := (65 : Int32)) rfl (q := 16) rfl ?_
    refine Go.iloadN X0 hx (hb hby d1_16) rfl (q := 17) rfl ?_
    refine Go.iadd X0 hx (hb hby d1_17) (r := (74 : Int32)) rfl (q := 18) rfl ?_
    refine Go.i2c X0 hx (hb hby d1_18) (r := (74 : Int32)) rfl (q := 19) rfl ?_
    exact Go.retI X0 hx hret hlk (by simp) rfl (hb hby d1_19) e0 (by decide) (by decide) ⟨_, rfl, N0, rfl, by decide +kernel⟩
  · show Go pp ee below _ (s₁.setTop (mkF mm 7 #[.val (.int p), .unset] [(.int (10 : Int32))]))
    refine Go.istoreN X0 hx (hb hby d1_7) (l' := #[.val (.int p), .val (.int (10 : Int32))]) rfl (q := 8) rfl ?_
    refine Go.iloadN X0 hx (hb hby d1_8) rfl (q := 9) rfl ?_
    refine Go.bipush X0 hx (hb hby d1_9) (r := (26 : Int32)) rfl (q := 11) rfl ?_
    refine Go.icmpNo X0 hx (hb hby d1_11) (by decide) (q := 14) rfl ?_
    refine Go.bipush X0 hx (hb hby d1_14) (r := (65 : Int32)) rfl (q := 16) rfl ?_
    refine Go.iloadN X0 hx (hb hby d1_16) rfl (q := 17) rfl ?_
    refine Go.iadd X0 hx (hb hby d1_17) (r := (75 : Int32)) rfl (q := 18) rfl ?_
    refine Go.i2c X0 hx (hb hby d1_18) (r := (75 : Int32)) rfl (q := 19) rfl ?_
    exact Go.retI X0 hx hret hlk (by simp) rfl (hb hby d1_19) e0 (by decide) (by decide) ⟨_, rfl, N0, rfl, by decide +kernel⟩
  · show Go pp ee below _ (s₁.setTop (mkF mm 7 #[.val (.int p), .unset] [(.int (11 : Int32))]))
    refine Go.istoreN X0 hx (hb hby d1_7) (l' := #[.val (.int p), .val (.int (11 : Int32))]) rfl (q := 8) rfl ?_
    refine Go.iloadN X0 hx (hb hby d1_8) rfl (q := 9) rfl ?_
    refine Go.bipush X0 hx (hb hby d1_9) (r := (26 : Int32)) rfl (q := 11) rfl ?_
    refine Go.icmpNo X0 hx (hb hby d1_11) (by decide) (q := 14) rfl ?_
    refine Go.bipush X0 hx (hb hby d1_14) (r := (65 : Int32)) rfl (q := 16) rfl ?_
    refine Go.iloadN X0 hx (hb hby d1_16) rfl (q := 17) rfl ?_
    refine Go.iadd X0 hx (hb hby d1_17) (r := (76 : Int32)) rfl (q := 18) rfl ?_
    refine Go.i2c X0 hx (hb hby d1_18) (r := (76 : Int32)) rfl (q := 19) rfl ?_
    exact Go.retI X0 hx hret hlk (by simp) rfl (hb hby d1_19) e0 (by decide) (by decide) ⟨_, rfl, N0, rfl, by decide +kernel⟩
  · show Go pp ee below _ (s₁.setTop (mkF mm 7 #[.val (.int p), .unset] [(.int (12 : Int32))]))
    refine Go.istoreN X0 hx (hb hby d1_7) (l' := #[.val (.int p), .val (.int (12 : Int32))]) rfl (q := 8) rfl ?_
    refine Go.iloadN X0 hx (hb hby d1_8) rfl (q := 9) rfl ?_
    refine Go.bipush X0 hx (hb hby d1_9) (r := (26 : Int32)) rfl (q := 11) rfl ?_
    refine Go.icmpNo X0 hx (hb hby d1_11) (by decide) (q := 14) rfl ?_
    refine Go.bipush X0 hx (hb hby d1_14) (r := (65 : Int32)) rfl (q := 16) rfl ?_
    refine Go.iloadN X0 hx (hb hby d1_16) rfl (q := 17) rfl ?_
    refine Go.iadd X0 hx (hb hby d1_17) (r := (77 : Int32)) rfl (q := 18) rfl ?_
    refine Go.i2c X0 hx (hb hby d1_18) (r := (77 : Int32)) rfl (q := 19) rfl ?_
    exact Go.retI X0 hx hret hlk (by simp) rfl (hb hby d1_19) e0 (by decide) (by decide) ⟨_, rfl, N0, rfl, by decide +kernel⟩
  · show Go pp ee below _ (s₁.setTop (mkF mm 7 #[.val (.int p), .unset] [(.int (13 : Int32))]))
    refine Go.istoreN X0 hx (hb hby d1_7) (l' := #[.val (.int p), .val (.int (13 : Int32))]) rfl (q := 8) rfl ?_
    refine Go.iloadN X0 hx (hb hby d1_8) rfl (q := 9) rfl ?_
    refine Go.bipush X0 hx (hb hby d1_9) (r := (26 : Int32)) rfl (q := 11) rfl ?_
    refine Go.icmpNo X0 hx (hb hby d1_11) (by decide) (q := 14) rfl ?_
    refine Go.bipush X0 hx (hb hby d1_14) (r := (65 : Int32)) rfl (q := 16) rfl ?_
    refine Go.iloadN X0 hx (hb hby d1_16) rfl (q := 17) rfl ?_
    refine Go.iadd X0 hx (hb hby d1_17) (r := (78 : Int32)) rfl (q := 18) rfl ?_
    refine Go.i2c X0 hx (hb hby d1_18) (r := (78 : Int32)) rfl (q := 19) rfl ?_
    exact Go.retI X0 hx hret hlk (by simp) rfl (hb hby d1_19) e0 (by decide) (by decide) ⟨_, rfl, N0, rfl, by decide +kernel⟩
  · show Go pp ee below _ (s₁.setTop (mkF mm 7 #[.val (.int p), .unset] [(.int (14 : Int32))]))
    refine Go.istoreN X0 hx (hb hby d1_7) (l' := #[.val (.int p), .val (.int (14 : Int32))]) rfl (q := 8) rfl ?_
    refine Go.iloadN X0 hx (hb hby d1_8) rfl (q := 9) rfl ?_
    refine Go.bipush X0 hx (hb hby d1_9) (r := (26 : Int32)) rfl (q := 11) rfl ?_
    refine Go.icmpNo X0 hx (hb hby d1_11) (by decide) (q := 14) rfl ?_
    refine Go.bipush X0 hx (hb hby d1_14) (r := (65 : Int32)) rfl (q := 16) rfl ?_
    refine Go.iloadN X0 hx (hb hby d1_16) rfl (q := 17) rfl ?_
    refine Go.iadd X0 hx (hb hby d1_17) (r := (79 : Int32)) rfl (q := 18) rfl ?_
    refine Go.i2c X0 hx (hb hby d1_18) (r := (79 : Int32)) rfl (q := 19) rfl ?_
    exact Go.retI X0 hx hret hlk (by simp) rfl (hb hby d1_19) e0 (by decide) (by decide) ⟨_, rfl, N0, rfl, by decide +kernel⟩
  · show Go pp ee below _ (s₁.setTop (mkF mm 7 #[.val (.int p), .unset] [(.int (15 : Int32))]))
    refine Go.istoreN X0 hx (hb hby d1_7) (l' := #[.val (.int p), .val (.int (15 : Int32))]) rfl (q := 8) rfl ?_
    refine Go.iloadN X0 hx (hb hby d1_8) rfl (q := 9) rfl ?_
    refine Go.bipush X0 hx (hb hby d1_9) (r := (26 : Int32)) rfl (q := 11) rfl ?_
    refine Go.icmpNo X0 hx (hb hby d1_11) (by decide) (q := 14) rfl ?_
    refine Go.bipush X0 hx (hb hby d1_14) (r := (65 : Int32)) rfl (q := 16) rfl ?_
    refine Go.iloadN X0 hx (hb hby d1_16) rfl (q := 17) rfl ?_
    refine Go.iadd X0 hx (hb hby d1_17) (r := (80 : Int32)) rfl (q := 18) rfl ?_
    refine Go.i2c X0 hx (hb hby d1_18) (r := (80 : Int32)) rfl (q := 19) rfl ?_
    exact Go.retI X0 hx hret hlk (by simp) rfl (hb hby d1_19) e0 (by decide) (by decide) ⟨_, rfl, N0, rfl, by decide +kernel⟩
  · show Go pp ee below _ (s₁.setTop (mkF mm 7 #[.val (.int p), .unset] [(.int (16 : Int32))]))
    refine Go.istoreN X0 hx (hb hby d1_7) (l' := #[.val (.int p), .val (.int (16 : Int32))]) rfl (q := 8) rfl ?_
    refine Go.iloadN X0 hx (hb hby d1_8) rfl (q := 9) rfl ?_
    refine Go.bipush X0 hx (hb hby d1_9) (r := (26 : Int32)) rfl (q := 11) rfl ?_
    refine Go.icmpNo X0 hx (hb hby d1_11) (by decide) (q := 14) rfl ?_
    refine Go.bipush X0 hx (hb hby d1_14) (r := (65 : Int32)) rfl (q := 16) rfl ?_
    refine Go.iloadN X0 hx (hb hby d1_16) rfl (q := 17) rfl ?_
    refine Go.iadd X0 hx (hb hby d1_17) (r := (81 : Int32)) rfl (q := 18) rfl ?_
    refine Go.i2c X0 hx (hb hby d1_18) (r := (81 : Int32)) rfl (q := 19) rfl ?_
    exact Go.retI X0 hx hret hlk (by simp) rfl (hb hby d1_19) e0 (by decide) (by decide) ⟨_, rfl, N0, rfl, by decide +kernel⟩
  · show Go pp ee below _ (s₁.setTop (mkF mm 7 #[.val (.int p), .unset] [(.int (17 : Int32))]))
    refine Go.istoreN X0 hx (hb hby d1_7) (l' := #[.val (.int p), .val (.int (17 : Int32))]) rfl (q := 8) rfl ?_
    refine Go.iloadN X0 hx (hb hby d1_8) rfl (q := 9) rfl ?_
    refine Go.bipush X0 hx (hb hby d1_9) (r := (26 : Int32)) rfl (q := 11) rfl ?_
    refine Go.icmpNo X0 hx (hb hby d1_11) (by decide) (q := 14) rfl ?_
    refine Go.bipush X0 hx (hb hby d1_14) (r := (65 : Int32)) rfl (q := 16) rfl ?_
    refine Go.iloadN X0 hx (hb hby d1_16) rfl (q := 17) rfl ?_
    refine Go.iadd X0 hx (hb hby d1_17) (r := (82 : Int32)) rfl (q := 18) rfl ?_
    refine Go.i2c X0 hx (hb hby d1_18) (r := (82 : Int32)) rfl (q := 19) rfl ?_
    exact Go.retI X0 hx hret hlk (by simp) rfl (hb hby d1_19) e0 (by decide) (by decide) ⟨_, rfl, N0, rfl, by decide +kernel⟩
  · show Go pp ee below _ (s₁.setTop (mkF mm 7 #[.val (.int p), .unset] [(.int (18 : Int32))]))
    refine Go.istoreN X0 hx (hb hby d1_7) (l' := #[.val (.int p), .val (.int (18 : Int32))]) rfl (q := 8) rfl ?_
    refine Go.iloadN X0 hx (hb hby d1_8) rfl (q := 9) rfl ?_
    refine Go.bipush X0 hx (hb hby d1_9) (r := (26 : Int32)) rfl (q := 11) rfl ?_
    refine Go.icmpNo X0 hx (hb hby d1_11) (by decide) (q := 14) rfl ?_
    refine Go.bipush X0 hx (hb hby d1_14) (r := (65 : Int32)) rfl (q := 16) rfl ?_
    refine Go.iloadN X0 hx (hb hby d1_16) rfl (q := 17) rfl ?_
    refine Go.iadd X0 hx (hb hby d1_17) (r := (83 : Int32)) rfl (q := 18) rfl ?_
    refine Go.i2c X0 hx (hb hby d1_18) (r := (83 : Int32)) rfl (q := 19) rfl ?_
    exact Go.retI X0 hx hret hlk (by simp) rfl (hb hby d1_19) e0 (by decide) (by decide) ⟨_, rfl, N0, rfl, by decide +kernel⟩
  · show Go pp ee below _ (s₁.setTop (mkF mm 7 #[.val (.int p), .unset] [(.int (19 : Int32))]))
    refine Go.istoreN X0 hx (hb hby d1_7) (l' := #[.val (.int p), .val (.int (19 : Int32))]) rfl (q := 8) rfl ?_
    refine Go.iloadN X0 hx (hb hby d1_8) rfl (q := 9) rfl ?_
    refine Go.bipush X0 hx (hb hby d1_9) (r := (26 : Int32)) rfl (q := 11) rfl ?_
    refine Go.icmpNo X0 hx (hb hby d1_11) (by decide) (q := 14) rfl ?_
    refine Go.bipush X0 hx (hb hby d1_14) (r := (65 : Int32)) rfl (q := 16) rfl ?_
    refine Go.iloadN X0 hx (hb hby d1_16) rfl (q := 17) rfl ?_
    refine Go.iadd X0 hx (hb hby d1_17) (r := (84 : Int32)) rfl (q := 18) rfl ?_
    refine Go.i2c X0 hx (hb hby d1_18) (r := (84 : Int32)) rfl (q := 19) rfl ?_
    exact Go.retI X0 hx hret hlk (by simp) rfl (hb hby d1_19) e0 (by decide) (by decide) ⟨_, rfl, N0, rfl, by decide +kernel⟩
  · show Go pp ee below _ (s₁.setTop (mkF mm 7 #[.val (.int p), .unset] [(.int (20 : Int32))]))
    refine Go.istoreN X0 hx (hb hby d1_7) (l' := #[.val (.int p), .val (.int (20 : Int32))]) rfl (q := 8) rfl ?_
    refine Go.iloadN X0 hx (hb hby d1_8) rfl (q := 9) rfl ?_
    refine Go.bipush X0 hx (hb hby d1_9) (r := (26 : Int32)) rfl (q := 11) rfl ?_
    refine Go.icmpNo X0 hx (hb hby d1_11) (by decide) (q := 14) rfl ?_
    refine Go.bipush X0 hx (hb hby d1_14) (r := (65 : Int32)) rfl (q := 16) rfl ?_
    refine Go.iloadN X0 hx (hb hby d1_16) rfl (q := 17) rfl ?_
    refine Go.iadd X0 hx (hb hby d1_17) (r := (85 : Int32)) rfl (q := 18) rfl ?_
    refine Go.i2c X0 hx (hb hby d1_18) (r := (85 : Int32)) rfl (q := 19) rfl ?_
    exact Go.retI X0 hx hret hlk (by simp) rfl (hb hby d1_19) e0 (by decide) (by decide) ⟨_, rfl, N0, rfl, by decide +kernel⟩
  · show Go pp ee below _ (s₁.setTop (mkF mm 7 #[.val (.int p), .unset] [(.int (21 : Int32))]))
    refine Go.istoreN X0 hx (hb hby d1_7) (l' := #[.val (.int p), .val (.int (21 : Int32))]) rfl (q := 8) rfl ?_
    refine Go.iloadN X0 hx (hb hby d1_8) rfl (q := 9) rfl ?_
    refine Go.bipush X0 hx (hb hby d1_9) (r := (26 : Int32)) rfl (q := 11) rfl ?_
    refine Go.icmpNo X0 hx (hb hby d1_11) (by decide) (q := 14) rfl ?_
    refine Go.bipush X0 hx (hb hby d1_14) (r := (65 : Int32)) rfl (q := 16) rfl ?_
    refine Go.iloadN X0 hx (hb hby d1_16) rfl (q := 17) rfl ?_
    refine Go.iadd X0 hx (hb hby d1_17) (r := (86 : Int32)) rfl (q := 18) rfl ?_
    refine Go.i2c X0 hx (hb hby d1_18) (r := (86 : Int32)) rfl (q := 19) rfl ?_
    exact Go.retI X0 hx hret hlk (by simp) rfl (hb hby d1_19) e0 (by decide) (by decide) ⟨_, rfl, N0, rfl, by decide +kernel⟩
  · show Go pp ee below _ (s₁.setTop (mkF mm 7 #[.val (.int p), .unset] [(.int (22 : Int32))]))
    refine Go.istoreN X0 hx (hb hby d1_7) (l' := #[.val (.int p), .val (.int (22 : Int32))]) rfl (q := 8) rfl ?_
    refine Go.iloadN X0 hx (hb hby d1_8) rfl (q := 9) rfl ?_
    refine Go.bipush X0 hx (hb hby d1_9) (r := (26 : Int32)) rfl (q := 11) rfl ?_
    refine Go.icmpNo X0 hx (hb hby d1_11) (by decide) (q := 14) rfl ?_
    refine Go.bipush X0 hx (hb hby d1_14) (r := (65 : Int32)) rfl (q := 16) rfl ?_
    refine Go.iloadN X0 hx (hb hby d1_16) rfl (q := 17) rfl ?_
    refine Go.iadd X0 hx (hb hby d1_17) (r := (87 : Int32)) rfl (q := 18) rfl ?_
    refine Go.i2c X0 hx (hb hby d1_18) (r := (87 : Int32)) rfl (q := 19) rfl ?_
    exact Go.retI X0 hx hret hlk (by simp) rfl (hb hby d1_19) e0 (by decide) (by decide) ⟨_, rfl, N0, rfl, by decide +kernel⟩
  · show Go pp ee below _ (s₁.setTop (mkF mm 7 #[.val (.int p), .unset] [(.int (23 : Int32))]))
    refine Go.istoreN X0 hx (hb hby d1_7) (l' := #[.val (.int p), .val (.int (23 : Int32))]) rfl (q := 8) rfl ?_
    refine Go.iloadN X0 hx (hb hby d1_8) rfl (q := 9) rfl ?_
    refine Go.bipush X0 hx (hb hby d1_9) (r := (26 : Int32)) rfl (q := 11) rfl ?_
    refine Go.icmpNo X0 hx (hb hby d1_11) (by decide) (q := 14) rfl ?_
    refine Go.bipush X0 hx (hb hby d1_14) (r := (65 : Int32)) rfl (q := 16) rfl ?_
    refine Go.iloadN X0 hx (hb hby d1_16) rfl (q := 17) rfl ?_
    refine Go.iadd X0 hx (hb hby d1_17) (r := (88 : Int32)) rfl (q := 18) rfl ?_
    refine Go.i2c X0 hx (hb hby d1_18) (r := (88 : Int32)) rfl (q := 19) rfl ?_
    exact Go.retI X0 hx hret hlk (by simp) rfl (hb hby d1_19) e0 (by decide) (by decide) ⟨_, rfl, N0, rfl, by decide +kernel⟩
  · show Go pp ee below _ (s₁.setTop (mkF mm 7 #[.val (.int p), .unset] [(.int (24 : Int32))]))
    refine Go.istoreN X0 hx (hb hby d1_7) (l' := #[.val (.int p), .val (.int (24 : Int32))]) rfl (q := 8) rfl ?_
    refine Go.iloadN X0 hx (hb hby d1_8) rfl (q := 9) rfl ?_
    refine Go.bipush X0 hx (hb hby d1_9) (r := (26 : Int32)) rfl (q := 11) rfl ?_
    refine Go.icmpNo X0 hx (hb hby d1_11) (by decide) (q := 14) rfl ?_
    refine Go.bipush X0 hx (hb hby d1_14) (r := (65 : Int32)) rfl (q := 16) rfl ?_
    refine Go.iloadN X0 hx (hb hby d1_16) rfl (q := 17) rfl ?_
    refine Go.iadd X0 hx (hb hby d1_17) (r := (89 : Int32)) rfl (q := 18) rfl ?_
    refine Go.i2c X0 hx (hb hby d1_18) (r := (89 : Int32)) rfl (q := 19) rfl ?_
    exact Go.retI X0 hx hret hlk (by simp) rfl (hb hby d1_19) e0 (by decide) (by decide) ⟨_, rfl, N0, rfl, by decide +kernel⟩
  · show Go pp ee below _ (s₁.setTop (mkF mm 7 #[.val (.int p), .unset] [(.int (25 : Int32))]))
    refine Go.istoreN X0 hx (hb hby d1_7) (l' := #[.val (.int p), .val (.int (25 : Int32))]) rfl (q := 8) rfl ?_
    refine Go.iloadN X0 hx (hb hby d1_8) rfl (q := 9) rfl ?_
    refine Go.bipush X0 hx (hb hby d1_9) (r := (26 : Int32)) rfl (q := 11) rfl ?_
    refine Go.icmpNo X0 hx (hb hby d1_11) (by decide) (q := 14) rfl ?_
    refine Go.bipush X0 hx (hb hby d1_14) (r := (65 : Int32)) rfl (q := 16) rfl ?_
    refine Go.iloadN X0 hx (hb hby d1_16) rfl (q := 17) rfl ?_
    refine Go.iadd X0 hx (hb hby d1_17) (r := (90 : Int32)) rfl (q := 18) rfl ?_
    refine Go.i2c X0 hx (hb hby d1_18) (r := (90 : Int32)) rfl (q := 19) rfl ?_
    exact Go.retI X0 hx hret hlk (by simp) rfl (hb hby d1_19) e0 (by decide) (by decide) ⟨_, rfl, N0, rfl, by decide +kernel⟩
  · show Go pp ee below _ (s₁.setTop (mkF mm 7 #[.val (.int p), .unset] [(.int (26 : Int32))]))
    refine Go.istoreN X0 hx (hb hby d1_7) (l' := #[.val (.int p), .val (.int (26 : Int32))]) rfl (q := 8) rfl ?_
    refine Go.iloadN X0 hx (hb hby d1_8) rfl (q := 9) rfl ?_
    refine Go.bipush X0 hx (hb hby d1_9) (r := (26 : Int32)) rfl (q := 11) rfl ?_
    refine Go.icmpYes X0 hx (hb hby d1_11) (by decide) (q := 20) (by decide) (by decide) ?_
    refine Go.iloadN X0 hx (hb hby d1_20) rfl (q := 21) rfl ?_
    refine Go.bipush X0 hx (hb hby d1_21) (r := (52 : Int32)) rfl (q := 23) rfl ?_
    refine Go.icmpNo X0 hx (hb hby d1_23) (by decide) (q := 26) rfl ?_
    refine Go.bipush X0 hx (hb hby d1_26) (r := (97 : Int32)) rfl (q := 28) rfl ?_
    refine Go.iloadN X0 hx (hb hby d1_28) rfl (q := 29) rfl ?_
    refine Go.bipush X0 hx (hb hby d1_29) (r := (26 : Int32)) rfl (q := 31) rfl ?_
    refine Go.isub X0 hx (hb hby d1_31) (r := (0 : Int32)) rfl (q := 32) rfl ?_
    refine Go.iadd X0 hx (hb hby d1_32) (r := (97 : Int32)) rfl (q := 33) rfl ?_
    refine Go.i2c X0 hx (hb hby d1_33) (r := (97 : Int32)) rfl (q := 34) rfl ?_
    exact Go.retI X0 hx hret hlk (by simp) rfl (hb hby d1_34) e0 (by decide) (by decide) ⟨_, rfl, N0, rfl, by decide +kernel⟩
  · show Go pp ee below _ (s₁.setTop (mkF mm 7 #[.val (.int p), .unset] [(.int (27 : Int32))]))
    refine Go.istoreN X0 hx (hb hby d1_7) (l' := #[.val (.int p), .val (.int (27 : Int32))]) rfl (q := 8) rfl ?_
    refine Go.iloadN X0 hx (hb hby d1_8) rfl (q := 9) rfl ?_
    refine Go.bipush X0 hx (hb hby d1_9) (r := (26 : Int32)) rfl (q := 11) rfl ?_
    refine Go.icmpYes X0 hx (hb hby d1_11) (by decide) (q := 20) (by decide) (by decide) ?_
    refine Go.iloadN X0 hx (hb hby d1_20) rfl (q := 21) rfl ?_
    refine Go.bipush X0 hx (hb hby d1_21) (r := (52 : Int32)) rfl (q := 23) rfl ?_
    refine Go.icmpNo X0 hx (hb hby d1_23) (by decide) (q := 26) rfl ?_
    refine Go.bipush X0 hx (hb hby d1_26) (r := (97 : Int32)) rfl (q := 28) rfl ?_
    refine Go.iloadN X0 hx (hb hby d1_28) rfl (q := 29) rfl ?_
    refine Go.bipush X0 hx (hb hby d1_29) (r := (26 : Int32)) rfl (q := 31) rfl ?_
    refine Go.isub X0 hx (hb hby d1_31) (r := (1 : Int32)) rfl (q := 32) rfl ?_
    refine Go.iadd X0 hx (hb hby d1_32) (r := (98 : Int32)) rfl (q := 33) rfl ?_
    refine Go.i2c X0 hx (hb hby d1_33) (r := (98 : Int32)) rfl (q := 34) rfl ?_
    exact Go.retI X0 hx hret hlk (by simp) rfl (hb hby d1_34) e0 (by decide) (by decide) ⟨_, rfl, N0, rfl, by decide +kernel⟩
  · show Go pp ee below _ (s₁.setTop (mkF mm 7 #[.val (.int p), .unset] [(.int (28 : Int32))]))
    refine Go.istoreN X0 hx (hb hby d1_7) (l' := #[.val (.int p), .val (.int (28 : Int32))]) rfl (q := 8) rfl ?_
    refine Go.iloadN X0 hx (hb hby d1_8) rfl (q := 9) rfl ?_
    refine Go.bipush X0 hx (hb hby d1_9) (r := (26 : Int32)) rfl (q := 11) rfl ?_
    refine Go.icmpYes X0 hx (hb hby d1_11) (by decide) (q := 20) (by decide) (by decide) ?_
    refine Go.iloadN X0 hx (hb hby d1_20) rfl (q := 21) rfl ?_
    refine Go.bipush X0 hx (hb hby d1_21) (r := (52 : Int32)) rfl (q := 23) rfl ?_
    refine Go.icmpNo X0 hx (hb hby d1_23) (by decide) (q := 26) rfl ?_
    refine Go.bipush X0 hx (hb hby d1_26) (r := (97 : Int32)) rfl (q := 28) rfl ?_
    refine Go.iloadN X0 hx (hb hby d1_28) rfl (q := 29) rfl ?_
    refine Go.bipush X0 hx (hb hby d1_29) (r := (26 : Int32)) rfl (q := 31) rfl ?_
    refine Go.isub X0 hx (hb hby d1_31) (r := (2 : Int32)) rfl (q := 32) rfl ?_
    refine Go.iadd X0 hx (hb hby d1_32) (r := (99 : Int32)) rfl (q := 33) rfl ?_
    refine Go.i2c X0 hx (hb hby d1_33) (r := (99 : Int32)) rfl (q := 34) rfl ?_
    exact Go.retI X0 hx hret hlk (by simp) rfl (hb hby d1_34) e0 (by decide) (by decide) ⟨_, rfl, N0, rfl, by decide +kernel⟩
  · show Go pp ee below _ (s₁.setTop (mkF mm 7 #[.val (.int p), .unset] [(.int (29 : Int32))]))
    refine Go.istoreN X0 hx (hb hby d1_7) (l' := #[.val (.int p), .val (.int (29 : Int32))]) rfl (q := 8) rfl ?_
    refine Go.iloadN X0 hx (hb hby d1_8) rfl (q := 9) rfl ?_
    refine Go.bipush X0 hx (hb hby d1_9) (r := (26 : Int32)) rfl (q := 11) rfl ?_
    refine Go.icmpYes X0 hx (hb hby d1_11) (by decide) (q := 20) (by decide) (by decide) ?_
    refine Go.iloadN X0 hx (hb hby d1_20) rfl (q := 21) rfl ?_
    refine Go.bipush X0 hx (hb hby d1_21) (r := (52 : Int32)) rfl (q := 23) rfl ?_
    refine Go.icmpNo X0 hx (hb hby d1_23) (by decide) (q := 26) rfl ?_
    refine Go.bipush X0 hx (hb hby d1_26) (r := (97 : Int32)) rfl (q := 28) rfl ?_
    refine Go.iloadN X0 hx (hb hby d1_28) rfl (q := 29) rfl ?_
    refine Go.bipush X0 hx (hb hby d1_29) (r := (26 : Int32)) rfl (q := 31) rfl ?_
    refine Go.isub X0 hx (hb hby d1_31) (r := (3 : Int32)) rfl (q := 32) rfl ?_
    refine Go.iadd X0 hx (hb hby d1_32) (r := (100 : Int32)) rfl (q := 33) rfl ?_
    refine Go.i2c X0 hx (hb hby d1_33) (r := (100 : Int32)) rfl (q := 34) rfl ?_
    exact Go.retI X0 hx hret hlk (by simp) rfl (hb hby d1_34) e0 (by decide) (by decide) ⟨_, rfl, N0, rfl, by decide +kernel⟩
  · show Go pp ee below _ (s₁.setTop (mkF mm 7 #[.val (.int p), .unset] [(.int (30 : Int32))]))
    refine Go.istoreN X0 hx (hb hby d1_7) (l' := #[.val (.int p), .val (.int (30 : Int32))]) rfl (q := 8) rfl ?_
    refine Go.iloadN X0 hx (hb hby d1_8) rfl (q := 9) rfl ?_
    refine Go.bipush X0 hx (hb hby d1_9) (r := (26 : Int32)) rfl (q := 11) rfl ?_
    refine Go.icmpYes X0 hx (hb hby d1_11) (by decide) (q := 20) (by decide) (by decide) ?_
    refine Go.iloadN X0 hx (hb hby d1_20) rfl (q := 21) rfl ?_
    refine Go.bipush X0 hx (hb hby d1_21) (r := (52 : Int32)) rfl (q := 23) rfl ?_
    refine Go.icmpNo X0 hx (hb hby d1_23) (by decide) (q := 26) rfl ?_
    refine Go.bipush X0 hx (hb hby d1_26) (r := (97 : Int32)) rfl (q := 28) rfl ?_
    refine Go.iloadN X0 hx (hb hby d1_28) rfl (q := 29) rfl ?_
    refine Go.bipush X0 hx (hb hby d1_29) (r := (26 : Int32)) rfl (q := 31) rfl ?_
    refine Go.isub X0 hx (hb hby d1_31) (r := (4 : Int32)) rfl (q := 32) rfl ?_
    refine Go.iadd X0 hx (hb hby d1_32) (r := (101 : Int32)) rfl (q := 33) rfl ?_
    refine Go.i2c X0 hx (hb hby d1_33) (r := (101 : Int32)) rfl (q := 34) rfl ?_
    exact Go.retI X0 hx hret hlk (by simp) rfl (hb hby d1_34) e0 (by decide) (by decide) ⟨_, rfl, N0, rfl, by decide +kernel⟩
  · show Go pp ee below _ (s₁.setTop (mkF mm 7 #[.val (.int p), .unset] [(.int (31 : Int32))]))
    refine Go.istoreN X0 hx (hb hby d1_7) (l' := #[.val (.int p), .val (.int (31 : Int32))]) rfl (q := 8) rfl ?_
    refine Go.iloadN X0 hx (hb hby d1_8) rfl (q := 9) rfl ?_
    refine Go.bipush X0 hx (hb hby d1_9) (r := (26 : Int32)) rfl (q := 11) rfl ?_
    refine Go.icmpYes X0 hx (hb hby d1_11) (by decide) (q := 20) (by decide) (by decide) ?_
    refine Go.iloadN X0 hx (hb hby d1_20) rfl (q := 21) rfl ?_
    refine Go.bipush X0 hx (hb hby d1_21) (r := (52 : Int32)) rfl (q := 23) rfl ?_
    refine Go.icmpNo X0 hx (hb hby d1_23) (by decide) (q := 26) rfl ?_
    refine Go.bipush X0 hx (hb hby d1_26) (r := (97 : Int32)) rfl (q := 28) rfl ?_
    refine Go.iloadN X0 hx (hb hby d1_28) rfl (q := 29) rfl ?_
    refine Go.bipush X0 hx (hb hby d1_29) (r := (26 : Int32)) rfl (q := 31) rfl ?_
    refine Go.isub X0 hx (hb hby d1_31) (r := (5 : Int32)) rfl (q := 32) rfl ?_
    refine Go.iadd X0 hx (hb hby d1_32) (r := (102 : Int32)) rfl (q := 33) rfl ?_
    refine Go.i2c X0 hx (hb hby d1_33) (r := (102 : Int32)) rfl (q := 34) rfl ?_
    exact Go.retI X0 hx hret hlk (by simp) rfl (hb hby d1_34) e0 (by decide) (by decide) ⟨_, rfl, N0, rfl, by decide +kernel⟩
  · show Go pp ee below _ (s₁.setTop (mkF mm 7 #[.val (.int p), .unset] [(.int (32 : Int32))]))
    refine Go.istoreN X0 hx (hb hby d1_7) (l' := #[.val (.int p), .val (.int (32 : Int32))]) rfl (q := 8) rfl ?_
    refine Go.iloadN X0 hx (hb hby d1_8) rfl (q := 9) rfl ?_
    refine Go.bipush X0 hx (hb hby d1_9) (r := (26 : Int32)) rfl (q := 11) rfl ?_
    refine Go.icmpYes X0 hx (hb hby d1_11) (by decide) (q := 20) (by decide) (by decide) ?_
    refine Go.iloadN X0 hx (hb hby d1_20) rfl (q := 21) rfl ?_
    refine Go.bipush X0 hx (hb hby d1_21) (r := (52 : Int32)) rfl (q := 23) rfl ?_
    refine Go.icmpNo X0 hx (hb hby d1_23) (by decide) (q := 26) rfl ?_
    refine Go.bipush X0 hx (hb hby d1_26) (r := (97 : Int32)) rfl (q := 28) rfl ?_
    refine Go.iloadN X0 hx (hb hby d1_28) rfl (q := 29) rfl ?_
    refine Go.bipush X0 hx (hb hby d1_29) (r := (26 : Int32)) rfl (q := 31) rfl ?_
    refine Go.isub X0 hx (hb hby d1_31) (r := (6 : Int32)) rfl (q := 32) rfl ?_
    refine Go.iadd X0 hx (hb hby d1_32) (r := (103 : Int32)) rfl (q := 33) rfl ?_
    refine Go.i2c X0 hx (hb hby d1_33) (r := (103 : Int32)) rfl (q := 34) rfl ?_
    exact Go.retI X0 hx hret hlk (by simp) rfl (hb hby d1_34) e0 (by decide) (by decide) ⟨_, rfl, N0, rfl, by decide +kernel⟩
  · show Go pp ee below _ (s₁.setTop (mkF mm 7 #[.val (.int p), .unset] [(.int (33 : Int32))]))
    refine Go.istoreN X0 hx (hb hby d1_7) (l' := #[.val (.int p), .val (.int (33 : Int32))]) rfl (q := 8) rfl ?_
    refine Go.iloadN X0 hx (hb hby d1_8) rfl (q := 9) rfl ?_
    refine Go.bipush X0 hx (hb hby d1_9) (r := (26 : Int32)) rfl (q := 11) rfl ?_
    refine Go.icmpYes X0 hx (hb hby d1_11) (by decide) (q := 20) (by decide) (by decide) ?_
    refine Go.iloadN X0 hx (hb hby d1_20) rfl (q := 21) rfl ?_
    refine Go.bipush X0 hx (hb hby d1_21) (r := (52 : Int32)) rfl (q := 23) rfl ?_
    refine Go.icmpNo X0 hx (hb hby d1_23) (by decide) (q := 26) rfl ?_
    refine Go.bipush X0 hx (hb hby d1_26) (r := (97 : Int32)) rfl (q := 28) rfl ?_
    refine Go.iloadN X0 hx (hb hby d1_28) rfl (q := 29) rfl ?_
    refine Go.bipush X0 hx (hb hby d1_29) (r := (26 : Int32)) rfl (q := 31) rfl ?_
    refine Go.isub X0 hx (hb hby d1_31) (r := (7 : Int32)) rfl (q := 32) rfl ?_
    refine Go.iadd X0 hx (hb hby d1_32) (r := (104 : Int32)) rfl (q := 33) rfl ?_
    refine Go.i2c X0 hx (hb hby d1_33) (r := (104 : Int32)) rfl (q := 34) rfl ?_
    exact Go.retI X0 hx hret hlk (by simp) rfl (hb hby d1_34) e0 (by decide) (by decide) ⟨_, rfl, N0, rfl, by decide +kernel⟩
  · show Go pp ee below _ (s₁.setTop (mkF mm 7 #[.val (.int p), .unset] [(.int (34 : Int32))]))
    refine Go.istoreN X0 hx (hb hby d1_7) (l' := #[.val (.int p), .val (.int (34 : Int32))]) rfl (q := 8) rfl ?_
    refine Go.iloadN X0 hx (hb hby d1_8) rfl (q := 9) rfl ?_
    refine Go.bipush X0 hx (hb hby d1_9) (r := (26 : Int32)) rfl (q := 11) rfl ?_
    refine Go.icmpYes X0 hx (hb hby d1_11) (by decide) (q := 20) (by decide) (by decide) ?_
    refine Go.iloadN X0 hx (hb hby d1_20) rfl (q := 21) rfl ?_
    refine Go.bipush X0 hx (hb hby d1_21) (r := (52 : Int32)) rfl (q := 23) rfl ?_
    refine Go.icmpNo X0 hx (hb hby d1_23) (by decide) (q := 26) rfl ?_
    refine Go.bipush X0 hx (hb hby d1_26) (r := (97 : Int32)) rfl (q := 28) rfl ?_
    refine Go.iloadN X0 hx (hb hby d1_28) rfl (q := 29) rfl ?_
    refine Go.bipush X0 hx (hb hby d1_29) (r := (26 : Int32)) rfl (q := 31) rfl ?_
    refine Go.isub X0 hx (hb hby d1_31) (r := (8 : Int32)) rfl (q := 32) rfl ?_
    refine Go.iadd X0 hx (hb hby d1_32) (r := (105 : Int32)) rfl (q := 33) rfl ?_
    refine Go.i2c X0 hx (hb hby d1_33) (r := (105 : Int32)) rfl (q := 34) rfl ?_
    exact Go.retI X0 hx hret hlk (by simp) rfl (hb hby d1_34) e0 (by decide) (by decide) ⟨_, rfl, N0, rfl, by decide +kernel⟩
  · show Go pp ee below _ (s₁.setTop (mkF mm 7 #[.val (.int p), .unset] [(.int (35 : Int32))]))
    refine Go.istoreN X0 hx (hb hby d1_7) (l' := #[.val (.int p), .val (.int (35 : Int32))]) rfl (q := 8) rfl ?_
    refine Go.iloadN X0 hx (hb hby d1_8) rfl (q := 9) rfl ?_
    refine Go.bipush X0 hx (hb hby d1_9) (r := (26 : Int32)) rfl (q := 11) rfl ?_
    refine Go.icmpYes X0 hx (hb hby d1_11) (by decide) (q := 20) (by decide) (by decide) ?_
    refine Go.iloadN X0 hx (hb hby d1_20) rfl (q := 21) rfl ?_
    refine Go.bipush X0 hx (hb hby d1_21) (r := (52 : Int32)) rfl (q := 23) rfl ?_
    refine Go.icmpNo X0 hx (hb hby d1_23) (by decide) (q := 26) rfl ?_
    refine Go.bipush X0 hx (hb hby d1_26) (r := (97 : Int32)) rfl (q := 28) rfl ?_
    refine Go.iloadN X0 hx (hb hby d1_28) rfl (q := 29) rfl ?_
    refine Go.bipush X0 hx (hb hby d1_29) (r := (26 : Int32)) rfl (q := 31) rfl ?_
    refine Go.isub X0 hx (hb hby d1_31) (r := (9 : Int32)) rfl (q := 32) rfl ?_
    refine Go.iadd X0 hx (hb hby d1_32) (r := (106 : Int32)) rfl (q := 33) rfl ?_
    refine Go.i2c X0 hx (hb hby d1_33) (r := (106 : Int32)) rfl (q := 34) rfl ?_
    exact Go.retI X0 hx hret hlk (by simp) rfl (hb hby d1_34) e0 (by decide) (by decide) ⟨_, rfl, N0, rfl, by decide +kernel⟩
  · show Go pp ee below _ (s₁.setTop (mkF mm 7 #[.val (.int p), .unset] [(.int (36 : Int32))]))
    refine Go.istoreN X0 hx (hb hby d1_7) (l' := #[.val (.int p), .val (.int (36 : Int32))]) rfl (q := 8) rfl ?_
    refine Go.iloadN X0 hx (hb hby d1_8) rfl (q := 9) rfl ?_
    refine Go.bipush X0 hx (hb hby d1_9) (r := (26 : Int32)) rfl (q := 11) rfl ?_
    refine Go.icmpYes X0 hx (hb hby d1_11) (by decide) (q := 20) (by decide) (by decide) ?_
    refine Go.iloadN X0 hx (hb hby d1_20) rfl (q := 21) rfl ?_
    refine Go.bipush X0 hx (hb hby d1_21) (r := (52 : Int32)) rfl (q := 23) rfl ?_
    refine Go.icmpNo X0 hx (hb hby d1_23) (by decide) (q := 26) rfl ?_
    refine Go.bipush X0 hx (hb hby d1_26) (r := (97 : Int32)) rfl (q := 28) rfl ?_
    refine Go.iloadN X0 hx (hb hby d1_28) rfl (q := 29) rfl ?_
    refine Go.bipush X0 hx (hb hby d1_29) (r := (26 : Int32)) rfl (q := 31) rfl ?_
    refine Go.isub X0 hx (hb hby d1_31) (r := (10 : Int32)) rfl (q := 32) rfl ?_
    refine Go.iadd X0 hx (hb hby d1_32) (r := (107 : Int32)) rfl (q := 33) rfl ?_
    refine Go.i2c X0 hx (hb hby d1_33) (r := (107 : Int32)) rfl (q := 34) rfl ?_
    exact Go.retI X0 hx hret hlk (by simp) rfl (hb hby d1_34) e0 (by decide) (by decide) ⟨_, rfl, N0, rfl, by decide +kernel⟩
  · show Go pp ee below _ (s₁.setTop (mkF mm 7 #[.val (.int p), .unset] [(.int (37 : Int32))]))
    refine Go.istoreN X0 hx (hb hby d1_7) (l' := #[.val (.int p), .val (.int (37 : Int32))]) rfl (q := 8) rfl ?_
    refine Go.iloadN X0 hx (hb hby d1_8) rfl (q := 9) rfl ?_
    refine Go.bipush X0 hx (hb hby d1_9) (r := (26 : Int32)) rfl (q := 11) rfl ?_
    refine Go.icmpYes X0 hx (hb hby d1_11) (by decide) (q := 20) (by decide) (by decide) ?_
    refine Go.iloadN X0 hx (hb hby d1_20) rfl (q := 21) rfl ?_
    refine Go.bipush X0 hx (hb hby d1_21) (r := (52 : Int32)) rfl (q := 23) rfl ?_
    refine Go.icmpNo X0 hx (hb hby d1_23) (by decide) (q := 26) rfl ?_
    refine Go.bipush X0 hx (hb hby d1_26) (r := (97 : Int32)) rfl (q := 28) rfl ?_
    refine Go.iloadN X0 hx (hb hby d1_28) rfl (q := 29) rfl ?_
    refine Go.bipush X0 hx (hb hby d1_29) (r := (26 : Int32)) rfl (q := 31) rfl ?_
    refine Go.isub X0 hx (hb hby d1_31) (r := (11 : Int32)) rfl (q := 32) rfl ?_
    refine Go.iadd X0 hx (hb hby d1_32) (r := (108 : Int32)) rfl (q := 33) rfl ?_
    refine Go.i2c X0 hx (hb hby d1_33) (r := (108 : Int32)) rfl (q := 34) rfl ?_
    exact Go.retI X0 hx hret hlk (by simp) rfl (hb hby d1_34) e0 (by decide) (by decide) ⟨_, rfl, N0, rfl, by decide +kernel⟩
  · show Go pp ee below _ (s₁.setTop (mkF mm 7 #[.val (.int p), .unset] [(.int (38 : Int32))]))
    refine Go.istoreN X0 hx (hb hby d1_7) (l' := #[.val (.int p), .val (.int (38 : Int32))]) rfl (q := 8) rfl ?_
    refine Go.iloadN X0 hx (hb hby d1_8) rfl (q := 9) rfl ?_
    refine Go.bipush X0 hx (hb hby d1_9) (r := (26 : Int32)) rfl (q := 11) rfl ?_
    refine Go.icmpYes X0 hx (hb hby d1_11) (by decide) (q := 20) (by decide) (by decide) ?_
    refine Go.iloadN X0 hx (hb hby d1_20) rfl (q := 21) rfl ?_
    refine Go.bipush X0 hx (hb hby d1_21) (r := (52 : Int32)) rfl (q := 23) rfl ?_
    refine Go.icmpNo X0 hx (hb hby d1_23) (by decide) (q := 26) rfl ?_
    refine Go.bipush X0 hx (hb hby d1_26) (r := (97 : Int32)) rfl (q := 28) rfl ?_
    refine Go.iloadN X0 hx (hb hby d1_28) rfl (q := 29) rfl ?_
    refine Go.bipush X0 hx (hb hby d1_29) (r := (26 : Int32)) rfl (q := 31) rfl ?_
    refine Go.isub X0 hx (hb hby d1_31) (r := (12 : Int32)) rfl (q := 32) rfl ?_
    refine Go.iadd X0 hx (hb hby d1_32) (r := (109 : Int32)) rfl (q := 33) rfl ?_
    refine Go.i2c X0 hx (hb hby d1_33) (r := (109 : Int32)) rfl (q := 34) rfl ?_
    exact Go.retI X0 hx hret hlk (by simp) rfl (hb hby d1_34) e0 (by decide) (by decide) ⟨_, rfl, N0, rfl, by decide +kernel⟩
  · show Go pp ee below _ (s₁.setTop (mkF mm 7 #[.val (.int p), .unset] [(.int (39 : Int32))]))
    refine Go.istoreN X0 hx (hb hby d1_7) (l' := #[.val (.int p), .val (.int (39 : Int32))]) rfl (q := 8) rfl ?_
    refine Go.iloadN X0 hx (hb hby d1_8) rfl (q := 9) rfl ?_
    refine Go.bipush X0 hx (hb hby d1_9) (r := (26 : Int32)) rfl (q := 11) rfl ?_
    refine Go.icmpYes X0 hx (hb hby d1_11) (by decide) (q := 20) (by decide) (by decide) ?_
    refine Go.iloadN X0 hx (hb hby d1_20) rfl (q := 21) rfl ?_
    refine Go.bipush X0 hx (hb hby d1_21) (r := (52 : Int32)) rfl (q := 23) rfl ?_
    refine Go.icmpNo X0 hx (hb hby d1_23) (by decide) (q := 26) rfl ?_
    refine Go.bipush X0 hx (hb hby d1_26) (r := (97 : Int32)) rfl (q := 28) rfl ?_
    refine Go.iloadN X0 hx (hb hby d1_28) rfl (q := 29) rfl ?_
    refine Go.bipush X0 hx (hb hby d1_29) (r := (26 : Int32)) rfl (q := 31) rfl ?_
    refine Go.isub X0 hx (hb hby d1_31) (r := (13 : Int32)) rfl (q := 32) rfl ?_
    refine Go.iadd X0 hx (hb hby d1_32) (r := (110 : Int32)) rfl (q := 33) rfl ?_
    refine Go.i2c X0 hx (hb hby d1_33) (r := (110 : Int32)) rfl (q := 34) rfl ?_
    exact Go.retI X0 hx hret hlk (by simp) rfl (hb hby d1_34) e0 (by decide) (by decide) ⟨_, rfl, N0, rfl, by decide +kernel⟩
  · show Go pp ee below _ (s₁.setTop (mkF mm 7 #[.val (.int p), .unset] [(.int (40 : Int32))]))
    refine Go.istoreN X0 hx (hb hby d1_7) (l' := #[.val (.int p), .val (.int (40 : Int32))]) rfl (q := 8) rfl ?_
    refine Go.iloadN X0 hx (hb hby d1_8) rfl (q := 9) rfl ?_
    refine Go.bipush X0 hx (hb hby d1_9) (r := (26 : Int32)) rfl (q := 11) rfl ?_
    refine Go.icmpYes X0 hx (hb hby d1_11) (by decide) (q := 20) (by decide) (by decide) ?_
    refine Go.iloadN X0 hx (hb hby d1_20) rfl (q := 21) rfl ?_
    refine Go.bipush X0 hx (hb hby d1_21) (r := (52 : Int32)) rfl (q := 23) rfl ?_
    refine Go.icmpNo X0 hx (hb hby d1_23) (by decide) (q := 26) rfl ?_
    refine Go.bipush X0 hx (hb hby d1_26) (r := (97 : Int32)) rfl (q := 28) rfl ?_
    refine Go.iloadN X0 hx (hb hby d1_28) rfl (q := 29) rfl ?_
    refine Go.bipush X0 hx (hb hby d1_29) (r := (26 : Int32)) rfl (q := 31) rfl ?_
    refine Go.isub X0 hx (hb hby d1_31) (r := (14 : Int32)) rfl (q := 32) rfl ?_
    refine Go.iadd X0 hx (hb hby d1_32) (r := (111 : Int32)) rfl (q := 33) rfl ?_
    refine Go.i2c X0 hx (hb hby d1_33) (r := (111 : Int32)) rfl (q := 34) rfl ?_
    exact Go.retI X0 hx hret hlk (by simp) rfl (hb hby d1_34) e0 (by decide) (by decide) ⟨_, rfl, N0, rfl, by decide +kernel⟩
  · show Go pp ee below _ (s₁.setTop (mkF mm 7 #[.val (.int p), .unset] [(.int (41 : Int32))]))
    refine Go.istoreN X0 hx (hb hby d1_7) (l' := #[.val (.int p), .val (.int (41 : Int32))]) rfl (q := 8) rfl ?_
    refine Go.iloadN X0 hx (hb hby d1_8) rfl (q := 9) rfl ?_
    refine Go.bipush X0 hx (hb hby d1_9) (r := (26 : Int32)) rfl (q := 11) rfl ?_
    refine Go.icmpYes X0 hx (hb hby d1_11) (by decide) (q := 20) (by decide) (by decide) ?_
    refine Go.iloadN X0 hx (hb hby d1_20) rfl (q := 21) rfl ?_
    refine Go.bipush X0 hx (hb hby d1_21) (r := (52 : Int32)) rfl (q := 23) rfl ?_
    refine Go.icmpNo X0 hx (hb hby d1_23) (by decide) (q := 26) rfl ?_
    refine Go.bipush X0 hx (hb hby d1_26) (r := (97 : Int32)) rfl (q := 28) rfl ?_
    refine Go.iloadN X0 hx (hb hby d1_28) rfl (q := 29) rfl ?_
    refine Go.bipush X0 hx (hb hby d1_29) (r := (26 : Int32)) rfl (q := 31) rfl ?_
    refine Go.isub X0 hx (hb hby d1_31) (r := (15 : Int32)) rfl (q := 32) rfl ?_
    refine Go.iadd X0 hx (hb hby d1_32) (r := (112 : Int32)) rfl (q := 33) rfl ?_
    refine Go.i2c X0 hx (hb hby d1_33) (r := (112 : Int32)) rfl (q := 34) rfl ?_
    exact Go.retI X0 hx hret hlk (by simp) rfl (hb hby d1_34) e0 (by decide) (by decide) ⟨_, rfl, N0, rfl, by decide +kernel⟩
  · show Go pp ee below _ (s₁.setTop (mkF mm 7 #[.val (.int p), .unset] [(.int (42 : Int32))]))
    refine Go.istoreN X0 hx (hb hby d1_7) (l' := #[.val (.int p), .val (.int (42 : Int32))]) rfl (q := 8) rfl ?_
    refine Go.iloadN X0 hx (hb hby d1_8) rfl (q := 9) rfl ?_
    refine Go.bipush X0 hx (hb hby d1_9) (r := (26 : Int32)) rfl (q := 11) rfl ?_
    refine Go.icmpYes X0 hx (hb hby d1_11) (by decide) (q := 20) (by decide) (by decide) ?_
    refine Go.iloadN X0 hx (hb hby d1_20) rfl (q := 21) rfl ?_
    refine Go.bipush X0 hx (hb hby d1_21) (r := (52 : Int32)) rfl (q := 23) rfl ?_
    refine Go.icmpNo X0 hx (hb hby d1_23) (by decide) (q := 26) rfl ?_
    refine Go.bipush X0 hx (hb hby d1_26) (r := (97 : Int32)) rfl (q := 28) rfl ?_
    refine Go.iloadN X0 hx (hb hby d1_28) rfl (q := 29) rfl ?_
    refine Go.bipush X0 hx (hb hby d1_29) (r := (26 : Int32)) rfl (q := 31) rfl ?_
    refine Go.isub X0 hx (hb hby d1_31) (r := (16 : Int32)) rfl (q := 32) rfl ?_
    refine Go.iadd X0 hx (hb hby d1_32) (r := (113 : Int32)) rfl (q := 33) rfl ?_
    refine Go.i2c X0 hx (hb hby d1_33) (r := (113 : Int32)) rfl (q := 34) rfl ?_
    exact Go.retI X0 hx hret hlk (by simp) rfl (hb hby d1_34) e0 (by decide) (by decide) ⟨_, rfl, N0, rfl, by decide +kernel⟩
  · show Go pp ee below _ (s₁.setTop (mkF mm 7 #[.val (.int p), .unset] [(.int (43 : Int32))]))
    refine Go.istoreN X0 hx (hb hby d1_7) (l' := #[.val (.int p), .val (.int (43 : Int32))]) rfl (q := 8) rfl ?_
    refine Go.iloadN X0 hx (hb hby d1_8) rfl (q := 9) rfl ?_
    refine Go.bipush X0 hx (hb hby d1_9) (r := (26 : Int32)) rfl (q := 11) rfl ?_
    refine Go.icmpYes X0 hx (hb hby d1_11) (by decide) (q := 20) (by decide) (by decide) ?_
    refine Go.iloadN X0 hx (hb hby d1_20) rfl (q := 21) rfl ?_
    refine Go.bipush X0 hx (hb hby d1_21) (r := (52 : Int32)) rfl (q := 23) rfl ?_
    refine Go.icmpNo X0 hx (hb hby d1_23) (by decide) (q := 26) rfl ?_
    refine Go.bipush X0 hx (hb hby d1_26) (r := (97 : Int32)) rfl (q := 28) rfl ?_
    refine Go.iloadN X0 hx (hb hby d1_28) rfl (q := 29) rfl ?_
    refine Go.bipush X0 hx (hb hby d1_29) (r := (26 : Int32)) rfl (q := 31) rfl ?_
    refine Go.isub X0 hx (hb hby d1_31) (r := (17 : Int32)) rfl (q := 32) rfl ?_
    refine Go.iadd X0 hx (hb hby d1_32) (r := (114 : Int32)) rfl (q := 33) rfl ?_
    refine Go.i2c X0 hx (hb hby d1_33) (r := (114 : Int32)) rfl (q := 34) rfl ?_
    exact Go.retI X0 hx hret hlk (by simp) rfl (hb hby d1_34) e0 (by decide) (by decide) ⟨_, rfl, N0, rfl, by decide +kernel⟩
  · show Go pp ee below _ (s₁.setTop (mkF mm 7 #[.val (.int p), .unset] [(.int (44 : Int32))]))
    refine Go.istoreN X0 hx (hb hby d1_7) (l' := #[.val (.int p), .val (.int (44 : Int32))]) rfl (q := 8) rfl ?_
    refine Go.iloadN X0 hx (hb hby d1_8) rfl (q := 9) rfl ?_
    refine Go.bipush X0 hx (hb hby d1_9) (r := (26 : Int32)) rfl (q := 11) rfl ?_
    refine Go.icmpYes X0 hx (hb hby d1_11) (by decide) (q := 20) (by decide) (by decide) ?_
    refine Go.iloadN X0 hx (hb hby d1_20) rfl (q := 21) rfl ?_
    refine Go.bipush X0 hx (hb hby d1_21) (r := (52 : Int32)) rfl (q := 23) rfl ?_
    refine Go.icmpNo X0 hx (hb hby d1_23) (by decide) (q := 26) rfl ?_
    refine Go.bipush X0 hx (hb hby d1_26) (r := (97 : Int32)) rfl (q := 28) rfl ?_
    refine Go.iloadN X0 hx (hb hby d1_28) rfl (q := 29) rfl ?_
    refine Go.bipush X0 hx (hb hby d1_29) (r := (26 : Int32)) rfl (q := 31) rfl ?_
    refine Go.isub X0 hx (hb hby d1_31) (r := (18 : Int32)) rfl (q := 32) rfl ?_
    refine Go.iadd X0 hx (hb hby d1_32) (r := (115 : Int32)) rfl (q := 33) rfl ?_
    refine Go.i2c X0 hx (hb hby d1_33) (r := (115 : Int32)) rfl (q := 34) rfl ?_
    exact Go.retI X0 hx hret hlk (by simp) rfl (hb hby d1_34) e0 (by decide) (by decide) ⟨_, rfl, N0, rfl, by decide +kernel⟩
  · show Go pp ee below _ (s₁.setTop (mkF mm 7 #[.val (.int p), .unset] [(.int (45 : Int32))]))
    refine Go.istoreN X0 hx (hb hby d1_7) (l' := #[.val (.int p), .val (.int (45 : Int32))]) rfl (q := 8) rfl ?_
    refine Go.iloadN X0 hx (hb hby d1_8) rfl (q := 9) rfl ?_
    refine Go.bipush X0 hx (hb hby d1_9) (r := (26 : Int32)) rfl (q := 11) rfl ?_
    refine Go.icmpYes X0 hx (hb hby d1_11) (by decide) (q := 20) (by decide) (by decide) ?_
    refine Go.iloadN X0 hx (hb hby d1_20) rfl (q := 21) rfl ?_
    refine Go.bipush X0 hx (hb hby d1_21) (r := (52 : Int32)) rfl (q := 23) rfl ?_
    refine Go.icmpNo X0 hx (hb hby d1_23) (by decide) (q := 26) rfl ?_
    refine Go.bipush X0 hx (hb hby d1_26) (r := (97 : Int32)) rfl (q := 28) rfl ?_
    refine Go.iloadN X0 hx (hb hby d1_28) rfl (q := 29) rfl ?_
    refine Go.bipush X0 hx (hb hby d1_29) (r := (26 : Int32)) rfl (q := 31) rfl ?_
    refine Go.isub X0 hx (hb hby d1_31) (r := (19 : Int32)) rfl (q := 32) rfl ?_
    refine Go.iadd X0 hx (hb hby d1_32) (r := (116 : Int32)) rfl (q := 33) rfl ?_
    refine Go.i2c X0 hx (hb hby d1_33) (r := (116 : Int32)) rfl (q := 34) rfl ?_
    exact Go.retI X0 hx hret hlk (by simp) rfl (hb hby d1_34) e0 (by decide) (by decide) ⟨_, rfl, N0, rfl, by decide +kernel⟩
  · show Go pp ee below _ (s₁.setTop (mkF mm 7 #[.val (.int p), .unset] [(.int (46 : Int32))]))
    refine Go.istoreN X0 hx (hb hby d1_7) (l' := #[.val (.int p), .val (.int (46 : Int32))]) rfl (q := 8) rfl ?_
    refine Go.iloadN X0 hx (hb hby d1_8) rfl (q := 9) rfl ?_
    refine Go.bipush X0 hx (hb hby d1_9) (r := (26 : Int32)) rfl (q := 11) rfl ?_
    refine Go.icmpYes X0 hx (hb hby d1_11) (by decide) (q := 20) (by decide) (by decide) ?_
    refine Go.iloadN X0 hx (hb hby d1_20) rfl (q := 21) rfl ?_
    refine Go.bipush X0 hx (hb hby d1_21) (r := (52 : Int32)) rfl (q := 23) rfl ?_
    refine Go.icmpNo X0 hx (hb hby d1_23) (by decide) (q := 26) rfl ?_
    refine Go.bipush X0 hx (hb hby d1_26) (r := (97 : Int32)) rfl (q := 28) rfl ?_
    refine Go.iloadN X0 hx (hb hby d1_28) rfl (q := 29) rfl ?_
    refine Go.bipush X0 hx (hb hby d1_29) (r := (26 : Int32)) rfl (q := 31) rfl ?_
    refine Go.isub X0 hx (hb hby d1_31) (r := (20 : Int32)) rfl (q := 32) rfl ?_
    refine Go.iadd X0 hx (hb hby d1_32) (r := (117 : Int32)) rfl (q := 33) rfl ?_
    refine Go.i2c X0 hx (hb hby d1_33) (r := (117 : Int32)) rfl (q := 34) rfl ?_
    exact Go.retI X0 hx hret hlk (by simp) rfl (hb hby d1_34) e0 (by decide) (by decide) ⟨_, rfl, N0, rfl, by decide +kernel⟩
  · show Go pp ee below _ (s₁.setTop (mkF mm 7 #[.val (.int p), .unset] [(.int (47 : Int32))]))
    refine Go.istoreN X0 hx (hb hby d1_7) (l' := #[.val (.int p), .val (.int (47 : Int32))]) rfl (q := 8) rfl ?_
    refine Go.iloadN X0 hx (hb hby d1_8) rfl (q := 9) rfl ?_
    refine Go.bipush X0 hx (hb hby d1_9) (r := (26 : Int32)) rfl (q := 11) rfl ?_
    refine Go.icmpYes X0 hx (hb hby d1_11) (by decide) (q := 20) (by decide) (by decide) ?_
    refine Go.iloadN X0 hx (hb hby d1_20) rfl (q := 21) rfl ?_
    refine Go.bipush X0 hx (hb hby d1_21) (r := (52 : Int32)) rfl (q := 23) rfl ?_
    refine Go.icmpNo X0 hx (hb hby d1_23) (by decide) (q := 26) rfl ?_
    refine Go.bipush X0 hx (hb hby d1_26) (r := (97 : Int32)) rfl (q := 28) rfl ?_
    refine Go.iloadN X0 hx (hb hby d1_28) rfl (q := 29) rfl ?_
    refine Go.bipush X0 hx (hb hby d1_29) (r := (26 : Int32)) rfl (q := 31) rfl ?_
    refine Go.isub X0 hx (hb hby d1_31) (r := (21 : Int32)) rfl (q := 32) rfl ?_
    refine Go.iadd X0 hx (hb hby d1_32) (r := (118 : Int32)) rfl (q := 33) rfl ?_
    refine Go.i2c X0 hx (hb hby d1_33) (r := (118 : Int32)) rfl (q := 34) rfl ?_
    exact Go.retI X0 hx hret hlk (by simp) rfl (hb hby d1_34) e0 (by decide) (by decide) ⟨_, rfl, N0, rfl, by decide +kernel⟩
  · show Go pp ee below _ (s₁.setTop (mkF mm 7 #[.val (.int p), .unset] [(.int (48 : Int32))]))
    refine Go.istoreN X0 hx (hb hby d1_7) (l' := #[.val (.int p), .val (.int (48 : Int32))]) rfl (q := 8) rfl ?_
    refine Go.iloadN X0 hx (hb hby d1_8) rfl (q := 9) rfl ?_
    refine Go.bipush X0 hx (hb hby d1_9) (r := (26 : Int32)) rfl (q := 11) rfl ?_
    refine Go.icmpYes X0 hx (hb hby d1_11) (by decide) (q := 20) (by decide) (by decide) ?_
    refine Go.iloadN X0 hx (hb hby d1_20) rfl (q := 21) rfl ?_
    refine Go.bipush X0 hx (hb hby d1_21) (r := (52 : Int32)) rfl (q := 23) rfl ?_
    refine Go.icmpNo X0 hx (hb hby d1_23) (by decide) (q := 26) rfl ?_
    refine Go.bipush X0 hx (hb hby d1_26) (r := (97 : Int32)) rfl (q := 28) rfl ?_
    refine Go.iloadN X0 hx (hb hby d1_28) rfl (q := 29) rfl ?_
    refine Go.bipush X0 hx (hb hby d1_29) (r := (26 : Int32)) rfl (q := 31) rfl ?_
    refine Go.isub X0 hx (hb hby d1_31) (r := (22 : Int32)) rfl (q := 32) rfl ?_
    refine Go.iadd X0 hx (hb hby d1_32) (r := (119 : Int32)) rfl (q := 33) rfl ?_
    refine Go.i2c X0 hx (hb hby d1_33) (r := (119 : Int32)) rfl (q := 34) rfl ?_
    exact Go.retI X0 hx hret hlk (by simp) rfl (hb hby d1_34) e0 (by decide) (by decide) ⟨_, rfl, N0, rfl, by decide +kernel⟩
  · show Go pp ee below _ (s₁.setTop (mkF mm 7 #[.val (.int p), .unset] [(.int (49 : Int32))]))
    refine Go.istoreN X0 hx (hb hby d1_7) (l' := #[.val (.int p), .val (.int (49 : Int32))]) rfl (q := 8) rfl ?_
    refine Go.iloadN X0 hx (hb hby d1_8) rfl (q := 9) rfl ?_
    refine Go.bipush X0 hx (hb hby d1_9) (r := (26 : Int32)) rfl (q := 11) rfl ?_
    refine Go.icmpYes X0 hx (hb hby d1_11) (by decide) (q := 20) (by decide) (by decide) ?_
    refine Go.iloadN X0 hx (hb hby d1_20) rfl (q := 21) rfl ?_
    refine Go.bipush X0 hx (hb hby d1_21) (r := (52 : Int32)) rfl (q := 23) rfl ?_
    refine Go.icmpNo X0 hx (hb hby d1_23) (by decide) (q := 26) rfl ?_
    refine Go.bipush X0 hx (hb hby d1_26) (r := (97 : Int32)) rfl (q := 28) rfl ?_
    refine Go.iloadN X0 hx (hb hby d1_28) rfl (q := 29) rfl ?_
    refine Go.bipush X0 hx (hb hby d1_29) (r := (26 : Int32)) rfl (q := 31) rfl ?_
    refine Go.isub X0 hx (hb hby d1_31) (r := (23 : Int32)) rfl (q := 32) rfl ?_
    refine Go.iadd X0 hx (hb hby d1_32) (r := (120 : Int32)) rfl (q := 33) rfl ?_
    refine Go.i2c X0 hx (hb hby d1_33) (r := (120 : Int32)) rfl (q := 34) rfl ?_
    exact Go.retI X0 hx hret hlk (by simp) rfl (hb hby d1_34) e0 (by decide) (by decide) ⟨_, rfl, N0, rfl, by decide +kernel⟩
  · show Go pp ee below _ (s₁.setTop (mkF mm 7 #[.val (.int p), .unset] [(.int (50 : Int32))]))
    refine Go.istoreN X0 hx (hb hby d1_7) (l' := #[.val (.int p), .val (.int (50 : Int32))]) rfl (q := 8) rfl ?_
    refine Go.iloadN X0 hx (hb hby d1_8) rfl (q := 9) rfl ?_
    refine Go.bipush X0 hx (hb hby d1_9) (r := (26 : Int32)) rfl (q := 11) rfl ?_
    refine Go.icmpYes X0 hx (hb hby d1_11) (by decide) (q := 20) (by decide) (by decide) ?_
    refine Go.iloadN X0 hx (hb hby d1_20) rfl (q := 21) rfl ?_
    refine Go.bipush X0 hx (hb hby d1_21) (r := (52 : Int32)) rfl (q := 23) rfl ?_
    refine Go.icmpNo X0 hx (hb hby d1_23) (by decide) (q := 26) rfl ?_
    refine Go.bipush X0 hx (hb hby d1_26) (r := (97 : Int32)) rfl (q := 28) rfl ?_
    refine Go.iloadN X0 hx (hb hby d1_28) rfl (q := 29) rfl ?_
    refine Go.bipush X0 hx (hb hby d1_29) (r := (26 : Int32)) rfl (q := 31) rfl ?_
    refine Go.isub X0 hx (hb hby d1_31) (r := (24 : Int32)) rfl (q := 32) rfl ?_
    refine Go.iadd X0 hx (hb hby d1_32) (r := (121 : Int32)) rfl (q := 33) rfl ?_
    refine Go.i2c X0 hx (hb hby d1_33) (r := (121 : Int32)) rfl (q := 34) rfl ?_
    exact Go.retI X0 hx hret hlk (by simp) rfl (hb hby d1_34) e0 (by decide) (by decide) ⟨_, rfl, N0, rfl, by decide +kernel⟩
  · show Go pp ee below _ (s₁.setTop (mkF mm 7 #[.val (.int p), .unset] [(.int (51 : Int32))]))
    refine Go.istoreN X0 hx (hb hby d1_7) (l' := #[.val (.int p), .val (.int (51 : Int32))]) rfl (q := 8) rfl ?_
    refine Go.iloadN X0 hx (hb hby d1_8) rfl (q := 9) rfl ?_
    refine Go.bipush X0 hx (hb hby d1_9) (r := (26 : Int32)) rfl (q := 11) rfl ?_
    refine Go.icmpYes X0 hx (hb hby d1_11) (by decide) (q := 20) (by decide) (by decide) ?_
    refine Go.iloadN X0 hx (hb hby d1_20) rfl (q := 21) rfl ?_
    refine Go.bipush X0 hx (hb hby d1_21) (r := (52 : Int32)) rfl (q := 23) rfl ?_
    refine Go.icmpNo X0 hx (hb hby d1_23) (by decide) (q := 26) rfl ?_
    refine Go.bipush X0 hx (hb hby d1_26) (r := (97 : Int32)) rfl (q := 28) rfl ?_
    refine Go.iloadN X0 hx (hb hby d1_28) rfl (q := 29) rfl ?_
    refine Go.bipush X0 hx (hb hby d1_29) (r := (26 : Int32)) rfl (q := 31) rfl ?_
    refine Go.isub X0 hx (hb hby d1_31) (r := (25 : Int32)) rfl (q := 32) rfl ?_
    refine Go.iadd X0 hx (hb hby d1_32) (r := (122 : Int32)) rfl (q := 33) rfl ?_
    refine Go.i2c X0 hx (hb hby d1_33) (r := (122 : Int32)) rfl (q := 34) rfl ?_
    exact Go.retI X0 hx hret hlk (by simp) rfl (hb hby d1_34) e0 (by decide) (by decide) ⟨_, rfl, N0, rfl, by decide +kernel⟩
  · show Go pp ee below _ (s₁.setTop (mkF mm 7 #[.val (.int p), .unset] [(.int (52 : Int32))]))
    refine Go.istoreN X0 hx (hb hby d1_7) (l' := #[.val (.int p), .val (.int (52 : Int32))]) rfl (q := 8) rfl ?_
    refine Go.iloadN X0 hx (hb hby d1_8) rfl (q := 9) rfl ?_
    refine Go.bipush X0 hx (hb hby d1_9) (r := (26 : Int32)) rfl (q := 11) rfl ?_
    refine Go.icmpYes X0 hx (hb hby d1_11) (by decide) (q := 20) (by decide) (by decide) ?_
    refine Go.iloadN X0 hx (hb hby d1_20) rfl (q := 21) rfl ?_
    refine Go.bipush X0 hx (hb hby d1_21) (r := (52 : Int32)) rfl (q := 23) rfl ?_
    refine Go.icmpYes X0 hx (hb hby d1_23) (by decide) (q := 35) (by decide) (by decide) ?_
    refine Go.iloadN X0 hx (hb hby d1_35) rfl (q := 36) rfl ?_
    refine Go.bipush X0 hx (hb hby d1_36) (r := (62 : Int32)) rfl (q := 38) rfl ?_
    refine Go.icmpNo X0 hx (hb hby d1_38) (by decide) (q := 41) rfl ?_
    refine Go.bipush X0 hx (hb hby d1_41) (r := (48 : Int32)) rfl (q := 43) rfl ?_
    refine Go.iloadN X0 hx (hb hby d1_43) rfl (q := 44) rfl ?_
    refine Go.bipush X0 hx (hb hby d1_44) (r := (52 : Int32)) rfl (q := 46) rfl ?_
    refine Go.isub X0 hx (hb hby d1_46) (r := (0 : Int32)) rfl (q := 47) rfl ?_
    refine Go.iadd X0 hx (hb hby d1_47) (r := (48 : Int32)) rfl (q := 48) rfl ?_
    refine Go.i2c X0 hx (hb hby d1_48) (r := (48 : Int32)) rfl (q := 49) rfl ?_
    exact Go.retI X0 hx hret hlk (by simp) rfl (hb hby d1_49) e0 (by decide) (by decide) ⟨_, rfl, N0, rfl, by decide +kernel⟩
  · show Go pp ee below _ (s₁.setTop (mkF mm 7 #[.val (.int p), .unset] [(.int (53 : Int32))]))
    refine Go.istoreN X0 hx (hb hby d1_7) (l' := #[.val (.int p), .val (.int (53 : Int32))]) rfl (q := 8) rfl ?_
    refine Go.iloadN X0 hx (hb hby d1_8) rfl (q := 9) rfl ?_
    refine Go.bipush X0 hx (hb hby d1_9) (r := (26 : Int32)) rfl (q := 11) rfl ?_
    refine Go.icmpYes X0 hx (hb hby d1_11) (by decide) (q := 20) (by decide) (by decide) ?_
    refine Go.iloadN X0 hx (hb hby d1_20) rfl (q := 21) rfl ?_
    refine Go.bipush X0 hx (hb hby d1_21) (r := (52 : Int32)) rfl (q := 23) rfl ?_
    refine Go.icmpYes X0 hx (hb hby d1_23) (by decide) (q := 35) (by decide) (by decide) ?_
    refine Go.iloadN X0 hx (hb hby d1_35) rfl (q := 36) rfl ?_
    refine Go.bipush X0 hx (hb hby d1_36) (r := (62 : Int32)) rfl (q := 38) rfl ?_
    refine Go.icmpNo X0 hx (hb hby d1_38) (by decide) (q := 41) rfl ?_
    refine Go.bipush X0 hx (hb hby d1_41) (r := (48 : Int32)) rfl (q := 43) rfl ?_
    refine Go.iloadN X0 hx (hb hby d1_43) rfl (q := 44) rfl ?_
    refine Go.bipush X0 hx (hb hby d1_44) (r := (52 : Int32)) rfl (q := 46) rfl ?_
    refine Go.isub X0 hx (hb hby d1_46) (r := (1 : Int32)) rfl (q := 47) rfl ?_
    refine Go.iadd X0 hx (hb hby d1_47) (r := (49 : Int32)) rfl (q := 48) rfl ?_
    refine Go.i2c X0 hx (hb hby d1_48) (r := (49 : Int32)) rfl (q := 49) rfl ?_
    exact Go.retI X0 hx hret hlk (by simp) rfl (hb hby d1_49) e0 (by decide) (by decide) ⟨_, rfl, N0, rfl, by decide +kernel⟩
  · show Go pp ee below _ (s₁.setTop (mkF mm 7 #[.val (.int p), .unset] [(.int (54 : Int32))]))
    refine Go.istoreN X0 hx (hb hby d1_7) (l' := #[.val (.int p), .val (.int (54 : Int32))]) rfl (q := 8) rfl ?_
    refine Go.iloadN X0 hx (hb hby d1_8) rfl (q := 9) rfl ?_
    refine Go.bipush X0 hx (hb hby d1_9) (r := (26 : Int32)) rfl (q := 11) rfl ?_
    refine Go.icmpYes X0 hx (hb hby d1_11) (by decide) (q := 20) (by decide) (by decide) ?_
    refine Go.iloadN X0 hx (hb hby d1_20) rfl (q := 21) rfl ?_
    refine Go.bipush X0 hx (hb hby d1_21) (r := (52 : Int32)) rfl (q := 23) rfl ?_
    refine Go.icmpYes X0 hx (hb hby d1_23) (by decide) (q := 35) (by decide) (by decide) ?_
    refine Go.iloadN X0 hx (hb hby d1_35) rfl (q := 36) rfl ?_
    refine Go.bipush X0 hx (hb hby d1_36) (r := (62 : Int32)) rfl (q := 38) rfl ?_
    refine Go.icmpNo X0 hx (hb hby d1_38) (by decide) (q := 41) rfl ?_
    refine Go.bipush X0 hx (hb hby d1_41) (r := (48 : Int32)) rfl (q := 43) rfl ?_
    refine Go.iloadN X0 hx (hb hby d1_43) rfl (q := 44) rfl ?_
    refine Go.bipush X0 hx (hb hby d1_44) (r := (52 : Int32)) rfl (q := 46) rfl ?_
    refine Go.isub X0 hx (hb hby d1_46) (r := (2 : Int32)) rfl (q := 47) rfl ?_
    refine Go.iadd X0 hx (hb hby d1_47) (r := (50 : Int32)) rfl (q := 48) rfl ?_
    refine Go.i2c X0 hx (hb hby d1_48) (r := (50 : Int32)) rfl (q := 49) rfl ?_
    exact Go.retI X0 hx hret hlk (by simp) rfl (hb hby d1_49) e0 (by decide) (by decide) ⟨_, rfl, N0, rfl, by decide +kernel⟩
  · show Go pp ee below _ (s₁.setTop (mkF mm 7 #[.val (.int p), .unset] [(.int (55 : Int32))]))
    refine Go.istoreN X0 hx (hb hby d1_7) (l' := #[.val (.int p), .val (.int (55 : Int32))]) rfl (q := 8) rfl ?_
    refine Go.iloadN X0 hx (hb hby d1_8) rfl (q := 9) rfl ?_
    refine Go.bipush X0 hx (hb hby d1_9) (r := (26 : Int32)) rfl (q := 11) rfl ?_
    refine Go.icmpYes X0 hx (hb hby d1_11) (by decide) (q := 20) (by decide) (by decide) ?_
    refine Go.iloadN X0 hx (hb hby d1_20) rfl (q := 21) rfl ?_
    refine Go.bipush X0 hx (hb hby d1_21) (r := (52 : Int32)) rfl (q := 23) rfl ?_
    refine Go.icmpYes X0 hx (hb hby d1_23) (by decide) (q := 35) (by decide) (by decide) ?_
    refine Go.iloadN X0 hx (hb hby d1_35) rfl (q := 36) rfl ?_
    refine Go.bipush X0 hx (hb hby d1_36) (r := (62 : Int32)) rfl (q := 38) rfl ?_
    refine Go.icmpNo X0 hx (hb hby d1_38) (by decide) (q := 41) rfl ?_
    refine Go.bipush X0 hx (hb hby d1_41) (r := (48 : Int32)) rfl (q := 43) rfl ?_
    refine Go.iloadN X0 hx (hb hby d1_43) rfl (q := 44) rfl ?_
    refine Go.bipush X0 hx (hb hby d1_44) (r := (52 : Int32)) rfl (q := 46) rfl ?_
    refine Go.isub X0 hx (hb hby d1_46) (r := (3 : Int32)) rfl (q := 47) rfl ?_
    refine Go.iadd X0 hx (hb hby d1_47) (r := (51 : Int32)) rfl (q := 48) rfl ?_
    refine Go.i2c X0 hx (hb hby d1_48) (r := (51 : Int32)) rfl (q := 49) rfl ?_
    exact Go.retI X0 hx hret hlk (by simp) rfl (hb hby d1_49) e0 (by decide) (by decide) ⟨_, rfl, N0, rfl, by decide +kernel⟩
  · show Go pp ee below _ (s₁.setTop (mkF mm 7 #[.val (.int p), .unset] [(.int (56 : Int32))]))
    refine Go.istoreN X0 hx (hb hby d1_7) (l' := #[.val (.int p), .val (.int (56 : Int32))]) rfl (q := 8) rfl ?_
    refine Go.iloadN X0 hx (hb hby d1_8) rfl (q := 9) rfl ?_
    refine Go.bipush X0 hx (hb hby d1_9) (r := (26 : Int32)) rfl (q := 11) rfl ?_
    refine Go.icmpYes X0 hx (hb hby d1_11) (by decide) (q := 20) (by decide) (by decide) ?_
    refine Go.iloadN X0 hx (hb hby d1_20) rfl (q := 21) rfl ?_
    refine Go.bipush X0 hx (hb hby d1_21) (r := (52 : Int32)) rfl (q := 23) rfl ?_
    refine Go.icmpYes X0 hx (hb hby d1_23) (by decide) (q := 35) (by decide) (by decide) ?_
    refine Go.iloadN X0 hx (hb hby d1_35) rfl (q := 36) rfl ?_
    refine Go.bipush X0 hx (hb hby d1_36) (r := (62 : Int32)) rfl (q := 38) rfl ?_
    refine Go.icmpNo X0 hx (hb hby d1_38) (by decide) (q := 41) rfl ?_
    refine Go.bipush X0 hx (hb hby d1_41) (r := (48 : Int32)) rfl (q := 43) rfl ?_
    refine Go.iloadN X0 hx (hb hby d1_43) rfl (q := 44) rfl ?_
    refine Go.bipush X0 hx (hb hby d1_44) (r := (52 : Int32)) rfl (q := 46) rfl ?_
    refine Go.isub X0 hx (hb hby d1_46) (r := (4 : Int32)) rfl (q := 47) rfl ?_
    refine Go.iadd X0 hx (hb hby d1_47) (r := (52 : Int32)) rfl (q := 48) rfl ?_
    refine Go.i2c X0 hx (hb hby d1_48) (r := (52 : Int32)) rfl (q := 49) rfl ?_
    exact Go.retI X0 hx hret hlk (by simp) rfl (hb hby d1_49) e0 (by decide) (by decide) ⟨_, rfl, N0, rfl, by decide +kernel⟩
  · show Go pp ee below _ (s₁.setTop (mkF mm 7 #[.val (.int p), .unset] [(.int (57 : Int32))]))
    refine Go.istoreN X0 hx (hb hby d1_7) (l' := #[.val (.int p), .val (.int (57 : Int32))]) rfl (q := 8) rfl ?_
    refine Go.iloadN X0 hx (hb hby d1_8) rfl (q := 9) rfl ?_
    refine Go.bipush X0 hx (hb hby d1_9) (r := (26 : Int32)) rfl (q := 11) rfl ?_
    refine Go.icmpYes X0 hx (hb hby d1_11) (by decide) (q := 20) (by decide) (by decide) ?_
    refine Go.iloadN X0 hx (hb hby d1_20) rfl (q := 21) rfl ?_
    refine Go.bipush X0 hx (hb hby d1_21) (r := (52 : Int32)) rfl (q := 23) rfl ?_
    refine Go.icmpYes X0 hx (hb hby d1_23) (by decide) (q := 35) (by decide) (by decide) ?_
    refine Go.iloadN X0 hx (hb hby d1_35) rfl (q := 36) rfl ?_
    refine Go.bipush X0 hx (hb hby d1_36) (r := (62 : Int32)) rfl (q := 38) rfl ?_
    refine Go.icmpNo X0 hx (hb hby d1_38) (by decide) (q := 41) rfl ?_
    refine Go.bipush X0 hx (hb hby d1_41) (r := (48 : Int32)) rfl (q := 43) rfl ?_
    refine Go.iloadN X0 hx (hb hby d1_43) rfl (q := 44) rfl ?_
    refine Go.bipush X0 hx (hb hby d1_44) (r := (52 : Int32)) rfl (q := 46) rfl ?_
    refine Go.isub X0 hx (hb hby d1_46) (r := (5 : Int32)) rfl (q := 47) rfl ?_
    refine Go.iadd X0 hx (hb hby d1_47) (r := (53 : Int32)) rfl (q := 48) rfl ?_
    refine Go.i2c X0 hx (hb hby d1_48) (r := (53 : Int32)) rfl (q := 49) rfl ?_
    exact Go.retI X0 hx hret hlk (by simp) rfl (hb hby d1_49) e0 (by decide) (by decide) ⟨_, rfl, N0, rfl, by decide +kernel⟩
  · show Go pp ee below _ (s₁.setTop (mkF mm 7 #[.val (.int p), .unset] [(.int (58 : Int32))]))
    refine Go.istoreN X0 hx (hb hby d1_7) (l' := #[.val (.int p), .val (.int (58 : Int32))]) rfl (q := 8) rfl ?_
    refine Go.iloadN X0 hx (hb hby d1_8) rfl (q := 9) rfl ?_
    refine Go.bipush X0 hx (hb hby d1_9) (r := (26 : Int32)) rfl (q := 11) rfl ?_
    refine Go.icmpYes X0 hx (hb hby d1_11) (by decide) (q := 20) (by decide) (by decide) ?_
    refine Go.iloadN X0 hx (hb hby d1_20) rfl (q := 21) rfl ?_
    refine Go.bipush X0 hx (hb hby d1_21) (r := (52 : Int32)) rfl (q := 23) rfl ?_
    refine Go.icmpYes X0 hx (hb hby d1_23) (by decide) (q := 35) (by decide) (by decide) ?_
    refine Go.iloadN X0 hx (hb hby d1_35) rfl (q := 36) rfl ?_
    refine Go.bipush X0 hx (hb hby d1_36) (r := (62 : Int32)) rfl (q := 38) rfl ?_
    refine Go.icmpNo X0 hx (hb hby d1_38) (by decide) (q := 41) rfl ?_
    refine Go.bipush X0 hx (hb hby d1_41) (r := (48 : Int32)) rfl (q := 43) rfl ?_
    refine Go.iloadN X0 hx (hb hby d1_43) rfl (q := 44) rfl ?_
    refine Go.bipush X0 hx (hb hby d1_44) (r := (52 : Int32)) rfl (q := 46) rfl ?_
    refine Go.isub X0 hx (hb hby d1_46) (r := (6 : Int32)) rfl (q := 47) rfl ?_
    refine Go.iadd X0 hx (hb hby d1_47) (r := (54 : Int32)) rfl (q := 48) rfl ?_
    refine Go.i2c X0 hx (hb hby d1_48) (r := (54 : Int32)) rfl (q := 49) rfl ?_
    exact Go.retI X0 hx hret hlk (by simp) rfl (hb hby d1_49) e0 (by decide) (by decide) ⟨_, rfl, N0, rfl, by decide +kernel⟩
  · show Go pp ee below _ (s₁.setTop (mkF mm 7 #[.val (.int p), .unset] [(.int (59 : Int32))]))
    refine Go.istoreN X0 hx (hb hby d1_7) (l' := #[.val (.int p), .val (.int (59 : Int32))]) rfl (q := 8) rfl ?_
    refine Go.iloadN X0 hx (hb hby d1_8) rfl (q := 9) rfl ?_
    refine Go.bipush X0 hx (hb hby d1_9) (r := (26 : Int32)) rfl (q := 11) rfl ?_
    refine Go.icmpYes X0 hx (hb hby d1_11) (by decide) (q := 20) (by decide) (by decide) ?_
    refine Go.iloadN X0 hx (hb hby d1_20) rfl (q := 21) rfl ?_
    refine Go.bipush X0 hx (hb hby d1_21) (r := (52 : Int32)) rfl (q := 23) rfl ?_
    refine Go.icmpYes X0 hx (hb hby d1_23) (by decide) (q := 35) (by decide) (by decide) ?_
    refine Go.iloadN X0 hx (hb hby d1_35) rfl (q := 36) rfl ?_
    refine Go.bipush X0 hx (hb hby d1_36) (r := (62 : Int32)) rfl (q := 38) rfl ?_
    refine Go.icmpNo X0 hx (hb hby d1_38) (by decide) (q := 41) rfl ?_
    refine Go.bipush X0 hx (hb hby d1_41) (r := (48 : Int32)) rfl (q := 43) rfl ?_
    refine Go.iloadN X0 hx (hb hby d1_43) rfl (q := 44) rfl ?_
    refine Go.bipush X0 hx (hb hby d1_44) (r := (52 : Int32)) rfl (q := 46) rfl ?_
    refine Go.isub X0 hx (hb hby d1_46) (r := (7 : Int32)) rfl (q := 47) rfl ?_
    refine Go.iadd X0 hx (hb hby d1_47) (r := (55 : Int32)) rfl (q := 48) rfl ?_
    refine Go.i2c X0 hx (hb hby d1_48) (r := (55 : Int32)) rfl (q := 49) rfl ?_
    exact Go.retI X0 hx hret hlk (by simp) rfl (hb hby d1_49) e0 (by decide) (by decide) ⟨_, rfl, N0, rfl, by decide +kernel⟩
  · show Go pp ee below _ (s₁.setTop (mkF mm 7 #[.val (.int p), .unset] [(.int (60 : Int32))]))
    refine Go.istoreN X0 hx (hb hby d1_7) (l' := #[.val (.int p), .val (.int (60 : Int32))]) rfl (q := 8) rfl ?_
    refine Go.iloadN X0 hx (hb hby d1_8) rfl (q := 9) rfl ?_
    refine Go.bipush X0 hx (hb hby d1_9) (r := (26 : Int32)) rfl (q := 11) rfl ?_
    refine Go.icmpYes X0 hx (hb hby d1_11) (by decide) (q := 20) (by decide) (by decide) ?_
    refine Go.iloadN X0 hx (hb hby d1_20) rfl (q := 21) rfl ?_
    refine Go.bipush X0 hx (hb hby d1_21) (r := (52 : Int32)) rfl (q := 23) rfl ?_
    refine Go.icmpYes X0 hx (hb hby d1_23) (by decide) (q := 35) (by decide) (by decide) ?_
    refine Go.iloadN X0 hx (hb hby d1_35) rfl (q := 36) rfl ?_
    refine Go.bipush X0 hx (hb hby d1_36) (r := (62 : Int32)) rfl (q := 38) rfl ?_
    refine Go.icmpNo X0 hx (hb hby d1_38) (by decide) (q := 41) rfl ?_
    refine Go.bipush X0 hx (hb hby d1_41) (r := (48 : Int32)) rfl (q := 43) rfl ?_
    refine Go.iloadN X0 hx (hb hby d1_43) rfl (q := 44) rfl ?_
    refine Go.bipush X0 hx (hb hby d1_44) (r := (52 : Int32)) rfl (q := 46) rfl ?_
    refine Go.isub X0 hx (hb hby d1_46) (r := (8 : Int32)) rfl (q := 47) rfl ?_
    refine Go.iadd X0 hx (hb hby d1_47) (r := (56 : Int32)) rfl (q := 48) rfl ?_
    refine Go.i2c X0 hx (hb hby d1_48) (r := (56 : Int32)) rfl (q := 49) rfl ?_
    exact Go.retI X0 hx hret hlk (by simp) rfl (hb hby d1_49) e0 (by decide) (by decide) ⟨_, rfl, N0, rfl, by decide +kernel⟩
  · show Go pp ee below _ (s₁.setTop (mkF mm 7 #[.val (.int p), .unset] [(.int (61 : Int32))]))
    refine Go.istoreN X0 hx (hb hby d1_7) (l' := #[.val (.int p), .val (.int (61 : Int32))]) rfl (q := 8) rfl ?_
    refine Go.iloadN X0 hx (hb hby d1_8) rfl (q := 9) rfl ?_
    refine Go.bipush X0 hx (hb hby d1_9) (r := (26 : Int32)) rfl (q := 11) rfl ?_
    refine Go.icmpYes X0 hx (hb hby d1_11) (by decide) (q := 20) (by decide) (by decide) ?_
    refine Go.iloadN X0 hx (hb hby d1_20) rfl (q := 21) rfl ?_
    refine Go.bipush X0 hx (hb hby d1_21) (r := (52 : Int32)) rfl (q := 23) rfl ?_
    refine Go.icmpYes X0 hx (hb hby d1_23) (by decide) (q := 35) (by decide) (by decide) ?_
    refine Go.iloadN X0 hx (hb hby d1_35) rfl (q := 36) rfl ?_
    refine Go.bipush X0 hx (hb hby d1_36) (r := (62 : Int32)) rfl (q := 38) rfl ?_
    refine Go.icmpNo X0 hx (hb hby d1_38) (by decide) (q := 41) rfl ?_
    refine Go.bipush X0 hx (hb hby d1_41) (r := (48 : Int32)) rfl (q := 43) rfl ?_
    refine Go.iloadN X0 hx (hb hby d1_43) rfl (q := 44) rfl ?_
    refine Go.bipush X0 hx (hb hby d1_44) (r := (52 : Int32)) rfl (q := 46) rfl ?_
    refine Go.isub X0 hx (hb hby d1_46) (r := (9 : Int32)) rfl (q := 47) rfl ?_
    refine Go.iadd X0 hx (hb hby d1_47) (r := (57 : Int32)) rfl (q := 48) rfl ?_
    refine Go.i2c X0 hx (hb hby d1_48) (r := (57 : Int32)) rfl (q := 49) rfl ?_
    exact Go.retI X0 hx hret hlk (by simp) rfl (hb hby d1_49) e0 (by decide) (by decide) ⟨_, rfl, N0, rfl, by decide +kernel⟩
  · show Go pp ee below _ (s₁.setTop (mkF mm 7 #[.val (.int p), .unset] [(.int (62 : Int32))]))
    refine Go.istoreN X0 hx (hb hby d1_7) (l' := #[.val (.int p), .val (.int (62 : Int32))]) rfl (q := 8) rfl ?_
    refine Go.iloadN X0 hx (hb hby d1_8) rfl (q := 9) rfl ?_
    refine Go.bipush X0 hx (hb hby d1_9) (r := (26 : Int32)) rfl (q := 11) rfl ?_
    refine Go.icmpYes X0 hx (hb hby d1_11) (by decide) (q := 20) (by decide) (by decide) ?_
    refine Go.iloadN X0 hx (hb hby d1_20) rfl (q := 21) rfl ?_
    refine Go.bipush X0 hx (hb hby d1_21) (r := (52 : Int32)) rfl (q := 23) rfl ?_
    refine Go.icmpYes X0 hx (hb hby d1_23) (by decide) (q := 35) (by decide) (by decide) ?_
    refine Go.iloadN X0 hx (hb hby d1_35) rfl (q := 36) rfl ?_
    refine Go.bipush X0 hx (hb hby d1_36) (r := (62 : Int32)) rfl (q := 38) rfl ?_
    refine Go.icmpYes X0 hx (hb hby d1_38) (by decide) (q := 50) (by decide) (by decide) ?_
    refine Go.iloadN X0 hx (hb hby d1_50) rfl (q := 51) rfl ?_
    refine Go.bipush X0 hx (hb hby d1_51) (r := (62 : Int32)) rfl (q := 53) rfl ?_
    refine Go.icmpNo X0 hx (hb hby d1_53) (by decide) (q := 56) rfl ?_
    refine Go.bipush X0 hx (hb hby d1_56) (r := (46 : Int32)) rfl (q := 58) rfl ?_
    exact Go.retI X0 hx hret hlk (by simp) rfl (hb hby d1_58) e0 (by decide) (by decide) ⟨_, rfl, N0, rfl, by decide +kernel⟩
  · show Go pp ee below _ (s₁.setTop (mkF mm 7 #[.val (.int p), .unset] [(.int (63 : Int32))]))
    refine Go.istoreN X0 hx (hb hby d1_7) (l' := #[.val (.int p), .val (.int (63 : Int32))]) rfl (q := 8) rfl ?_
    refine Go.iloadN X0 hx (hb hby d1_8) rfl (q := 9) rfl ?_
    refine Go.bipush X0 hx (hb hby d1_9) (r := (26 : Int32)) rfl (q := 11) rfl ?_
    refine Go.icmpYes X0 hx (hb hby d1_11) (by decide) (q := 20) (by decide) (by decide) ?_
    refine Go.iloadN X0 hx (hb hby d1_20) rfl (q := 21) rfl ?_
    refine Go.bipush X0 hx (hb hby d1_21) (r := (52 : Int32)) rfl (q := 23) rfl ?_
    refine Go.icmpYes X0 hx (hb hby d1_23) (by decide) (q := 35) (by decide) (by decide) ?_
    refine Go.iloadN X0 hx (hb hby d1_35) rfl (q := 36) rfl ?_
    refine Go.bipush X0 hx (hb hby d1_36) (r := (62 : Int32)) rfl (q := 38) rfl ?_
    refine Go.icmpYes X0 hx (hb hby d1_38) (by decide) (q := 50) (by decide) (by decide) ?_
    refine Go.iloadN X0 hx (hb hby d1_50) rfl (q := 51) rfl ?_
    refine Go.bipush X0 hx (hb hby d1_51) (r := (62 : Int32)) rfl (q := 53) rfl ?_
    refine Go.icmpYes X0 hx (hb hby d1_53) (by decide) (q := 59) (by decide) (by decide) ?_
    refine Go.iloadN X0 hx (hb hby d1_59) rfl (q := 60) rfl ?_
    refine Go.bipush X0 hx (hb hby d1_60) (r := (63 : Int32)) rfl (q := 62) rfl ?_
    refine Go.icmpNo X0 hx (hb hby d1_62) (by decide) (q := 65) rfl ?_
    refine Go.bipush X0 hx (hb hby d1_65) (r := (95 : Int32)) rfl (q := 67) rfl ?_
    exact Go.retI X0 hx hret hlk (by simp) rfl (hb hby d1_67) e0 (by decide) (by decide) ⟨_, rfl, N0, rfl, by decide +kernel⟩
  · show Go pp ee below _ (s₁.setTop (mkF mm 7 #[.val (.int p), .unset] [(.int (64 : Int32))]))
    refine Go.istoreN X0 hx (hb hby d1_7) (l' := #[.val (.int p), .val (.int (64 : Int32))]) rfl (q := 8) rfl ?_
    refine Go.iloadN X0 hx (hb hby d1_8) rfl (q := 9) rfl ?_
    refine Go.bipush X0 hx (hb hby d1_9) (r := (26 : Int32)) rfl (q := 11) rfl ?_
    refine Go.icmpYes X0 hx (hb hby d1_11) (by decide) (q := 20) (by decide) (by decide) ?_
    refine Go.iloadN X0 hx (hb hby d1_20) rfl (q := 21) rfl ?_
    refine Go.bipush X0 hx (hb hby d1_21) (r := (52 : Int32)) rfl (q := 23) rfl ?_
    refine Go.icmpYes X0 hx (hb hby d1_23) (by decide) (q := 35) (by decide) (by decide) ?_
    refine Go.iloadN X0 hx (hb hby d1_35) rfl (q := 36) rfl ?_
    refine Go.bipush X0 hx (hb hby d1_36) (r := (62 : Int32)) rfl (q := 38) rfl ?_
    refine Go.icmpYes X0 hx (hb hby d1_38) (by decide) (q := 50) (by decide) (by decide) ?_
    refine Go.iloadN X0 hx (hb hby d1_50) rfl (q := 51) rfl ?_
    refine Go.bipush X0 hx (hb hby d1_51) (r := (62 : Int32)) rfl (q := 53) rfl ?_
    refine Go.icmpYes X0 hx (hb hby d1_53) (by decide) (q := 59) (by decide) (by decide) ?_
    refine Go.iloadN X0 hx (hb hby d1_59) rfl (q := 60) rfl ?_
    refine Go.bipush X0 hx (hb hby d1_60) (r := (63 : Int32)) rfl (q := 62) rfl ?_
    refine Go.icmpYes X0 hx (hb hby d1_62) (by decide) (q := 68) (by decide) (by decide) ?_
    refine Go.bipush X0 hx (hb hby d1_68) (r := (45 : Int32)) rfl (q := 70) rfl ?_
    exact Go.retI X0 hx hret hlk (by simp) rfl (hb hby d1_70) e0 (by decide) (by decide) ⟨_, rfl, N0, rfl, by decide +kernel⟩
def Q_ccmp1 (Z : State) (a : Addr) (b : Addr) (ka : ClassId) (kb : ClassId) (c0 : Int32) (h0 : Heap) (vR : Option Value) (hR : Heap) (LR : List Loc) : Prop := vR = some (.int (1 : Int32)) ∧ Fr Z.heap.size LR ∧ Keep h0 hR [b] ∧ Arv Z hR b kb .byte (1 : Int32) [(.int c0)] (.int (0 : Int32))
set_option maxRecDepth 65536 in
set_option maxHeartbeats 40000000 in
theorem ccmp1 (l : Launch) (Z : State) (a0 : Array Value) (hw : ∀ d ∈ tables_1, d.before a0 Z = true) (a : Addr) (b : Addr) (ka : ClassId) (kb : ClassId) (c0 : Int32) (h0 : Heap) (O0 : Ext Z.heap h0) (Va : Arv Z h0 a ka .char (1 : Int32) [(.int c0)] (.int (0 : Int32))) (Vb : Arv Z h0 b kb .byte (1 : Int32) [(.int (0 : Int32))] (.int (0 : Int32))) (g : Z.heap.size ≤ b) (ne : a ≠ b) (hc0 : c0 ∈ ownL) :
    Ctr l Z h0 (⟨"java/lang/StringUTF16", "compress", "([CI[BII)I"⟩ : MethodName) jdk_52_method_21_code 7 (some .int) [] ({ frames := 0, cells := 0, slots := 0, locals := 0 } : Room) #[(.ref a), (.int (0 : Int32)), (.ref b), (.int (0 : Int32)), (.int (1 : Int32))] (Q_ccmp1 Z a b ka kb c0 h0) := by
  refine enter (plainFor_of_name pn1) ?_
  intro pp ee ss mm below meth cc s₁ hx hby hml hZ hown hnm hret hlk X0 e0 hs0
  replace hown : ss.vm.findClass "java/lang/StringUTF16" = some mm.cls := hown
  refine Go.cast (congrArg s₁.setTop (ef_ccmp1 mm a b)) ?_
  have N0 := Fr.nil Z.heap.size
  have KP := Keep.refl h0 [b]
  show Go pp ee below _ (s₁.setTop (mkF mm 0 #[.val (.ref a), .val (.int (0 : Int32)), .val (.ref b), .val (.int (0 : Int32)), .val (.int (1 : Int32)), .unset, .unset] []))
  have hk101 : (c0.toInt8.toInt32) = c0 := own_b _ hc0
  have hk102 : nar .char c0 = c0 := own_nar _ hc0
  have hk103 : (c0 &&& (255 : Int32)) = c0 := own_a _ hc0
  have hk104 : ¬ ((255 : Int32) < c0) := own_255 _ hc0
  refine Go.iconst X0 hx (hb hby d7_0) (r := (0 : Int32)) rfl (q := 1) rfl ?_
  refine Go.istore X0 hx (hb hby d7_1) (l' := #[.val (.ref a), .val (.int (0 : Int32)), .val (.ref b), .val (.int (0 : Int32)), .val (.int (1 : Int32)), .val (.int (0 : Int32)), .unset]) rfl (q := 3) rfl ?_
  refine Go.iload X0 hx (hb hby d7_3) rfl (q := 5) rfl ?_
  refine Go.iload X0 hx (hb hby d7_5) rfl (q := 7) rfl ?_
  refine Go.icmpNo X0 hx (hb hby d7_7) (by decide) (q := 10) rfl ?_
  refine Go.aloadN X0 hx (hb hby d7_10) rfl rfl (q := 11) rfl ?_
  refine Go.iloadN X0 hx (hb hby d7_11) rfl (q := 12) rfl ?_
  refine Go.cal X0 hx hZ e0 Va ⟨by decide, by decide⟩ (v := (.int c0)) rfl (hb hby d7_12) ?_
  refine Go.istore X0 hx (hb hby d7_13) (l' := #[.val (.ref a), .val (.int (0 : Int32)), .val (.ref b), .val (.int (0 : Int32)), .val (.int (1 : Int32)), .val (.int (0 : Int32)), .val (.int c0)]) rfl (q := 15) rfl ?_
  refine Go.iload X0 hx (hb hby d7_15) rfl (q := 17) rfl ?_
  refine Go.sipush X0 hx (hb hby d7_17) (r := (255 : Int32)) rfl (q := 20) rfl ?_
  refine Go.icmpYes X0 hx (hb hby d7_20) (Jvm.Free.XT.ii_le_t hk104) (q := 26) (by decide) (by decide) ?_
  refine Go.aloadN X0 hx (hb hby d7_26) rfl rfl (q := 27) rfl ?_
  refine Go.iloadN X0 hx (hb hby d7_27) rfl (q := 28) rfl ?_
  refine Go.iload X0 hx (hb hby d7_28) rfl (q := 30) rfl ?_
  refine Go.i2b X0 hx (hb hby d7_30) rfl (q := 31) rfl ?_
  rw [hk101]
  show Go pp ee below _ (s₁.setTop (mkF mm 31 #[.val (.ref a), .val (.int (0 : Int32)), .val (.ref b), .val (.int (0 : Int32)), .val (.int (1 : Int32)), .val (.int (0 : Int32)), .val (.int c0)] [(.int c0), (.int (0 : Int32)), (.ref b)]))
  refine Go.bst X0 hx hZ e0 Vb ⟨by decide, by decide⟩ (i := 0) rfl (Nat.le_of_ble_eq_true rfl) (hb hby d7_31) ?_
  intro T105 h105 X105 e105 W105 V105
  rw [hk101] at V105
  replace V105 : Arv Z h105 b kb .byte (1 : Int32) [(.int c0)] (.int (0 : Int32)) := V105
  have N105 := Fr.snoc X105 N0 g
  replace Va := Va.other W105 ne
  have OW105 := ext_wr O0 W105 g
  replace KP := KP.wr W105 (Or.inl (List.mem_of_getElem? (i := 0) rfl))
  refine Go.iinc X105 hx (hb hby d7_32) rfl (r := (1 : Int32)) rfl (l' := #[.val (.ref a), .val (.int (1 : Int32)), .val (.ref b), .val (.int (0 : Int32)), .val (.int (1 : Int32)), .val (.int (0 : Int32)), .val (.int c0)]) rfl (q := 35) rfl ?_
  refine Go.iinc X105 hx (hb hby d7_35) rfl (r := (1 : Int32)) rfl (l' := #[.val (.ref a), .val (.int (1 : Int32)), .val (.ref b), .val (.int (1 : Int32)), .val (.int (1 : Int32)), .val (.int (0 : Int32)), .val (.int c0)]) rfl (q := 38) rfl ?_
  refine Go.iinc X105 hx (hb hby d7_38) rfl (r := (1 : Int32)) rfl (l' := #[.val (.ref a), .val (.int (1 : Int32)), .val (.ref b), .val (.int (1 : Int32)), .val (.int (1 : Int32)), .val (.int (1 : Int32)), .val (.int c0)]) rfl (q := 41) rfl ?_
  refine Go.goto X105 hx (hb hby d7_41) (q := 3) (by decide) (by decide) ?_
  refine Go.iload X105 hx (hb hby d7_3) rfl (q := 5) rfl ?_
  refine Go.iload X105 hx (hb hby d7_5) rfl (q := 7) rfl ?_
  refine Go.icmpYes X105 hx (hb hby d7_7) (by decide) (q := 44) (by decide) (by decide) ?_
  refine Go.iload X105 hx (hb hby d7_44) rfl (q := 46) rfl ?_
  exact Go.retI X105 hx hret hlk (Or.inl rfl) rfl (hb hby d7_46) e105 (by decide) (by decide) ⟨rfl, N105, KP, V105⟩
def Q_ccmq1 (Z : State) (a : Addr) (ka : ClassId) (c0 : Int32) (h0 : Heap) (vR : Option Value) (hR : Heap) (LR : List Loc) : Prop := ∃ b : Addr, ∃ kb : ClassId, vR = some (.ref b) ∧ Fr Z.heap.size LR ∧ Keep h0 hR [] ∧ h0.size ≤ b ∧ Arv Z hR b kb .byte (1 : Int32) [(.int c0)] (.int (0 : Int32))
set_option maxRecDepth 65536 in
set_option maxHeartbeats 40000000 in
theorem ccmq1 (l : Launch) (Z : State) (a0 : Array Value) (hw : ∀ d ∈ tables_1, d.before a0 Z = true) (a : Addr) (ka : ClassId) (c0 : Int32) (h0 : Heap) (O0 : Ext Z.heap h0) (Va : Arv Z h0 a ka .char (1 : Int32) [(.int c0)] (.int (0 : Int32))) (hc0 : c0 ∈ ownL) :
    Ctr l Z h0 (⟨"java/lang/StringUTF16", "compress", "([CII)[B"⟩ : MethodName) jdk_52_method_16_code 6 (some (.array .byte)) [] ({ frames := 1, cells := 1, slots := 1, locals := 18 } : Room) #[(.ref a), (.int (0 : Int32)), (.int (1 : Int32))] (Q_ccmq1 Z a ka c0 h0) := by
  refine enter (plainFor_of_name pn1) ?_
  intro pp ee ss mm below meth cc s₁ hx hby hml hZ hown hnm hret hlk X0 e0 hs0
  replace hown : ss.vm.findClass "java/lang/StringUTF16" = some mm.cls := hown
  refine Go.cast (congrArg s₁.setTop (ef_ccmq1 mm a)) ?_
  have N0 := Fr.nil Z.heap.size
  have KP := Keep.refl h0 []
  show Go pp ee below _ (s₁.setTop (mkF mm 0 #[.val (.ref a), .val (.int (0 : Int32)), .val (.int (1 : Int32)), .unset, .unset, .unset] []))
  refine Go.iloadN X0 hx (hb hby d6_0) rfl (q := 1) rfl ?_
  refine Go.newP X0 hx hZ (hb hby d6_1) (wd27 hw) e0 (by decide) (cap := 1) (by decide) (by decide) (by decide) (by decide) (ad := "[B") rfl (q := 3) rfl ?_
  intro b101 T101 h101 k101 X101 e101 q101 E101 V101 B101
  have ne_a_b101 : a ≠ b101 := ne_new Va.lt (Nat.le_of_eq q101)
  have g_b101 : Z.heap.size ≤ b101 := Nat.le_trans O0.1 (Nat.le_of_eq q101)
  have z_b101 : h0.size ≤ b101 := Nat.le_trans KP.1 (Nat.le_of_eq q101)
  replace Va := Va.ext E101
  have OE101 := ext_trans O0 E101
  replace KP := KP.ext E101
  replace V101 : Arv Z h101 b101 k101 .byte (1 : Int32) [(.int (0 : Int32))] (.int (0 : Int32)) := V101.pad (pad_rep [] (.int (0 : Int32)) 1)
  refine Go.astoreN X101 hx (hb hby d6_3) rfl (l' := #[.val (.ref a), .val (.int (0 : Int32)), .val (.int (1 : Int32)), .val (.ref b101), .unset, .unset]) rfl (q := 4) rfl ?_
  refine Go.aloadN X101 hx (hb hby d6_4) rfl rfl (q := 5) rfl ?_
  refine Go.iloadN X101 hx (hb hby d6_5) rfl (q := 6) rfl ?_
  refine Go.aloadN X101 hx (hb hby d6_6) rfl rfl (q := 7) rfl ?_
  refine Go.iconst X101 hx (hb hby d6_7) (r := (0 : Int32)) rfl (q := 8) rfl ?_
  refine Go.iloadN X101 hx (hb hby d6_8) rfl (q := 9) rfl ?_
  refine Go.callS X101 hx hZ hown (wd28 hw) (wd29 hw) (wd25 hw) (wd30 hw) (by decide) (ccmp1 l Z a0 hw a b101 (ka) (k101) c0 h101 OE101 Va V101 g_b101 ne_a_b101 hc0) e101 (by rw [hml]; rfl) (hb hby d6_9) (argsL := [(.ref a), (.int (0 : Int32)), (.ref b101), (.int (0 : Int32)), (.int (1 : Int32))]) (rest := []) (lenOf pd0 rfl) rfl rfl (W := 0) (by first | exact Nat.le_refl _ | decide) (by decide) (by decide) (by decide) (by decide) ?_
  intro v102 T102 L102 X102 hQ102
  obtain ⟨h102, e102⟩ : ∃ z, T102.heap = z := ⟨_, rfl⟩
  rw [e102] at hQ102
  obtain ⟨rfl, N102q, K102, P102_0⟩ := hQ102
  have N102 := Fr.app N0 N102q
  replace Va := Va.keep K102 (ninS ne_a_b101 nin0)
  replace B101 := B101.keep K102
  have OK102 := ext_keep OE101 K102 (allS g_b101 all0)
  replace KP := KP.trans K102 (allS (Or.inr z_b101) all0)
  refine Go.istore X102 hx (hb hby d6_12) (l' := #[.val (.ref a), .val (.int (0 : Int32)), .val (.int (1 : Int32)), .val (.ref b101), .val (.int (1 : Int32)), .unset]) rfl (q := 14) rfl ?_
  refine Go.iload X102 hx (hb hby d6_14) rfl (q := 16) rfl ?_
  refine Go.iloadN X102 hx (hb hby d6_16) rfl (q := 17) rfl ?_
  refine Go.icmpYes X102 hx (hb hby d6_17) (by decide) (q := 57) (by decide) (by decide) ?_
  refine Go.aloadN X102 hx (hb hby d6_57) rfl rfl (q := 58) rfl ?_
  exact Go.retA X102 hx hret hlk rfl rfl (hb hby d6_58) e102 (by decide) (by decide) ⟨b101, k101, rfl, N102, KP, z_b101, P102_0⟩
def Q_ccal1 (Z : State) (b : Addr) (kb : ClassId) (c0 : Int32) (h0 : Heap) (vR : Option Value) (hR : Heap) (LR : List Loc) : Prop := vR = some (.int (0 : Int32)) ∧ Fr Z.heap.size LR ∧ hR = h0
set_option maxRecDepth 65536 in
set_option maxHeartbeats 40000000 in
theorem ccal1 (l : Launch) (Z : State) (a0 : Array Value) (hw : ∀ d ∈ tables_1, d.before a0 Z = true) (b : Addr) (kb : ClassId) (c0 : Int32) (h0 : Heap) (O0 : Ext Z.heap h0) (Vb : Arv Z h0 b kb .byte (1 : Int32) [(.int c0)] (.int (0 : Int32))) :
    Ctr l Z h0 (⟨"java/lang/StringUTF16", "coderFromArrayLen", "([BI)B"⟩ : MethodName) jdk_52_method_15_code 2 (some .byte) [] ({ frames := 0, cells := 0, slots := 0, locals := 0 } : Room) #[(.ref b), (.int (1 : Int32))] (Q_ccal1 Z b kb c0 h0) := by
  refine enter (plainFor_of_name pn1) ?_
  intro pp ee ss mm below meth cc s₁ hx hby hml hZ hown hnm hret hlk X0 e0 hs0
  replace hown : ss.vm.findClass "java/lang/StringUTF16" = some mm.cls := hown
  refine Go.cast (congrArg s₁.setTop (ef_ccal1 mm b)) ?_
  have N0 := Fr.nil Z.heap.size
  show Go pp ee below _ (s₁.setTop (mkF mm 0 #[.val (.ref b), .val (.int (1 : Int32))] []))
  refine Go.iloadN X0 hx (hb hby d8_0) rfl (q := 1) rfl ?_
  refine Go.aloadN X0 hx (hb hby d8_1) rfl rfl (q := 2) rfl ?_
  refine Go.alen X0 hx hZ e0 Vb (hb hby d8_2) ?_
  refine Go.isub X0 hx (hb hby d8_3) (r := (0 : Int32)) rfl (q := 4) rfl ?_
  refine Go.bipush X0 hx (hb hby d8_4) (r := (31 : Int32)) rfl (q := 6) rfl ?_
  refine Go.iushr X0 hx (hb hby d8_6) (r := (0 : Int32)) rfl (q := 7) rfl ?_
  refine Go.i2b X0 hx (hb hby d8_7) (r := (0 : Int32)) rfl (q := 8) rfl ?_
  exact Go.retI X0 hx hret hlk (by simp) rfl (hb hby d8_8) e0 (by decide) (by decide) ⟨rfl, N0, rfl⟩
def Q_csi1 (Z : State) (o : Addr) (a : Addr) (cs : Int32) (ka : ClassId) (c0 : Int32) (h0 : Heap) (vR : Option Value) (hR : Heap) (LR : List Loc) : Prop := ∃ b : Addr, ∃ kb : ClassId, vR = none ∧ Fr Z.heap.size LR ∧ Keep h0 hR [o] ∧ h0.size ≤ b ∧ Fld Z hR o "java/lang/String" "value" "[B" (.ref b) ∧ Fld Z hR o "java/lang/String" "coder" "B" (.int (0 : Int32)) ∧ Arv Z hR b kb .byte (1 : Int32) [(.int c0)] (.int (0 : Int32))
set_option maxRecDepth 65536 in
set_option maxHeartbeats 40000000 in
theorem csi1 (l : Launch) (Z : State) (a0 : Array Value) (hw : ∀ d ∈ tables_1, d.before a0 Z = true) (o : Addr) (a : Addr) (cs : Int32) (ka : ClassId) (c0 : Int32) (h0 : Heap) (O0 : Ext Z.heap h0) (Eo : Exa Z h0 o "java/lang/String") (Fv : Fld Z h0 o "java/lang/String" "value" "[B" .null) (Fc : Fld Z h0 o "java/lang/String" "coder" "B" (.int (0 : Int32))) (g : Z.heap.size ≤ o) (Va : Arv Z h0 a ka .char (1 : Int32) [(.int c0)] (.int (0 : Int32))) (SCS : Sta Z Z.heap "java/lang/String" "COMPACT_STRINGS" "Z" (.int cs)) (hcs : ¬ (cs = (0 : Int32))) (hc0 : c0 ∈ ownL) :
    Ctr l Z h0 (⟨"java/lang/String", "<init>", "([CIILjava/lang/Void;)V"⟩ : MethodName) jdk_42_method_149_code 6 none [] ({ frames := 2, cells := 1, slots := 1, locals := 35 } : Room) #[(.ref o), (.ref a), (.int (0 : Int32)), (.int (1 : Int32)), .null] (Q_csi1 Z o a cs ka c0 h0) := by
  refine enter (plainFor_of_name pn2) ?_
  intro pp ee ss mm below meth cc s₁ hx hby hml hZ hown hnm hret hlk X0 e0 hs0
  replace hown : ss.vm.findClass "java/lang/String" = some mm.cls := hown
  refine Go.cast (congrArg s₁.setTop (ef_csi1 mm o a)) ?_
  have N0 := Fr.nil Z.heap.size
  have KP := Keep.refl h0 [o]
  show Go pp ee below _ (s₁.setTop (mkF mm 0 #[.val (.ref o), .val (.ref a), .val (.int (0 : Int32)), .val (.int (1 : Int32)), .val .null, .unset] []))
  refine Go.aloadN X0 hx (hb hby d4_0) rfl rfl (q := 1) rfl ?_
  refine Go.initO X0 hx hZ hown (wd19 hw) (wd20 hw) (wd21 hw) e0 (by rw [hml]; rfl) (hb hby d4_1) (by decide) (W := 0) (by exact Nat.le_refl _) (by decide) (q := 4) rfl ?_
  intro T101 X101 e101
  refine Go.iloadN X101 hx (hb hby d4_4) rfl (q := 5) rfl ?_
  refine Go.ifYes X101 hx (hb hby d4_5) (by decide) (q := 27) (by decide) (by decide) ?_
  refine Go.getS X101 hx hZ hown (host := "") (Or.inl (wd22 hw)) Via.refl e101 (SCS.ext O0) (hb hby d4_27) (q := 30) rfl ?_
  intro T102 X102 e102
  refine Go.ifNo X102 hx (hb hby d4_30) (Jvm.Free.XT.i0_eq_f hcs) (q := 33) rfl ?_
  refine Go.aloadN X102 hx (hb hby d4_33) rfl rfl (q := 34) rfl ?_
  refine Go.iloadN X102 hx (hb hby d4_34) rfl (q := 35) rfl ?_
  refine Go.iloadN X102 hx (hb hby d4_35) rfl (q := 36) rfl ?_
  refine Go.callS X102 hx hZ hown (wd23 hw) (wd24 hw) (wd25 hw) (wd26 hw) (by decide) (ccmq1 l Z a0 hw a (ka) c0 h0 O0 Va hc0) e102 (by rw [hml]; rfl) (hb hby d4_36) (argsL := [(.ref a), (.int (0 : Int32)), (.int (1 : Int32))]) (rest := []) (lenOf pd1 rfl) rfl rfl (W := 0) (by first | exact Nat.le_refl _ | decide) (by decide) (by decide) (by decide) (by decide) ?_
  intro v103 T103 L103 X103 hQ103
  obtain ⟨h103, e103⟩ : ∃ z, T103.heap = z := ⟨_, rfl⟩
  rw [e103] at hQ103
  obtain ⟨b_103, kb_103, rfl, N103q, K103, fr103_b, P103_0⟩ := hQ103
  have N103 := Fr.app N0 N103q
  have ne_o_b_103 : o ≠ b_103 := ne_new Eo.lt fr103_b
  have ne_a_b_103 : a ≠ b_103 := ne_new Va.lt fr103_b
  have g_b_103 : Z.heap.size ≤ b_103 := Nat.le_trans O0.1 fr103_b
  have z_b_103 : h0.size ≤ b_103 := Nat.le_trans KP.1 fr103_b
  replace Eo := Eo.keep K103
  replace Fv := Fv.keep K103 nin0
  replace Fc := Fc.keep K103 nin0
  replace Va := Va.keep K103 nin0
  have OK103 := ext_keep O0 K103 all0
  replace KP := KP.trans K103 all0
  refine Go.astore X103 hx (hb hby d4_39) rfl (l' := #[.val (.ref o), .val (.ref a), .val (.int (0 : Int32)), .val (.int (1 : Int32)), .val .null, .val (.ref b_103)]) rfl (q := 41) rfl ?_
  refine Go.aloadN X103 hx (hb hby d4_41) rfl rfl (q := 42) rfl ?_
  refine Go.aload X103 hx (hb hby d4_42) rfl rfl (q := 44) rfl ?_
  refine Go.iloadN X103 hx (hb hby d4_44) rfl (q := 45) rfl ?_
  refine Go.callS X103 hx hZ hown (wd31 hw) (wd32 hw) (wd25 hw) (wd33 hw) (by decide) (ccal1 l Z a0 hw b_103 (kb_103) c0 h103 OK103 P103_0) e103 (by rw [hml]; rfl) (hb hby d4_45) (argsL := [(.ref b_103), (.int (1 : Int32))]) (rest := [(.ref o)]) (lenOf pd2 rfl) rfl rfl (W := 1) (by first | exact Nat.le_refl _ | decide) (by decide) (by decide) (by decide) (by decide) ?_
  intro v104 T104 L104 X104 hQ104
  obtain ⟨rfl, N104q, e104⟩ := hQ104
  have N104 := Fr.app N103 N104q
  refine Go.putF X104 hx hZ hown (host := "") (Or.inl (wd34 hw)) Via.refl e104 Fc Eo (Or.inr ⟨(wd35 hw), rfl, hnm⟩) (wd9 hw) (ty := .byte) (by decide) rfl rfl (hb hby d4_48) (q := 51) rfl ?_
  intro T105 h105 X105 e105 W105 F105
  have N105 := Fr.snoc X105 N104 g
  replace Eo := Eo.wr W105
  replace Fv := Fv.other W105 (Or.inr (slot_ne (Or.inr (wd37 hw)) (Or.inr (wd35 hw)) (by decide) (t := (.array .byte)) (t' := .byte) (by decide) (by decide)))
  replace P103_0 := P103_0.other W105 (Ne.symm ne_o_b_103)
  have OW105 := ext_wr OK103 W105 g
  replace KP := KP.wr W105 (Or.inl (List.mem_of_getElem? (i := 0) rfl))
  refine Go.aloadN X105 hx (hb hby d4_51) rfl rfl (q := 52) rfl ?_
  refine Go.aload X105 hx (hb hby d4_52) rfl rfl (q := 54) rfl ?_
  refine Go.putF X105 hx hZ hown (host := "") (Or.inl (wd36 hw)) Via.refl e105 Fv Eo (Or.inr ⟨(wd37 hw), rfl, hnm⟩) (wd9 hw) (ty := (.array .byte)) (by decide) rfl rfl (hb hby d4_54) (q := 57) rfl ?_
  intro T106 h106 X106 e106 W106 F106
  have N106 := Fr.snoc X106 N105 g
  replace Eo := Eo.wr W106
  replace P103_0 := P103_0.other W106 (Ne.symm ne_o_b_103)
  replace F105 := F105.other W106 (Or.inr (slot_ne (Or.inr (wd35 hw)) (Or.inr (wd37 hw)) (by decide) (t := .byte) (t' := (.array .byte)) (by decide) (by decide)))
  have OW106 := ext_wr OW105 W106 g
  replace KP := KP.wr W106 (Or.inl (List.mem_of_getElem? (i := 0) rfl))
  exact Go.retV X106 hx hret hlk (hb hby d4_57) e106 (by decide) (by decide) ⟨b_103, kb_103, rfl, N106, KP, z_b_103, F106, F105, P103_0⟩
def Q_csj1 (Z : State) (o : Addr) (a : Addr) (cs : Int32) (ka : ClassId) (c0 : Int32) (h0 : Heap) (vR : Option Value) (hR : Heap) (LR : List Loc) : Prop := ∃ b : Addr, ∃ kb : ClassId, vR = none ∧ Fr Z.heap.size LR ∧ Keep h0 hR [o] ∧ h0.size ≤ b ∧ Fld Z hR o "java/lang/String" "value" "[B" (.ref b) ∧ Fld Z hR o "java/lang/String" "coder" "B" (.int (0 : Int32)) ∧ Arv Z hR b kb .byte (1 : Int32) [(.int c0)] (.int (0 : Int32))
set_option maxRecDepth 65536 in
set_option maxHeartbeats 40000000 in
theorem csj1 (l : Launch) (Z : State) (a0 : Array Value) (hw : ∀ d ∈ tables_1, d.before a0 Z = true) (o : Addr) (a : Addr) (cs : Int32) (ka : ClassId) (c0 : Int32) (h0 : Heap) (O0 : Ext Z.heap h0) (Eo : Exa Z h0 o "java/lang/String") (Fv : Fld Z h0 o "java/lang/String" "value" "[B" .null) (Fc : Fld Z h0 o "java/lang/String" "coder" "B" (.int (0 : Int32))) (g : Z.heap.size ≤ o) (Va : Arv Z h0 a ka .char (1 : Int32) [(.int c0)] (.int (0 : Int32))) (SCS : Sta Z Z.heap "java/lang/String" "COMPACT_STRINGS" "Z" (.int cs)) (hcs : ¬ (cs = (0 : Int32))) (hc0 : c0 ∈ ownL) :
    Ctr l Z h0 (⟨"java/lang/String", "<init>", "([C)V"⟩ : MethodName) jdk_42_method_3_code 2 none [] ({ frames := 3, cells := 1, slots := 1, locals := 52 } : Room) #[(.ref o), (.ref a)] (Q_csj1 Z o a cs ka c0 h0) := by
  refine enter (plainFor_of_name pn2) ?_
  intro pp ee ss mm below meth cc s₁ hx hby hml hZ hown hnm hret hlk X0 e0 hs0
  replace hown : ss.vm.findClass "java/lang/String" = some mm.cls := hown
  refine Go.cast (congrArg s₁.setTop (ef_csj1 mm o a)) ?_
  have N0 := Fr.nil Z.heap.size
  have KP := Keep.refl h0 [o]
  show Go pp ee below _ (s₁.setTop (mkF mm 0 #[.val (.ref o), .val (.ref a)] []))
  refine Go.aloadN X0 hx (hb hby d3_0) rfl rfl (q := 1) rfl ?_
  refine Go.aloadN X0 hx (hb hby d3_1) rfl rfl (q := 2) rfl ?_
  refine Go.iconst X0 hx (hb hby d3_2) (r := (0 : Int32)) rfl (q := 3) rfl ?_
  refine Go.aloadN X0 hx (hb hby d3_3) rfl rfl (q := 4) rfl ?_
  refine Go.alen X0 hx hZ e0 Va (hb hby d3_4) ?_
  refine Go.aconst_null X0 hx (hb hby d3_5) (q := 6) rfl ?_
  refine Go.init X0 hx hZ hown rfl (wd15 hw) (wd16 hw) (wd10 hw) (wd18 hw) (by decide) (csi1 l Z a0 hw o a cs (ka) c0 h0 O0 Eo Fv Fc g Va SCS hcs hc0) e0 (by rw [hml]; rfl) (hb hby d3_6) (argsL := [(.ref a), (.int (0 : Int32)), (.int (1 : Int32)), .null]) (rest := []) (lenOf pd3 rfl) rfl rfl (W := 0) (by first | exact Nat.le_refl _ | decide) (by decide) (by decide) (by decide) (by decide) ?_
  intro v101 T101 L101 X101 hQ101
  obtain ⟨h101, e101⟩ : ∃ z, T101.heap = z := ⟨_, rfl⟩
  rw [e101] at hQ101
  obtain ⟨b_101, kb_101, rfl, N101q, K101, fr101_b, P101_0, P101_1, P101_2⟩ := hQ101
  have N101 := Fr.app N0 N101q
  have ne_o_b_101 : o ≠ b_101 := ne_new Eo.lt fr101_b
  have ne_a_b_101 : a ≠ b_101 := ne_new Va.lt fr101_b
  have g_b_101 : Z.heap.size ≤ b_101 := Nat.le_trans O0.1 fr101_b
  have z_b_101 : h0.size ≤ b_101 := Nat.le_trans KP.1 fr101_b
  replace Eo := Eo.keep K101
  have OK101 := ext_keep O0 K101 (allS g all0)
  replace KP := KP.trans K101 (allS (Or.inl (List.mem_of_getElem? (i := 0) rfl)) all0)
  exact Go.retV X101 hx hret hlk (hb hby d3_9) e101 (by decide) (by decide) ⟨b_101, kb_101, rfl, N101, KP, z_b_101, P101_0, P101_1, P101_2⟩
def Q_cmk1 (Z : State) (cs : Int32) (c0 : Int32) (c1 : Int32) (c2 : Int32) (c3 : Int32) (h0 : Heap) (vR : Option Value) (hR : Heap) (LR : List Loc) : Prop := ∃ s : Addr, ∃ b : Addr, ∃ kb : ClassId, vR = some (.ref s) ∧ Fr Z.heap.size LR ∧ Keep h0 hR [] ∧ h0.size ≤ s ∧ h0.size ≤ b ∧ Exa Z hR s "java/lang/String" ∧ Fld Z hR s "java/lang/String" "coder" "B" (.int (0 : Int32)) ∧ Fld Z hR s "java/lang/String" "value" "[B" (.ref b) ∧ Arv Z hR b kb .byte (1 : Int32) [(.int c0)] (.int (0 : Int32))
set_option maxRecDepth 65536 in
set_option maxHeartbeats 40000000 in
theorem cmk1 (l : Launch) (Z : State) (a0 : Array Value) (hw : ∀ d ∈ tables_1, d.before a0 Z = true) (cs : Int32) (c0 : Int32) (c1 : Int32) (c2 : Int32) (c3 : Int32) (h0 : Heap) (O0 : Ext Z.heap h0) (SCS : Sta Z Z.heap "java/lang/String" "COMPACT_STRINGS" "Z" (.int cs)) (hcs : ¬ (cs = (0 : Int32))) (hc0 : c0 ∈ ownL) :
    Ctr l Z h0 (⟨"com/example/cronopoly/cronopoly/ScheduleIdOfPinLaw", "make", "(ICCCC)Ljava/lang/String;"⟩ : MethodName) method_3_code 5 (some (.object "java/lang/String")) [] ({ frames := 4, cells := 3, slots := 6, locals := 66 } : Room) #[(.int (1 : Int32)), (.int c0), (.int c1), (.int c2), (.int c3)] (Q_cmk1 Z cs c0 c1 c2 c3 h0) := by
  refine enter (plainFor_of_name pn0) ?_
  intro pp ee ss mm below meth cc s₁ hx hby hml hZ hown hnm hret hlk X0 e0 hs0
  replace hown : ss.vm.findClass "com/example/cronopoly/cronopoly/ScheduleIdOfPinLaw" = some mm.cls := hown
  refine Go.cast (congrArg s₁.setTop (ef_cmk1 mm c0 c1 c2 c3)) ?_
  have N0 := Fr.nil Z.heap.size
  have KP := Keep.refl h0 []
  show Go pp ee below _ (s₁.setTop (mkF mm 0 #[.val (.int (1 : Int32)), .val (.int c0), .val (.int c1), .val (.int c2), .val (.int c3)] []))
  have hk101 : (c0.toInt8.toInt32) = c0 := own_b _ hc0
  have hk102 : nar .char c0 = c0 := own_nar _ hc0
  have hk103 : (c0 &&& (255 : Int32)) = c0 := own_a _ hc0
  have hk104 : ¬ ((255 : Int32) < c0) := own_255 _ hc0
  refine Go.iloadN X0 hx (hb hby d2_0) rfl (q := 1) rfl ?_
  refine Go.iconst X0 hx (hb hby d2_1) (r := (1 : Int32)) rfl (q := 2) rfl ?_
  refine Go.icmpNo X0 hx (hb hby d2_2) (by decide) (q := 5) rfl ?_
  refine Go.newO X0 hx hZ hown (wd8 hw) (wd9 hw) (wd10 hw) e0 (hb hby d2_5) (by decide) (by decide) (q := 8) rfl ?_
  intro b105 T105 h105 X105 e105 q105 E105 A105 D105 U105
  have g_b105 : Z.heap.size ≤ b105 := Nat.le_trans O0.1 (Nat.le_of_eq q105)
  have z_b105 : h0.size ≤ b105 := Nat.le_trans KP.1 (Nat.le_of_eq q105)
  have OE105 := ext_trans O0 E105
  replace KP := KP.ext E105
  have F105_coder : Fld Z h105 b105 "java/lang/String" "coder" "B" (.int (0 : Int32)) := D105 (Or.inr (wd35 hw)) (ty := .byte) (by decide)
  have F105_value : Fld Z h105 b105 "java/lang/String" "value" "[B" .null := D105 (Or.inr (wd37 hw)) (ty := (.array .byte)) (by decide)
  clear D105
  refine Go.dup X105 hx (hb hby d2_8) rfl (q := 9) rfl ?_
  refine Go.iconst X105 hx (hb hby d2_9) (r := (1 : Int32)) rfl (q := 10) rfl ?_
  refine Go.newP X105 hx hZ (hb hby d2_10) (wd11 hw) e105 (by decide) (cap := 1) (by decide) (by decide) (by decide) (by decide) (ad := "[C") rfl (q := 12) rfl ?_
  intro b106 T106 h106 k106 X106 e106 q106 E106 V106 B106
  have ne_b105_b106 : b105 ≠ b106 := ne_new A105.lt (Nat.le_of_eq q106)
  have g_b106 : Z.heap.size ≤ b106 := Nat.le_trans OE105.1 (Nat.le_of_eq q106)
  have z_b106 : h0.size ≤ b106 := Nat.le_trans KP.1 (Nat.le_of_eq q106)
  replace A105 := A105.ext E106
  replace F105_coder := F105_coder.ext E106
  replace F105_value := F105_value.ext E106
  have OE106 := ext_trans OE105 E106
  replace KP := KP.ext E106
  replace V106 : Arv Z h106 b106 k106 .char (1 : Int32) [(.int (0 : Int32))] (.int (0 : Int32)) := V106.pad (pad_rep [] (.int (0 : Int32)) 1)
  refine Go.dup X106 hx (hb hby d2_12) rfl (q := 13) rfl ?_
  refine Go.iconst X106 hx (hb hby d2_13) (r := (0 : Int32)) rfl (q := 14) rfl ?_
  refine Go.iloadN X106 hx (hb hby d2_14) rfl (q := 15) rfl ?_
  refine Go.cst X106 hx hZ e106 V106 ⟨by decide, by decide⟩ (i := 0) rfl (Nat.le_of_ble_eq_true rfl) (hb hby d2_15) ?_
  intro T107 h107 X107 e107 W107 V107
  rw [hk102] at V107
  replace V107 : Arv Z h107 b106 k106 .char (1 : Int32) [(.int c0)] (.int (0 : Int32)) := V107
  have N107 := Fr.snoc X107 N0 g_b106
  replace A105 := A105.wr W107
  replace F105_coder := F105_coder.other W107 (Or.inl ne_b105_b106)
  replace F105_value := F105_value.other W107 (Or.inl ne_b105_b106)
  replace B106 := B106.wr W107
  have OW107 := ext_wr OE106 W107 g_b106
  replace KP := KP.wr W107 (Or.inr z_b106)
  refine Go.init X107 hx hZ hown rfl (wd12 hw) (wd13 hw) (wd10 hw) (wd14 hw) (by decide) (csj1 l Z a0 hw b105 b106 cs (k106) c0 h107 OW107 A105 F105_value F105_coder g_b105 V107 SCS hcs hc0) e107 (by rw [hml]; rfl) (hb hby d2_16) (argsL := [(.ref b106)]) (rest := [(.ref b105)]) (lenOf pd4 rfl) rfl rfl (W := 1) (by first | exact Nat.le_refl _ | decide) (by decide) (by decide) (by decide) (by decide) ?_
  intro v108 T108 L108 X108 hQ108
  obtain ⟨h108, e108⟩ : ∃ z, T108.heap = z := ⟨_, rfl⟩
  rw [e108] at hQ108
  obtain ⟨b_108, kb_108, rfl, N108q, K108, fr108_b, P108_0, P108_1, P108_2⟩ := hQ108
  have N108 := Fr.app N107 N108q
  have ne_b105_b_108 : b105 ≠ b_108 := ne_new A105.lt fr108_b
  have ne_b106_b_108 : b106 ≠ b_108 := ne_new B106.lt fr108_b
  have g_b_108 : Z.heap.size ≤ b_108 := Nat.le_trans OW107.1 fr108_b
  have z_b_108 : h0.size ≤ b_108 := Nat.le_trans KP.1 fr108_b
  replace A105 := A105.keep K108
  replace B106 := B106.keep K108
  replace V107 := V107.keep K108 (ninS (Ne.symm ne_b105_b106) nin0)
  have OK108 := ext_keep OW107 K108 (allS g_b105 all0)
  replace KP := KP.trans K108 (allS (Or.inr z_b105) all0)
  exact Go.retA X108 hx hret hlk rfl rfl (hb hby d2_19) e108 (by decide) (by decide) ⟨b105, b_108, kb_108, rfl, N108, KP, z_b105, z_b_108, A105, P108_1, P108_0, P108_2⟩
def Q_ccmp2 (Z : State) (a : Addr) (b : Addr) (ka : ClassId) (kb : ClassId) (c0 : Int32) (c1 : Int32) (h0 : Heap) (vR : Option Value) (hR : Heap) (LR : List Loc) : Prop := vR = some (.int (2 : Int32)) ∧ Fr Z.heap.size LR ∧ Keep h0 hR [b] ∧ Arv Z hR b kb .byte (2 : Int32) [(.int c0), (.int c1)] (.int (0 : Int32))
set_option maxRecDepth 65536 in
set_option maxHeartbeats 40000000 in
theorem ccmp2 (l : Launch) (Z : State) (a0 : Array Value) (hw : ∀ d ∈ tables_1, d.before a0 Z = true) (a : Addr) (b : Addr) (ka : ClassId) (kb : ClassId) (c0 : Int32) (c1 : Int32) (h0 : Heap) (O0 : Ext Z.heap h0) (Va : Arv Z h0 a ka .char (2 : Int32) [(.int c0), (.int c1)] (.int (0 : Int32))) (Vb : Arv Z h0 b kb .byte (2 : Int32) [(.int (0 : Int32)), (.int (0 : Int32))] (.int (0 : Int32))) (g : Z.heap.size ≤ b) (ne : a ≠ b) (hc0 : c0 ∈ ownL) (hc1 : c1 ∈ ownL) :
    Ctr l Z h0 (⟨"java/lang/StringUTF16", "compress", "([CI[BII)I"⟩ : MethodName) jdk_52_method_21_code 7 (some .int) [] ({ frames := 0, cells := 0, slots := 0, locals := 0 } : Room) #[(.ref a), (.int (0 : Int32)), (.ref b), (.int (0 : Int32)), (.int (2 : Int32))] (Q_ccmp2 Z a b ka kb c0 c1 h0) := by
  refine enter (plainFor_of_name pn1) ?_
  intro pp ee ss mm below meth cc s₁ hx hby hml hZ hown hnm hret hlk X0 e0 hs0
  replace hown : ss.vm.findClass "java/lang/StringUTF16" = some mm.cls := hown
  refine Go.cast (congrArg s₁.setTop (ef_ccmp2 mm a b)) ?_
  have N0 := Fr.nil Z.heap.size
  have KP := Keep.refl h0 [b]
  show Go pp ee below _ (s₁.setTop (mkF mm 0 #[.val (.ref a), .val (.int (0 : Int32)), .val (.ref b), .val (.int (0 : Int32)), .val (.int (2 : Int32)), .unset, .unset] []))
  have hk101 : (c0.toInt8.toInt32) = c0 := own_b _ hc0
  have hk102 : nar .char c0 = c0 := own_nar _ hc0
  have hk103 : (c0 &&& (255 : Int32)) = c0 := own_a _ hc0
  have hk104 : ¬ ((255 : Int32) < c0) := own_255 _ hc0
  have hk105 : (c1.toInt8.toInt32) = c1 := own_b _ hc1
  have hk106 : nar .char c1 = c1 := own_nar _ hc1
  have hk107 : (c1 &&& (255 : Int32)) = c1 := own_a _ hc1
  have hk108 : ¬ ((255 : Int32) < c1) := own_255 _ hc1
  refine Go.iconst X0 hx (hb hby d7_0) (r := (0 : Int32)) rfl (q := 1) rfl ?_
  refine Go.istore X0 hx (hb hby d7_1) (l' := #[.val (.ref a), .val (.int (0 : Int32)), .val (.ref b), .val (.int (0 : Int32)), .val (.int (2 : Int32)), .val (.int (0 : Int32)), .unset]) rfl (q := 3) rfl ?_
  refine Go.iload X0 hx (hb hby d7_3) rfl (q := 5) rfl ?_
  refine Go.iload X0 hx (hb hby d7_5) rfl (q := 7) rfl ?_
  refine Go.icmpNo X0 hx (hb hby d7_7) (by decide) (q := 10) rfl ?_
  refine Go.aloadN X0 hx (hb hby d7_10) rfl rfl (q := 11) rfl ?_
  refine Go.iloadN X0 hx (hb hby d7_11) rfl (q := 12) rfl ?_
  refine Go.cal X0 hx hZ e0 Va ⟨by decide, by decide⟩ (v := (.int c0)) rfl (hb hby d7_12) ?_
  refine Go.istore X0 hx (hb hby d7_13) (l' := #[.val (.ref a), .val (.int (0 : Int32)), .val (.ref b), .val (.int (0 : Int32)), .val (.int (2 : Int32)), .val (.int (0 : Int32)), .val (.int c0)]) rfl (q := 15) rfl ?_
  refine Go.iload X0 hx (hb hby d7_15) rfl (q := 17) rfl ?_
  refine Go.sipush X0 hx (hb hby d7_17) (r := (255 : Int32)) rfl (q := 20) rfl ?_
  refine Go.icmpYes X0 hx (hb hby d7_20) (Jvm.Free.XT.ii_le_t hk104) (q := 26) (by decide) (by decide) ?_
  refine Go.aloadN X0 hx (hb hby d7_26) rfl rfl (q := 27) rfl ?_
  refine Go.iloadN X0 hx (hb hby d7_27) rfl (q := 28) rfl ?_
  refine Go.iload X0 hx (hb hby d7_28) rfl (q := 30) rfl ?_
  refine Go.i2b X0 hx (hb hby d7_30) rfl (q := 31) rfl ?_
  rw [hk101]
  show Go pp ee below _ (s₁.setTop (mkF mm 31 #[.val (.ref a), .val (.int (0 : Int32)), .val (.ref b), .val (.int (0 : Int32)), .val (.int (2 : Int32)), .val (.int (0 : Int32)), .val (.int c0)] [(.int c0), (.int (0 : Int32)), (.ref b)]))
  refine Go.bst X0 hx hZ e0 Vb ⟨by decide, by decide⟩ (i := 0) rfl (Nat.le_of_ble_eq_true rfl) (hb hby d7_31) ?_
  intro T109 h109 X109 e109 W109 V109
  rw [hk101] at V109
  replace V109 : Arv Z h109 b kb .byte (2 : Int32) [(.int c0), (.int (0 : Int32))] (.int (0 : Int32)) := V109
  have N109 := Fr.snoc X109 N0 g
  replace Va := Va.other W109 ne
  have OW109 := ext_wr O0 W109 g
  replace KP := KP.wr W109 (Or.inl (List.mem_of_getElem? (i := 0) rfl))
  refine Go.iinc X109 hx (hb hby d7_32) rfl (r := (1 : Int32)) rfl (l' := #[.val (.ref a), .val (.int (1 : Int32)), .val (.ref b), .val (.int (0 : Int32)), .val (.int (2 : Int32)), .val (.int (0 : Int32)), .val (.int c0)]) rfl (q := 35) rfl ?_
  refine Go.iinc X109 hx (hb hby d7_35) rfl (r := (1 : Int32)) rfl (l' := #[.val (.ref a), .val (.int (1 : Int32)), .val (.ref b), .val (.int (1 : Int32)), .val (.int (2 : Int32)), .val (.int (0 : Int32)), .val (.int c0)]) rfl (q := 38) rfl ?_
  refine Go.iinc X109 hx (hb hby d7_38) rfl (r := (1 : Int32)) rfl (l' := #[.val (.ref a), .val (.int (1 : Int32)), .val (.ref b), .val (.int (1 : Int32)), .val (.int (2 : Int32)), .val (.int (1 : Int32)), .val (.int c0)]) rfl (q := 41) rfl ?_
  refine Go.goto X109 hx (hb hby d7_41) (q := 3) (by decide) (by decide) ?_
  refine Go.iload X109 hx (hb hby d7_3) rfl (q := 5) rfl ?_
  refine Go.iload X109 hx (hb hby d7_5) rfl (q := 7) rfl ?_
  refine Go.icmpNo X109 hx (hb hby d7_7) (by decide) (q := 10) rfl ?_
  refine Go.aloadN X109 hx (hb hby d7_10) rfl rfl (q := 11) rfl ?_
  refine Go.iloadN X109 hx (hb hby d7_11) rfl (q := 12) rfl ?_
  refine Go.cal X109 hx hZ e109 Va ⟨by decide, by decide⟩ (v := (.int c1)) rfl (hb hby d7_12) ?_
  refine Go.istore X109 hx (hb hby d7_13) (l' := #[.val (.ref a), .val (.int (1 : Int32)), .val (.ref b), .val (.int (1 : Int32)), .val (.int (2 : Int32)), .val (.int (1 : Int32)), .val (.int c1)]) rfl (q := 15) rfl ?_
  refine Go.iload X109 hx (hb hby d7_15) rfl (q := 17) rfl ?_
  refine Go.sipush X109 hx (hb hby d7_17) (r := (255 : Int32)) rfl (q := 20) rfl ?_
  refine Go.icmpYes X109 hx (hb hby d7_20) (Jvm.Free.XT.ii_le_t hk108) (q := 26) (by decide) (by decide) ?_
  refine Go.aloadN X109 hx (hb hby d7_26) rfl rfl (q := 27) rfl ?_
  refine Go.iloadN X109 hx (hb hby d7_27) rfl (q := 28) rfl ?_
  refine Go.iload X109 hx (hb hby d7_28) rfl (q := 30) rfl ?_
  refine Go.i2b X109 hx (hb hby d7_30) rfl (q := 31) rfl ?_
  rw [hk105]
  show Go pp ee below _ (T109.setTop (mkF mm 31 #[.val (.ref a), .val (.int (1 : Int32)), .val (.ref b), .val (.int (1 : Int32)), .val (.int (2 : Int32)), .val (.int (1 : Int32)), .val (.int c1)] [(.int c1), (.int (1 : Int32)), (.ref b)]))
  refine Go.bst X109 hx hZ e109 V109 ⟨by decide, by decide⟩ (i := 1) rfl (Nat.le_of_ble_eq_true rfl) (hb hby d7_31) ?_
  intro T110 h110 X110 e110 W110 V110
  rw [hk105] at V110
  replace V110 : Arv Z h110 b kb .byte (2 : Int32) [(.int c0), (.int c1)] (.int (0 : Int32)) := V110
  have N110 := Fr.snoc X110 N109 g
  replace Va := Va.other W110 ne
  have OW110 := ext_wr OW109 W110 g
  replace KP := KP.wr W110 (Or.inl (List.mem_of_getElem? (i := 0) rfl))
  refine Go.iinc X110 hx (hb hby d7_32) rfl (r := (2 : Int32)) rfl (l' := #[.val (.ref a), .val (.int (2 : Int32)), .val (.ref b), .val (.int (1 : Int32)), .val (.int (2 : Int32)), .val (.int (1 : Int32)), .val (.int c1)]) rfl (q := 35) rfl ?_
  refine Go.iinc X110 hx (hb hby d7_35) rfl (r := (2 : Int32)) rfl (l' := #[.val (.ref a), .val (.int (2 : Int32)), .val (.ref b), .val (.int (2 : Int32)), .val (.int (2 : Int32)), .val (.int (1 : Int32)), .val (.int c1)]) rfl (q := 38) rfl ?_
  refine Go.iinc X110 hx (hb hby d7_38) rfl (r := (2 : Int32)) rfl (l' := #[.val (.ref a), .val (.int (2 : Int32)), .val (.ref b), .val (.int (2 : Int32)), .val (.int (2 : Int32)), .val (.int (2 : Int32)), .val (.int c1)]) rfl (q := 41) rfl ?_
  refine Go.goto X110 hx (hb hby d7_41) (q := 3) (by decide) (by decide) ?_
  refine Go.iload X110 hx (hb hby d7_3) rfl (q := 5) rfl ?_
  refine Go.iload X110 hx (hb hby d7_5) rfl (q := 7) rfl ?_
  refine Go.icmpYes X110 hx (hb hby d7_7) (by decide) (q := 44) (by decide) (by decide) ?_
  refine Go.iload X110 hx (hb hby d7_44) rfl (q := 46) rfl ?_
  exact Go.retI X110 hx hret hlk (Or.inl rfl) rfl (hb hby d7_46) e110 (by decide) (by decide) ⟨rfl, N110, KP, V110⟩
def Q_ccmq2 (Z : State) (a : Addr) (ka : ClassId) (c0 : Int32) (c1 : Int32) (h0 : Heap) (vR : Option Value) (hR : Heap) (LR : List Loc) : Prop := ∃ b : Addr, ∃ kb : ClassId, vR = some (.ref b) ∧ Fr Z.heap.size LR ∧ Keep h0 hR [] ∧ h0.size ≤ b ∧ Arv Z hR b kb .byte (2 : Int32) [(.int c0), (.int c1)] (.int (0 : Int32))
set_option maxRecDepth 65536 in
set_option maxHeartbeats 40000000 in
theorem ccmq2 (l : Launch) (Z : State) (a0 : Array Value) (hw : ∀ d ∈ tables_1, d.before a0 Z = true) (a : Addr) (ka : ClassId) (c0 : Int32) (c1 : Int32) (h0 : Heap) (O0 : Ext Z.heap h0) (Va : Arv Z h0 a ka .char (2 : Int32) [(.int c0), (.int c1)] (.int (0 : Int32))) (hc0 : c0 ∈ ownL) (hc1 : c1 ∈ ownL) :
    Ctr l Z h0 (⟨"java/lang/StringUTF16", "compress", "([CII)[B"⟩ : MethodName) jdk_52_method_16_code 6 (some (.array .byte)) [] ({ frames := 1, cells := 1, slots := 2, locals := 18 } : Room) #[(.ref a), (.int (0 : Int32)), (.int (2 : Int32))] (Q_ccmq2 Z a ka c0 c1 h0) := by
  refine enter (plainFor_of_name pn1) ?_
  intro pp ee ss mm below meth cc s₁ hx hby hml hZ hown hnm hret hlk X0 e0 hs0
  replace hown : ss.vm.findClass "java/lang/StringUTF16" = some mm.cls := hown
  refine Go.cast (congrArg s₁.setTop (ef_ccmq2 mm a)) ?_
  have N0 := Fr.nil Z.heap.size
  have KP := Keep.refl h0 []
  show Go pp ee below _ (s₁.setTop (mkF mm 0 #[.val (.ref a), .val (.int (0 : Int32)), .val (.int (2 : Int32)), .unset, .unset, .unset] []))
  refine Go.iloadN X0 hx (hb hby d6_0) rfl (q := 1) rfl ?_
  refine Go.newP X0 hx hZ (hb hby d6_1) (wd27 hw) e0 (by decide) (cap := 2) (by decide) (by decide) (by decide) (by decide) (ad := "[B") rfl (q := 3) rfl ?_
  intro b101 T101 h101 k101 X101 e101 q101 E101 V101 B101
  have ne_a_b101 : a ≠ b101 := ne_new Va.lt (Nat.le_of_eq q101)
  have g_b101 : Z.heap.size ≤ b101 := Nat.le_trans O0.1 (Nat.le_of_eq q101)
  have z_b101 : h0.size ≤ b101 := Nat.le_trans KP.1 (Nat.le_of_eq q101)
  replace Va := Va.ext E101
  have OE101 := ext_trans O0 E101
  replace KP := KP.ext E101
  replace V101 : Arv Z h101 b101 k101 .byte (2 : Int32) [(.int (0 : Int32)), (.int (0 : Int32))] (.int (0 : Int32)) := V101.pad (pad_rep [] (.int (0 : Int32)) 2)
  refine Go.astoreN X101 hx (hb hby d6_3) rfl (l' := #[.val (.ref a), .val (.int (0 : Int32)), .val (.int (2 : Int32)), .val (.ref b101), .unset, .unset]) rfl (q := 4) rfl ?_
  refine Go.aloadN X101 hx (hb hby d6_4) rfl rfl (q := 5) rfl ?_
  refine Go.iloadN X101 hx (hb hby d6_5) rfl (q := 6) rfl ?_
  refine Go.aloadN X101 hx (hb hby d6_6) rfl rfl (q := 7) rfl ?_
  refine Go.iconst X101 hx (hb hby d6_7) (r := (0 : Int32)) rfl (q := 8) rfl ?_
  refine Go.iloadN X101 hx (hb hby d6_8) rfl (q := 9) rfl ?_
  refine Go.callS X101 hx hZ hown (wd28 hw) (wd29 hw) (wd25 hw) (wd30 hw) (by decide) (ccmp2 l Z a0 hw a b101 (ka) (k101) c0 c1 h101 OE101 Va V101 g_b101 ne_a_b101 hc0 hc1) e101 (by rw [hml]; rfl) (hb hby d6_9) (argsL := [(.ref a), (.int (0 : Int32)), (.ref b101), (.int (0 : Int32)), (.int (2 : Int32))]) (rest := []) (lenOf pd0 rfl) rfl rfl (W := 0) (by first | exact Nat.le_refl _ | decide) (by decide) (by decide) (by decide) (by decide) ?_
  intro v102 T102 L102 X102 hQ102
  obtain ⟨h102, e102⟩ : ∃ z, T102.heap = z := ⟨_, rfl⟩
  rw [e102] at hQ102
  obtain ⟨rfl, N102q, K102, P102_0⟩ := hQ102
  have N102 := Fr.app N0 N102q
  replace Va := Va.keep K102 (ninS ne_a_b101 nin0)
  replace B101 := B101.keep K102
  have OK102 := ext_keep OE101 K102 (allS g_b101 all0)
  replace KP := KP.trans K102 (allS (Or.inr z_b101) all0)
  refine Go.istore X102 hx (hb hby d6_12) (l' := #[.val (.ref a), .val (.int (0 : Int32)), .val (.int (2 : Int32)), .val (.ref b101), .val (.int (2 : Int32)), .unset]) rfl (q := 14) rfl ?_
  refine Go.iload X102 hx (hb hby d6_14) rfl (q := 16) rfl ?_
  refine Go.iloadN X102 hx (hb hby d6_16) rfl (q := 17) rfl ?_
  refine Go.icmpYes X102 hx (hb hby d6_17) (by decide) (q := 57) (by decide) (by decide) ?_
  refine Go.aloadN X102 hx (hb hby d6_57) rfl rfl (q := 58) rfl ?_
  exact Go.retA X102 hx hret hlk rfl rfl (hb hby d6_58) e102 (by decide) (by decide) ⟨b101, k101, rfl, N102, KP, z_b101, P102_0⟩
def Q_ccal2 (Z : State) (b : Addr) (kb : ClassId) (c0 : Int32) (c1 : Int32) (h0 : Heap) (vR : Option Value) (hR : Heap) (LR : List Loc) : Prop := vR = some (.int (0 : Int32)) ∧ Fr Z.heap.size LR ∧ hR = h0
set_option maxRecDepth 65536 in
set_option maxHeartbeats 40000000 in
theorem ccal2 (l : Launch) (Z : State) (a0 : Array Value) (hw : ∀ d ∈ tables_1, d.before a0 Z = true) (b : Addr) (kb : ClassId) (c0 : Int32) (c1 : Int32) (h0 : Heap) (O0 : Ext Z.heap h0) (Vb : Arv Z h0 b kb .byte (2 : Int32) [(.int c0), (.int c1)] (.int (0 : Int32))) :
    Ctr l Z h0 (⟨"java/lang/StringUTF16", "coderFromArrayLen", "([BI)B"⟩ : MethodName) jdk_52_method_15_code 2 (some .byte) [] ({ frames := 0, cells := 0, slots := 0, locals := 0 } : Room) #[(.ref b), (.int (2 : Int32))] (Q_ccal2 Z b kb c0 c1 h0) := by
  refine enter (plainFor_of_name pn1) ?_
  intro pp ee ss mm below meth cc s₁ hx hby hml hZ hown hnm hret hlk X0 e0 hs0
  replace hown : ss.vm.findClass "java/lang/StringUTF16" = some mm.cls := hown
  refine Go.cast (congrArg s₁.setTop (ef_ccal2 mm b)) ?_
  have N0 := Fr.nil Z.heap.size
  show Go pp ee below _ (s₁.setTop (mkF mm 0 #[.val (.ref b), .val (.int (2 : Int32))] []))
  refine Go.iloadN X0 hx (hb hby d8_0) rfl (q := 1) rfl ?_
  refine Go.aloadN X0 hx (hb hby d8_1) rfl rfl (q := 2) rfl ?_
  refine Go.alen X0 hx hZ e0 Vb (hb hby d8_2) ?_
  refine Go.isub X0 hx (hb hby d8_3) (r := (0 : Int32)) rfl (q := 4) rfl ?_
  refine Go.bipush X0 hx (hb hby d8_4) (r := (31 : Int32)) rfl (q := 6) rfl ?_
  refine Go.iushr X0 hx (hb hby d8_6) (r := (0 : Int32)) rfl (q := 7) rfl ?_
  refine Go.i2b X0 hx (hb hby d8_7) (r := (0 : Int32)) rfl (q := 8) rfl ?_
  exact Go.retI X0 hx hret hlk (by simp) rfl (hb hby d8_8) e0 (by decide) (by decide) ⟨rfl, N0, rfl⟩
def Q_csi2 (Z : State) (o : Addr) (a : Addr) (cs : Int32) (ka : ClassId) (c0 : Int32) (c1 : Int32) (h0 : Heap) (vR : Option Value) (hR : Heap) (LR : List Loc) : Prop := ∃ b : Addr, ∃ kb : ClassId, vR = none ∧ Fr Z.heap.size LR ∧ Keep h0 hR [o] ∧ h0.size ≤ b ∧ Fld Z hR o "java/lang/String" "value" "[B" (.ref b) ∧ Fld Z hR o "java/lang/String" "coder" "B" (.int (0 : Int32)) ∧ Arv Z hR b kb .byte (2 : Int32) [(.int c0), (.int c1)] (.int (0 : Int32))
set_option maxRecDepth 65536 in
set_option maxHeartbeats 40000000 in
theorem csi2 (l : Launch) (Z : State) (a0 : Array Value) (hw : ∀ d ∈ tables_1, d.before a0 Z = true) (o : Addr) (a : Addr) (cs : Int32) (ka : ClassId) (c0 : Int32) (c1 : Int32) (h0 : Heap) (O0 : Ext Z.heap h0) (Eo : Exa Z h0 o "java/lang/String") (Fv : Fld Z h0 o "java/lang/String" "value" "[B" .null) (Fc : Fld Z h0 o "java/lang/String" "coder" "B" (.int (0 : Int32))) (g : Z.heap.size ≤ o) (Va : Arv Z h0 a ka .char (2 : Int32) [(.int c0), (.int c1)] (.int (0 : Int32))) (SCS : Sta Z Z.heap "java/lang/String" "COMPACT_STRINGS" "Z" (.int cs)) (hcs : ¬ (cs = (0 : Int32))) (hc0 : c0 ∈ ownL) (hc1 : c1 ∈ ownL) :
    Ctr l Z h0 (⟨"java/lang/String", "<init>", "([CIILjava/lang/Void;)V"⟩ : MethodName) jdk_42_method_149_code 6 none [] ({ frames := 2, cells := 1, slots := 2, locals := 35 } : Room) #[(.ref o), (.ref a), (.int (0 : Int32)), (.int (2 : Int32)), .null] (Q_csi2 Z o a cs ka c0 c1 h0) := by
  refine enter (plainFor_of_name pn2) ?_
  intro pp ee ss mm below meth cc s₁ hx hby hml hZ hown hnm hret hlk X0 e0 hs0
  replace hown : ss.vm.findClass "java/lang/String" = some mm.cls := hown
  refine Go.cast (congrArg s₁.setTop (ef_csi2 mm o a)) ?_
  have N0 := Fr.nil Z.heap.size
  have KP := Keep.refl h0 [o]
  show Go pp ee below _ (s₁.setTop (mkF mm 0 #[.val (.ref o), .val (.ref a), .val (.int (0 : Int32)), .val (.int (2 : Int32)), .val .null, .unset] []))
  refine Go.aloadN X0 hx (hb hby d4_0) rfl rfl (q := 1) rfl ?_
  refine Go.initO X0 hx hZ hown (wd19 hw) (wd20 hw) (wd21 hw) e0 (by rw [hml]; rfl) (hb hby d4_1) (by decide) (W := 0) (by exact Nat.le_refl _) (by decide) (q := 4) rfl ?_
  intro T101 X101 e101
  refine Go.iloadN X101 hx (hb hby d4_4) rfl (q := 5) rfl ?_
  refine Go.ifYes X101 hx (hb hby d4_5) (by decide) (q := 27) (by decide) (by decide) ?_
  refine Go.getS X101 hx hZ hown (host := "") (Or.inl (wd22 hw)) Via.refl e101 (SCS.ext O0) (hb hby d4_27) (q := 30) rfl ?_
  intro T102 X102 e102
  refine Go.ifNo X102 hx (hb hby d4_30) (Jvm.Free.XT.i0_eq_f hcs) (q := 33) rfl ?_
  refine Go.aloadN X102 hx (hb hby d4_33) rfl rfl (q := 34) rfl ?_
  refine Go.iloadN X102 hx (hb hby d4_34) rfl (q := 35) rfl ?_
  refine Go.iloadN X102 hx (hb hby d4_35) rfl (q := 36) rfl ?_
  refine Go.callS X102 hx hZ hown (wd23 hw) (wd24 hw) (wd25 hw) (wd26 hw) (by decide) (ccmq2 l Z a0 hw a (ka) c0 c1 h0 O0 Va hc0 hc1) e102 (by rw [hml]; rfl) (hb hby d4_36) (argsL := [(.ref a), (.int (0 : Int32)), (.int (2 : Int32))]) (rest := []) (lenOf pd1 rfl) rfl rfl (W := 0) (by first | exact Nat.le_refl _ | decide) (by decide) (by decide) (by decide) (by decide) ?_
  intro v103 T103 L103 X103 hQ103
  obtain ⟨h103, e103⟩ : ∃ z, T103.heap = z := ⟨_, rfl⟩
  rw [e103] at hQ103
  obtain ⟨b_103, kb_103, rfl, N103q, K103, fr103_b, P103_0⟩ := hQ103
  have N103 := Fr.app N0 N103q
  have ne_o_b_103 : o ≠ b_103 := ne_new Eo.lt fr103_b
  have ne_a_b_103 : a ≠ b_103 := ne_new Va.lt fr103_b
  have g_b_103 : Z.heap.size ≤ b_103 := Nat.le_trans O0.1 fr103_b
  have z_b_103 : h0.size ≤ b_103 := Nat.le_trans KP.1 fr103_b
  replace Eo := Eo.keep K103
  replace Fv := Fv.keep K103 nin0
  replace Fc := Fc.keep K103 nin0
  replace Va := Va.keep K103 nin0
  have OK103 := ext_keep O0 K103 all0
  replace KP := KP.trans K103 all0
  refine Go.astore X103 hx (hb hby d4_39) rfl (l' := #[.val (.ref o), .val (.ref a), .val (.int (0 : Int32)), .val (.int (2 : Int32)), .val .null, .val (.ref b_103)]) rfl (q := 41) rfl ?_
  refine Go.aloadN X103 hx (hb hby d4_41) rfl rfl (q := 42) rfl ?_
  refine Go.aload X103 hx (hb hby d4_42) rfl rfl (q := 44) rfl ?_
  refine Go.iloadN X103 hx (hb hby d4_44) rfl (q := 45) rfl ?_
  refine Go.callS X103 hx hZ hown (wd31 hw) (wd32 hw) (wd25 hw) (wd33 hw) (by decide) (ccal2 l Z a0 hw b_103 (kb_103) c0 c1 h103 OK103 P103_0) e103 (by rw [hml]; rfl) (hb hby d4_45) (argsL := [(.ref b_103), (.int (2 : Int32))]) (rest := [(.ref o)]) (lenOf pd2 rfl) rfl rfl (W := 1) (by first | exact Nat.le_refl _ | decide) (by decide) (by decide) (by decide) (by decide) ?_
  intro v104 T104 L104 X104 hQ104
  obtain ⟨rfl, N104q, e104⟩ := hQ104
  have N104 := Fr.app N103 N104q
  refine Go.putF X104 hx hZ hown (host := "") (Or.inl (wd34 hw)) Via.refl e104 Fc Eo (Or.inr ⟨(wd35 hw), rfl, hnm⟩) (wd9 hw) (ty := .byte) (by decide) rfl rfl (hb hby d4_48) (q := 51) rfl ?_
  intro T105 h105 X105 e105 W105 F105
  have N105 := Fr.snoc X105 N104 g
  replace Eo := Eo.wr W105
  replace Fv := Fv.other W105 (Or.inr (slot_ne (Or.inr (wd37 hw)) (Or.inr (wd35 hw)) (by decide) (t := (.array .byte)) (t' := .byte) (by decide) (by decide)))
  replace P103_0 := P103_0.other W105 (Ne.symm ne_o_b_103)
  have OW105 := ext_wr OK103 W105 g
  replace KP := KP.wr W105 (Or.inl (List.mem_of_getElem? (i := 0) rfl))
  refine Go.aloadN X105 hx (hb hby d4_51) rfl rfl (q := 52) rfl ?_
  refine Go.aload X105 hx (hb hby d4_52) rfl rfl (q := 54) rfl ?_
  refine Go.putF X105 hx hZ hown (host := "") (Or.inl (wd36 hw)) Via.refl e105 Fv Eo (Or.inr ⟨(wd37 hw), rfl, hnm⟩) (wd9 hw) (ty := (.array .byte)) (by decide) rfl rfl (hb hby d4_54) (q := 57) rfl ?_
  intro T106 h106 X106 e106 W106 F106
  have N106 := Fr.snoc X106 N105 g
  replace Eo := Eo.wr W106
  replace P103_0 := P103_0.other W106 (Ne.symm ne_o_b_103)
  replace F105 := F105.other W106 (Or.inr (slot_ne (Or.inr (wd35 hw)) (Or.inr (wd37 hw)) (by decide) (t := .byte) (t' := (.array .byte)) (by decide) (by decide)))
  have OW106 := ext_wr OW105 W106 g
  replace KP := KP.wr W106 (Or.inl (List.mem_of_getElem? (i := 0) rfl))
  exact Go.retV X106 hx hret hlk (hb hby d4_57) e106 (by decide) (by decide) ⟨b_103, kb_103, rfl, N106, KP, z_b_103, F106, F105, P103_0⟩
def Q_csj2 (Z : State) (o : Addr) (a : Addr) (cs : Int32) (ka : ClassId) (c0 : Int32) (c1 : Int32) (h0 : Heap) (vR : Option Value) (hR : Heap) (LR : List Loc) : Prop := ∃ b : Addr, ∃ kb : ClassId, vR = none ∧ Fr Z.heap.size LR ∧ Keep h0 hR [o] ∧ h0.size ≤ b ∧ Fld Z hR o "java/lang/String" "value" "[B" (.ref b) ∧ Fld Z hR o "java/lang/String" "coder" "B" (.int (0 : Int32)) ∧ Arv Z hR b kb .byte (2 : Int32) [(.int c0), (.int c1)] (.int (0 : Int32))
set_option maxRecDepth 65536 in
set_option maxHeartbeats 40000000 in
theorem csj2 (l : Launch) (Z : State) (a0 : Array Value) (hw : ∀ d ∈ tables_1, d.before a0 Z = true) (o : Addr) (a : Addr) (cs : Int32) (ka : ClassId) (c0 : Int32) (c1 : Int32) (h0 : Heap) (O0 : Ext Z.heap h0) (Eo : Exa Z h0 o "java/lang/String") (Fv : Fld Z h0 o "java/lang/String" "value" "[B" .null) (Fc : Fld Z h0 o "java/lang/String" "coder" "B" (.int (0 : Int32))) (g : Z.heap.size ≤ o) (Va : Arv Z h0 a ka .char (2 : Int32) [(.int c0), (.int c1)] (.int (0 : Int32))) (SCS : Sta Z Z.heap "java/lang/String" "COMPACT_STRINGS" "Z" (.int cs)) (hcs : ¬ (cs = (0 : Int32))) (hc0 : c0 ∈ ownL) (hc1 : c1 ∈ ownL) :
    Ctr l Z h0 (⟨"java/lang/String", "<init>", "([C)V"⟩ : MethodName) jdk_42_method_3_code 2 none [] ({ frames := 3, cells := 1, slots := 2, locals := 52 } : Room) #[(.ref o), (.ref a)] (Q_csj2 Z o a cs ka c0 c1 h0) := by
  refine enter (plainFor_of_name pn2) ?_
  intro pp ee ss mm below meth cc s₁ hx hby hml hZ hown hnm hret hlk X0 e0 hs0
  replace hown : ss.vm.findClass "java/lang/String" = some mm.cls := hown
  refine Go.cast (congrArg s₁.setTop (ef_csj2 mm o a)) ?_
  have N0 := Fr.nil Z.heap.size
  have KP := Keep.refl h0 [o]
  show Go pp ee below _ (s₁.setTop (mkF mm 0 #[.val (.ref o), .val (.ref a)] []))
  refine Go.aloadN X0 hx (hb hby d3_0) rfl rfl (q := 1) rfl ?_
  refine Go.aloadN X0 hx (hb hby d3_1) rfl rfl (q := 2) rfl ?_
  refine Go.iconst X0 hx (hb hby d3_2) (r := (0 : Int32)) rfl (q := 3) rfl ?_
  refine Go.aloadN X0 hx (hb hby d3_3) rfl rfl (q := 4) rfl ?_
  refine Go.alen X0 hx hZ e0 Va (hb hby d3_4) ?_
  refine Go.aconst_null X0 hx (hb hby d3_5) (q := 6) rfl ?_
  refine Go.init X0 hx hZ hown rfl (wd15 hw) (wd16 hw) (wd10 hw) (wd18 hw) (by decide) (csi2 l Z a0 hw o a cs (ka) c0 c1 h0 O0 Eo Fv Fc g Va SCS hcs hc0 hc1) e0 (by rw [hml]; rfl) (hb hby d3_6) (argsL := [(.ref a), (.int (0 : Int32)), (.int (2 : Int32)), .null]) (rest := []) (lenOf pd3 rfl) rfl rfl (W := 0) (by first | exact Nat.le_refl _ | decide) (by decide) (by decide) (by decide) (by decide) ?_
  intro v101 T101 L101 X101 hQ101
  obtain ⟨h101, e101⟩ : ∃ z, T101.heap = z := ⟨_, rfl⟩
  rw [e101] at hQ101
  obtain ⟨b_101, kb_101, rfl, N101q, K101, fr101_b, P101_0, P101_1, P101_2⟩ := hQ101
  have N101 := Fr.app N0 N101q
  have ne_o_b_101 : o ≠ b_101 := ne_new Eo.lt fr101_b
  have ne_a_b_101 : a ≠ b_101 := ne_new Va.lt fr101_b
  have g_b_101 : Z.heap.size ≤ b_101 := Nat.le_trans O0.1 fr101_b
  have z_b_101 : h0.size ≤ b_101 := Nat.le_trans KP.1 fr101_b
  replace Eo := Eo.keep K101
  have OK101 := ext_keep O0 K101 (allS g all0)
  replace KP := KP.trans K101 (allS (Or.inl (List.mem_of_getElem? (i := 0) rfl)) all0)
  exact Go.retV X101 hx hret hlk (hb hby d3_9) e101 (by decide) (by decide) ⟨b_101, kb_101, rfl, N101, KP, z_b_101, P101_0, P101_1, P101_2⟩
def Q_cmk2 (Z : State) (cs : Int32) (c0 : Int32) (c1 : Int32) (c2 : Int32) (c3 : Int32) (h0 : Heap) (vR : Option Value) (hR : Heap) (LR : List Loc) : Prop := ∃ s : Addr, ∃ b : Addr, ∃ kb : ClassId, vR = some (.ref s) ∧ Fr Z.heap.size LR ∧ Keep h0 hR [] ∧ h0.size ≤ s ∧ h0.size ≤ b ∧ Exa Z hR s "java/lang/String" ∧ Fld Z hR s "java/lang/String" "coder" "B" (.int (0 : Int32)) ∧ Fld Z hR s "java/lang/String" "value" "[B" (.ref b) ∧ Arv Z hR b kb .byte (2 : Int32) [(.int c0), (.int c1)] (.int (0 : Int32))
set_option maxRecDepth 65536 in
set_option maxHeartbeats 40000000 in
theorem cmk2 (l : Launch) (Z : State) (a0 : Array Value) (hw : ∀ d ∈ tables_1, d.before a0 Z = true) (cs : Int32) (c0 : Int32) (c1 : Int32) (c2 : Int32) (c3 : Int32) (h0 : Heap) (O0 : Ext Z.heap h0) (SCS : Sta Z Z.heap "java/lang/String" "COMPACT_STRINGS" "Z" (.int cs)) (hcs : ¬ (cs = (0 : Int32))) (hc0 : c0 ∈ ownL) (hc1 : c1 ∈ ownL) :
    Ctr l Z h0 (⟨"com/example/cronopoly/cronopoly/ScheduleIdOfPinLaw", "make", "(ICCCC)Ljava/lang/String;"⟩ : MethodName) method_3_code 5 (some (.object "java/lang/String")) [] ({ frames := 4, cells := 3, slots := 8, locals := 66 } : Room) #[(.int (2 : Int32)), (.int c0), (.int c1), (.int c2), (.int c3)] (Q_cmk2 Z cs c0 c1 c2 c3 h0) := by
  refine enter (plainFor_of_name pn0) ?_
  intro pp ee ss mm below meth cc s₁ hx hby hml hZ hown hnm hret hlk X0 e0 hs0
  replace hown : ss.vm.findClass "com/example/cronopoly/cronopoly/ScheduleIdOfPinLaw" = some mm.cls := hown
  refine Go.cast (congrArg s₁.setTop (ef_cmk2 mm c0 c1 c2 c3)) ?_
  have N0 := Fr.nil Z.heap.size
  have KP := Keep.refl h0 []
  show Go pp ee below _ (s₁.setTop (mkF mm 0 #[.val (.int (2 : Int32)), .val (.int c0), .val (.int c1), .val (.int c2), .val (.int c3)] []))
  have hk101 : (c0.toInt8.toInt32) = c0 := own_b _ hc0
  have hk102 : nar .char c0 = c0 := own_nar _ hc0
  have hk103 : (c0 &&& (255 : Int32)) = c0 := own_a _ hc0
  have hk104 : ¬ ((255 : Int32) < c0) := own_255 _ hc0
  have hk105 : (c1.toInt8.toInt32) = c1 := own_b _ hc1
  have hk106 : nar .char c1 = c1 := own_nar _ hc1
  have hk107 : (c1 &&& (255 : Int32)) = c1 := own_a _ hc1
  have hk108 : ¬ ((255 : Int32) < c1) := own_255 _ hc1
  refine Go.iloadN X0 hx (hb hby d2_0) rfl (q := 1) rfl ?_
  refine Go.iconst X0 hx (hb hby d2_1) (r := (1 : Int32)) rfl (q := 2) rfl ?_
  refine Go.icmpYes X0 hx (hb hby d2_2) (by decide) (q := 20) (by decide) (by decide) ?_
  refine Go.iloadN X0 hx (hb hby d2_20) rfl (q := 21) rfl ?_
  refine Go.iconst X0 hx (hb hby d2_21) (r := (2 : Int32)) rfl (q := 22) rfl ?_
  refine Go.icmpNo X0 hx (hb hby d2_22) (by decide) (q := 25) rfl ?_
  refine Go.newO X0 hx hZ hown (wd8 hw) (wd9 hw) (wd10 hw) e0 (hb hby d2_25) (by decide) (by decide) (q := 28) rfl ?_
  intro b109 T109 h109 X109 e109 q109 E109 A109 D109 U109
  have g_b109 : Z.heap.size ≤ b109 := Nat.le_trans O0.1 (Nat.le_of_eq q109)
  have z_b109 : h0.size ≤ b109 := Nat.le_trans KP.1 (Nat.le_of_eq q109)
  have OE109 := ext_trans O0 E109
  replace KP := KP.ext E109
  have F109_coder : Fld Z h109 b109 "java/lang/String" "coder" "B" (.int (0 : Int32)) := D109 (Or.inr (wd35 hw)) (ty := .byte) (by decide)
  have F109_value : Fld Z h109 b109 "java/lang/String" "value" "[B" .null := D109 (Or.inr (wd37 hw)) (ty := (.array .byte)) (by decide)
  clear D109
  refine Go.dup X109 hx (hb hby d2_28) rfl (q := 29) rfl ?_
  refine Go.iconst X109 hx (hb hby d2_29) (r := (2 : Int32)) rfl (q := 30) rfl ?_
  refine Go.newP X109 hx hZ (hb hby d2_30) (wd11 hw) e109 (by decide) (cap := 2) (by decide) (by decide) (by decide) (by decide) (ad := "[C") rfl (q := 32) rfl ?_
  intro b110 T110 h110 k110 X110 e110 q110 E110 V110 B110
  have ne_b109_b110 : b109 ≠ b110 := ne_new A109.lt (Nat.le_of_eq q110)
  have g_b110 : Z.heap.size ≤ b110 := Nat.le_trans OE109.1 (Nat.le_of_eq q110)
  have z_b110 : h0.size ≤ b110 := Nat.le_trans KP.1 (Nat.le_of_eq q110)
  replace A109 := A109.ext E110
  replace F109_coder := F109_coder.ext E110
  replace F109_value := F109_value.ext E110
  have OE110 := ext_trans OE109 E110
  replace KP := KP.ext E110
  replace V110 : Arv Z h110 b110 k110 .char (2 : Int32) [(.int (0 : Int32)), (.int (0 : Int32))] (.int (0 : Int32)) := V110.pad (pad_rep [] (.int (0 : Int32)) 2)
  refine Go.dup X110 hx (hb hby d2_32) rfl (q := 33) rfl ?_
  refine Go.iconst X110 hx (hb hby d2_33) (r := (0 : Int32)) rfl (q := 34) rfl ?_
  refine Go.iloadN X110 hx (hb hby d2_34) rfl (q := 35) rfl ?_
  refine Go.cst X110 hx hZ e110 V110 ⟨by decide, by decide⟩ (i := 0) rfl (Nat.le_of_ble_eq_true rfl) (hb hby d2_35) ?_
  intro T111 h111 X111 e111 W111 V111
  rw [hk102] at V111
  replace V111 : Arv Z h111 b110 k110 .char (2 : Int32) [(.int c0), (.int (0 : Int32))] (.int (0 : Int32)) := V111
  have N111 := Fr.snoc X111 N0 g_b110
  replace A109 := A109.wr W111
  replace F109_coder := F109_coder.other W111 (Or.inl ne_b109_b110)
  replace F109_value := F109_value.other W111 (Or.inl ne_b109_b110)
  replace B110 := B110.wr W111
  have OW111 := ext_wr OE110 W111 g_b110
  replace KP := KP.wr W111 (Or.inr z_b110)
  refine Go.dup X111 hx (hb hby d2_36) rfl (q := 37) rfl ?_
  refine Go.iconst X111 hx (hb hby d2_37) (r := (1 : Int32)) rfl (q := 38) rfl ?_
  refine Go.iloadN X111 hx (hb hby d2_38) rfl (q := 39) rfl ?_
  refine Go.cst X111 hx hZ e111 V111 ⟨by decide, by decide⟩ (i := 1) rfl (Nat.le_of_ble_eq_true rfl) (hb hby d2_39) ?_
  intro T112 h112 X112 e112 W112 V112
  rw [hk106] at V112
  replace V112 : Arv Z h112 b110 k110 .char (2 : Int32) [(.int c0), (.int c1)] (.int (0 : Int32)) := V112
  have N112 := Fr.snoc X112 N111 g_b110
  replace A109 := A109.wr W112
  replace F109_coder := F109_coder.other W112 (Or.inl ne_b109_b110)
  replace F109_value := F109_value.other W112 (Or.inl ne_b109_b110)
  replace B110 := B110.wr W112
  have OW112 := ext_wr OW111 W112 g_b110
  replace KP := KP.wr W112 (Or.inr z_b110)
  refine Go.init X112 hx hZ hown rfl (wd12 hw) (wd13 hw) (wd10 hw) (wd14 hw) (by decide) (csj2 l Z a0 hw b109 b110 cs (k110) c0 c1 h112 OW112 A109 F109_value F109_coder g_b109 V112 SCS hcs hc0 hc1) e112 (by rw [hml]; rfl) (hb hby d2_40) (argsL := [(.ref b110)]) (rest := [(.ref b109)]) (lenOf pd4 rfl) rfl rfl (W := 1) (by first | exact Nat.le_refl _ | decide) (by decide) (by decide) (by decide) (by decide) ?_
  intro v113 T113 L113 X113 hQ113
  obtain ⟨h113, e113⟩ : ∃ z, T113.heap = z := ⟨_, rfl⟩
  rw [e113] at hQ113
  obtain ⟨b_113, kb_113, rfl, N113q, K113, fr113_b, P113_0, P113_1, P113_2⟩ := hQ113
  have N113 := Fr.app N112 N113q
  have ne_b109_b_113 : b109 ≠ b_113 := ne_new A109.lt fr113_b
  have ne_b110_b_113 : b110 ≠ b_113 := ne_new B110.lt fr113_b
  have g_b_113 : Z.heap.size ≤ b_113 := Nat.le_trans OW112.1 fr113_b
  have z_b_113 : h0.size ≤ b_113 := Nat.le_trans KP.1 fr113_b
  replace A109 := A109.keep K113
  replace B110 := B110.keep K113
  replace V112 := V112.keep K113 (ninS (Ne.symm ne_b109_b110) nin0)
  have OK113 := ext_keep OW112 K113 (allS g_b109 all0)
  replace KP := KP.trans K113 (allS (Or.inr z_b109) all0)
  exact Go.retA X113 hx hret hlk rfl rfl (hb hby d2_43) e113 (by decide) (by decide) ⟨b109, b_113, kb_113, rfl, N113, KP, z_b109, z_b_113, A109, P113_1, P113_0, P113_2⟩
def Q_ccmp3 (Z : State) (a : Addr) (b : Addr) (ka : ClassId) (kb : ClassId) (c0 : Int32) (c1 : Int32) (c2 : Int32) (h0 : Heap) (vR : Option Value) (hR : Heap) (LR : List Loc) : Prop := vR = some (.int (3 : Int32)) ∧ Fr Z.heap.size LR ∧ Keep h0 hR [b] ∧ Arv Z hR b kb .byte (3 : Int32) [(.int c0), (.int c1), (.int c2)] (.int (0 : Int32))
set_option maxRecDepth 65536 in
set_option maxHeartbeats 40000000 in
theorem ccmp3 (l : Launch) (Z : State) (a0 : Array Value) (hw : ∀ d ∈ tables_1, d.before a0 Z = true) (a : Addr) (b : Addr) (ka : ClassId) (kb : ClassId) (c0 : Int32) (c1 : Int32) (c2 : Int32) (h0 : Heap) (O0 : Ext Z.heap h0) (Va : Arv Z h0 a ka .char (3 : Int32) [(.int c0), (.int c1), (.int c2)] (.int (0 : Int32))) (Vb : Arv Z h0 b kb .byte (3 : Int32) [(.int (0 : Int32)), (.int (0 : Int32)), (.int (0 : Int32))] (.int (0 : Int32))) (g : Z.heap.size ≤ b) (ne : a ≠ b) (hc0 : c0 ∈ ownL) (hc1 : c1 ∈ ownL) (hc2 : c2 ∈ ownL) :
    Ctr l Z h0 (⟨"java/lang/StringUTF16", "compress", "([CI[BII)I"⟩ : MethodName) jdk_52_method_21_code 7 (some .int) [] ({ frames := 0, cells := 0, slots := 0, locals := 0 } : Room) #[(.ref a), (.int (0 : Int32)), (.ref b), (.int (0 : Int32)), (.int (3 : Int32))] (Q_ccmp3 Z a b ka kb c0 c1 c2 h0) := by
  refine enter (plainFor_of_name pn1) ?_
  intro pp ee ss mm below meth cc s₁ hx hby hml hZ hown hnm hret hlk X0 e0 hs0
  replace hown : ss.vm.findClass "java/lang/StringUTF16" = some mm.cls := hown
  refine Go.cast (congrArg s₁.setTop (ef_ccmp3 mm a b)) ?_
  have N0 := Fr.nil Z.heap.size
  have KP := Keep.refl h0 [b]
  show Go pp ee below _ (s₁.setTop (mkF mm 0 #[.val (.ref a), .val (.int (0 : Int32)), .val (.ref b), .val (.int (0 : Int32)), .val (.int (3 : Int32)), .unset, .unset] []))
  have hk101 : (c0.toInt8.toInt32) = c0 := own_b _ hc0
  have hk102 : nar .char c0 = c0 := own_nar _ hc0
  have hk103 : (c0 &&& (255 : Int32)) = c0 := own_a _ hc0
  have hk104 : ¬ ((255 : Int32) < c0) := own_255 _ hc0
  have hk105 : (c1.toInt8.toInt32) = c1 := own_b _ hc1
  have hk106 : nar .char c1 = c1 := own_nar _ hc1
  have hk107 : (c1 &&& (255 : Int32)) = c1 := own_a _ hc1
  have hk108 : ¬ ((255 : Int32) < c1) := own_255 _ hc1
  have hk109 : (c2.toInt8.toInt32) = c2 := own_b _ hc2
  have hk110 : nar .char c2 = c2 := own_nar _ hc2
  have hk111 : (c2 &&& (255 : Int32)) = c2 := own_a _ hc2
  have hk112 : ¬ ((255 : Int32) < c2) := own_255 _ hc2
  refine Go.iconst X0 hx (hb hby d7_0) (r := (0 : Int32)) rfl (q := 1) rfl ?_
  refine Go.istore X0 hx (hb hby d7_1) (l' := #[.val (.ref a), .val (.int (0 : Int32)), .val (.ref b), .val (.int (0 : Int32)), .val (.int (3 : Int32)), .val (.int (0 : Int32)), .unset]) rfl (q := 3) rfl ?_
  refine Go.iload X0 hx (hb hby d7_3) rfl (q := 5) rfl ?_
  refine Go.iload X0 hx (hb hby d7_5) rfl (q := 7) rfl ?_
  refine Go.icmpNo X0 hx (hb hby d7_7) (by decide) (q := 10) rfl ?_
  refine Go.aloadN X0 hx (hb hby d7_10) rfl rfl (q := 11) rfl ?_
  refine Go.iloadN X0 hx (hb hby d7_11) rfl (q := 12) rfl ?_
  refine Go.cal X0 hx hZ e0 Va ⟨by decide, by decide⟩ (v := (.int c0)) rfl (hb hby d7_12) ?_
  refine Go.istore X0 hx (hb hby d7_13) (l' := #[.val (.ref a), .val (.int (0 : Int32)), .val (.ref b), .val (.int (0 : Int32)), .val (.int (3 : Int32)), .val (.int (0 : Int32)), .val (.int c0)]) rfl (q := 15) rfl ?_
  refine Go.iload X0 hx (hb hby d7_15) rfl (q := 17) rfl ?_
  refine Go.sipush X0 hx (hb hby d7_17) (r := (255 : Int32)) rfl (q := 20) rfl ?_
  refine Go.icmpYes X0 hx (hb hby d7_20) (Jvm.Free.XT.ii_le_t hk104) (q := 26) (by decide) (by decide) ?_
  refine Go.aloadN X0 hx (hb hby d7_26) rfl rfl (q := 27) rfl ?_
  refine Go.iloadN X0 hx (hb hby d7_27) rfl (q := 28) rfl ?_
  refine Go.iload X0 hx (hb hby d7_28) rfl (q := 30) rfl ?_
  refine Go.i2b X0 hx (hb hby d7_30) rfl (q := 31) rfl ?_
  rw [hk101]
  show Go pp ee below _ (s₁.setTop (mkF mm 31 #[.val (.ref a), .val (.int (0 : Int32)), .val (.ref b), .val (.int (0 : Int32)), .val (.int (3 : Int32)), .val (.int (0 : Int32)), .val (.int c0)] [(.int c0), (.int (0 : Int32)), (.ref b)]))
  refine Go.bst X0 hx hZ e0 Vb ⟨by decide, by decide⟩ (i := 0) rfl (Nat.le_of_ble_eq_true rfl) (hb hby d7_31) ?_
  intro T113 h113 X113 e113 W113 V113
  rw [hk101] at V113
  replace V113 : Arv Z h113 b kb .byte (3 : Int32) [(.int c0), (.int (0 : Int32)), (.int (0 : Int32))] (.int (0 : Int32)) := V113
  have N113 := Fr.snoc X113 N0 g
  replace Va := Va.other W113 ne
  have OW113 := ext_wr O0 W113 g
  replace KP := KP.wr W113 (Or.inl (List.mem_of_getElem? (i := 0) rfl))
  refine Go.iinc X113 hx (hb hby d7_32) rfl (r := (1 : Int32)) rfl (l' := #[.val (.ref a), .val (.int (1 : Int32)), .val (.ref b), .val (.int (0 : Int32)), .val (.int (3 : Int32)), .val (.int (0 : Int32)), .val (.int c0)]) rfl (q := 35) rfl ?_
  refine Go.iinc X113 hx (hb hby d7_35) rfl (r := (1 : Int32)) rfl (l' := #[.val (.ref a), .val (.int (1 : Int32)), .val (.ref b), .val (.int (1 : Int32)), .val (.int (3 : Int32)), .val (.int (0 : Int32)), .val (.int c0)]) rfl (q := 38) rfl ?_
  refine Go.iinc X113 hx (hb hby d7_38) rfl (r := (1 : Int32)) rfl (l' := #[.val (.ref a), .val (.int (1 : Int32)), .val (.ref b), .val (.int (1 : Int32)), .val (.int (3 : Int32)), .val (.int (1 : Int32)), .val (.int c0)]) rfl (q := 41) rfl ?_
  refine Go.goto X113 hx (hb hby d7_41) (q := 3) (by decide) (by decide) ?_
  refine Go.iload X113 hx (hb hby d7_3) rfl (q := 5) rfl ?_
  refine Go.iload X113 hx (hb hby d7_5) rfl (q := 7) rfl ?_
  refine Go.icmpNo X113 hx (hb hby d7_7) (by decide) (q := 10) rfl ?_
  refine Go.aloadN X113 hx (hb hby d7_10) rfl rfl (q := 11) rfl ?_
  refine Go.iloadN X113 hx (hb hby d7_11) rfl (q := 12) rfl ?_
  refine Go.cal X113 hx hZ e113 Va ⟨by decide, by decide⟩ (v := (.int c1)) rfl (hb hby d7_12) ?_
  refine Go.istore X113 hx (hb hby d7_13) (l' := #[.val (.ref a), .val (.int (1 : Int32)), .val (.ref b), .val (.int (1 : Int32)), .val (.int (3 : Int32)), .val (.int (1 : Int32)), .val (.int c1)]) rfl (q := 15) rfl ?_
  refine Go.iload X113 hx (hb hby d7_15) rfl (q := 17) rfl ?_
  refine Go.sipush X113 hx (hb hby d7_17) (r := (255 : Int32)) rfl (q := 20) rfl ?_
  refine Go.icmpYes X113 hx (hb hby d7_20) (Jvm.Free.XT.ii_le_t hk108) (q := 26) (by decide) (by decide) ?_
  refine Go.aloadN X113 hx (hb hby d7_26) rfl rfl (q := 27) rfl ?_
  refine Go.iloadN X113 hx (hb hby d7_27) rfl (q := 28) rfl ?_
  refine Go.iload X113 hx (hb hby d7_28) rfl (q := 30) rfl ?_
  refine Go.i2b X113 hx (hb hby d7_30) rfl (q := 31) rfl ?_
  rw [hk105]
  show Go pp ee below _ (T113.setTop (mkF mm 31 #[.val (.ref a), .val (.int (1 : Int32)), .val (.ref b), .val (.int (1 : Int32)), .val (.int (3 : Int32)), .val (.int (1 : Int32)), .val (.int c1)] [(.int c1), (.int (1 : Int32)), (.ref b)]))
  refine Go.bst X113 hx hZ e113 V113 ⟨by decide, by decide⟩ (i := 1) rfl (Nat.le_of_ble_eq_true rfl) (hb hby d7_31) ?_
  intro T114 h114 X114 e114 W114 V114
  rw [hk105] at V114
  replace V114 : Arv Z h114 b kb .byte (3 : Int32) [(.int c0), (.int c1), (.int (0 : Int32))] (.int (0 : Int32)) := V114
  have N114 := Fr.snoc X114 N113 g
  replace Va := Va.other W114 ne
  have OW114 := ext_wr OW113 W114 g
  replace KP := KP.wr W114 (Or.inl (List.mem_of_getElem? (i := 0) rfl))
  refine Go.iinc X114 hx (hb hby d7_32) rfl (r := (2 : Int32)) rfl (l' := #[.val (.ref a), .val (.int (2 : Int32)), .val (.ref b), .val (.int (1 : Int32)), .val (.int (3 : Int32)), .val (.int (1 : Int32)), .val (.int c1)]) rfl (q := 35) rfl ?_
  refine Go.iinc X114 hx (hb hby d7_35) rfl (r := (2 : Int32)) rfl (l' := #[.val (.ref a), .val (.int (2 : Int32)), .val (.ref b), .val (.int (2 : Int32)), .val (.int (3 : Int32)), .val (.int (1 : Int32)), .val (.int c1)]) rfl (q := 38) rfl ?_
  refine Go.iinc X114 hx (hb hby d7_38) rfl (r := (2 : Int32)) rfl (l' := #[.val (.ref a), .val (.int (2 : Int32)), .val (.ref b), .val (.int (2 : Int32)), .val (.int (3 : Int32)), .val (.int (2 : Int32)), .val (.int c1)]) rfl (q := 41) rfl ?_
  refine Go.goto X114 hx (hb hby d7_41) (q := 3) (by decide) (by decide) ?_
  refine Go.iload X114 hx (hb hby d7_3) rfl (q := 5) rfl ?_
  refine Go.iload X114 hx (hb hby d7_5) rfl (q := 7) rfl ?_
  refine Go.icmpNo X114 hx (hb hby d7_7) (by decide) (q := 10) rfl ?_
  refine Go.aloadN X114 hx (hb hby d7_10) rfl rfl (q := 11) rfl ?_
  refine Go.iloadN X114 hx (hb hby d7_11) rfl (q := 12) rfl ?_
  refine Go.cal X114 hx hZ e114 Va ⟨by decide, by decide⟩ (v := (.int c2)) rfl (hb hby d7_12) ?_
  refine Go.istore X114 hx (hb hby d7_13) (l' := #[.val (.ref a), .val (.int (2 : Int32)), .val (.ref b), .val (.int (2 : Int32)), .val (.int (3 : Int32)), .val (.int (2 : Int32)), .val (.int c2)]) rfl (q := 15) rfl ?_
  refine Go.iload X114 hx (hb hby d7_15) rfl (q := 17) rfl ?_
  refine Go.sipush X114 hx (hb hby d7_17) (r := (255 : Int32)) rfl (q := 20) rfl ?_
  refine Go.icmpYes X114 hx (hb hby d7_20) (Jvm.Free.XT.ii_le_t hk112) (q := 26) (by decide) (by decide) ?_
  refine Go.aloadN X114 hx (hb hby d7_26) rfl rfl (q := 27) rfl ?_
  refine Go.iloadN X114 hx (hb hby d7_27) rfl (q := 28) rfl ?_
  refine Go.iload X114 hx (hb hby d7_28) rfl (q := 30) rfl ?_
  refine Go.i2b X114 hx (hb hby d7_30) rfl (q := 31) rfl ?_
  rw [hk109]
  show Go pp ee below _ (T114.setTop (mkF mm 31 #[.val (.ref a), .val (.int (2 : Int32)), .val (.ref b), .val (.int (2 : Int32)), .val (.int (3 : Int32)), .val (.int (2 : Int32)), .val (.int c2)] [(.int c2), (.int (2 : Int32)), (.ref b)]))
  refine Go.bst X114 hx hZ e114 V114 ⟨by decide, by decide⟩ (i := 2) rfl (Nat.le_of_ble_eq_true rfl) (hb hby d7_31) ?_
  intro T115 h115 X115 e115 W115 V115
  rw [hk109] at V115
  replace V115 : Arv Z h115 b kb .byte (3 : Int32) [(.int c0), (.int c1), (.int c2)] (.int (0 : Int32)) := V115
  have N115 := Fr.snoc X115 N114 g
  replace Va := Va.other W115 ne
  have OW115 := ext_wr OW114 W115 g
  replace KP := KP.wr W115 (Or.inl (List.mem_of_getElem? (i := 0) rfl))
  refine Go.iinc X115 hx (hb hby d7_32) rfl (r := (3 : Int32)) rfl (l' := #[.val (.ref a), .val (.int (3 : Int32)), .val (.ref b), .val (.int (2 : Int32)), .val (.int (3 : Int32)), .val (.int (2 : Int32)), .val (.int c2)]) rfl (q := 35) rfl ?_
  refine Go.iinc X115 hx (hb hby d7_35) rfl (r := (3 : Int32)) rfl (l' := #[.val (.ref a), .val (.int (3 : Int32)), .val (.ref b), .val (.int (3 : Int32)), .val (.int (3 : Int32)), .val (.int (2 : Int32)), .val (.int c2)]) rfl (q := 38) rfl ?_
  refine Go.iinc X115 hx (hb hby d7_38) rfl (r := (3 : Int32)) rfl (l' := #[.val (.ref a), .val (.int (3 : Int32)), .val (.ref b), .val (.int (3 : Int32)), .val (.int (3 : Int32)), .val (.int (3 : Int32)), .val (.int c2)]) rfl (q := 41) rfl ?_
  refine Go.goto X115 hx (hb hby d7_41) (q := 3) (by decide) (by decide) ?_
  refine Go.iload X115 hx (hb hby d7_3) rfl (q := 5) rfl ?_
  refine Go.iload X115 hx (hb hby d7_5) rfl (q := 7) rfl ?_
  refine Go.icmpYes X115 hx (hb hby d7_7) (by decide) (q := 44) (by decide) (by decide) ?_
  refine Go.iload X115 hx (hb hby d7_44) rfl (q := 46) rfl ?_
  exact Go.retI X115 hx hret hlk (Or.inl rfl) rfl (hb hby d7_46) e115 (by decide) (by decide) ⟨rfl, N115, KP, V115⟩
def Q_ccmq3 (Z : State) (a : Addr) (ka : ClassId) (c0 : Int32) (c1 : Int32) (c2 : Int32) (h0 : Heap) (vR : Option Value) (hR : Heap) (LR : List Loc) : Prop := ∃ b : Addr, ∃ kb : ClassId, vR = some (.ref b) ∧ Fr Z.heap.size LR ∧ Keep h0 hR [] ∧ h0.size ≤ b ∧ Arv Z hR b kb .byte (3 : Int32) [(.int c0), (.int c1), (.int c2)] (.int (0 : Int32))
set_option maxRecDepth 65536 in
set_option maxHeartbeats 40000000 in
theorem ccmq3 (l : Launch) (Z : State) (a0 : Array Value) (hw : ∀ d ∈ tables_1, d.before a0 Z = true) (a : Addr) (ka : ClassId) (c0 : Int32) (c1 : Int32) (c2 : Int32) (h0 : Heap) (O0 : Ext Z.heap h0) (Va : Arv Z h0 a ka .char (3 : Int32) [(.int c0), (.int c1), (.int c2)] (.int (0 : Int32))) (hc0 : c0 ∈ ownL) (hc1 : c1 ∈ ownL) (hc2 : c2 ∈ ownL) :
    Ctr l Z h0 (⟨"java/lang/StringUTF16", "compress", "([CII)[B"⟩ : MethodName) jdk_52_method_16_code 6 (some (.array .byte)) [] ({ frames := 1, cells := 1, slots := 3, locals := 18 } : Room) #[(.ref a), (.int (0 : Int32)), (.int (3 : Int32))] (Q_ccmq3 Z a ka c0 c1 c2 h0) := by
  refine enter (plainFor_of_name pn1) ?_
  intro pp ee ss mm below meth cc s₁ hx hby hml hZ hown hnm hret hlk X0 e0 hs0
  replace hown : ss.vm.findClass "java/lang/StringUTF16" = some mm.cls := hown
  refine Go.cast (congrArg s₁.setTop (ef_ccmq3 mm a)) ?_
  have N0 := Fr.nil Z.heap.size
  have KP := Keep.refl h0 []
  show Go pp ee below _ (s₁.setTop (mkF mm 0 #[.val (.ref a), .val (.int (0 : Int32)), .val (.int (3 : Int32)), .unset, .unset, .unset] []))
  refine Go.iloadN X0 hx (hb hby d6_0) rfl (q := 1) rfl ?_
  refine Go.newP X0 hx hZ (hb hby d6_1) (wd27 hw) e0 (by decide) (cap := 3) (by decide) (by decide) (by decide) (by decide) (ad := "[B") rfl (q := 3) rfl ?_
  intro b101 T101 h101 k101 X101 e101 q101 E101 V101 B101
  have ne_a_b101 : a ≠ b101 := ne_new Va.lt (Nat.le_of_eq q101)
  have g_b101 : Z.heap.size ≤ b101 := Nat.le_trans O0.1 (Nat.le_of_eq q101)
  have z_b101 : h0.size ≤ b101 := Nat.le_trans KP.1 (Nat.le_of_eq q101)
  replace Va := Va.ext E101
  have OE101 := ext_trans O0 E101
  replace KP := KP.ext E101
  replace V101 : Arv Z h101 b101 k101 .byte (3 : Int32) [(.int (0 : Int32)), (.int (0 : Int32)), (.int (0 : Int32))] (.int (0 : Int32)) := V101.pad (pad_rep [] (.int (0 : Int32)) 3)
  refine Go.astoreN X101 hx (hb hby d6_3) rfl (l' := #[.val (.ref a), .val (.int (0 : Int32)), .val (.int (3 : Int32)), .val (.ref b101), .unset, .unset]) rfl (q := 4) rfl ?_
  refine Go.aloadN X101 hx (hb hby d6_4) rfl rfl (q := 5) rfl ?_
  refine Go.iloadN X101 hx (hb hby d6_5) rfl (q := 6) rfl ?_
  refine Go.aloadN X101 hx (hb hby d6_6) rfl rfl (q := 7) rfl ?_
  refine Go.iconst X101 hx (hb hby d6_7) (r := (0 : Int32)) rfl (q := 8) rfl ?_
  refine Go.iloadN X101 hx (hb hby d6_8) rfl (q := 9) rfl ?_
  refine Go.callS X101 hx hZ hown (wd28 hw) (wd29 hw) (wd25 hw) (wd30 hw) (by decide) (ccmp3 l Z a0 hw a b101 (ka) (k101) c0 c1 c2 h101 OE101 Va V101 g_b101 ne_a_b101 hc0 hc1 hc2) e101 (by rw [hml]; rfl) (hb hby d6_9) (argsL := [(.ref a), (.int (0 : Int32)), (.ref b101), (.int (0 : Int32)), (.int (3 : Int32))]) (rest := []) (lenOf pd0 rfl) rfl rfl (W := 0) (by first | exact Nat.le_refl _ | decide) (by decide) (by decide) (by decide) (by decide) ?_
  intro v102 T102 L102 X102 hQ102
  obtain ⟨h102, e102⟩ : ∃ z, T102.heap = z := ⟨_, rfl⟩
  rw [e102] at hQ102
  obtain ⟨rfl, N102q, K102, P102_0⟩ := hQ102
  have N102 := Fr.app N0 N102q
  replace Va := Va.keep K102 (ninS ne_a_b101 nin0)
  replace B101 := B101.keep K102
  have OK102 := ext_keep OE101 K102 (allS g_b101 all0)
  replace KP := KP.trans K102 (allS (Or.inr z_b101) all0)
  refine Go.istore X102 hx (hb hby d6_12) (l' := #[.val (.ref a), .val (.int (0 : Int32)), .val (.int (3 : Int32)), .val (.ref b101), .val (.int (3 : Int32)), .unset]) rfl (q := 14) rfl ?_
  refine Go.iload X102 hx (hb hby d6_14) rfl (q := 16) rfl ?_
  refine Go.iloadN X102 hx (hb hby d6_16) rfl (q := 17) rfl ?_
  refine Go.icmpYes X102 hx (hb hby d6_17) (by decide) (q := 57) (by decide) (by decide) ?_
  refine Go.aloadN X102 hx (hb hby d6_57) rfl rfl (q := 58) rfl ?_
  exact Go.retA X102 hx hret hlk rfl rfl (hb hby d6_58) e102 (by decide) (by decide) ⟨b101, k101, rfl, N102, KP, z_b101, P102_0⟩
def Q_ccal3 (Z : State) (b : Addr) (kb : ClassId) (c0 : Int32) (c1 : Int32) (c2 : Int32) (h0 : Heap) (vR : Option Value) (hR : Heap) (LR : List Loc) : Prop := vR = some (.int (0 : Int32)) ∧ Fr Z.heap.size LR ∧ hR = h0
set_option maxRecDepth 65536 in
set_option maxHeartbeats 40000000 in
theorem ccal3 (l : Launch) (Z : State) (a0 : Array Value) (hw : ∀ d ∈ tables_1, d.before a0 Z = true) (b : Addr) (kb : ClassId) (c0 : Int32) (c1 : Int32) (c2 : Int32) (h0 : Heap) (O0 : Ext Z.heap h0) (Vb : Arv Z h0 b kb .byte (3 : Int32) [(.int c0), (.int c1), (.int c2)] (.int (0 : Int32))) :
    Ctr l Z h0 (⟨"java/lang/StringUTF16", "coderFromArrayLen", "([BI)B"⟩ : MethodName) jdk_52_method_15_code 2 (some .byte) [] ({ frames := 0, cells := 0, slots := 0, locals := 0 } : Room) #[(.ref b), (.int (3 : Int32))] (Q_ccal3 Z b kb c0 c1 c2 h0) := by
  refine enter (plainFor_of_name pn1) ?_
  intro pp ee ss mm below meth cc s₁ hx hby hml hZ hown hnm hret hlk X0 e0 hs0
  replace hown : ss.vm.findClass "java/lang/StringUTF16" = some mm.cls := hown
  refine Go.cast (congrArg s₁.setTop (ef_ccal3 mm b)) ?_
  have N0 := Fr.nil Z.heap.size
  show Go pp ee below _ (s₁.setTop (mkF mm 0 #[.val (.ref b), .val (.int (3 : Int32))] []))
  refine Go.iloadN X0 hx (hb hby d8_0) rfl (q := 1) rfl ?_
  refine Go.aloadN X0 hx (hb hby d8_1) rfl rfl (q := 2) rfl ?_
  refine Go.alen X0 hx hZ e0 Vb (hb hby d8_2) ?_
  refine Go.isub X0 hx (hb hby d8_3) (r := (0 : Int32)) rfl (q := 4) rfl ?_
  refine Go.bipush X0 hx (hb hby d8_4) (r := (31 : Int32)) rfl (q := 6) rfl ?_
  refine Go.iushr X0 hx (hb hby d8_6) (r := (0 : Int32)) rfl (q := 7) rfl ?_
  refine Go.i2b X0 hx (hb hby d8_7) (r := (0 : Int32)) rfl (q := 8) rfl ?_
  exact Go.retI X0 hx hret hlk (by simp) rfl (hb hby d8_8) e0 (by decide) (by decide) ⟨rfl, N0, rfl⟩
def Q_csi3 (Z : State) (o : Addr) (a : Addr) (cs : Int32) (ka : ClassId) (c0 : Int32) (c1 : Int32) (c2 : Int32) (h0 : Heap) (vR : Option Value) (hR : Heap) (LR : List Loc) : Prop := ∃ b : Addr, ∃ kb : ClassId, vR = none ∧ Fr Z.heap.size LR ∧ Keep h0 hR [o] ∧ h0.size ≤ b ∧ Fld Z hR o "java/lang/String" "value" "[B" (.ref b) ∧ Fld Z hR o "java/lang/String" "coder" "B" (.int (0 : Int32)) ∧ Arv Z hR b kb .byte (3 : Int32) [(.int c0), (.int c1), (.int c2)] (.int (0 : Int32))
set_option maxRecDepth 65536 in
set_option maxHeartbeats 40000000 in
theorem csi3 (l : Launch) (Z : State) (a0 : Array Value) (hw : ∀ d ∈ tables_1, d.before a0 Z = true) (o : Addr) (a : Addr) (cs : Int32) (ka : ClassId) (c0 : Int32) (c1 : Int32) (c2 : Int32) (h0 : Heap) (O0 : Ext Z.heap h0) (Eo : Exa Z h0 o "java/lang/String") (Fv : Fld Z h0 o "java/lang/String" "value" "[B" .null) (Fc : Fld Z h0 o "java/lang/String" "coder" "B" (.int (0 : Int32))) (g : Z.heap.size ≤ o) (Va : Arv Z h0 a ka .char (3 : Int32) [(.int c0), (.int c1), (.int c2)] (.int (0 : Int32))) (SCS : Sta Z Z.heap "java/lang/String" "COMPACT_STRINGS" "Z" (.int cs)) (hcs : ¬ (cs = (0 : Int32))) (hc0 : c0 ∈ ownL) (hc1 : c1 ∈ ownL) (hc2 : c2 ∈ ownL) :
    Ctr l Z h0 (⟨"java/lang/String", "<init>", "([CIILjava/lang/Void;)V"⟩ : MethodName) jdk_42_method_149_code 6 none [] ({ frames := 2, cells := 1, slots := 3, locals := 35 } : Room) #[(.ref o), (.ref a), (.int (0 : Int32)), (.int (3 : Int32)), .null] (Q_csi3 Z o a cs ka c0 c1 c2 h0) := by
  refine enter (plainFor_of_name pn2) ?_
  intro pp ee ss mm below meth cc s₁ hx hby hml hZ hown hnm hret hlk X0 e0 hs0
  replace hown : ss.vm.findClass "java/lang/String" = some mm.cls := hown
  refine Go.cast (congrArg s₁.setTop (ef_csi3 mm o a)) ?_
  have N0 := Fr.nil Z.heap.size
  have KP := Keep.refl h0 [o]
  show Go pp ee below _ (s₁.setTop (mkF mm 0 #[.val (.ref o), .val (.ref a), .val (.int (0 : Int32)), .val (.int (3 : Int32)), .val .null, .unset] []))
  refine Go.aloadN X0 hx (hb hby d4_0) rfl rfl (q := 1) rfl ?_
  refine Go.initO X0 hx hZ hown (wd19 hw) (wd20 hw) (wd21 hw) e0 (by rw [hml]; rfl) (hb hby d4_1) (by decide) (W := 0) (by exact Nat.le_refl _) (by decide) (q := 4) rfl ?_
  intro T101 X101 e101
  refine Go.iloadN X101 hx (hb hby d4_4) rfl (q := 5) rfl ?_
  refine Go.ifYes X101 hx (hb hby d4_5) (by decide) (q := 27) (by decide) (by decide) ?_
  refine Go.getS X101 hx hZ hown (host := "") (Or.inl (wd22 hw)) Via.refl e101 (SCS.ext O0) (hb hby d4_27) (q := 30) rfl ?_
  intro T102 X102 e102
  refine Go.ifNo X102 hx (hb hby d4_30) (Jvm.Free.XT.i0_eq_f hcs) (q := 33) rfl ?_
  refine Go.aloadN X102 hx (hb hby d4_33) rfl rfl (q := 34) rfl ?_
  refine Go.iloadN X102 hx (hb hby d4_34) rfl (q := 35) rfl ?_
  refine Go.iloadN X102 hx (hb hby d4_35) rfl (q := 36) rfl ?_
  refine Go.callS X102 hx hZ hown (wd23 hw) (wd24 hw) (wd25 hw) (wd26 hw) (by decide) (ccmq3 l Z a0 hw a (ka) c0 c1 c2 h0 O0 Va hc0 hc1 hc2) e102 (by rw [hml]; rfl) (hb hby d4_36) (argsL := [(.ref a), (.int (0 : Int32)), (.int (3 : Int32))]) (rest := []) (lenOf pd1 rfl) rfl rfl (W := 0) (by first | exact Nat.le_refl _ | decide) (by decide) (by decide) (by decide) (by decide) ?_
  intro v103 T103 L103 X103 hQ103
  obtain ⟨h103, e103⟩ : ∃ z, T103.heap = z := ⟨_, rfl⟩
  rw [e103] at hQ103
  obtain ⟨b_103, kb_103, rfl, N103q, K103, fr103_b, P103_0⟩ := hQ103
  have N103 := Fr.app N0 N103q
  have ne_o_b_103 : o ≠ b_103 := ne_new Eo.lt fr103_b
  have ne_a_b_103 : a ≠ b_103 := ne_new Va.lt fr103_b
  have g_b_103 : Z.heap.size ≤ b_103 := Nat.le_trans O0.1 fr103_b
  have z_b_103 : h0.size ≤ b_103 := Nat.le_trans KP.1 fr103_b
  replace Eo := Eo.keep K103
  replace Fv := Fv.keep K103 nin0
  replace Fc := Fc.keep K103 nin0
  replace Va := Va.keep K103 nin0
  have OK103 := ext_keep O0 K103 all0
  replace KP := KP.trans K103 all0
  refine Go.astore X103 hx (hb hby d4_39) rfl (l' := #[.val (.ref o), .val (.ref a), .val (.int (0 : Int32)), .val (.int (3 : Int32)), .val .null, .val (.ref b_103)]) rfl (q := 41) rfl ?_
  refine Go.aloadN X103 hx (hb hby d4_41) rfl rfl (q := 42) rfl ?_
  refine Go.aload X103 hx (hb hby d4_42) rfl rfl (q := 44) rfl ?_
  refine Go.iloadN X103 hx (hb hby d4_44) rfl (q := 45) rfl ?_
  refine Go.callS X103 hx hZ hown (wd31 hw) (wd32 hw) (wd25 hw) (wd33 hw) (by decide) (ccal3 l Z a0 hw b_103 (kb_103) c0 c1 c2 h103 OK103 P103_0) e103 (by rw [hml]; rfl) (hb hby d4_45) (argsL := [(.ref b_103), (.int (3 : Int32))]) (rest := [(.ref o)]) (lenOf pd2 rfl) rfl rfl (W := 1) (by first | exact Nat.le_refl _ | decide) (by decide) (by decide) (by decide) (by decide) ?_
  intro v104 T104 L104 X104 hQ104
  obtain ⟨rfl, N104q, e104⟩ := hQ104
  have N104 := Fr.app N103 N104q
  refine Go.putF X104 hx hZ hown (host := "") (Or.inl (wd34 hw)) Via.refl e104 Fc Eo (Or.inr ⟨(wd35 hw), rfl, hnm⟩) (wd9 hw) (ty := .byte) (by decide) rfl rfl (hb hby d4_48) (q := 51) rfl ?_
  intro T105 h105 X105 e105 W105 F105
  have N105 := Fr.snoc X105 N104 g
  replace Eo := Eo.wr W105
  replace Fv := Fv.other W105 (Or.inr (slot_ne (Or.inr (wd37 hw)) (Or.inr (wd35 hw)) (by decide) (t := (.array .byte)) (t' := .byte) (by decide) (by decide)))
  replace P103_0 := P103_0.other W105 (Ne.symm ne_o_b_103)
  have OW105 := ext_wr OK103 W105 g
  replace KP := KP.wr W105 (Or.inl (List.mem_of_getElem? (i := 0) rfl))
  refine Go.aloadN X105 hx (hb hby d4_51) rfl rfl (q := 52) rfl ?_
  refine Go.aload X105 hx (hb hby d4_52) rfl rfl (q := 54) rfl ?_
  refine Go.putF X105 hx hZ hown (host := "") (Or.inl (wd36 hw)) Via.refl e105 Fv Eo (Or.inr ⟨(wd37 hw), rfl, hnm⟩) (wd9 hw) (ty := (.array .byte)) (by decide) rfl rfl (hb hby d4_54) (q := 57) rfl ?_
  intro T106 h106 X106 e106 W106 F106
  have N106 := Fr.snoc X106 N105 g
  replace Eo := Eo.wr W106
  replace P103_0 := P103_0.other W106 (Ne.symm ne_o_b_103)
  replace F105 := F105.other W106 (Or.inr (slot_ne (Or.inr (wd35 hw)) (Or.inr (wd37 hw)) (by decide) (t := .byte) (t' := (.array .byte)) (by decide) (by decide)))
  have OW106 := ext_wr OW105 W106 g
  replace KP := KP.wr W106 (Or.inl (List.mem_of_getElem? (i := 0) rfl))
  exact Go.retV X106 hx hret hlk (hb hby d4_57) e106 (by decide) (by decide) ⟨b_103, kb_103, rfl, N106, KP, z_b_103, F106, F105, P103_0⟩
def Q_csj3 (Z : State) (o : Addr) (a : Addr) (cs : Int32) (ka : ClassId) (c0 : Int32) (c1 : Int32) (c2 : Int32) (h0 : Heap) (vR : Option Value) (hR : Heap) (LR : List Loc) : Prop := ∃ b : Addr, ∃ kb : ClassId, vR = none ∧ Fr Z.heap.size LR ∧ Keep h0 hR [o] ∧ h0.size ≤ b ∧ Fld Z hR o "java/lang/String" "value" "[B" (.ref b) ∧ Fld Z hR o "java/lang/String" "coder" "B" (.int (0 : Int32)) ∧ Arv Z hR b kb .byte (3 : Int32) [(.int c0), (.int c1), (.int c2)] (.int (0 : Int32))
set_option maxRecDepth 65536 in
set_option maxHeartbeats 40000000 in
theorem csj3 (l : Launch) (Z : State) (a0 : Array Value) (hw : ∀ d ∈ tables_1, d.before a0 Z = true) (o : Addr) (a : Addr) (cs : Int32) (ka : ClassId) (c0 : Int32) (c1 : Int32) (c2 : Int32) (h0 : Heap) (O0 : Ext Z.heap h0) (Eo : Exa Z h0 o "java/lang/String") (Fv : Fld Z h0 o "java/lang/String" "value" "[B" .null) (Fc : Fld Z h0 o "java/lang/String" "coder" "B" (.int (0 : Int32))) (g : Z.heap.size ≤ o) (Va : Arv Z h0 a ka .char (3 : Int32) [(.int c0), (.int c1), (.int c2)] (.int (0 : Int32))) (SCS : Sta Z Z.heap "java/lang/String" "COMPACT_STRINGS" "Z" (.int cs)) (hcs : ¬ (cs = (0 : Int32))) (hc0 : c0 ∈ ownL) (hc1 : c1 ∈ ownL) (hc2 : c2 ∈ ownL) :
    Ctr l Z h0 (⟨"java/lang/String", "<init>", "([C)V"⟩ : MethodName) jdk_42_method_3_code 2 none [] ({ frames := 3, cells := 1, slots := 3, locals := 52 } : Room) #[(.ref o), (.ref a)] (Q_csj3 Z o a cs ka c0 c1 c2 h0) := by
  refine enter (plainFor_of_name pn2) ?_
  intro pp ee ss mm below meth cc s₁ hx hby hml hZ hown hnm hret hlk X0 e0 hs0
  replace hown : ss.vm.findClass "java/lang/String" = some mm.cls := hown
  refine Go.cast (congrArg s₁.setTop (ef_csj3 mm o a)) ?_
  have N0 := Fr.nil Z.heap.size
  have KP := Keep.refl h0 [o]
  show Go pp ee below _ (s₁.setTop (mkF mm 0 #[.val (.ref o), .val (.ref a)] []))
  refine Go.aloadN X0 hx (hb hby d3_0) rfl rfl (q := 1) rfl ?_
  refine Go.aloadN X0 hx (hb hby d3_1) rfl rfl (q := 2) rfl ?_
  refine Go.iconst X0 hx (hb hby d3_2) (r := (0 : Int32)) rfl (q := 3) rfl ?_
  refine Go.aloadN X0 hx (hb hby d3_3) rfl rfl (q := 4) rfl ?_
  refine Go.alen X0 hx hZ e0 Va (hb hby d3_4) ?_
  refine Go.aconst_null X0 hx (hb hby d3_5) (q := 6) rfl ?_
  refine Go.init X0 hx hZ hown rfl (wd15 hw) (wd16 hw) (wd10 hw) (wd18 hw) (by decide) (csi3 l Z a0 hw o a cs (ka) c0 c1 c2 h0 O0 Eo Fv Fc g Va SCS hcs hc0 hc1 hc2) e0 (by rw [hml]; rfl) (hb hby d3_6) (argsL := [(.ref a), (.int (0 : Int32)), (.int (3 : Int32)), .null]) (rest := []) (lenOf pd3 rfl) rfl rfl (W := 0) (by first | exact Nat.le_refl _ | decide) (by decide) (by decide) (by decide) (by decide) ?_
  intro v101 T101 L101 X101 hQ101
  obtain ⟨h101, e101⟩ : ∃ z, T101.heap = z := ⟨_, rfl⟩
  rw [e101] at hQ101
  obtain ⟨b_101, kb_101, rfl, N101q, K101, fr101_b, P101_0, P101_1, P101_2⟩ := hQ101
  have N101 := Fr.app N0 N101q
  have ne_o_b_101 : o ≠ b_101 := ne_new Eo.lt fr101_b
  have ne_a_b_101 : a ≠ b_101 := ne_new Va.lt fr101_b
  have g_b_101 : Z.heap.size ≤ b_101 := Nat.le_trans O0.1 fr101_b
  have z_b_101 : h0.size ≤ b_101 := Nat.le_trans KP.1 fr101_b
  replace Eo := Eo.keep K101
  have OK101 := ext_keep O0 K101 (allS g all0)
  replace KP := KP.trans K101 (allS (Or.inl (List.mem_of_getElem? (i := 0) rfl)) all0)
  exact Go.retV X101 hx hret hlk (hb hby d3_9) e101 (by decide) (by decide) ⟨b_101, kb_101, rfl, N101, KP, z_b_101, P101_0, P101_1, P101_2⟩
def Q_cmk3 (Z : State) (cs : Int32) (c0 : Int32) (c1 : Int32) (c2 : Int32) (c3 : Int32) (h0 : Heap) (vR : Option Value) (hR : Heap) (LR : List Loc) : Prop := ∃ s : Addr, ∃ b : Addr, ∃ kb : ClassId, vR = some (.ref s) ∧ Fr Z.heap.size LR ∧ Keep h0 hR [] ∧ h0.size ≤ s ∧ h0.size ≤ b ∧ Exa Z hR s "java/lang/String" ∧ Fld Z hR s "java/lang/String" "coder" "B" (.int (0 : Int32)) ∧ Fld Z hR s "java/lang/String" "value" "[B" (.ref b) ∧ Arv Z hR b kb .byte (3 : Int32) [(.int c0), (.int c1), (.int c2)] (.int (0 : Int32))
set_option maxRecDepth 65536 in
set_option maxHeartbeats 40000000 in
theorem cmk3 (l : Launch) (Z : State) (a0 : Array Value) (hw : ∀ d ∈ tables_1, d.before a0 Z = true) (cs : Int32) (c0 : Int32) (c1 : Int32) (c2 : Int32) (c3 : Int32) (h0 : Heap) (O0 : Ext Z.heap h0) (SCS : Sta Z Z.heap "java/lang/String" "COMPACT_STRINGS" "Z" (.int cs)) (hcs : ¬ (cs = (0 : Int32))) (hc0 : c0 ∈ ownL) (hc1 : c1 ∈ ownL) (hc2 : c2 ∈ ownL) :
    Ctr l Z h0 (⟨"com/example/cronopoly/cronopoly/ScheduleIdOfPinLaw", "make", "(ICCCC)Ljava/lang/String;"⟩ : MethodName) method_3_code 5 (some (.object "java/lang/String")) [] ({ frames := 4, cells := 3, slots := 10, locals := 66 } : Room) #[(.int (3 : Int32)), (.int c0), (.int c1), (.int c2), (.int c3)] (Q_cmk3 Z cs c0 c1 c2 c3 h0) := by
  refine enter (plainFor_of_name pn0) ?_
  intro pp ee ss mm below meth cc s₁ hx hby hml hZ hown hnm hret hlk X0 e0 hs0
  replace hown : ss.vm.findClass "com/example/cronopoly/cronopoly/ScheduleIdOfPinLaw" = some mm.cls := hown
  refine Go.cast (congrArg s₁.setTop (ef_cmk3 mm c0 c1 c2 c3)) ?_
  have N0 := Fr.nil Z.heap.size
  have KP := Keep.refl h0 []
  show Go pp ee below _ (s₁.setTop (mkF mm 0 #[.val (.int (3 : Int32)), .val (.int c0), .val (.int c1), .val (.int c2), .val (.int c3)] []))
  have hk101 : (c0.toInt8.toInt32) = c0 := own_b _ hc0
  have hk102 : nar .char c0 = c0 := own_nar _ hc0
  have hk103 : (c0 &&& (255 : Int32)) = c0 := own_a _ hc0
  have hk104 : ¬ ((255 : Int32) < c0) := own_255 _ hc0
  have hk105 : (c1.toInt8.toInt32) = c1 := own_b _ hc1
  have hk106 : nar .char c1 = c1 := own_nar _ hc1
  have hk107 : (c1 &&& (255 : Int32)) = c1 := own_a _ hc1
  have hk108 : ¬ ((255 : Int32) < c1) := own_255 _ hc1
  have hk109 : (c2.toInt8.toInt32) = c2 := own_b _ hc2
  have hk110 : nar .char c2 = c2 := own_nar _ hc2
  have hk111 : (c2 &&& (255 : Int32)) = c2 := own_a _ hc2
  have hk112 : ¬ ((255 : Int32) < c2) := own_255 _ hc2
  refine Go.iloadN X0 hx (hb hby d2_0) rfl (q := 1) rfl ?_
  refine Go.iconst X0 hx (hb hby d2_1) (r := (1 : Int32)) rfl (q := 2) rfl ?_
  refine Go.icmpYes X0 hx (hb hby d2_2) (by decide) (q := 20) (by decide) (by decide) ?_
  refine Go.iloadN X0 hx (hb hby d2_20) rfl (q := 21) rfl ?_
  refine Go.iconst X0 hx (hb hby d2_21) (r := (2 : Int32)) rfl (q := 22) rfl ?_
  refine Go.icmpYes X0 hx (hb hby d2_22) (by decide) (q := 44) (by decide) (by decide) ?_
  refine Go.iloadN X0 hx (hb hby d2_44) rfl (q := 45) rfl ?_
  refine Go.iconst X0 hx (hb hby d2_45) (r := (3 : Int32)) rfl (q := 46) rfl ?_
  refine Go.icmpNo X0 hx (hb hby d2_46) (by decide) (q := 49) rfl ?_
  refine Go.newO X0 hx hZ hown (wd8 hw) (wd9 hw) (wd10 hw) e0 (hb hby d2_49) (by decide) (by decide) (q := 52) rfl ?_
  intro b113 T113 h113 X113 e113 q113 E113 A113 D113 U113
  have g_b113 : Z.heap.size ≤ b113 := Nat.le_trans O0.1 (Nat.le_of_eq q113)
  have z_b113 : h0.size ≤ b113 := Nat.le_trans KP.1 (Nat.le_of_eq q113)
  have OE113 := ext_trans O0 E113
  replace KP := KP.ext E113
  have F113_coder : Fld Z h113 b113 "java/lang/String" "coder" "B" (.int (0 : Int32)) := D113 (Or.inr (wd35 hw)) (ty := .byte) (by decide)
  have F113_value : Fld Z h113 b113 "java/lang/String" "value" "[B" .null := D113 (Or.inr (wd37 hw)) (ty := (.array .byte)) (by decide)
  clear D113
  refine Go.dup X113 hx (hb hby d2_52) rfl (q := 53) rfl ?_
  refine Go.iconst X113 hx (hb hby d2_53) (r := (3 : Int32)) rfl (q := 54) rfl ?_
  refine Go.newP X113 hx hZ (hb hby d2_54) (wd11 hw) e113 (by decide) (cap := 3) (by decide) (by decide) (by decide) (by decide) (ad := "[C") rfl (q := 56) rfl ?_
  intro b114 T114 h114 k114 X114 e114 q114 E114 V114 B114
  have ne_b113_b114 : b113 ≠ b114 := ne_new A113.lt (Nat.le_of_eq q114)
  have g_b114 : Z.heap.size ≤ b114 := Nat.le_trans OE113.1 (Nat.le_of_eq q114)
  have z_b114 : h0.size ≤ b114 := Nat.le_trans KP.1 (Nat.le_of_eq q114)
  replace A113 := A113.ext E114
  replace F113_coder := F113_coder.ext E114
  replace F113_value := F113_value.ext E114
  have OE114 := ext_trans OE113 E114
  replace KP := KP.ext E114
  replace V114 : Arv Z h114 b114 k114 .char (3 : Int32) [(.int (0 : Int32)), (.int (0 : Int32)), (.int (0 : Int32))] (.int (0 : Int32)) := V114.pad (pad_rep [] (.int (0 : Int32)) 3)
  refine Go.dup X114 hx (hb hby d2_56) rfl (q := 57) rfl ?_
  refine Go.iconst X114 hx (hb hby d2_57) (r := (0 : Int32)) rfl (q := 58) rfl ?_
  refine Go.iloadN X114 hx (hb hby d2_58) rfl (q := 59) rfl ?_
  refine Go.cst X114 hx hZ e114 V114 ⟨by decide, by decide⟩ (i := 0) rfl (Nat.le_of_ble_eq_true rfl) (hb hby d2_59) ?_
  intro T115 h115 X115 e115 W115 V115
  rw [hk102] at V115
  replace V115 : Arv Z h115 b114 k114 .char (3 : Int32) [(.int c0), (.int (0 : Int32)), (.int (0 : Int32))] (.int (0 : Int32)) := V115
  have N115 := Fr.snoc X115 N0 g_b114
  replace A113 := A113.wr W115
  replace F113_coder := F113_coder.other W115 (Or.inl ne_b113_b114)
  replace F113_value := F113_value.other W115 (Or.inl ne_b113_b114)
  replace B114 := B114.wr W115
  have OW115 := ext_wr OE114 W115 g_b114
  replace KP := KP.wr W115 (Or.inr z_b114)
  refine Go.dup X115 hx (hb hby d2_60) rfl (q := 61) rfl ?_
  refine Go.iconst X115 hx (hb hby d2_61) (r := (1 : Int32)) rfl (q := 62) rfl ?_
  refine Go.iloadN X115 hx (hb hby d2_62) rfl (q := 63) rfl ?_
  refine Go.cst X115 hx hZ e115 V115 ⟨by decide, by decide⟩ (i := 1) rfl (Nat.le_of_ble_eq_true rfl) (hb hby d2_63) ?_
  intro T116 h116 X116 e116 W116 V116
  rw [hk106] at V116
  replace V116 : Arv Z h116 b114 k114 .char (3 : Int32) [(.int c0), (.int c1), (.int (0 : Int32))] (.int (0 : Int32)) := V116
  have N116 := Fr.snoc X116 N115 g_b114
  replace A113 := A113.wr W116
  replace F113_coder := F113_coder.other W116 (Or.inl ne_b113_b114)
  replace F113_value := F113_value.other W116 (Or.inl ne_b113_b114)
  replace B114 := B114.wr W116
  have OW116 := ext_wr OW115 W116 g_b114
  replace KP := KP.wr W116 (Or.inr z_b114)
  refine Go.dup X116 hx (hb hby d2_64) rfl (q := 65) rfl ?_
  refine Go.iconst X116 hx (hb hby d2_65) (r := (2 : Int32)) rfl (q := 66) rfl ?_
  refine Go.iloadN X116 hx (hb hby d2_66) rfl (q := 67) rfl ?_
  refine Go.cst X116 hx hZ e116 V116 ⟨by decide, by decide⟩ (i := 2) rfl (Nat.le_of_ble_eq_true rfl) (hb hby d2_67) ?_
  intro T117 h117 X117 e117 W117 V117
  rw [hk110] at V117
  replace V117 : Arv Z h117 b114 k114 .char (3 : Int32) [(.int c0), (.int c1), (.int c2)] (.int (0 : Int32)) := V117
  have N117 := Fr.snoc X117 N116 g_b114
  replace A113 := A113.wr W117
  replace F113_coder := F113_coder.other W117 (Or.inl ne_b113_b114)
  replace F113_value := F113_value.other W117 (Or.inl ne_b113_b114)
  replace B114 := B114.wr W117
  have OW117 := ext_wr OW116 W117 g_b114
  replace KP := KP.wr W117 (Or.inr z_b114)
  refine Go.init X117 hx hZ hown rfl (wd12 hw) (wd13 hw) (wd10 hw) (wd14 hw) (by decide) (csj3 l Z a0 hw b113 b114 cs (k114) c0 c1 c2 h117 OW117 A113 F113_value F113_coder g_b113 V117 SCS hcs hc0 hc1 hc2) e117 (by rw [hml]; rfl) (hb hby d2_68) (argsL := [(.ref b114)]) (rest := [(.ref b113)]) (lenOf pd4 rfl) rfl rfl (W := 1) (by first | exact Nat.le_refl _ | decide) (by decide) (by decide) (by decide) (by decide) ?_
  intro v118 T118 L118 X118 hQ118
  obtain ⟨h118, e118⟩ : ∃ z, T118.heap = z := ⟨_, rfl⟩
  rw [e118] at hQ118
  obtain ⟨b_118, kb_118, rfl, N118q, K118, fr118_b, P118_0, P118_1, P118_2⟩ := hQ118
  have N118 := Fr.app N117 N118q
  have ne_b113_b_118 : b113 ≠ b_118 := ne_new A113.lt fr118_b
  have ne_b114_b_118 : b114 ≠ b_118 := ne_new B114.lt fr118_b
  have g_b_118 : Z.heap.size ≤ b_118 := Nat.le_trans OW117.1 fr118_b
  have z_b_118 : h0.size ≤ b_118 := Nat.le_trans KP.1 fr118_b
  replace A113 := A113.keep K118
  replace B114 := B114.keep K118
  replace V117 := V117.keep K118 (ninS (Ne.symm ne_b113_b114) nin0)
  have OK118 := ext_keep OW117 K118 (allS g_b113 all0)
  replace KP := KP.trans K118 (allS (Or.inr z_b113) all0)
  exact Go.retA X118 hx hret hlk rfl rfl (hb hby d2_71) e118 (by decide) (by decide) ⟨b113, b_118, kb_118, rfl, N118, KP, z_b113, z_b_118, A113, P118_1, P118_0, P118_2⟩
def Q_ccmp4 (Z : State) (a : Addr) (b : Addr) (ka : ClassId) (kb : ClassId) (c0 : Int32) (c1 : Int32) (c2 : Int32) (c3 : Int32) (h0 : Heap) (vR : Option Value) (hR : Heap) (LR : List Loc) : Prop := vR = some (.int (4 : Int32)) ∧ Fr Z.heap.size LR ∧ Keep h0 hR [b] ∧ Arv Z hR b kb .byte (4 : Int32) [(.int c0), (.int c1), (.int c2), (.int c3)] (.int (0 : Int32))
set_option maxRecDepth 65536 in
set_option maxHeartbeats 40000000 in
theorem ccmp4 (l : Launch) (Z : State) (a0 : Array Value) (hw : ∀ d ∈ tables_1, d.before a0 Z = true) (a : Addr) (b : Addr) (ka : ClassId) (kb : ClassId) (c0 : Int32) (c1 : Int32) (c2 : Int32) (c3 : Int32) (h0 : Heap) (O0 : Ext Z.heap h0) (Va : Arv Z h0 a ka .char (4 : Int32) [(.int c0), (.int c1), (.int c2), (.int c3)] (.int (0 : Int32))) (Vb : Arv Z h0 b kb .byte (4 : Int32) [(.int (0 : Int32)), (.int (0 : Int32)), (.int (0 : Int32)), (.int (0 : Int32))] (.int (0 : Int32))) (g : Z.heap.size ≤ b) (ne : a ≠ b) (hc0 : c0 ∈ ownL) (hc1 : c1 ∈ ownL) (hc2 : c2 ∈ ownL) (hc3 : c3 ∈ ownL) :
    Ctr l Z h0 (⟨"java/lang/StringUTF16", "compress", "([CI[BII)I"⟩ : MethodName) jdk_52_method_21_code 7 (some .int) [] ({ frames := 0, cells := 0, slots := 0, locals := 0 } : Room) #[(.ref a), (.int (0 : Int32)), (.ref b), (.int (0 : Int32)), (.int (4 : Int32))] (Q_ccmp4 Z a b ka kb c0 c1 c2 c3 h0) := by
  refine enter (plainFor_of_name pn1) ?_
  intro pp ee ss mm below meth cc s₁ hx hby hml hZ hown hnm hret hlk X0 e0 hs0
  replace hown : ss.vm.findClass "java/lang/StringUTF16" = some mm.cls := hown
  refine Go.cast (congrArg s₁.setTop (ef_ccmp4 mm a b)) ?_
  have N0 := Fr.nil Z.heap.size
  have KP := Keep.refl h0 [b]
  show Go pp ee below _ (s₁.setTop (mkF mm 0 #[.val (.ref a), .val (.int (0 : Int32)), .val (.ref b), .val (.int (0 : Int32)), .val (.int (4 : Int32)), .unset, .unset] []))
  have hk101 : (c0.toInt8.toInt32) = c0 := own_b _ hc0
  have hk102 : nar .char c0 = c0 := own_nar _ hc0
  have hk103 : (c0 &&& (255 : Int32)) = c0 := own_a _ hc0
  have hk104 : ¬ ((255 : Int32) < c0) := own_255 _ hc0
  have hk105 : (c1.toInt8.toInt32) = c1 := own_b _ hc1
  have hk106 : nar .char c1 = c1 := own_nar _ hc1
  have hk107 : (c1 &&& (255 : Int32)) = c1 := own_a _ hc1
  have hk108 : ¬ ((255 : Int32) < c1) := own_255 _ hc1
  have hk109 : (c2.toInt8.toInt32) = c2 := own_b _ hc2
  have hk110 : nar .char c2 = c2 := own_nar _ hc2
  have hk111 : (c2 &&& (255 : Int32)) = c2 := own_a _ hc2
  have hk112 : ¬ ((255 : Int32) < c2) := own_255 _ hc2
  have hk113 : (c3.toInt8.toInt32) = c3 := own_b _ hc3
  have hk114 : nar .char c3 = c3 := own_nar _ hc3
  have hk115 : (c3 &&& (255 : Int32)) = c3 := own_a _ hc3
  have hk116 : ¬ ((255 : Int32) < c3) := own_255 _ hc3
  refine Go.iconst X0 hx (hb hby d7_0) (r := (0 : Int32)) rfl (q := 1) rfl ?_
  refine Go.istore X0 hx (hb hby d7_1) (l' := #[.val (.ref a), .val (.int (0 : Int32)), .val (.ref b), .val (.int (0 : Int32)), .val (.int (4 : Int32)), .val (.int (0 : Int32)), .unset]) rfl (q := 3) rfl ?_
  refine Go.iload X0 hx (hb hby d7_3) rfl (q := 5) rfl ?_
  refine Go.iload X0 hx (hb hby d7_5) rfl (q := 7) rfl ?_
  refine Go.icmpNo X0 hx (hb hby d7_7) (by decide) (q := 10) rfl ?_
  refine Go.aloadN X0 hx (hb hby d7_10) rfl rfl (q := 11) rfl ?_
  refine Go.iloadN X0 hx (hb hby d7_11) rfl (q := 12) rfl ?_
  refine Go.cal X0 hx hZ e0 Va ⟨by decide, by decide⟩ (v := (.int c0)) rfl (hb hby d7_12) ?_
  refine Go.istore X0 hx (hb hby d7_13) (l' := #[.val (.ref a), .val (.int (0 : Int32)), .val (.ref b), .val (.int (0 : Int32)), .val (.int (4 : Int32)), .val (.int (0 : Int32)), .val (.int c0)]) rfl (q := 15) rfl ?_
  refine Go.iload X0 hx (hb hby d7_15) rfl (q := 17) rfl ?_
  refine Go.sipush X0 hx (hb hby d7_17) (r := (255 : Int32)) rfl (q := 20) rfl ?_
  refine Go.icmpYes X0 hx (hb hby d7_20) (Jvm.Free.XT.ii_le_t hk104) (q := 26) (by decide) (by decide) ?_
  refine Go.aloadN X0 hx (hb hby d7_26) rfl rfl (q := 27) rfl ?_
  refine Go.iloadN X0 hx (hb hby d7_27) rfl (q := 28) rfl ?_
  refine Go.iload X0 hx (hb hby d7_28) rfl (q := 30) rfl ?_
  refine Go.i2b X0 hx (hb hby d7_30) rfl (q := 31) rfl ?_
  rw [hk101]
  show Go pp ee below _ (s₁.setTop (mkF mm 31 #[.val (.ref a), .val (.int (0 : Int32)), .val (.ref b), .val (.int (0 : Int32)), .val (.int (4 : Int32)), .val (.int (0 : Int32)), .val (.int c0)] [(.int c0), (.int (0 : Int32)), (.ref b)]))
  refine Go.bst X0 hx hZ e0 Vb ⟨by decide, by decide⟩ (i := 0) rfl (Nat.le_of_ble_eq_true rfl) (hb hby d7_31) ?_
  intro T117 h117 X117 e117 W117 V117
  rw [hk101] at V117
  replace V117 : Arv Z h117 b kb .byte (4 : Int32) [(.int c0), (.int (0 : Int32)), (.int (0 : Int32)), (.int (0 : Int32))] (.int (0 : Int32)) := V117
  have N117 := Fr.snoc X117 N0 g
  replace Va := Va.other W117 ne
  have OW117 := ext_wr O0 W117 g
  replace KP := KP.wr W117 (Or.inl (List.mem_of_getElem? (i := 0) rfl))
  refine Go.iinc X117 hx (hb hby d7_32) rfl (r := (1 : Int32)) rfl (l' := #[.val (.ref a), .val (.int (1 : Int32)), .val (.ref b), .val (.int (0 : Int32)), .val (.int (4 : Int32)), .val (.int (0 : Int32)), .val (.int c0)]) rfl (q := 35) rfl ?_
  refine Go.iinc X117 hx (hb hby d7_35) rfl (r := (1 : Int32)) rfl (l' := #[.val (.ref a), .val (.int (1 : Int32)), .val (.ref b), .val (.int (1 : Int32)), .val (.int (4 : Int32)), .val (.int (0 : Int32)), .val (.int c0)]) rfl (q := 38) rfl ?_
  refine Go.iinc X117 hx (hb hby d7_38) rfl (r := (1 : Int32)) rfl (l' := #[.val (.ref a), .val (.int (1 : Int32)), .val (.ref b), .val (.int (1 : Int32)), .val (.int (4 : Int32)), .val (.int (1 : Int32)), .val (.int c0)]) rfl (q := 41) rfl ?_
  refine Go.goto X117 hx (hb hby d7_41) (q := 3) (by decide) (by decide) ?_
  refine Go.iload X117 hx (hb hby d7_3) rfl (q := 5) rfl ?_
  refine Go.iload X117 hx (hb hby d7_5) rfl (q := 7) rfl ?_
  refine Go.icmpNo X117 hx (hb hby d7_7) (by decide) (q := 10) rfl ?_
  refine Go.aloadN X117 hx (hb hby d7_10) rfl rfl (q := 11) rfl ?_
  refine Go.iloadN X117 hx (hb hby d7_11) rfl (q := 12) rfl ?_
  refine Go.cal X117 hx hZ e117 Va ⟨by decide, by decide⟩ (v := (.int c1)) rfl (hb hby d7_12) ?_
  refine Go.istore X117 hx (hb hby d7_13) (l' := #[.val (.ref a), .val (.int (1 : Int32)), .val (.ref b), .val (.int (1 : Int32)), .val (.int (4 : Int32)), .val (.int (1 : Int32)), .val (.int c1)]) rfl (q := 15) rfl ?_
  refine Go.iload X117 hx (hb hby d7_15) rfl (q := 17) rfl ?_
  refine Go.sipush X117 hx (hb hby d7_17) (r := (255 : Int32)) rfl (q := 20) rfl ?_
  refine Go.icmpYes X117 hx (hb hby d7_20) (Jvm.Free.XT.ii_le_t hk108) (q := 26) (by decide) (by decide) ?_
  refine Go.aloadN X117 hx (hb hby d7_26) rfl rfl (q := 27) rfl ?_
  refine Go.iloadN X117 hx (hb hby d7_27) rfl (q := 28) rfl ?_
  refine Go.iload X117 hx (hb hby d7_28) rfl (q := 30) rfl ?_
  refine Go.i2b X117 hx (hb hby d7_30) rfl (q := 31) rfl ?_
  rw [hk105]
  show Go pp ee below _ (T117.setTop (mkF mm 31 #[.val (.ref a), .val (.int (1 : Int32)), .val (.ref b), .val (.int (1 : Int32)), .val (.int (4 : Int32)), .val (.int (1 : Int32)), .val (.int c1)] [(.int c1), (.int (1 : Int32)), (.ref b)]))
  refine Go.bst X117 hx hZ e117 V117 ⟨by decide, by decide⟩ (i := 1) rfl (Nat.le_of_ble_eq_true rfl) (hb hby d7_31) ?_
  intro T118 h118 X118 e118 W118 V118
  rw [hk105] at V118
  replace V118 : Arv Z h118 b kb .byte (4 : Int32) [(.int c0), (.int c1), (.int (0 : Int32)), (.int (0 : Int32))] (.int (0 : Int32)) := V118
  have N118 := Fr.snoc X118 N117 g
  replace Va := Va.other W118 ne
  have OW118 := ext_wr OW117 W118 g
  replace KP := KP.wr W118 (Or.inl (List.mem_of_getElem? (i := 0) rfl))
  refine Go.iinc X118 hx (hb hby d7_32) rfl (r := (2 : Int32)) rfl (l' := #[.val (.ref a), .val (.int (2 : Int32)), .val (.ref b), .val (.int (1 : Int32)), .val (.int (4 : Int32)), .val (.int (1 : Int32)), .val (.int c1)]) rfl (q := 35) rfl ?_
  refine Go.iinc X118 hx (hb hby d7_35) rfl (r := (2 : Int32)) rfl (l' := #[.val (.ref a), .val (.int (2 : Int32)), .val (.ref b), .val (.int (2 : Int32)), .val (.int (4 : Int32)), .val (.int (1 : Int32)), .val (.int c1)]) rfl (q := 38) rfl ?_
  refine Go.iinc X118 hx (hb hby d7_38) rfl (r := (2 : Int32)) rfl (l' := #[.val (.ref a), .val (.int (2 : Int32)), .val (.ref b), .val (.int (2 : Int32)), .val (.int (4 : Int32)), .val (.int (2 : Int32)), .val (.int c1)]) rfl (q := 41) rfl ?_
  refine Go.goto X118 hx (hb hby d7_41) (q := 3) (by decide) (by decide) ?_
  refine Go.iload X118 hx (hb hby d7_3) rfl (q := 5) rfl ?_
  refine Go.iload X118 hx (hb hby d7_5) rfl (q := 7) rfl ?_
  refine Go.icmpNo X118 hx (hb hby d7_7) (by decide) (q := 10) rfl ?_
  refine Go.aloadN X118 hx (hb hby d7_10) rfl rfl (q := 11) rfl ?_
  refine Go.iloadN X118 hx (hb hby d7_11) rfl (q := 12) rfl ?_
  refine Go.cal X118 hx hZ e118 Va ⟨by decide, by decide⟩ (v := (.int c2)) rfl (hb hby d7_12) ?_
  refine Go.istore X118 hx (hb hby d7_13) (l' := #[.val (.ref a), .val (.int (2 : Int32)), .val (.ref b), .val (.int (2 : Int32)), .val (.int (4 : Int32)), .val (.int (2 : Int32)), .val (.int c2)]) rfl (q := 15) rfl ?_
  refine Go.iload X118 hx (hb hby d7_15) rfl (q := 17) rfl ?_
  refine Go.sipush X118 hx (hb hby d7_17) (r := (255 : Int32)) rfl (q := 20) rfl ?_
  refine Go.icmpYes X118 hx (hb hby d7_20) (Jvm.Free.XT.ii_le_t hk112) (q := 26) (by decide) (by decide) ?_
  refine Go.aloadN X118 hx (hb hby d7_26) rfl rfl (q := 27) rfl ?_
  refine Go.iloadN X118 hx (hb hby d7_27) rfl (q := 28) rfl ?_
  refine Go.iload X118 hx (hb hby d7_28) rfl (q := 30) rfl ?_
  refine Go.i2b X118 hx (hb hby d7_30) rfl (q := 31) rfl ?_
  rw [hk109]
  show Go pp ee below _ (T118.setTop (mkF mm 31 #[.val (.ref a), .val (.int (2 : Int32)), .val (.ref b), .val (.int (2 : Int32)), .val (.int (4 : Int32)), .val (.int (2 : Int32)), .val (.int c2)] [(.int c2), (.int (2 : Int32)), (.ref b)]))
  refine Go.bst X118 hx hZ e118 V118 ⟨by decide, by decide⟩ (i := 2) rfl (Nat.le_of_ble_eq_true rfl) (hb hby d7_31) ?_
  intro T119 h119 X119 e119 W119 V119
  rw [hk109] at V119
  replace V119 : Arv Z h119 b kb .byte (4 : Int32) [(.int c0), (.int c1), (.int c2), (.int (0 : Int32))] (.int (0 : Int32)) := V119
  have N119 := Fr.snoc X119 N118 g
  replace Va := Va.other W119 ne
  have OW119 := ext_wr OW118 W119 g
  replace KP := KP.wr W119 (Or.inl (List.mem_of_getElem? (i := 0) rfl))
  refine Go.iinc X119 hx (hb hby d7_32) rfl (r := (3 : Int32)) rfl (l' := #[.val (.ref a), .val (.int (3 : Int32)), .val (.ref b), .val (.int (2 : Int32)), .val (.int (4 : Int32)), .val (.int (2 : Int32)), .val (.int c2)]) rfl (q := 35) rfl ?_
  refine Go.iinc X119 hx (hb hby d7_35) rfl (r := (3 : Int32)) rfl (l' := #[.val (.ref a), .val (.int (3 : Int32)), .val (.ref b), .val (.int (3 : Int32)), .val (.int (4 : Int32)), .val (.int (2 : Int32)), .val (.int c2)]) rfl (q := 38) rfl ?_
  refine Go.iinc X119 hx (hb hby d7_38) rfl (r := (3 : Int32)) rfl (l' := #[.val (.ref a), .val (.int (3 : Int32)), .val (.ref b), .val (.int (3 : Int32)), .val (.int (4 : Int32)), .val (.int (3 : Int32)), .val (.int c2)]) rfl (q := 41) rfl ?_
  refine Go.goto X119 hx (hb hby d7_41) (q := 3) (by decide) (by decide) ?_
  refine Go.iload X119 hx (hb hby d7_3) rfl (q := 5) rfl ?_
  refine Go.iload X119 hx (hb hby d7_5) rfl (q := 7) rfl ?_
  refine Go.icmpNo X119 hx (hb hby d7_7) (by decide) (q := 10) rfl ?_
  refine Go.aloadN X119 hx (hb hby d7_10) rfl rfl (q := 11) rfl ?_
  refine Go.iloadN X119 hx (hb hby d7_11) rfl (q := 12) rfl ?_
  refine Go.cal X119 hx hZ e119 Va ⟨by decide, by decide⟩ (v := (.int c3)) rfl (hb hby d7_12) ?_
  refine Go.istore X119 hx (hb hby d7_13) (l' := #[.val (.ref a), .val (.int (3 : Int32)), .val (.ref b), .val (.int (3 : Int32)), .val (.int (4 : Int32)), .val (.int (3 : Int32)), .val (.int c3)]) rfl (q := 15) rfl ?_
  refine Go.iload X119 hx (hb hby d7_15) rfl (q := 17) rfl ?_
  refine Go.sipush X119 hx (hb hby d7_17) (r := (255 : Int32)) rfl (q := 20) rfl ?_
  refine Go.icmpYes X119 hx (hb hby d7_20) (Jvm.Free.XT.ii_le_t hk116) (q := 26) (by decide) (by decide) ?_
  refine Go.aloadN X119 hx (hb hby d7_26) rfl rfl (q := 27) rfl ?_
  refine Go.iloadN X119 hx (hb hby d7_27) rfl (q := 28) rfl ?_
  refine Go.iload X119 hx (hb hby d7_28) rfl (q := 30) rfl ?_
  refine Go.i2b X119 hx (hb hby d7_30) rfl (q := 31) rfl ?_
  rw [hk113]
  show Go pp ee below _ (T119.setTop (mkF mm 31 #[.val (.ref a), .val (.int (3 : Int32)), .val (.ref b), .val (.int (3 : Int32)), .val (.int (4 : Int32)), .val (.int (3 : Int32)), .val (.int c3)] [(.int c3), (.int (3 : Int32)), (.ref b)]))
  refine Go.bst X119 hx hZ e119 V119 ⟨by decide, by decide⟩ (i := 3) rfl (Nat.le_of_ble_eq_true rfl) (hb hby d7_31) ?_
  intro T120 h120 X120 e120 W120 V120
  rw [hk113] at V120
  replace V120 : Arv Z h120 b kb .byte (4 : Int32) [(.int c0), (.int c1), (.int c2), (.int c3)] (.int (0 : Int32)) := V120
  have N120 := Fr.snoc X120 N119 g
  replace Va := Va.other W120 ne
  have OW120 := ext_wr OW119 W120 g
  replace KP := KP.wr W120 (Or.inl (List.mem_of_getElem? (i := 0) rfl))
  refine Go.iinc X120 hx (hb hby d7_32) rfl (r := (4 : Int32)) rfl (l' := #[.val (.ref a), .val (.int (4 : Int32)), .val (.ref b), .val (.int (3 : Int32)), .val (.int (4 : Int32)), .val (.int (3 : Int32)), .val (.int c3)]) rfl (q := 35) rfl ?_
  refine Go.iinc X120 hx (hb hby d7_35) rfl (r := (4 : Int32)) rfl (l' := #[.val (.ref a), .val (.int (4 : Int32)), .val (.ref b), .val (.int (4 : Int32)), .val (.int (4 : Int32)), .val (.int (3 : Int32)), .val (.int c3)]) rfl (q := 38) rfl ?_
  refine Go.iinc X120 hx (hb hby d7_38) rfl (r := (4 : Int32)) rfl (l' := #[.val (.ref a), .val (.int (4 : Int32)), .val (.ref b), .val (.int (4 : Int32)), .val (.int (4 : Int32)), .val (.int (4 : Int32)), .val (.int c3)]) rfl (q := 41) rfl ?_
  refine Go.goto X120 hx (hb hby d7_41) (q := 3) (by decide) (by decide) ?_
  refine Go.iload X120 hx (hb hby d7_3) rfl (q := 5) rfl ?_
  refine Go.iload X120 hx (hb hby d7_5) rfl (q := 7) rfl ?_
  refine Go.icmpYes X120 hx (hb hby d7_7) (by decide) (q := 44) (by decide) (by decide) ?_
  refine Go.iload X120 hx (hb hby d7_44) rfl (q := 46) rfl ?_
  exact Go.retI X120 hx hret hlk (Or.inl rfl) rfl (hb hby d7_46) e120 (by decide) (by decide) ⟨rfl, N120, KP, V120⟩
def Q_ccmq4 (Z : State) (a : Addr) (ka : ClassId) (c0 : Int32) (c1 : Int32) (c2 : Int32) (c3 : Int32) (h0 : Heap) (vR : Option Value) (hR : Heap) (LR : List Loc) : Prop := ∃ b : Addr, ∃ kb : ClassId, vR = some (.ref b) ∧ Fr Z.heap.size LR ∧ Keep h0 hR [] ∧ h0.size ≤ b ∧ Arv Z hR b kb .byte (4 : Int32) [(.int c0), (.int c1), (.int c2), (.int c3)] (.int (0 : Int32))
set_option maxRecDepth 65536 in
set_option maxHeartbeats 40000000 in
theorem ccmq4 (l : Launch) (Z : State) (a0 : Array Value) (hw : ∀ d ∈ tables_1, d.before a0 Z = true) (a : Addr) (ka : ClassId) (c0 : Int32) (c1 : Int32) (c2 : Int32) (c3 : Int32) (h0 : Heap) (O0 : Ext Z.heap h0) (Va : Arv Z h0 a ka .char (4 : Int32) [(.int c0), (.int c1), (.int c2), (.int c3)] (.int (0 : Int32))) (hc0 : c0 ∈ ownL) (hc1 : c1 ∈ ownL) (hc2 : c2 ∈ ownL) (hc3 : c3 ∈ ownL) :
    Ctr l Z h0 (⟨"java/lang/StringUTF16", "compress", "([CII)[B"⟩ : MethodName) jdk_52_method_16_code 6 (some (.array .byte)) [] ({ frames := 1, cells := 1, slots := 4, locals := 18 } : Room) #[(.ref a), (.int (0 : Int32)), (.int (4 : Int32))] (Q_ccmq4 Z a ka c0 c1 c2 c3 h0) := by
  refine enter (plainFor_of_name pn1) ?_
  intro pp ee ss mm below meth cc s₁ hx hby hml hZ hown hnm hret hlk X0 e0 hs0
  replace hown : ss.vm.findClass "java/lang/StringUTF16" = some mm.cls := hown
  refine Go.cast (congrArg s₁.setTop (ef_ccmq4 mm a)) ?_
  have N0 := Fr.nil Z.heap.size
  have KP := Keep.refl h0 []
  show Go pp ee below _ (s₁.setTop (mkF mm 0 #[.val (.ref a), .val (.int (0 : Int32)), .val (.int (4 : Int32)), .unset, .unset, .unset] []))
  refine Go.iloadN X0 hx (hb hby d6_0) rfl (q := 1) rfl ?_
  refine Go.newP X0 hx hZ (hb hby d6_1) (wd27 hw) e0 (by decide) (cap := 4) (by decide) (by decide) (by decide) (by decide) (ad := "[B") rfl (q := 3) rfl ?_
  intro b101 T101 h101 k101 X101 e101 q101 E101 V101 B101
  have ne_a_b101 : a ≠ b101 := ne_new Va.lt (Nat.le_of_eq q101)
  have g_b101 : Z.heap.size ≤ b101 := Nat.le_trans O0.1 (Nat.le_of_eq q101)
  have z_b101 : h0.size ≤ b101 := Nat.le_trans KP.1 (Nat.le_of_eq q101)
  replace Va := Va.ext E101
  have OE101 := ext_trans O0 E101
  replace KP := KP.ext E101
  replace V101 : Arv Z h101 b101 k101 .byte (4 : Int32) [(.int (0 : Int32)), (.int (0 : Int32)), (.int (0 : Int32)), (.int (0 : Int32))] (.int (0 : Int32)) := V101.pad (pad_rep [] (.int (0 : Int32)) 4)
  refine Go.astoreN X101 hx (hb hby d6_3) rfl (l' := #[.val (.ref a), .val (.int (0 : Int32)), .val (.int (4 : Int32)), .val (.ref b101), .unset, .unset]) rfl (q := 4) rfl ?_
  refine Go.aloadN X101 hx (hb hby d6_4) rfl rfl (q := 5) rfl ?_
  refine Go.iloadN X101 hx (hb hby d6_5) rfl (q := 6) rfl ?_
  refine Go.aloadN X101 hx (hb hby d6_6) rfl rfl (q := 7) rfl ?_
  refine Go.iconst X101 hx (hb hby d6_7) (r := (0 : Int32)) rfl (q := 8) rfl ?_
  refine Go.iloadN X101 hx (hb hby d6_8) rfl (q := 9) rfl ?_
  refine Go.callS X101 hx hZ hown (wd28 hw) (wd29 hw) (wd25 hw) (wd30 hw) (by decide) (ccmp4 l Z a0 hw a b101 (ka) (k101) c0 c1 c2 c3 h101 OE101 Va V101 g_b101 ne_a_b101 hc0 hc1 hc2 hc3) e101 (by rw [hml]; rfl) (hb hby d6_9) (argsL := [(.ref a), (.int (0 : Int32)), (.ref b101), (.int (0 : Int32)), (.int (4 : Int32))]) (rest := []) (lenOf pd0 rfl) rfl rfl (W := 0) (by first | exact Nat.le_refl _ | decide) (by decide) (by decide) (by decide) (by decide) ?_
  intro v102 T102 L102 X102 hQ102
  obtain ⟨h102, e102⟩ : ∃ z, T102.heap = z := ⟨_, rfl⟩
  rw [e102] at hQ102
  obtain ⟨rfl, N102q, K102, P102_0⟩ := hQ102
  have N102 := Fr.app N0 N102q
  replace Va := Va.keep K102 (ninS ne_a_b101 nin0)
  replace B101 := B101.keep K102
  have OK102 := ext_keep OE101 K102 (allS g_b101 all0)
  replace KP := KP.trans K102 (allS (Or.inr z_b101) all0)
  refine Go.istore X102 hx (hb hby d6_12) (l' := #[.val (.ref a), .val (.int (0 : Int32)), .val (.int (4 : Int32)), .val (.ref b101), .val (.int (4 : Int32)), .unset]) rfl (q := 14) rfl ?_
  refine Go.iload X102 hx (hb hby d6_14) rfl (q := 16) rfl ?_
  refine Go.iloadN X102 hx (hb hby d6_16) rfl (q := 17) rfl ?_
  refine Go.icmpYes X102 hx (hb hby d6_17) (by decide) (q := 57) (by decide) (by decide) ?_
  refine Go.aloadN X102 hx (hb hby d6_57) rfl rfl (q := 58) rfl ?_
  exact Go.retA X102 hx hret hlk rfl rfl (hb hby d6_58) e102 (by decide) (by decide) ⟨b101, k101, rfl, N102, KP, z_b101, P102_0⟩
def Q_ccal4 (Z : State) (b : Addr) (kb : ClassId) (c0 : Int32) (c1 : Int32) (c2 : Int32) (c3 : Int32) (h0 : Heap) (vR : Option Value) (hR : Heap) (LR : List Loc) : Prop := vR = some (.int (0 : Int32)) ∧ Fr Z.heap.size LR ∧ hR = h0
set_option maxRecDepth 65536 in
set_option maxHeartbeats 40000000 in
theorem ccal4 (l : Launch) (Z : State) (a0 : Array Value) (hw : ∀ d ∈ tables_1, d.before a0 Z = true) (b : Addr) (kb : ClassId) (c0 : Int32) (c1 : Int32) (c2 : Int32) (c3 : Int32) (h0 : Heap) (O0 : Ext Z.heap h0) (Vb : Arv Z h0 b kb .byte (4 : Int32) [(.int c0), (.int c1), (.int c2), (.int c3)] (.int (0 : Int32))) :
    Ctr l Z h0 (⟨"java/lang/StringUTF16", "coderFromArrayLen", "([BI)B"⟩ : MethodName) jdk_52_method_15_code 2 (some .byte) [] ({ frames := 0, cells := 0, slots := 0, locals := 0 } : Room) #[(.ref b), (.int (4 : Int32))] (Q_ccal4 Z b kb c0 c1 c2 c3 h0) := by
  refine enter (plainFor_of_name pn1) ?_
  intro pp ee ss mm below meth cc s₁ hx hby hml hZ hown hnm hret hlk X0 e0 hs0
  replace hown : ss.vm.findClass "java/lang/StringUTF16" = some mm.cls := hown
  refine Go.cast (congrArg s₁.setTop (ef_ccal4 mm b)) ?_
  have N0 := Fr.nil Z.heap.size
  show Go pp ee below _ (s₁.setTop (mkF mm 0 #[.val (.ref b), .val (.int (4 : Int32))] []))
  refine Go.iloadN X0 hx (hb hby d8_0) rfl (q := 1) rfl ?_
  refine Go.aloadN X0 hx (hb hby d8_1) rfl rfl (q := 2) rfl ?_
  refine Go.alen X0 hx hZ e0 Vb (hb hby d8_2) ?_
  refine Go.isub X0 hx (hb hby d8_3) (r := (0 : Int32)) rfl (q := 4) rfl ?_
  refine Go.bipush X0 hx (hb hby d8_4) (r := (31 : Int32)) rfl (q := 6) rfl ?_
  refine Go.iushr X0 hx (hb hby d8_6) (r := (0 : Int32)) rfl (q := 7) rfl ?_
  refine Go.i2b X0 hx (hb hby d8_7) (r := (0 : Int32)) rfl (q := 8) rfl ?_
  exact Go.retI X0 hx hret hlk (by simp) rfl (hb hby d8_8) e0 (by decide) (by decide) ⟨rfl, N0, rfl⟩
def Q_csi4 (Z : State) (o : Addr) (a : Addr) (cs : Int32) (ka : ClassId) (c0 : Int32) (c1 : Int32) (c2 : Int32) (c3 : Int32) (h0 : Heap) (vR : Option Value) (hR : Heap) (LR : List Loc) : Prop := ∃ b : Addr, ∃ kb : ClassId, vR = none ∧ Fr Z.heap.size LR ∧ Keep h0 hR [o] ∧ h0.size ≤ b ∧ Fld Z hR o "java/lang/String" "value" "[B" (.ref b) ∧ Fld Z hR o "java/lang/String" "coder" "B" (.int (0 : Int32)) ∧ Arv Z hR b kb .byte (4 : Int32) [(.int c0), (.int c1), (.int c2), (.int c3)] (.int (0 : Int32))
set_option maxRecDepth 65536 in
set_option maxHeartbeats 40000000 in
theorem csi4 (l : Launch) (Z : State) (a0 : Array Value) (hw : ∀ d ∈ tables_1, d.before a0 Z = true) (o : Addr) (a : Addr) (cs : Int32) (ka : ClassId) (c0 : Int32) (c1 : Int32) (c2 : Int32) (c3 : Int32) (h0 : Heap) (O0 : Ext Z.heap h0) (Eo : Exa Z h0 o "java/lang/String") (Fv : Fld Z h0 o "java/lang/String" "value" "[B" .null) (Fc : Fld Z h0 o "java/lang/String" "coder" "B" (.int (0 : Int32))) (g : Z.heap.size ≤ o) (Va : Arv Z h0 a ka .char (4 : Int32) [(.int c0), (.int c1), (.int c2), (.int c3)] (.int (0 : Int32))) (SCS : Sta Z Z.heap "java/lang/String" "COMPACT_STRINGS" "Z" (.int cs)) (hcs : ¬ (cs = (0 : Int32))) (hc0 : c0 ∈ ownL) (hc1 : c1 ∈ ownL) (hc2 : c2 ∈ ownL) (hc3 : c3 ∈ ownL) :
    Ctr l Z h0 (⟨"java/lang/String", "<init>", "([CIILjava/lang/Void;)V"⟩ : MethodName) jdk_42_method_149_code 6 none [] ({ frames := 2, cells := 1, slots := 4, locals := 35 } : Room) #[(.ref o), (.ref a), (.int (0 : Int32)), (.int (4 : Int32)), .null] (Q_csi4 Z o a cs ka c0 c1 c2 c3 h0) := by
  refine enter (plainFor_of_name pn2) ?_
  intro pp ee ss mm below meth cc s₁ hx hby hml hZ hown hnm hret hlk X0 e0 hs0
  replace hown : ss.vm.findClass "java/lang/String" = some mm.cls := hown
  refine Go.cast (congrArg s₁.setTop (ef_csi4 mm o a)) ?_
  have N0 := Fr.nil Z.heap.size
  have KP := Keep.refl h0 [o]
  show Go pp ee below _ (s₁.setTop (mkF mm 0 #[.val (.ref o), .val (.ref a), .val (.int (0 : Int32)), .val (.int (4 : Int32)), .val .null, .unset] []))
  refine Go.aloadN X0 hx (hb hby d4_0) rfl rfl (q := 1) rfl ?_
  refine Go.initO X0 hx hZ hown (wd19 hw) (wd20 hw) (wd21 hw) e0 (by rw [hml]; rfl) (hb hby d4_1) (by decide) (W := 0) (by exact Nat.le_refl _) (by decide) (q := 4) rfl ?_
  intro T101 X101 e101
  refine Go.iloadN X101 hx (hb hby d4_4) rfl (q := 5) rfl ?_
  refine Go.ifYes X101 hx (hb hby d4_5) (by decide) (q := 27) (by decide) (by decide) ?_
  refine Go.getS X101 hx hZ hown (host := "") (Or.inl (wd22 hw)) Via.refl e101 (SCS.ext O0) (hb hby d4_27) (q := 30) rfl ?_
  intro T102 X102 e102
  refine Go.ifNo X102 hx (hb hby d4_30) (Jvm.Free.XT.i0_eq_f hcs) (q := 33) rfl ?_
  refine Go.aloadN X102 hx (hb hby d4_33) rfl rfl (q := 34) rfl ?_
  refine Go.iloadN X102 hx (hb hby d4_34) rfl (q := 35) rfl ?_
  refine Go.iloadN X102 hx (hb hby d4_35) rfl (q := 36) rfl ?_
  refine Go.callS X102 hx hZ hown (wd23 hw) (wd24 hw) (wd25 hw) (wd26 hw) (by decide) (ccmq4 l Z a0 hw a (ka) c0 c1 c2 c3 h0 O0 Va hc0 hc1 hc2 hc3) e102 (by rw [hml]; rfl) (hb hby d4_36) (argsL := [(.ref a), (.int (0 : Int32)), (.int (4 : Int32))]) (rest := []) (lenOf pd1 rfl) rfl rfl (W := 0) (by first | exact Nat.le_refl _ | decide) (by decide) (by decide) (by decide) (by decide) ?_
  intro v103 T103 L103 X103 hQ103
  obtain ⟨h103, e103⟩ : ∃ z, T103.heap = z := ⟨_, rfl⟩
  rw [e103] at hQ103
  obtain ⟨b_103, kb_103, rfl, N103q, K103, fr103_b, P103_0⟩ := hQ103
  have N103 := Fr.app N0 N103q
  have ne_o_b_103 : o ≠ b_103 := ne_new Eo.lt fr103_b
  have ne_a_b_103 : a ≠ b_103 := ne_new Va.lt fr103_b
  have g_b_103 : Z.heap.size ≤ b_103 := Nat.le_trans O0.1 fr103_b
  have z_b_103 : h0.size ≤ b_103 := Nat.le_trans KP.1 fr103_b
  replace Eo := Eo.keep K103
  replace Fv := Fv.keep K103 nin0
  replace Fc := Fc.keep K103 nin0
  replace Va := Va.keep K103 nin0
  have OK103 := ext_keep O0 K103 all0
  replace KP := KP.trans K103 all0
  refine Go.astore X103 hx (hb hby d4_39) rfl (l' := #[.val (.ref o), .val (.ref a), .val (.int (0 : Int32)), .val (.int (4 : Int32)), .val .null, .val (.ref b_103)]) rfl (q := 41) rfl ?_
  refine Go.aloadN X103 hx (hb hby d4_41) rfl rfl (q := 42) rfl ?_
  refine Go.aload X103 hx (hb hby d4_42) rfl rfl (q := 44) rfl ?_
  refine Go.iloadN X103 hx (hb hby d4_44) rfl (q := 45) rfl ?_
  refine Go.callS X103 hx hZ hown (wd31 hw) (wd32 hw) (wd25 hw) (wd33 hw) (by decide) (ccal4 l Z a0 hw b_103 (kb_103) c0 c1 c2 c3 h103 OK103 P103_0) e103 (by rw [hml]; rfl) (hb hby d4_45) (argsL := [(.ref b_103), (.int (4 : Int32))]) (rest := [(.ref o)]) (lenOf pd2 rfl) rfl rfl (W := 1) (by first | exact Nat.le_refl _ | decide) (by decide) (by decide) (by decide) (by decide) ?_
  intro v104 T104 L104 X104 hQ104
  obtain ⟨rfl, N104q, e104⟩ := hQ104
  have N104 := Fr.app N103 N104q
  refine Go.putF X104 hx hZ hown (host := "") (Or.inl (wd34 hw)) Via.refl e104 Fc Eo (Or.inr ⟨(wd35 hw), rfl, hnm⟩) (wd9 hw) (ty := .byte) (by decide) rfl rfl (hb hby d4_48) (q := 51) rfl ?_
  intro T105 h105 X105 e105 W105 F105
  have N105 := Fr.snoc X105 N104 g
  replace Eo := Eo.wr W105
  replace Fv := Fv.other W105 (Or.inr (slot_ne (Or.inr (wd37 hw)) (Or.inr (wd35 hw)) (by decide) (t := (.array .byte)) (t' := .byte) (by decide) (by decide)))
  replace P103_0 := P103_0.other W105 (Ne.symm ne_o_b_103)
  have OW105 := ext_wr OK103 W105 g
  replace KP := KP.wr W105 (Or.inl (List.mem_of_getElem? (i := 0) rfl))
  refine Go.aloadN X105 hx (hb hby d4_51) rfl rfl (q := 52) rfl ?_
  refine Go.aload X105 hx (hb hby d4_52) rfl rfl (q := 54) rfl ?_
  refine Go.putF X105 hx hZ hown (host := "") (Or.inl (wd36 hw)) Via.refl e105 Fv Eo (Or.inr ⟨(wd37 hw), rfl, hnm⟩) (wd9 hw) (ty := (.array .byte)) (by decide) rfl rfl (hb hby d4_54) (q := 57) rfl ?_
  intro T106 h106 X106 e106 W106 F106
  have N106 := Fr.snoc X106 N105 g
  replace Eo := Eo.wr W106
  replace P103_0 := P103_0.other W106 (Ne.symm ne_o_b_103)
  replace F105 := F105.other W106 (Or.inr (slot_ne (Or.inr (wd35 hw)) (Or.inr (wd37 hw)) (by decide) (t := .byte) (t' := (.array .byte)) (by decide) (by decide)))
  have OW106 := ext_wr OW105 W106 g
  replace KP := KP.wr W106 (Or.inl (List.mem_of_getElem? (i := 0) rfl))
  exact Go.retV X106 hx hret hlk (hb hby d4_57) e106 (by decide) (by decide) ⟨b_103, kb_103, rfl, N106, KP, z_b_103, F106, F105, P103_0⟩
def Q_csj4 (Z : State) (o : Addr) (a : Addr) (cs : Int32) (ka : ClassId) (c0 : Int32) (c1 : Int32) (c2 : Int32) (c3 : Int32) (h0 : Heap) (vR : Option Value) (hR : Heap) (LR : List Loc) : Prop := ∃ b : Addr, ∃ kb : ClassId, vR = none ∧ Fr Z.heap.size LR ∧ Keep h0 hR [o] ∧ h0.size ≤ b ∧ Fld Z hR o "java/lang/String" "value" "[B" (.ref b) ∧ Fld Z hR o "java/lang/String" "coder" "B" (.int (0 : Int32)) ∧ Arv Z hR b kb .byte (4 : Int32) [(.int c0), (.int c1), (.int c2), (.int c3)] (.int (0 : Int32))
set_option maxRecDepth 65536 in
set_option maxHeartbeats 40000000 in
theorem csj4 (l : Launch) (Z : State) (a0 : Array Value) (hw : ∀ d ∈ tables_1, d.before a0 Z = true) (o : Addr) (a : Addr) (cs : Int32) (ka : ClassId) (c0 : Int32) (c1 : Int32) (c2 : Int32) (c3 : Int32) (h0 : Heap) (O0 : Ext Z.heap h0) (Eo : Exa Z h0 o "java/lang/String") (Fv : Fld Z h0 o "java/lang/String" "value" "[B" .null) (Fc : Fld Z h0 o "java/lang/String" "coder" "B" (.int (0 : Int32))) (g : Z.heap.size ≤ o) (Va : Arv Z h0 a ka .char (4 : Int32) [(.int c0), (.int c1), (.int c2), (.int c3)] (.int (0 : Int32))) (SCS : Sta Z Z.heap "java/lang/String" "COMPACT_STRINGS" "Z" (.int cs)) (hcs : ¬ (cs = (0 : Int32))) (hc0 : c0 ∈ ownL) (hc1 : c1 ∈ ownL) (hc2 : c2 ∈ ownL) (hc3 : c3 ∈ ownL) :
    Ctr l Z h0 (⟨"java/lang/String", "<init>", "([C)V"⟩ : MethodName) jdk_42_method_3_code 2 none [] ({ frames := 3, cells := 1, slots := 4, locals := 52 } : Room) #[(.ref o), (.ref a)] (Q_csj4 Z o a cs ka c0 c1 c2 c3 h0) := by
  refine enter (plainFor_of_name pn2) ?_
  intro pp ee ss mm below meth cc s₁ hx hby hml hZ hown hnm hret hlk X0 e0 hs0
  replace hown : ss.vm.findClass "java/lang/String" = some mm.cls := hown
  refine Go.cast (congrArg s₁.setTop (ef_csj4 mm o a)) ?_
  have N0 := Fr.nil Z.heap.size
  have KP := Keep.refl h0 [o]
  show Go pp ee below _ (s₁.setTop (mkF mm 0 #[.val (.ref o), .val (.ref a)] []))
  refine Go.aloadN X0 hx (hb hby d3_0) rfl rfl (q := 1) rfl ?_
  refine Go.aloadN X0 hx (hb hby d3_1) rfl rfl (q := 2) rfl ?_
  refine Go.iconst X0 hx (hb hby d3_2) (r := (0 : Int32)) rfl (q := 3) rfl ?_
  refine Go.aloadN X0 hx (hb hby d3_3) rfl rfl (q := 4) rfl ?_
  refine Go.alen X0 hx hZ e0 Va (hb hby d3_4) ?_
  refine Go.aconst_null X0 hx (hb hby d3_5) (q := 6) rfl ?_
  refine Go.init X0 hx hZ hown rfl (wd15 hw) (wd16 hw) (wd10 hw) (wd18 hw) (by decide) (csi4 l Z a0 hw o a cs (ka) c0 c1 c2 c3 h0 O0 Eo Fv Fc g Va SCS hcs hc0 hc1 hc2 hc3) e0 (by rw [hml]; rfl) (hb hby d3_6) (argsL := [(.ref a), (.int (0 : Int32)), (.int (4 : Int32)), .null]) (rest := []) (lenOf pd3 rfl) rfl rfl (W := 0) (by first | exact Nat.le_refl _ | decide) (by decide) (by decide) (by decide) (by decide) ?_
  intro v101 T101 L101 X101 hQ101
  obtain ⟨h101, e101⟩ : ∃ z, T101.heap = z := ⟨_, rfl⟩
  rw [e101] at hQ101
  obtain ⟨b_101, kb_101, rfl, N101q, K101, fr101_b, P101_0, P101_1, P101_2⟩ := hQ101
  have N101 := Fr.app N0 N101q
  have ne_o_b_101 : o ≠ b_101 := ne_new Eo.lt fr101_b
  have ne_a_b_101 : a ≠ b_101 := ne_new Va.lt fr101_b
  have g_b_101 : Z.heap.size ≤ b_101 := Nat.le_trans O0.1 fr101_b
  have z_b_101 : h0.size ≤ b_101 := Nat.le_trans KP.1 fr101_b
  replace Eo := Eo.keep K101
  have OK101 := ext_keep O0 K101 (allS g all0)
  replace KP := KP.trans K101 (allS (Or.inl (List.mem_of_getElem? (i := 0) rfl)) all0)
  exact Go.retV X101 hx hret hlk (hb hby d3_9) e101 (by decide) (by decide) ⟨b_101, kb_101, rfl, N101, KP, z_b_101, P101_0, P101_1, P101_2⟩
def Q_cmk4 (Z : State) (cs : Int32) (c0 : Int32) (c1 : Int32) (c2 : Int32) (c3 : Int32) (h0 : Heap) (vR : Option Value) (hR : Heap) (LR : List Loc) : Prop := ∃ s : Addr, ∃ b : Addr, ∃ kb : ClassId, vR = some (.ref s) ∧ Fr Z.heap.size LR ∧ Keep h0 hR [] ∧ h0.size ≤ s ∧ h0.size ≤ b ∧ Exa Z hR s "java/lang/String" ∧ Fld Z hR s "java/lang/String" "coder" "B" (.int (0 : Int32)) ∧ Fld Z hR s "java/lang/String" "value" "[B" (.ref b) ∧ Arv Z hR b kb .byte (4 : Int32) [(.int c0), (.int c1), (.int c2), (.int c3)] (.int (0 : Int32))
set_option maxRecDepth 65536 in
set_option maxHeartbeats 40000000 in
theorem cmk4 (l : Launch) (Z : State) (a0 : Array Value) (hw : ∀ d ∈ tables_1, d.before a0 Z = true) (cs : Int32) (c0 : Int32) (c1 : Int32) (c2 : Int32) (c3 : Int32) (h0 : Heap) (O0 : Ext Z.heap h0) (SCS : Sta Z Z.heap "java/lang/String" "COMPACT_STRINGS" "Z" (.int cs)) (hcs : ¬ (cs = (0 : Int32))) (hc0 : c0 ∈ ownL) (hc1 : c1 ∈ ownL) (hc2 : c2 ∈ ownL) (hc3 : c3 ∈ ownL) :
    Ctr l Z h0 (⟨"com/example/cronopoly/cronopoly/ScheduleIdOfPinLaw", "make", "(ICCCC)Ljava/lang/String;"⟩ : MethodName) method_3_code 5 (some (.object "java/lang/String")) [] ({ frames := 4, cells := 3, slots := 12, locals := 66 } : Room) #[(.int (4 : Int32)), (.int c0), (.int c1), (.int c2), (.int c3)] (Q_cmk4 Z cs c0 c1 c2 c3 h0) := by
  refine enter (plainFor_of_name pn0) ?_
  intro pp ee ss mm below meth cc s₁ hx hby hml hZ hown hnm hret hlk X0 e0 hs0
  replace hown : ss.vm.findClass "com/example/cronopoly/cronopoly/ScheduleIdOfPinLaw" = some mm.cls := hown
  refine Go.cast (congrArg s₁.setTop (ef_cmk4 mm c0 c1 c2 c3)) ?_
  have N0 := Fr.nil Z.heap.size
  have KP := Keep.refl h0 []
  show Go pp ee below _ (s₁.setTop (mkF mm 0 #[.val (.int (4 : Int32)), .val (.int c0), .val (.int c1), .val (.int c2), .val (.int c3)] []))
  have hk101 : (c0.toInt8.toInt32) = c0 := own_b _ hc0
  have hk102 : nar .char c0 = c0 := own_nar _ hc0
  have hk103 : (c0 &&& (255 : Int32)) = c0 := own_a _ hc0
  have hk104 : ¬ ((255 : Int32) < c0) := own_255 _ hc0
  have hk105 : (c1.toInt8.toInt32) = c1 := own_b _ hc1
  have hk106 : nar .char c1 = c1 := own_nar _ hc1
  have hk107 : (c1 &&& (255 : Int32)) = c1 := own_a _ hc1
  have hk108 : ¬ ((255 : Int32) < c1) := own_255 _ hc1
  have hk109 : (c2.toInt8.toInt32) = c2 := own_b _ hc2
  have hk110 : nar .char c2 = c2 := own_nar _ hc2
  have hk111 : (c2 &&& (255 : Int32)) = c2 := own_a _ hc2
  have hk112 : ¬ ((255 : Int32) < c2) := own_255 _ hc2
  have hk113 : (c3.toInt8.toInt32) = c3 := own_b _ hc3
  have hk114 : nar .char c3 = c3 := own_nar _ hc3
  have hk115 : (c3 &&& (255 : Int32)) = c3 := own_a _ hc3
  have hk116 : ¬ ((255 : Int32) < c3) := own_255 _ hc3
  refine Go.iloadN X0 hx (hb hby d2_0) rfl (q := 1) rfl ?_
  refine Go.iconst X0 hx (hb hby d2_1) (r := (1 : Int32)) rfl (q := 2) rfl ?_
  refine Go.icmpYes X0 hx (hb hby d2_2) (by decide) (q := 20) (by decide) (by decide) ?_
  refine Go.iloadN X0 hx (hb hby d2_20) rfl (q := 21) rfl ?_
  refine Go.iconst X0 hx (hb hby d2_21) (r := (2 : Int32)) rfl (q := 22) rfl ?_
  refine Go.icmpYes X0 hx (hb hby d2_22) (by decide) (q := 44) (by decide) (by decide) ?_
  refine Go.iloadN X0 hx (hb hby d2_44) rfl (q := 45) rfl ?_
  refine Go.iconst X0 hx (hb hby d2_45) (r := (3 : Int32)) rfl (q := 46) rfl ?_
  refine Go.icmpYes X0 hx (hb hby d2_46) (by decide) (q := 72) (by decide) (by decide) ?_
  refine Go.newO X0 hx hZ hown (wd8 hw) (wd9 hw) (wd10 hw) e0 (hb hby d2_72) (by decide) (by decide) (q := 75) rfl ?_
  intro b117 T117 h117 X117 e117 q117 E117 A117 D117 U117
  have g_b117 : Z.heap.size ≤ b117 := Nat.le_trans O0.1 (Nat.le_of_eq q117)
  have z_b117 : h0.size ≤ b117 := Nat.le_trans KP.1 (Nat.le_of_eq q117)
  have OE117 := ext_trans O0 E117
  replace KP := KP.ext E117
  have F117_coder : Fld Z h117 b117 "java/lang/String" "coder" "B" (.int (0 : Int32)) := D117 (Or.inr (wd35 hw)) (ty := .byte) (by decide)
  have F117_value : Fld Z h117 b117 "java/lang/String" "value" "[B" .null := D117 (Or.inr (wd37 hw)) (ty := (.array .byte)) (by decide)
  clear D117
  refine Go.dup X117 hx (hb hby d2_75) rfl (q := 76) rfl ?_
  refine Go.iconst X117 hx (hb hby d2_76) (r := (4 : Int32)) rfl (q := 77) rfl ?_
  refine Go.newP X117 hx hZ (hb hby d2_77) (wd11 hw) e117 (by decide) (cap := 4) (by decide) (by decide) (by decide) (by decide) (ad := "[C") rfl (q := 79) rfl ?_
  intro b118 T118 h118 k118 X118 e118 q118 E118 V118 B118
  have ne_b117_b118 : b117 ≠ b118 := ne_new A117.lt (Nat.le_of_eq q118)
  have g_b118 : Z.heap.size ≤ b118 := Nat.le_trans OE117.1 (Nat.le_of_eq q118)
  have z_b118 : h0.size ≤ b118 := Nat.le_trans KP.1 (Nat.le_of_eq q118)
  replace A117 := A117.ext E118
  replace F117_coder := F117_coder.ext E118
  replace F117_value := F117_value.ext E118
  have OE118 := ext_trans OE117 E118
  replace KP := KP.ext E118
  replace V118 : Arv Z h118 b118 k118 .char (4 : Int32) [(.int (0 : Int32)), (.int (0 : Int32)), (.int (0 : Int32)), (.int (0 : Int32))] (.int (0 : Int32)) := V118.pad (pad_rep [] (.int (0 : Int32)) 4)
  refine Go.dup X118 hx (hb hby d2_79) rfl (q := 80) rfl ?_
  refine Go.iconst X118 hx (hb hby d2_80) (r := (0 : Int32)) rfl (q := 81) rfl ?_
  refine Go.iloadN X118 hx (hb hby d2_81) rfl (q := 82) rfl ?_
  refine Go.cst X118 hx hZ e118 V118 ⟨by decide, by decide⟩ (i := 0) rfl (Nat.le_of_ble_eq_true rfl) (hb hby d2_82) ?_
  intro T119 h119 X119 e119 W119 V119
  rw [hk102] at V119
  replace V119 : Arv Z h119 b118 k118 .char (4 : Int32) [(.int c0), (.int (0 : Int32)), (.int (0 : Int32)), (.int (0 : Int32))] (.int (0 : Int32)) := V119
  have N119 := Fr.snoc X119 N0 g_b118
  replace A117 := A117.wr W119
  replace F117_coder := F117_coder.other W119 (Or.inl ne_b117_b118)
  replace F117_value := F117_value.other W119 (Or.inl ne_b117_b118)
  replace B118 := B118.wr W119
  have OW119 := ext_wr OE118 W119 g_b118
  replace KP := KP.wr W119 (Or.inr z_b118)
  refine Go.dup X119 hx (hb hby d2_83) rfl (q := 84) rfl ?_
  refine Go.iconst X119 hx (hb hby d2_84) (r := (1 : Int32)) rfl (q := 85) rfl ?_
  refine Go.iloadN X119 hx (hb hby d2_85) rfl (q := 86) rfl ?_
  refine Go.cst X119 hx hZ e119 V119 ⟨by decide, by decide⟩ (i := 1) rfl (Nat.le_of_ble_eq_true rfl) (hb hby d2_86) ?_
  intro T120 h120 X120 e120 W120 V120
  rw [hk106] at V120
  replace V120 : Arv Z h120 b118 k118 .char (4 : Int32) [(.int c0), (.int c1), (.int (0 : Int32)), (.int (0 : Int32))] (.int (0 : Int32)) := V120
  have N120 := Fr.snoc X120 N119 g_b118
  replace A117 := A117.wr W120
  replace F117_coder := F117_coder.other W120 (Or.inl ne_b117_b118)
  replace F117_value := F117_value.other W120 (Or.inl ne_b117_b118)
  replace B118 := B118.wr W120
  have OW120 := ext_wr OW119 W120 g_b118
  replace KP := KP.wr W120 (Or.inr z_b118)
  refine Go.dup X120 hx (hb hby d2_87) rfl (q := 88) rfl ?_
  refine Go.iconst X120 hx (hb hby d2_88) (r := (2 : Int32)) rfl (q := 89) rfl ?_
  refine Go.iloadN X120 hx (hb hby d2_89) rfl (q := 90) rfl ?_
  refine Go.cst X120 hx hZ e120 V120 ⟨by decide, by decide⟩ (i := 2) rfl (Nat.le_of_ble_eq_true rfl) (hb hby d2_90) ?_
  intro T121 h121 X121 e121 W121 V121
  rw [hk110] at V121
  replace V121 : Arv Z h121 b118 k118 .char (4 : Int32) [(.int c0), (.int c1), (.int c2), (.int (0 : Int32))] (.int (0 : Int32)) := V121
  have N121 := Fr.snoc X121 N120 g_b118
  replace A117 := A117.wr W121
  replace F117_coder := F117_coder.other W121 (Or.inl ne_b117_b118)
  replace F117_value := F117_value.other W121 (Or.inl ne_b117_b118)
  replace B118 := B118.wr W121
  have OW121 := ext_wr OW120 W121 g_b118
  replace KP := KP.wr W121 (Or.inr z_b118)
  refine Go.dup X121 hx (hb hby d2_91) rfl (q := 92) rfl ?_
  refine Go.iconst X121 hx (hb hby d2_92) (r := (3 : Int32)) rfl (q := 93) rfl ?_
  refine Go.iload X121 hx (hb hby d2_93) rfl (q := 95) rfl ?_
  refine Go.cst X121 hx hZ e121 V121 ⟨by decide, by decide⟩ (i := 3) rfl (Nat.le_of_ble_eq_true rfl) (hb hby d2_95) ?_
  intro T122 h122 X122 e122 W122 V122
  rw [hk114] at V122
  replace V122 : Arv Z h122 b118 k118 .char (4 : Int32) [(.int c0), (.int c1), (.int c2), (.int c3)] (.int (0 : Int32)) := V122
  have N122 := Fr.snoc X122 N121 g_b118
  replace A117 := A117.wr W122
  replace F117_coder := F117_coder.other W122 (Or.inl ne_b117_b118)
  replace F117_value := F117_value.other W122 (Or.inl ne_b117_b118)
  replace B118 := B118.wr W122
  have OW122 := ext_wr OW121 W122 g_b118
  replace KP := KP.wr W122 (Or.inr z_b118)
  refine Go.init X122 hx hZ hown rfl (wd12 hw) (wd13 hw) (wd10 hw) (wd14 hw) (by decide) (csj4 l Z a0 hw b117 b118 cs (k118) c0 c1 c2 c3 h122 OW122 A117 F117_value F117_coder g_b117 V122 SCS hcs hc0 hc1 hc2 hc3) e122 (by rw [hml]; rfl) (hb hby d2_96) (argsL := [(.ref b118)]) (rest := [(.ref b117)]) (lenOf pd4 rfl) rfl rfl (W := 1) (by first | exact Nat.le_refl _ | decide) (by decide) (by decide) (by decide) (by decide) ?_
  intro v123 T123 L123 X123 hQ123
  obtain ⟨h123, e123⟩ : ∃ z, T123.heap = z := ⟨_, rfl⟩
  rw [e123] at hQ123
  obtain ⟨b_123, kb_123, rfl, N123q, K123, fr123_b, P123_0, P123_1, P123_2⟩ := hQ123
  have N123 := Fr.app N122 N123q
  have ne_b117_b_123 : b117 ≠ b_123 := ne_new A117.lt fr123_b
  have ne_b118_b_123 : b118 ≠ b_123 := ne_new B118.lt fr123_b
  have g_b_123 : Z.heap.size ≤ b_123 := Nat.le_trans OW122.1 fr123_b
  have z_b_123 : h0.size ≤ b_123 := Nat.le_trans KP.1 fr123_b
  replace A117 := A117.keep K123
  replace B118 := B118.keep K123
  replace V122 := V122.keep K123 (ninS (Ne.symm ne_b117_b118) nin0)
  have OK123 := ext_keep OW122 K123 (allS g_b117 all0)
  replace KP := KP.trans K123 (allS (Or.inr z_b117) all0)
  exact Go.retA X123 hx hret hlk rfl rfl (hb hby d2_99) e123 (by decide) (by decide) ⟨b117, b_123, kb_123, rfl, N123, KP, z_b117, z_b_123, A117, P123_1, P123_0, P123_2⟩
def Q_creq (Z : State) (o : Addr) (q : Addr) (h0 : Heap) (vR : Option Value) (hR : Heap) (LR : List Loc) : Prop := vR = some (.ref o) ∧ Fr Z.heap.size LR ∧ hR = h0
set_option maxRecDepth 65536 in
set_option maxHeartbeats 40000000 in
theorem creq (l : Launch) (Z : State) (a0 : Array Value) (hw : ∀ d ∈ tables_1, d.before a0 Z = true) (o : Addr) (q : Addr) (h0 : Heap) (O0 : Ext Z.heap h0) :
    Ctr l Z h0 (⟨"java/util/Objects", "requireNonNull", "(Ljava/lang/Object;Ljava/lang/String;)Ljava/lang/Object;"⟩ : MethodName) jdk_31_method_11_code 2 (some (.object "java/lang/Object")) [] ({ frames := 0, cells := 0, slots := 0, locals := 0 } : Room) #[(.ref o), (.ref q)] (Q_creq Z o q h0) := by
  refine enter (plainFor_of_name pn3) ?_
  intro pp ee ss mm below meth cc s₁ hx hby hml hZ hown hnm hret hlk X0 e0 hs0
  replace hown : ss.vm.findClass "java/util/Objects" = some mm.cls := hown
  refine Go.cast (congrArg s₁.setTop (ef_creq mm o q)) ?_
  have N0 := Fr.nil Z.heap.size
  show Go pp ee below _ (s₁.setTop (mkF mm 0 #[.val (.ref o), .val (.ref q)] []))
  refine Go.aloadN X0 hx (hb hby d10_0) rfl rfl (q := 1) rfl ?_
  refine Go.ifnonnullYes X0 hx (hb hby d10_1) (q := 13) (by decide) (by decide) ?_
  refine Go.aloadN X0 hx (hb hby d10_13) rfl rfl (q := 14) rfl ?_
  exact Go.retA X0 hx hret hlk rfl rfl (hb hby d10_14) e0 (by decide) (by decide) ⟨rfl, N0, rfl⟩
def Q_cemp (Z : State) (o : Addr) (v : Addr) (kv : ClassId) (n : Int32) (vs : List Value) (h0 : Heap) (vR : Option Value) (hR : Heap) (LR : List Loc) : Prop := vR = some (.int (0 : Int32)) ∧ Fr Z.heap.size LR ∧ hR = h0
set_option maxRecDepth 65536 in
set_option maxHeartbeats 40000000 in
theorem cemp (l : Launch) (Z : State) (a0 : Array Value) (hw : ∀ d ∈ tables_1, d.before a0 Z = true) (o : Addr) (v : Addr) (kv : ClassId) (n : Int32) (vs : List Value) (h0 : Heap) (O0 : Ext Z.heap h0) (F : Fld Z h0 o "java/lang/String" "value" "[B" (.ref v)) (Va : Arv Z h0 v kv .byte n vs (.int (0 : Int32))) (hn : ¬ (n = (0 : Int32))) :
    Ctr l Z h0 (⟨"java/lang/String", "isEmpty", "()Z"⟩ : MethodName) jdk_42_method_55_code 1 (some .boolean) [] ({ frames := 0, cells := 0, slots := 0, locals := 0 } : Room) #[(.ref o)] (Q_cemp Z o v kv n vs h0) := by
  refine enter (plainFor_of_name pn2) ?_
  intro pp ee ss mm below meth cc s₁ hx hby hml hZ hown hnm hret hlk X0 e0 hs0
  replace hown : ss.vm.findClass "java/lang/String" = some mm.cls := hown
  refine Go.cast (congrArg s₁.setTop (ef_cemp mm o)) ?_
  have N0 := Fr.nil Z.heap.size
  show Go pp ee below _ (s₁.setTop (mkF mm 0 #[.val (.ref o)] []))
  refine Go.aloadN X0 hx (hb hby d11_0) rfl rfl (q := 1) rfl ?_
  refine Go.getF X0 hx hZ hown (host := "") (Or.inl (wd36 hw)) Via.refl e0 F (hb hby d11_1) (q := 4) rfl ?_
  intro T101 X101 e101
  refine Go.alen X101 hx hZ e101 Va (hb hby d11_4) ?_
  refine Go.ifYes X101 hx (hb hby d11_5) (Jvm.Free.XT.i0_ne_t hn) (q := 12) (by decide) (by decide) ?_
  refine Go.iconst X101 hx (hb hby d11_12) (r := (0 : Int32)) rfl (q := 13) rfl ?_
  exact Go.retI X101 hx hret hlk (by simp) rfl (hb hby d11_13) e101 (by decide) (by decide) ⟨rfl, N0, rfl⟩
def Q_ccoder (Z : State) (o : Addr) (cs : Int32) (h0 : Heap) (vR : Option Value) (hR : Heap) (LR : List Loc) : Prop := vR = some (.int (0 : Int32)) ∧ Fr Z.heap.size LR ∧ hR = h0
set_option maxRecDepth 65536 in
set_option maxHeartbeats 40000000 in
theorem ccoder (l : Launch) (Z : State) (a0 : Array Value) (hw : ∀ d ∈ tables_1, d.before a0 Z = true) (o : Addr) (cs : Int32) (h0 : Heap) (O0 : Ext Z.heap h0) (C : Fld Z h0 o "java/lang/String" "coder" "B" (.int (0 : Int32))) (SCS : Sta Z Z.heap "java/lang/String" "COMPACT_STRINGS" "Z" (.int cs)) (hcs : ¬ (cs = (0 : Int32))) :
    Ctr l Z h0 (⟨"java/lang/String", "coder", "()B"⟩ : MethodName) jdk_42_method_152_code 1 (some .byte) [] ({ frames := 0, cells := 0, slots := 0, locals := 0 } : Room) #[(.ref o)] (Q_ccoder Z o cs h0) := by
  refine enter (plainFor_of_name pn2) ?_
  intro pp ee ss mm below meth cc s₁ hx hby hml hZ hown hnm hret hlk X0 e0 hs0
  replace hown : ss.vm.findClass "java/lang/String" = some mm.cls := hown
  refine Go.cast (congrArg s₁.setTop (ef_ccoder mm o)) ?_
  have N0 := Fr.nil Z.heap.size
  show Go pp ee below _ (s₁.setTop (mkF mm 0 #[.val (.ref o)] []))
  refine Go.getS X0 hx hZ hown (host := "") (Or.inl (wd22 hw)) Via.refl e0 (SCS.ext O0) (hb hby d13_0) (q := 3) rfl ?_
  intro T101 X101 e101
  refine Go.ifNo X101 hx (hb hby d13_3) (Jvm.Free.XT.i0_eq_f hcs) (q := 6) rfl ?_
  refine Go.aloadN X101 hx (hb hby d13_6) rfl rfl (q := 7) rfl ?_
  refine Go.getF X101 hx hZ hown (host := "") (Or.inl (wd34 hw)) Via.refl e101 C (hb hby d13_7) (q := 10) rfl ?_
  intro T102 X102 e102
  refine Go.goto X102 hx (hb hby d13_10) (q := 14) (by decide) (by decide) ?_
  exact Go.retI X102 hx hret hlk (by simp) rfl (hb hby d13_14) e102 (by decide) (by decide) ⟨rfl, N0, rfl⟩
def Q_clen (Z : State) (o : Addr) (cs : Int32) (v : Addr) (kv : ClassId) (n : Int32) (vs : List Value) (h0 : Heap) (vR : Option Value) (hR : Heap) (LR : List Loc) : Prop := vR = some (.int n) ∧ Fr Z.heap.size LR ∧ hR = h0
set_option maxRecDepth 65536 in
set_option maxHeartbeats 40000000 in
theorem clen (l : Launch) (Z : State) (a0 : Array Value) (hw : ∀ d ∈ tables_1, d.before a0 Z = true) (o : Addr) (cs : Int32) (v : Addr) (kv : ClassId) (n : Int32) (vs : List Value) (h0 : Heap) (O0 : Ext Z.heap h0) (E : Exa Z h0 o "java/lang/String") (C : Fld Z h0 o "java/lang/String" "coder" "B" (.int (0 : Int32))) (F : Fld Z h0 o "java/lang/String" "value" "[B" (.ref v)) (Va : Arv Z h0 v kv .byte n vs (.int (0 : Int32))) (SCS : Sta Z Z.heap "java/lang/String" "COMPACT_STRINGS" "Z" (.int cs)) (hcs : ¬ (cs = (0 : Int32))) :
    Ctr l Z h0 (⟨"java/lang/String", "length", "()I"⟩ : MethodName) jdk_42_method_54_code 1 (some .int) [] ({ frames := 1, cells := 0, slots := 0, locals := 13 } : Room) #[(.ref o)] (Q_clen Z o cs v kv n vs h0) := by
  refine enter (plainFor_of_name pn2) ?_
  intro pp ee ss mm below meth cc s₁ hx hby hml hZ hown hnm hret hlk X0 e0 hs0
  replace hown : ss.vm.findClass "java/lang/String" = some mm.cls := hown
  refine Go.cast (congrArg s₁.setTop (ef_clen mm o)) ?_
  have N0 := Fr.nil Z.heap.size
  show Go pp ee below _ (s₁.setTop (mkF mm 0 #[.val (.ref o)] []))
  refine Go.aloadN X0 hx (hb hby d12_0) rfl rfl (q := 1) rfl ?_
  refine Go.getF X0 hx hZ hown (host := "") (Or.inl (wd36 hw)) Via.refl e0 F (hb hby d12_1) (q := 4) rfl ?_
  intro T101 X101 e101
  refine Go.alen X101 hx hZ e101 Va (hb hby d12_4) ?_
  refine Go.aloadN X101 hx (hb hby d12_5) rfl rfl (q := 6) rfl ?_
  refine Go.virt X101 hx hZ hown (wd59 hw) (wd60 hw) (notFace_of_selects (args := #[]) (mvT hZ (wd62 hw))) (wd62 hw) (wd61 hw) (wd10 hw) (wd63 hw) (by decide) (ccoder l Z a0 hw o cs h0 O0 C SCS hcs) e101 E (by rw [hml]; rfl) (hb hby d12_6) (argsL := []) (rest := [(.int n)]) (lenOf pd5 rfl) rfl rfl (W := 1) (by first | exact Nat.le_refl _ | decide) (by decide) (by decide) (by decide) (by decide) ?_
  intro v102 T102 L102 X102 hQ102
  obtain ⟨rfl, N102q, e102⟩ := hQ102
  have N102 := Fr.app N0 N102q
  refine Go.ishr X102 hx (hb hby d12_9) rfl (q := 10) rfl ?_
  exact Go.retI X102 hx hret hlk (Or.inl rfl) rfl (hb hby d12_10) e102 (by decide) (by decide) ⟨by rw [own_shr0], N102, rfl⟩
def Q_clat (Z : State) (o : Addr) (cs : Int32) (h0 : Heap) (vR : Option Value) (hR : Heap) (LR : List Loc) : Prop := vR = some (.int (1 : Int32)) ∧ Fr Z.heap.size LR ∧ hR = h0
set_option maxRecDepth 65536 in
set_option maxHeartbeats 40000000 in
theorem clat (l : Launch) (Z : State) (a0 : Array Value) (hw : ∀ d ∈ tables_1, d.before a0 Z = true) (o : Addr) (cs : Int32) (h0 : Heap) (O0 : Ext Z.heap h0) (C : Fld Z h0 o "java/lang/String" "coder" "B" (.int (0 : Int32))) (SCS : Sta Z Z.heap "java/lang/String" "COMPACT_STRINGS" "Z" (.int cs)) (hcs : ¬ (cs = (0 : Int32))) :
    Ctr l Z h0 (⟨"java/lang/String", "isLatin1", "()Z"⟩ : MethodName) jdk_42_method_154_code 1 (some .boolean) [] ({ frames := 0, cells := 0, slots := 0, locals := 0 } : Room) #[(.ref o)] (Q_clat Z o cs h0) := by
  refine enter (plainFor_of_name pn2) ?_
  intro pp ee ss mm below meth cc s₁ hx hby hml hZ hown hnm hret hlk X0 e0 hs0
  replace hown : ss.vm.findClass "java/lang/String" = some mm.cls := hown
  refine Go.cast (congrArg s₁.setTop (ef_clat mm o)) ?_
  have N0 := Fr.nil Z.heap.size
  show Go pp ee below _ (s₁.setTop (mkF mm 0 #[.val (.ref o)] []))
  refine Go.getS X0 hx hZ hown (host := "") (Or.inl (wd22 hw)) Via.refl e0 (SCS.ext O0) (hb hby d15_0) (q := 3) rfl ?_
  intro T101 X101 e101
  refine Go.ifNo X101 hx (hb hby d15_3) (Jvm.Free.XT.i0_eq_f hcs) (q := 6) rfl ?_
  refine Go.aloadN X101 hx (hb hby d15_6) rfl rfl (q := 7) rfl ?_
  refine Go.getF X101 hx hZ hown (host := "") (Or.inl (wd34 hw)) Via.refl e101 C (hb hby d15_7) (q := 10) rfl ?_
  intro T102 X102 e102
  refine Go.ifNo X102 hx (hb hby d15_10) (by decide) (q := 13) rfl ?_
  refine Go.iconst X102 hx (hb hby d15_13) (r := (1 : Int32)) rfl (q := 14) rfl ?_
  refine Go.goto X102 hx (hb hby d15_14) (q := 18) (by decide) (by decide) ?_
  exact Go.retI X102 hx hret hlk (by simp) rfl (hb hby d15_18) e102 (by decide) (by decide) ⟨rfl, N0, rfl⟩
def Q_cpchk (Z : State) (i : Int32) (n : Int32) (fm : Value) (h0 : Heap) (vR : Option Value) (hR : Heap) (LR : List Loc) : Prop := vR = some (.int i) ∧ Fr Z.heap.size LR ∧ hR = h0
set_option maxRecDepth 65536 in
set_option maxHeartbeats 40000000 in
theorem cpchk (l : Launch) (Z : State) (a0 : Array Value) (hw : ∀ d ∈ tables_1, d.before a0 Z = true) (i : Int32) (n : Int32) (fm : Value) (h0 : Heap) (O0 : Ext Z.heap h0) (hfm : fm.isRef = true) (hi0 : ¬ (i < (0 : Int32))) (hi1 : i < n) :
    Ctr l Z h0 (⟨"jdk/internal/util/Preconditions", "checkIndex", "(IILjava/util/function/BiFunction;)I"⟩ : MethodName) jdk_41_method_11_code 3 (some .int) [] ({ frames := 0, cells := 0, slots := 0, locals := 0 } : Room) #[(.int i), (.int n), fm] (Q_cpchk Z i n fm h0) := by
  refine enter (plainFor_of_name pn4) ?_
  intro pp ee ss mm below meth cc s₁ hx hby hml hZ hown hnm hret hlk X0 e0 hs0
  replace hown : ss.vm.findClass "jdk/internal/util/Preconditions" = some mm.cls := hown
  refine Go.cast (congrArg s₁.setTop (ef_cpchk mm i n fm hfm)) ?_
  have N0 := Fr.nil Z.heap.size
  show Go pp ee below _ (s₁.setTop (mkF mm 0 #[.val (.int i), .val (.int n), .val fm] []))
  refine Go.iloadN X0 hx (hb hby d17_0) rfl (q := 1) rfl ?_
  refine Go.ifNo X0 hx (hb hby d17_1) (Jvm.Free.XT.i0_lt_f hi0) (q := 4) rfl ?_
  refine Go.iloadN X0 hx (hb hby d17_4) rfl (q := 5) rfl ?_
  refine Go.iloadN X0 hx (hb hby d17_5) rfl (q := 6) rfl ?_
  refine Go.icmpYes X0 hx (hb hby d17_6) (Jvm.Free.XT.ii_lt_t hi1) (q := 16) (by decide) (by decide) ?_
  refine Go.iloadN X0 hx (hb hby d17_16) rfl (q := 17) rfl ?_
  exact Go.retI X0 hx hret hlk (Or.inl rfl) rfl (hb hby d17_17) e0 (by decide) (by decide) ⟨rfl, N0, rfl⟩
def Q_cschk (Z : State) (i : Int32) (n : Int32) (fm : Value) (h0 : Heap) (vR : Option Value) (hR : Heap) (LR : List Loc) : Prop := vR = none ∧ Fr Z.heap.size LR ∧ hR = h0
set_option maxRecDepth 65536 in
set_option maxHeartbeats 40000000 in
theorem cschk (l : Launch) (Z : State) (a0 : Array Value) (hw : ∀ d ∈ tables_1, d.before a0 Z = true) (i : Int32) (n : Int32) (fm : Value) (h0 : Heap) (O0 : Ext Z.heap h0) (SFM : Sta Z Z.heap "jdk/internal/util/Preconditions" "SIOOBE_FORMATTER" "Ljava/util/function/BiFunction;" fm) (hfm : fm.isRef = true) (hi0 : ¬ (i < (0 : Int32))) (hi1 : i < n) :
    Ctr l Z h0 (⟨"java/lang/String", "checkIndex", "(II)V"⟩ : MethodName) jdk_42_method_155_code 2 none [] ({ frames := 1, cells := 0, slots := 0, locals := 14 } : Room) #[(.int i), (.int n)] (Q_cschk Z i n fm h0) := by
  refine enter (plainFor_of_name pn2) ?_
  intro pp ee ss mm below meth cc s₁ hx hby hml hZ hown hnm hret hlk X0 e0 hs0
  replace hown : ss.vm.findClass "java/lang/String" = some mm.cls := hown
  refine Go.cast (congrArg s₁.setTop (ef_cschk mm i n)) ?_
  have N0 := Fr.nil Z.heap.size
  show Go pp ee below _ (s₁.setTop (mkF mm 0 #[.val (.int i), .val (.int n)] []))
  refine Go.iloadN X0 hx (hb hby d16_0) rfl (q := 1) rfl ?_
  refine Go.iloadN X0 hx (hb hby d16_1) rfl (q := 2) rfl ?_
  refine Go.getS X0 hx hZ hown (host := "") (Or.inl (wd77 hw)) Via.refl e0 (SFM.ext O0) (hb hby d16_2) (q := 5) rfl ?_
  intro T101 X101 e101
  refine Go.callS X101 hx hZ hown (wd79 hw) (wd80 hw) (wd78 hw) (wd81 hw) (by decide) (cpchk l Z a0 hw i n fm h0 O0 hfm hi0 hi1) e101 (by rw [hml]; rfl) (hb hby d16_5) (argsL := [(.int i), (.int n), fm]) (rest := []) (lenOf pd6 rfl) rfl rfl (W := 0) (by first | exact Nat.le_refl _ | decide) (by decide) (by decide) (by decide) (by decide) ?_
  intro v102 T102 L102 X102 hQ102
  obtain ⟨rfl, N102q, e102⟩ := hQ102
  have N102 := Fr.app N0 N102q
  refine Go.pop X102 hx (hb hby d16_8) rfl (q := 9) rfl ?_
  exact Go.retV X102 hx hret hlk (hb hby d16_9) e102 (by decide) (by decide) ⟨rfl, N102, rfl⟩
def Q_ccpa (Z : State) (o : Addr) (i : Int32) (cs : Int32) (v : Addr) (kv : ClassId) (n : Int32) (vs : List Value) (x : Int32) (fm : Value) (h0 : Heap) (vR : Option Value) (hR : Heap) (LR : List Loc) : Prop := vR = some (.int x) ∧ Fr Z.heap.size LR ∧ hR = h0
set_option maxRecDepth 65536 in
set_option maxHeartbeats 40000000 in
theorem ccpa (l : Launch) (Z : State) (a0 : Array Value) (hw : ∀ d ∈ tables_1, d.before a0 Z = true) (o : Addr) (i : Int32) (cs : Int32) (v : Addr) (kv : ClassId) (n : Int32) (vs : List Value) (x : Int32) (fm : Value) (h0 : Heap) (O0 : Ext Z.heap h0) (E : Exa Z h0 o "java/lang/String") (C : Fld Z h0 o "java/lang/String" "coder" "B" (.int (0 : Int32))) (F : Fld Z h0 o "java/lang/String" "value" "[B" (.ref v)) (Va : Arv Z h0 v kv .byte n vs (.int (0 : Int32))) (SCS : Sta Z Z.heap "java/lang/String" "COMPACT_STRINGS" "Z" (.int cs)) (SFM : Sta Z Z.heap "jdk/internal/util/Preconditions" "SIOOBE_FORMATTER" "Ljava/util/function/BiFunction;" fm) (hcs : ¬ (cs = (0 : Int32))) (hfm : fm.isRef = true) (hi0 : ¬ (i < (0 : Int32))) (hi1 : i < n) (hgx : vs.getD (i).toNatClampNeg (.int (0 : Int32)) = (.int x)) (hx5 : (x &&& (255 : Int32)) = x) :
    Ctr l Z h0 (⟨"java/lang/String", "codePointAt", "(I)I"⟩ : MethodName) jdk_42_method_57_code 3 (some .int) [] ({ frames := 2, cells := 0, slots := 0, locals := 27 } : Room) #[(.ref o), (.int i)] (Q_ccpa Z o i cs v kv n vs x fm h0) := by
  refine enter (plainFor_of_name pn2) ?_
  intro pp ee ss mm below meth cc s₁ hx hby hml hZ hown hnm hret hlk X0 e0 hs0
  replace hown : ss.vm.findClass "java/lang/String" = some mm.cls := hown
  refine Go.cast (congrArg s₁.setTop (ef_ccpa mm o i)) ?_
  have N0 := Fr.nil Z.heap.size
  show Go pp ee below _ (s₁.setTop (mkF mm 0 #[.val (.ref o), .val (.int i), .unset] []))
  refine Go.aloadN X0 hx (hb hby d14_0) rfl rfl (q := 1) rfl ?_
  refine Go.virt X0 hx hZ hown (wd69 hw) (wd70 hw) (notFace_of_selects (args := #[]) (mvT hZ (wd72 hw))) (wd72 hw) (wd71 hw) (wd10 hw) (wd73 hw) (by decide) (clat l Z a0 hw o cs h0 O0 C SCS hcs) e0 E (by rw [hml]; rfl) (hb hby d14_1) (argsL := []) (rest := []) (lenOf pd7 rfl) rfl rfl (W := 0) (by first | exact Nat.le_refl _ | decide) (by decide) (by decide) (by decide) (by decide) ?_
  intro v101 T101 L101 X101 hQ101
  obtain ⟨rfl, N101q, e101⟩ := hQ101
  have N101 := Fr.app N0 N101q
  refine Go.ifNo X101 hx (hb hby d14_4) (by decide) (q := 7) rfl ?_
  refine Go.iloadN X101 hx (hb hby d14_7) rfl (q := 8) rfl ?_
  refine Go.aloadN X101 hx (hb hby d14_8) rfl rfl (q := 9) rfl ?_
  refine Go.getF X101 hx hZ hown (host := "") (Or.inl (wd36 hw)) Via.refl e101 F (hb hby d14_9) (q := 12) rfl ?_
  intro T102 X102 e102
  refine Go.alen X102 hx hZ e102 Va (hb hby d14_12) ?_
  refine Go.callS X102 hx hZ hown (wd74 hw) (wd75 hw) (wd10 hw) (wd76 hw) (by decide) (cschk l Z a0 hw i n fm h0 O0 SFM hfm hi0 hi1) e102 (by rw [hml]; rfl) (hb hby d14_13) (argsL := [(.int i), (.int n)]) (rest := []) (lenOf pd8 rfl) rfl rfl (W := 0) (by first | exact Nat.le_refl _ | decide) (by decide) (by decide) (by decide) (by decide) ?_
  intro v103 T103 L103 X103 hQ103
  obtain ⟨rfl, N103q, e103⟩ := hQ103
  have N103 := Fr.app N101 N103q
  refine Go.aloadN X103 hx (hb hby d14_16) rfl rfl (q := 17) rfl ?_
  refine Go.getF X103 hx hZ hown (host := "") (Or.inl (wd36 hw)) Via.refl e103 F (hb hby d14_17) (q := 20) rfl ?_
  intro T104 X104 e104
  refine Go.iloadN X104 hx (hb hby d14_20) rfl (q := 21) rfl ?_
  refine Go.bal X104 hx hZ e104 Va ⟨hi0, hi1⟩ (v := (.int x)) hgx (hb hby d14_21) ?_
  refine Go.sipush X104 hx (hb hby d14_22) (r := (255 : Int32)) rfl (q := 25) rfl ?_
  refine Go.iand X104 hx (hb hby d14_25) rfl (q := 26) rfl ?_
  exact Go.retI X104 hx hret hlk (Or.inl rfl) rfl (hb hby d14_26) e104 (by decide) (by decide) ⟨by rw [hx5], N103, rfl⟩
def Q_cisi (Z : State) (c : Int32) (h0 : Heap) (vR : Option Value) (hR : Heap) (LR : List Loc) : Prop := vR = some (.int (1 : Int32)) ∧ Fr Z.heap.size LR ∧ hR = h0
set_option maxRecDepth 65536 in
set_option maxHeartbeats 40000000 in
theorem cisi (l : Launch) (Z : State) (a0 : Array Value) (hw : ∀ d ∈ tables_1, d.before a0 Z = true) (c : Int32) (h0 : Heap) (O0 : Ext Z.heap h0) (hc : c ∈ ownL) :
    Ctr l Z h0 (⟨"com/example/cronopoly/cronopoly/ScheduleId", "isIdCharacter", "(I)Z"⟩ : MethodName) prog_16_method_3_code 2 (some .boolean) [] ({ frames := 0, cells := 0, slots := 0, locals := 0 } : Room) #[(.int c)] (Q_cisi Z c h0) := by
  refine enter (plainFor_of_name pn5) ?_
  intro pp ee ss mm below meth cc s₁ hx hby hml hZ hown hnm hret hlk X0 e0 hs0
  replace hown : ss.vm.findClass "com/example/cronopoly/cronopoly/ScheduleId" = some mm.cls := hown
  refine Go.cast (congrArg s₁.setTop (ef_cisi mm c)) ?_
  have N0 := Fr.nil Z.heap.size
  show Go pp ee below _ (s₁.setTop (mkF mm 0 #[.val (.int c), .unset] []))
  refine Go.iloadN X0 hx (hb hby d18_0) rfl (q := 1) rfl ?_
  refine Go.bipush X0 hx (hb hby d18_1) (r := (65 : Int32)) rfl (q := 3) rfl ?_
  by_cases hc101 : c < (65 : Int32)
  · have tc101 := (show (c).toInt < 65 from own_lt hc101)
    refine Go.icmpYes X0 hx (hb hby d18_3) (Jvm.Free.XT.ii_lt_t hc101) (q := 12) (by decide) (by decide) ?_
    refine Go.iloadN X0 hx (hb hby d18_12) rfl (q := 13) rfl ?_
    refine Go.bipush X0 hx (hb hby d18_13) (r := (97 : Int32)) rfl (q := 15) rfl ?_
    by_cases hc102 : c < (97 : Int32)
    · have tc102 := (show (c).toInt < 97 from own_lt hc102)
      refine Go.icmpYes X0 hx (hb hby d18_15) (Jvm.Free.XT.ii_lt_t hc102) (q := 24) (by decide) (by decide) ?_
      refine Go.iloadN X0 hx (hb hby d18_24) rfl (q := 25) rfl ?_
      refine Go.bipush X0 hx (hb hby d18_25) (r := (48 : Int32)) rfl (q := 27) rfl ?_
      by_cases hc103 : c < (48 : Int32)
      · have tc103 := (show (c).toInt < 48 from own_lt hc103)
        refine Go.icmpYes X0 hx (hb hby d18_27) (Jvm.Free.XT.ii_lt_t hc103) (q := 40) (by decide) (by decide) ?_
        refine Go.iconst X0 hx (hb hby d18_40) (r := (0 : Int32)) rfl (q := 41) rfl ?_
        refine Go.istoreN X0 hx (hb hby d18_41) (l' := #[.val (.int c), .val (.int (0 : Int32))]) rfl (q := 42) rfl ?_
        refine Go.iloadN X0 hx (hb hby d18_42) rfl (q := 43) rfl ?_
        refine Go.ifNo X0 hx (hb hby d18_43) (by decide) (q := 46) rfl ?_
        refine Go.iloadN X0 hx (hb hby d18_46) rfl (q := 47) rfl ?_
        refine Go.bipush X0 hx (hb hby d18_47) (r := (46 : Int32)) rfl (q := 49) rfl ?_
        by_cases hc104 : c = (46 : Int32)
        · have tc104 := (show (c).toInt = 46 from own_eq hc104)
          refine Go.icmpYes X0 hx (hb hby d18_49) (Jvm.Free.XT.ii_eq_t hc104) (q := 64) (by decide) (by decide) ?_
          refine Go.iconst X0 hx (hb hby d18_64) (r := (1 : Int32)) rfl (q := 65) rfl ?_
          refine Go.goto X0 hx (hb hby d18_65) (q := 69) (by decide) (by decide) ?_
          exact Go.retI X0 hx hret hlk (by simp) rfl (hb hby d18_69) e0 (by decide) (by decide) ⟨rfl, N0, rfl⟩
        · have tc104 := (show ¬ (c).toInt = 46 from own_eqn hc104)
          refine Go.icmpNo X0 hx (hb hby d18_49) (Jvm.Free.XT.ii_eq_f hc104) (q := 52) rfl ?_
          refine Go.iloadN X0 hx (hb hby d18_52) rfl (q := 53) rfl ?_
          refine Go.bipush X0 hx (hb hby d18_53) (r := (95 : Int32)) rfl (q := 55) rfl ?_
          by_cases hc105 : c = (95 : Int32)
          · have tc105 := (show (c).toInt = 95 from own_eq hc105)
            refine Go.icmpYes X0 hx (hb hby d18_55) (Jvm.Free.XT.ii_eq_t hc105) (q := 64) (by decide) (by decide) ?_
            refine Go.iconst X0 hx (hb hby d18_64) (r := (1 : Int32)) rfl (q := 65) rfl ?_
            refine Go.goto X0 hx (hb hby d18_65) (q := 69) (by decide) (by decide) ?_
            exact Go.retI X0 hx hret hlk (by simp) rfl (hb hby d18_69) e0 (by decide) (by decide) ⟨rfl, N0, rfl⟩
          · have tc105 := (show ¬ (c).toInt = 95 from own_eqn hc105)
            refine Go.icmpNo X0 hx (hb hby d18_55) (Jvm.Free.XT.ii_eq_f hc105) (q := 58) rfl ?_
            refine Go.iloadN X0 hx (hb hby d18_58) rfl (q := 59) rfl ?_
            refine Go.bipush X0 hx (hb hby d18_59) (r := (45 : Int32)) rfl (q := 61) rfl ?_
            by_cases hc106 : c = (45 : Int32)
            · have tc106 := (show (c).toInt = 45 from own_eq hc106)
              refine Go.icmpNo X0 hx (hb hby d18_61) (Jvm.Free.XT.ii_ne_f hc106) (q := 64) rfl ?_
              refine Go.iconst X0 hx (hb hby d18_64) (r := (1 : Int32)) rfl (q := 65) rfl ?_
              refine Go.goto X0 hx (hb hby d18_65) (q := 69) (by decide) (by decide) ?_
              exact Go.retI X0 hx hret hlk (by simp) rfl (hb hby d18_69) e0 (by decide) (by decide) ⟨rfl, N0, rfl⟩
            · have tc106 := (show ¬ (c).toInt = 45 from own_eqn hc106)
              refine Go.icmpYes X0 hx (hb hby d18_61) (Jvm.Free.XT.ii_ne_t hc106) (q := 68) (by decide) (by decide) ?_
              refine Go.iconst X0 hx (hb hby d18_68) (r := (0 : Int32)) rfl (q := 69) rfl ?_
              exact Go.retI X0 hx hret hlk (by simp) rfl (hb hby d18_69) e0 (by decide) (by decide) (by exfalso; have := own_rng _ hc; omega)
      · have tc103 := (show ¬ (c).toInt < 48 from own_ltn hc103)
        refine Go.icmpNo X0 hx (hb hby d18_27) (Jvm.Free.XT.ii_lt_f hc103) (q := 30) rfl ?_
        refine Go.iloadN X0 hx (hb hby d18_30) rfl (q := 31) rfl ?_
        refine Go.bipush X0 hx (hb hby d18_31) (r := (57 : Int32)) rfl (q := 33) rfl ?_
        by_cases hc107 : (57 : Int32) < c
        · have tc107 := (show 57 < (c).toInt from own_lt hc107)
          refine Go.icmpYes X0 hx (hb hby d18_33) (Jvm.Free.XT.ii_gt_t hc107) (q := 40) (by decide) (by decide) ?_
          refine Go.iconst X0 hx (hb hby d18_40) (r := (0 : Int32)) rfl (q := 41) rfl ?_
          refine Go.istoreN X0 hx (hb hby d18_41) (l' := #[.val (.int c), .val (.int (0 : Int32))]) rfl (q := 42) rfl ?_
          refine Go.iloadN X0 hx (hb hby d18_42) rfl (q := 43) rfl ?_
          refine Go.ifNo X0 hx (hb hby d18_43) (by decide) (q := 46) rfl ?_
          refine Go.iloadN X0 hx (hb hby d18_46) rfl (q := 47) rfl ?_
          refine Go.bipush X0 hx (hb hby d18_47) (r := (46 : Int32)) rfl (q := 49) rfl ?_
          by_cases hc108 : c = (46 : Int32)
          · have tc108 := (show (c).toInt = 46 from own_eq hc108)
            refine Go.icmpYes X0 hx (hb hby d18_49) (Jvm.Free.XT.ii_eq_t hc108) (q := 64) (by decide) (by decide) ?_
            refine Go.iconst X0 hx (hb hby d18_64) (r := (1 : Int32)) rfl (q := 65) rfl ?_
            refine Go.goto X0 hx (hb hby d18_65) (q := 69) (by decide) (by decide) ?_
            exact Go.retI X0 hx hret hlk (by simp) rfl (hb hby d18_69) e0 (by decide) (by decide) ⟨rfl, N0, rfl⟩
          · have tc108 := (show ¬ (c).toInt = 46 from own_eqn hc108)
            refine Go.icmpNo X0 hx (hb hby d18_49) (Jvm.Free.XT.ii_eq_f hc108) (q := 52) rfl ?_
            refine Go.iloadN X0 hx (hb hby d18_52) rfl (q := 53) rfl ?_
            refine Go.bipush X0 hx (hb hby d18_53) (r := (95 : Int32)) rfl (q := 55) rfl ?_
            by_cases hc109 : c = (95 : Int32)
            · have tc109 := (show (c).toInt = 95 from own_eq hc109)
              refine Go.icmpYes X0 hx (hb hby d18_55) (Jvm.Free.XT.ii_eq_t hc109) (q := 64) (by decide) (by decide) ?_
              refine Go.iconst X0 hx (hb hby d18_64) (r := (1 : Int32)) rfl (q := 65) rfl ?_
              refine Go.goto X0 hx (hb hby d18_65) (q := 69) (by decide) (by decide) ?_
              exact Go.retI X0 hx hret hlk (by simp) rfl (hb hby d18_69) e0 (by decide) (by decide) ⟨rfl, N0, rfl⟩
            · have tc109 := (show ¬ (c).toInt = 95 from own_eqn hc109)
              refine Go.icmpNo X0 hx (hb hby d18_55) (Jvm.Free.XT.ii_eq_f hc109) (q := 58) rfl ?_
              refine Go.iloadN X0 hx (hb hby d18_58) rfl (q := 59) rfl ?_
              refine Go.bipush X0 hx (hb hby d18_59) (r := (45 : Int32)) rfl (q := 61) rfl ?_
              by_cases hc110 : c = (45 : Int32)
              · have tc110 := (show (c).toInt = 45 from own_eq hc110)
                refine Go.icmpNo X0 hx (hb hby d18_61) (Jvm.Free.XT.ii_ne_f hc110) (q := 64) rfl ?_
                refine Go.iconst X0 hx (hb hby d18_64) (r := (1 : Int32)) rfl (q := 65) rfl ?_
                refine Go.goto X0 hx (hb hby d18_65) (q := 69) (by decide) (by decide) ?_
                exact Go.retI X0 hx hret hlk (by simp) rfl (hb hby d18_69) e0 (by decide) (by decide) ⟨rfl, N0, rfl⟩
              · have tc110 := (show ¬ (c).toInt = 45 from own_eqn hc110)
                refine Go.icmpYes X0 hx (hb hby d18_61) (Jvm.Free.XT.ii_ne_t hc110) (q := 68) (by decide) (by decide) ?_
                refine Go.iconst X0 hx (hb hby d18_68) (r := (0 : Int32)) rfl (q := 69) rfl ?_
                exact Go.retI X0 hx hret hlk (by simp) rfl (hb hby d18_69) e0 (by decide) (by decide) (by exfalso; have := own_rng _ hc; omega)
        · have tc107 := (show ¬ 57 < (c).toInt from own_ltn hc107)
          refine Go.icmpNo X0 hx (hb hby d18_33) (Jvm.Free.XT.ii_gt_f hc107) (q := 36) rfl ?_
          refine Go.iconst X0 hx (hb hby d18_36) (r := (1 : Int32)) rfl (q := 37) rfl ?_
          refine Go.goto X0 hx (hb hby d18_37) (q := 41) (by decide) (by decide) ?_
          refine Go.istoreN X0 hx (hb hby d18_41) (l' := #[.val (.int c), .val (.int (1 : Int32))]) rfl (q := 42) rfl ?_
          refine Go.iloadN X0 hx (hb hby d18_42) rfl (q := 43) rfl ?_
          refine Go.ifYes X0 hx (hb hby d18_43) (by decide) (q := 64) (by decide) (by decide) ?_
          refine Go.iconst X0 hx (hb hby d18_64) (r := (1 : Int32)) rfl (q := 65) rfl ?_
          refine Go.goto X0 hx (hb hby d18_65) (q := 69) (by decide) (by decide) ?_
          exact Go.retI X0 hx hret hlk (by simp) rfl (hb hby d18_69) e0 (by decide) (by decide) ⟨rfl, N0, rfl⟩
    · have tc102 := (show ¬ (c).toInt < 97 from own_ltn hc102)
      refine Go.icmpNo X0 hx (hb hby d18_15) (Jvm.Free.XT.ii_lt_f hc102) (q := 18) rfl ?_
      refine Go.iloadN X0 hx (hb hby d18_18) rfl (q := 19) rfl ?_
      refine Go.bipush X0 hx (hb hby d18_19) (r := (122 : Int32)) rfl (q := 21) rfl ?_
      by_cases hc111 : (122 : Int32) < c
      · have tc111 := (show 122 < (c).toInt from own_lt hc111)
        refine Go.icmpNo X0 hx (hb hby d18_21) (Jvm.Free.XT.ii_le_f hc111) (q := 24) rfl ?_
        refine Go.iloadN X0 hx (hb hby d18_24) rfl (q := 25) rfl ?_
        refine Go.bipush X0 hx (hb hby d18_25) (r := (48 : Int32)) rfl (q := 27) rfl ?_
        by_cases hc112 : c < (48 : Int32)
        · have tc112 := (show (c).toInt < 48 from own_lt hc112)
          refine Go.icmpYes X0 hx (hb hby d18_27) (Jvm.Free.XT.ii_lt_t hc112) (q := 40) (by decide) (by decide) ?_
          refine Go.iconst X0 hx (hb hby d18_40) (r := (0 : Int32)) rfl (q := 41) rfl ?_
          refine Go.istoreN X0 hx (hb hby d18_41) (l' := #[.val (.int c), .val (.int (0 : Int32))]) rfl (q := 42) rfl ?_
          refine Go.iloadN X0 hx (hb hby d18_42) rfl (q := 43) rfl ?_
          refine Go.ifNo X0 hx (hb hby d18_43) (by decide) (q := 46) rfl ?_
          refine Go.iloadN X0 hx (hb hby d18_46) rfl (q := 47) rfl ?_
          refine Go.bipush X0 hx (hb hby d18_47) (r := (46 : Int32)) rfl (q := 49) rfl ?_
          by_cases hc113 : c = (46 : Int32)
          · have tc113 := (show (c).toInt = 46 from own_eq hc113)
            refine Go.icmpYes X0 hx (hb hby d18_49) (Jvm.Free.XT.ii_eq_t hc113) (q := 64) (by decide) (by decide) ?_
            refine Go.iconst X0 hx (hb hby d18_64) (r := (1 : Int32)) rfl (q := 65) rfl ?_
            refine Go.goto X0 hx (hb hby d18_65) (q := 69) (by decide) (by decide) ?_
            exact Go.retI X0 hx hret hlk (by simp) rfl (hb hby d18_69) e0 (by decide) (by decide) ⟨rfl, N0, rfl⟩
          · have tc113 := (show ¬ (c).toInt = 46 from own_eqn hc113)
            refine Go.icmpNo X0 hx (hb hby d18_49) (Jvm.Free.XT.ii_eq_f hc113) (q := 52) rfl ?_
            refine Go.iloadN X0 hx (hb hby d18_52) rfl (q := 53) rfl ?_
            refine Go.bipush X0 hx (hb hby d18_53) (r := (95 : Int32)) rfl (q := 55) rfl ?_
            by_cases hc114 : c = (95 : Int32)
            · have tc114 := (show (c).toInt = 95 from own_eq hc114)
              refine Go.icmpYes X0 hx (hb hby d18_55) (Jvm.Free.XT.ii_eq_t hc114) (q := 64) (by decide) (by decide) ?_
              refine Go.iconst X0 hx (hb hby d18_64) (r := (1 : Int32)) rfl (q := 65) rfl ?_
              refine Go.goto X0 hx (hb hby d18_65) (q := 69) (by decide) (by decide) ?_
              exact Go.retI X0 hx hret hlk (by simp) rfl (hb hby d18_69) e0 (by decide) (by decide) ⟨rfl, N0, rfl⟩
            · have tc114 := (show ¬ (c).toInt = 95 from own_eqn hc114)
              refine Go.icmpNo X0 hx (hb hby d18_55) (Jvm.Free.XT.ii_eq_f hc114) (q := 58) rfl ?_
              refine Go.iloadN X0 hx (hb hby d18_58) rfl (q := 59) rfl ?_
              refine Go.bipush X0 hx (hb hby d18_59) (r := (45 : Int32)) rfl (q := 61) rfl ?_
              by_cases hc115 : c = (45 : Int32)
              · have tc115 := (show (c).toInt = 45 from own_eq hc115)
                refine Go.icmpNo X0 hx (hb hby d18_61) (Jvm.Free.XT.ii_ne_f hc115) (q := 64) rfl ?_
                refine Go.iconst X0 hx (hb hby d18_64) (r := (1 : Int32)) rfl (q := 65) rfl ?_
                refine Go.goto X0 hx (hb hby d18_65) (q := 69) (by decide) (by decide) ?_
                exact Go.retI X0 hx hret hlk (by simp) rfl (hb hby d18_69) e0 (by decide) (by decide) ⟨rfl, N0, rfl⟩
              · have tc115 := (show ¬ (c).toInt = 45 from own_eqn hc115)
                refine Go.icmpYes X0 hx (hb hby d18_61) (Jvm.Free.XT.ii_ne_t hc115) (q := 68) (by decide) (by decide) ?_
                refine Go.iconst X0 hx (hb hby d18_68) (r := (0 : Int32)) rfl (q := 69) rfl ?_
                exact Go.retI X0 hx hret hlk (by simp) rfl (hb hby d18_69) e0 (by decide) (by decide) (by exfalso; have := own_rng _ hc; omega)
        · have tc112 := (show ¬ (c).toInt < 48 from own_ltn hc112)
          refine Go.icmpNo X0 hx (hb hby d18_27) (Jvm.Free.XT.ii_lt_f hc112) (q := 30) rfl ?_
          refine Go.iloadN X0 hx (hb hby d18_30) rfl (q := 31) rfl ?_
          refine Go.bipush X0 hx (hb hby d18_31) (r := (57 : Int32)) rfl (q := 33) rfl ?_
          by_cases hc116 : (57 : Int32) < c
          · have tc116 := (show 57 < (c).toInt from own_lt hc116)
            refine Go.icmpYes X0 hx (hb hby d18_33) (Jvm.Free.XT.ii_gt_t hc116) (q := 40) (by decide) (by decide) ?_
            refine Go.iconst X0 hx (hb hby d18_40) (r := (0 : Int32)) rfl (q := 41) rfl ?_
            refine Go.istoreN X0 hx (hb hby d18_41) (l' := #[.val (.int c), .val (.int (0 : Int32))]) rfl (q := 42) rfl ?_
            refine Go.iloadN X0 hx (hb hby d18_42) rfl (q := 43) rfl ?_
            refine Go.ifNo X0 hx (hb hby d18_43) (by decide) (q := 46) rfl ?_
            refine Go.iloadN X0 hx (hb hby d18_46) rfl (q := 47) rfl ?_
            refine Go.bipush X0 hx (hb hby d18_47) (r := (46 : Int32)) rfl (q := 49) rfl ?_
            by_cases hc117 : c = (46 : Int32)
            · have tc117 := (show (c).toInt = 46 from own_eq hc117)
              refine Go.icmpYes X0 hx (hb hby d18_49) (Jvm.Free.XT.ii_eq_t hc117) (q := 64) (by decide) (by decide) ?_
              refine Go.iconst X0 hx (hb hby d18_64) (r := (1 : Int32)) rfl (q := 65) rfl ?_
              refine Go.goto X0 hx (hb hby d18_65) (q := 69) (by decide) (by decide) ?_
              exact Go.retI X0 hx hret hlk (by simp) rfl (hb hby d18_69) e0 (by decide) (by decide) ⟨rfl, N0, rfl⟩
            · have tc117 := (show ¬ (c).toInt = 46 from own_eqn hc117)
              refine Go.icmpNo X0 hx (hb hby d18_49) (Jvm.Free.XT.ii_eq_f hc117) (q := 52) rfl ?_
              refine Go.iloadN X0 hx (hb hby d18_52) rfl (q := 53) rfl ?_
              refine Go.bipush X0 hx (hb hby d18_53) (r := (95 : Int32)) rfl (q := 55) rfl ?_
              by_cases hc118 : c = (95 : Int32)
              · have tc118 := (show (c).toInt = 95 from own_eq hc118)
                refine Go.icmpYes X0 hx (hb hby d18_55) (Jvm.Free.XT.ii_eq_t hc118) (q := 64) (by decide) (by decide) ?_
                refine Go.iconst X0 hx (hb hby d18_64) (r := (1 : Int32)) rfl (q := 65) rfl ?_
                refine Go.goto X0 hx (hb hby d18_65) (q := 69) (by decide) (by decide) ?_
                exact Go.retI X0 hx hret hlk (by simp) rfl (hb hby d18_69) e0 (by decide) (by decide) ⟨rfl, N0, rfl⟩
              · have tc118 := (show ¬ (c).toInt = 95 from own_eqn hc118)
                refine Go.icmpNo X0 hx (hb hby d18_55) (Jvm.Free.XT.ii_eq_f hc118) (q := 58) rfl ?_
                refine Go.iloadN X0 hx (hb hby d18_58) rfl (q := 59) rfl ?_
                refine Go.bipush X0 hx (hb hby d18_59) (r := (45 : Int32)) rfl (q := 61) rfl ?_
                by_cases hc119 : c = (45 : Int32)
                · have tc119 := (show (c).toInt = 45 from own_eq hc119)
                  refine Go.icmpNo X0 hx (hb hby d18_61) (Jvm.Free.XT.ii_ne_f hc119) (q := 64) rfl ?_
                  refine Go.iconst X0 hx (hb hby d18_64) (r := (1 : Int32)) rfl (q := 65) rfl ?_
                  refine Go.goto X0 hx (hb hby d18_65) (q := 69) (by decide) (by decide) ?_
                  exact Go.retI X0 hx hret hlk (by simp) rfl (hb hby d18_69) e0 (by decide) (by decide) ⟨rfl, N0, rfl⟩
                · have tc119 := (show ¬ (c).toInt = 45 from own_eqn hc119)
                  refine Go.icmpYes X0 hx (hb hby d18_61) (Jvm.Free.XT.ii_ne_t hc119) (q := 68) (by decide) (by decide) ?_
                  refine Go.iconst X0 hx (hb hby d18_68) (r := (0 : Int32)) rfl (q := 69) rfl ?_
                  exact Go.retI X0 hx hret hlk (by simp) rfl (hb hby d18_69) e0 (by decide) (by decide) (by exfalso; have := own_rng _ hc; omega)
          · have tc116 := (show ¬ 57 < (c).toInt from own_ltn hc116)
            refine Go.icmpNo X0 hx (hb hby d18_33) (Jvm.Free.XT.ii_gt_f hc116) (q := 36) rfl ?_
            refine Go.iconst X0 hx (hb hby d18_36) (r := (1 : Int32)) rfl (q := 37) rfl ?_
            refine Go.goto X0 hx (hb hby d18_37) (q := 41) (by decide) (by decide) ?_
            refine Go.istoreN X0 hx (hb hby d18_41) (l' := #[.val (.int c), .val (.int (1 : Int32))]) rfl (q := 42) rfl ?_
            refine Go.iloadN X0 hx (hb hby d18_42) rfl (q := 43) rfl ?_
            refine Go.ifYes X0 hx (hb hby d18_43) (by decide) (q := 64) (by decide) (by decide) ?_
            refine Go.iconst X0 hx (hb hby d18_64) (r := (1 : Int32)) rfl (q := 65) rfl ?_
            refine Go.goto X0 hx (hb hby d18_65) (q := 69) (by decide) (by decide) ?_
            exact Go.retI X0 hx hret hlk (by simp) rfl (hb hby d18_69) e0 (by decide) (by decide) ⟨rfl, N0, rfl⟩
      · have tc111 := (show ¬ 122 < (c).toInt from own_ltn hc111)
        refine Go.icmpYes X0 hx (hb hby d18_21) (Jvm.Free.XT.ii_le_t hc111) (q := 36) (by decide) (by decide) ?_
        refine Go.iconst X0 hx (hb hby d18_36) (r := (1 : Int32)) rfl (q := 37) rfl ?_
        refine Go.goto X0 hx (hb hby d18_37) (q := 41) (by decide) (by decide) ?_
        refine Go.istoreN X0 hx (hb hby d18_41) (l' := #[.val (.int c), .val (.int (1 : Int32))]) rfl (q := 42) rfl ?_
        refine Go.iloadN X0 hx (hb hby d18_42) rfl (q := 43) rfl ?_
        refine Go.ifYes X0 hx (hb hby d18_43) (by decide) (q := 64) (by decide) (by decide) ?_
        refine Go.iconst X0 hx (hb hby d18_64) (r := (1 : Int32)) rfl (q := 65) rfl ?_
        refine Go.goto X0 hx (hb hby d18_65) (q := 69) (by decide) (by decide) ?_
        exact Go.retI X0 hx hret hlk (by simp) rfl (hb hby d18_69) e0 (by decide) (by decide) ⟨rfl, N0, rfl⟩
  · have tc101 := (show ¬ (c).toInt < 65 from own_ltn hc101)
    refine Go.icmpNo X0 hx (hb hby d18_3) (Jvm.Free.XT.ii_lt_f hc101) (q := 6) rfl ?_
    refine Go.iloadN X0 hx (hb hby d18_6) rfl (q := 7) rfl ?_
    refine Go.bipush X0 hx (hb hby d18_7) (r := (90 : Int32)) rfl (q := 9) rfl ?_
    by_cases hc120 : (90 : Int32) < c
    · have tc120 := (show 90 < (c).toInt from own_lt hc120)
      refine Go.icmpNo X0 hx (hb hby d18_9) (Jvm.Free.XT.ii_le_f hc120) (q := 12) rfl ?_
      refine Go.iloadN X0 hx (hb hby d18_12) rfl (q := 13) rfl ?_
      refine Go.bipush X0 hx (hb hby d18_13) (r := (97 : Int32)) rfl (q := 15) rfl ?_
      by_cases hc121 : c < (97 : Int32)
      · have tc121 := (show (c).toInt < 97 from own_lt hc121)
        refine Go.icmpYes X0 hx (hb hby d18_15) (Jvm.Free.XT.ii_lt_t hc121) (q := 24) (by decide) (by decide) ?_
        refine Go.iloadN X0 hx (hb hby d18_24) rfl (q := 25) rfl ?_
        refine Go.bipush X0 hx (hb hby d18_25) (r := (48 : Int32)) rfl (q := 27) rfl ?_
        by_cases hc122 : c < (48 : Int32)
        · have tc122 := (show (c).toInt < 48 from own_lt hc122)
          refine Go.icmpYes X0 hx (hb hby d18_27) (Jvm.Free.XT.ii_lt_t hc122) (q := 40) (by decide) (by decide) ?_
          refine Go.iconst X0 hx (hb hby d18_40) (r := (0 : Int32)) rfl (q := 41) rfl ?_
          refine Go.istoreN X0 hx (hb hby d18_41) (l' := #[.val (.int c), .val (.int (0 : Int32))]) rfl (q := 42) rfl ?_
          refine Go.iloadN X0 hx (hb hby d18_42) rfl (q := 43) rfl ?_
          refine Go.ifNo X0 hx (hb hby d18_43) (by decide) (q := 46) rfl ?_
          refine Go.iloadN X0 hx (hb hby d18_46) rfl (q := 47) rfl ?_
          refine Go.bipush X0 hx (hb hby d18_47) (r := (46 : Int32)) rfl (q := 49) rfl ?_
          by_cases hc123 : c = (46 : Int32)
          · have tc123 := (show (c).toInt = 46 from own_eq hc123)
            refine Go.icmpYes X0 hx (hb hby d18_49) (Jvm.Free.XT.ii_eq_t hc123) (q := 64) (by decide) (by decide) ?_
            refine Go.iconst X0 hx (hb hby d18_64) (r := (1 : Int32)) rfl (q := 65) rfl ?_
            refine Go.goto X0 hx (hb hby d18_65) (q := 69) (by decide) (by decide) ?_
            exact Go.retI X0 hx hret hlk (by simp) rfl (hb hby d18_69) e0 (by decide) (by decide) ⟨rfl, N0, rfl⟩
          · have tc123 := (show ¬ (c).toInt = 46 from own_eqn hc123)
            refine Go.icmpNo X0 hx (hb hby d18_49) (Jvm.Free.XT.ii_eq_f hc123) (q := 52) rfl ?_
            refine Go.iloadN X0 hx (hb hby d18_52) rfl (q := 53) rfl ?_
            refine Go.bipush X0 hx (hb hby d18_53) (r := (95 : Int32)) rfl (q := 55) rfl ?_
            by_cases hc124 : c = (95 : Int32)
            · have tc124 := (show (c).toInt = 95 from own_eq hc124)
              refine Go.icmpYes X0 hx (hb hby d18_55) (Jvm.Free.XT.ii_eq_t hc124) (q := 64) (by decide) (by decide) ?_
              refine Go.iconst X0 hx (hb hby d18_64) (r := (1 : Int32)) rfl (q := 65) rfl ?_
              refine Go.goto X0 hx (hb hby d18_65) (q := 69) (by decide) (by decide) ?_
              exact Go.retI X0 hx hret hlk (by simp) rfl (hb hby d18_69) e0 (by decide) (by decide) ⟨rfl, N0, rfl⟩
            · have tc124 := (show ¬ (c).toInt = 95 from own_eqn hc124)
              refine Go.icmpNo X0 hx (hb hby d18_55) (Jvm.Free.XT.ii_eq_f hc124) (q := 58) rfl ?_
              refine Go.iloadN X0 hx (hb hby d18_58) rfl (q := 59) rfl ?_
              refine Go.bipush X0 hx (hb hby d18_59) (r := (45 : Int32)) rfl (q := 61) rfl ?_
              by_cases hc125 : c = (45 : Int32)
              · have tc125 := (show (c).toInt = 45 from own_eq hc125)
                refine Go.icmpNo X0 hx (hb hby d18_61) (Jvm.Free.XT.ii_ne_f hc125) (q := 64) rfl ?_
                refine Go.iconst X0 hx (hb hby d18_64) (r := (1 : Int32)) rfl (q := 65) rfl ?_
                refine Go.goto X0 hx (hb hby d18_65) (q := 69) (by decide) (by decide) ?_
                exact Go.retI X0 hx hret hlk (by simp) rfl (hb hby d18_69) e0 (by decide) (by decide) ⟨rfl, N0, rfl⟩
              · have tc125 := (show ¬ (c).toInt = 45 from own_eqn hc125)
                refine Go.icmpYes X0 hx (hb hby d18_61) (Jvm.Free.XT.ii_ne_t hc125) (q := 68) (by decide) (by decide) ?_
                refine Go.iconst X0 hx (hb hby d18_68) (r := (0 : Int32)) rfl (q := 69) rfl ?_
                exact Go.retI X0 hx hret hlk (by simp) rfl (hb hby d18_69) e0 (by decide) (by decide) (by exfalso; have := own_rng _ hc; omega)
        · have tc122 := (show ¬ (c).toInt < 48 from own_ltn hc122)
          refine Go.icmpNo X0 hx (hb hby d18_27) (Jvm.Free.XT.ii_lt_f hc122) (q := 30) rfl ?_
          refine Go.iloadN X0 hx (hb hby d18_30) rfl (q := 31) rfl ?_
          refine Go.bipush X0 hx (hb hby d18_31) (r := (57 : Int32)) rfl (q := 33) rfl ?_
          by_cases hc126 : (57 : Int32) < c
          · have tc126 := (show 57 < (c).toInt from own_lt hc126)
            refine Go.icmpYes X0 hx (hb hby d18_33) (Jvm.Free.XT.ii_gt_t hc126) (q := 40) (by decide) (by decide) ?_
            refine Go.iconst X0 hx (hb hby d18_40) (r := (0 : Int32)) rfl (q := 41) rfl ?_
            refine Go.istoreN X0 hx (hb hby d18_41) (l' := #[.val (.int c), .val (.int (0 : Int32))]) rfl (q := 42) rfl ?_
            refine Go.iloadN X0 hx (hb hby d18_42) rfl (q := 43) rfl ?_
            refine Go.ifNo X0 hx (hb hby d18_43) (by decide) (q := 46) rfl ?_
            refine Go.iloadN X0 hx (hb hby d18_46) rfl (q := 47) rfl ?_
            refine Go.bipush X0 hx (hb hby d18_47) (r := (46 : Int32)) rfl (q := 49) rfl ?_
            by_cases hc127 : c = (46 : Int32)
            · have tc127 := (show (c).toInt = 46 from own_eq hc127)
              refine Go.icmpYes X0 hx (hb hby d18_49) (Jvm.Free.XT.ii_eq_t hc127) (q := 64) (by decide) (by decide) ?_
              refine Go.iconst X0 hx (hb hby d18_64) (r := (1 : Int32)) rfl (q := 65) rfl ?_
              refine Go.goto X0 hx (hb hby d18_65) (q := 69) (by decide) (by decide) ?_
              exact Go.retI X0 hx hret hlk (by simp) rfl (hb hby d18_69) e0 (by decide) (by decide) ⟨rfl, N0, rfl⟩
            · have tc127 := (show ¬ (c).toInt = 46 from own_eqn hc127)
              refine Go.icmpNo X0 hx (hb hby d18_49) (Jvm.Free.XT.ii_eq_f hc127) (q := 52) rfl ?_
              refine Go.iloadN X0 hx (hb hby d18_52) rfl (q := 53) rfl ?_
              refine Go.bipush X0 hx (hb hby d18_53) (r := (95 : Int32)) rfl (q := 55) rfl ?_
              by_cases hc128 : c = (95 : Int32)
              · have tc128 := (show (c).toInt = 95 from own_eq hc128)
                refine Go.icmpYes X0 hx (hb hby d18_55) (Jvm.Free.XT.ii_eq_t hc128) (q := 64) (by decide) (by decide) ?_
                refine Go.iconst X0 hx (hb hby d18_64) (r := (1 : Int32)) rfl (q := 65) rfl ?_
                refine Go.goto X0 hx (hb hby d18_65) (q := 69) (by decide) (by decide) ?_
                exact Go.retI X0 hx hret hlk (by simp) rfl (hb hby d18_69) e0 (by decide) (by decide) ⟨rfl, N0, rfl⟩
              · have tc128 := (show ¬ (c).toInt = 95 from own_eqn hc128)
                refine Go.icmpNo X0 hx (hb hby d18_55) (Jvm.Free.XT.ii_eq_f hc128) (q := 58) rfl ?_
                refine Go.iloadN X0 hx (hb hby d18_58) rfl (q := 59) rfl ?_
                refine Go.bipush X0 hx (hb hby d18_59) (r := (45 : Int32)) rfl (q := 61) rfl ?_
                by_cases hc129 : c = (45 : Int32)
                · have tc129 := (show (c).toInt = 45 from own_eq hc129)
                  refine Go.icmpNo X0 hx (hb hby d18_61) (Jvm.Free.XT.ii_ne_f hc129) (q := 64) rfl ?_
                  refine Go.iconst X0 hx (hb hby d18_64) (r := (1 : Int32)) rfl (q := 65) rfl ?_
                  refine Go.goto X0 hx (hb hby d18_65) (q := 69) (by decide) (by decide) ?_
                  exact Go.retI X0 hx hret hlk (by simp) rfl (hb hby d18_69) e0 (by decide) (by decide) ⟨rfl, N0, rfl⟩
                · have tc129 := (show ¬ (c).toInt = 45 from own_eqn hc129)
                  refine Go.icmpYes X0 hx (hb hby d18_61) (Jvm.Free.XT.ii_ne_t hc129) (q := 68) (by decide) (by decide) ?_
                  refine Go.iconst X0 hx (hb hby d18_68) (r := (0 : Int32)) rfl (q := 69) rfl ?_
                  exact Go.retI X0 hx hret hlk (by simp) rfl (hb hby d18_69) e0 (by decide) (by decide) (by exfalso; have := own_rng _ hc; omega)
          · have tc126 := (show ¬ 57 < (c).toInt from own_ltn hc126)
            refine Go.icmpNo X0 hx (hb hby d18_33) (Jvm.Free.XT.ii_gt_f hc126) (q := 36) rfl ?_
            refine Go.iconst X0 hx (hb hby d18_36) (r := (1 : Int32)) rfl (q := 37) rfl ?_
            refine Go.goto X0 hx (hb hby d18_37) (q := 41) (by decide) (by decide) ?_
            refine Go.istoreN X0 hx (hb hby d18_41) (l' := #[.val (.int c), .val (.int (1 : Int32))]) rfl (q := 42) rfl ?_
            refine Go.iloadN X0 hx (hb hby d18_42) rfl (q := 43) rfl ?_
            refine Go.ifYes X0 hx (hb hby d18_43) (by decide) (q := 64) (by decide) (by decide) ?_
            refine Go.iconst X0 hx (hb hby d18_64) (r := (1 : Int32)) rfl (q := 65) rfl ?_
            refine Go.goto X0 hx (hb hby d18_65) (q := 69) (by decide) (by decide) ?_
            exact Go.retI X0 hx hret hlk (by simp) rfl (hb hby d18_69) e0 (by decide) (by decide) ⟨rfl, N0, rfl⟩
      · have tc121 := (show ¬ (c).toInt < 97 from own_ltn hc121)
        refine Go.icmpNo X0 hx (hb hby d18_15) (Jvm.Free.XT.ii_lt_f hc121) (q := 18) rfl ?_
        refine Go.iloadN X0 hx (hb hby d18_18) rfl (q := 19) rfl ?_
        refine Go.bipush X0 hx (hb hby d18_19) (r := (122 : Int32)) rfl (q := 21) rfl ?_
        by_cases hc130 : (122 : Int32) < c
        · have tc130 := (show 122 < (c).toInt from own_lt hc130)
          refine Go.icmpNo X0 hx (hb hby d18_21) (Jvm.Free.XT.ii_le_f hc130) (q := 24) rfl ?_
          refine Go.iloadN X0 hx (hb hby d18_24) rfl (q := 25) rfl ?_
          refine Go.bipush X0 hx (hb hby d18_25) (r := (48 : Int32)) rfl (q := 27) rfl ?_
          by_cases hc131 : c < (48 : Int32)
          · have tc131 := (show (c).toInt < 48 from own_lt hc131)
            refine Go.icmpYes X0 hx (hb hby d18_27) (Jvm.Free.XT.ii_lt_t hc131) (q := 40) (by decide) (by decide) ?_
            refine Go.iconst X0 hx (hb hby d18_40) (r := (0 : Int32)) rfl (q := 41) rfl ?_
            refine Go.istoreN X0 hx (hb hby d18_41) (l' := #[.val (.int c), .val (.int (0 : Int32))]) rfl (q := 42) rfl ?_
            refine Go.iloadN X0 hx (hb hby d18_42) rfl (q := 43) rfl ?_
            refine Go.ifNo X0 hx (hb hby d18_43) (by decide) (q := 46) rfl ?_
            refine Go.iloadN X0 hx (hb hby d18_46) rfl (q := 47) rfl ?_
            refine Go.bipush X0 hx (hb hby d18_47) (r := (46 : Int32)) rfl (q := 49) rfl ?_
            by_cases hc132 : c = (46 : Int32)
            · have tc132 := (show (c).toInt = 46 from own_eq hc132)
              refine Go.icmpYes X0 hx (hb hby d18_49) (Jvm.Free.XT.ii_eq_t hc132) (q := 64) (by decide) (by decide) ?_
              refine Go.iconst X0 hx (hb hby d18_64) (r := (1 : Int32)) rfl (q := 65) rfl ?_
              refine Go.goto X0 hx (hb hby d18_65) (q := 69) (by decide) (by decide) ?_
              exact Go.retI X0 hx hret hlk (by simp) rfl (hb hby d18_69) e0 (by decide) (by decide) ⟨rfl, N0, rfl⟩
            · have tc132 := (show ¬ (c).toInt = 46 from own_eqn hc132)
              refine Go.icmpNo X0 hx (hb hby d18_49) (Jvm.Free.XT.ii_eq_f hc132) (q := 52) rfl ?_
              refine Go.iloadN X0 hx (hb hby d18_52) rfl (q := 53) rfl ?_
              refine Go.bipush X0 hx (hb hby d18_53) (r := (95 : Int32)) rfl (q := 55) rfl ?_
              by_cases hc133 : c = (95 : Int32)
              · have tc133 := (show (c).toInt = 95 from own_eq hc133)
                refine Go.icmpYes X0 hx (hb hby d18_55) (Jvm.Free.XT.ii_eq_t hc133) (q := 64) (by decide) (by decide) ?_
                refine Go.iconst X0 hx (hb hby d18_64) (r := (1 : Int32)) rfl (q := 65) rfl ?_
                refine Go.goto X0 hx (hb hby d18_65) (q := 69) (by decide) (by decide) ?_
                exact Go.retI X0 hx hret hlk (by simp) rfl (hb hby d18_69) e0 (by decide) (by decide) ⟨rfl, N0, rfl⟩
              · have tc133 := (show ¬ (c).toInt = 95 from own_eqn hc133)
                refine Go.icmpNo X0 hx (hb hby d18_55) (Jvm.Free.XT.ii_eq_f hc133) (q := 58) rfl ?_
                refine Go.iloadN X0 hx (hb hby d18_58) rfl (q := 59) rfl ?_
                refine Go.bipush X0 hx (hb hby d18_59) (r := (45 : Int32)) rfl (q := 61) rfl ?_
                by_cases hc134 : c = (45 : Int32)
                · have tc134 := (show (c).toInt = 45 from own_eq hc134)
                  refine Go.icmpNo X0 hx (hb hby d18_61) (Jvm.Free.XT.ii_ne_f hc134) (q := 64) rfl ?_
                  refine Go.iconst X0 hx (hb hby d18_64) (r := (1 : Int32)) rfl (q := 65) rfl ?_
                  refine Go.goto X0 hx (hb hby d18_65) (q := 69) (by decide) (by decide) ?_
                  exact Go.retI X0 hx hret hlk (by simp) rfl (hb hby d18_69) e0 (by decide) (by decide) ⟨rfl, N0, rfl⟩
                · have tc134 := (show ¬ (c).toInt = 45 from own_eqn hc134)
                  refine Go.icmpYes X0 hx (hb hby d18_61) (Jvm.Free.XT.ii_ne_t hc134) (q := 68) (by decide) (by decide) ?_
                  refine Go.iconst X0 hx (hb hby d18_68) (r := (0 : Int32)) rfl (q := 69) rfl ?_
                  exact Go.retI X0 hx hret hlk (by simp) rfl (hb hby d18_69) e0 (by decide) (by decide) (by exfalso; have := own_rng _ hc; omega)
          · have tc131 := (show ¬ (c).toInt < 48 from own_ltn hc131)
            refine Go.icmpNo X0 hx (hb hby d18_27) (Jvm.Free.XT.ii_lt_f hc131) (q := 30) rfl ?_
            refine Go.iloadN X0 hx (hb hby d18_30) rfl (q := 31) rfl ?_
            refine Go.bipush X0 hx (hb hby d18_31) (r := (57 : Int32)) rfl (q := 33) rfl ?_
            by_cases hc135 : (57 : Int32) < c
            · have tc135 := (show 57 < (c).toInt from own_lt hc135)
              refine Go.icmpYes X0 hx (hb hby d18_33) (Jvm.Free.XT.ii_gt_t hc135) (q := 40) (by decide) (by decide) ?_
              refine Go.iconst X0 hx (hb hby d18_40) (r := (0 : Int32)) rfl (q := 41) rfl ?_
              refine Go.istoreN X0 hx (hb hby d18_41) (l' := #[.val (.int c), .val (.int (0 : Int32))]) rfl (q := 42) rfl ?_
              refine Go.iloadN X0 hx (hb hby d18_42) rfl (q := 43) rfl ?_
              refine Go.ifNo X0 hx (hb hby d18_43) (by decide) (q := 46) rfl ?_
              refine Go.iloadN X0 hx (hb hby d18_46) rfl (q := 47) rfl ?_
              refine Go.bipush X0 hx (hb hby d18_47) (r := (46 : Int32)) rfl (q := 49) rfl ?_
              by_cases hc136 : c = (46 : Int32)
              · have tc136 := (show (c).toInt = 46 from own_eq hc136)
                refine Go.icmpYes X0 hx (hb hby d18_49) (Jvm.Free.XT.ii_eq_t hc136) (q := 64) (by decide) (by decide) ?_
                refine Go.iconst X0 hx (hb hby d18_64) (r := (1 : Int32)) rfl (q := 65) rfl ?_
                refine Go.goto X0 hx (hb hby d18_65) (q := 69) (by decide) (by decide) ?_
                exact Go.retI X0 hx hret hlk (by simp) rfl (hb hby d18_69) e0 (by decide) (by decide) ⟨rfl, N0, rfl⟩
              · have tc136 := (show ¬ (c).toInt = 46 from own_eqn hc136)
                refine Go.icmpNo X0 hx (hb hby d18_49) (Jvm.Free.XT.ii_eq_f hc136) (q := 52) rfl ?_
                refine Go.iloadN X0 hx (hb hby d18_52) rfl (q := 53) rfl ?_
                refine Go.bipush X0 hx (hb hby d18_53) (r := (95 : Int32)) rfl (q := 55) rfl ?_
                by_cases hc137 : c = (95 : Int32)
                · have tc137 := (show (c).toInt = 95 from own_eq hc137)
                  refine Go.icmpYes X0 hx (hb hby d18_55) (Jvm.Free.XT.ii_eq_t hc137) (q := 64) (by decide) (by decide) ?_
                  refine Go.iconst X0 hx (hb hby d18_64) (r := (1 : Int32)) rfl (q := 65) rfl ?_
                  refine Go.goto X0 hx (hb hby d18_65) (q := 69) (by decide) (by decide) ?_
                  exact Go.retI X0 hx hret hlk (by simp) rfl (hb hby d18_69) e0 (by decide) (by decide) ⟨rfl, N0, rfl⟩
                · have tc137 := (show ¬ (c).toInt = 95 from own_eqn hc137)
                  refine Go.icmpNo X0 hx (hb hby d18_55) (Jvm.Free.XT.ii_eq_f hc137) (q := 58) rfl ?_
                  refine Go.iloadN X0 hx (hb hby d18_58) rfl (q := 59) rfl ?_
                  refine Go.bipush X0 hx (hb hby d18_59) (r := (45 : Int32)) rfl (q := 61) rfl ?_
                  by_cases hc138 : c = (45 : Int32)
                  · have tc138 := (show (c).toInt = 45 from own_eq hc138)
                    refine Go.icmpNo X0 hx (hb hby d18_61) (Jvm.Free.XT.ii_ne_f hc138) (q := 64) rfl ?_
                    refine Go.iconst X0 hx (hb hby d18_64) (r := (1 : Int32)) rfl (q := 65) rfl ?_
                    refine Go.goto X0 hx (hb hby d18_65) (q := 69) (by decide) (by decide) ?_
                    exact Go.retI X0 hx hret hlk (by simp) rfl (hb hby d18_69) e0 (by decide) (by decide) ⟨rfl, N0, rfl⟩
                  · have tc138 := (show ¬ (c).toInt = 45 from own_eqn hc138)
                    refine Go.icmpYes X0 hx (hb hby d18_61) (Jvm.Free.XT.ii_ne_t hc138) (q := 68) (by decide) (by decide) ?_
                    refine Go.iconst X0 hx (hb hby d18_68) (r := (0 : Int32)) rfl (q := 69) rfl ?_
                    exact Go.retI X0 hx hret hlk (by simp) rfl (hb hby d18_69) e0 (by decide) (by decide) (by exfalso; have := own_rng _ hc; omega)
            · have tc135 := (show ¬ 57 < (c).toInt from own_ltn hc135)
              refine Go.icmpNo X0 hx (hb hby d18_33) (Jvm.Free.XT.ii_gt_f hc135) (q := 36) rfl ?_
              refine Go.iconst X0 hx (hb hby d18_36) (r := (1 : Int32)) rfl (q := 37) rfl ?_
              refine Go.goto X0 hx (hb hby d18_37) (q := 41) (by decide) (by decide) ?_
              refine Go.istoreN X0 hx (hb hby d18_41) (l' := #[.val (.int c), .val (.int (1 : Int32))]) rfl (q := 42) rfl ?_
              refine Go.iloadN X0 hx (hb hby d18_42) rfl (q := 43) rfl ?_
              refine Go.ifYes X0 hx (hb hby d18_43) (by decide) (q := 64) (by decide) (by decide) ?_
              refine Go.iconst X0 hx (hb hby d18_64) (r := (1 : Int32)) rfl (q := 65) rfl ?_
              refine Go.goto X0 hx (hb hby d18_65) (q := 69) (by decide) (by decide) ?_
              exact Go.retI X0 hx hret hlk (by simp) rfl (hb hby d18_69) e0 (by decide) (by decide) ⟨rfl, N0, rfl⟩
        · have tc130 := (show ¬ 122 < (c).toInt from own_ltn hc130)
          refine Go.icmpYes X0 hx (hb hby d18_21) (Jvm.Free.XT.ii_le_t hc130) (q := 36) (by decide) (by decide) ?_
          refine Go.iconst X0 hx (hb hby d18_36) (r := (1 : Int32)) rfl (q := 37) rfl ?_
          refine Go.goto X0 hx (hb hby d18_37) (q := 41) (by decide) (by decide) ?_
          refine Go.istoreN X0 hx (hb hby d18_41) (l' := #[.val (.int c), .val (.int (1 : Int32))]) rfl (q := 42) rfl ?_
          refine Go.iloadN X0 hx (hb hby d18_42) rfl (q := 43) rfl ?_
          refine Go.ifYes X0 hx (hb hby d18_43) (by decide) (q := 64) (by decide) (by decide) ?_
          refine Go.iconst X0 hx (hb hby d18_64) (r := (1 : Int32)) rfl (q := 65) rfl ?_
          refine Go.goto X0 hx (hb hby d18_65) (q := 69) (by decide) (by decide) ?_
          exact Go.retI X0 hx hret hlk (by simp) rfl (hb hby d18_69) e0 (by decide) (by decide) ⟨rfl, N0, rfl⟩
    · have tc120 := (show ¬ 90 < (c).toInt from own_ltn hc120)
      refine Go.icmpYes X0 hx (hb hby d18_9) (Jvm.Free.XT.ii_le_t hc120) (q := 36) (by decide) (by decide) ?_
      refine Go.iconst X0 hx (hb hby d18_36) (r := (1 : Int32)) rfl (q := 37) rfl ?_
      refine Go.goto X0 hx (hb hby d18_37) (q := 41) (by decide) (by decide) ?_
      refine Go.istoreN X0 hx (hb hby d18_41) (l' := #[.val (.int c), .val (.int (1 : Int32))]) rfl (q := 42) rfl ?_
      refine Go.iloadN X0 hx (hb hby d18_42) rfl (q := 43) rfl ?_
      refine Go.ifYes X0 hx (hb hby d18_43) (by decide) (q := 64) (by decide) (by decide) ?_
      refine Go.iconst X0 hx (hb hby d18_64) (r := (1 : Int32)) rfl (q := 65) rfl ?_
      refine Go.goto X0 hx (hb hby d18_65) (q := 69) (by decide) (by decide) ?_
      exact Go.retI X0 hx hret hlk (by simp) rfl (hb hby d18_69) e0 (by decide) (by decide) ⟨rfl, N0, rfl⟩
def Q_csid (Z : State) (o : Addr) (s : Addr) (h0 : Heap) (vR : Option Value) (hR : Heap) (LR : List Loc) : Prop := vR = none ∧ Fr Z.heap.size LR ∧ Keep h0 hR [o] ∧ Fld Z hR o "com/example/cronopoly/cronopoly/ScheduleId" "text" "Ljava/lang/String;" (.ref s)
set_option maxRecDepth 65536 in
set_option maxHeartbeats 40000000 in
theorem csid (l : Launch) (Z : State) (a0 : Array Value) (hw : ∀ d ∈ tables_1, d.before a0 Z = true) (o : Addr) (s : Addr) (h0 : Heap) (O0 : Ext Z.heap h0) (E : Exa Z h0 o "com/example/cronopoly/cronopoly/ScheduleId") (F : Fld Z h0 o "com/example/cronopoly/cronopoly/ScheduleId" "text" "Ljava/lang/String;" .null) (g : Z.heap.size ≤ o) :
    Ctr l Z h0 (⟨"com/example/cronopoly/cronopoly/ScheduleId", "<init>", "(Ljava/lang/String;)V"⟩ : MethodName) prog_16_method_1_code 2 none [] ({ frames := 1, cells := 0, slots := 0, locals := 12 } : Room) #[(.ref o), (.ref s)] (Q_csid Z o s h0) := by
  refine enter (plainFor_of_name pn5) ?_
  intro pp ee ss mm below meth cc s₁ hx hby hml hZ hown hnm hret hlk X0 e0 hs0
  replace hown : ss.vm.findClass "com/example/cronopoly/cronopoly/ScheduleId" = some mm.cls := hown
  refine Go.cast (congrArg s₁.setTop (ef_csid mm o s)) ?_
  have N0 := Fr.nil Z.heap.size
  have KP := Keep.refl h0 [o]
  show Go pp ee below _ (s₁.setTop (mkF mm 0 #[.val (.ref o), .val (.ref s)] []))
  refine Go.aloadN X0 hx (hb hby d19_0) rfl rfl (q := 1) rfl ?_
  refine Go.initO X0 hx hZ hown (wd90 hw) (wd20 hw) (wd21 hw) e0 (by rw [hml]; rfl) (hb hby d19_1) (by decide) (W := 0) (by exact Nat.le_refl _) (by decide) (q := 4) rfl ?_
  intro T101 X101 e101
  refine Go.aloadN X101 hx (hb hby d19_4) rfl rfl (q := 5) rfl ?_
  refine Go.aloadN X101 hx (hb hby d19_5) rfl rfl (q := 6) rfl ?_
  refine Go.putF X101 hx hZ hown (host := "") (Or.inl (wd91 hw)) Via.refl e101 F E (Or.inr ⟨(wd92 hw), rfl, hnm⟩) (wd86 hw) (ty := (.object "java/lang/String")) (by decide) rfl rfl (hb hby d19_6) (q := 9) rfl ?_
  intro T102 h102 X102 e102 W102 F102
  have N102 := Fr.snoc X102 N0 g
  replace E := E.wr W102
  have OW102 := ext_wr O0 W102 g
  replace KP := KP.wr W102 (Or.inl (List.mem_of_getElem? (i := 0) rfl))
  exact Go.retV X102 hx hret hlk (hb hby d19_9) e102 (by decide) (by decide) ⟨rfl, N102, KP, F102⟩
def Q_cof1 (Z : State) (s : Addr) (v : Addr) (kv : ClassId) (cs : Int32) (fm : Value) (c0 : Int32) (h0 : Heap) (vR : Option Value) (hR : Heap) (LR : List Loc) : Prop := ∃ b : Addr, vR = some (.ref b) ∧ Fr Z.heap.size LR ∧ Keep h0 hR [] ∧ h0.size ≤ b ∧ Exa Z hR b "com/example/cronopoly/cronopoly/ScheduleId" ∧ Fld Z hR b "com/example/cronopoly/cronopoly/ScheduleId" "text" "Ljava/lang/String;" (.ref s)
set_option maxRecDepth 65536 in
set_option maxHeartbeats 40000000 in
theorem cof1 (l : Launch) (Z : State) (a0 : Array Value) (hw : ∀ d ∈ tables_1, d.before a0 Z = true) (s : Addr) (v : Addr) (kv : ClassId) (cs : Int32) (fm : Value) (c0 : Int32) (h0 : Heap) (O0 : Ext Z.heap h0) (Es : Exa Z h0 s "java/lang/String") (Fc : Fld Z h0 s "java/lang/String" "coder" "B" (.int (0 : Int32))) (Fv : Fld Z h0 s "java/lang/String" "value" "[B" (.ref v)) (Va : Arv Z h0 v kv .byte (1 : Int32) [(.int c0)] (.int (0 : Int32))) (SCS : Sta Z Z.heap "java/lang/String" "COMPACT_STRINGS" "Z" (.int cs)) (SFM : Sta Z Z.heap "jdk/internal/util/Preconditions" "SIOOBE_FORMATTER" "Ljava/util/function/BiFunction;" fm) (hcs : ¬ (cs = (0 : Int32))) (hfm : fm.isRef = true) (hc0 : c0 ∈ ownL) :
    CtrW l Z h0 (⟨"com/example/cronopoly/cronopoly/ScheduleId", "of", "(Ljava/lang/String;)Lcom/example/cronopoly/cronopoly/ScheduleId;"⟩ : MethodName) prog_16_method_2_code 3 (some (.object "com/example/cronopoly/cronopoly/ScheduleId")) [] ({ frames := 3, cells := 3, slots := 21, locals := 41 } : Room) #[(.ref s)] (Q_cof1 Z s v kv cs fm c0 h0) := by
  refine enterW (plainFor_of_name pn5) ?_
  intro pp ee ss mm below meth cc s₁ hx hby hml hZ hown hnm hret hlk X0 e0 hs0 hS
  replace hown : (ss.setVm ss.vm).vm.findClass "com/example/cronopoly/cronopoly/ScheduleId" = some mm.cls := hown
  have hKd := Nat.zero_le h0.size
  refine Go.cast (congrArg s₁.setTop (ef_cof1 mm s)) ?_
  have N0 := Fr.nil Z.heap.size
  have KP := Keep.refl h0 []
  show Go pp ee below _ (s₁.setTop (mkF mm 0 #[.val (.ref s), .unset, .unset] []))
  have hk101 : (c0.toInt8.toInt32) = c0 := own_b _ hc0
  have hk102 : nar .char c0 = c0 := own_nar _ hc0
  have hk103 : (c0 &&& (255 : Int32)) = c0 := own_a _ hc0
  have hk104 : ¬ ((255 : Int32) < c0) := own_255 _ hc0
  refine Go.aloadN X0 hx (hb hby d9_0) rfl rfl (q := 1) rfl ?_
  refine Go.ldcS X0 hx hZ hown (wd42 hw) (own_wS hw) e0 hS hKd (hb hby d9_1) (nn := 16) (by decide) (by decide) (by decide) (by decide) (q := 3) rfl ?_
  intro b105 T105 h105 k105 X105 e105 E105 hS hKd hZ hown
  replace Es := Es.ext E105
  replace Fc := Fc.ext E105
  replace Fv := Fv.ext E105
  replace Va := Va.ext E105
  have OE105 := ext_trans O0 E105
  replace KP := KP.ext E105
  refine Go.callS X105 hx hZ hown (wd45 hw) (wd46 hw) (wd47 hw) (wd48 hw) (by decide) (creq l Z a0 hw s b105 h105 OE105) e105 (by rw [hml]; rfl) (hb hby d9_3) (argsL := [(.ref s), (.ref b105)]) (rest := []) (lenOf pd9 rfl) rfl rfl (W := 0) (by first | exact Nat.le_refl _ | decide) (by decide) (by decide) (by decide) (by decide) ?_
  intro v106 T106 L106 X106 hQ106
  obtain ⟨rfl, N106q, e106⟩ := hQ106
  have N106 := Fr.app N0 N106q
  refine Go.pop X106 hx (hb hby d9_6) rfl (q := 7) rfl ?_
  refine Go.aloadN X106 hx (hb hby d9_7) rfl rfl (q := 8) rfl ?_
  refine Go.virt X106 hx hZ hown (wd49 hw) (wd50 hw) (notFace_of_selects (args := #[]) (mvT hZ (wd52 hw))) (wd52 hw) (wd51 hw) (wd10 hw) (wd53 hw) (by decide) (cemp l Z a0 hw s v (kv) ((1 : Int32)) ([(.int c0)]) h105 OE105 Fv Va (by decide)) e106 Es (by rw [hml]; rfl) (hb hby d9_8) (argsL := []) (rest := []) (lenOf pd7 rfl) rfl rfl (W := 0) (by first | exact Nat.le_refl _ | decide) (by decide) (by decide) (by decide) (by decide) ?_
  intro v107 T107 L107 X107 hQ107
  obtain ⟨rfl, N107q, e107⟩ := hQ107
  have N107 := Fr.app N106 N107q
  refine Go.ifYes X107 hx (hb hby d9_11) (by decide) (q := 21) (by decide) (by decide) ?_
  refine Go.iconst X107 hx (hb hby d9_21) (r := (0 : Int32)) rfl (q := 22) rfl ?_
  refine Go.istoreN X107 hx (hb hby d9_22) (l' := #[.val (.ref s), .val (.int (0 : Int32)), .unset]) rfl (q := 23) rfl ?_
  refine Go.iloadN X107 hx (hb hby d9_23) rfl (q := 24) rfl ?_
  refine Go.aloadN X107 hx (hb hby d9_24) rfl rfl (q := 25) rfl ?_
  refine Go.virt X107 hx hZ hown (wd54 hw) (wd55 hw) (notFace_of_selects (args := #[]) (mvT hZ (wd57 hw))) (wd57 hw) (wd56 hw) (wd10 hw) (wd58 hw) (by decide) (clen l Z a0 hw s cs v (kv) ((1 : Int32)) ([(.int c0)]) h105 OE105 Es Fc Fv Va SCS hcs) e107 Es (by rw [hml]; rfl) (hb hby d9_25) (argsL := []) (rest := [(.int (0 : Int32))]) (lenOf pd10 rfl) rfl rfl (W := 1) (by first | exact Nat.le_refl _ | decide) (by decide) (by decide) (by decide) (by decide) ?_
  intro v108 T108 L108 X108 hQ108
  obtain ⟨rfl, N108q, e108⟩ := hQ108
  have N108 := Fr.app N107 N108q
  refine Go.icmpNo X108 hx (hb hby d9_28) (by decide) (q := 31) rfl ?_
  refine Go.aloadN X108 hx (hb hby d9_31) rfl rfl (q := 32) rfl ?_
  refine Go.iloadN X108 hx (hb hby d9_32) rfl (q := 33) rfl ?_
  refine Go.virt X108 hx hZ hown (wd64 hw) (wd65 hw) (notFace_of_selects (args := #[]) (mvT hZ (wd67 hw))) (wd67 hw) (wd66 hw) (wd10 hw) (wd68 hw) (by decide) (ccpa l Z a0 hw s ((0 : Int32)) cs v (kv) ((1 : Int32)) ([(.int c0)]) c0 fm h105 OE105 Es Fc Fv Va SCS SFM hcs hfm (by decide) (by decide) rfl hk103) e108 Es (by rw [hml]; rfl) (hb hby d9_33) (argsL := [(.int (0 : Int32))]) (rest := []) (lenOf pd11 rfl) rfl rfl (W := 0) (by first | exact Nat.le_refl _ | decide) (by decide) (by decide) (by decide) (by decide) ?_
  intro v109 T109 L109 X109 hQ109
  obtain ⟨rfl, N109q, e109⟩ := hQ109
  have N109 := Fr.app N108 N109q
  refine Go.istoreN X109 hx (hb hby d9_36) (l' := #[.val (.ref s), .val (.int (0 : Int32)), .val (.int c0)]) rfl (q := 37) rfl ?_
  refine Go.iloadN X109 hx (hb hby d9_37) rfl (q := 38) rfl ?_
  refine Go.callS X109 hx hZ hown (wd82 hw) (wd83 hw) (wd40 hw) (wd84 hw) (by decide) (cisi l Z a0 hw c0 h105 OE105 hc0) e109 (by rw [hml]; rfl) (hb hby d9_38) (argsL := [(.int c0)]) (rest := []) (lenOf pd12 rfl) rfl rfl (W := 0) (by first | exact Nat.le_refl _ | decide) (by decide) (by decide) (by decide) (by decide) ?_
  intro v110 T110 L110 X110 hQ110
  obtain ⟨rfl, N110q, e110⟩ := hQ110
  have N110 := Fr.app N109 N110q
  refine Go.ifYes X110 hx (hb hby d9_41) (by decide) (q := 61) (by decide) (by decide) ?_
  refine Go.iinc X110 hx (hb hby d9_61) rfl (r := (1 : Int32)) rfl (l' := #[.val (.ref s), .val (.int (1 : Int32)), .val (.int c0)]) rfl (q := 64) rfl ?_
  refine Go.goto X110 hx (hb hby d9_64) (q := 23) (by decide) (by decide) ?_
  refine Go.iloadN X110 hx (hb hby d9_23) rfl (q := 24) rfl ?_
  refine Go.aloadN X110 hx (hb hby d9_24) rfl rfl (q := 25) rfl ?_
  refine Go.virt X110 hx hZ hown (wd54 hw) (wd55 hw) (notFace_of_selects (args := #[]) (mvT hZ (wd57 hw))) (wd57 hw) (wd56 hw) (wd10 hw) (wd58 hw) (by decide) (clen l Z a0 hw s cs v (kv) ((1 : Int32)) ([(.int c0)]) h105 OE105 Es Fc Fv Va SCS hcs) e110 Es (by rw [hml]; rfl) (hb hby d9_25) (argsL := []) (rest := [(.int (1 : Int32))]) (lenOf pd10 rfl) rfl rfl (W := 1) (by first | exact Nat.le_refl _ | decide) (by decide) (by decide) (by decide) (by decide) ?_
  intro v111 T111 L111 X111 hQ111
  obtain ⟨rfl, N111q, e111⟩ := hQ111
  have N111 := Fr.app N110 N111q
  refine Go.icmpYes X111 hx (hb hby d9_28) (by decide) (q := 67) (by decide) (by decide) ?_
  refine Go.aloadN X111 hx (hb hby d9_67) rfl rfl (q := 68) rfl ?_
  refine Go.virt X111 hx hZ hown (wd54 hw) (wd55 hw) (notFace_of_selects (args := #[]) (mvT hZ (wd57 hw))) (wd57 hw) (wd56 hw) (wd10 hw) (wd58 hw) (by decide) (clen l Z a0 hw s cs v (kv) ((1 : Int32)) ([(.int c0)]) h105 OE105 Es Fc Fv Va SCS hcs) e111 Es (by rw [hml]; rfl) (hb hby d9_68) (argsL := []) (rest := []) (lenOf pd10 rfl) rfl rfl (W := 0) (by first | exact Nat.le_refl _ | decide) (by decide) (by decide) (by decide) (by decide) ?_
  intro v112 T112 L112 X112 hQ112
  obtain ⟨rfl, N112q, e112⟩ := hQ112
  have N112 := Fr.app N111 N112q
  refine Go.sipush X112 hx (hb hby d9_71) (r := (255 : Int32)) rfl (q := 74) rfl ?_
  refine Go.icmpYes X112 hx (hb hby d9_74) (by decide) (q := 91) (by decide) (by decide) ?_
  refine Go.newO X112 hx hZ hown (wd85 hw) (wd86 hw) (wd40 hw) e112 (hb hby d9_91) (by decide) (by decide) (q := 94) rfl ?_
  intro b113 T113 h113 X113 e113 q113 E113 A113 D113 U113
  have ne_s_b113 : s ≠ b113 := ne_new Es.lt (Nat.le_of_eq q113)
  have ne_v_b113 : v ≠ b113 := ne_new Va.lt (Nat.le_of_eq q113)
  have g_b113 : Z.heap.size ≤ b113 := Nat.le_trans OE105.1 (Nat.le_of_eq q113)
  have z_b113 : h0.size ≤ b113 := Nat.le_trans KP.1 (Nat.le_of_eq q113)
  replace Es := Es.ext E113
  replace Fc := Fc.ext E113
  replace Fv := Fv.ext E113
  replace Va := Va.ext E113
  have OE113 := ext_trans OE105 E113
  replace hKd := Nat.le_trans hKd E113.1
  replace KP := KP.ext E113
  have F113_text : Fld Z h113 b113 "com/example/cronopoly/cronopoly/ScheduleId" "text" "Ljava/lang/String;" .null := D113 (Or.inr (wd92 hw)) (ty := (.object "java/lang/String")) (by decide)
  clear D113
  refine Go.dup X113 hx (hb hby d9_94) rfl (q := 95) rfl ?_
  refine Go.aloadN X113 hx (hb hby d9_95) rfl rfl (q := 96) rfl ?_
  refine Go.init X113 hx hZ hown rfl (wd87 hw) (wd88 hw) (wd40 hw) (wd89 hw) (by decide) (csid l Z a0 hw b113 s h113 OE113 A113 F113_text g_b113) e113 (by rw [hml]; rfl) (hb hby d9_96) (argsL := [(.ref s)]) (rest := [(.ref b113)]) (lenOf pd13 rfl) rfl rfl (W := 1) (by first | exact Nat.le_refl _ | decide) (by decide) (by decide) (by decide) (by decide) ?_
  intro v114 T114 L114 X114 hQ114
  obtain ⟨h114, e114⟩ : ∃ z, T114.heap = z := ⟨_, rfl⟩
  rw [e114] at hQ114
  obtain ⟨rfl, N114q, K114, P114_0⟩ := hQ114
  have N114 := Fr.app N112 N114q
  replace hKd := Nat.le_trans hKd K114.1
  replace Es := Es.keep K114
  replace Fc := Fc.keep K114 (ninS ne_s_b113 nin0)
  replace Fv := Fv.keep K114 (ninS ne_s_b113 nin0)
  replace Va := Va.keep K114 (ninS ne_v_b113 nin0)
  replace A113 := A113.keep K114
  have OK114 := ext_keep OE113 K114 (allS g_b113 all0)
  replace KP := KP.trans K114 (allS (Or.inr z_b113) all0)
  exact Go.retAW X114 hx hS hKd hret hlk rfl rfl (hb hby d9_99) e114 (by decide) (by decide) ⟨b113, rfl, N114, KP, z_b113, A113, P114_0⟩
def Q_cof2 (Z : State) (s : Addr) (v : Addr) (kv : ClassId) (cs : Int32) (fm : Value) (c0 : Int32) (c1 : Int32) (h0 : Heap) (vR : Option Value) (hR : Heap) (LR : List Loc) : Prop := ∃ b : Addr, vR = some (.ref b) ∧ Fr Z.heap.size LR ∧ Keep h0 hR [] ∧ h0.size ≤ b ∧ Exa Z hR b "com/example/cronopoly/cronopoly/ScheduleId" ∧ Fld Z hR b "com/example/cronopoly/cronopoly/ScheduleId" "text" "Ljava/lang/String;" (.ref s)
set_option maxRecDepth 65536 in
set_option maxHeartbeats 40000000 in
theorem cof2 (l : Launch) (Z : State) (a0 : Array Value) (hw : ∀ d ∈ tables_1, d.before a0 Z = true) (s : Addr) (v : Addr) (kv : ClassId) (cs : Int32) (fm : Value) (c0 : Int32) (c1 : Int32) (h0 : Heap) (O0 : Ext Z.heap h0) (Es : Exa Z h0 s "java/lang/String") (Fc : Fld Z h0 s "java/lang/String" "coder" "B" (.int (0 : Int32))) (Fv : Fld Z h0 s "java/lang/String" "value" "[B" (.ref v)) (Va : Arv Z h0 v kv .byte (2 : Int32) [(.int c0), (.int c1)] (.int (0 : Int32))) (SCS : Sta Z Z.heap "java/lang/String" "COMPACT_STRINGS" "Z" (.int cs)) (SFM : Sta Z Z.heap "jdk/internal/util/Preconditions" "SIOOBE_FORMATTER" "Ljava/util/function/BiFunction;" fm) (hcs : ¬ (cs = (0 : Int32))) (hfm : fm.isRef = true) (hc0 : c0 ∈ ownL) (hc1 : c1 ∈ ownL) :
    CtrW l Z h0 (⟨"com/example/cronopoly/cronopoly/ScheduleId", "of", "(Ljava/lang/String;)Lcom/example/cronopoly/cronopoly/ScheduleId;"⟩ : MethodName) prog_16_method_2_code 3 (some (.object "com/example/cronopoly/cronopoly/ScheduleId")) [] ({ frames := 3, cells := 3, slots := 21, locals := 41 } : Room) #[(.ref s)] (Q_cof2 Z s v kv cs fm c0 c1 h0) := by
  refine enterW (plainFor_of_name pn5) ?_
  intro pp ee ss mm below meth cc s₁ hx hby hml hZ hown hnm hret hlk X0 e0 hs0 hS
  replace hown : (ss.setVm ss.vm).vm.findClass "com/example/cronopoly/cronopoly/ScheduleId" = some mm.cls := hown
  have hKd := Nat.zero_le h0.size
  refine Go.cast (congrArg s₁.setTop (ef_cof2 mm s)) ?_
  have N0 := Fr.nil Z.heap.size
  have KP := Keep.refl h0 []
  show Go pp ee below _ (s₁.setTop (mkF mm 0 #[.val (.ref s), .unset, .unset] []))
  have hk101 : (c0.toInt8.toInt32) = c0 := own_b _ hc0
  have hk102 : nar .char c0 = c0 := own_nar _ hc0
  have hk103 : (c0 &&& (255 : Int32)) = c0 := own_a _ hc0
  have hk104 : ¬ ((255 : Int32) < c0) := own_255 _ hc0
  have hk105 : (c1.toInt8.toInt32) = c1 := own_b _ hc1
  have hk106 : nar .char c1 = c1 := own_nar _ hc1
  have hk107 : (c1 &&& (255 : Int32)) = c1 := own_a _ hc1
  have hk108 : ¬ ((255 : Int32) < c1) := own_255 _ hc1
  refine Go.aloadN X0 hx (hb hby d9_0) rfl rfl (q := 1) rfl ?_
  refine Go.ldcS X0 hx hZ hown (wd42 hw) (own_wS hw) e0 hS hKd (hb hby d9_1) (nn := 16) (by decide) (by decide) (by decide) (by decide) (q := 3) rfl ?_
  intro b109 T109 h109 k109 X109 e109 E109 hS hKd hZ hown
  replace Es := Es.ext E109
  replace Fc := Fc.ext E109
  replace Fv := Fv.ext E109
  replace Va := Va.ext E109
  have OE109 := ext_trans O0 E109
  replace KP := KP.ext E109
  refine Go.callS X109 hx hZ hown (wd45 hw) (wd46 hw) (wd47 hw) (wd48 hw) (by decide) (creq l Z a0 hw s b109 h109 OE109) e109 (by rw [hml]; rfl) (hb hby d9_3) (argsL := [(.ref s), (.ref b109)]) (rest := []) (lenOf pd9 rfl) rfl rfl (W := 0) (by first | exact Nat.le_refl _ | decide) (by decide) (by decide) (by decide) (by decide) ?_
  intro v110 T110 L110 X110 hQ110
  obtain ⟨rfl, N110q, e110⟩ := hQ110
  have N110 := Fr.app N0 N110q
  refine Go.pop X110 hx (hb hby d9_6) rfl (q := 7) rfl ?_
  refine Go.aloadN X110 hx (hb hby d9_7) rfl rfl (q := 8) rfl ?_
  refine Go.virt X110 hx hZ hown (wd49 hw) (wd50 hw) (notFace_of_selects (args := #[]) (mvT hZ (wd52 hw))) (wd52 hw) (wd51 hw) (wd10 hw) (wd53 hw) (by decide) (cemp l Z a0 hw s v (kv) ((2 : Int32)) ([(.int c0), (.int c1)]) h109 OE109 Fv Va (by decide)) e110 Es (by rw [hml]; rfl) (hb hby d9_8) (argsL := []) (rest := []) (lenOf pd7 rfl) rfl rfl (W := 0) (by first | exact Nat.le_refl _ | decide) (by decide) (by decide) (by decide) (by decide) ?_
  intro v111 T111 L111 X111 hQ111
  obtain ⟨rfl, N111q, e111⟩ := hQ111
  have N111 := Fr.app N110 N111q
  refine Go.ifYes X111 hx (hb hby d9_11) (by decide) (q := 21) (by decide) (by decide) ?_
  refine Go.iconst X111 hx (hb hby d9_21) (r := (0 : Int32)) rfl (q := 22) rfl ?_
  refine Go.istoreN X111 hx (hb hby d9_22) (l' := #[.val (.ref s), .val (.int (0 : Int32)), .unset]) rfl (q := 23) rfl ?_
  refine Go.iloadN X111 hx (hb hby d9_23) rfl (q := 24) rfl ?_
  refine Go.aloadN X111 hx (hb hby d9_24) rfl rfl (q := 25) rfl ?_
  refine Go.virt X111 hx hZ hown (wd54 hw) (wd55 hw) (notFace_of_selects (args := #[]) (mvT hZ (wd57 hw))) (wd57 hw) (wd56 hw) (wd10 hw) (wd58 hw) (by decide) (clen l Z a0 hw s cs v (kv) ((2 : Int32)) ([(.int c0), (.int c1)]) h109 OE109 Es Fc Fv Va SCS hcs) e111 Es (by rw [hml]; rfl) (hb hby d9_25) (argsL := []) (rest := [(.int (0 : Int32))]) (lenOf pd10 rfl) rfl rfl (W := 1) (by first | exact Nat.le_refl _ | decide) (by decide) (by decide) (by decide) (by decide) ?_
  intro v112 T112 L112 X112 hQ112
  obtain ⟨rfl, N112q, e112⟩ := hQ112
  have N112 := Fr.app N111 N112q
  refine Go.icmpNo X112 hx (hb hby d9_28) (by decide) (q := 31) rfl ?_
  refine Go.aloadN X112 hx (hb hby d9_31) rfl rfl (q := 32) rfl ?_
  refine Go.iloadN X112 hx (hb hby d9_32) rfl (q := 33) rfl ?_
  refine Go.virt X112 hx hZ hown (wd64 hw) (wd65 hw) (notFace_of_selects (args := #[]) (mvT hZ (wd67 hw))) (wd67 hw) (wd66 hw) (wd10 hw) (wd68 hw) (by decide) (ccpa l Z a0 hw s ((0 : Int32)) cs v (kv) ((2 : Int32)) ([(.int c0), (.int c1)]) c0 fm h109 OE109 Es Fc Fv Va SCS SFM hcs hfm (by decide) (by decide) rfl hk103) e112 Es (by rw [hml]; rfl) (hb hby d9_33) (argsL := [(.int (0 : Int32))]) (rest := []) (lenOf pd11 rfl) rfl rfl (W := 0) (by first | exact Nat.le_refl _ | decide) (by decide) (by decide) (by decide) (by decide) ?_
  intro v113 T113 L113 X113 hQ113
  obtain ⟨rfl, N113q, e113⟩ := hQ113
  have N113 := Fr.app N112 N113q
  refine Go.istoreN X113 hx (hb hby d9_36) (l' := #[.val (.ref s), .val (.int (0 : Int32)), .val (.int c0)]) rfl (q := 37) rfl ?_
  refine Go.iloadN X113 hx (hb hby d9_37) rfl (q := 38) rfl ?_
  refine Go.callS X113 hx hZ hown (wd82 hw) (wd83 hw) (wd40 hw) (wd84 hw) (by decide) (cisi l Z a0 hw c0 h109 OE109 hc0) e113 (by rw [hml]; rfl) (hb hby d9_38) (argsL := [(.int c0)]) (rest := []) (lenOf pd12 rfl) rfl rfl (W := 0) (by first | exact Nat.le_refl _ | decide) (by decide) (by decide) (by decide) (by decide) ?_
  intro v114 T114 L114 X114 hQ114
  obtain ⟨rfl, N114q, e114⟩ := hQ114
  have N114 := Fr.app N113 N114q
  refine Go.ifYes X114 hx (hb hby d9_41) (by decide) (q := 61) (by decide) (by decide) ?_
  refine Go.iinc X114 hx (hb hby d9_61) rfl (r := (1 : Int32)) rfl (l' := #[.val (.ref s), .val (.int (1 : Int32)), .val (.int c0)]) rfl (q := 64) rfl ?_
  refine Go.goto X114 hx (hb hby d9_64) (q := 23) (by decide) (by decide) ?_
  refine Go.iloadN X114 hx (hb hby d9_23) rfl (q := 24) rfl ?_
  refine Go.aloadN X114 hx (hb hby d9_24) rfl rfl (q := 25) rfl ?_
  refine Go.virt X114 hx hZ hown (wd54 hw) (wd55 hw) (notFace_of_selects (args := #[]) (mvT hZ (wd57 hw))) (wd57 hw) (wd56 hw) (wd10 hw) (wd58 hw) (by decide) (clen l Z a0 hw s cs v (kv) ((2 : Int32)) ([(.int c0), (.int c1)]) h109 OE109 Es Fc Fv Va SCS hcs) e114 Es (by rw [hml]; rfl) (hb hby d9_25) (argsL := []) (rest := [(.int (1 : Int32))]) (lenOf pd10 rfl) rfl rfl (W := 1) (by first | exact Nat.le_refl _ | decide) (by decide) (by decide) (by decide) (by decide) ?_
  intro v115 T115 L115 X115 hQ115
  obtain ⟨rfl, N115q, e115⟩ := hQ115
  have N115 := Fr.app N114 N115q
  refine Go.icmpNo X115 hx (hb hby d9_28) (by decide) (q := 31) rfl ?_
  refine Go.aloadN X115 hx (hb hby d9_31) rfl rfl (q := 32) rfl ?_
  refine Go.iloadN X115 hx (hb hby d9_32) rfl (q := 33) rfl ?_
  refine Go.virt X115 hx hZ hown (wd64 hw) (wd65 hw) (notFace_of_selects (args := #[]) (mvT hZ (wd67 hw))) (wd67 hw) (wd66 hw) (wd10 hw) (wd68 hw) (by decide) (ccpa l Z a0 hw s ((1 : Int32)) cs v (kv) ((2 : Int32)) ([(.int c0), (.int c1)]) c1 fm h109 OE109 Es Fc Fv Va SCS SFM hcs hfm (by decide) (by decide) rfl hk107) e115 Es (by rw [hml]; rfl) (hb hby d9_33) (argsL := [(.int (1 : Int32))]) (rest := []) (lenOf pd11 rfl) rfl rfl (W := 0) (by first | exact Nat.le_refl _ | decide) (by decide) (by decide) (by decide) (by decide) ?_
  intro v116 T116 L116 X116 hQ116
  obtain ⟨rfl, N116q, e116⟩ := hQ116
  have N116 := Fr.app N115 N116q
  refine Go.istoreN X116 hx (hb hby d9_36) (l' := #[.val (.ref s), .val (.int (1 : Int32)), .val (.int c1)]) rfl (q := 37) rfl ?_
  refine Go.iloadN X116 hx (hb hby d9_37) rfl (q := 38) rfl ?_
  refine Go.callS X116 hx hZ hown (wd82 hw) (wd83 hw) (wd40 hw) (wd84 hw) (by decide) (cisi l Z a0 hw c1 h109 OE109 hc1) e116 (by rw [hml]; rfl) (hb hby d9_38) (argsL := [(.int c1)]) (rest := []) (lenOf pd12 rfl) rfl rfl (W := 0) (by first | exact Nat.le_refl _ | decide) (by decide) (by decide) (by decide) (by decide) ?_
  intro v117 T117 L117 X117 hQ117
  obtain ⟨rfl, N117q, e117⟩ := hQ117
  have N117 := Fr.app N116 N117q
  refine Go.ifYes X117 hx (hb hby d9_41) (by decide) (q := 61) (by decide) (by decide) ?_
  refine Go.iinc X117 hx (hb hby d9_61) rfl (r := (2 : Int32)) rfl (l' := #[.val (.ref s), .val (.int (2 : Int32)), .val (.int c1)]) rfl (q := 64) rfl ?_
  refine Go.goto X117 hx (hb hby d9_64) (q := 23) (by decide) (by decide) ?_
  refine Go.iloadN X117 hx (hb hby d9_23) rfl (q := 24) rfl ?_
  refine Go.aloadN X117 hx (hb hby d9_24) rfl rfl (q := 25) rfl ?_
  refine Go.virt X117 hx hZ hown (wd54 hw) (wd55 hw) (notFace_of_selects (args := #[]) (mvT hZ (wd57 hw))) (wd57 hw) (wd56 hw) (wd10 hw) (wd58 hw) (by decide) (clen l Z a0 hw s cs v (kv) ((2 : Int32)) ([(.int c0), (.int c1)]) h109 OE109 Es Fc Fv Va SCS hcs) e117 Es (by rw [hml]; rfl) (hb hby d9_25) (argsL := []) (rest := [(.int (2 : Int32))]) (lenOf pd10 rfl) rfl rfl (W := 1) (by first | exact Nat.le_refl _ | decide) (by decide) (by decide) (by decide) (by decide) ?_
  intro v118 T118 L118 X118 hQ118
  obtain ⟨rfl, N118q, e118⟩ := hQ118
  have N118 := Fr.app N117 N118q
  refine Go.icmpYes X118 hx (hb hby d9_28) (by decide) (q := 67) (by decide) (by decide) ?_
  refine Go.aloadN X118 hx (hb hby d9_67) rfl rfl (q := 68) rfl ?_
  refine Go.virt X118 hx hZ hown (wd54 hw) (wd55 hw) (notFace_of_selects (args := #[]) (mvT hZ (wd57 hw))) (wd57 hw) (wd56 hw) (wd10 hw) (wd58 hw) (by decide) (clen l Z a0 hw s cs v (kv) ((2 : Int32)) ([(.int c0), (.int c1)]) h109 OE109 Es Fc Fv Va SCS hcs) e118 Es (by rw [hml]; rfl) (hb hby d9_68) (argsL := []) (rest := []) (lenOf pd10 rfl) rfl rfl (W := 0) (by first | exact Nat.le_refl _ | decide) (by decide) (by decide) (by decide) (by decide) ?_
  intro v119 T119 L119 X119 hQ119
  obtain ⟨rfl, N119q, e119⟩ := hQ119
  have N119 := Fr.app N118 N119q
  refine Go.sipush X119 hx (hb hby d9_71) (r := (255 : Int32)) rfl (q := 74) rfl ?_
  refine Go.icmpYes X119 hx (hb hby d9_74) (by decide) (q := 91) (by decide) (by decide) ?_
  refine Go.newO X119 hx hZ hown (wd85 hw) (wd86 hw) (wd40 hw) e119 (hb hby d9_91) (by decide) (by decide) (q := 94) rfl ?_
  intro b120 T120 h120 X120 e120 q120 E120 A120 D120 U120
  have ne_s_b120 : s ≠ b120 := ne_new Es.lt (Nat.le_of_eq q120)
  have ne_v_b120 : v ≠ b120 := ne_new Va.lt (Nat.le_of_eq q120)
  have g_b120 : Z.heap.size ≤ b120 := Nat.le_trans OE109.1 (Nat.le_of_eq q120)
  have z_b120 : h0.size ≤ b120 := Nat.le_trans KP.1 (Nat.le_of_eq q120)
  replace Es := Es.ext E120
  replace Fc := Fc.ext E120
  replace Fv := Fv.ext E120
  replace Va := Va.ext E120
  have OE120 := ext_trans OE109 E120
  replace hKd := Nat.le_trans hKd E120.1
  replace KP := KP.ext E120
  have F120_text : Fld Z h120 b120 "com/example/cronopoly/cronopoly/ScheduleId" "text" "Ljava/lang/String;" .null := D120 (Or.inr (wd92 hw)) (ty := (.object "java/lang/String")) (by decide)
  clear D120
  refine Go.dup X120 hx (hb hby d9_94) rfl (q := 95) rfl ?_
  refine Go.aloadN X120 hx (hb hby d9_95) rfl rfl (q := 96) rfl ?_
  refine Go.init X120 hx hZ hown rfl (wd87 hw) (wd88 hw) (wd40 hw) (wd89 hw) (by decide) (csid l Z a0 hw b120 s h120 OE120 A120 F120_text g_b120) e120 (by rw [hml]; rfl) (hb hby d9_96) (argsL := [(.ref s)]) (rest := [(.ref b120)]) (lenOf pd13 rfl) rfl rfl (W := 1) (by first | exact Nat.le_refl _ | decide) (by decide) (by decide) (by decide) (by decide) ?_
  intro v121 T121 L121 X121 hQ121
  obtain ⟨h121, e121⟩ : ∃ z, T121.heap = z := ⟨_, rfl⟩
  rw [e121] at hQ121
  obtain ⟨rfl, N121q, K121, P121_0⟩ := hQ121
  have N121 := Fr.app N119 N121q
  replace hKd := Nat.le_trans hKd K121.1
  replace Es := Es.keep K121
  replace Fc := Fc.keep K121 (ninS ne_s_b120 nin0)
  replace Fv := Fv.keep K121 (ninS ne_s_b120 nin0)
  replace Va := Va.keep K121 (ninS ne_v_b120 nin0)
  replace A120 := A120.keep K121
  have OK121 := ext_keep OE120 K121 (allS g_b120 all0)
  replace KP := KP.trans K121 (allS (Or.inr z_b120) all0)
  exact Go.retAW X121 hx hS hKd hret hlk rfl rfl (hb hby d9_99) e121 (by decide) (by decide) ⟨b120, rfl, N121, KP, z_b120, A120, P121_0⟩
def Q_cof3 (Z : State) (s : Addr) (v : Addr) (kv : ClassId) (cs : Int32) (fm : Value) (c0 : Int32) (c1 : Int32) (c2 : Int32) (h0 : Heap) (vR : Option Value) (hR : Heap) (LR : List Loc) : Prop := ∃ b : Addr, vR = some (.ref b) ∧ Fr Z.heap.size LR ∧ Keep h0 hR [] ∧ h0.size ≤ b ∧ Exa Z hR b "com/example/cronopoly/cronopoly/ScheduleId" ∧ Fld Z hR b "com/example/cronopoly/cronopoly/ScheduleId" "text" "Ljava/lang/String;" (.ref s)
set_option maxRecDepth 65536 in
set_option maxHeartbeats 40000000 in
theorem cof3 (l : Launch) (Z : State) (a0 : Array Value) (hw : ∀ d ∈ tables_1, d.before a0 Z = true) (s : Addr) (v : Addr) (kv : ClassId) (cs : Int32) (fm : Value) (c0 : Int32) (c1 : Int32) (c2 : Int32) (h0 : Heap) (O0 : Ext Z.heap h0) (Es : Exa Z h0 s "java/lang/String") (Fc : Fld Z h0 s "java/lang/String" "coder" "B" (.int (0 : Int32))) (Fv : Fld Z h0 s "java/lang/String" "value" "[B" (.ref v)) (Va : Arv Z h0 v kv .byte (3 : Int32) [(.int c0), (.int c1), (.int c2)] (.int (0 : Int32))) (SCS : Sta Z Z.heap "java/lang/String" "COMPACT_STRINGS" "Z" (.int cs)) (SFM : Sta Z Z.heap "jdk/internal/util/Preconditions" "SIOOBE_FORMATTER" "Ljava/util/function/BiFunction;" fm) (hcs : ¬ (cs = (0 : Int32))) (hfm : fm.isRef = true) (hc0 : c0 ∈ ownL) (hc1 : c1 ∈ ownL) (hc2 : c2 ∈ ownL) :
    CtrW l Z h0 (⟨"com/example/cronopoly/cronopoly/ScheduleId", "of", "(Ljava/lang/String;)Lcom/example/cronopoly/cronopoly/ScheduleId;"⟩ : MethodName) prog_16_method_2_code 3 (some (.object "com/example/cronopoly/cronopoly/ScheduleId")) [] ({ frames := 3, cells := 3, slots := 21, locals := 41 } : Room) #[(.ref s)] (Q_cof3 Z s v kv cs fm c0 c1 c2 h0) := by
  refine enterW (plainFor_of_name pn5) ?_
  intro pp ee ss mm below meth cc s₁ hx hby hml hZ hown hnm hret hlk X0 e0 hs0 hS
  replace hown : (ss.setVm ss.vm).vm.findClass "com/example/cronopoly/cronopoly/ScheduleId" = some mm.cls := hown
  have hKd := Nat.zero_le h0.size
  refine Go.cast (congrArg s₁.setTop (ef_cof3 mm s)) ?_
  have N0 := Fr.nil Z.heap.size
  have KP := Keep.refl h0 []
  show Go pp ee below _ (s₁.setTop (mkF mm 0 #[.val (.ref s), .unset, .unset] []))
  have hk101 : (c0.toInt8.toInt32) = c0 := own_b _ hc0
  have hk102 : nar .char c0 = c0 := own_nar _ hc0
  have hk103 : (c0 &&& (255 : Int32)) = c0 := own_a _ hc0
  have hk104 : ¬ ((255 : Int32) < c0) := own_255 _ hc0
  have hk105 : (c1.toInt8.toInt32) = c1 := own_b _ hc1
  have hk106 : nar .char c1 = c1 := own_nar _ hc1
  have hk107 : (c1 &&& (255 : Int32)) = c1 := own_a _ hc1
  have hk108 : ¬ ((255 : Int32) < c1) := own_255 _ hc1
  have hk109 : (c2.toInt8.toInt32) = c2 := own_b _ hc2
  have hk110 : nar .char c2 = c2 := own_nar _ hc2
  have hk111 : (c2 &&& (255 : Int32)) = c2 := own_a _ hc2
  have hk112 : ¬ ((255 : Int32) < c2) := own_255 _ hc2
  refine Go.aloadN X0 hx (hb hby d9_0) rfl rfl (q := 1) rfl ?_
  refine Go.ldcS X0 hx hZ hown (wd42 hw) (own_wS hw) e0 hS hKd (hb hby d9_1) (nn := 16) (by decide) (by decide) (by decide) (by decide) (q := 3) rfl ?_
  intro b113 T113 h113 k113 X113 e113 E113 hS hKd hZ hown
  replace Es := Es.ext E113
  replace Fc := Fc.ext E113
  replace Fv := Fv.ext E113
  replace Va := Va.ext E113
  have OE113 := ext_trans O0 E113
  replace KP := KP.ext E113
  refine Go.callS X113 hx hZ hown (wd45 hw) (wd46 hw) (wd47 hw) (wd48 hw) (by decide) (creq l Z a0 hw s b113 h113 OE113) e113 (by rw [hml]; rfl) (hb hby d9_3) (argsL := [(.ref s), (.ref b113)]) (rest := []) (lenOf pd9 rfl) rfl rfl (W := 0) (by first | exact Nat.le_refl _ | decide) (by decide) (by decide) (by decide) (by decide) ?_
  intro v114 T114 L114 X114 hQ114
  obtain ⟨rfl, N114q, e114⟩ := hQ114
  have N114 := Fr.app N0 N114q
  refine Go.pop X114 hx (hb hby d9_6) rfl (q := 7) rfl ?_
  refine Go.aloadN X114 hx (hb hby d9_7) rfl rfl (q := 8) rfl ?_
  refine Go.virt X114 hx hZ hown (wd49 hw) (wd50 hw) (notFace_of_selects (args := #[]) (mvT hZ (wd52 hw))) (wd52 hw) (wd51 hw) (wd10 hw) (wd53 hw) (by decide) (cemp l Z a0 hw s v (kv) ((3 : Int32)) ([(.int c0), (.int c1), (.int c2)]) h113 OE113 Fv Va (by decide)) e114 Es (by rw [hml]; rfl) (hb hby d9_8) (argsL := []) (rest := []) (lenOf pd7 rfl) rfl rfl (W := 0) (by first | exact Nat.le_refl _ | decide) (by decide) (by decide) (by decide) (by decide) ?_
  intro v115 T115 L115 X115 hQ115
  obtain ⟨rfl, N115q, e115⟩ := hQ115
  have N115 := Fr.app N114 N115q
  refine Go.ifYes X115 hx (hb hby d9_11) (by decide) (q := 21) (by decide) (by decide) ?_
  refine Go.iconst X115 hx (hb hby d9_21) (r := (0 : Int32)) rfl (q := 22) rfl ?_
  refine Go.istoreN X115 hx (hb hby d9_22) (l' := #[.val (.ref s), .val (.int (0 : Int32)), .unset]) rfl (q := 23) rfl ?_
  refine Go.iloadN X115 hx (hb hby d9_23) rfl (q := 24) rfl ?_
  refine Go.aloadN X115 hx (hb hby d9_24) rfl rfl (q := 25) rfl ?_
  refine Go.virt X115 hx hZ hown (wd54 hw) (wd55 hw) (notFace_of_selects (args := #[]) (mvT hZ (wd57 hw))) (wd57 hw) (wd56 hw) (wd10 hw) (wd58 hw) (by decide) (clen l Z a0 hw s cs v (kv) ((3 : Int32)) ([(.int c0), (.int c1), (.int c2)]) h113 OE113 Es Fc Fv Va SCS hcs) e115 Es (by rw [hml]; rfl) (hb hby d9_25) (argsL := []) (rest := [(.int (0 : Int32))]) (lenOf pd10 rfl) rfl rfl (W := 1) (by first | exact Nat.le_refl _ | decide) (by decide) (by decide) (by decide) (by decide) ?_
  intro v116 T116 L116 X116 hQ116
  obtain ⟨rfl, N116q, e116⟩ := hQ116
  have N116 := Fr.app N115 N116q
  refine Go.icmpNo X116 hx (hb hby d9_28) (by decide) (q := 31) rfl ?_
  refine Go.aloadN X116 hx (hb hby d9_31) rfl rfl (q := 32) rfl ?_
  refine Go.iloadN X116 hx (hb hby d9_32) rfl (q := 33) rfl ?_
  refine Go.virt X116 hx hZ hown (wd64 hw) (wd65 hw) (notFace_of_selects (args := #[]) (mvT hZ (wd67 hw))) (wd67 hw) (wd66 hw) (wd10 hw) (wd68 hw) (by decide) (ccpa l Z a0 hw s ((0 : Int32)) cs v (kv) ((3 : Int32)) ([(.int c0), (.int c1), (.int c2)]) c0 fm h113 OE113 Es Fc Fv Va SCS SFM hcs hfm (by decide) (by decide) rfl hk103) e116 Es (by rw [hml]; rfl) (hb hby d9_33) (argsL := [(.int (0 : Int32))]) (rest := []) (lenOf pd11 rfl) rfl rfl (W := 0) (by first | exact Nat.le_refl _ | decide) (by decide) (by decide) (by decide) (by decide) ?_
  intro v117 T117 L117 X117 hQ117
  obtain ⟨rfl, N117q, e117⟩ := hQ117
  have N117 := Fr.app N116 N117q
  refine Go.istoreN X117 hx (hb hby d9_36) (l' := #[.val (.ref s), .val (.int (0 : Int32)), .val (.int c0)]) rfl (q := 37) rfl ?_
  refine Go.iloadN X117 hx (hb hby d9_37) rfl (q := 38) rfl ?_
  refine Go.callS X117 hx hZ hown (wd82 hw) (wd83 hw) (wd40 hw) (wd84 hw) (by decide) (cisi l Z a0 hw c0 h113 OE113 hc0) e117 (by rw [hml]; rfl) (hb hby d9_38) (argsL := [(.int c0)]) (rest := []) (lenOf pd12 rfl) rfl rfl (W := 0) (by first | exact Nat.le_refl _ | decide) (by decide) (by decide) (by decide) (by decide) ?_
  intro v118 T118 L118 X118 hQ118
  obtain ⟨rfl, N118q, e118⟩ := hQ118
  have N118 := Fr.app N117 N118q
  refine Go.ifYes X118 hx (hb hby d9_41) (by decide) (q := 61) (by decide) (by decide) ?_
  refine Go.iinc X118 hx (hb hby d9_61) rfl (r := (1 : Int32)) rfl (l' := #[.val (.ref s), .val (.int (1 : Int32)), .val (.int c0)]) rfl (q := 64) rfl ?_
  refine Go.goto X118 hx (hb hby d9_64) (q := 23) (by decide) (by decide) ?_
  refine Go.iloadN X118 hx (hb hby d9_23) rfl (q := 24) rfl ?_
  refine Go.aloadN X118 hx (hb hby d9_24) rfl rfl (q := 25) rfl ?_
  refine Go.virt X118 hx hZ hown (wd54 hw) (wd55 hw) (notFace_of_selects (args := #[]) (mvT hZ (wd57 hw))) (wd57 hw) (wd56 hw) (wd10 hw) (wd58 hw) (by decide) (clen l Z a0 hw s cs v (kv) ((3 : Int32)) ([(.int c0), (.int c1), (.int c2)]) h113 OE113 Es Fc Fv Va SCS hcs) e118 Es (by rw [hml]; rfl) (hb hby d9_25) (argsL := []) (rest := [(.int (1 : Int32))]) (lenOf pd10 rfl) rfl rfl (W := 1) (by first | exact Nat.le_refl _ | decide) (by decide) (by decide) (by decide) (by decide) ?_
  intro v119 T119 L119 X119 hQ119
  obtain ⟨rfl, N119q, e119⟩ := hQ119
  have N119 := Fr.app N118 N119q
  refine Go.icmpNo X119 hx (hb hby d9_28) (by decide) (q := 31) rfl ?_
  refine Go.aloadN X119 hx (hb hby d9_31) rfl rfl (q := 32) rfl ?_
  refine Go.iloadN X119 hx (hb hby d9_32) rfl (q := 33) rfl ?_
  refine Go.virt X119 hx hZ hown (wd64 hw) (wd65 hw) (notFace_of_selects (args := #[]) (mvT hZ (wd67 hw))) (wd67 hw) (wd66 hw) (wd10 hw) (wd68 hw) (by decide) (ccpa l Z a0 hw s ((1 : Int32)) cs v (kv) ((3 : Int32)) ([(.int c0), (.int c1), (.int c2)]) c1 fm h113 OE113 Es Fc Fv Va SCS SFM hcs hfm (by decide) (by decide) rfl hk107) e119 Es (by rw [hml]; rfl) (hb hby d9_33) (argsL := [(.int (1 : Int32))]) (rest := []) (lenOf pd11 rfl) rfl rfl (W := 0) (by first | exact Nat.le_refl _ | decide) (by decide) (by decide) (by decide) (by decide) ?_
  intro v120 T120 L120 X120 hQ120
  obtain ⟨rfl, N120q, e120⟩ := hQ120
  have N120 := Fr.app N119 N120q
  refine Go.istoreN X120 hx (hb hby d9_36) (l' := #[.val (.ref s), .val (.int (1 : Int32)), .val (.int c1)]) rfl (q := 37) rfl ?_
  refine Go.iloadN X120 hx (hb hby d9_37) rfl (q := 38) rfl ?_
  refine Go.callS X120 hx hZ hown (wd82 hw) (wd83 hw) (wd40 hw) (wd84 hw) (by decide) (cisi l Z a0 hw c1 h113 OE113 hc1) e120 (by rw [hml]; rfl) (hb hby d9_38) (argsL := [(.int c1)]) (rest := []) (lenOf pd12 rfl) rfl rfl (W := 0) (by first | exact Nat.le_refl _ | decide) (by decide) (by decide) (by decide) (by decide) ?_
  intro v121 T121 L121 X121 hQ121
  obtain ⟨rfl, N121q, e121⟩ := hQ121
  have N121 := Fr.app N120 N121q
  refine Go.ifYes X121 hx (hb hby d9_41) (by decide) (q := 61) (by decide) (by decide) ?_
  refine Go.iinc X121 hx (hb hby d9_61) rfl (r := (2 : Int32)) rfl (l' := #[.val (.ref s), .val (.int (2 : Int32)), .val (.int c1)]) rfl (q := 64) rfl ?_
  refine Go.goto X121 hx (hb hby d9_64) (q := 23) (by decide) (by decide) ?_
  refine Go.iloadN X121 hx (hb hby d9_23) rfl (q := 24) rfl ?_
  refine Go.aloadN X121 hx (hb hby d9_24) rfl rfl (q := 25) rfl ?_
  refine Go.virt X121 hx hZ hown (wd54 hw) (wd55 hw) (notFace_of_selects (args := #[]) (mvT hZ (wd57 hw))) (wd57 hw) (wd56 hw) (wd10 hw) (wd58 hw) (by decide) (clen l Z a0 hw s cs v (kv) ((3 : Int32)) ([(.int c0), (.int c1), (.int c2)]) h113 OE113 Es Fc Fv Va SCS hcs) e121 Es (by rw [hml]; rfl) (hb hby d9_25) (argsL := []) (rest := [(.int (2 : Int32))]) (lenOf pd10 rfl) rfl rfl (W := 1) (by first | exact Nat.le_refl _ | decide) (by decide) (by decide) (by decide) (by decide) ?_
  intro v122 T122 L122 X122 hQ122
  obtain ⟨rfl, N122q, e122⟩ := hQ122
  have N122 := Fr.app N121 N122q
  refine Go.icmpNo X122 hx (hb hby d9_28) (by decide) (q := 31) rfl ?_
  refine Go.aloadN X122 hx (hb hby d9_31) rfl rfl (q := 32) rfl ?_
  refine Go.iloadN X122 hx (hb hby d9_32) rfl (q := 33) rfl ?_
  refine Go.virt X122 hx hZ hown (wd64 hw) (wd65 hw) (notFace_of_selects (args := #[]) (mvT hZ (wd67 hw))) (wd67 hw) (wd66 hw) (wd10 hw) (wd68 hw) (by decide) (ccpa l Z a0 hw s ((2 : Int32)) cs v (kv) ((3 : Int32)) ([(.int c0), (.int c1), (.int c2)]) c2 fm h113 OE113 Es Fc Fv Va SCS SFM hcs hfm (by decide) (by decide) rfl hk111) e122 Es (by rw [hml]; rfl) (hb hby d9_33) (argsL := [(.int (2 : Int32))]) (rest := []) (lenOf pd11 rfl) rfl rfl (W := 0) (by first | exact Nat.le_refl _ | decide) (by decide) (by decide) (by decide) (by decide) ?_
  intro v123 T123 L123 X123 hQ123
  obtain ⟨rfl, N123q, e123⟩ := hQ123
  have N123 := Fr.app N122 N123q
  refine Go.istoreN X123 hx (hb hby d9_36) (l' := #[.val (.ref s), .val (.int (2 : Int32)), .val (.int c2)]) rfl (q := 37) rfl ?_
  refine Go.iloadN X123 hx (hb hby d9_37) rfl (q := 38) rfl ?_
  refine Go.callS X123 hx hZ hown (wd82 hw) (wd83 hw) (wd40 hw) (wd84 hw) (by decide) (cisi l Z a0 hw c2 h113 OE113 hc2) e123 (by rw [hml]; rfl) (hb hby d9_38) (argsL := [(.int c2)]) (rest := []) (lenOf pd12 rfl) rfl rfl (W := 0) (by first | exact Nat.le_refl _ | decide) (by decide) (by decide) (by decide) (by decide) ?_
  intro v124 T124 L124 X124 hQ124
  obtain ⟨rfl, N124q, e124⟩ := hQ124
  have N124 := Fr.app N123 N124q
  refine Go.ifYes X124 hx (hb hby d9_41) (by decide) (q := 61) (by decide) (by decide) ?_
  refine Go.iinc X124 hx (hb hby d9_61) rfl (r := (3 : Int32)) rfl (l' := #[.val (.ref s), .val (.int (3 : Int32)), .val (.int c2)]) rfl (q := 64) rfl ?_
  refine Go.goto X124 hx (hb hby d9_64) (q := 23) (by decide) (by decide) ?_
  refine Go.iloadN X124 hx (hb hby d9_23) rfl (q := 24) rfl ?_
  refine Go.aloadN X124 hx (hb hby d9_24) rfl rfl (q := 25) rfl ?_
  refine Go.virt X124 hx hZ hown (wd54 hw) (wd55 hw) (notFace_of_selects (args := #[]) (mvT hZ (wd57 hw))) (wd57 hw) (wd56 hw) (wd10 hw) (wd58 hw) (by decide) (clen l Z a0 hw s cs v (kv) ((3 : Int32)) ([(.int c0), (.int c1), (.int c2)]) h113 OE113 Es Fc Fv Va SCS hcs) e124 Es (by rw [hml]; rfl) (hb hby d9_25) (argsL := []) (rest := [(.int (3 : Int32))]) (lenOf pd10 rfl) rfl rfl (W := 1) (by first | exact Nat.le_refl _ | decide) (by decide) (by decide) (by decide) (by decide) ?_
  intro v125 T125 L125 X125 hQ125
  obtain ⟨rfl, N125q, e125⟩ := hQ125
  have N125 := Fr.app N124 N125q
  refine Go.icmpYes X125 hx (hb hby d9_28) (by decide) (q := 67) (by decide) (by decide) ?_
  refine Go.aloadN X125 hx (hb hby d9_67) rfl rfl (q := 68) rfl ?_
  refine Go.virt X125 hx hZ hown (wd54 hw) (wd55 hw) (notFace_of_selects (args := #[]) (mvT hZ (wd57 hw))) (wd57 hw) (wd56 hw) (wd10 hw) (wd58 hw) (by decide) (clen l Z a0 hw s cs v (kv) ((3 : Int32)) ([(.int c0), (.int c1), (.int c2)]) h113 OE113 Es Fc Fv Va SCS hcs) e125 Es (by rw [hml]; rfl) (hb hby d9_68) (argsL := []) (rest := []) (lenOf pd10 rfl) rfl rfl (W := 0) (by first | exact Nat.le_refl _ | decide) (by decide) (by decide) (by decide) (by decide) ?_
  intro v126 T126 L126 X126 hQ126
  obtain ⟨rfl, N126q, e126⟩ := hQ126
  have N126 := Fr.app N125 N126q
  refine Go.sipush X126 hx (hb hby d9_71) (r := (255 : Int32)) rfl (q := 74) rfl ?_
  refine Go.icmpYes X126 hx (hb hby d9_74) (by decide) (q := 91) (by decide) (by decide) ?_
  refine Go.newO X126 hx hZ hown (wd85 hw) (wd86 hw) (wd40 hw) e126 (hb hby d9_91) (by decide) (by decide) (q := 94) rfl ?_
  intro b127 T127 h127 X127 e127 q127 E127 A127 D127 U127
  have ne_s_b127 : s ≠ b127 := ne_new Es.lt (Nat.le_of_eq q127)
  have ne_v_b127 : v ≠ b127 := ne_new Va.lt (Nat.le_of_eq q127)
  have g_b127 : Z.heap.size ≤ b127 := Nat.le_trans OE113.1 (Nat.le_of_eq q127)
  have z_b127 : h0.size ≤ b127 := Nat.le_trans KP.1 (Nat.le_of_eq q127)
  replace Es := Es.ext E127
  replace Fc := Fc.ext E127
  replace Fv := Fv.ext E127
  replace Va := Va.ext E127
  have OE127 := ext_trans OE113 E127
  replace hKd := Nat.le_trans hKd E127.1
  replace KP := KP.ext E127
  have F127_text : Fld Z h127 b127 "com/example/cronopoly/cronopoly/ScheduleId" "text" "Ljava/lang/String;" .null := D127 (Or.inr (wd92 hw)) (ty := (.object "java/lang/String")) (by decide)
  clear D127
  refine Go.dup X127 hx (hb hby d9_94) rfl (q := 95) rfl ?_
  refine Go.aloadN X127 hx (hb hby d9_95) rfl rfl (q := 96) rfl ?_
  refine Go.init X127 hx hZ hown rfl (wd87 hw) (wd88 hw) (wd40 hw) (wd89 hw) (by decide) (csid l Z a0 hw b127 s h127 OE127 A127 F127_text g_b127) e127 (by rw [hml]; rfl) (hb hby d9_96) (argsL := [(.ref s)]) (rest := [(.ref b127)]) (lenOf pd13 rfl) rfl rfl (W := 1) (by first | exact Nat.le_refl _ | decide) (by decide) (by decide) (by decide) (by decide) ?_
  intro v128 T128 L128 X128 hQ128
  obtain ⟨h128, e128⟩ : ∃ z, T128.heap = z := ⟨_, rfl⟩
  rw [e128] at hQ128
  obtain ⟨rfl, N128q, K128, P128_0⟩ := hQ128
  have N128 := Fr.app N126 N128q
  replace hKd := Nat.le_trans hKd K128.1
  replace Es := Es.keep K128
  replace Fc := Fc.keep K128 (ninS ne_s_b127 nin0)
  replace Fv := Fv.keep K128 (ninS ne_s_b127 nin0)
  replace Va := Va.keep K128 (ninS ne_v_b127 nin0)
  replace A127 := A127.keep K128
  have OK128 := ext_keep OE127 K128 (allS g_b127 all0)
  replace KP := KP.trans K128 (allS (Or.inr z_b127) all0)
  exact Go.retAW X128 hx hS hKd hret hlk rfl rfl (hb hby d9_99) e128 (by decide) (by decide) ⟨b127, rfl, N128, KP, z_b127, A127, P128_0⟩
def Q_cof4 (Z : State) (s : Addr) (v : Addr) (kv : ClassId) (cs : Int32) (fm : Value) (c0 : Int32) (c1 : Int32) (c2 : Int32) (c3 : Int32) (h0 : Heap) (vR : Option Value) (hR : Heap) (LR : List Loc) : Prop := ∃ b : Addr, vR = some (.ref b) ∧ Fr Z.heap.size LR ∧ Keep h0 hR [] ∧ h0.size ≤ b ∧ Exa Z hR b "com/example/cronopoly/cronopoly/ScheduleId" ∧ Fld Z hR b "com/example/cronopoly/cronopoly/ScheduleId" "text" "Ljava/lang/String;" (.ref s)
set_option maxRecDepth 65536 in
set_option maxHeartbeats 40000000 in
theorem cof4 (l : Launch) (Z : State) (a0 : Array Value) (hw : ∀ d ∈ tables_1, d.before a0 Z = true) (s : Addr) (v : Addr) (kv : ClassId) (cs : Int32) (fm : Value) (c0 : Int32) (c1 : Int32) (c2 : Int32) (c3 : Int32) (h0 : Heap) (O0 : Ext Z.heap h0) (Es : Exa Z h0 s "java/lang/String") (Fc : Fld Z h0 s "java/lang/String" "coder" "B" (.int (0 : Int32))) (Fv : Fld Z h0 s "java/lang/String" "value" "[B" (.ref v)) (Va : Arv Z h0 v kv .byte (4 : Int32) [(.int c0), (.int c1), (.int c2), (.int c3)] (.int (0 : Int32))) (SCS : Sta Z Z.heap "java/lang/String" "COMPACT_STRINGS" "Z" (.int cs)) (SFM : Sta Z Z.heap "jdk/internal/util/Preconditions" "SIOOBE_FORMATTER" "Ljava/util/function/BiFunction;" fm) (hcs : ¬ (cs = (0 : Int32))) (hfm : fm.isRef = true) (hc0 : c0 ∈ ownL) (hc1 : c1 ∈ ownL) (hc2 : c2 ∈ ownL) (hc3 : c3 ∈ ownL) :
    CtrW l Z h0 (⟨"com/example/cronopoly/cronopoly/ScheduleId", "of", "(Ljava/lang/String;)Lcom/example/cronopoly/cronopoly/ScheduleId;"⟩ : MethodName) prog_16_method_2_code 3 (some (.object "com/example/cronopoly/cronopoly/ScheduleId")) [] ({ frames := 3, cells := 3, slots := 21, locals := 41 } : Room) #[(.ref s)] (Q_cof4 Z s v kv cs fm c0 c1 c2 c3 h0) := by
  refine enterW (plainFor_of_name pn5) ?_
  intro pp ee ss mm below meth cc s₁ hx hby hml hZ hown hnm hret hlk X0 e0 hs0 hS
  replace hown : (ss.setVm ss.vm).vm.findClass "com/example/cronopoly/cronopoly/ScheduleId" = some mm.cls := hown
  have hKd := Nat.zero_le h0.size
  refine Go.cast (congrArg s₁.setTop (ef_cof4 mm s)) ?_
  have N0 := Fr.nil Z.heap.size
  have KP := Keep.refl h0 []
  show Go pp ee below _ (s₁.setTop (mkF mm 0 #[.val (.ref s), .unset, .unset] []))
  have hk101 : (c0.toInt8.toInt32) = c0 := own_b _ hc0
  have hk102 : nar .char c0 = c0 := own_nar _ hc0
  have hk103 : (c0 &&& (255 : Int32)) = c0 := own_a _ hc0
  have hk104 : ¬ ((255 : Int32) < c0) := own_255 _ hc0
  have hk105 : (c1.toInt8.toInt32) = c1 := own_b _ hc1
  have hk106 : nar .char c1 = c1 := own_nar _ hc1
  have hk107 : (c1 &&& (255 : Int32)) = c1 := own_a _ hc1
  have hk108 : ¬ ((255 : Int32) < c1) := own_255 _ hc1
  have hk109 : (c2.toInt8.toInt32) = c2 := own_b _ hc2
  have hk110 : nar .char c2 = c2 := own_nar _ hc2
  have hk111 : (c2 &&& (255 : Int32)) = c2 := own_a _ hc2
  have hk112 : ¬ ((255 : Int32) < c2) := own_255 _ hc2
  have hk113 : (c3.toInt8.toInt32) = c3 := own_b _ hc3
  have hk114 : nar .char c3 = c3 := own_nar _ hc3
  have hk115 : (c3 &&& (255 : Int32)) = c3 := own_a _ hc3
  have hk116 : ¬ ((255 : Int32) < c3) := own_255 _ hc3
  refine Go.aloadN X0 hx (hb hby d9_0) rfl rfl (q := 1) rfl ?_
  refine Go.ldcS X0 hx hZ hown (wd42 hw) (own_wS hw) e0 hS hKd (hb hby d9_1) (nn := 16) (by decide) (by decide) (by decide) (by decide) (q := 3) rfl ?_
  intro b117 T117 h117 k117 X117 e117 E117 hS hKd hZ hown
  replace Es := Es.ext E117
  replace Fc := Fc.ext E117
  replace Fv := Fv.ext E117
  replace Va := Va.ext E117
  have OE117 := ext_trans O0 E117
  replace KP := KP.ext E117
  refine Go.callS X117 hx hZ hown (wd45 hw) (wd46 hw) (wd47 hw) (wd48 hw) (by decide) (creq l Z a0 hw s b117 h117 OE117) e117 (by rw [hml]; rfl) (hb hby d9_3) (argsL := [(.ref s), (.ref b117)]) (rest := []) (lenOf pd9 rfl) rfl rfl (W := 0) (by first | exact Nat.le_refl _ | decide) (by decide) (by decide) (by decide) (by decide) ?_
  intro v118 T118 L118 X118 hQ118
  obtain ⟨rfl, N118q, e118⟩ := hQ118
  have N118 := Fr.app N0 N118q
  refine Go.pop X118 hx (hb hby d9_6) rfl (q := 7) rfl ?_
  refine Go.aloadN X118 hx (hb hby d9_7) rfl rfl (q := 8) rfl ?_
  refine Go.virt X118 hx hZ hown (wd49 hw) (wd50 hw) (notFace_of_selects (args := #[]) (mvT hZ (wd52 hw))) (wd52 hw) (wd51 hw) (wd10 hw) (wd53 hw) (by decide) (cemp l Z a0 hw s v (kv) ((4 : Int32)) ([(.int c0), (.int c1), (.int c2), (.int c3)]) h117 OE117 Fv Va (by decide)) e118 Es (by rw [hml]; rfl) (hb hby d9_8) (argsL := []) (rest := []) (lenOf pd7 rfl) rfl rfl (W := 0) (by first | exact Nat.le_refl _ | decide) (by decide) (by decide) (by decide) (by decide) ?_
  intro v119 T119 L119 X119 hQ119
  obtain ⟨rfl, N119q, e119⟩ := hQ119
  have N119 := Fr.app N118 N119q
  refine Go.ifYes X119 hx (hb hby d9_11) (by decide) (q := 21) (by decide) (by decide) ?_
  refine Go.iconst X119 hx (hb hby d9_21) (r := (0 : Int32)) rfl (q := 22) rfl ?_
  refine Go.istoreN X119 hx (hb hby d9_22) (l' := #[.val (.ref s), .val (.int (0 : Int32)), .unset]) rfl (q := 23) rfl ?_
  refine Go.iloadN X119 hx (hb hby d9_23) rfl (q := 24) rfl ?_
  refine Go.aloadN X119 hx (hb hby d9_24) rfl rfl (q := 25) rfl ?_
  refine Go.virt X119 hx hZ hown (wd54 hw) (wd55 hw) (notFace_of_selects (args := #[]) (mvT hZ (wd57 hw))) (wd57 hw) (wd56 hw) (wd10 hw) (wd58 hw) (by decide) (clen l Z a0 hw s cs v (kv) ((4 : Int32)) ([(.int c0), (.int c1), (.int c2), (.int c3)]) h117 OE117 Es Fc Fv Va SCS hcs) e119 Es (by rw [hml]; rfl) (hb hby d9_25) (argsL := []) (rest := [(.int (0 : Int32))]) (lenOf pd10 rfl) rfl rfl (W := 1) (by first | exact Nat.le_refl _ | decide) (by decide) (by decide) (by decide) (by decide) ?_
  intro v120 T120 L120 X120 hQ120
  obtain ⟨rfl, N120q, e120⟩ := hQ120
  have N120 := Fr.app N119 N120q
  refine Go.icmpNo X120 hx (hb hby d9_28) (by decide) (q := 31) rfl ?_
  refine Go.aloadN X120 hx (hb hby d9_31) rfl rfl (q := 32) rfl ?_
  refine Go.iloadN X120 hx (hb hby d9_32) rfl (q := 33) rfl ?_
  refine Go.virt X120 hx hZ hown (wd64 hw) (wd65 hw) (notFace_of_selects (args := #[]) (mvT hZ (wd67 hw))) (wd67 hw) (wd66 hw) (wd10 hw) (wd68 hw) (by decide) (ccpa l Z a0 hw s ((0 : Int32)) cs v (kv) ((4 : Int32)) ([(.int c0), (.int c1), (.int c2), (.int c3)]) c0 fm h117 OE117 Es Fc Fv Va SCS SFM hcs hfm (by decide) (by decide) rfl hk103) e120 Es (by rw [hml]; rfl) (hb hby d9_33) (argsL := [(.int (0 : Int32))]) (rest := []) (lenOf pd11 rfl) rfl rfl (W := 0) (by first | exact Nat.le_refl _ | decide) (by decide) (by decide) (by decide) (by decide) ?_
  intro v121 T121 L121 X121 hQ121
  obtain ⟨rfl, N121q, e121⟩ := hQ121
  have N121 := Fr.app N120 N121q
  refine Go.istoreN X121 hx (hb hby d9_36) (l' := #[.val (.ref s), .val (.int (0 : Int32)), .val (.int c0)]) rfl (q := 37) rfl ?_
  refine Go.iloadN X121 hx (hb hby d9_37) rfl (q := 38) rfl ?_
  refine Go.callS X121 hx hZ hown (wd82 hw) (wd83 hw) (wd40 hw) (wd84 hw) (by decide) (cisi l Z a0 hw c0 h117 OE117 hc0) e121 (by rw [hml]; rfl) (hb hby d9_38) (argsL := [(.int c0)]) (rest := []) (lenOf pd12 rfl) rfl rfl (W := 0) (by first | exact Nat.le_refl _ | decide) (by decide) (by decide) (by decide) (by decide) ?_
  intro v122 T122 L122 X122 hQ122
  obtain ⟨rfl, N122q, e122⟩ := hQ122
  have N122 := Fr.app N121 N122q
  refine Go.ifYes X122 hx (hb hby d9_41) (by decide) (q := 61) (by decide) (by decide) ?_
  refine Go.iinc X122 hx (hb hby d9_61) rfl (r := (1 : Int32)) rfl (l' := #[.val (.ref s), .val (.int (1 : Int32)), .val (.int c0)]) rfl (q := 64) rfl ?_
  refine Go.goto X122 hx (hb hby d9_64) (q := 23) (by decide) (by decide) ?_
  refine Go.iloadN X122 hx (hb hby d9_23) rfl (q := 24) rfl ?_
  refine Go.aloadN X122 hx (hb hby d9_24) rfl rfl (q := 25) rfl ?_
  refine Go.virt X122 hx hZ hown (wd54 hw) (wd55 hw) (notFace_of_selects (args := #[]) (mvT hZ (wd57 hw))) (wd57 hw) (wd56 hw) (wd10 hw) (wd58 hw) (by decide) (clen l Z a0 hw s cs v (kv) ((4 : Int32)) ([(.int c0), (.int c1), (.int c2), (.int c3)]) h117 OE117 Es Fc Fv Va SCS hcs) e122 Es (by rw [hml]; rfl) (hb hby d9_25) (argsL := []) (rest := [(.int (1 : Int32))]) (lenOf pd10 rfl) rfl rfl (W := 1) (by first | exact Nat.le_refl _ | decide) (by decide) (by decide) (by decide) (by decide) ?_
  intro v123 T123 L123 X123 hQ123
  obtain ⟨rfl, N123q, e123⟩ := hQ123
  have N123 := Fr.app N122 N123q
  refine Go.icmpNo X123 hx (hb hby d9_28) (by decide) (q := 31) rfl ?_
  refine Go.aloadN X123 hx (hb hby d9_31) rfl rfl (q := 32) rfl ?_
  refine Go.iloadN X123 hx (hb hby d9_32) rfl (q := 33) rfl ?_
  refine Go.virt X123 hx hZ hown (wd64 hw) (wd65 hw) (notFace_of_selects (args := #[]) (mvT hZ (wd67 hw))) (wd67 hw) (wd66 hw) (wd10 hw) (wd68 hw) (by decide) (ccpa l Z a0 hw s ((1 : Int32)) cs v (kv) ((4 : Int32)) ([(.int c0), (.int c1), (.int c2), (.int c3)]) c1 fm h117 OE117 Es Fc Fv Va SCS SFM hcs hfm (by decide) (by decide) rfl hk107) e123 Es (by rw [hml]; rfl) (hb hby d9_33) (argsL := [(.int (1 : Int32))]) (rest := []) (lenOf pd11 rfl) rfl rfl (W := 0) (by first | exact Nat.le_refl _ | decide) (by decide) (by decide) (by decide) (by decide) ?_
  intro v124 T124 L124 X124 hQ124
  obtain ⟨rfl, N124q, e124⟩ := hQ124
  have N124 := Fr.app N123 N124q
  refine Go.istoreN X124 hx (hb hby d9_36) (l' := #[.val (.ref s), .val (.int (1 : Int32)), .val (.int c1)]) rfl (q := 37) rfl ?_
  refine Go.iloadN X124 hx (hb hby d9_37) rfl (q := 38) rfl ?_
  refine Go.callS X124 hx hZ hown (wd82 hw) (wd83 hw) (wd40 hw) (wd84 hw) (by decide) (cisi l Z a0 hw c1 h117 OE117 hc1) e124 (by rw [hml]; rfl) (hb hby d9_38) (argsL := [(.int c1)]) (rest := []) (lenOf pd12 rfl) rfl rfl (W := 0) (by first | exact Nat.le_refl _ | decide) (by decide) (by decide) (by decide) (by decide) ?_
  intro v125 T125 L125 X125 hQ125
  obtain ⟨rfl, N125q, e125⟩ := hQ125
  have N125 := Fr.app N124 N125q
  refine Go.ifYes X125 hx (hb hby d9_41) (by decide) (q := 61) (by decide) (by decide) ?_
  refine Go.iinc X125 hx (hb hby d9_61) rfl (r := (2 : Int32)) rfl (l' := #[.val (.ref s), .val (.int (2 : Int32)), .val (.int c1)]) rfl (q := 64) rfl ?_
  refine Go.goto X125 hx (hb hby d9_64) (q := 23) (by decide) (by decide) ?_
  refine Go.iloadN X125 hx (hb hby d9_23) rfl (q := 24) rfl ?_
  refine Go.aloadN X125 hx (hb hby d9_24) rfl rfl (q := 25) rfl ?_
  refine Go.virt X125 hx hZ hown (wd54 hw) (wd55 hw) (notFace_of_selects (args := #[]) (mvT hZ (wd57 hw))) (wd57 hw) (wd56 hw) (wd10 hw) (wd58 hw) (by decide) (clen l Z a0 hw s cs v (kv) ((4 : Int32)) ([(.int c0), (.int c1), (.int c2), (.int c3)]) h117 OE117 Es Fc Fv Va SCS hcs) e125 Es (by rw [hml]; rfl) (hb hby d9_25) (argsL := []) (rest := [(.int (2 : Int32))]) (lenOf pd10 rfl) rfl rfl (W := 1) (by first | exact Nat.le_refl _ | decide) (by decide) (by decide) (by decide) (by decide) ?_
  intro v126 T126 L126 X126 hQ126
  obtain ⟨rfl, N126q, e126⟩ := hQ126
  have N126 := Fr.app N125 N126q
  refine Go.icmpNo X126 hx (hb hby d9_28) (by decide) (q := 31) rfl ?_
  refine Go.aloadN X126 hx (hb hby d9_31) rfl rfl (q := 32) rfl ?_
  refine Go.iloadN X126 hx (hb hby d9_32) rfl (q := 33) rfl ?_
  refine Go.virt X126 hx hZ hown (wd64 hw) (wd65 hw) (notFace_of_selects (args := #[]) (mvT hZ (wd67 hw))) (wd67 hw) (wd66 hw) (wd10 hw) (wd68 hw) (by decide) (ccpa l Z a0 hw s ((2 : Int32)) cs v (kv) ((4 : Int32)) ([(.int c0), (.int c1), (.int c2), (.int c3)]) c2 fm h117 OE117 Es Fc Fv Va SCS SFM hcs hfm (by decide) (by decide) rfl hk111) e126 Es (by rw [hml]; rfl) (hb hby d9_33) (argsL := [(.int (2 : Int32))]) (rest := []) (lenOf pd11 rfl) rfl rfl (W := 0) (by first | exact Nat.le_refl _ | decide) (by decide) (by decide) (by decide) (by decide) ?_
  intro v127 T127 L127 X127 hQ127
  obtain ⟨rfl, N127q, e127⟩ := hQ127
  have N127 := Fr.app N126 N127q
  refine Go.istoreN X127 hx (hb hby d9_36) (l' := #[.val (.ref s), .val (.int (2 : Int32)), .val (.int c2)]) rfl (q := 37) rfl ?_
  refine Go.iloadN X127 hx (hb hby d9_37) rfl (q := 38) rfl ?_
  refine Go.callS X127 hx hZ hown (wd82 hw) (wd83 hw) (wd40 hw) (wd84 hw) (by decide) (cisi l Z a0 hw c2 h117 OE117 hc2) e127 (by rw [hml]; rfl) (hb hby d9_38) (argsL := [(.int c2)]) (rest := []) (lenOf pd12 rfl) rfl rfl (W := 0) (by first | exact Nat.le_refl _ | decide) (by decide) (by decide) (by decide) (by decide) ?_
  intro v128 T128 L128 X128 hQ128
  obtain ⟨rfl, N128q, e128⟩ := hQ128
  have N128 := Fr.app N127 N128q
  refine Go.ifYes X128 hx (hb hby d9_41) (by decide) (q := 61) (by decide) (by decide) ?_
  refine Go.iinc X128 hx (hb hby d9_61) rfl (r := (3 : Int32)) rfl (l' := #[.val (.ref s), .val (.int (3 : Int32)), .val (.int c2)]) rfl (q := 64) rfl ?_
  refine Go.goto X128 hx (hb hby d9_64) (q := 23) (by decide) (by decide) ?_
  refine Go.iloadN X128 hx (hb hby d9_23) rfl (q := 24) rfl ?_
  refine Go.aloadN X128 hx (hb hby d9_24) rfl rfl (q := 25) rfl ?_
  refine Go.virt X128 hx hZ hown (wd54 hw) (wd55 hw) (notFace_of_selects (args := #[]) (mvT hZ (wd57 hw))) (wd57 hw) (wd56 hw) (wd10 hw) (wd58 hw) (by decide) (clen l Z a0 hw s cs v (kv) ((4 : Int32)) ([(.int c0), (.int c1), (.int c2), (.int c3)]) h117 OE117 Es Fc Fv Va SCS hcs) e128 Es (by rw [hml]; rfl) (hb hby d9_25) (argsL := []) (rest := [(.int (3 : Int32))]) (lenOf pd10 rfl) rfl rfl (W := 1) (by first | exact Nat.le_refl _ | decide) (by decide) (by decide) (by decide) (by decide) ?_
  intro v129 T129 L129 X129 hQ129
  obtain ⟨rfl, N129q, e129⟩ := hQ129
  have N129 := Fr.app N128 N129q
  refine Go.icmpNo X129 hx (hb hby d9_28) (by decide) (q := 31) rfl ?_
  refine Go.aloadN X129 hx (hb hby d9_31) rfl rfl (q := 32) rfl ?_
  refine Go.iloadN X129 hx (hb hby d9_32) rfl (q := 33) rfl ?_
  refine Go.virt X129 hx hZ hown (wd64 hw) (wd65 hw) (notFace_of_selects (args := #[]) (mvT hZ (wd67 hw))) (wd67 hw) (wd66 hw) (wd10 hw) (wd68 hw) (by decide) (ccpa l Z a0 hw s ((3 : Int32)) cs v (kv) ((4 : Int32)) ([(.int c0), (.int c1), (.int c2), (.int c3)]) c3 fm h117 OE117 Es Fc Fv Va SCS SFM hcs hfm (by decide) (by decide) rfl hk115) e129 Es (by rw [hml]; rfl) (hb hby d9_33) (argsL := [(.int (3 : Int32))]) (rest := []) (lenOf pd11 rfl) rfl rfl (W := 0) (by first | exact Nat.le_refl _ | decide) (by decide) (by decide) (by decide) (by decide) ?_
  intro v130 T130 L130 X130 hQ130
  obtain ⟨rfl, N130q, e130⟩ := hQ130
  have N130 := Fr.app N129 N130q
  refine Go.istoreN X130 hx (hb hby d9_36) (l' := #[.val (.ref s), .val (.int (3 : Int32)), .val (.int c3)]) rfl (q := 37) rfl ?_
  refine Go.iloadN X130 hx (hb hby d9_37) rfl (q := 38) rfl ?_
  refine Go.callS X130 hx hZ hown (wd82 hw) (wd83 hw) (wd40 hw) (wd84 hw) (by decide) (cisi l Z a0 hw c3 h117 OE117 hc3) e130 (by rw [hml]; rfl) (hb hby d9_38) (argsL := [(.int c3)]) (rest := []) (lenOf pd12 rfl) rfl rfl (W := 0) (by first | exact Nat.le_refl _ | decide) (by decide) (by decide) (by decide) (by decide) ?_
  intro v131 T131 L131 X131 hQ131
  obtain ⟨rfl, N131q, e131⟩ := hQ131
  have N131 := Fr.app N130 N131q
  refine Go.ifYes X131 hx (hb hby d9_41) (by decide) (q := 61) (by decide) (by decide) ?_
  refine Go.iinc X131 hx (hb hby d9_61) rfl (r := (4 : Int32)) rfl (l' := #[.val (.ref s), .val (.int (4 : Int32)), .val (.int c3)]) rfl (q := 64) rfl ?_
  refine Go.goto X131 hx (hb hby d9_64) (q := 23) (by decide) (by decide) ?_
  refine Go.iloadN X131 hx (hb hby d9_23) rfl (q := 24) rfl ?_
  refine Go.aloadN X131 hx (hb hby d9_24) rfl rfl (q := 25) rfl ?_
  refine Go.virt X131 hx hZ hown (wd54 hw) (wd55 hw) (notFace_of_selects (args := #[]) (mvT hZ (wd57 hw))) (wd57 hw) (wd56 hw) (wd10 hw) (wd58 hw) (by decide) (clen l Z a0 hw s cs v (kv) ((4 : Int32)) ([(.int c0), (.int c1), (.int c2), (.int c3)]) h117 OE117 Es Fc Fv Va SCS hcs) e131 Es (by rw [hml]; rfl) (hb hby d9_25) (argsL := []) (rest := [(.int (4 : Int32))]) (lenOf pd10 rfl) rfl rfl (W := 1) (by first | exact Nat.le_refl _ | decide) (by decide) (by decide) (by decide) (by decide) ?_
  intro v132 T132 L132 X132 hQ132
  obtain ⟨rfl, N132q, e132⟩ := hQ132
  have N132 := Fr.app N131 N132q
  refine Go.icmpYes X132 hx (hb hby d9_28) (by decide) (q := 67) (by decide) (by decide) ?_
  refine Go.aloadN X132 hx (hb hby d9_67) rfl rfl (q := 68) rfl ?_
  refine Go.virt X132 hx hZ hown (wd54 hw) (wd55 hw) (notFace_of_selects (args := #[]) (mvT hZ (wd57 hw))) (wd57 hw) (wd56 hw) (wd10 hw) (wd58 hw) (by decide) (clen l Z a0 hw s cs v (kv) ((4 : Int32)) ([(.int c0), (.int c1), (.int c2), (.int c3)]) h117 OE117 Es Fc Fv Va SCS hcs) e132 Es (by rw [hml]; rfl) (hb hby d9_68) (argsL := []) (rest := []) (lenOf pd10 rfl) rfl rfl (W := 0) (by first | exact Nat.le_refl _ | decide) (by decide) (by decide) (by decide) (by decide) ?_
  intro v133 T133 L133 X133 hQ133
  obtain ⟨rfl, N133q, e133⟩ := hQ133
  have N133 := Fr.app N132 N133q
  refine Go.sipush X133 hx (hb hby d9_71) (r := (255 : Int32)) rfl (q := 74) rfl ?_
  refine Go.icmpYes X133 hx (hb hby d9_74) (by decide) (q := 91) (by decide) (by decide) ?_
  refine Go.newO X133 hx hZ hown (wd85 hw) (wd86 hw) (wd40 hw) e133 (hb hby d9_91) (by decide) (by decide) (q := 94) rfl ?_
  intro b134 T134 h134 X134 e134 q134 E134 A134 D134 U134
  have ne_s_b134 : s ≠ b134 := ne_new Es.lt (Nat.le_of_eq q134)
  have ne_v_b134 : v ≠ b134 := ne_new Va.lt (Nat.le_of_eq q134)
  have g_b134 : Z.heap.size ≤ b134 := Nat.le_trans OE117.1 (Nat.le_of_eq q134)
  have z_b134 : h0.size ≤ b134 := Nat.le_trans KP.1 (Nat.le_of_eq q134)
  replace Es := Es.ext E134
  replace Fc := Fc.ext E134
  replace Fv := Fv.ext E134
  replace Va := Va.ext E134
  have OE134 := ext_trans OE117 E134
  replace hKd := Nat.le_trans hKd E134.1
  replace KP := KP.ext E134
  have F134_text : Fld Z h134 b134 "com/example/cronopoly/cronopoly/ScheduleId" "text" "Ljava/lang/String;" .null := D134 (Or.inr (wd92 hw)) (ty := (.object "java/lang/String")) (by decide)
  clear D134
  refine Go.dup X134 hx (hb hby d9_94) rfl (q := 95) rfl ?_
  refine Go.aloadN X134 hx (hb hby d9_95) rfl rfl (q := 96) rfl ?_
  refine Go.init X134 hx hZ hown rfl (wd87 hw) (wd88 hw) (wd40 hw) (wd89 hw) (by decide) (csid l Z a0 hw b134 s h134 OE134 A134 F134_text g_b134) e134 (by rw [hml]; rfl) (hb hby d9_96) (argsL := [(.ref s)]) (rest := [(.ref b134)]) (lenOf pd13 rfl) rfl rfl (W := 1) (by first | exact Nat.le_refl _ | decide) (by decide) (by decide) (by decide) (by decide) ?_
  intro v135 T135 L135 X135 hQ135
  obtain ⟨h135, e135⟩ : ∃ z, T135.heap = z := ⟨_, rfl⟩
  rw [e135] at hQ135
  obtain ⟨rfl, N135q, K135, P135_0⟩ := hQ135
  have N135 := Fr.app N133 N135q
  replace hKd := Nat.le_trans hKd K135.1
  replace Es := Es.keep K135
  replace Fc := Fc.keep K135 (ninS ne_s_b134 nin0)
  replace Fv := Fv.keep K135 (ninS ne_s_b134 nin0)
  replace Va := Va.keep K135 (ninS ne_v_b134 nin0)
  replace A134 := A134.keep K135
  have OK135 := ext_keep OE134 K135 (allS g_b134 all0)
  replace KP := KP.trans K135 (allS (Or.inr z_b134) all0)
  exact Go.retAW X135 hx hS hKd hret hlk rfl rfl (hb hby d9_99) e135 (by decide) (by decide) ⟨b134, rfl, N135, KP, z_b134, A134, P135_0⟩
def Q_ctos (Z : State) (o : Addr) (s : Addr) (h0 : Heap) (vR : Option Value) (hR : Heap) (LR : List Loc) : Prop := vR = some (.ref s) ∧ Fr Z.heap.size LR ∧ hR = h0
set_option maxRecDepth 65536 in
set_option maxHeartbeats 40000000 in
theorem ctos (l : Launch) (Z : State) (a0 : Array Value) (hw : ∀ d ∈ tables_1, d.before a0 Z = true) (o : Addr) (s : Addr) (h0 : Heap) (O0 : Ext Z.heap h0) (F : Fld Z h0 o "com/example/cronopoly/cronopoly/ScheduleId" "text" "Ljava/lang/String;" (.ref s)) :
    Ctr l Z h0 (⟨"com/example/cronopoly/cronopoly/ScheduleId", "toString", "()Ljava/lang/String;"⟩ : MethodName) prog_16_method_6_code 1 (some (.object "java/lang/String")) [] ({ frames := 0, cells := 0, slots := 0, locals := 0 } : Room) #[(.ref o)] (Q_ctos Z o s h0) := by
  refine enter (plainFor_of_name pn5) ?_
  intro pp ee ss mm below meth cc s₁ hx hby hml hZ hown hnm hret hlk X0 e0 hs0
  replace hown : ss.vm.findClass "com/example/cronopoly/cronopoly/ScheduleId" = some mm.cls := hown
  refine Go.cast (congrArg s₁.setTop (ef_ctos mm o)) ?_
  have N0 := Fr.nil Z.heap.size
  show Go pp ee below _ (s₁.setTop (mkF mm 0 #[.val (.ref o)] []))
  refine Go.aloadN X0 hx (hb hby d20_0) rfl rfl (q := 1) rfl ?_
  refine Go.getF X0 hx hZ hown (host := "") (Or.inl (wd91 hw)) Via.refl e0 F (hb hby d20_1) (q := 4) rfl ?_
  intro T101 X101 e101
  exact Go.retA X101 hx hret hlk rfl rfl (hb hby d20_4) e101 (by decide) (by decide) ⟨rfl, N0, rfl⟩
def Q_ceqs (Z : State) (o : Addr) (h0 : Heap) (vR : Option Value) (hR : Heap) (LR : List Loc) : Prop := vR = some (.int (1 : Int32)) ∧ Fr Z.heap.size LR ∧ hR = h0
set_option maxRecDepth 65536 in
set_option maxHeartbeats 40000000 in
theorem ceqs (l : Launch) (Z : State) (a0 : Array Value) (hw : ∀ d ∈ tables_1, d.before a0 Z = true) (o : Addr) (h0 : Heap) (O0 : Ext Z.heap h0) :
    Ctr l Z h0 (⟨"java/lang/String", "equals", "(Ljava/lang/Object;)Z"⟩ : MethodName) jdk_42_method_66_code 3 (some .boolean) [] ({ frames := 0, cells := 0, slots := 0, locals := 0 } : Room) #[(.ref o), (.ref o)] (Q_ceqs Z o h0) := by
  refine enter (plainFor_of_name pn2) ?_
  intro pp ee ss mm below meth cc s₁ hx hby hml hZ hown hnm hret hlk X0 e0 hs0
  replace hown : ss.vm.findClass "java/lang/String" = some mm.cls := hown
  refine Go.cast (congrArg s₁.setTop (ef_ceqs mm o o)) ?_
  have N0 := Fr.nil Z.heap.size
  show Go pp ee below _ (s₁.setTop (mkF mm 0 #[.val (.ref o), .val (.ref o), .unset] []))
  refine Go.aloadN X0 hx (hb hby d21_0) rfl rfl (q := 1) rfl ?_
  refine Go.aloadN X0 hx (hb hby d21_1) rfl rfl (q := 2) rfl ?_
  refine Go.acmp X0 hx rfl rfl (hb hby d21_2) (same := true) (decide_eq_true rfl) (q := 5) (by decide) (by decide) ?_
  refine Go.iconst X0 hx (hb hby d21_5) (r := (1 : Int32)) rfl (q := 6) rfl ?_
  exact Go.retI X0 hx hret hlk (by simp) rfl (hb hby d21_6) e0 (by decide) (by decide) ⟨rfl, N0, rfl⟩
def Q_cqes (Z : State) (o : Addr) (q : Addr) (s : Addr) (h0 : Heap) (vR : Option Value) (hR : Heap) (LR : List Loc) : Prop := vR = some (.int (1 : Int32)) ∧ Fr Z.heap.size LR ∧ hR = h0
set_option maxRecDepth 65536 in
set_option maxHeartbeats 40000000 in
theorem cqes (l : Launch) (Z : State) (a0 : Array Value) (hw : ∀ d ∈ tables_1, d.before a0 Z = true) (o : Addr) (q : Addr) (s : Addr) (h0 : Heap) (O0 : Ext Z.heap h0) (Eq_ : Exa Z h0 q "com/example/cronopoly/cronopoly/ScheduleId") (Fo : Fld Z h0 o "com/example/cronopoly/cronopoly/ScheduleId" "text" "Ljava/lang/String;" (.ref s)) (Fq : Fld Z h0 q "com/example/cronopoly/cronopoly/ScheduleId" "text" "Ljava/lang/String;" (.ref s)) (Es : Exa Z h0 s "java/lang/String") :
    Ctr l Z h0 (⟨"com/example/cronopoly/cronopoly/ScheduleId", "equals", "(Ljava/lang/Object;)Z"⟩ : MethodName) prog_16_method_7_code 3 (some .boolean) [] ({ frames := 1, cells := 0, slots := 0, locals := 14 } : Room) #[(.ref o), (.ref q)] (Q_cqes Z o q s h0) := by
  refine enter (plainFor_of_name pn5) ?_
  intro pp ee ss mm below meth cc s₁ hx hby hml hZ hown hnm hret hlk X0 e0 hs0
  replace hown : ss.vm.findClass "com/example/cronopoly/cronopoly/ScheduleId" = some mm.cls := hown
  refine Go.cast (congrArg s₁.setTop (ef_cqes mm o q)) ?_
  have N0 := Fr.nil Z.heap.size
  show Go pp ee below _ (s₁.setTop (mkF mm 0 #[.val (.ref o), .val (.ref q), .unset] []))
  refine Go.aloadN X0 hx (hb hby d22_0) rfl rfl (q := 1) rfl ?_
  refine Go.instY X0 hx hZ hown (wd85 hw) e0 (Ins.self Eq_) (hb hby d22_1) (q := 4) rfl ?_
  intro T101 X101 e101
  refine Go.ifNo X101 hx (hb hby d22_4) (by decide) (q := 7) rfl ?_
  refine Go.aloadN X101 hx (hb hby d22_7) rfl rfl (q := 8) rfl ?_
  refine Go.castY X101 hx hZ hown (wd85 hw) e101 (Ins.self Eq_) (hb hby d22_8) (q := 11) rfl ?_
  intro T102 X102 e102
  refine Go.astoreN X102 hx (hb hby d22_11) rfl (l' := #[.val (.ref o), .val (.ref q), .val (.ref q)]) rfl (q := 12) rfl ?_
  refine Go.aloadN X102 hx (hb hby d22_12) rfl rfl (q := 13) rfl ?_
  refine Go.getF X102 hx hZ hown (host := "") (Or.inl (wd91 hw)) Via.refl e102 Fo (hb hby d22_13) (q := 16) rfl ?_
  intro T103 X103 e103
  refine Go.aloadN X103 hx (hb hby d22_16) rfl rfl (q := 17) rfl ?_
  refine Go.getF X103 hx hZ hown (host := "") (Or.inl (wd91 hw)) Via.refl e103 Fq (hb hby d22_17) (q := 20) rfl ?_
  intro T104 X104 e104
  refine Go.virt X104 hx hZ hown (wd110 hw) (wd99 hw) (notFace_of_selects (args := #[]) (mvT hZ (wd101 hw))) (wd101 hw) (wd100 hw) (wd10 hw) (wd102 hw) (by decide) (ceqs l Z a0 hw s h0 O0) e104 Es (by rw [hml]; rfl) (hb hby d22_20) (argsL := [(.ref s)]) (rest := []) (lenOf pd14 rfl) rfl rfl (W := 0) (by first | exact Nat.le_refl _ | decide) (by decide) (by decide) (by decide) (by decide) ?_
  intro v105 T105 L105 X105 hQ105
  obtain ⟨rfl, N105q, e105⟩ := hQ105
  have N105 := Fr.app N0 N105q
  refine Go.ifNo X105 hx (hb hby d22_23) (by decide) (q := 26) rfl ?_
  refine Go.iconst X105 hx (hb hby d22_26) (r := (1 : Int32)) rfl (q := 27) rfl ?_
  refine Go.goto X105 hx (hb hby d22_27) (q := 31) (by decide) (by decide) ?_
  exact Go.retI X105 hx hret hlk (by simp) rfl (hb hby d22_31) e105 (by decide) (by decide) ⟨rfl, N105, rfl⟩
def Q_cle1_1 (Z : State) (v1 : Addr) (v2 : Addr) (k1 : ClassId) (k2 : ClassId) (c0 : Int32) (y : Int32) (h0 : Heap) (vR : Option Value) (hR : Heap) (LR : List Loc) : Prop := vR = some (.int (1 : Int32)) ∧ Fr Z.heap.size LR ∧ hR = h0
set_option maxRecDepth 65536 in
set_option maxHeartbeats 40000000 in
theorem cle1_1 (l : Launch) (Z : State) (a0 : Array Value) (hw : ∀ d ∈ tables_1, d.before a0 Z = true) (v1 : Addr) (v2 : Addr) (k1 : ClassId) (k2 : ClassId) (c0 : Int32) (y : Int32) (h0 : Heap) (O0 : Ext Z.heap h0) (V1 : Arv Z h0 v1 k1 .byte (1 : Int32) [(.int c0)] (.int (0 : Int32))) (V2 : Arv Z h0 v2 k2 .byte (1 : Int32) [(.int y)] (.int (0 : Int32))) (he : c0 = y) :
    Ctr l Z h0 (⟨"java/lang/StringLatin1", "equals", "([B[B)Z"⟩ : MethodName) jdk_43_method_13_code 3 (some .boolean) [] ({ frames := 0, cells := 0, slots := 0, locals := 0 } : Room) #[(.ref v1), (.ref v2)] (Q_cle1_1 Z v1 v2 k1 k2 c0 y h0) := by
  refine enter (plainFor_of_name pn6) ?_
  intro pp ee ss mm below meth cc s₁ hx hby hml hZ hown hnm hret hlk X0 e0 hs0
  replace hown : ss.vm.findClass "java/lang/StringLatin1" = some mm.cls := hown
  refine Go.cast (congrArg s₁.setTop (ef_cle1_1 mm v1 v2)) ?_
  have N0 := Fr.nil Z.heap.size
  show Go pp ee below _ (s₁.setTop (mkF mm 0 #[.val (.ref v1), .val (.ref v2), .unset] []))
  refine Go.aloadN X0 hx (hb hby d23_0) rfl rfl (q := 1) rfl ?_
  refine Go.alen X0 hx hZ e0 V1 (hb hby d23_1) ?_
  refine Go.aloadN X0 hx (hb hby d23_2) rfl rfl (q := 3) rfl ?_
  refine Go.alen X0 hx hZ e0 V2 (hb hby d23_3) ?_
  refine Go.icmpNo X0 hx (hb hby d23_4) (by decide) (q := 7) rfl ?_
  refine Go.iconst X0 hx (hb hby d23_7) (r := (0 : Int32)) rfl (q := 8) rfl ?_
  refine Go.istoreN X0 hx (hb hby d23_8) (l' := #[.val (.ref v1), .val (.ref v2), .val (.int (0 : Int32))]) rfl (q := 9) rfl ?_
  refine Go.iloadN X0 hx (hb hby d23_9) rfl (q := 10) rfl ?_
  refine Go.aloadN X0 hx (hb hby d23_10) rfl rfl (q := 11) rfl ?_
  refine Go.alen X0 hx hZ e0 V1 (hb hby d23_11) ?_
  refine Go.icmpNo X0 hx (hb hby d23_12) (by decide) (q := 15) rfl ?_
  refine Go.aloadN X0 hx (hb hby d23_15) rfl rfl (q := 16) rfl ?_
  refine Go.iloadN X0 hx (hb hby d23_16) rfl (q := 17) rfl ?_
  refine Go.bal X0 hx hZ e0 V1 ⟨by decide, by decide⟩ (v := (.int c0)) rfl (hb hby d23_17) ?_
  refine Go.aloadN X0 hx (hb hby d23_18) rfl rfl (q := 19) rfl ?_
  refine Go.iloadN X0 hx (hb hby d23_19) rfl (q := 20) rfl ?_
  refine Go.bal X0 hx hZ e0 V2 ⟨by decide, by decide⟩ (v := (.int y)) rfl (hb hby d23_20) ?_
  refine Go.icmpYes X0 hx (hb hby d23_21) (Jvm.Free.XT.ii_eq_t he) (q := 26) (by decide) (by decide) ?_
  refine Go.iinc X0 hx (hb hby d23_26) rfl (r := (1 : Int32)) rfl (l' := #[.val (.ref v1), .val (.ref v2), .val (.int (1 : Int32))]) rfl (q := 29) rfl ?_
  refine Go.goto X0 hx (hb hby d23_29) (q := 9) (by decide) (by decide) ?_
  refine Go.iloadN X0 hx (hb hby d23_9) rfl (q := 10) rfl ?_
  refine Go.aloadN X0 hx (hb hby d23_10) rfl rfl (q := 11) rfl ?_
  refine Go.alen X0 hx hZ e0 V1 (hb hby d23_11) ?_
  refine Go.icmpYes X0 hx (hb hby d23_12) (by decide) (q := 32) (by decide) (by decide) ?_
  refine Go.iconst X0 hx (hb hby d23_32) (r := (1 : Int32)) rfl (q := 33) rfl ?_
  exact Go.retI X0 hx hret hlk (by simp) rfl (hb hby d23_33) e0 (by decide) (by decide) ⟨rfl, N0, rfl⟩
def Q_cse1_1 (Z : State) (s : Addr) (t : Addr) (cs : Int32) (v1 : Addr) (v2 : Addr) (k1 : ClassId) (k2 : ClassId) (c0 : Int32) (y : Int32) (h0 : Heap) (vR : Option Value) (hR : Heap) (LR : List Loc) : Prop := vR = some (.int (1 : Int32)) ∧ Fr Z.heap.size LR ∧ hR = h0
set_option maxRecDepth 65536 in
set_option maxHeartbeats 40000000 in
theorem cse1_1 (l : Launch) (Z : State) (a0 : Array Value) (hw : ∀ d ∈ tables_1, d.before a0 Z = true) (s : Addr) (t : Addr) (cs : Int32) (v1 : Addr) (v2 : Addr) (k1 : ClassId) (k2 : ClassId) (c0 : Int32) (y : Int32) (h0 : Heap) (O0 : Ext Z.heap h0) (Es : Exa Z h0 s "java/lang/String") (Et : Exa Z h0 t "java/lang/String") (Cs : Fld Z h0 s "java/lang/String" "coder" "B" (.int (0 : Int32))) (Ct : Fld Z h0 t "java/lang/String" "coder" "B" (.int (0 : Int32))) (Gs : Fld Z h0 s "java/lang/String" "value" "[B" (.ref v1)) (Gt : Fld Z h0 t "java/lang/String" "value" "[B" (.ref v2)) (V1 : Arv Z h0 v1 k1 .byte (1 : Int32) [(.int c0)] (.int (0 : Int32))) (V2 : Arv Z h0 v2 k2 .byte (1 : Int32) [(.int y)] (.int (0 : Int32))) (nn : s ≠ t) (SCS : Sta Z Z.heap "java/lang/String" "COMPACT_STRINGS" "Z" (.int cs)) (hcs : ¬ (cs = (0 : Int32))) (he : c0 = y) :
    Ctr l Z h0 (⟨"java/lang/String", "equals", "(Ljava/lang/Object;)Z"⟩ : MethodName) jdk_42_method_66_code 3 (some .boolean) [] ({ frames := 1, cells := 0, slots := 0, locals := 14 } : Room) #[(.ref s), (.ref t)] (Q_cse1_1 Z s t cs v1 v2 k1 k2 c0 y h0) := by
  refine enter (plainFor_of_name pn2) ?_
  intro pp ee ss mm below meth cc s₁ hx hby hml hZ hown hnm hret hlk X0 e0 hs0
  replace hown : ss.vm.findClass "java/lang/String" = some mm.cls := hown
  refine Go.cast (congrArg s₁.setTop (ef_cse1_1 mm s t)) ?_
  have N0 := Fr.nil Z.heap.size
  show Go pp ee below _ (s₁.setTop (mkF mm 0 #[.val (.ref s), .val (.ref t), .unset] []))
  refine Go.aloadN X0 hx (hb hby d21_0) rfl rfl (q := 1) rfl ?_
  refine Go.aloadN X0 hx (hb hby d21_1) rfl rfl (q := 2) rfl ?_
  refine Go.acmp X0 hx rfl rfl (hb hby d21_2) (same := false) (decide_eq_false fun q => nn (Value.ref.inj q)) (q := 7) (by decide) (by decide) ?_
  refine Go.aloadN X0 hx (hb hby d21_7) rfl rfl (q := 8) rfl ?_
  refine Go.instY X0 hx hZ hown (wd111 hw) e0 (Ins.self Et) (hb hby d21_8) (q := 11) rfl ?_
  intro T101 X101 e101
  refine Go.ifNo X101 hx (hb hby d21_11) (by decide) (q := 14) rfl ?_
  refine Go.aloadN X101 hx (hb hby d21_14) rfl rfl (q := 15) rfl ?_
  refine Go.castY X101 hx hZ hown (wd111 hw) e101 (Ins.self Et) (hb hby d21_15) (q := 18) rfl ?_
  intro T102 X102 e102
  refine Go.astoreN X102 hx (hb hby d21_18) rfl (l' := #[.val (.ref s), .val (.ref t), .val (.ref t)]) rfl (q := 19) rfl ?_
  refine Go.getS X102 hx hZ hown (host := "") (Or.inl (wd22 hw)) Via.refl e102 (SCS.ext O0) (hb hby d21_19) (q := 22) rfl ?_
  intro T103 X103 e103
  refine Go.ifNo X103 hx (hb hby d21_22) (Jvm.Free.XT.i0_eq_f hcs) (q := 25) rfl ?_
  refine Go.aloadN X103 hx (hb hby d21_25) rfl rfl (q := 26) rfl ?_
  refine Go.getF X103 hx hZ hown (host := "") (Or.inl (wd34 hw)) Via.refl e103 Cs (hb hby d21_26) (q := 29) rfl ?_
  intro T104 X104 e104
  refine Go.aloadN X104 hx (hb hby d21_29) rfl rfl (q := 30) rfl ?_
  refine Go.getF X104 hx hZ hown (host := "") (Or.inl (wd34 hw)) Via.refl e104 Ct (hb hby d21_30) (q := 33) rfl ?_
  intro T105 X105 e105
  refine Go.icmpNo X105 hx (hb hby d21_33) (by decide) (q := 36) rfl ?_
  refine Go.aloadN X105 hx (hb hby d21_36) rfl rfl (q := 37) rfl ?_
  refine Go.getF X105 hx hZ hown (host := "") (Or.inl (wd36 hw)) Via.refl e105 Gs (hb hby d21_37) (q := 40) rfl ?_
  intro T106 X106 e106
  refine Go.aloadN X106 hx (hb hby d21_40) rfl rfl (q := 41) rfl ?_
  refine Go.getF X106 hx hZ hown (host := "") (Or.inl (wd36 hw)) Via.refl e106 Gt (hb hby d21_41) (q := 44) rfl ?_
  intro T107 X107 e107
  refine Go.callS X107 hx hZ hown (wd112 hw) (wd113 hw) (wd114 hw) (wd115 hw) (by decide) (cle1_1 l Z a0 hw v1 v2 (k1) (k2) c0 y h0 O0 V1 V2 he) e107 (by rw [hml]; rfl) (hb hby d21_44) (argsL := [(.ref v1), (.ref v2)]) (rest := []) (lenOf pd15 rfl) rfl rfl (W := 0) (by first | exact Nat.le_refl _ | decide) (by decide) (by decide) (by decide) (by decide) ?_
  intro v108 T108 L108 X108 hQ108
  obtain ⟨rfl, N108q, e108⟩ := hQ108
  have N108 := Fr.app N0 N108q
  refine Go.ifNo X108 hx (hb hby d21_47) (by decide) (q := 50) rfl ?_
  refine Go.iconst X108 hx (hb hby d21_50) (r := (1 : Int32)) rfl (q := 51) rfl ?_
  refine Go.goto X108 hx (hb hby d21_51) (q := 55) (by decide) (by decide) ?_
  exact Go.retI X108 hx hret hlk (by simp) rfl (hb hby d21_55) e108 (by decide) (by decide) ⟨rfl, N108, rfl⟩
def Q_cqe1_1 (Z : State) (o : Addr) (q : Addr) (s : Addr) (t : Addr) (cs : Int32) (v1 : Addr) (v2 : Addr) (k1 : ClassId) (k2 : ClassId) (c0 : Int32) (y : Int32) (h0 : Heap) (vR : Option Value) (hR : Heap) (LR : List Loc) : Prop := vR = some (.int (1 : Int32)) ∧ Fr Z.heap.size LR ∧ hR = h0
set_option maxRecDepth 65536 in
set_option maxHeartbeats 40000000 in
theorem cqe1_1 (l : Launch) (Z : State) (a0 : Array Value) (hw : ∀ d ∈ tables_1, d.before a0 Z = true) (o : Addr) (q : Addr) (s : Addr) (t : Addr) (cs : Int32) (v1 : Addr) (v2 : Addr) (k1 : ClassId) (k2 : ClassId) (c0 : Int32) (y : Int32) (h0 : Heap) (O0 : Ext Z.heap h0) (Eq_ : Exa Z h0 q "com/example/cronopoly/cronopoly/ScheduleId") (Fo : Fld Z h0 o "com/example/cronopoly/cronopoly/ScheduleId" "text" "Ljava/lang/String;" (.ref s)) (Fq : Fld Z h0 q "com/example/cronopoly/cronopoly/ScheduleId" "text" "Ljava/lang/String;" (.ref t)) (Es : Exa Z h0 s "java/lang/String") (Et : Exa Z h0 t "java/lang/String") (Cs : Fld Z h0 s "java/lang/String" "coder" "B" (.int (0 : Int32))) (Ct : Fld Z h0 t "java/lang/String" "coder" "B" (.int (0 : Int32))) (Gs : Fld Z h0 s "java/lang/String" "value" "[B" (.ref v1)) (Gt : Fld Z h0 t "java/lang/String" "value" "[B" (.ref v2)) (V1 : Arv Z h0 v1 k1 .byte (1 : Int32) [(.int c0)] (.int (0 : Int32))) (V2 : Arv Z h0 v2 k2 .byte (1 : Int32) [(.int y)] (.int (0 : Int32))) (nn : s ≠ t) (SCS : Sta Z Z.heap "java/lang/String" "COMPACT_STRINGS" "Z" (.int cs)) (hcs : ¬ (cs = (0 : Int32))) (he : c0 = y) :
    Ctr l Z h0 (⟨"com/example/cronopoly/cronopoly/ScheduleId", "equals", "(Ljava/lang/Object;)Z"⟩ : MethodName) prog_16_method_7_code 3 (some .boolean) [] ({ frames := 2, cells := 0, slots := 0, locals := 28 } : Room) #[(.ref o), (.ref q)] (Q_cqe1_1 Z o q s t cs v1 v2 k1 k2 c0 y h0) := by
  refine enter (plainFor_of_name pn5) ?_
  intro pp ee ss mm below meth cc s₁ hx hby hml hZ hown hnm hret hlk X0 e0 hs0
  replace hown : ss.vm.findClass "com/example/cronopoly/cronopoly/ScheduleId" = some mm.cls := hown
  refine Go.cast (congrArg s₁.setTop (ef_cqe1_1 mm o q)) ?_
  have N0 := Fr.nil Z.heap.size
  show Go pp ee below _ (s₁.setTop (mkF mm 0 #[.val (.ref o), .val (.ref q), .unset] []))
  refine Go.aloadN X0 hx (hb hby d22_0) rfl rfl (q := 1) rfl ?_
  refine Go.instY X0 hx hZ hown (wd85 hw) e0 (Ins.self Eq_) (hb hby d22_1) (q := 4) rfl ?_
  intro T101 X101 e101
  refine Go.ifNo X101 hx (hb hby d22_4) (by decide) (q := 7) rfl ?_
  refine Go.aloadN X101 hx (hb hby d22_7) rfl rfl (q := 8) rfl ?_
  refine Go.castY X101 hx hZ hown (wd85 hw) e101 (Ins.self Eq_) (hb hby d22_8) (q := 11) rfl ?_
  intro T102 X102 e102
  refine Go.astoreN X102 hx (hb hby d22_11) rfl (l' := #[.val (.ref o), .val (.ref q), .val (.ref q)]) rfl (q := 12) rfl ?_
  refine Go.aloadN X102 hx (hb hby d22_12) rfl rfl (q := 13) rfl ?_
  refine Go.getF X102 hx hZ hown (host := "") (Or.inl (wd91 hw)) Via.refl e102 Fo (hb hby d22_13) (q := 16) rfl ?_
  intro T103 X103 e103
  refine Go.aloadN X103 hx (hb hby d22_16) rfl rfl (q := 17) rfl ?_
  refine Go.getF X103 hx hZ hown (host := "") (Or.inl (wd91 hw)) Via.refl e103 Fq (hb hby d22_17) (q := 20) rfl ?_
  intro T104 X104 e104
  refine Go.virt X104 hx hZ hown (wd110 hw) (wd99 hw) (notFace_of_selects (args := #[]) (mvT hZ (wd101 hw))) (wd101 hw) (wd100 hw) (wd10 hw) (wd102 hw) (by decide) (cse1_1 l Z a0 hw s t cs v1 v2 (k1) (k2) c0 y h0 O0 Es Et Cs Ct Gs Gt V1 V2 nn SCS hcs he) e104 Es (by rw [hml]; rfl) (hb hby d22_20) (argsL := [(.ref t)]) (rest := []) (lenOf pd14 rfl) rfl rfl (W := 0) (by first | exact Nat.le_refl _ | decide) (by decide) (by decide) (by decide) (by decide) ?_
  intro v105 T105 L105 X105 hQ105
  obtain ⟨rfl, N105q, e105⟩ := hQ105
  have N105 := Fr.app N0 N105q
  refine Go.ifNo X105 hx (hb hby d22_23) (by decide) (q := 26) rfl ?_
  refine Go.iconst X105 hx (hb hby d22_26) (r := (1 : Int32)) rfl (q := 27) rfl ?_
  refine Go.goto X105 hx (hb hby d22_27) (q := 31) (by decide) (by decide) ?_
  exact Go.retI X105 hx hret hlk (by simp) rfl (hb hby d22_31) e105 (by decide) (by decide) ⟨rfl, N105, rfl⟩
def Q_cle1_0 (Z : State) (v1 : Addr) (v2 : Addr) (k1 : ClassId) (k2 : ClassId) (c0 : Int32) (y : Int32) (h0 : Heap) (vR : Option Value) (hR : Heap) (LR : List Loc) : Prop := vR = some (.int (0 : Int32)) ∧ Fr Z.heap.size LR ∧ hR = h0
set_option maxRecDepth 65536 in
set_option maxHeartbeats 40000000 in
theorem cle1_0 (l : Launch) (Z : State) (a0 : Array Value) (hw : ∀ d ∈ tables_1, d.before a0 Z = true) (v1 : Addr) (v2 : Addr) (k1 : ClassId) (k2 : ClassId) (c0 : Int32) (y : Int32) (h0 : Heap) (O0 : Ext Z.heap h0) (V1 : Arv Z h0 v1 k1 .byte (1 : Int32) [(.int c0)] (.int (0 : Int32))) (V2 : Arv Z h0 v2 k2 .byte (1 : Int32) [(.int y)] (.int (0 : Int32))) (he : ¬ (c0 = y)) :
    Ctr l Z h0 (⟨"java/lang/StringLatin1", "equals", "([B[B)Z"⟩ : MethodName) jdk_43_method_13_code 3 (some .boolean) [] ({ frames := 0, cells := 0, slots := 0, locals := 0 } : Room) #[(.ref v1), (.ref v2)] (Q_cle1_0 Z v1 v2 k1 k2 c0 y h0) := by
  refine enter (plainFor_of_name pn6) ?_
  intro pp ee ss mm below meth cc s₁ hx hby hml hZ hown hnm hret hlk X0 e0 hs0
  replace hown : ss.vm.findClass "java/lang/StringLatin1" = some mm.cls := hown
  refine Go.cast (congrArg s₁.setTop (ef_cle1_0 mm v1 v2)) ?_
  have N0 := Fr.nil Z.heap.size
  show Go pp ee below _ (s₁.setTop (mkF mm 0 #[.val (.ref v1), .val (.ref v2), .unset] []))
  refine Go.aloadN X0 hx (hb hby d23_0) rfl rfl (q := 1) rfl ?_
  refine Go.alen X0 hx hZ e0 V1 (hb hby d23_1) ?_
  refine Go.aloadN X0 hx (hb hby d23_2) rfl rfl (q := 3) rfl ?_
  refine Go.alen X0 hx hZ e0 V2 (hb hby d23_3) ?_
  refine Go.icmpNo X0 hx (hb hby d23_4) (by decide) (q := 7) rfl ?_
  refine Go.iconst X0 hx (hb hby d23_7) (r := (0 : Int32)) rfl (q := 8) rfl ?_
  refine Go.istoreN X0 hx (hb hby d23_8) (l' := #[.val (.ref v1), .val (.ref v2), .val (.int (0 : Int32))]) rfl (q := 9) rfl ?_
  refine Go.iloadN X0 hx (hb hby d23_9) rfl (q := 10) rfl ?_
  refine Go.aloadN X0 hx (hb hby d23_10) rfl rfl (q := 11) rfl ?_
  refine Go.alen X0 hx hZ e0 V1 (hb hby d23_11) ?_
  refine Go.icmpNo X0 hx (hb hby d23_12) (by decide) (q := 15) rfl ?_
  refine Go.aloadN X0 hx (hb hby d23_15) rfl rfl (q := 16) rfl ?_
  refine Go.iloadN X0 hx (hb hby d23_16) rfl (q := 17) rfl ?_
  refine Go.bal X0 hx hZ e0 V1 ⟨by decide, by decide⟩ (v := (.int c0)) rfl (hb hby d23_17) ?_
  refine Go.aloadN X0 hx (hb hby d23_18) rfl rfl (q := 19) rfl ?_
  refine Go.iloadN X0 hx (hb hby d23_19) rfl (q := 20) rfl ?_
  refine Go.bal X0 hx hZ e0 V2 ⟨by decide, by decide⟩ (v := (.int y)) rfl (hb hby d23_20) ?_
  refine Go.icmpNo X0 hx (hb hby d23_21) (Jvm.Free.XT.ii_eq_f he) (q := 24) rfl ?_
  refine Go.iconst X0 hx (hb hby d23_24) (r := (0 : Int32)) rfl (q := 25) rfl ?_
  exact Go.retI X0 hx hret hlk (by simp) rfl (hb hby d23_25) e0 (by decide) (by decide) ⟨rfl, N0, rfl⟩
def Q_cse1_0 (Z : State) (s : Addr) (t : Addr) (cs : Int32) (v1 : Addr) (v2 : Addr) (k1 : ClassId) (k2 : ClassId) (c0 : Int32) (y : Int32) (h0 : Heap) (vR : Option Value) (hR : Heap) (LR : List Loc) : Prop := vR = some (.int (0 : Int32)) ∧ Fr Z.heap.size LR ∧ hR = h0
set_option maxRecDepth 65536 in
set_option maxHeartbeats 40000000 in
theorem cse1_0 (l : Launch) (Z : State) (a0 : Array Value) (hw : ∀ d ∈ tables_1, d.before a0 Z = true) (s : Addr) (t : Addr) (cs : Int32) (v1 : Addr) (v2 : Addr) (k1 : ClassId) (k2 : ClassId) (c0 : Int32) (y : Int32) (h0 : Heap) (O0 : Ext Z.heap h0) (Es : Exa Z h0 s "java/lang/String") (Et : Exa Z h0 t "java/lang/String") (Cs : Fld Z h0 s "java/lang/String" "coder" "B" (.int (0 : Int32))) (Ct : Fld Z h0 t "java/lang/String" "coder" "B" (.int (0 : Int32))) (Gs : Fld Z h0 s "java/lang/String" "value" "[B" (.ref v1)) (Gt : Fld Z h0 t "java/lang/String" "value" "[B" (.ref v2)) (V1 : Arv Z h0 v1 k1 .byte (1 : Int32) [(.int c0)] (.int (0 : Int32))) (V2 : Arv Z h0 v2 k2 .byte (1 : Int32) [(.int y)] (.int (0 : Int32))) (nn : s ≠ t) (SCS : Sta Z Z.heap "java/lang/String" "COMPACT_STRINGS" "Z" (.int cs)) (hcs : ¬ (cs = (0 : Int32))) (he : ¬ (c0 = y)) :
    Ctr l Z h0 (⟨"java/lang/String", "equals", "(Ljava/lang/Object;)Z"⟩ : MethodName) jdk_42_method_66_code 3 (some .boolean) [] ({ frames := 1, cells := 0, slots := 0, locals := 14 } : Room) #[(.ref s), (.ref t)] (Q_cse1_0 Z s t cs v1 v2 k1 k2 c0 y h0) := by
  refine enter (plainFor_of_name pn2) ?_
  intro pp ee ss mm below meth cc s₁ hx hby hml hZ hown hnm hret hlk X0 e0 hs0
  replace hown : ss.vm.findClass "java/lang/String" = some mm.cls := hown
  refine Go.cast (congrArg s₁.setTop (ef_cse1_0 mm s t)) ?_
  have N0 := Fr.nil Z.heap.size
  show Go pp ee below _ (s₁.setTop (mkF mm 0 #[.val (.ref s), .val (.ref t), .unset] []))
  refine Go.aloadN X0 hx (hb hby d21_0) rfl rfl (q := 1) rfl ?_
  refine Go.aloadN X0 hx (hb hby d21_1) rfl rfl (q := 2) rfl ?_
  refine Go.acmp X0 hx rfl rfl (hb hby d21_2) (same := false) (decide_eq_false fun q => nn (Value.ref.inj q)) (q := 7) (by decide) (by decide) ?_
  refine Go.aloadN X0 hx (hb hby d21_7) rfl rfl (q := 8) rfl ?_
  refine Go.instY X0 hx hZ hown (wd111 hw) e0 (Ins.self Et) (hb hby d21_8) (q := 11) rfl ?_
  intro T101 X101 e101
  refine Go.ifNo X101 hx (hb hby d21_11) (by decide) (q := 14) rfl ?_
  refine Go.aloadN X101 hx (hb hby d21_14) rfl rfl (q := 15) rfl ?_
  refine Go.castY X101 hx hZ hown (wd111 hw) e101 (Ins.self Et) (hb hby d21_15) (q := 18) rfl ?_
  intro T102 X102 e102
  refine Go.astoreN X102 hx (hb hby d21_18) rfl (l' := #[.val (.ref s), .val (.ref t), .val (.ref t)]) rfl (q := 19) rfl ?_
  refine Go.getS X102 hx hZ hown (host := "") (Or.inl (wd22 hw)) Via.refl e102 (SCS.ext O0) (hb hby d21_19) (q := 22) rfl ?_
  intro T103 X103 e103
  refine Go.ifNo X103 hx (hb hby d21_22) (Jvm.Free.XT.i0_eq_f hcs) (q := 25) rfl ?_
  refine Go.aloadN X103 hx (hb hby d21_25) rfl rfl (q := 26) rfl ?_
  refine Go.getF X103 hx hZ hown (host := "") (Or.inl (wd34 hw)) Via.refl e103 Cs (hb hby d21_26) (q := 29) rfl ?_
  intro T104 X104 e104
  refine Go.aloadN X104 hx (hb hby d21_29) rfl rfl (q := 30) rfl ?_
  refine Go.getF X104 hx hZ hown (host := "") (Or.inl (wd34 hw)) Via.refl e104 Ct (hb hby d21_30) (q := 33) rfl ?_
  intro T105 X105 e105
  refine Go.icmpNo X105 hx (hb hby d21_33) (by decide) (q := 36) rfl ?_
  refine Go.aloadN X105 hx (hb hby d21_36) rfl rfl (q := 37) rfl ?_
  refine Go.getF X105 hx hZ hown (host := "") (Or.inl (wd36 hw)) Via.refl e105 Gs (hb hby d21_37) (q := 40) rfl ?_
  intro T106 X106 e106
  refine Go.aloadN X106 hx (hb hby d21_40) rfl rfl (q := 41) rfl ?_
  refine Go.getF X106 hx hZ hown (host := "") (Or.inl (wd36 hw)) Via.refl e106 Gt (hb hby d21_41) (q := 44) rfl ?_
  intro T107 X107 e107
  refine Go.callS X107 hx hZ hown (wd112 hw) (wd113 hw) (wd114 hw) (wd115 hw) (by decide) (cle1_0 l Z a0 hw v1 v2 (k1) (k2) c0 y h0 O0 V1 V2 he) e107 (by rw [hml]; rfl) (hb hby d21_44) (argsL := [(.ref v1), (.ref v2)]) (rest := []) (lenOf pd15 rfl) rfl rfl (W := 0) (by first | exact Nat.le_refl _ | decide) (by decide) (by decide) (by decide) (by decide) ?_
  intro v108 T108 L108 X108 hQ108
  obtain ⟨rfl, N108q, e108⟩ := hQ108
  have N108 := Fr.app N0 N108q
  refine Go.ifYes X108 hx (hb hby d21_47) (by decide) (q := 54) (by decide) (by decide) ?_
  refine Go.iconst X108 hx (hb hby d21_54) (r := (0 : Int32)) rfl (q := 55) rfl ?_
  exact Go.retI X108 hx hret hlk (by simp) rfl (hb hby d21_55) e108 (by decide) (by decide) ⟨rfl, N108, rfl⟩
def Q_cqe1_0 (Z : State) (o : Addr) (q : Addr) (s : Addr) (t : Addr) (cs : Int32) (v1 : Addr) (v2 : Addr) (k1 : ClassId) (k2 : ClassId) (c0 : Int32) (y : Int32) (h0 : Heap) (vR : Option Value) (hR : Heap) (LR : List Loc) : Prop := vR = some (.int (0 : Int32)) ∧ Fr Z.heap.size LR ∧ hR = h0
set_option maxRecDepth 65536 in
set_option maxHeartbeats 40000000 in
theorem cqe1_0 (l : Launch) (Z : State) (a0 : Array Value) (hw : ∀ d ∈ tables_1, d.before a0 Z = true) (o : Addr) (q : Addr) (s : Addr) (t : Addr) (cs : Int32) (v1 : Addr) (v2 : Addr) (k1 : ClassId) (k2 : ClassId) (c0 : Int32) (y : Int32) (h0 : Heap) (O0 : Ext Z.heap h0) (Eq_ : Exa Z h0 q "com/example/cronopoly/cronopoly/ScheduleId") (Fo : Fld Z h0 o "com/example/cronopoly/cronopoly/ScheduleId" "text" "Ljava/lang/String;" (.ref s)) (Fq : Fld Z h0 q "com/example/cronopoly/cronopoly/ScheduleId" "text" "Ljava/lang/String;" (.ref t)) (Es : Exa Z h0 s "java/lang/String") (Et : Exa Z h0 t "java/lang/String") (Cs : Fld Z h0 s "java/lang/String" "coder" "B" (.int (0 : Int32))) (Ct : Fld Z h0 t "java/lang/String" "coder" "B" (.int (0 : Int32))) (Gs : Fld Z h0 s "java/lang/String" "value" "[B" (.ref v1)) (Gt : Fld Z h0 t "java/lang/String" "value" "[B" (.ref v2)) (V1 : Arv Z h0 v1 k1 .byte (1 : Int32) [(.int c0)] (.int (0 : Int32))) (V2 : Arv Z h0 v2 k2 .byte (1 : Int32) [(.int y)] (.int (0 : Int32))) (nn : s ≠ t) (SCS : Sta Z Z.heap "java/lang/String" "COMPACT_STRINGS" "Z" (.int cs)) (hcs : ¬ (cs = (0 : Int32))) (he : ¬ (c0 = y)) :
    Ctr l Z h0 (⟨"com/example/cronopoly/cronopoly/ScheduleId", "equals", "(Ljava/lang/Object;)Z"⟩ : MethodName) prog_16_method_7_code 3 (some .boolean) [] ({ frames := 2, cells := 0, slots := 0, locals := 28 } : Room) #[(.ref o), (.ref q)] (Q_cqe1_0 Z o q s t cs v1 v2 k1 k2 c0 y h0) := by
  refine enter (plainFor_of_name pn5) ?_
  intro pp ee ss mm below meth cc s₁ hx hby hml hZ hown hnm hret hlk X0 e0 hs0
  replace hown : ss.vm.findClass "com/example/cronopoly/cronopoly/ScheduleId" = some mm.cls := hown
  refine Go.cast (congrArg s₁.setTop (ef_cqe1_0 mm o q)) ?_
  have N0 := Fr.nil Z.heap.size
  show Go pp ee below _ (s₁.setTop (mkF mm 0 #[.val (.ref o), .val (.ref q), .unset] []))
  refine Go.aloadN X0 hx (hb hby d22_0) rfl rfl (q := 1) rfl ?_
  refine Go.instY X0 hx hZ hown (wd85 hw) e0 (Ins.self Eq_) (hb hby d22_1) (q := 4) rfl ?_
  intro T101 X101 e101
  refine Go.ifNo X101 hx (hb hby d22_4) (by decide) (q := 7) rfl ?_
  refine Go.aloadN X101 hx (hb hby d22_7) rfl rfl (q := 8) rfl ?_
  refine Go.castY X101 hx hZ hown (wd85 hw) e101 (Ins.self Eq_) (hb hby d22_8) (q := 11) rfl ?_
  intro T102 X102 e102
  refine Go.astoreN X102 hx (hb hby d22_11) rfl (l' := #[.val (.ref o), .val (.ref q), .val (.ref q)]) rfl (q := 12) rfl ?_
  refine Go.aloadN X102 hx (hb hby d22_12) rfl rfl (q := 13) rfl ?_
  refine Go.getF X102 hx hZ hown (host := "") (Or.inl (wd91 hw)) Via.refl e102 Fo (hb hby d22_13) (q := 16) rfl ?_
  intro T103 X103 e103
  refine Go.aloadN X103 hx (hb hby d22_16) rfl rfl (q := 17) rfl ?_
  refine Go.getF X103 hx hZ hown (host := "") (Or.inl (wd91 hw)) Via.refl e103 Fq (hb hby d22_17) (q := 20) rfl ?_
  intro T104 X104 e104
  refine Go.virt X104 hx hZ hown (wd110 hw) (wd99 hw) (notFace_of_selects (args := #[]) (mvT hZ (wd101 hw))) (wd101 hw) (wd100 hw) (wd10 hw) (wd102 hw) (by decide) (cse1_0 l Z a0 hw s t cs v1 v2 (k1) (k2) c0 y h0 O0 Es Et Cs Ct Gs Gt V1 V2 nn SCS hcs he) e104 Es (by rw [hml]; rfl) (hb hby d22_20) (argsL := [(.ref t)]) (rest := []) (lenOf pd14 rfl) rfl rfl (W := 0) (by first | exact Nat.le_refl _ | decide) (by decide) (by decide) (by decide) (by decide) ?_
  intro v105 T105 L105 X105 hQ105
  obtain ⟨rfl, N105q, e105⟩ := hQ105
  have N105 := Fr.app N0 N105q
  refine Go.ifYes X105 hx (hb hby d22_23) (by decide) (q := 30) (by decide) (by decide) ?_
  refine Go.iconst X105 hx (hb hby d22_30) (r := (0 : Int32)) rfl (q := 31) rfl ?_
  exact Go.retI X105 hx hret hlk (by simp) rfl (hb hby d22_31) e105 (by decide) (by decide) ⟨rfl, N105, rfl⟩
def Q_cle2_1 (Z : State) (v1 : Addr) (v2 : Addr) (k1 : ClassId) (k2 : ClassId) (c0 : Int32) (c1 : Int32) (y : Int32) (h0 : Heap) (vR : Option Value) (hR : Heap) (LR : List Loc) : Prop := vR = some (.int (1 : Int32)) ∧ Fr Z.heap.size LR ∧ hR = h0
set_option maxRecDepth 65536 in
set_option maxHeartbeats 40000000 in
theorem cle2_1 (l : Launch) (Z : State) (a0 : Array Value) (hw : ∀ d ∈ tables_1, d.before a0 Z = true) (v1 : Addr) (v2 : Addr) (k1 : ClassId) (k2 : ClassId) (c0 : Int32) (c1 : Int32) (y : Int32) (h0 : Heap) (O0 : Ext Z.heap h0) (V1 : Arv Z h0 v1 k1 .byte (2 : Int32) [(.int c0), (.int c1)] (.int (0 : Int32))) (V2 : Arv Z h0 v2 k2 .byte (2 : Int32) [(.int c0), (.int y)] (.int (0 : Int32))) (he : c1 = y) :
    Ctr l Z h0 (⟨"java/lang/StringLatin1", "equals", "([B[B)Z"⟩ : MethodName) jdk_43_method_13_code 3 (some .boolean) [] ({ frames := 0, cells := 0, slots := 0, locals := 0 } : Room) #[(.ref v1), (.ref v2)] (Q_cle2_1 Z v1 v2 k1 k2 c0 c1 y h0) := by
  refine enter (plainFor_of_name pn6) ?_
  intro pp ee ss mm below meth cc s₁ hx hby hml hZ hown hnm hret hlk X0 e0 hs0
  replace hown : ss.vm.findClass "java/lang/StringLatin1" = some mm.cls := hown
  refine Go.cast (congrArg s₁.setTop (ef_cle2_1 mm v1 v2)) ?_
  have N0 := Fr.nil Z.heap.size
  show Go pp ee below _ (s₁.setTop (mkF mm 0 #[.val (.ref v1), .val (.ref v2), .unset] []))
  refine Go.aloadN X0 hx (hb hby d23_0) rfl rfl (q := 1) rfl ?_
  refine Go.alen X0 hx hZ e0 V1 (hb hby d23_1) ?_
  refine Go.aloadN X0 hx (hb hby d23_2) rfl rfl (q := 3) rfl ?_
  refine Go.alen X0 hx hZ e0 V2 (hb hby d23_3) ?_
  refine Go.icmpNo X0 hx (hb hby d23_4) (by decide) (q := 7) rfl ?_
  refine Go.iconst X0 hx (hb hby d23_7) (r := (0 : Int32)) rfl (q := 8) rfl ?_
  refine Go.istoreN X0 hx (hb hby d23_8) (l' := #[.val (.ref v1), .val (.ref v2), .val (.int (0 : Int32))]) rfl (q := 9) rfl ?_
  refine Go.iloadN X0 hx (hb hby d23_9) rfl (q := 10) rfl ?_
  refine Go.aloadN X0 hx (hb hby d23_10) rfl rfl (q := 11) rfl ?_
  refine Go.alen X0 hx hZ e0 V1 (hb hby d23_11) ?_
  refine Go.icmpNo X0 hx (hb hby d23_12) (by decide) (q := 15) rfl ?_
  refine Go.aloadN X0 hx (hb hby d23_15) rfl rfl (q := 16) rfl ?_
  refine Go.iloadN X0 hx (hb hby d23_16) rfl (q := 17) rfl ?_
  refine Go.bal X0 hx hZ e0 V1 ⟨by decide, by decide⟩ (v := (.int c0)) rfl (hb hby d23_17) ?_
  refine Go.aloadN X0 hx (hb hby d23_18) rfl rfl (q := 19) rfl ?_
  refine Go.iloadN X0 hx (hb hby d23_19) rfl (q := 20) rfl ?_
  refine Go.bal X0 hx hZ e0 V2 ⟨by decide, by decide⟩ (v := (.int c0)) rfl (hb hby d23_20) ?_
  refine Go.icmpYes X0 hx (hb hby d23_21) (Jvm.Free.XT.ii_eq_t rfl) (q := 26) (by decide) (by decide) ?_
  refine Go.iinc X0 hx (hb hby d23_26) rfl (r := (1 : Int32)) rfl (l' := #[.val (.ref v1), .val (.ref v2), .val (.int (1 : Int32))]) rfl (q := 29) rfl ?_
  refine Go.goto X0 hx (hb hby d23_29) (q := 9) (by decide) (by decide) ?_
  refine Go.iloadN X0 hx (hb hby d23_9) rfl (q := 10) rfl ?_
  refine Go.aloadN X0 hx (hb hby d23_10) rfl rfl (q := 11) rfl ?_
  refine Go.alen X0 hx hZ e0 V1 (hb hby d23_11) ?_
  refine Go.icmpNo X0 hx (hb hby d23_12) (by decide) (q := 15) rfl ?_
  refine Go.aloadN X0 hx (hb hby d23_15) rfl rfl (q := 16) rfl ?_
  refine Go.iloadN X0 hx (hb hby d23_16) rfl (q := 17) rfl ?_
  refine Go.bal X0 hx hZ e0 V1 ⟨by decide, by decide⟩ (v := (.int c1)) rfl (hb hby d23_17) ?_
  refine Go.aloadN X0 hx (hb hby d23_18) rfl rfl (q := 19) rfl ?_
  refine Go.iloadN X0 hx (hb hby d23_19) rfl (q := 20) rfl ?_
  refine Go.bal X0 hx hZ e0 V2 ⟨by decide, by decide⟩ (v := (.int y)) rfl (hb hby d23_20) ?_
  refine Go.icmpYes X0 hx (hb hby d23_21) (Jvm.Free.XT.ii_eq_t he) (q := 26) (by decide) (by decide) ?_
  refine Go.iinc X0 hx (hb hby d23_26) rfl (r := (2 : Int32)) rfl (l' := #[.val (.ref v1), .val (.ref v2), .val (.int (2 : Int32))]) rfl (q := 29) rfl ?_
  refine Go.goto X0 hx (hb hby d23_29) (q := 9) (by decide) (by decide) ?_
  refine Go.iloadN X0 hx (hb hby d23_9) rfl (q := 10) rfl ?_
  refine Go.aloadN X0 hx (hb hby d23_10) rfl rfl (q := 11) rfl ?_
  refine Go.alen X0 hx hZ e0 V1 (hb hby d23_11) ?_
  refine Go.icmpYes X0 hx (hb hby d23_12) (by decide) (q := 32) (by decide) (by decide) ?_
  refine Go.iconst X0 hx (hb hby d23_32) (r := (1 : Int32)) rfl (q := 33) rfl ?_
  exact Go.retI X0 hx hret hlk (by simp) rfl (hb hby d23_33) e0 (by decide) (by decide) ⟨rfl, N0, rfl⟩
def Q_cse2_1 (Z : State) (s : Addr) (t : Addr) (cs : Int32) (v1 : Addr) (v2 : Addr) (k1 : ClassId) (k2 : ClassId) (c0 : Int32) (c1 : Int32) (y : Int32) (h0 : Heap) (vR : Option Value) (hR : Heap) (LR : List Loc) : Prop := vR = some (.int (1 : Int32)) ∧ Fr Z.heap.size LR ∧ hR = h0
set_option maxRecDepth 65536 in
set_option maxHeartbeats 40000000 in
theorem cse2_1 (l : Launch) (Z : State) (a0 : Array Value) (hw : ∀ d ∈ tables_1, d.before a0 Z = true) (s : Addr) (t : Addr) (cs : Int32) (v1 : Addr) (v2 : Addr) (k1 : ClassId) (k2 : ClassId) (c0 : Int32) (c1 : Int32) (y : Int32) (h0 : Heap) (O0 : Ext Z.heap h0) (Es : Exa Z h0 s "java/lang/String") (Et : Exa Z h0 t "java/lang/String") (Cs : Fld Z h0 s "java/lang/String" "coder" "B" (.int (0 : Int32))) (Ct : Fld Z h0 t "java/lang/String" "coder" "B" (.int (0 : Int32))) (Gs : Fld Z h0 s "java/lang/String" "value" "[B" (.ref v1)) (Gt : Fld Z h0 t "java/lang/String" "value" "[B" (.ref v2)) (V1 : Arv Z h0 v1 k1 .byte (2 : Int32) [(.int c0), (.int c1)] (.int (0 : Int32))) (V2 : Arv Z h0 v2 k2 .byte (2 : Int32) [(.int c0), (.int y)] (.int (0 : Int32))) (nn : s ≠ t) (SCS : Sta Z Z.heap "java/lang/String" "COMPACT_STRINGS" "Z" (.int cs)) (hcs : ¬ (cs = (0 : Int32))) (he : c1 = y) :
    Ctr l Z h0 (⟨"java/lang/String", "equals", "(Ljava/lang/Object;)Z"⟩ : MethodName) jdk_42_method_66_code 3 (some .boolean) [] ({ frames := 1, cells := 0, slots := 0, locals := 14 } : Room) #[(.ref s), (.ref t)] (Q_cse2_1 Z s t cs v1 v2 k1 k2 c0 c1 y h0) := by
  refine enter (plainFor_of_name pn2) ?_
  intro pp ee ss mm below meth cc s₁ hx hby hml hZ hown hnm hret hlk X0 e0 hs0
  replace hown : ss.vm.findClass "java/lang/String" = some mm.cls := hown
  refine Go.cast (congrArg s₁.setTop (ef_cse2_1 mm s t)) ?_
  have N0 := Fr.nil Z.heap.size
  show Go pp ee below _ (s₁.setTop (mkF mm 0 #[.val (.ref s), .val (.ref t), .unset] []))
  refine Go.aloadN X0 hx (hb hby d21_0) rfl rfl (q := 1) rfl ?_
  refine Go.aloadN X0 hx (hb hby d21_1) rfl rfl (q := 2) rfl ?_
  refine Go.acmp X0 hx rfl rfl (hb hby d21_2) (same := false) (decide_eq_false fun q => nn (Value.ref.inj q)) (q := 7) (by decide) (by decide) ?_
  refine Go.aloadN X0 hx (hb hby d21_7) rfl rfl (q := 8) rfl ?_
  refine Go.instY X0 hx hZ hown (wd111 hw) e0 (Ins.self Et) (hb hby d21_8) (q := 11) rfl ?_
  intro T101 X101 e101
  refine Go.ifNo X101 hx (hb hby d21_11) (by decide) (q := 14) rfl ?_
  refine Go.aloadN X101 hx (hb hby d21_14) rfl rfl (q := 15) rfl ?_
  refine Go.castY X101 hx hZ hown (wd111 hw) e101 (Ins.self Et) (hb hby d21_15) (q := 18) rfl ?_
  intro T102 X102 e102
  refine Go.astoreN X102 hx (hb hby d21_18) rfl (l' := #[.val (.ref s), .val (.ref t), .val (.ref t)]) rfl (q := 19) rfl ?_
  refine Go.getS X102 hx hZ hown (host := "") (Or.inl (wd22 hw)) Via.refl e102 (SCS.ext O0) (hb hby d21_19) (q := 22) rfl ?_
  intro T103 X103 e103
  refine Go.ifNo X103 hx (hb hby d21_22) (Jvm.Free.XT.i0_eq_f hcs) (q := 25) rfl ?_
  refine Go.aloadN X103 hx (hb hby d21_25) rfl rfl (q := 26) rfl ?_
  refine Go.getF X103 hx hZ hown (host := "") (Or.inl (wd34 hw)) Via.refl e103 Cs (hb hby d21_26) (q := 29) rfl ?_
  intro T104 X104 e104
  refine Go.aloadN X104 hx (hb hby d21_29) rfl rfl (q := 30) rfl ?_
  refine Go.getF X104 hx hZ hown (host := "") (Or.inl (wd34 hw)) Via.refl e104 Ct (hb hby d21_30) (q := 33) rfl ?_
  intro T105 X105 e105
  refine Go.icmpNo X105 hx (hb hby d21_33) (by decide) (q := 36) rfl ?_
  refine Go.aloadN X105 hx (hb hby d21_36) rfl rfl (q := 37) rfl ?_
  refine Go.getF X105 hx hZ hown (host := "") (Or.inl (wd36 hw)) Via.refl e105 Gs (hb hby d21_37) (q := 40) rfl ?_
  intro T106 X106 e106
  refine Go.aloadN X106 hx (hb hby d21_40) rfl rfl (q := 41) rfl ?_
  refine Go.getF X106 hx hZ hown (host := "") (Or.inl (wd36 hw)) Via.refl e106 Gt (hb hby d21_41) (q := 44) rfl ?_
  intro T107 X107 e107
  refine Go.callS X107 hx hZ hown (wd112 hw) (wd113 hw) (wd114 hw) (wd115 hw) (by decide) (cle2_1 l Z a0 hw v1 v2 (k1) (k2) c0 c1 y h0 O0 V1 V2 he) e107 (by rw [hml]; rfl) (hb hby d21_44) (argsL := [(.ref v1), (.ref v2)]) (rest := []) (lenOf pd15 rfl) rfl rfl (W := 0) (by first | exact Nat.le_refl _ | decide) (by decide) (by decide) (by decide) (by decide) ?_
  intro v108 T108 L108 X108 hQ108
  obtain ⟨rfl, N108q, e108⟩ := hQ108
  have N108 := Fr.app N0 N108q
  refine Go.ifNo X108 hx (hb hby d21_47) (by decide) (q := 50) rfl ?_
  refine Go.iconst X108 hx (hb hby d21_50) (r := (1 : Int32)) rfl (q := 51) rfl ?_
  refine Go.goto X108 hx (hb hby d21_51) (q := 55) (by decide) (by decide) ?_
  exact Go.retI X108 hx hret hlk (by simp) rfl (hb hby d21_55) e108 (by decide) (by decide) ⟨rfl, N108, rfl⟩
def Q_cqe2_1 (Z : State) (o : Addr) (q : Addr) (s : Addr) (t : Addr) (cs : Int32) (v1 : Addr) (v2 : Addr) (k1 : ClassId) (k2 : ClassId) (c0 : Int32) (c1 : Int32) (y : Int32) (h0 : Heap) (vR : Option Value) (hR : Heap) (LR : List Loc) : Prop := vR = some (.int (1 : Int32)) ∧ Fr Z.heap.size LR ∧ hR = h0
set_option maxRecDepth 65536 in
set_option maxHeartbeats 40000000 in
theorem cqe2_1 (l : Launch) (Z : State) (a0 : Array Value) (hw : ∀ d ∈ tables_1, d.before a0 Z = true) (o : Addr) (q : Addr) (s : Addr) (t : Addr) (cs : Int32) (v1 : Addr) (v2 : Addr) (k1 : ClassId) (k2 : ClassId) (c0 : Int32) (c1 : Int32) (y : Int32) (h0 : Heap) (O0 : Ext Z.heap h0) (Eq_ : Exa Z h0 q "com/example/cronopoly/cronopoly/ScheduleId") (Fo : Fld Z h0 o "com/example/cronopoly/cronopoly/ScheduleId" "text" "Ljava/lang/String;" (.ref s)) (Fq : Fld Z h0 q "com/example/cronopoly/cronopoly/ScheduleId" "text" "Ljava/lang/String;" (.ref t)) (Es : Exa Z h0 s "java/lang/String") (Et : Exa Z h0 t "java/lang/String") (Cs : Fld Z h0 s "java/lang/String" "coder" "B" (.int (0 : Int32))) (Ct : Fld Z h0 t "java/lang/String" "coder" "B" (.int (0 : Int32))) (Gs : Fld Z h0 s "java/lang/String" "value" "[B" (.ref v1)) (Gt : Fld Z h0 t "java/lang/String" "value" "[B" (.ref v2)) (V1 : Arv Z h0 v1 k1 .byte (2 : Int32) [(.int c0), (.int c1)] (.int (0 : Int32))) (V2 : Arv Z h0 v2 k2 .byte (2 : Int32) [(.int c0), (.int y)] (.int (0 : Int32))) (nn : s ≠ t) (SCS : Sta Z Z.heap "java/lang/String" "COMPACT_STRINGS" "Z" (.int cs)) (hcs : ¬ (cs = (0 : Int32))) (he : c1 = y) :
    Ctr l Z h0 (⟨"com/example/cronopoly/cronopoly/ScheduleId", "equals", "(Ljava/lang/Object;)Z"⟩ : MethodName) prog_16_method_7_code 3 (some .boolean) [] ({ frames := 2, cells := 0, slots := 0, locals := 28 } : Room) #[(.ref o), (.ref q)] (Q_cqe2_1 Z o q s t cs v1 v2 k1 k2 c0 c1 y h0) := by
  refine enter (plainFor_of_name pn5) ?_
  intro pp ee ss mm below meth cc s₁ hx hby hml hZ hown hnm hret hlk X0 e0 hs0
  replace hown : ss.vm.findClass "com/example/cronopoly/cronopoly/ScheduleId" = some mm.cls := hown
  refine Go.cast (congrArg s₁.setTop (ef_cqe2_1 mm o q)) ?_
  have N0 := Fr.nil Z.heap.size
  show Go pp ee below _ (s₁.setTop (mkF mm 0 #[.val (.ref o), .val (.ref q), .unset] []))
  refine Go.aloadN X0 hx (hb hby d22_0) rfl rfl (q := 1) rfl ?_
  refine Go.instY X0 hx hZ hown (wd85 hw) e0 (Ins.self Eq_) (hb hby d22_1) (q := 4) rfl ?_
  intro T101 X101 e101
  refine Go.ifNo X101 hx (hb hby d22_4) (by decide) (q := 7) rfl ?_
  refine Go.aloadN X101 hx (hb hby d22_7) rfl rfl (q := 8) rfl ?_
  refine Go.castY X101 hx hZ hown (wd85 hw) e101 (Ins.self Eq_) (hb hby d22_8) (q := 11) rfl ?_
  intro T102 X102 e102
  refine Go.astoreN X102 hx (hb hby d22_11) rfl (l' := #[.val (.ref o), .val (.ref q), .val (.ref q)]) rfl (q := 12) rfl ?_
  refine Go.aloadN X102 hx (hb hby d22_12) rfl rfl (q := 13) rfl ?_
  refine Go.getF X102 hx hZ hown (host := "") (Or.inl (wd91 hw)) Via.refl e102 Fo (hb hby d22_13) (q := 16) rfl ?_
  intro T103 X103 e103
  refine Go.aloadN X103 hx (hb hby d22_16) rfl rfl (q := 17) rfl ?_
  refine Go.getF X103 hx hZ hown (host := "") (Or.inl (wd91 hw)) Via.refl e103 Fq (hb hby d22_17) (q := 20) rfl ?_
  intro T104 X104 e104
  refine Go.virt X104 hx hZ hown (wd110 hw) (wd99 hw) (notFace_of_selects (args := #[]) (mvT hZ (wd101 hw))) (wd101 hw) (wd100 hw) (wd10 hw) (wd102 hw) (by decide) (cse2_1 l Z a0 hw s t cs v1 v2 (k1) (k2) c0 c1 y h0 O0 Es Et Cs Ct Gs Gt V1 V2 nn SCS hcs he) e104 Es (by rw [hml]; rfl) (hb hby d22_20) (argsL := [(.ref t)]) (rest := []) (lenOf pd14 rfl) rfl rfl (W := 0) (by first | exact Nat.le_refl _ | decide) (by decide) (by decide) (by decide) (by decide) ?_
  intro v105 T105 L105 X105 hQ105
  obtain ⟨rfl, N105q, e105⟩ := hQ105
  have N105 := Fr.app N0 N105q
  refine Go.ifNo X105 hx (hb hby d22_23) (by decide) (q := 26) rfl ?_
  refine Go.iconst X105 hx (hb hby d22_26) (r := (1 : Int32)) rfl (q := 27) rfl ?_
  refine Go.goto X105 hx (hb hby d22_27) (q := 31) (by decide) (by decide) ?_
  exact Go.retI X105 hx hret hlk (by simp) rfl (hb hby d22_31) e105 (by decide) (by decide) ⟨rfl, N105, rfl⟩
def Q_cle2_0 (Z : State) (v1 : Addr) (v2 : Addr) (k1 : ClassId) (k2 : ClassId) (c0 : Int32) (c1 : Int32) (y : Int32) (h0 : Heap) (vR : Option Value) (hR : Heap) (LR : List Loc) : Prop := vR = some (.int (0 : Int32)) ∧ Fr Z.heap.size LR ∧ hR = h0
set_option maxRecDepth 65536 in
set_option maxHeartbeats 40000000 in
theorem cle2_0 (l : Launch) (Z : State) (a0 : Array Value) (hw : ∀ d ∈ tables_1, d.before a0 Z = true) (v1 : Addr) (v2 : Addr) (k1 : ClassId) (k2 : ClassId) (c0 : Int32) (c1 : Int32) (y : Int32) (h0 : Heap) (O0 : Ext Z.heap h0) (V1 : Arv Z h0 v1 k1 .byte (2 : Int32) [(.int c0), (.int c1)] (.int (0 : Int32))) (V2 : Arv Z h0 v2 k2 .byte (2 : Int32) [(.int c0), (.int y)] (.int (0 : Int32))) (he : ¬ (c1 = y)) :
    Ctr l Z h0 (⟨"java/lang/StringLatin1", "equals", "([B[B)Z"⟩ : MethodName) jdk_43_method_13_code 3 (some .boolean) [] ({ frames := 0, cells := 0, slots := 0, locals := 0 } : Room) #[(.ref v1), (.ref v2)] (Q_cle2_0 Z v1 v2 k1 k2 c0 c1 y h0) := by
  refine enter (plainFor_of_name pn6) ?_
  intro pp ee ss mm below meth cc s₁ hx hby hml hZ hown hnm hret hlk X0 e0 hs0
  replace hown : ss.vm.findClass "java/lang/StringLatin1" = some mm.cls := hown
  refine Go.cast (congrArg s₁.setTop (ef_cle2_0 mm v1 v2)) ?_
  have N0 := Fr.nil Z.heap.size
  show Go pp ee below _ (s₁.setTop (mkF mm 0 #[.val (.ref v1), .val (.ref v2), .unset] []))
  refine Go.aloadN X0 hx (hb hby d23_0) rfl rfl (q := 1) rfl ?_
  refine Go.alen X0 hx hZ e0 V1 (hb hby d23_1) ?_
  refine Go.aloadN X0 hx (hb hby d23_2) rfl rfl (q := 3) rfl ?_
  refine Go.alen X0 hx hZ e0 V2 (hb hby d23_3) ?_
  refine Go.icmpNo X0 hx (hb hby d23_4) (by decide) (q := 7) rfl ?_
  refine Go.iconst X0 hx (hb hby d23_7) (r := (0 : Int32)) rfl (q := 8) rfl ?_
  refine Go.istoreN X0 hx (hb hby d23_8) (l' := #[.val (.ref v1), .val (.ref v2), .val (.int (0 : Int32))]) rfl (q := 9) rfl ?_
  refine Go.iloadN X0 hx (hb hby d23_9) rfl (q := 10) rfl ?_
  refine Go.aloadN X0 hx (hb hby d23_10) rfl rfl (q := 11) rfl ?_
  refine Go.alen X0 hx hZ e0 V1 (hb hby d23_11) ?_
  refine Go.icmpNo X0 hx (hb hby d23_12) (by decide) (q := 15) rfl ?_
  refine Go.aloadN X0 hx (hb hby d23_15) rfl rfl (q := 16) rfl ?_
  refine Go.iloadN X0 hx (hb hby d23_16) rfl (q := 17) rfl ?_
  refine Go.bal X0 hx hZ e0 V1 ⟨by decide, by decide⟩ (v := (.int c0)) rfl (hb hby d23_17) ?_
  refine Go.aloadN X0 hx (hb hby d23_18) rfl rfl (q := 19) rfl ?_
  refine Go.iloadN X0 hx (hb hby d23_19) rfl (q := 20) rfl ?_
  refine Go.bal X0 hx hZ e0 V2 ⟨by decide, by decide⟩ (v := (.int c0)) rfl (hb hby d23_20) ?_
  refine Go.icmpYes X0 hx (hb hby d23_21) (Jvm.Free.XT.ii_eq_t rfl) (q := 26) (by decide) (by decide) ?_
  refine Go.iinc X0 hx (hb hby d23_26) rfl (r := (1 : Int32)) rfl (l' := #[.val (.ref v1), .val (.ref v2), .val (.int (1 : Int32))]) rfl (q := 29) rfl ?_
  refine Go.goto X0 hx (hb hby d23_29) (q := 9) (by decide) (by decide) ?_
  refine Go.iloadN X0 hx (hb hby d23_9) rfl (q := 10) rfl ?_
  refine Go.aloadN X0 hx (hb hby d23_10) rfl rfl (q := 11) rfl ?_
  refine Go.alen X0 hx hZ e0 V1 (hb hby d23_11) ?_
  refine Go.icmpNo X0 hx (hb hby d23_12) (by decide) (q := 15) rfl ?_
  refine Go.aloadN X0 hx (hb hby d23_15) rfl rfl (q := 16) rfl ?_
  refine Go.iloadN X0 hx (hb hby d23_16) rfl (q := 17) rfl ?_
  refine Go.bal X0 hx hZ e0 V1 ⟨by decide, by decide⟩ (v := (.int c1)) rfl (hb hby d23_17) ?_
  refine Go.aloadN X0 hx (hb hby d23_18) rfl rfl (q := 19) rfl ?_
  refine Go.iloadN X0 hx (hb hby d23_19) rfl (q := 20) rfl ?_
  refine Go.bal X0 hx hZ e0 V2 ⟨by decide, by decide⟩ (v := (.int y)) rfl (hb hby d23_20) ?_
  refine Go.icmpNo X0 hx (hb hby d23_21) (Jvm.Free.XT.ii_eq_f he) (q := 24) rfl ?_
  refine Go.iconst X0 hx (hb hby d23_24) (r := (0 : Int32)) rfl (q := 25) rfl ?_
  exact Go.retI X0 hx hret hlk (by simp) rfl (hb hby d23_25) e0 (by decide) (by decide) ⟨rfl, N0, rfl⟩
def Q_cse2_0 (Z : State) (s : Addr) (t : Addr) (cs : Int32) (v1 : Addr) (v2 : Addr) (k1 : ClassId) (k2 : ClassId) (c0 : Int32) (c1 : Int32) (y : Int32) (h0 : Heap) (vR : Option Value) (hR : Heap) (LR : List Loc) : Prop := vR = some (.int (0 : Int32)) ∧ Fr Z.heap.size LR ∧ hR = h0
set_option maxRecDepth 65536 in
set_option maxHeartbeats 40000000 in
theorem cse2_0 (l : Launch) (Z : State) (a0 : Array Value) (hw : ∀ d ∈ tables_1, d.before a0 Z = true) (s : Addr) (t : Addr) (cs : Int32) (v1 : Addr) (v2 : Addr) (k1 : ClassId) (k2 : ClassId) (c0 : Int32) (c1 : Int32) (y : Int32) (h0 : Heap) (O0 : Ext Z.heap h0) (Es : Exa Z h0 s "java/lang/String") (Et : Exa Z h0 t "java/lang/String") (Cs : Fld Z h0 s "java/lang/String" "coder" "B" (.int (0 : Int32))) (Ct : Fld Z h0 t "java/lang/String" "coder" "B" (.int (0 : Int32))) (Gs : Fld Z h0 s "java/lang/String" "value" "[B" (.ref v1)) (Gt : Fld Z h0 t "java/lang/String" "value" "[B" (.ref v2)) (V1 : Arv Z h0 v1 k1 .byte (2 : Int32) [(.int c0), (.int c1)] (.int (0 : Int32))) (V2 : Arv Z h0 v2 k2 .byte (2 : Int32) [(.int c0), (.int y)] (.int (0 : Int32))) (nn : s ≠ t) (SCS : Sta Z Z.heap "java/lang/String" "COMPACT_STRINGS" "Z" (.int cs)) (hcs : ¬ (cs = (0 : Int32))) (he : ¬ (c1 = y)) :
    Ctr l Z h0 (⟨"java/lang/String", "equals", "(Ljava/lang/Object;)Z"⟩ : MethodName) jdk_42_method_66_code 3 (some .boolean) [] ({ frames := 1, cells := 0, slots := 0, locals := 14 } : Room) #[(.ref s), (.ref t)] (Q_cse2_0 Z s t cs v1 v2 k1 k2 c0 c1 y h0) := by
  refine enter (plainFor_of_name pn2) ?_
  intro pp ee ss mm below meth cc s₁ hx hby hml hZ hown hnm hret hlk X0 e0 hs0
  replace hown : ss.vm.findClass "java/lang/String" = some mm.cls := hown
  refine Go.cast (congrArg s₁.setTop (ef_cse2_0 mm s t)) ?_
  have N0 := Fr.nil Z.heap.size
  show Go pp ee below _ (s₁.setTop (mkF mm 0 #[.val (.ref s), .val (.ref t), .unset] []))
  refine Go.aloadN X0 hx (hb hby d21_0) rfl rfl (q := 1) rfl ?_
  refine Go.aloadN X0 hx (hb hby d21_1) rfl rfl (q := 2) rfl ?_
  refine Go.acmp X0 hx rfl rfl (hb hby d21_2) (same := false) (decide_eq_false fun q => nn (Value.ref.inj q)) (q := 7) (by decide) (by decide) ?_
  refine Go.aloadN X0 hx (hb hby d21_7) rfl rfl (q := 8) rfl ?_
  refine Go.instY X0 hx hZ hown (wd111 hw) e0 (Ins.self Et) (hb hby d21_8) (q := 11) rfl ?_
  intro T101 X101 e101
  refine Go.ifNo X101 hx (hb hby d21_11) (by decide) (q := 14) rfl ?_
  refine Go.aloadN X101 hx (hb hby d21_14) rfl rfl (q := 15) rfl ?_
  refine Go.castY X101 hx hZ hown (wd111 hw) e101 (Ins.self Et) (hb hby d21_15) (q := 18) rfl ?_
  intro T102 X102 e102
  refine Go.astoreN X102 hx (hb hby d21_18) rfl (l' := #[.val (.ref s), .val (.ref t), .val (.ref t)]) rfl (q := 19) rfl ?_
  refine Go.getS X102 hx hZ hown (host := "") (Or.inl (wd22 hw)) Via.refl e102 (SCS.ext O0) (hb hby d21_19) (q := 22) rfl ?_
  intro T103 X103 e103
  refine Go.ifNo X103 hx (hb hby d21_22) (Jvm.Free.XT.i0_eq_f hcs) (q := 25) rfl ?_
  refine Go.aloadN X103 hx (hb hby d21_25) rfl rfl (q := 26) rfl ?_
  refine Go.getF X103 hx hZ hown (host := "") (Or.inl (wd34 hw)) Via.refl e103 Cs (hb hby d21_26) (q := 29) rfl ?_
  intro T104 X104 e104
  refine Go.aloadN X104 hx (hb hby d21_29) rfl rfl (q := 30) rfl ?_
  refine Go.getF X104 hx hZ hown (host := "") (Or.inl (wd34 hw)) Via.refl e104 Ct (hb hby d21_30) (q := 33) rfl ?_
  intro T105 X105 e105
  refine Go.icmpNo X105 hx (hb hby d21_33) (by decide) (q := 36) rfl ?_
  refine Go.aloadN X105 hx (hb hby d21_36) rfl rfl (q := 37) rfl ?_
  refine Go.getF X105 hx hZ hown (host := "") (Or.inl (wd36 hw)) Via.refl e105 Gs (hb hby d21_37) (q := 40) rfl ?_
  intro T106 X106 e106
  refine Go.aloadN X106 hx (hb hby d21_40) rfl rfl (q := 41) rfl ?_
  refine Go.getF X106 hx hZ hown (host := "") (Or.inl (wd36 hw)) Via.refl e106 Gt (hb hby d21_41) (q := 44) rfl ?_
  intro T107 X107 e107
  refine Go.callS X107 hx hZ hown (wd112 hw) (wd113 hw) (wd114 hw) (wd115 hw) (by decide) (cle2_0 l Z a0 hw v1 v2 (k1) (k2) c0 c1 y h0 O0 V1 V2 he) e107 (by rw [hml]; rfl) (hb hby d21_44) (argsL := [(.ref v1), (.ref v2)]) (rest := []) (lenOf pd15 rfl) rfl rfl (W := 0) (by first | exact Nat.le_refl _ | decide) (by decide) (by decide) (by decide) (by decide) ?_
  intro v108 T108 L108 X108 hQ108
  obtain ⟨rfl, N108q, e108⟩ := hQ108
  have N108 := Fr.app N0 N108q
  refine Go.ifYes X108 hx (hb hby d21_47) (by decide) (q := 54) (by decide) (by decide) ?_
  refine Go.iconst X108 hx (hb hby d21_54) (r := (0 : Int32)) rfl (q := 55) rfl ?_
  exact Go.retI X108 hx hret hlk (by simp) rfl (hb hby d21_55) e108 (by decide) (by decide) ⟨rfl, N108, rfl⟩
def Q_cqe2_0 (Z : State) (o : Addr) (q : Addr) (s : Addr) (t : Addr) (cs : Int32) (v1 : Addr) (v2 : Addr) (k1 : ClassId) (k2 : ClassId) (c0 : Int32) (c1 : Int32) (y : Int32) (h0 : Heap) (vR : Option Value) (hR : Heap) (LR : List Loc) : Prop := vR = some (.int (0 : Int32)) ∧ Fr Z.heap.size LR ∧ hR = h0
set_option maxRecDepth 65536 in
set_option maxHeartbeats 40000000 in
theorem cqe2_0 (l : Launch) (Z : State) (a0 : Array Value) (hw : ∀ d ∈ tables_1, d.before a0 Z = true) (o : Addr) (q : Addr) (s : Addr) (t : Addr) (cs : Int32) (v1 : Addr) (v2 : Addr) (k1 : ClassId) (k2 : ClassId) (c0 : Int32) (c1 : Int32) (y : Int32) (h0 : Heap) (O0 : Ext Z.heap h0) (Eq_ : Exa Z h0 q "com/example/cronopoly/cronopoly/ScheduleId") (Fo : Fld Z h0 o "com/example/cronopoly/cronopoly/ScheduleId" "text" "Ljava/lang/String;" (.ref s)) (Fq : Fld Z h0 q "com/example/cronopoly/cronopoly/ScheduleId" "text" "Ljava/lang/String;" (.ref t)) (Es : Exa Z h0 s "java/lang/String") (Et : Exa Z h0 t "java/lang/String") (Cs : Fld Z h0 s "java/lang/String" "coder" "B" (.int (0 : Int32))) (Ct : Fld Z h0 t "java/lang/String" "coder" "B" (.int (0 : Int32))) (Gs : Fld Z h0 s "java/lang/String" "value" "[B" (.ref v1)) (Gt : Fld Z h0 t "java/lang/String" "value" "[B" (.ref v2)) (V1 : Arv Z h0 v1 k1 .byte (2 : Int32) [(.int c0), (.int c1)] (.int (0 : Int32))) (V2 : Arv Z h0 v2 k2 .byte (2 : Int32) [(.int c0), (.int y)] (.int (0 : Int32))) (nn : s ≠ t) (SCS : Sta Z Z.heap "java/lang/String" "COMPACT_STRINGS" "Z" (.int cs)) (hcs : ¬ (cs = (0 : Int32))) (he : ¬ (c1 = y)) :
    Ctr l Z h0 (⟨"com/example/cronopoly/cronopoly/ScheduleId", "equals", "(Ljava/lang/Object;)Z"⟩ : MethodName) prog_16_method_7_code 3 (some .boolean) [] ({ frames := 2, cells := 0, slots := 0, locals := 28 } : Room) #[(.ref o), (.ref q)] (Q_cqe2_0 Z o q s t cs v1 v2 k1 k2 c0 c1 y h0) := by
  refine enter (plainFor_of_name pn5) ?_
  intro pp ee ss mm below meth cc s₁ hx hby hml hZ hown hnm hret hlk X0 e0 hs0
  replace hown : ss.vm.findClass "com/example/cronopoly/cronopoly/ScheduleId" = some mm.cls := hown
  refine Go.cast (congrArg s₁.setTop (ef_cqe2_0 mm o q)) ?_
  have N0 := Fr.nil Z.heap.size
  show Go pp ee below _ (s₁.setTop (mkF mm 0 #[.val (.ref o), .val (.ref q), .unset] []))
  refine Go.aloadN X0 hx (hb hby d22_0) rfl rfl (q := 1) rfl ?_
  refine Go.instY X0 hx hZ hown (wd85 hw) e0 (Ins.self Eq_) (hb hby d22_1) (q := 4) rfl ?_
  intro T101 X101 e101
  refine Go.ifNo X101 hx (hb hby d22_4) (by decide) (q := 7) rfl ?_
  refine Go.aloadN X101 hx (hb hby d22_7) rfl rfl (q := 8) rfl ?_
  refine Go.castY X101 hx hZ hown (wd85 hw) e101 (Ins.self Eq_) (hb hby d22_8) (q := 11) rfl ?_
  intro T102 X102 e102
  refine Go.astoreN X102 hx (hb hby d22_11) rfl (l' := #[.val (.ref o), .val (.ref q), .val (.ref q)]) rfl (q := 12) rfl ?_
  refine Go.aloadN X102 hx (hb hby d22_12) rfl rfl (q := 13) rfl ?_
  refine Go.getF X102 hx hZ hown (host := "") (Or.inl (wd91 hw)) Via.refl e102 Fo (hb hby d22_13) (q := 16) rfl ?_
  intro T103 X103 e103
  refine Go.aloadN X103 hx (hb hby d22_16) rfl rfl (q := 17) rfl ?_
  refine Go.getF X103 hx hZ hown (host := "") (Or.inl (wd91 hw)) Via.refl e103 Fq (hb hby d22_17) (q := 20) rfl ?_
  intro T104 X104 e104
  refine Go.virt X104 hx hZ hown (wd110 hw) (wd99 hw) (notFace_of_selects (args := #[]) (mvT hZ (wd101 hw))) (wd101 hw) (wd100 hw) (wd10 hw) (wd102 hw) (by decide) (cse2_0 l Z a0 hw s t cs v1 v2 (k1) (k2) c0 c1 y h0 O0 Es Et Cs Ct Gs Gt V1 V2 nn SCS hcs he) e104 Es (by rw [hml]; rfl) (hb hby d22_20) (argsL := [(.ref t)]) (rest := []) (lenOf pd14 rfl) rfl rfl (W := 0) (by first | exact Nat.le_refl _ | decide) (by decide) (by decide) (by decide) (by decide) ?_
  intro v105 T105 L105 X105 hQ105
  obtain ⟨rfl, N105q, e105⟩ := hQ105
  have N105 := Fr.app N0 N105q
  refine Go.ifYes X105 hx (hb hby d22_23) (by decide) (q := 30) (by decide) (by decide) ?_
  refine Go.iconst X105 hx (hb hby d22_30) (r := (0 : Int32)) rfl (q := 31) rfl ?_
  exact Go.retI X105 hx hret hlk (by simp) rfl (hb hby d22_31) e105 (by decide) (by decide) ⟨rfl, N105, rfl⟩
def Q_cle3_1 (Z : State) (v1 : Addr) (v2 : Addr) (k1 : ClassId) (k2 : ClassId) (c0 : Int32) (c1 : Int32) (c2 : Int32) (y : Int32) (h0 : Heap) (vR : Option Value) (hR : Heap) (LR : List Loc) : Prop := vR = some (.int (1 : Int32)) ∧ Fr Z.heap.size LR ∧ hR = h0
set_option maxRecDepth 65536 in
set_option maxHeartbeats 40000000 in
theorem cle3_1 (l : Launch) (Z : State) (a0 : Array Value) (hw : ∀ d ∈ tables_1, d.before a0 Z = true) (v1 : Addr) (v2 : Addr) (k1 : ClassId) (k2 : ClassId) (c0 : Int32) (c1 : Int32) (c2 : Int32) (y : Int32) (h0 : Heap) (O0 : Ext Z.heap h0) (V1 : Arv Z h0 v1 k1 .byte (3 : Int32) [(.int c0), (.int c1), (.int c2)] (.int (0 : Int32))) (V2 : Arv Z h0 v2 k2 .byte (3 : Int32) [(.int c0), (.int c1), (.int y)] (.int (0 : Int32))) (he : c2 = y) :
    Ctr l Z h0 (⟨"java/lang/StringLatin1", "equals", "([B[B)Z"⟩ : MethodName) jdk_43_method_13_code 3 (some .boolean) [] ({ frames := 0, cells := 0, slots := 0, locals := 0 } : Room) #[(.ref v1), (.ref v2)] (Q_cle3_1 Z v1 v2 k1 k2 c0 c1 c2 y h0) := by
  refine enter (plainFor_of_name pn6) ?_
  intro pp ee ss mm below meth cc s₁ hx hby hml hZ hown hnm hret hlk X0 e0 hs0
  replace hown : ss.vm.findClass "java/lang/StringLatin1" = some mm.cls := hown
  refine Go.cast (congrArg s₁.setTop (ef_cle3_1 mm v1 v2)) ?_
  have N0 := Fr.nil Z.heap.size
  show Go pp ee below _ (s₁.setTop (mkF mm 0 #[.val (.ref v1), .val (.ref v2), .unset] []))
  refine Go.aloadN X0 hx (hb hby d23_0) rfl rfl (q := 1) rfl ?_
  refine Go.alen X0 hx hZ e0 V1 (hb hby d23_1) ?_
  refine Go.aloadN X0 hx (hb hby d23_2) rfl rfl (q := 3) rfl ?_
  refine Go.alen X0 hx hZ e0 V2 (hb hby d23_3) ?_
  refine Go.icmpNo X0 hx (hb hby d23_4) (by decide) (q := 7) rfl ?_
  refine Go.iconst X0 hx (hb hby d23_7) (r := (0 : Int32)) rfl (q := 8) rfl ?_
  refine Go.istoreN X0 hx (hb hby d23_8) (l' := #[.val (.ref v1), .val (.ref v2), .val (.int (0 : Int32))]) rfl (q := 9) rfl ?_
  refine Go.iloadN X0 hx (hb hby d23_9) rfl (q := 10) rfl ?_
  refine Go.aloadN X0 hx (hb hby d23_10) rfl rfl (q := 11) rfl ?_
  refine Go.alen X0 hx hZ e0 V1 (hb hby d23_11) ?_
  refine Go.icmpNo X0 hx (hb hby d23_12) (by decide) (q := 15) rfl ?_
  refine Go.aloadN X0 hx (hb hby d23_15) rfl rfl (q := 16) rfl ?_
  refine Go.iloadN X0 hx (hb hby d23_16) rfl (q := 17) rfl ?_
  refine Go.bal X0 hx hZ e0 V1 ⟨by decide, by decide⟩ (v := (.int c0)) rfl (hb hby d23_17) ?_
  refine Go.aloadN X0 hx (hb hby d23_18) rfl rfl (q := 19) rfl ?_
  refine Go.iloadN X0 hx (hb hby d23_19) rfl (q := 20) rfl ?_
  refine Go.bal X0 hx hZ e0 V2 ⟨by decide, by decide⟩ (v := (.int c0)) rfl (hb hby d23_20) ?_
  refine Go.icmpYes X0 hx (hb hby d23_21) (Jvm.Free.XT.ii_eq_t rfl) (q := 26) (by decide) (by decide) ?_
  refine Go.iinc X0 hx (hb hby d23_26) rfl (r := (1 : Int32)) rfl (l' := #[.val (.ref v1), .val (.ref v2), .val (.int (1 : Int32))]) rfl (q := 29) rfl ?_
  refine Go.goto X0 hx (hb hby d23_29) (q := 9) (by decide) (by decide) ?_
  refine Go.iloadN X0 hx (hb hby d23_9) rfl (q := 10) rfl ?_
  refine Go.aloadN X0 hx (hb hby d23_10) rfl rfl (q := 11) rfl ?_
  refine Go.alen X0 hx hZ e0 V1 (hb hby d23_11) ?_
  refine Go.icmpNo X0 hx (hb hby d23_12) (by decide) (q := 15) rfl ?_
  refine Go.aloadN X0 hx (hb hby d23_15) rfl rfl (q := 16) rfl ?_
  refine Go.iloadN X0 hx (hb hby d23_16) rfl (q := 17) rfl ?_
  refine Go.bal X0 hx hZ e0 V1 ⟨by decide, by decide⟩ (v := (.int c1)) rfl (hb hby d23_17) ?_
  refine Go.aloadN X0 hx (hb hby d23_18) rfl rfl (q := 19) rfl ?_
  refine Go.iloadN X0 hx (hb hby d23_19) rfl (q := 20) rfl ?_
  refine Go.bal X0 hx hZ e0 V2 ⟨by decide, by decide⟩ (v := (.int c1)) rfl (hb hby d23_20) ?_
  refine Go.icmpYes X0 hx (hb hby d23_21) (Jvm.Free.XT.ii_eq_t rfl) (q := 26) (by decide) (by decide) ?_
  refine Go.iinc X0 hx (hb hby d23_26) rfl (r := (2 : Int32)) rfl (l' := #[.val (.ref v1), .val (.ref v2), .val (.int (2 : Int32))]) rfl (q := 29) rfl ?_
  refine Go.goto X0 hx (hb hby d23_29) (q := 9) (by decide) (by decide) ?_
  refine Go.iloadN X0 hx (hb hby d23_9) rfl (q := 10) rfl ?_
  refine Go.aloadN X0 hx (hb hby d23_10) rfl rfl (q := 11) rfl ?_
  refine Go.alen X0 hx hZ e0 V1 (hb hby d23_11) ?_
  refine Go.icmpNo X0 hx (hb hby d23_12) (by decide) (q := 15) rfl ?_
  refine Go.aloadN X0 hx (hb hby d23_15) rfl rfl (q := 16) rfl ?_
  refine Go.iloadN X0 hx (hb hby d23_16) rfl (q := 17) rfl ?_
  refine Go.bal X0 hx hZ e0 V1 ⟨by decide, by decide⟩ (v := (.int c2)) rfl (hb hby d23_17) ?_
  refine Go.aloadN X0 hx (hb hby d23_18) rfl rfl (q := 19) rfl ?_
  refine Go.iloadN X0 hx (hb hby d23_19) rfl (q := 20) rfl ?_
  refine Go.bal X0 hx hZ e0 V2 ⟨by decide, by decide⟩ (v := (.int y)) rfl (hb hby d23_20) ?_
  refine Go.icmpYes X0 hx (hb hby d23_21) (Jvm.Free.XT.ii_eq_t he) (q := 26) (by decide) (by decide) ?_
  refine Go.iinc X0 hx (hb hby d23_26) rfl (r := (3 : Int32)) rfl (l' := #[.val (.ref v1), .val (.ref v2), .val (.int (3 : Int32))]) rfl (q := 29) rfl ?_
  refine Go.goto X0 hx (hb hby d23_29) (q := 9) (by decide) (by decide) ?_
  refine Go.iloadN X0 hx (hb hby d23_9) rfl (q := 10) rfl ?_
  refine Go.aloadN X0 hx (hb hby d23_10) rfl rfl (q := 11) rfl ?_
  refine Go.alen X0 hx hZ e0 V1 (hb hby d23_11) ?_
  refine Go.icmpYes X0 hx (hb hby d23_12) (by decide) (q := 32) (by decide) (by decide) ?_
  refine Go.iconst X0 hx (hb hby d23_32) (r := (1 : Int32)) rfl (q := 33) rfl ?_
  exact Go.retI X0 hx hret hlk (by simp) rfl (hb hby d23_33) e0 (by decide) (by decide) ⟨rfl, N0, rfl⟩
def Q_cse3_1 (Z : State) (s : Addr) (t : Addr) (cs : Int32) (v1 : Addr) (v2 : Addr) (k1 : ClassId) (k2 : ClassId) (c0 : Int32) (c1 : Int32) (c2 : Int32) (y : Int32) (h0 : Heap) (vR : Option Value) (hR : Heap) (LR : List Loc) : Prop := vR = some (.int (1 : Int32)) ∧ Fr Z.heap.size LR ∧ hR = h0
set_option maxRecDepth 65536 in
set_option maxHeartbeats 40000000 in
theorem cse3_1 (l : Launch) (Z : State) (a0 : Array Value) (hw : ∀ d ∈ tables_1, d.before a0 Z = true) (s : Addr) (t : Addr) (cs : Int32) (v1 : Addr) (v2 : Addr) (k1 : ClassId) (k2 : ClassId) (c0 : Int32) (c1 : Int32) (c2 : Int32) (y : Int32) (h0 : Heap) (O0 : Ext Z.heap h0) (Es : Exa Z h0 s "java/lang/String") (Et : Exa Z h0 t "java/lang/String") (Cs : Fld Z h0 s "java/lang/String" "coder" "B" (.int (0 : Int32))) (Ct : Fld Z h0 t "java/lang/String" "coder" "B" (.int (0 : Int32))) (Gs : Fld Z h0 s "java/lang/String" "value" "[B" (.ref v1)) (Gt : Fld Z h0 t "java/lang/String" "value" "[B" (.ref v2)) (V1 : Arv Z h0 v1 k1 .byte (3 : Int32) [(.int c0), (.int c1), (.int c2)] (.int (0 : Int32))) (V2 : Arv Z h0 v2 k2 .byte (3 : Int32) [(.int c0), (.int c1), (.int y)] (.int (0 : Int32))) (nn : s ≠ t) (SCS : Sta Z Z.heap "java/lang/String" "COMPACT_STRINGS" "Z" (.int cs)) (hcs : ¬ (cs = (0 : Int32))) (he : c2 = y) :
    Ctr l Z h0 (⟨"java/lang/String", "equals", "(Ljava/lang/Object;)Z"⟩ : MethodName) jdk_42_method_66_code 3 (some .boolean) [] ({ frames := 1, cells := 0, slots := 0, locals := 14 } : Room) #[(.ref s), (.ref t)] (Q_cse3_1 Z s t cs v1 v2 k1 k2 c0 c1 c2 y h0) := by
  refine enter (plainFor_of_name pn2) ?_
  intro pp ee ss mm below meth cc s₁ hx hby hml hZ hown hnm hret hlk X0 e0 hs0
  replace hown : ss.vm.findClass "java/lang/String" = some mm.cls := hown
  refine Go.cast (congrArg s₁.setTop (ef_cse3_1 mm s t)) ?_
  have N0 := Fr.nil Z.heap.size
  show Go pp ee below _ (s₁.setTop (mkF mm 0 #[.val (.ref s), .val (.ref t), .unset] []))
  refine Go.aloadN X0 hx (hb hby d21_0) rfl rfl (q := 1) rfl ?_
  refine Go.aloadN X0 hx (hb hby d21_1) rfl rfl (q := 2) rfl ?_
  refine Go.acmp X0 hx rfl rfl (hb hby d21_2) (same := false) (decide_eq_false fun q => nn (Value.ref.inj q)) (q := 7) (by decide) (by decide) ?_
  refine Go.aloadN X0 hx (hb hby d21_7) rfl rfl (q := 8) rfl ?_
  refine Go.instY X0 hx hZ hown (wd111 hw) e0 (Ins.self Et) (hb hby d21_8) (q := 11) rfl ?_
  intro T101 X101 e101
  refine Go.ifNo X101 hx (hb hby d21_11) (by decide) (q := 14) rfl ?_
  refine Go.aloadN X101 hx (hb hby d21_14) rfl rfl (q := 15) rfl ?_
  refine Go.castY X101 hx hZ hown (wd111 hw) e101 (Ins.self Et) (hb hby d21_15) (q := 18) rfl ?_
  intro T102 X102 e102
  refine Go.astoreN X102 hx (hb hby d21_18) rfl (l' := #[.val (.ref s), .val (.ref t), .val (.ref t)]) rfl (q := 19) rfl ?_
  refine Go.getS X102 hx hZ hown (host := "") (Or.inl (wd22 hw)) Via.refl e102 (SCS.ext O0) (hb hby d21_19) (q := 22) rfl ?_
  intro T103 X103 e103
  refine Go.ifNo X103 hx (hb hby d21_22) (Jvm.Free.XT.i0_eq_f hcs) (q := 25) rfl ?_
  refine Go.aloadN X103 hx (hb hby d21_25) rfl rfl (q := 26) rfl ?_
  refine Go.getF X103 hx hZ hown (host := "") (Or.inl (wd34 hw)) Via.refl e103 Cs (hb hby d21_26) (q := 29) rfl ?_
  intro T104 X104 e104
  refine Go.aloadN X104 hx (hb hby d21_29) rfl rfl (q := 30) rfl ?_
  refine Go.getF X104 hx hZ hown (host := "") (Or.inl (wd34 hw)) Via.refl e104 Ct (hb hby d21_30) (q := 33) rfl ?_
  intro T105 X105 e105
  refine Go.icmpNo X105 hx (hb hby d21_33) (by decide) (q := 36) rfl ?_
  refine Go.aloadN X105 hx (hb hby d21_36) rfl rfl (q := 37) rfl ?_
  refine Go.getF X105 hx hZ hown (host := "") (Or.inl (wd36 hw)) Via.refl e105 Gs (hb hby d21_37) (q := 40) rfl ?_
  intro T106 X106 e106
  refine Go.aloadN X106 hx (hb hby d21_40) rfl rfl (q := 41) rfl ?_
  refine Go.getF X106 hx hZ hown (host := "") (Or.inl (wd36 hw)) Via.refl e106 Gt (hb hby d21_41) (q := 44) rfl ?_
  intro T107 X107 e107
  refine Go.callS X107 hx hZ hown (wd112 hw) (wd113 hw) (wd114 hw) (wd115 hw) (by decide) (cle3_1 l Z a0 hw v1 v2 (k1) (k2) c0 c1 c2 y h0 O0 V1 V2 he) e107 (by rw [hml]; rfl) (hb hby d21_44) (argsL := [(.ref v1), (.ref v2)]) (rest := []) (lenOf pd15 rfl) rfl rfl (W := 0) (by first | exact Nat.le_refl _ | decide) (by decide) (by decide) (by decide) (by decide) ?_
  intro v108 T108 L108 X108 hQ108
  obtain ⟨rfl, N108q, e108⟩ := hQ108
  have N108 := Fr.app N0 N108q
  refine Go.ifNo X108 hx (hb hby d21_47) (by decide) (q := 50) rfl ?_
  refine Go.iconst X108 hx (hb hby d21_50) (r := (1 : Int32)) rfl (q := 51) rfl ?_
  refine Go.goto X108 hx (hb hby d21_51) (q := 55) (by decide) (by decide) ?_
  exact Go.retI X108 hx hret hlk (by simp) rfl (hb hby d21_55) e108 (by decide) (by decide) ⟨rfl, N108, rfl⟩
def Q_cqe3_1 (Z : State) (o : Addr) (q : Addr) (s : Addr) (t : Addr) (cs : Int32) (v1 : Addr) (v2 : Addr) (k1 : ClassId) (k2 : ClassId) (c0 : Int32) (c1 : Int32) (c2 : Int32) (y : Int32) (h0 : Heap) (vR : Option Value) (hR : Heap) (LR : List Loc) : Prop := vR = some (.int (1 : Int32)) ∧ Fr Z.heap.size LR ∧ hR = h0
set_option maxRecDepth 65536 in
set_option maxHeartbeats 40000000 in
theorem cqe3_1 (l : Launch) (Z : State) (a0 : Array Value) (hw : ∀ d ∈ tables_1, d.before a0 Z = true) (o : Addr) (q : Addr) (s : Addr) (t : Addr) (cs : Int32) (v1 : Addr) (v2 : Addr) (k1 : ClassId) (k2 : ClassId) (c0 : Int32) (c1 : Int32) (c2 : Int32) (y : Int32) (h0 : Heap) (O0 : Ext Z.heap h0) (Eq_ : Exa Z h0 q "com/example/cronopoly/cronopoly/ScheduleId") (Fo : Fld Z h0 o "com/example/cronopoly/cronopoly/ScheduleId" "text" "Ljava/lang/String;" (.ref s)) (Fq : Fld Z h0 q "com/example/cronopoly/cronopoly/ScheduleId" "text" "Ljava/lang/String;" (.ref t)) (Es : Exa Z h0 s "java/lang/String") (Et : Exa Z h0 t "java/lang/String") (Cs : Fld Z h0 s "java/lang/String" "coder" "B" (.int (0 : Int32))) (Ct : Fld Z h0 t "java/lang/String" "coder" "B" (.int (0 : Int32))) (Gs : Fld Z h0 s "java/lang/String" "value" "[B" (.ref v1)) (Gt : Fld Z h0 t "java/lang/String" "value" "[B" (.ref v2)) (V1 : Arv Z h0 v1 k1 .byte (3 : Int32) [(.int c0), (.int c1), (.int c2)] (.int (0 : Int32))) (V2 : Arv Z h0 v2 k2 .byte (3 : Int32) [(.int c0), (.int c1), (.int y)] (.int (0 : Int32))) (nn : s ≠ t) (SCS : Sta Z Z.heap "java/lang/String" "COMPACT_STRINGS" "Z" (.int cs)) (hcs : ¬ (cs = (0 : Int32))) (he : c2 = y) :
    Ctr l Z h0 (⟨"com/example/cronopoly/cronopoly/ScheduleId", "equals", "(Ljava/lang/Object;)Z"⟩ : MethodName) prog_16_method_7_code 3 (some .boolean) [] ({ frames := 2, cells := 0, slots := 0, locals := 28 } : Room) #[(.ref o), (.ref q)] (Q_cqe3_1 Z o q s t cs v1 v2 k1 k2 c0 c1 c2 y h0) := by
  refine enter (plainFor_of_name pn5) ?_
  intro pp ee ss mm below meth cc s₁ hx hby hml hZ hown hnm hret hlk X0 e0 hs0
  replace hown : ss.vm.findClass "com/example/cronopoly/cronopoly/ScheduleId" = some mm.cls := hown
  refine Go.cast (congrArg s₁.setTop (ef_cqe3_1 mm o q)) ?_
  have N0 := Fr.nil Z.heap.size
  show Go pp ee below _ (s₁.setTop (mkF mm 0 #[.val (.ref o), .val (.ref q), .unset] []))
  refine Go.aloadN X0 hx (hb hby d22_0) rfl rfl (q := 1) rfl ?_
  refine Go.instY X0 hx hZ hown (wd85 hw) e0 (Ins.self Eq_) (hb hby d22_1) (q := 4) rfl ?_
  intro T101 X101 e101
  refine Go.ifNo X101 hx (hb hby d22_4) (by decide) (q := 7) rfl ?_
  refine Go.aloadN X101 hx (hb hby d22_7) rfl rfl (q := 8) rfl ?_
  refine Go.castY X101 hx hZ hown (wd85 hw) e101 (Ins.self Eq_) (hb hby d22_8) (q := 11) rfl ?_
  intro T102 X102 e102
  refine Go.astoreN X102 hx (hb hby d22_11) rfl (l' := #[.val (.ref o), .val (.ref q), .val (.ref q)]) rfl (q := 12) rfl ?_
  refine Go.aloadN X102 hx (hb hby d22_12) rfl rfl (q := 13) rfl ?_
  refine Go.getF X102 hx hZ hown (host := "") (Or.inl (wd91 hw)) Via.refl e102 Fo (hb hby d22_13) (q := 16) rfl ?_
  intro T103 X103 e103
  refine Go.aloadN X103 hx (hb hby d22_16) rfl rfl (q := 17) rfl ?_
  refine Go.getF X103 hx hZ hown (host := "") (Or.inl (wd91 hw)) Via.refl e103 Fq (hb hby d22_17) (q := 20) rfl ?_
  intro T104 X104 e104
  refine Go.virt X104 hx hZ hown (wd110 hw) (wd99 hw) (notFace_of_selects (args := #[]) (mvT hZ (wd101 hw))) (wd101 hw) (wd100 hw) (wd10 hw) (wd102 hw) (by decide) (cse3_1 l Z a0 hw s t cs v1 v2 (k1) (k2) c0 c1 c2 y h0 O0 Es Et Cs Ct Gs Gt V1 V2 nn SCS hcs he) e104 Es (by rw [hml]; rfl) (hb hby d22_20) (argsL := [(.ref t)]) (rest := []) (lenOf pd14 rfl) rfl rfl (W := 0) (by first | exact Nat.le_refl _ | decide) (by decide) (by decide) (by decide) (by decide) ?_
  intro v105 T105 L105 X105 hQ105
  obtain ⟨rfl, N105q, e105⟩ := hQ105
  have N105 := Fr.app N0 N105q
  refine Go.ifNo X105 hx (hb hby d22_23) (by decide) (q := 26) rfl ?_
  refine Go.iconst X105 hx (hb hby d22_26) (r := (1 : Int32)) rfl (q := 27) rfl ?_
  refine Go.goto X105 hx (hb hby d22_27) (q := 31) (by decide) (by decide) ?_
  exact Go.retI X105 hx hret hlk (by simp) rfl (hb hby d22_31) e105 (by decide) (by decide) ⟨rfl, N105, rfl⟩
def Q_cle3_0 (Z : State) (v1 : Addr) (v2 : Addr) (k1 : ClassId) (k2 : ClassId) (c0 : Int32) (c1 : Int32) (c2 : Int32) (y : Int32) (h0 : Heap) (vR : Option Value) (hR : Heap) (LR : List Loc) : Prop := vR = some (.int (0 : Int32)) ∧ Fr Z.heap.size LR ∧ hR = h0
set_option maxRecDepth 65536 in
set_option maxHeartbeats 40000000 in
theorem cle3_0 (l : Launch) (Z : State) (a0 : Array Value) (hw : ∀ d ∈ tables_1, d.before a0 Z = true) (v1 : Addr) (v2 : Addr) (k1 : ClassId) (k2 : ClassId) (c0 : Int32) (c1 : Int32) (c2 : Int32) (y : Int32) (h0 : Heap) (O0 : Ext Z.heap h0) (V1 : Arv Z h0 v1 k1 .byte (3 : Int32) [(.int c0), (.int c1), (.int c2)] (.int (0 : Int32))) (V2 : Arv Z h0 v2 k2 .byte (3 : Int32) [(.int c0), (.int c1), (.int y)] (.int (0 : Int32))) (he : ¬ (c2 = y)) :
    Ctr l Z h0 (⟨"java/lang/StringLatin1", "equals", "([B[B)Z"⟩ : MethodName) jdk_43_method_13_code 3 (some .boolean) [] ({ frames := 0, cells := 0, slots := 0, locals := 0 } : Room) #[(.ref v1), (.ref v2)] (Q_cle3_0 Z v1 v2 k1 k2 c0 c1 c2 y h0) := by
  refine enter (plainFor_of_name pn6) ?_
  intro pp ee ss mm below meth cc s₁ hx hby hml hZ hown hnm hret hlk X0 e0 hs0
  replace hown : ss.vm.findClass "java/lang/StringLatin1" = some mm.cls := hown
  refine Go.cast (congrArg s₁.setTop (ef_cle3_0 mm v1 v2)) ?_
  have N0 := Fr.nil Z.heap.size
  show Go pp ee below _ (s₁.setTop (mkF mm 0 #[.val (.ref v1), .val (.ref v2), .unset] []))
  refine Go.aloadN X0 hx (hb hby d23_0) rfl rfl (q := 1) rfl ?_
  refine Go.alen X0 hx hZ e0 V1 (hb hby d23_1) ?_
  refine Go.aloadN X0 hx (hb hby d23_2) rfl rfl (q := 3) rfl ?_
  refine Go.alen X0 hx hZ e0 V2 (hb hby d23_3) ?_
  refine Go.icmpNo X0 hx (hb hby d23_4) (by decide) (q := 7) rfl ?_
  refine Go.iconst X0 hx (hb hby d23_7) (r := (0 : Int32)) rfl (q := 8) rfl ?_
  refine Go.istoreN X0 hx (hb hby d23_8) (l' := #[.val (.ref v1), .val (.ref v2), .val (.int (0 : Int32))]) rfl (q := 9) rfl ?_
  refine Go.iloadN X0 hx (hb hby d23_9) rfl (q := 10) rfl ?_
  refine Go.aloadN X0 hx (hb hby d23_10) rfl rfl (q := 11) rfl ?_
  refine Go.alen X0 hx hZ e0 V1 (hb hby d23_11) ?_
  refine Go.icmpNo X0 hx (hb hby d23_12) (by decide) (q := 15) rfl ?_
  refine Go.aloadN X0 hx (hb hby d23_15) rfl rfl (q := 16) rfl ?_
  refine Go.iloadN X0 hx (hb hby d23_16) rfl (q := 17) rfl ?_
  refine Go.bal X0 hx hZ e0 V1 ⟨by decide, by decide⟩ (v := (.int c0)) rfl (hb hby d23_17) ?_
  refine Go.aloadN X0 hx (hb hby d23_18) rfl rfl (q := 19) rfl ?_
  refine Go.iloadN X0 hx (hb hby d23_19) rfl (q := 20) rfl ?_
  refine Go.bal X0 hx hZ e0 V2 ⟨by decide, by decide⟩ (v := (.int c0)) rfl (hb hby d23_20) ?_
  refine Go.icmpYes X0 hx (hb hby d23_21) (Jvm.Free.XT.ii_eq_t rfl) (q := 26) (by decide) (by decide) ?_
  refine Go.iinc X0 hx (hb hby d23_26) rfl (r := (1 : Int32)) rfl (l' := #[.val (.ref v1), .val (.ref v2), .val (.int (1 : Int32))]) rfl (q := 29) rfl ?_
  refine Go.goto X0 hx (hb hby d23_29) (q := 9) (by decide) (by decide) ?_
  refine Go.iloadN X0 hx (hb hby d23_9) rfl (q := 10) rfl ?_
  refine Go.aloadN X0 hx (hb hby d23_10) rfl rfl (q := 11) rfl ?_
  refine Go.alen X0 hx hZ e0 V1 (hb hby d23_11) ?_
  refine Go.icmpNo X0 hx (hb hby d23_12) (by decide) (q := 15) rfl ?_
  refine Go.aloadN X0 hx (hb hby d23_15) rfl rfl (q := 16) rfl ?_
  refine Go.iloadN X0 hx (hb hby d23_16) rfl (q := 17) rfl ?_
  refine Go.bal X0 hx hZ e0 V1 ⟨by decide, by decide⟩ (v := (.int c1)) rfl (hb hby d23_17) ?_
  refine Go.aloadN X0 hx (hb hby d23_18) rfl rfl (q := 19) rfl ?_
  refine Go.iloadN X0 hx (hb hby d23_19) rfl (q := 20) rfl ?_
  refine Go.bal X0 hx hZ e0 V2 ⟨by decide, by decide⟩ (v := (.int c1)) rfl (hb hby d23_20) ?_
  refine Go.icmpYes X0 hx (hb hby d23_21) (Jvm.Free.XT.ii_eq_t rfl) (q := 26) (by decide) (by decide) ?_
  refine Go.iinc X0 hx (hb hby d23_26) rfl (r := (2 : Int32)) rfl (l' := #[.val (.ref v1), .val (.ref v2), .val (.int (2 : Int32))]) rfl (q := 29) rfl ?_
  refine Go.goto X0 hx (hb hby d23_29) (q := 9) (by decide) (by decide) ?_
  refine Go.iloadN X0 hx (hb hby d23_9) rfl (q := 10) rfl ?_
  refine Go.aloadN X0 hx (hb hby d23_10) rfl rfl (q := 11) rfl ?_
  refine Go.alen X0 hx hZ e0 V1 (hb hby d23_11) ?_
  refine Go.icmpNo X0 hx (hb hby d23_12) (by decide) (q := 15) rfl ?_
  refine Go.aloadN X0 hx (hb hby d23_15) rfl rfl (q := 16) rfl ?_
  refine Go.iloadN X0 hx (hb hby d23_16) rfl (q := 17) rfl ?_
  refine Go.bal X0 hx hZ e0 V1 ⟨by decide, by decide⟩ (v := (.int c2)) rfl (hb hby d23_17) ?_
  refine Go.aloadN X0 hx (hb hby d23_18) rfl rfl (q := 19) rfl ?_
  refine Go.iloadN X0 hx (hb hby d23_19) rfl (q := 20) rfl ?_
  refine Go.bal X0 hx hZ e0 V2 ⟨by decide, by decide⟩ (v := (.int y)) rfl (hb hby d23_20) ?_
  refine Go.icmpNo X0 hx (hb hby d23_21) (Jvm.Free.XT.ii_eq_f he) (q := 24) rfl ?_
  refine Go.iconst X0 hx (hb hby d23_24) (r := (0 : Int32)) rfl (q := 25) rfl ?_
  exact Go.retI X0 hx hret hlk (by simp) rfl (hb hby d23_25) e0 (by decide) (by decide) ⟨rfl, N0, rfl⟩
def Q_cse3_0 (Z : State) (s : Addr) (t : Addr) (cs : Int32) (v1 : Addr) (v2 : Addr) (k1 : ClassId) (k2 : ClassId) (c0 : Int32) (c1 : Int32) (c2 : Int32) (y : Int32) (h0 : Heap) (vR : Option Value) (hR : Heap) (LR : List Loc) : Prop := vR = some (.int (0 : Int32)) ∧ Fr Z.heap.size LR ∧ hR = h0
set_option maxRecDepth 65536 in
set_option maxHeartbeats 40000000 in
theorem cse3_0 (l : Launch) (Z : State) (a0 : Array Value) (hw : ∀ d ∈ tables_1, d.before a0 Z = true) (s : Addr) (t : Addr) (cs : Int32) (v1 : Addr) (v2 : Addr) (k1 : ClassId) (k2 : ClassId) (c0 : Int32) (c1 : Int32) (c2 : Int32) (y : Int32) (h0 : Heap) (O0 : Ext Z.heap h0) (Es : Exa Z h0 s "java/lang/String") (Et : Exa Z h0 t "java/lang/String") (Cs : Fld Z h0 s "java/lang/String" "coder" "B" (.int (0 : Int32))) (Ct : Fld Z h0 t "java/lang/String" "coder" "B" (.int (0 : Int32))) (Gs : Fld Z h0 s "java/lang/String" "value" "[B" (.ref v1)) (Gt : Fld Z h0 t "java/lang/String" "value" "[B" (.ref v2)) (V1 : Arv Z h0 v1 k1 .byte (3 : Int32) [(.int c0), (.int c1), (.int c2)] (.int (0 : Int32))) (V2 : Arv Z h0 v2 k2 .byte (3 : Int32) [(.int c0), (.int c1), (.int y)] (.int (0 : Int32))) (nn : s ≠ t) (SCS : Sta Z Z.heap "java/lang/String" "COMPACT_STRINGS" "Z" (.int cs)) (hcs : ¬ (cs = (0 : Int32))) (he : ¬ (c2 = y)) :
    Ctr l Z h0 (⟨"java/lang/String", "equals", "(Ljava/lang/Object;)Z"⟩ : MethodName) jdk_42_method_66_code 3 (some .boolean) [] ({ frames := 1, cells := 0, slots := 0, locals := 14 } : Room) #[(.ref s), (.ref t)] (Q_cse3_0 Z s t cs v1 v2 k1 k2 c0 c1 c2 y h0) := by
  refine enter (plainFor_of_name pn2) ?_
  intro pp ee ss mm below meth cc s₁ hx hby hml hZ hown hnm hret hlk X0 e0 hs0
  replace hown : ss.vm.findClass "java/lang/String" = some mm.cls := hown
  refine Go.cast (congrArg s₁.setTop (ef_cse3_0 mm s t)) ?_
  have N0 := Fr.nil Z.heap.size
  show Go pp ee below _ (s₁.setTop (mkF mm 0 #[.val (.ref s), .val (.ref t), .unset] []))
  refine Go.aloadN X0 hx (hb hby d21_0) rfl rfl (q := 1) rfl ?_
  refine Go.aloadN X0 hx (hb hby d21_1) rfl rfl (q := 2) rfl ?_
  refine Go.acmp X0 hx rfl rfl (hb hby d21_2) (same := false) (decide_eq_false fun q => nn (Value.ref.inj q)) (q := 7) (by decide) (by decide) ?_
  refine Go.aloadN X0 hx (hb hby d21_7) rfl rfl (q := 8) rfl ?_
  refine Go.instY X0 hx hZ hown (wd111 hw) e0 (Ins.self Et) (hb hby d21_8) (q := 11) rfl ?_
  intro T101 X101 e101
  refine Go.ifNo X101 hx (hb hby d21_11) (by decide) (q := 14) rfl ?_
  refine Go.aloadN X101 hx (hb hby d21_14) rfl rfl (q := 15) rfl ?_
  refine Go.castY X101 hx hZ hown (wd111 hw) e101 (Ins.self Et) (hb hby d21_15) (q := 18) rfl ?_
  intro T102 X102 e102
  refine Go.astoreN X102 hx (hb hby d21_18) rfl (l' := #[.val (.ref s), .val (.ref t), .val (.ref t)]) rfl (q := 19) rfl ?_
  refine Go.getS X102 hx hZ hown (host := "") (Or.inl (wd22 hw)) Via.refl e102 (SCS.ext O0) (hb hby d21_19) (q := 22) rfl ?_
  intro T103 X103 e103
  refine Go.ifNo X103 hx (hb hby d21_22) (Jvm.Free.XT.i0_eq_f hcs) (q := 25) rfl ?_
  refine Go.aloadN X103 hx (hb hby d21_25) rfl rfl (q := 26) rfl ?_
  refine Go.getF X103 hx hZ hown (host := "") (Or.inl (wd34 hw)) Via.refl e103 Cs (hb hby d21_26) (q := 29) rfl ?_
  intro T104 X104 e104
  refine Go.aloadN X104 hx (hb hby d21_29) rfl rfl (q := 30) rfl ?_
  refine Go.getF X104 hx hZ hown (host := "") (Or.inl (wd34 hw)) Via.refl e104 Ct (hb hby d21_30) (q := 33) rfl ?_
  intro T105 X105 e105
  refine Go.icmpNo X105 hx (hb hby d21_33) (by decide) (q := 36) rfl ?_
  refine Go.aloadN X105 hx (hb hby d21_36) rfl rfl (q := 37) rfl ?_
  refine Go.getF X105 hx hZ hown (host := "") (Or.inl (wd36 hw)) Via.refl e105 Gs (hb hby d21_37) (q := 40) rfl ?_
  intro T106 X106 e106
  refine Go.aloadN X106 hx (hb hby d21_40) rfl rfl (q := 41) rfl ?_
  refine Go.getF X106 hx hZ hown (host := "") (Or.inl (wd36 hw)) Via.refl e106 Gt (hb hby d21_41) (q := 44) rfl ?_
  intro T107 X107 e107
  refine Go.callS X107 hx hZ hown (wd112 hw) (wd113 hw) (wd114 hw) (wd115 hw) (by decide) (cle3_0 l Z a0 hw v1 v2 (k1) (k2) c0 c1 c2 y h0 O0 V1 V2 he) e107 (by rw [hml]; rfl) (hb hby d21_44) (argsL := [(.ref v1), (.ref v2)]) (rest := []) (lenOf pd15 rfl) rfl rfl (W := 0) (by first | exact Nat.le_refl _ | decide) (by decide) (by decide) (by decide) (by decide) ?_
  intro v108 T108 L108 X108 hQ108
  obtain ⟨rfl, N108q, e108⟩ := hQ108
  have N108 := Fr.app N0 N108q
  refine Go.ifYes X108 hx (hb hby d21_47) (by decide) (q := 54) (by decide) (by decide) ?_
  refine Go.iconst X108 hx (hb hby d21_54) (r := (0 : Int32)) rfl (q := 55) rfl ?_
  exact Go.retI X108 hx hret hlk (by simp) rfl (hb hby d21_55) e108 (by decide) (by decide) ⟨rfl, N108, rfl⟩
def Q_cqe3_0 (Z : State) (o : Addr) (q : Addr) (s : Addr) (t : Addr) (cs : Int32) (v1 : Addr) (v2 : Addr) (k1 : ClassId) (k2 : ClassId) (c0 : Int32) (c1 : Int32) (c2 : Int32) (y : Int32) (h0 : Heap) (vR : Option Value) (hR : Heap) (LR : List Loc) : Prop := vR = some (.int (0 : Int32)) ∧ Fr Z.heap.size LR ∧ hR = h0
set_option maxRecDepth 65536 in
set_option maxHeartbeats 40000000 in
theorem cqe3_0 (l : Launch) (Z : State) (a0 : Array Value) (hw : ∀ d ∈ tables_1, d.before a0 Z = true) (o : Addr) (q : Addr) (s : Addr) (t : Addr) (cs : Int32) (v1 : Addr) (v2 : Addr) (k1 : ClassId) (k2 : ClassId) (c0 : Int32) (c1 : Int32) (c2 : Int32) (y : Int32) (h0 : Heap) (O0 : Ext Z.heap h0) (Eq_ : Exa Z h0 q "com/example/cronopoly/cronopoly/ScheduleId") (Fo : Fld Z h0 o "com/example/cronopoly/cronopoly/ScheduleId" "text" "Ljava/lang/String;" (.ref s)) (Fq : Fld Z h0 q "com/example/cronopoly/cronopoly/ScheduleId" "text" "Ljava/lang/String;" (.ref t)) (Es : Exa Z h0 s "java/lang/String") (Et : Exa Z h0 t "java/lang/String") (Cs : Fld Z h0 s "java/lang/String" "coder" "B" (.int (0 : Int32))) (Ct : Fld Z h0 t "java/lang/String" "coder" "B" (.int (0 : Int32))) (Gs : Fld Z h0 s "java/lang/String" "value" "[B" (.ref v1)) (Gt : Fld Z h0 t "java/lang/String" "value" "[B" (.ref v2)) (V1 : Arv Z h0 v1 k1 .byte (3 : Int32) [(.int c0), (.int c1), (.int c2)] (.int (0 : Int32))) (V2 : Arv Z h0 v2 k2 .byte (3 : Int32) [(.int c0), (.int c1), (.int y)] (.int (0 : Int32))) (nn : s ≠ t) (SCS : Sta Z Z.heap "java/lang/String" "COMPACT_STRINGS" "Z" (.int cs)) (hcs : ¬ (cs = (0 : Int32))) (he : ¬ (c2 = y)) :
    Ctr l Z h0 (⟨"com/example/cronopoly/cronopoly/ScheduleId", "equals", "(Ljava/lang/Object;)Z"⟩ : MethodName) prog_16_method_7_code 3 (some .boolean) [] ({ frames := 2, cells := 0, slots := 0, locals := 28 } : Room) #[(.ref o), (.ref q)] (Q_cqe3_0 Z o q s t cs v1 v2 k1 k2 c0 c1 c2 y h0) := by
  refine enter (plainFor_of_name pn5) ?_
  intro pp ee ss mm below meth cc s₁ hx hby hml hZ hown hnm hret hlk X0 e0 hs0
  replace hown : ss.vm.findClass "com/example/cronopoly/cronopoly/ScheduleId" = some mm.cls := hown
  refine Go.cast (congrArg s₁.setTop (ef_cqe3_0 mm o q)) ?_
  have N0 := Fr.nil Z.heap.size
  show Go pp ee below _ (s₁.setTop (mkF mm 0 #[.val (.ref o), .val (.ref q), .unset] []))
  refine Go.aloadN X0 hx (hb hby d22_0) rfl rfl (q := 1) rfl ?_
  refine Go.instY X0 hx hZ hown (wd85 hw) e0 (Ins.self Eq_) (hb hby d22_1) (q := 4) rfl ?_
  intro T101 X101 e101
  refine Go.ifNo X101 hx (hb hby d22_4) (by decide) (q := 7) rfl ?_
  refine Go.aloadN X101 hx (hb hby d22_7) rfl rfl (q := 8) rfl ?_
  refine Go.castY X101 hx hZ hown (wd85 hw) e101 (Ins.self Eq_) (hb hby d22_8) (q := 11) rfl ?_
  intro T102 X102 e102
  refine Go.astoreN X102 hx (hb hby d22_11) rfl (l' := #[.val (.ref o), .val (.ref q), .val (.ref q)]) rfl (q := 12) rfl ?_
  refine Go.aloadN X102 hx (hb hby d22_12) rfl rfl (q := 13) rfl ?_
  refine Go.getF X102 hx hZ hown (host := "") (Or.inl (wd91 hw)) Via.refl e102 Fo (hb hby d22_13) (q := 16) rfl ?_
  intro T103 X103 e103
  refine Go.aloadN X103 hx (hb hby d22_16) rfl rfl (q := 17) rfl ?_
  refine Go.getF X103 hx hZ hown (host := "") (Or.inl (wd91 hw)) Via.refl e103 Fq (hb hby d22_17) (q := 20) rfl ?_
  intro T104 X104 e104
  refine Go.virt X104 hx hZ hown (wd110 hw) (wd99 hw) (notFace_of_selects (args := #[]) (mvT hZ (wd101 hw))) (wd101 hw) (wd100 hw) (wd10 hw) (wd102 hw) (by decide) (cse3_0 l Z a0 hw s t cs v1 v2 (k1) (k2) c0 c1 c2 y h0 O0 Es Et Cs Ct Gs Gt V1 V2 nn SCS hcs he) e104 Es (by rw [hml]; rfl) (hb hby d22_20) (argsL := [(.ref t)]) (rest := []) (lenOf pd14 rfl) rfl rfl (W := 0) (by first | exact Nat.le_refl _ | decide) (by decide) (by decide) (by decide) (by decide) ?_
  intro v105 T105 L105 X105 hQ105
  obtain ⟨rfl, N105q, e105⟩ := hQ105
  have N105 := Fr.app N0 N105q
  refine Go.ifYes X105 hx (hb hby d22_23) (by decide) (q := 30) (by decide) (by decide) ?_
  refine Go.iconst X105 hx (hb hby d22_30) (r := (0 : Int32)) rfl (q := 31) rfl ?_
  exact Go.retI X105 hx hret hlk (by simp) rfl (hb hby d22_31) e105 (by decide) (by decide) ⟨rfl, N105, rfl⟩
def Q_cle4_1 (Z : State) (v1 : Addr) (v2 : Addr) (k1 : ClassId) (k2 : ClassId) (c0 : Int32) (c1 : Int32) (c2 : Int32) (c3 : Int32) (y : Int32) (h0 : Heap) (vR : Option Value) (hR : Heap) (LR : List Loc) : Prop := vR = some (.int (1 : Int32)) ∧ Fr Z.heap.size LR ∧ hR = h0
set_option maxRecDepth 65536 in
set_option maxHeartbeats 40000000 in
theorem cle4_1 (l : Launch) (Z : State) (a0 : Array Value) (hw : ∀ d ∈ tables_1, d.before a0 Z = true) (v1 : Addr) (v2 : Addr) (k1 : ClassId) (k2 : ClassId) (c0 : Int32) (c1 : Int32) (c2 : Int32) (c3 : Int32) (y : Int32) (h0 : Heap) (O0 : Ext Z.heap h0) (V1 : Arv Z h0 v1 k1 .byte (4 : Int32) [(.int c0), (.int c1), (.int c2), (.int c3)] (.int (0 : Int32))) (V2 : Arv Z h0 v2 k2 .byte (4 : Int32) [(.int c0), (.int c1), (.int c2), (.int y)] (.int (0 : Int32))) (he : c3 = y) :
    Ctr l Z h0 (⟨"java/lang/StringLatin1", "equals", "([B[B)Z"⟩ : MethodName) jdk_43_method_13_code 3 (some .boolean) [] ({ frames := 0, cells := 0, slots := 0, locals := 0 } : Room) #[(.ref v1), (.ref v2)] (Q_cle4_1 Z v1 v2 k1 k2 c0 c1 c2 c3 y h0) := by
  refine enter (plainFor_of_name pn6) ?_
  intro pp ee ss mm below meth cc s₁ hx hby hml hZ hown hnm hret hlk X0 e0 hs0
  replace hown : ss.vm.findClass "java/lang/StringLatin1" = some mm.cls := hown
  refine Go.cast (congrArg s₁.setTop (ef_cle4_1 mm v1 v2)) ?_
  have N0 := Fr.nil Z.heap.size
  show Go pp ee below _ (s₁.setTop (mkF mm 0 #[.val (.ref v1), .val (.ref v2), .unset] []))
  refine Go.aloadN X0 hx (hb hby d23_0) rfl rfl (q := 1) rfl ?_
  refine Go.alen X0 hx hZ e0 V1 (hb hby d23_1) ?_
  refine Go.aloadN X0 hx (hb hby d23_2) rfl rfl (q := 3) rfl ?_
  refine Go.alen X0 hx hZ e0 V2 (hb hby d23_3) ?_
  refine Go.icmpNo X0 hx (hb hby d23_4) (by decide) (q := 7) rfl ?_
  refine Go.iconst X0 hx (hb hby d23_7) (r := (0 : Int32)) rfl (q := 8) rfl ?_
  refine Go.istoreN X0 hx (hb hby d23_8) (l' := #[.val (.ref v1), .val (.ref v2), .val (.int (0 : Int32))]) rfl (q := 9) rfl ?_
  refine Go.iloadN X0 hx (hb hby d23_9) rfl (q := 10) rfl ?_
  refine Go.aloadN X0 hx (hb hby d23_10) rfl rfl (q := 11) rfl ?_
  refine Go.alen X0 hx hZ e0 V1 (hb hby d23_11) ?_
  refine Go.icmpNo X0 hx (hb hby d23_12) (by decide) (q := 15) rfl ?_
  refine Go.aloadN X0 hx (hb hby d23_15) rfl rfl (q := 16) rfl ?_
  refine Go.iloadN X0 hx (hb hby d23_16) rfl (q := 17) rfl ?_
  refine Go.bal X0 hx hZ e0 V1 ⟨by decide, by decide⟩ (v := (.int c0)) rfl (hb hby d23_17) ?_
  refine Go.aloadN X0 hx (hb hby d23_18) rfl rfl (q := 19) rfl ?_
  refine Go.iloadN X0 hx (hb hby d23_19) rfl (q := 20) rfl ?_
  refine Go.bal X0 hx hZ e0 V2 ⟨by decide, by decide⟩ (v := (.int c0)) rfl (hb hby d23_20) ?_
  refine Go.icmpYes X0 hx (hb hby d23_21) (Jvm.Free.XT.ii_eq_t rfl) (q := 26) (by decide) (by decide) ?_
  refine Go.iinc X0 hx (hb hby d23_26) rfl (r := (1 : Int32)) rfl (l' := #[.val (.ref v1), .val (.ref v2), .val (.int (1 : Int32))]) rfl (q := 29) rfl ?_
  refine Go.goto X0 hx (hb hby d23_29) (q := 9) (by decide) (by decide) ?_
  refine Go.iloadN X0 hx (hb hby d23_9) rfl (q := 10) rfl ?_
  refine Go.aloadN X0 hx (hb hby d23_10) rfl rfl (q := 11) rfl ?_
  refine Go.alen X0 hx hZ e0 V1 (hb hby d23_11) ?_
  refine Go.icmpNo X0 hx (hb hby d23_12) (by decide) (q := 15) rfl ?_
  refine Go.aloadN X0 hx (hb hby d23_15) rfl rfl (q := 16) rfl ?_
  refine Go.iloadN X0 hx (hb hby d23_16) rfl (q := 17) rfl ?_
  refine Go.bal X0 hx hZ e0 V1 ⟨by decide, by decide⟩ (v := (.int c1)) rfl (hb hby d23_17) ?_
  refine Go.aloadN X0 hx (hb hby d23_18) rfl rfl (q := 19) rfl ?_
  refine Go.iloadN X0 hx (hb hby d23_19) rfl (q := 20) rfl ?_
  refine Go.bal X0 hx hZ e0 V2 ⟨by decide, by decide⟩ (v := (.int c1)) rfl (hb hby d23_20) ?_
  refine Go.icmpYes X0 hx (hb hby d23_21) (Jvm.Free.XT.ii_eq_t rfl) (q := 26) (by decide) (by decide) ?_
  refine Go.iinc X0 hx (hb hby d23_26) rfl (r := (2 : Int32)) rfl (l' := #[.val (.ref v1), .val (.ref v2), .val (.int (2 : Int32))]) rfl (q := 29) rfl ?_
  refine Go.goto X0 hx (hb hby d23_29) (q := 9) (by decide) (by decide) ?_
  refine Go.iloadN X0 hx (hb hby d23_9) rfl (q := 10) rfl ?_
  refine Go.aloadN X0 hx (hb hby d23_10) rfl rfl (q := 11) rfl ?_
  refine Go.alen X0 hx hZ e0 V1 (hb hby d23_11) ?_
  refine Go.icmpNo X0 hx (hb hby d23_12) (by decide) (q := 15) rfl ?_
  refine Go.aloadN X0 hx (hb hby d23_15) rfl rfl (q := 16) rfl ?_
  refine Go.iloadN X0 hx (hb hby d23_16) rfl (q := 17) rfl ?_
  refine Go.bal X0 hx hZ e0 V1 ⟨by decide, by decide⟩ (v := (.int c2)) rfl (hb hby d23_17) ?_
  refine Go.aloadN X0 hx (hb hby d23_18) rfl rfl (q := 19) rfl ?_
  refine Go.iloadN X0 hx (hb hby d23_19) rfl (q := 20) rfl ?_
  refine Go.bal X0 hx hZ e0 V2 ⟨by decide, by decide⟩ (v := (.int c2)) rfl (hb hby d23_20) ?_
  refine Go.icmpYes X0 hx (hb hby d23_21) (Jvm.Free.XT.ii_eq_t rfl) (q := 26) (by decide) (by decide) ?_
  refine Go.iinc X0 hx (hb hby d23_26) rfl (r := (3 : Int32)) rfl (l' := #[.val (.ref v1), .val (.ref v2), .val (.int (3 : Int32))]) rfl (q := 29) rfl ?_
  refine Go.goto X0 hx (hb hby d23_29) (q := 9) (by decide) (by decide) ?_
  refine Go.iloadN X0 hx (hb hby d23_9) rfl (q := 10) rfl ?_
  refine Go.aloadN X0 hx (hb hby d23_10) rfl rfl (q := 11) rfl ?_
  refine Go.alen X0 hx hZ e0 V1 (hb hby d23_11) ?_
  refine Go.icmpNo X0 hx (hb hby d23_12) (by decide) (q := 15) rfl ?_
  refine Go.aloadN X0 hx (hb hby d23_15) rfl rfl (q := 16) rfl ?_
  refine Go.iloadN X0 hx (hb hby d23_16) rfl (q := 17) rfl ?_
  refine Go.bal X0 hx hZ e0 V1 ⟨by decide, by decide⟩ (v := (.int c3)) rfl (hb hby d23_17) ?_
  refine Go.aloadN X0 hx (hb hby d23_18) rfl rfl (q := 19) rfl ?_
  refine Go.iloadN X0 hx (hb hby d23_19) rfl (q := 20) rfl ?_
  refine Go.bal X0 hx hZ e0 V2 ⟨by decide, by decide⟩ (v := (.int y)) rfl (hb hby d23_20) ?_
  refine Go.icmpYes X0 hx (hb hby d23_21) (Jvm.Free.XT.ii_eq_t he) (q := 26) (by decide) (by decide) ?_
  refine Go.iinc X0 hx (hb hby d23_26) rfl (r := (4 : Int32)) rfl (l' := #[.val (.ref v1), .val (.ref v2), .val (.int (4 : Int32))]) rfl (q := 29) rfl ?_
  refine Go.goto X0 hx (hb hby d23_29) (q := 9) (by decide) (by decide) ?_
  refine Go.iloadN X0 hx (hb hby d23_9) rfl (q := 10) rfl ?_
  refine Go.aloadN X0 hx (hb hby d23_10) rfl rfl (q := 11) rfl ?_
  refine Go.alen X0 hx hZ e0 V1 (hb hby d23_11) ?_
  refine Go.icmpYes X0 hx (hb hby d23_12) (by decide) (q := 32) (by decide) (by decide) ?_
  refine Go.iconst X0 hx (hb hby d23_32) (r := (1 : Int32)) rfl (q := 33) rfl ?_
  exact Go.retI X0 hx hret hlk (by simp) rfl (hb hby d23_33) e0 (by decide) (by decide) ⟨rfl, N0, rfl⟩
def Q_cse4_1 (Z : State) (s : Addr) (t : Addr) (cs : Int32) (v1 : Addr) (v2 : Addr) (k1 : ClassId) (k2 : ClassId) (c0 : Int32) (c1 : Int32) (c2 : Int32) (c3 : Int32) (y : Int32) (h0 : Heap) (vR : Option Value) (hR : Heap) (LR : List Loc) : Prop := vR = some (.int (1 : Int32)) ∧ Fr Z.heap.size LR ∧ hR = h0
set_option maxRecDepth 65536 in
set_option maxHeartbeats 40000000 in
theorem cse4_1 (l : Launch) (Z : State) (a0 : Array Value) (hw : ∀ d ∈ tables_1, d.before a0 Z = true) (s : Addr) (t : Addr) (cs : Int32) (v1 : Addr) (v2 : Addr) (k1 : ClassId) (k2 : ClassId) (c0 : Int32) (c1 : Int32) (c2 : Int32) (c3 : Int32) (y : Int32) (h0 : Heap) (O0 : Ext Z.heap h0) (Es : Exa Z h0 s "java/lang/String") (Et : Exa Z h0 t "java/lang/String") (Cs : Fld Z h0 s "java/lang/String" "coder" "B" (.int (0 : Int32))) (Ct : Fld Z h0 t "java/lang/String" "coder" "B" (.int (0 : Int32))) (Gs : Fld Z h0 s "java/lang/String" "value" "[B" (.ref v1)) (Gt : Fld Z h0 t "java/lang/String" "value" "[B" (.ref v2)) (V1 : Arv Z h0 v1 k1 .byte (4 : Int32) [(.int c0), (.int c1), (.int c2), (.int c3)] (.int (0 : Int32))) (V2 : Arv Z h0 v2 k2 .byte (4 : Int32) [(.int c0), (.int c1), (.int c2), (.int y)] (.int (0 : Int32))) (nn : s ≠ t) (SCS : Sta Z Z.heap "java/lang/String" "COMPACT_STRINGS" "Z" (.int cs)) (hcs : ¬ (cs = (0 : Int32))) (he : c3 = y) :
    Ctr l Z h0 (⟨"java/lang/String", "equals", "(Ljava/lang/Object;)Z"⟩ : MethodName) jdk_42_method_66_code 3 (some .boolean) [] ({ frames := 1, cells := 0, slots := 0, locals := 14 } : Room) #[(.ref s), (.ref t)] (Q_cse4_1 Z s t cs v1 v2 k1 k2 c0 c1 c2 c3 y h0) := by
  refine enter (plainFor_of_name pn2) ?_
  intro pp ee ss mm below meth cc s₁ hx hby hml hZ hown hnm hret hlk X0 e0 hs0
  replace hown : ss.vm.findClass "java/lang/String" = some mm.cls := hown
  refine Go.cast (congrArg s₁.setTop (ef_cse4_1 mm s t)) ?_
  have N0 := Fr.nil Z.heap.size
  show Go pp ee below _ (s₁.setTop (mkF mm 0 #[.val (.ref s), .val (.ref t), .unset] []))
  refine Go.aloadN X0 hx (hb hby d21_0) rfl rfl (q := 1) rfl ?_
  refine Go.aloadN X0 hx (hb hby d21_1) rfl rfl (q := 2) rfl ?_
  refine Go.acmp X0 hx rfl rfl (hb hby d21_2) (same := false) (decide_eq_false fun q => nn (Value.ref.inj q)) (q := 7) (by decide) (by decide) ?_
  refine Go.aloadN X0 hx (hb hby d21_7) rfl rfl (q := 8) rfl ?_
  refine Go.instY X0 hx hZ hown (wd111 hw) e0 (Ins.self Et) (hb hby d21_8) (q := 11) rfl ?_
  intro T101 X101 e101
  refine Go.ifNo X101 hx (hb hby d21_11) (by decide) (q := 14) rfl ?_
  refine Go.aloadN X101 hx (hb hby d21_14) rfl rfl (q := 15) rfl ?_
  refine Go.castY X101 hx hZ hown (wd111 hw) e101 (Ins.self Et) (hb hby d21_15) (q := 18) rfl ?_
  intro T102 X102 e102
  refine Go.astoreN X102 hx (hb hby d21_18) rfl (l' := #[.val (.ref s), .val (.ref t), .val (.ref t)]) rfl (q := 19) rfl ?_
  refine Go.getS X102 hx hZ hown (host := "") (Or.inl (wd22 hw)) Via.refl e102 (SCS.ext O0) (hb hby d21_19) (q := 22) rfl ?_
  intro T103 X103 e103
  refine Go.ifNo X103 hx (hb hby d21_22) (Jvm.Free.XT.i0_eq_f hcs) (q := 25) rfl ?_
  refine Go.aloadN X103 hx (hb hby d21_25) rfl rfl (q := 26) rfl ?_
  refine Go.getF X103 hx hZ hown (host := "") (Or.inl (wd34 hw)) Via.refl e103 Cs (hb hby d21_26) (q := 29) rfl ?_
  intro T104 X104 e104
  refine Go.aloadN X104 hx (hb hby d21_29) rfl rfl (q := 30) rfl ?_
  refine Go.getF X104 hx hZ hown (host := "") (Or.inl (wd34 hw)) Via.refl e104 Ct (hb hby d21_30) (q := 33) rfl ?_
  intro T105 X105 e105
  refine Go.icmpNo X105 hx (hb hby d21_33) (by decide) (q := 36) rfl ?_
  refine Go.aloadN X105 hx (hb hby d21_36) rfl rfl (q := 37) rfl ?_
  refine Go.getF X105 hx hZ hown (host := "") (Or.inl (wd36 hw)) Via.refl e105 Gs (hb hby d21_37) (q := 40) rfl ?_
  intro T106 X106 e106
  refine Go.aloadN X106 hx (hb hby d21_40) rfl rfl (q := 41) rfl ?_
  refine Go.getF X106 hx hZ hown (host := "") (Or.inl (wd36 hw)) Via.refl e106 Gt (hb hby d21_41) (q := 44) rfl ?_
  intro T107 X107 e107
  refine Go.callS X107 hx hZ hown (wd112 hw) (wd113 hw) (wd114 hw) (wd115 hw) (by decide) (cle4_1 l Z a0 hw v1 v2 (k1) (k2) c0 c1 c2 c3 y h0 O0 V1 V2 he) e107 (by rw [hml]; rfl) (hb hby d21_44) (argsL := [(.ref v1), (.ref v2)]) (rest := []) (lenOf pd15 rfl) rfl rfl (W := 0) (by first | exact Nat.le_refl _ | decide) (by decide) (by decide) (by decide) (by decide) ?_
  intro v108 T108 L108 X108 hQ108
  obtain ⟨rfl, N108q, e108⟩ := hQ108
  have N108 := Fr.app N0 N108q
  refine Go.ifNo X108 hx (hb hby d21_47) (by decide) (q := 50) rfl ?_
  refine Go.iconst X108 hx (hb hby d21_50) (r := (1 : Int32)) rfl (q := 51) rfl ?_
  refine Go.goto X108 hx (hb hby d21_51) (q := 55) (by decide) (by decide) ?_
  exact Go.retI X108 hx hret hlk (by simp) rfl (hb hby d21_55) e108 (by decide) (by decide) ⟨rfl, N108, rfl⟩
def Q_cqe4_1 (Z : State) (o : Addr) (q : Addr) (s : Addr) (t : Addr) (cs : Int32) (v1 : Addr) (v2 : Addr) (k1 : ClassId) (k2 : ClassId) (c0 : Int32) (c1 : Int32) (c2 : Int32) (c3 : Int32) (y : Int32) (h0 : Heap) (vR : Option Value) (hR : Heap) (LR : List Loc) : Prop := vR = some (.int (1 : Int32)) ∧ Fr Z.heap.size LR ∧ hR = h0
set_option maxRecDepth 65536 in
set_option maxHeartbeats 40000000 in
theorem cqe4_1 (l : Launch) (Z : State) (a0 : Array Value) (hw : ∀ d ∈ tables_1, d.before a0 Z = true) (o : Addr) (q : Addr) (s : Addr) (t : Addr) (cs : Int32) (v1 : Addr) (v2 : Addr) (k1 : ClassId) (k2 : ClassId) (c0 : Int32) (c1 : Int32) (c2 : Int32) (c3 : Int32) (y : Int32) (h0 : Heap) (O0 : Ext Z.heap h0) (Eq_ : Exa Z h0 q "com/example/cronopoly/cronopoly/ScheduleId") (Fo : Fld Z h0 o "com/example/cronopoly/cronopoly/ScheduleId" "text" "Ljava/lang/String;" (.ref s)) (Fq : Fld Z h0 q "com/example/cronopoly/cronopoly/ScheduleId" "text" "Ljava/lang/String;" (.ref t)) (Es : Exa Z h0 s "java/lang/String") (Et : Exa Z h0 t "java/lang/String") (Cs : Fld Z h0 s "java/lang/String" "coder" "B" (.int (0 : Int32))) (Ct : Fld Z h0 t "java/lang/String" "coder" "B" (.int (0 : Int32))) (Gs : Fld Z h0 s "java/lang/String" "value" "[B" (.ref v1)) (Gt : Fld Z h0 t "java/lang/String" "value" "[B" (.ref v2)) (V1 : Arv Z h0 v1 k1 .byte (4 : Int32) [(.int c0), (.int c1), (.int c2), (.int c3)] (.int (0 : Int32))) (V2 : Arv Z h0 v2 k2 .byte (4 : Int32) [(.int c0), (.int c1), (.int c2), (.int y)] (.int (0 : Int32))) (nn : s ≠ t) (SCS : Sta Z Z.heap "java/lang/String" "COMPACT_STRINGS" "Z" (.int cs)) (hcs : ¬ (cs = (0 : Int32))) (he : c3 = y) :
    Ctr l Z h0 (⟨"com/example/cronopoly/cronopoly/ScheduleId", "equals", "(Ljava/lang/Object;)Z"⟩ : MethodName) prog_16_method_7_code 3 (some .boolean) [] ({ frames := 2, cells := 0, slots := 0, locals := 28 } : Room) #[(.ref o), (.ref q)] (Q_cqe4_1 Z o q s t cs v1 v2 k1 k2 c0 c1 c2 c3 y h0) := by
  refine enter (plainFor_of_name pn5) ?_
  intro pp ee ss mm below meth cc s₁ hx hby hml hZ hown hnm hret hlk X0 e0 hs0
  replace hown : ss.vm.findClass "com/example/cronopoly/cronopoly/ScheduleId" = some mm.cls := hown
  refine Go.cast (congrArg s₁.setTop (ef_cqe4_1 mm o q)) ?_
  have N0 := Fr.nil Z.heap.size
  show Go pp ee below _ (s₁.setTop (mkF mm 0 #[.val (.ref o), .val (.ref q), .unset] []))
  refine Go.aloadN X0 hx (hb hby d22_0) rfl rfl (q := 1) rfl ?_
  refine Go.instY X0 hx hZ hown (wd85 hw) e0 (Ins.self Eq_) (hb hby d22_1) (q := 4) rfl ?_
  intro T101 X101 e101
  refine Go.ifNo X101 hx (hb hby d22_4) (by decide) (q := 7) rfl ?_
  refine Go.aloadN X101 hx (hb hby d22_7) rfl rfl (q := 8) rfl ?_
  refine Go.castY X101 hx hZ hown (wd85 hw) e101 (Ins.self Eq_) (hb hby d22_8) (q := 11) rfl ?_
  intro T102 X102 e102
  refine Go.astoreN X102 hx (hb hby d22_11) rfl (l' := #[.val (.ref o), .val (.ref q), .val (.ref q)]) rfl (q := 12) rfl ?_
  refine Go.aloadN X102 hx (hb hby d22_12) rfl rfl (q := 13) rfl ?_
  refine Go.getF X102 hx hZ hown (host := "") (Or.inl (wd91 hw)) Via.refl e102 Fo (hb hby d22_13) (q := 16) rfl ?_
  intro T103 X103 e103
  refine Go.aloadN X103 hx (hb hby d22_16) rfl rfl (q := 17) rfl ?_
  refine Go.getF X103 hx hZ hown (host := "") (Or.inl (wd91 hw)) Via.refl e103 Fq (hb hby d22_17) (q := 20) rfl ?_
  intro T104 X104 e104
  refine Go.virt X104 hx hZ hown (wd110 hw) (wd99 hw) (notFace_of_selects (args := #[]) (mvT hZ (wd101 hw))) (wd101 hw) (wd100 hw) (wd10 hw) (wd102 hw) (by decide) (cse4_1 l Z a0 hw s t cs v1 v2 (k1) (k2) c0 c1 c2 c3 y h0 O0 Es Et Cs Ct Gs Gt V1 V2 nn SCS hcs he) e104 Es (by rw [hml]; rfl) (hb hby d22_20) (argsL := [(.ref t)]) (rest := []) (lenOf pd14 rfl) rfl rfl (W := 0) (by first | exact Nat.le_refl _ | decide) (by decide) (by decide) (by decide) (by decide) ?_
  intro v105 T105 L105 X105 hQ105
  obtain ⟨rfl, N105q, e105⟩ := hQ105
  have N105 := Fr.app N0 N105q
  refine Go.ifNo X105 hx (hb hby d22_23) (by decide) (q := 26) rfl ?_
  refine Go.iconst X105 hx (hb hby d22_26) (r := (1 : Int32)) rfl (q := 27) rfl ?_
  refine Go.goto X105 hx (hb hby d22_27) (q := 31) (by decide) (by decide) ?_
  exact Go.retI X105 hx hret hlk (by simp) rfl (hb hby d22_31) e105 (by decide) (by decide) ⟨rfl, N105, rfl⟩
def Q_cle4_0 (Z : State) (v1 : Addr) (v2 : Addr) (k1 : ClassId) (k2 : ClassId) (c0 : Int32) (c1 : Int32) (c2 : Int32) (c3 : Int32) (y : Int32) (h0 : Heap) (vR : Option Value) (hR : Heap) (LR : List Loc) : Prop := vR = some (.int (0 : Int32)) ∧ Fr Z.heap.size LR ∧ hR = h0
set_option maxRecDepth 65536 in
set_option maxHeartbeats 40000000 in
theorem cle4_0 (l : Launch) (Z : State) (a0 : Array Value) (hw : ∀ d ∈ tables_1, d.before a0 Z = true) (v1 : Addr) (v2 : Addr) (k1 : ClassId) (k2 : ClassId) (c0 : Int32) (c1 : Int32) (c2 : Int32) (c3 : Int32) (y : Int32) (h0 : Heap) (O0 : Ext Z.heap h0) (V1 : Arv Z h0 v1 k1 .byte (4 : Int32) [(.int c0), (.int c1), (.int c2), (.int c3)] (.int (0 : Int32))) (V2 : Arv Z h0 v2 k2 .byte (4 : Int32) [(.int c0), (.int c1), (.int c2), (.int y)] (.int (0 : Int32))) (he : ¬ (c3 = y)) :
    Ctr l Z h0 (⟨"java/lang/StringLatin1", "equals", "([B[B)Z"⟩ : MethodName) jdk_43_method_13_code 3 (some .boolean) [] ({ frames := 0, cells := 0, slots := 0, locals := 0 } : Room) #[(.ref v1), (.ref v2)] (Q_cle4_0 Z v1 v2 k1 k2 c0 c1 c2 c3 y h0) := by
  refine enter (plainFor_of_name pn6) ?_
  intro pp ee ss mm below meth cc s₁ hx hby hml hZ hown hnm hret hlk X0 e0 hs0
  replace hown : ss.vm.findClass "java/lang/StringLatin1" = some mm.cls := hown
  refine Go.cast (congrArg s₁.setTop (ef_cle4_0 mm v1 v2)) ?_
  have N0 := Fr.nil Z.heap.size
  show Go pp ee below _ (s₁.setTop (mkF mm 0 #[.val (.ref v1), .val (.ref v2), .unset] []))
  refine Go.aloadN X0 hx (hb hby d23_0) rfl rfl (q := 1) rfl ?_
  refine Go.alen X0 hx hZ e0 V1 (hb hby d23_1) ?_
  refine Go.aloadN X0 hx (hb hby d23_2) rfl rfl (q := 3) rfl ?_
  refine Go.alen X0 hx hZ e0 V2 (hb hby d23_3) ?_
  refine Go.icmpNo X0 hx (hb hby d23_4) (by decide) (q := 7) rfl ?_
  refine Go.iconst X0 hx (hb hby d23_7) (r := (0 : Int32)) rfl (q := 8) rfl ?_
  refine Go.istoreN X0 hx (hb hby d23_8) (l' := #[.val (.ref v1), .val (.ref v2), .val (.int (0 : Int32))]) rfl (q := 9) rfl ?_
  refine Go.iloadN X0 hx (hb hby d23_9) rfl (q := 10) rfl ?_
  refine Go.aloadN X0 hx (hb hby d23_10) rfl rfl (q := 11) rfl ?_
  refine Go.alen X0 hx hZ e0 V1 (hb hby d23_11) ?_
  refine Go.icmpNo X0 hx (hb hby d23_12) (by decide) (q := 15) rfl ?_
  refine Go.aloadN X0 hx (hb hby d23_15) rfl rfl (q := 16) rfl ?_
  refine Go.iloadN X0 hx (hb hby d23_16) rfl (q := 17) rfl ?_
  refine Go.bal X0 hx hZ e0 V1 ⟨by decide, by decide⟩ (v := (.int c0)) rfl (hb hby d23_17) ?_
  refine Go.aloadN X0 hx (hb hby d23_18) rfl rfl (q := 19) rfl ?_
  refine Go.iloadN X0 hx (hb hby d23_19) rfl (q := 20) rfl ?_
  refine Go.bal X0 hx hZ e0 V2 ⟨by decide, by decide⟩ (v := (.int c0)) rfl (hb hby d23_20) ?_
  refine Go.icmpYes X0 hx (hb hby d23_21) (Jvm.Free.XT.ii_eq_t rfl) (q := 26) (by decide) (by decide) ?_
  refine Go.iinc X0 hx (hb hby d23_26) rfl (r := (1 : Int32)) rfl (l' := #[.val (.ref v1), .val (.ref v2), .val (.int (1 : Int32))]) rfl (q := 29) rfl ?_
  refine Go.goto X0 hx (hb hby d23_29) (q := 9) (by decide) (by decide) ?_
  refine Go.iloadN X0 hx (hb hby d23_9) rfl (q := 10) rfl ?_
  refine Go.aloadN X0 hx (hb hby d23_10) rfl rfl (q := 11) rfl ?_
  refine Go.alen X0 hx hZ e0 V1 (hb hby d23_11) ?_
  refine Go.icmpNo X0 hx (hb hby d23_12) (by decide) (q := 15) rfl ?_
  refine Go.aloadN X0 hx (hb hby d23_15) rfl rfl (q := 16) rfl ?_
  refine Go.iloadN X0 hx (hb hby d23_16) rfl (q := 17) rfl ?_
  refine Go.bal X0 hx hZ e0 V1 ⟨by decide, by decide⟩ (v := (.int c1)) rfl (hb hby d23_17) ?_
  refine Go.aloadN X0 hx (hb hby d23_18) rfl rfl (q := 19) rfl ?_
  refine Go.iloadN X0 hx (hb hby d23_19) rfl (q := 20) rfl ?_
  refine Go.bal X0 hx hZ e0 V2 ⟨by decide, by decide⟩ (v := (.int c1)) rfl (hb hby d23_20) ?_
  refine Go.icmpYes X0 hx (hb hby d23_21) (Jvm.Free.XT.ii_eq_t rfl) (q := 26) (by decide) (by decide) ?_
  refine Go.iinc X0 hx (hb hby d23_26) rfl (r := (2 : Int32)) rfl (l' := #[.val (.ref v1), .val (.ref v2), .val (.int (2 : Int32))]) rfl (q := 29) rfl ?_
  refine Go.goto X0 hx (hb hby d23_29) (q := 9) (by decide) (by decide) ?_
  refine Go.iloadN X0 hx (hb hby d23_9) rfl (q := 10) rfl ?_
  refine Go.aloadN X0 hx (hb hby d23_10) rfl rfl (q := 11) rfl ?_
  refine Go.alen X0 hx hZ e0 V1 (hb hby d23_11) ?_
  refine Go.icmpNo X0 hx (hb hby d23_12) (by decide) (q := 15) rfl ?_
  refine Go.aloadN X0 hx (hb hby d23_15) rfl rfl (q := 16) rfl ?_
  refine Go.iloadN X0 hx (hb hby d23_16) rfl (q := 17) rfl ?_
  refine Go.bal X0 hx hZ e0 V1 ⟨by decide, by decide⟩ (v := (.int c2)) rfl (hb hby d23_17) ?_
  refine Go.aloadN X0 hx (hb hby d23_18) rfl rfl (q := 19) rfl ?_
  refine Go.iloadN X0 hx (hb hby d23_19) rfl (q := 20) rfl ?_
  refine Go.bal X0 hx hZ e0 V2 ⟨by decide, by decide⟩ (v := (.int c2)) rfl (hb hby d23_20) ?_
  refine Go.icmpYes X0 hx (hb hby d23_21) (Jvm.Free.XT.ii_eq_t rfl) (q := 26) (by decide) (by decide) ?_
  refine Go.iinc X0 hx (hb hby d23_26) rfl (r := (3 : Int32)) rfl (l' := #[.val (.ref v1), .val (.ref v2), .val (.int (3 : Int32))]) rfl (q := 29) rfl ?_
  refine Go.goto X0 hx (hb hby d23_29) (q := 9) (by decide) (by decide) ?_
  refine Go.iloadN X0 hx (hb hby d23_9) rfl (q := 10) rfl ?_
  refine Go.aloadN X0 hx (hb hby d23_10) rfl rfl (q := 11) rfl ?_
  refine Go.alen X0 hx hZ e0 V1 (hb hby d23_11) ?_
  refine Go.icmpNo X0 hx (hb hby d23_12) (by decide) (q := 15) rfl ?_
  refine Go.aloadN X0 hx (hb hby d23_15) rfl rfl (q := 16) rfl ?_
  refine Go.iloadN X0 hx (hb hby d23_16) rfl (q := 17) rfl ?_
  refine Go.bal X0 hx hZ e0 V1 ⟨by decide, by decide⟩ (v := (.int c3)) rfl (hb hby d23_17) ?_
  refine Go.aloadN X0 hx (hb hby d23_18) rfl rfl (q := 19) rfl ?_
  refine Go.iloadN X0 hx (hb hby d23_19) rfl (q := 20) rfl ?_
  refine Go.bal X0 hx hZ e0 V2 ⟨by decide, by decide⟩ (v := (.int y)) rfl (hb hby d23_20) ?_
  refine Go.icmpNo X0 hx (hb hby d23_21) (Jvm.Free.XT.ii_eq_f he) (q := 24) rfl ?_
  refine Go.iconst X0 hx (hb hby d23_24) (r := (0 : Int32)) rfl (q := 25) rfl ?_
  exact Go.retI X0 hx hret hlk (by simp) rfl (hb hby d23_25) e0 (by decide) (by decide) ⟨rfl, N0, rfl⟩
def Q_cse4_0 (Z : State) (s : Addr) (t : Addr) (cs : Int32) (v1 : Addr) (v2 : Addr) (k1 : ClassId) (k2 : ClassId) (c0 : Int32) (c1 : Int32) (c2 : Int32) (c3 : Int32) (y : Int32) (h0 : Heap) (vR : Option Value) (hR : Heap) (LR : List Loc) : Prop := vR = some (.int (0 : Int32)) ∧ Fr Z.heap.size LR ∧ hR = h0
set_option maxRecDepth 65536 in
set_option maxHeartbeats 40000000 in
theorem cse4_0 (l : Launch) (Z : State) (a0 : Array Value) (hw : ∀ d ∈ tables_1, d.before a0 Z = true) (s : Addr) (t : Addr) (cs : Int32) (v1 : Addr) (v2 : Addr) (k1 : ClassId) (k2 : ClassId) (c0 : Int32) (c1 : Int32) (c2 : Int32) (c3 : Int32) (y : Int32) (h0 : Heap) (O0 : Ext Z.heap h0) (Es : Exa Z h0 s "java/lang/String") (Et : Exa Z h0 t "java/lang/String") (Cs : Fld Z h0 s "java/lang/String" "coder" "B" (.int (0 : Int32))) (Ct : Fld Z h0 t "java/lang/String" "coder" "B" (.int (0 : Int32))) (Gs : Fld Z h0 s "java/lang/String" "value" "[B" (.ref v1)) (Gt : Fld Z h0 t "java/lang/String" "value" "[B" (.ref v2)) (V1 : Arv Z h0 v1 k1 .byte (4 : Int32) [(.int c0), (.int c1), (.int c2), (.int c3)] (.int (0 : Int32))) (V2 : Arv Z h0 v2 k2 .byte (4 : Int32) [(.int c0), (.int c1), (.int c2), (.int y)] (.int (0 : Int32))) (nn : s ≠ t) (SCS : Sta Z Z.heap "java/lang/String" "COMPACT_STRINGS" "Z" (.int cs)) (hcs : ¬ (cs = (0 : Int32))) (he : ¬ (c3 = y)) :
    Ctr l Z h0 (⟨"java/lang/String", "equals", "(Ljava/lang/Object;)Z"⟩ : MethodName) jdk_42_method_66_code 3 (some .boolean) [] ({ frames := 1, cells := 0, slots := 0, locals := 14 } : Room) #[(.ref s), (.ref t)] (Q_cse4_0 Z s t cs v1 v2 k1 k2 c0 c1 c2 c3 y h0) := by
  refine enter (plainFor_of_name pn2) ?_
  intro pp ee ss mm below meth cc s₁ hx hby hml hZ hown hnm hret hlk X0 e0 hs0
  replace hown : ss.vm.findClass "java/lang/String" = some mm.cls := hown
  refine Go.cast (congrArg s₁.setTop (ef_cse4_0 mm s t)) ?_
  have N0 := Fr.nil Z.heap.size
  show Go pp ee below _ (s₁.setTop (mkF mm 0 #[.val (.ref s), .val (.ref t), .unset] []))
  refine Go.aloadN X0 hx (hb hby d21_0) rfl rfl (q := 1) rfl ?_
  refine Go.aloadN X0 hx (hb hby d21_1) rfl rfl (q := 2) rfl ?_
  refine Go.acmp X0 hx rfl rfl (hb hby d21_2) (same := false) (decide_eq_false fun q => nn (Value.ref.inj q)) (q := 7) (by decide) (by decide) ?_
  refine Go.aloadN X0 hx (hb hby d21_7) rfl rfl (q := 8) rfl ?_
  refine Go.instY X0 hx hZ hown (wd111 hw) e0 (Ins.self Et) (hb hby d21_8) (q := 11) rfl ?_
  intro T101 X101 e101
  refine Go.ifNo X101 hx (hb hby d21_11) (by decide) (q := 14) rfl ?_
  refine Go.aloadN X101 hx (hb hby d21_14) rfl rfl (q := 15) rfl ?_
  refine Go.castY X101 hx hZ hown (wd111 hw) e101 (Ins.self Et) (hb hby d21_15) (q := 18) rfl ?_
  intro T102 X102 e102
  refine Go.astoreN X102 hx (hb hby d21_18) rfl (l' := #[.val (.ref s), .val (.ref t), .val (.ref t)]) rfl (q := 19) rfl ?_
  refine Go.getS X102 hx hZ hown (host := "") (Or.inl (wd22 hw)) Via.refl e102 (SCS.ext O0) (hb hby d21_19) (q := 22) rfl ?_
  intro T103 X103 e103
  refine Go.ifNo X103 hx (hb hby d21_22) (Jvm.Free.XT.i0_eq_f hcs) (q := 25) rfl ?_
  refine Go.aloadN X103 hx (hb hby d21_25) rfl rfl (q := 26) rfl ?_
  refine Go.getF X103 hx hZ hown (host := "") (Or.inl (wd34 hw)) Via.refl e103 Cs (hb hby d21_26) (q := 29) rfl ?_
  intro T104 X104 e104
  refine Go.aloadN X104 hx (hb hby d21_29) rfl rfl (q := 30) rfl ?_
  refine Go.getF X104 hx hZ hown (host := "") (Or.inl (wd34 hw)) Via.refl e104 Ct (hb hby d21_30) (q := 33) rfl ?_
  intro T105 X105 e105
  refine Go.icmpNo X105 hx (hb hby d21_33) (by decide) (q := 36) rfl ?_
  refine Go.aloadN X105 hx (hb hby d21_36) rfl rfl (q := 37) rfl ?_
  refine Go.getF X105 hx hZ hown (host := "") (Or.inl (wd36 hw)) Via.refl e105 Gs (hb hby d21_37) (q := 40) rfl ?_
  intro T106 X106 e106
  refine Go.aloadN X106 hx (hb hby d21_40) rfl rfl (q := 41) rfl ?_
  refine Go.getF X106 hx hZ hown (host := "") (Or.inl (wd36 hw)) Via.refl e106 Gt (hb hby d21_41) (q := 44) rfl ?_
  intro T107 X107 e107
  refine Go.callS X107 hx hZ hown (wd112 hw) (wd113 hw) (wd114 hw) (wd115 hw) (by decide) (cle4_0 l Z a0 hw v1 v2 (k1) (k2) c0 c1 c2 c3 y h0 O0 V1 V2 he) e107 (by rw [hml]; rfl) (hb hby d21_44) (argsL := [(.ref v1), (.ref v2)]) (rest := []) (lenOf pd15 rfl) rfl rfl (W := 0) (by first | exact Nat.le_refl _ | decide) (by decide) (by decide) (by decide) (by decide) ?_
  intro v108 T108 L108 X108 hQ108
  obtain ⟨rfl, N108q, e108⟩ := hQ108
  have N108 := Fr.app N0 N108q
  refine Go.ifYes X108 hx (hb hby d21_47) (by decide) (q := 54) (by decide) (by decide) ?_
  refine Go.iconst X108 hx (hb hby d21_54) (r := (0 : Int32)) rfl (q := 55) rfl ?_
  exact Go.retI X108 hx hret hlk (by simp) rfl (hb hby d21_55) e108 (by decide) (by decide) ⟨rfl, N108, rfl⟩
def Q_cqe4_0 (Z : State) (o : Addr) (q : Addr) (s : Addr) (t : Addr) (cs : Int32) (v1 : Addr) (v2 : Addr) (k1 : ClassId) (k2 : ClassId) (c0 : Int32) (c1 : Int32) (c2 : Int32) (c3 : Int32) (y : Int32) (h0 : Heap) (vR : Option Value) (hR : Heap) (LR : List Loc) : Prop := vR = some (.int (0 : Int32)) ∧ Fr Z.heap.size LR ∧ hR = h0
set_option maxRecDepth 65536 in
set_option maxHeartbeats 40000000 in
theorem cqe4_0 (l : Launch) (Z : State) (a0 : Array Value) (hw : ∀ d ∈ tables_1, d.before a0 Z = true) (o : Addr) (q : Addr) (s : Addr) (t : Addr) (cs : Int32) (v1 : Addr) (v2 : Addr) (k1 : ClassId) (k2 : ClassId) (c0 : Int32) (c1 : Int32) (c2 : Int32) (c3 : Int32) (y : Int32) (h0 : Heap) (O0 : Ext Z.heap h0) (Eq_ : Exa Z h0 q "com/example/cronopoly/cronopoly/ScheduleId") (Fo : Fld Z h0 o "com/example/cronopoly/cronopoly/ScheduleId" "text" "Ljava/lang/String;" (.ref s)) (Fq : Fld Z h0 q "com/example/cronopoly/cronopoly/ScheduleId" "text" "Ljava/lang/String;" (.ref t)) (Es : Exa Z h0 s "java/lang/String") (Et : Exa Z h0 t "java/lang/String") (Cs : Fld Z h0 s "java/lang/String" "coder" "B" (.int (0 : Int32))) (Ct : Fld Z h0 t "java/lang/String" "coder" "B" (.int (0 : Int32))) (Gs : Fld Z h0 s "java/lang/String" "value" "[B" (.ref v1)) (Gt : Fld Z h0 t "java/lang/String" "value" "[B" (.ref v2)) (V1 : Arv Z h0 v1 k1 .byte (4 : Int32) [(.int c0), (.int c1), (.int c2), (.int c3)] (.int (0 : Int32))) (V2 : Arv Z h0 v2 k2 .byte (4 : Int32) [(.int c0), (.int c1), (.int c2), (.int y)] (.int (0 : Int32))) (nn : s ≠ t) (SCS : Sta Z Z.heap "java/lang/String" "COMPACT_STRINGS" "Z" (.int cs)) (hcs : ¬ (cs = (0 : Int32))) (he : ¬ (c3 = y)) :
    Ctr l Z h0 (⟨"com/example/cronopoly/cronopoly/ScheduleId", "equals", "(Ljava/lang/Object;)Z"⟩ : MethodName) prog_16_method_7_code 3 (some .boolean) [] ({ frames := 2, cells := 0, slots := 0, locals := 28 } : Room) #[(.ref o), (.ref q)] (Q_cqe4_0 Z o q s t cs v1 v2 k1 k2 c0 c1 c2 c3 y h0) := by
  refine enter (plainFor_of_name pn5) ?_
  intro pp ee ss mm below meth cc s₁ hx hby hml hZ hown hnm hret hlk X0 e0 hs0
  replace hown : ss.vm.findClass "com/example/cronopoly/cronopoly/ScheduleId" = some mm.cls := hown
  refine Go.cast (congrArg s₁.setTop (ef_cqe4_0 mm o q)) ?_
  have N0 := Fr.nil Z.heap.size
  show Go pp ee below _ (s₁.setTop (mkF mm 0 #[.val (.ref o), .val (.ref q), .unset] []))
  refine Go.aloadN X0 hx (hb hby d22_0) rfl rfl (q := 1) rfl ?_
  refine Go.instY X0 hx hZ hown (wd85 hw) e0 (Ins.self Eq_) (hb hby d22_1) (q := 4) rfl ?_
  intro T101 X101 e101
  refine Go.ifNo X101 hx (hb hby d22_4) (by decide) (q := 7) rfl ?_
  refine Go.aloadN X101 hx (hb hby d22_7) rfl rfl (q := 8) rfl ?_
  refine Go.castY X101 hx hZ hown (wd85 hw) e101 (Ins.self Eq_) (hb hby d22_8) (q := 11) rfl ?_
  intro T102 X102 e102
  refine Go.astoreN X102 hx (hb hby d22_11) rfl (l' := #[.val (.ref o), .val (.ref q), .val (.ref q)]) rfl (q := 12) rfl ?_
  refine Go.aloadN X102 hx (hb hby d22_12) rfl rfl (q := 13) rfl ?_
  refine Go.getF X102 hx hZ hown (host := "") (Or.inl (wd91 hw)) Via.refl e102 Fo (hb hby d22_13) (q := 16) rfl ?_
  intro T103 X103 e103
  refine Go.aloadN X103 hx (hb hby d22_16) rfl rfl (q := 17) rfl ?_
  refine Go.getF X103 hx hZ hown (host := "") (Or.inl (wd91 hw)) Via.refl e103 Fq (hb hby d22_17) (q := 20) rfl ?_
  intro T104 X104 e104
  refine Go.virt X104 hx hZ hown (wd110 hw) (wd99 hw) (notFace_of_selects (args := #[]) (mvT hZ (wd101 hw))) (wd101 hw) (wd100 hw) (wd10 hw) (wd102 hw) (by decide) (cse4_0 l Z a0 hw s t cs v1 v2 (k1) (k2) c0 c1 c2 c3 y h0 O0 Es Et Cs Ct Gs Gt V1 V2 nn SCS hcs he) e104 Es (by rw [hml]; rfl) (hb hby d22_20) (argsL := [(.ref t)]) (rest := []) (lenOf pd14 rfl) rfl rfl (W := 0) (by first | exact Nat.le_refl _ | decide) (by decide) (by decide) (by decide) (by decide) ?_
  intro v105 T105 L105 X105 hQ105
  obtain ⟨rfl, N105q, e105⟩ := hQ105
  have N105 := Fr.app N0 N105q
  refine Go.ifYes X105 hx (hb hby d22_23) (by decide) (q := 30) (by decide) (by decide) ?_
  refine Go.iconst X105 hx (hb hby d22_30) (r := (0 : Int32)) rfl (q := 31) rfl ?_
  exact Go.retI X105 hx hret hlk (by simp) rfl (hb hby d22_31) e105 (by decide) (by decide) ⟨rfl, N105, rfl⟩
def Q_law0 (Z : State) (pn : Int32) (pa : Int32) (pb : Int32) (pd : Int32) (pe : Int32) (pf : Int32) (cs : Int32) (fm : Value) (h0 : Heap) (vR : Option Value) (hR : Heap) (LR : List Loc) : Prop := vR = some (.int (1 : Int32)) ∧ Fr Z.heap.size LR
set_option maxRecDepth 65536 in
set_option maxHeartbeats 40000000 in
theorem law0 (l : Launch) (Z : State) (a0 : Array Value) (hw : ∀ d ∈ tables_1, d.before a0 Z = true) (pn : Int32) (pa : Int32) (pb : Int32) (pd : Int32) (pe : Int32) (pf : Int32) (cs : Int32) (fm : Value) (h0 : Heap) (O0 : Ext Z.heap h0) (SCS : Sta Z Z.heap "java/lang/String" "COMPACT_STRINGS" "Z" (.int cs)) (SFM : Sta Z Z.heap "jdk/internal/util/Preconditions" "SIOOBE_FORMATTER" "Ljava/util/function/BiFunction;" fm) (hcs : ¬ (cs = (0 : Int32))) (hfm : fm.isRef = true) :
    CtrW l Z h0 x code maxLocals ret tables_1 room_1 #[(.int pn), (.int pa), (.int pb), (.int pd), (.int pe), (.int pf)] (Q_law0 Z pn pa pb pd pe pf cs fm h0) := by
  refine enterW (plainFor_of_name pn0) ?_
  intro pp ee ss mm below meth cc s₁ hx hby hml hZ hown hnm hret hlk X0 e0 hs0 hS
  replace hown : (ss.setVm ss.vm).vm.findClass "com/example/cronopoly/cronopoly/ScheduleIdOfPinLaw" = some mm.cls := hown
  have hKd := Nat.zero_le h0.size
  refine Go.cast (congrArg s₁.setTop (ef_law0 mm pn pa pb pd pe pf)) ?_
  have N0 := Fr.nil Z.heap.size
  show Go pp ee below _ (s₁.setTop (mkF mm 0 #[.val (.int pn), .val (.int pa), .val (.int pb), .val (.int pd), .val (.int pe), .val (.int pf), .unset, .unset, .unset, .unset, .unset, .unset, .unset, .unset, .unset, .unset, .unset, .unset, .unset] []))
  refine Go.iconst X0 hx (hb hby at_0) (r := (1 : Int32)) rfl (q := 1) rfl ?_
  refine Go.iloadN X0 hx (hb hby at_1) rfl (q := 2) rfl ?_
  refine Go.iconst X0 hx (hb hby at_2) (r := (3 : Int32)) rfl (q := 3) rfl ?_
  refine Go.iand X0 hx (hb hby at_3) rfl (q := 4) rfl ?_
  have hk := own_and3 pn
  generalize (pn &&& (3 : Int32)) = k at hk ⊢
  rcases hk with rfl | rfl | rfl | rfl
  · show Go pp ee below _ (s₁.setTop (mkF mm 4 #[.val (.int pn), .val (.int pa), .val (.int pb), .val (.int pd), .val (.int pe), .val (.int pf), .unset, .unset, .unset, .unset, .unset, .unset, .unset, .unset, .unset, .unset, .unset, .unset, .unset] [(.int (0 : Int32)), (.int (1 : Int32))]))
    refine Go.iadd X0 hx (hb hby at_4) (r := (1 : Int32)) rfl (q := 5) rfl ?_
    refine Go.istore X0 hx (hb hby at_5) (l' := #[.val (.int pn), .val (.int pa), .val (.int pb), .val (.int pd), .val (.int pe), .val (.int pf), .val (.int (1 : Int32)), .unset, .unset, .unset, .unset, .unset, .unset, .unset, .unset, .unset, .unset, .unset, .unset]) rfl (q := 7) rfl ?_
    refine Go.iloadN X0 hx (hb hby at_7) rfl (q := 8) rfl ?_
    refine Go.callS X0 hx hZ hown (wd0 hw) (wd1 hw) (wd2 hw) (wd3 hw) (by decide) (cidc l Z a0 hw pa h0 O0) e0 (by rw [hml]; rfl) (hb hby at_8) (argsL := [(.int pa)]) (rest := []) (lenOf pd16 rfl) rfl rfl (W := 0) (by first | exact Nat.le_refl _ | decide) (by decide) (by decide) (by decide) (by decide) ?_
    intro v101 T101 L101 X101 hQ101
    obtain ⟨c_101, rfl, N101q, e101, P101_0⟩ := hQ101
    have N101 := Fr.app N0 N101q
    refine Go.istore X101 hx (hb hby at_11) (l' := #[.val (.int pn), .val (.int pa), .val (.int pb), .val (.int pd), .val (.int pe), .val (.int pf), .val (.int (1 : Int32)), .val (.int c_101), .unset, .unset, .unset, .unset, .unset, .unset, .unset, .unset, .unset, .unset, .unset]) rfl (q := 13) rfl ?_
    refine Go.iloadN X101 hx (hb hby at_13) rfl (q := 14) rfl ?_
    refine Go.callS X101 hx hZ hown (wd0 hw) (wd1 hw) (wd2 hw) (wd3 hw) (by decide) (cidc l Z a0 hw pb h0 O0) e101 (by rw [hml]; rfl) (hb hby at_14) (argsL := [(.int pb)]) (rest := []) (lenOf pd16 rfl) rfl rfl (W := 0) (by first | exact Nat.le_refl _ | decide) (by decide) (by decide) (by decide) (by decide) ?_
    intro v102 T102 L102 X102 hQ102
    obtain ⟨c_102, rfl, N102q, e102, P102_0⟩ := hQ102
    have N102 := Fr.app N101 N102q
    refine Go.istore X102 hx (hb hby at_17) (l' := #[.val (.int pn), .val (.int pa), .val (.int pb), .val (.int pd), .val (.int pe), .val (.int pf), .val (.int (1 : Int32)), .val (.int c_101), .val (.int c_102), .unset, .unset, .unset, .unset, .unset, .unset, .unset, .unset, .unset, .unset]) rfl (q := 19) rfl ?_
    refine Go.iloadN X102 hx (hb hby at_19) rfl (q := 20) rfl ?_
    refine Go.callS X102 hx hZ hown (wd0 hw) (wd1 hw) (wd2 hw) (wd3 hw) (by decide) (cidc l Z a0 hw pd h0 O0) e102 (by rw [hml]; rfl) (hb hby at_20) (argsL := [(.int pd)]) (rest := []) (lenOf pd16 rfl) rfl rfl (W := 0) (by first | exact Nat.le_refl _ | decide) (by decide) (by decide) (by decide) (by decide) ?_
    intro v103 T103 L103 X103 hQ103
    obtain ⟨c_103, rfl, N103q, e103, P103_0⟩ := hQ103
    have N103 := Fr.app N102 N103q
    refine Go.istore X103 hx (hb hby at_23) (l' := #[.val (.int pn), .val (.int pa), .val (.int pb), .val (.int pd), .val (.int pe), .val (.int pf), .val (.int (1 : Int32)), .val (.int c_101), .val (.int c_102), .val (.int c_103), .unset, .unset, .unset, .unset, .unset, .unset, .unset, .unset, .unset]) rfl (q := 25) rfl ?_
    refine Go.iload X103 hx (hb hby at_25) rfl (q := 27) rfl ?_
    refine Go.callS X103 hx hZ hown (wd0 hw) (wd1 hw) (wd2 hw) (wd3 hw) (by decide) (cidc l Z a0 hw pe h0 O0) e103 (by rw [hml]; rfl) (hb hby at_27) (argsL := [(.int pe)]) (rest := []) (lenOf pd16 rfl) rfl rfl (W := 0) (by first | exact Nat.le_refl _ | decide) (by decide) (by decide) (by decide) (by decide) ?_
    intro v104 T104 L104 X104 hQ104
    obtain ⟨c_104, rfl, N104q, e104, P104_0⟩ := hQ104
    have N104 := Fr.app N103 N104q
    refine Go.istore X104 hx (hb hby at_30) (l' := #[.val (.int pn), .val (.int pa), .val (.int pb), .val (.int pd), .val (.int pe), .val (.int pf), .val (.int (1 : Int32)), .val (.int c_101), .val (.int c_102), .val (.int c_103), .val (.int c_104), .unset, .unset, .unset, .unset, .unset, .unset, .unset, .unset]) rfl (q := 32) rfl ?_
    refine Go.iload X104 hx (hb hby at_32) rfl (q := 34) rfl ?_
    refine Go.callS X104 hx hZ hown (wd0 hw) (wd1 hw) (wd2 hw) (wd3 hw) (by decide) (cidc l Z a0 hw pf h0 O0) e104 (by rw [hml]; rfl) (hb hby at_34) (argsL := [(.int pf)]) (rest := []) (lenOf pd16 rfl) rfl rfl (W := 0) (by first | exact Nat.le_refl _ | decide) (by decide) (by decide) (by decide) (by decide) ?_
    intro v105 T105 L105 X105 hQ105
    obtain ⟨c_105, rfl, N105q, e105, P105_0⟩ := hQ105
    have N105 := Fr.app N104 N105q
    refine Go.istore X105 hx (hb hby at_37) (l' := #[.val (.int pn), .val (.int pa), .val (.int pb), .val (.int pd), .val (.int pe), .val (.int pf), .val (.int (1 : Int32)), .val (.int c_101), .val (.int c_102), .val (.int c_103), .val (.int c_104), .val (.int c_105), .unset, .unset, .unset, .unset, .unset, .unset, .unset]) rfl (q := 39) rfl ?_
    refine Go.iload X105 hx (hb hby at_39) rfl (q := 41) rfl ?_
    refine Go.iload X105 hx (hb hby at_41) rfl (q := 43) rfl ?_
    refine Go.iload X105 hx (hb hby at_43) rfl (q := 45) rfl ?_
    refine Go.iload X105 hx (hb hby at_45) rfl (q := 47) rfl ?_
    refine Go.iload X105 hx (hb hby at_47) rfl (q := 49) rfl ?_
    refine Go.callS X105 hx hZ hown (wd5 hw) (wd6 hw) (wd2 hw) (wd7 hw) (by decide) (cmk1 l Z a0 hw cs c_101 c_102 c_103 c_104 h0 O0 SCS hcs P101_0) e105 (by rw [hml]; rfl) (hb hby at_49) (argsL := [(.int (1 : Int32)), (.int c_101), (.int c_102), (.int c_103), (.int c_104)]) (rest := []) (lenOf pd17 rfl) rfl rfl (W := 0) (by first | exact Nat.le_refl _ | decide) (by decide) (by decide) (by decide) (by decide) ?_
    intro v106 T106 L106 X106 hQ106
    obtain ⟨h106, e106⟩ : ∃ z, T106.heap = z := ⟨_, rfl⟩
    rw [e106] at hQ106
    obtain ⟨s_106, b_106, kb_106, rfl, N106q, K106, fr106_s, fr106_b, P106_0, P106_1, P106_2, P106_3⟩ := hQ106
    have N106 := Fr.app N105 N106q
    have g_s_106 : Z.heap.size ≤ s_106 := Nat.le_trans O0.1 fr106_s
    have g_b_106 : Z.heap.size ≤ b_106 := Nat.le_trans O0.1 fr106_b
    replace hKd := Nat.le_trans hKd K106.1
    have OK106 := ext_keep O0 K106 all0
    refine Go.astore X106 hx (hb hby at_52) rfl (l' := #[.val (.int pn), .val (.int pa), .val (.int pb), .val (.int pd), .val (.int pe), .val (.int pf), .val (.int (1 : Int32)), .val (.int c_101), .val (.int c_102), .val (.int c_103), .val (.int c_104), .val (.int c_105), .val (.ref s_106), .unset, .unset, .unset, .unset, .unset, .unset]) rfl (q := 54) rfl ?_
    refine Go.iload X106 hx (hb hby at_54) rfl (q := 56) rfl ?_
    refine Go.iconst X106 hx (hb hby at_56) (r := (1 : Int32)) rfl (q := 57) rfl ?_
    refine Go.icmpNo X106 hx (hb hby at_57) (by decide) (q := 60) rfl ?_
    refine Go.iload X106 hx (hb hby at_60) rfl (q := 62) rfl ?_
    refine Go.goto X106 hx (hb hby at_62) (q := 89) (by decide) (by decide) ?_
    refine Go.istore X106 hx (hb hby at_89) (l' := #[.val (.int pn), .val (.int pa), .val (.int pb), .val (.int pd), .val (.int pe), .val (.int pf), .val (.int (1 : Int32)), .val (.int c_101), .val (.int c_102), .val (.int c_103), .val (.int c_104), .val (.int c_105), .val (.ref s_106), .val (.int c_101), .unset, .unset, .unset, .unset, .unset]) rfl (q := 91) rfl ?_
    refine Go.iload X106 hx (hb hby at_91) rfl (q := 93) rfl ?_
    refine Go.iconst X106 hx (hb hby at_93) (r := (1 : Int32)) rfl (q := 94) rfl ?_
    refine Go.icmpNo X106 hx (hb hby at_94) (by decide) (q := 97) rfl ?_
    refine Go.iconst X106 hx (hb hby at_97) (r := (1 : Int32)) rfl (q := 98) rfl ?_
    refine Go.iload X106 hx (hb hby at_98) rfl (q := 100) rfl ?_
    refine Go.iload X106 hx (hb hby at_100) rfl (q := 102) rfl ?_
    refine Go.iload X106 hx (hb hby at_102) rfl (q := 104) rfl ?_
    refine Go.iload X106 hx (hb hby at_104) rfl (q := 106) rfl ?_
    refine Go.callS X106 hx hZ hown (wd5 hw) (wd6 hw) (wd2 hw) (wd7 hw) (by decide) (cmk1 l Z a0 hw cs c_105 c_102 c_103 c_104 h106 OK106 SCS hcs P105_0) e106 (by rw [hml]; rfl) (hb hby at_106) (argsL := [(.int (1 : Int32)), (.int c_105), (.int c_102), (.int c_103), (.int c_104)]) (rest := []) (lenOf pd17 rfl) rfl rfl (W := 0) (by first | exact Nat.le_refl _ | decide) (by decide) (by decide) (by decide) (by decide) ?_
    intro v107 T107 L107 X107 hQ107
    obtain ⟨h107, e107⟩ : ∃ z, T107.heap = z := ⟨_, rfl⟩
    rw [e107] at hQ107
    obtain ⟨s_107, b_107, kb_107, rfl, N107q, K107, fr107_s, fr107_b, P107_0, P107_1, P107_2, P107_3⟩ := hQ107
    have N107 := Fr.app N106 N107q
    have ne_s_106_s_107 : s_106 ≠ s_107 := ne_new P106_0.lt fr107_s
    have ne_b_106_s_107 : b_106 ≠ s_107 := ne_new P106_3.lt fr107_s
    have g_s_107 : Z.heap.size ≤ s_107 := Nat.le_trans OK106.1 fr107_s
    have ne_s_106_b_107 : s_106 ≠ b_107 := ne_new P106_0.lt fr107_b
    have ne_b_106_b_107 : b_106 ≠ b_107 := ne_new P106_3.lt fr107_b
    have g_b_107 : Z.heap.size ≤ b_107 := Nat.le_trans OK106.1 fr107_b
    replace hKd := Nat.le_trans hKd K107.1
    replace P106_0 := P106_0.keep K107
    replace P106_1 := P106_1.keep K107 nin0
    replace P106_2 := P106_2.keep K107 nin0
    replace P106_3 := P106_3.keep K107 nin0
    have OK107 := ext_keep OK106 K107 all0
    refine Go.astore X107 hx (hb hby at_109) rfl (l' := #[.val (.int pn), .val (.int pa), .val (.int pb), .val (.int pd), .val (.int pe), .val (.int pf), .val (.int (1 : Int32)), .val (.int c_101), .val (.int c_102), .val (.int c_103), .val (.int c_104), .val (.int c_105), .val (.ref s_106), .val (.int c_101), .val (.ref s_107), .unset, .unset, .unset, .unset]) rfl (q := 111) rfl ?_
    refine Go.goto X107 hx (hb hby at_111) (q := 174) (by decide) (by decide) ?_
    refine Go.aload X107 hx (hb hby at_174) rfl rfl (q := 176) rfl ?_
    refine Go.callSW X107 hx hZ hown hS hKd (wd38 hw) (wd39 hw) (wd40 hw) (wd41 hw) (by decide) (cof1 l Z a0 hw s_106 b_106 (kb_106) cs fm c_101 h107 OK107 P106_0 P106_1 P106_2 P106_3 SCS SFM hcs hfm P101_0) e107 (by rw [hml]; rfl) (hb hby at_176) (argsL := [(.ref s_106)]) (rest := []) (lenOf pd18 rfl) rfl rfl (W := 0) (by first | exact Nat.le_refl _ | decide) (by decide) (by decide) (by decide) (by decide) ?_
    intro v108 T108 L108 k108 X108 hS hKd hZ hown hQ108
    obtain ⟨h108, e108⟩ : ∃ z, T108.heap = z := ⟨_, rfl⟩
    rw [e108] at hQ108 hKd
    obtain ⟨b_108, rfl, N108q, K108, fr108_b, P108_0, P108_1⟩ := hQ108
    have N108 := Fr.app N107 N108q
    have ne_s_106_b_108 : s_106 ≠ b_108 := ne_new P106_0.lt fr108_b
    have ne_b_106_b_108 : b_106 ≠ b_108 := ne_new P106_3.lt fr108_b
    have ne_s_107_b_108 : s_107 ≠ b_108 := ne_new P107_0.lt fr108_b
    have ne_b_107_b_108 : b_107 ≠ b_108 := ne_new P107_3.lt fr108_b
    have g_b_108 : Z.heap.size ≤ b_108 := Nat.le_trans OK107.1 fr108_b
    replace P106_0 := P106_0.keep K108
    replace P106_1 := P106_1.keep K108 nin0
    replace P106_2 := P106_2.keep K108 nin0
    replace P106_3 := P106_3.keep K108 nin0
    replace P107_0 := P107_0.keep K108
    replace P107_1 := P107_1.keep K108 nin0
    replace P107_2 := P107_2.keep K108 nin0
    replace P107_3 := P107_3.keep K108 nin0
    have OK108 := ext_keep OK107 K108 all0
    refine Go.astore X108 hx (hb hby at_179) rfl (l' := #[.val (.int pn), .val (.int pa), .val (.int pb), .val (.int pd), .val (.int pe), .val (.int pf), .val (.int (1 : Int32)), .val (.int c_101), .val (.int c_102), .val (.int c_103), .val (.int c_104), .val (.int c_105), .val (.ref s_106), .val (.int c_101), .val (.ref s_107), .val (.ref b_108), .unset, .unset, .unset]) rfl (q := 181) rfl ?_
    refine Go.aload X108 hx (hb hby at_181) rfl rfl (q := 183) rfl ?_
    refine Go.callSW X108 hx hZ hown hS hKd (wd38 hw) (wd39 hw) (wd40 hw) (wd41 hw) (by decide) (cof1 l Z a0 hw s_106 b_106 (kb_106) cs fm c_101 h108 OK108 P106_0 P106_1 P106_2 P106_3 SCS SFM hcs hfm P101_0) e108 (by rw [hml]; rfl) (hb hby at_183) (argsL := [(.ref s_106)]) (rest := []) (lenOf pd18 rfl) rfl rfl (W := 0) (by first | exact Nat.le_refl _ | decide) (by decide) (by decide) (by decide) (by decide) ?_
    intro v109 T109 L109 k109 X109 hS hKd hZ hown hQ109
    obtain ⟨h109, e109⟩ : ∃ z, T109.heap = z := ⟨_, rfl⟩
    rw [e109] at hQ109 hKd
    obtain ⟨b_109, rfl, N109q, K109, fr109_b, P109_0, P109_1⟩ := hQ109
    have N109 := Fr.app N108 N109q
    have ne_s_106_b_109 : s_106 ≠ b_109 := ne_new P106_0.lt fr109_b
    have ne_b_106_b_109 : b_106 ≠ b_109 := ne_new P106_3.lt fr109_b
    have ne_s_107_b_109 : s_107 ≠ b_109 := ne_new P107_0.lt fr109_b
    have ne_b_107_b_109 : b_107 ≠ b_109 := ne_new P107_3.lt fr109_b
    have ne_b_108_b_109 : b_108 ≠ b_109 := ne_new P108_0.lt fr109_b
    have g_b_109 : Z.heap.size ≤ b_109 := Nat.le_trans OK108.1 fr109_b
    replace P106_0 := P106_0.keep K109
    replace P106_1 := P106_1.keep K109 nin0
    replace P106_2 := P106_2.keep K109 nin0
    replace P106_3 := P106_3.keep K109 nin0
    replace P107_0 := P107_0.keep K109
    replace P107_1 := P107_1.keep K109 nin0
    replace P107_2 := P107_2.keep K109 nin0
    replace P107_3 := P107_3.keep K109 nin0
    replace P108_0 := P108_0.keep K109
    replace P108_1 := P108_1.keep K109 nin0
    have OK109 := ext_keep OK108 K109 all0
    refine Go.astore X109 hx (hb hby at_186) rfl (l' := #[.val (.int pn), .val (.int pa), .val (.int pb), .val (.int pd), .val (.int pe), .val (.int pf), .val (.int (1 : Int32)), .val (.int c_101), .val (.int c_102), .val (.int c_103), .val (.int c_104), .val (.int c_105), .val (.ref s_106), .val (.int c_101), .val (.ref s_107), .val (.ref b_108), .val (.ref b_109), .unset, .unset]) rfl (q := 188) rfl ?_
    refine Go.aload X109 hx (hb hby at_188) rfl rfl (q := 190) rfl ?_
    refine Go.callSW X109 hx hZ hown hS hKd (wd38 hw) (wd39 hw) (wd40 hw) (wd41 hw) (by decide) (cof1 l Z a0 hw s_107 b_107 (kb_107) cs fm c_105 h109 OK109 P107_0 P107_1 P107_2 P107_3 SCS SFM hcs hfm P105_0) e109 (by rw [hml]; rfl) (hb hby at_190) (argsL := [(.ref s_107)]) (rest := []) (lenOf pd18 rfl) rfl rfl (W := 0) (by first | exact Nat.le_refl _ | decide) (by decide) (by decide) (by decide) (by decide) ?_
    intro v110 T110 L110 k110 X110 hS hKd hZ hown hQ110
    obtain ⟨h110, e110⟩ : ∃ z, T110.heap = z := ⟨_, rfl⟩
    rw [e110] at hQ110 hKd
    obtain ⟨b_110, rfl, N110q, K110, fr110_b, P110_0, P110_1⟩ := hQ110
    have N110 := Fr.app N109 N110q
    have ne_s_106_b_110 : s_106 ≠ b_110 := ne_new P106_0.lt fr110_b
    have ne_b_106_b_110 : b_106 ≠ b_110 := ne_new P106_3.lt fr110_b
    have ne_s_107_b_110 : s_107 ≠ b_110 := ne_new P107_0.lt fr110_b
    have ne_b_107_b_110 : b_107 ≠ b_110 := ne_new P107_3.lt fr110_b
    have ne_b_108_b_110 : b_108 ≠ b_110 := ne_new P108_0.lt fr110_b
    have ne_b_109_b_110 : b_109 ≠ b_110 := ne_new P109_0.lt fr110_b
    have g_b_110 : Z.heap.size ≤ b_110 := Nat.le_trans OK109.1 fr110_b
    replace P106_0 := P106_0.keep K110
    replace P106_1 := P106_1.keep K110 nin0
    replace P106_2 := P106_2.keep K110 nin0
    replace P106_3 := P106_3.keep K110 nin0
    replace P107_0 := P107_0.keep K110
    replace P107_1 := P107_1.keep K110 nin0
    replace P107_2 := P107_2.keep K110 nin0
    replace P107_3 := P107_3.keep K110 nin0
    replace P108_0 := P108_0.keep K110
    replace P108_1 := P108_1.keep K110 nin0
    replace P109_0 := P109_0.keep K110
    replace P109_1 := P109_1.keep K110 nin0
    have OK110 := ext_keep OK109 K110 all0
    refine Go.astore X110 hx (hb hby at_193) rfl (l' := #[.val (.int pn), .val (.int pa), .val (.int pb), .val (.int pd), .val (.int pe), .val (.int pf), .val (.int (1 : Int32)), .val (.int c_101), .val (.int c_102), .val (.int c_103), .val (.int c_104), .val (.int c_105), .val (.ref s_106), .val (.int c_101), .val (.ref s_107), .val (.ref b_108), .val (.ref b_109), .val (.ref b_110), .unset]) rfl (q := 195) rfl ?_
    refine Go.aload X110 hx (hb hby at_195) rfl rfl (q := 197) rfl ?_
    refine Go.virt X110 hx hZ hown (wd93 hw) (wd94 hw) (notFace_of_selects (args := #[]) (mvT hZ (wd96 hw))) (wd96 hw) (wd95 hw) (wd40 hw) (wd97 hw) (by decide) (ctos l Z a0 hw b_108 s_106 h110 OK110 P108_1) e110 P108_0 (by rw [hml]; rfl) (hb hby at_197) (argsL := []) (rest := []) (lenOf pd19 rfl) rfl rfl (W := 0) (by first | exact Nat.le_refl _ | decide) (by decide) (by decide) (by decide) (by decide) ?_
    intro v111 T111 L111 X111 hQ111
    obtain ⟨rfl, N111q, e111⟩ := hQ111
    have N111 := Fr.app N110 N111q
    refine Go.astore X111 hx (hb hby at_200) rfl (l' := #[.val (.int pn), .val (.int pa), .val (.int pb), .val (.int pd), .val (.int pe), .val (.int pf), .val (.int (1 : Int32)), .val (.int c_101), .val (.int c_102), .val (.int c_103), .val (.int c_104), .val (.int c_105), .val (.ref s_106), .val (.int c_101), .val (.ref s_107), .val (.ref b_108), .val (.ref b_109), .val (.ref b_110), .val (.ref s_106)]) rfl (q := 202) rfl ?_
    refine Go.aload X111 hx (hb hby at_202) rfl rfl (q := 204) rfl ?_
    refine Go.aload X111 hx (hb hby at_204) rfl rfl (q := 206) rfl ?_
    refine Go.virt X111 hx hZ hown (wd98 hw) (wd99 hw) (notFace_of_selects (args := #[]) (mvT hZ (wd101 hw))) (wd101 hw) (wd100 hw) (wd10 hw) (wd102 hw) (by decide) (ceqs l Z a0 hw s_106 h110 OK110) e111 P106_0 (by rw [hml]; rfl) (hb hby at_206) (argsL := [(.ref s_106)]) (rest := []) (lenOf pd14 rfl) rfl rfl (W := 0) (by first | exact Nat.le_refl _ | decide) (by decide) (by decide) (by decide) (by decide) ?_
    intro v112 T112 L112 X112 hQ112
    obtain ⟨rfl, N112q, e112⟩ := hQ112
    have N112 := Fr.app N111 N112q
    refine Go.ifNo X112 hx (hb hby at_209) (by decide) (q := 212) rfl ?_
    refine Go.aload X112 hx (hb hby at_212) rfl rfl (q := 214) rfl ?_
    refine Go.virt X112 hx hZ hown (wd103 hw) (wd55 hw) (notFace_of_selects (args := #[]) (mvT hZ (wd57 hw))) (wd57 hw) (wd56 hw) (wd10 hw) (wd58 hw) (by decide) (clen l Z a0 hw s_106 cs b_106 (kb_106) ((1 : Int32)) ([(.int c_101)]) h110 OK110 P106_0 P106_1 P106_2 P106_3 SCS hcs) e112 P106_0 (by rw [hml]; rfl) (hb hby at_214) (argsL := []) (rest := []) (lenOf pd10 rfl) rfl rfl (W := 0) (by first | exact Nat.le_refl _ | decide) (by decide) (by decide) (by decide) (by decide) ?_
    intro v113 T113 L113 X113 hQ113
    obtain ⟨rfl, N113q, e113⟩ := hQ113
    have N113 := Fr.app N112 N113q
    refine Go.iload X113 hx (hb hby at_217) rfl (q := 219) rfl ?_
    refine Go.icmpNo X113 hx (hb hby at_219) (by decide) (q := 222) rfl ?_
    refine Go.aload X113 hx (hb hby at_222) rfl rfl (q := 224) rfl ?_
    refine Go.aload X113 hx (hb hby at_224) rfl rfl (q := 226) rfl ?_
    refine Go.virt X113 hx hZ hown (wd104 hw) (wd105 hw) (notFace_of_selects (args := #[]) (mvT hZ (wd107 hw))) (wd107 hw) (wd106 hw) (wd40 hw) (wd108 hw) (by decide) (cqes l Z a0 hw b_108 b_109 s_106 h110 OK110 P109_0 P108_1 P109_1 P106_0) e113 P108_0 (by rw [hml]; rfl) (hb hby at_226) (argsL := [(.ref b_109)]) (rest := []) (lenOf pd14 rfl) rfl rfl (W := 0) (by first | exact Nat.le_refl _ | decide) (by decide) (by decide) (by decide) (by decide) ?_
    intro v114 T114 L114 X114 hQ114
    obtain ⟨rfl, N114q, e114⟩ := hQ114
    have N114 := Fr.app N113 N114q
    refine Go.ifNo X114 hx (hb hby at_229) (by decide) (q := 232) rfl ?_
    by_cases hc115 : c_101 = c_105
    · show Go pp ee below _ (T114.setTop (mkF mm 232 #[.val (.int pn), .val (.int pa), .val (.int pb), .val (.int pd), .val (.int pe), .val (.int pf), .val (.int (1 : Int32)), .val (.int c_101), .val (.int c_102), .val (.int c_103), .val (.int c_104), .val (.int c_105), .val (.ref s_106), .val (.int c_101), .val (.ref s_107), .val (.ref b_108), .val (.ref b_109), .val (.ref b_110), .val (.ref s_106)] []))
      refine Go.aload X114 hx (hb hby at_232) rfl rfl (q := 234) rfl ?_
      refine Go.aload X114 hx (hb hby at_234) rfl rfl (q := 236) rfl ?_
      refine Go.virt X114 hx hZ hown (wd104 hw) (wd105 hw) (notFace_of_selects (args := #[]) (mvT hZ (wd107 hw))) (wd107 hw) (wd106 hw) (wd40 hw) (wd108 hw) (by decide) (cqe1_1 l Z a0 hw b_108 b_110 s_106 s_107 cs b_106 b_107 (kb_106) (kb_107) c_101 c_105 h110 OK110 P110_0 P108_1 P110_1 P106_0 P107_0 P106_1 P107_1 P106_2 P107_2 P106_3 P107_3 ne_s_106_s_107 SCS hcs hc115) e114 P108_0 (by rw [hml]; rfl) (hb hby at_236) (argsL := [(.ref b_110)]) (rest := []) (lenOf pd14 rfl) rfl rfl (W := 0) (by first | exact Nat.le_refl _ | decide) (by decide) (by decide) (by decide) (by decide) ?_
      intro v116 T116 L116 X116 hQ116
      obtain ⟨rfl, N116q, e116⟩ := hQ116
      have N116 := Fr.app N114 N116q
      refine Go.iload X116 hx (hb hby at_239) rfl (q := 241) rfl ?_
      refine Go.iload X116 hx (hb hby at_241) rfl (q := 243) rfl ?_
      refine Go.icmpNo X116 hx (hb hby at_243) (Jvm.Free.XT.ii_ne_f hc115) (q := 246) rfl ?_
      refine Go.iconst X116 hx (hb hby at_246) (r := (1 : Int32)) rfl (q := 247) rfl ?_
      refine Go.goto X116 hx (hb hby at_247) (q := 251) (by decide) (by decide) ?_
      refine Go.icmpNo X116 hx (hb hby at_251) (by decide) (q := 254) rfl ?_
      refine Go.iconst X116 hx (hb hby at_254) (r := (1 : Int32)) rfl (q := 255) rfl ?_
      refine Go.goto X116 hx (hb hby at_255) (q := 259) (by decide) (by decide) ?_
      exact Go.retIW X116 hx hS hKd hret hlk (by simp) rfl (hb hby at_259) e116 (by decide) (by decide) ⟨rfl, N116⟩
    · show Go pp ee below _ (T114.setTop (mkF mm 232 #[.val (.int pn), .val (.int pa), .val (.int pb), .val (.int pd), .val (.int pe), .val (.int pf), .val (.int (1 : Int32)), .val (.int c_101), .val (.int c_102), .val (.int c_103), .val (.int c_104), .val (.int c_105), .val (.ref s_106), .val (.int c_101), .val (.ref s_107), .val (.ref b_108), .val (.ref b_109), .val (.ref b_110), .val (.ref s_106)] []))
      refine Go.aload X114 hx (hb hby at_232) rfl rfl (q := 234) rfl ?_
      refine Go.aload X114 hx (hb hby at_234) rfl rfl (q := 236) rfl ?_
      refine Go.virt X114 hx hZ hown (wd104 hw) (wd105 hw) (notFace_of_selects (args := #[]) (mvT hZ (wd107 hw))) (wd107 hw) (wd106 hw) (wd40 hw) (wd108 hw) (by decide) (cqe1_0 l Z a0 hw b_108 b_110 s_106 s_107 cs b_106 b_107 (kb_106) (kb_107) c_101 c_105 h110 OK110 P110_0 P108_1 P110_1 P106_0 P107_0 P106_1 P107_1 P106_2 P107_2 P106_3 P107_3 ne_s_106_s_107 SCS hcs hc115) e114 P108_0 (by rw [hml]; rfl) (hb hby at_236) (argsL := [(.ref b_110)]) (rest := []) (lenOf pd14 rfl) rfl rfl (W := 0) (by first | exact Nat.le_refl _ | decide) (by decide) (by decide) (by decide) (by decide) ?_
      intro v117 T117 L117 X117 hQ117
      obtain ⟨rfl, N117q, e117⟩ := hQ117
      have N117 := Fr.app N114 N117q
      refine Go.iload X117 hx (hb hby at_239) rfl (q := 241) rfl ?_
      refine Go.iload X117 hx (hb hby at_241) rfl (q := 243) rfl ?_
      refine Go.icmpYes X117 hx (hb hby at_243) (Jvm.Free.XT.ii_ne_t hc115) (q := 250) (by decide) (by decide) ?_
      refine Go.iconst X117 hx (hb hby at_250) (r := (0 : Int32)) rfl (q := 251) rfl ?_
      refine Go.icmpNo X117 hx (hb hby at_251) (by decide) (q := 254) rfl ?_
      refine Go.iconst X117 hx (hb hby at_254) (r := (1 : Int32)) rfl (q := 255) rfl ?_
      refine Go.goto X117 hx (hb hby at_255) (q := 259) (by decide) (by decide) ?_
      exact Go.retIW X117 hx hS hKd hret hlk (by simp) rfl (hb hby at_259) e117 (by decide) (by decide) ⟨rfl, N117⟩
  · show Go pp ee below _ (s₁.setTop (mkF mm 4 #[.val (.int pn), .val (.int pa), .val (.int pb), .val (.int pd), .val (.int pe), .val (.int pf), .unset, .unset, .unset, .unset, .unset, .unset, .unset, .unset, .unset, .unset, .unset, .unset, .unset] [(.int (1 : Int32)), (.int (1 : Int32))]))
    refine Go.iadd X0 hx (hb hby at_4) (r := (2 : Int32)) rfl (q := 5) rfl ?_
    refine Go.istore X0 hx (hb hby at_5) (l' := #[.val (.int pn), .val (.int pa), .val (.int pb), .val (.int pd), .val (.int pe), .val (.int pf), .val (.int (2 : Int32)), .unset, .unset, .unset, .unset, .unset, .unset, .unset, .unset, .unset, .unset, .unset, .unset]) rfl (q := 7) rfl ?_
    refine Go.iloadN X0 hx (hb hby at_7) rfl (q := 8) rfl ?_
    refine Go.callS X0 hx hZ hown (wd0 hw) (wd1 hw) (wd2 hw) (wd3 hw) (by decide) (cidc l Z a0 hw pa h0 O0) e0 (by rw [hml]; rfl) (hb hby at_8) (argsL := [(.int pa)]) (rest := []) (lenOf pd16 rfl) rfl rfl (W := 0) (by first | exact Nat.le_refl _ | decide) (by decide) (by decide) (by decide) (by decide) ?_
    intro v118 T118 L118 X118 hQ118
    obtain ⟨c_118, rfl, N118q, e118, P118_0⟩ := hQ118
    have N118 := Fr.app N0 N118q
    refine Go.istore X118 hx (hb hby at_11) (l' := #[.val (.int pn), .val (.int pa), .val (.int pb), .val (.int pd), .val (.int pe), .val (.int pf), .val (.int (2 : Int32)), .val (.int c_118), .unset, .unset, .unset, .unset, .unset, .unset, .unset, .unset, .unset, .unset, .unset]) rfl (q := 13) rfl ?_
    refine Go.iloadN X118 hx (hb hby at_13) rfl (q := 14) rfl ?_
    refine Go.callS X118 hx hZ hown (wd0 hw) (wd1 hw) (wd2 hw) (wd3 hw) (by decide) (cidc l Z a0 hw pb h0 O0) e118 (by rw [hml]; rfl) (hb hby at_14) (argsL := [(.int pb)]) (rest := []) (lenOf pd16 rfl) rfl rfl (W := 0) (by first | exact Nat.le_refl _ | decide) (by decide) (by decide) (by decide) (by decide) ?_
    intro v119 T119 L119 X119 hQ119
    obtain ⟨c_119, rfl, N119q, e119, P119_0⟩ := hQ119
    have N119 := Fr.app N118 N119q
    refine Go.istore X119 hx (hb hby at_17) (l' := #[.val (.int pn), .val (.int pa), .val (.int pb), .val (.int pd), .val (.int pe), .val (.int pf), .val (.int (2 : Int32)), .val (.int c_118), .val (.int c_119), .unset, .unset, .unset, .unset, .unset, .unset, .unset, .unset, .unset, .unset]) rfl (q := 19) rfl ?_
    refine Go.iloadN X119 hx (hb hby at_19) rfl (q := 20) rfl ?_
    refine Go.callS X119 hx hZ hown (wd0 hw) (wd1 hw) (wd2 hw) (wd3 hw) (by decide) (cidc l Z a0 hw pd h0 O0) e119 (by rw [hml]; rfl) (hb hby at_20) (argsL := [(.int pd)]) (rest := []) (lenOf pd16 rfl) rfl rfl (W := 0) (by first | exact Nat.le_refl _ | decide) (by decide) (by decide) (by decide) (by decide) ?_
    intro v120 T120 L120 X120 hQ120
    obtain ⟨c_120, rfl, N120q, e120, P120_0⟩ := hQ120
    have N120 := Fr.app N119 N120q
    refine Go.istore X120 hx (hb hby at_23) (l' := #[.val (.int pn), .val (.int pa), .val (.int pb), .val (.int pd), .val (.int pe), .val (.int pf), .val (.int (2 : Int32)), .val (.int c_118), .val (.int c_119), .val (.int c_120), .unset, .unset, .unset, .unset, .unset, .unset, .unset, .unset, .unset]) rfl (q := 25) rfl ?_
    refine Go.iload X120 hx (hb hby at_25) rfl (q := 27) rfl ?_
    refine Go.callS X120 hx hZ hown (wd0 hw) (wd1 hw) (wd2 hw) (wd3 hw) (by decide) (cidc l Z a0 hw pe h0 O0) e120 (by rw [hml]; rfl) (hb hby at_27) (argsL := [(.int pe)]) (rest := []) (lenOf pd16 rfl) rfl rfl (W := 0) (by first | exact Nat.le_refl _ | decide) (by decide) (by decide) (by decide) (by decide) ?_
    intro v121 T121 L121 X121 hQ121
    obtain ⟨c_121, rfl, N121q, e121, P121_0⟩ := hQ121
    have N121 := Fr.app N120 N121q
    refine Go.istore X121 hx (hb hby at_30) (l' := #[.val (.int pn), .val (.int pa), .val (.int pb), .val (.int pd), .val (.int pe), .val (.int pf), .val (.int (2 : Int32)), .val (.int c_118), .val (.int c_119), .val (.int c_120), .val (.int c_121), .unset, .unset, .unset, .unset, .unset, .unset, .unset, .unset]) rfl (q := 32) rfl ?_
    refine Go.iload X121 hx (hb hby at_32) rfl (q := 34) rfl ?_
    refine Go.callS X121 hx hZ hown (wd0 hw) (wd1 hw) (wd2 hw) (wd3 hw) (by decide) (cidc l Z a0 hw pf h0 O0) e121 (by rw [hml]; rfl) (hb hby at_34) (argsL := [(.int pf)]) (rest := []) (lenOf pd16 rfl) rfl rfl (W := 0) (by first | exact Nat.le_refl _ | decide) (by decide) (by decide) (by decide) (by decide) ?_
    intro v122 T122 L122 X122 hQ122
    obtain ⟨c_122, rfl, N122q, e122, P122_0⟩ := hQ122
    have N122 := Fr.app N121 N122q
    refine Go.istore X122 hx (hb hby at_37) (l' := #[.val (.int pn), .val (.int pa), .val (.int pb), .val (.int pd), .val (.int pe), .val (.int pf), .val (.int (2 : Int32)), .val (.int c_118), .val (.int c_119), .val (.int c_120), .val (.int c_121), .val (.int c_122), .unset, .unset, .unset, .unset, .unset, .unset, .unset]) rfl (q := 39) rfl ?_
    refine Go.iload X122 hx (hb hby at_39) rfl (q := 41) rfl ?_
    refine Go.iload X122 hx (hb hby at_41) rfl (q := 43) rfl ?_
    refine Go.iload X122 hx (hb hby at_43) rfl (q := 45) rfl ?_
    refine Go.iload X122 hx (hb hby at_45) rfl (q := 47) rfl ?_
    refine Go.iload X122 hx (hb hby at_47) rfl (q := 49) rfl ?_
    refine Go.callS X122 hx hZ hown (wd5 hw) (wd6 hw) (wd2 hw) (wd7 hw) (by decide) (cmk2 l Z a0 hw cs c_118 c_119 c_120 c_121 h0 O0 SCS hcs P118_0 P119_0) e122 (by rw [hml]; rfl) (hb hby at_49) (argsL := [(.int (2 : Int32)), (.int c_118), (.int c_119), (.int c_120), (.int c_121)]) (rest := []) (lenOf pd17 rfl) rfl rfl (W := 0) (by first | exact Nat.le_refl _ | decide) (by decide) (by decide) (by decide) (by decide) ?_
    intro v123 T123 L123 X123 hQ123
    obtain ⟨h123, e123⟩ : ∃ z, T123.heap = z := ⟨_, rfl⟩
    rw [e123] at hQ123
    obtain ⟨s_123, b_123, kb_123, rfl, N123q, K123, fr123_s, fr123_b, P123_0, P123_1, P123_2, P123_3⟩ := hQ123
    have N123 := Fr.app N122 N123q
    have g_s_123 : Z.heap.size ≤ s_123 := Nat.le_trans O0.1 fr123_s
    have g_b_123 : Z.heap.size ≤ b_123 := Nat.le_trans O0.1 fr123_b
    replace hKd := Nat.le_trans hKd K123.1
    have OK123 := ext_keep O0 K123 all0
    refine Go.astore X123 hx (hb hby at_52) rfl (l' := #[.val (.int pn), .val (.int pa), .val (.int pb), .val (.int pd), .val (.int pe), .val (.int pf), .val (.int (2 : Int32)), .val (.int c_118), .val (.int c_119), .val (.int c_120), .val (.int c_121), .val (.int c_122), .val (.ref s_123), .unset, .unset, .unset, .unset, .unset, .unset]) rfl (q := 54) rfl ?_
    refine Go.iload X123 hx (hb hby at_54) rfl (q := 56) rfl ?_
    refine Go.iconst X123 hx (hb hby at_56) (r := (1 : Int32)) rfl (q := 57) rfl ?_
    refine Go.icmpYes X123 hx (hb hby at_57) (by decide) (q := 65) (by decide) (by decide) ?_
    refine Go.iload X123 hx (hb hby at_65) rfl (q := 67) rfl ?_
    refine Go.iconst X123 hx (hb hby at_67) (r := (2 : Int32)) rfl (q := 68) rfl ?_
    refine Go.icmpNo X123 hx (hb hby at_68) (by decide) (q := 71) rfl ?_
    refine Go.iload X123 hx (hb hby at_71) rfl (q := 73) rfl ?_
    refine Go.goto X123 hx (hb hby at_73) (q := 89) (by decide) (by decide) ?_
    refine Go.istore X123 hx (hb hby at_89) (l' := #[.val (.int pn), .val (.int pa), .val (.int pb), .val (.int pd), .val (.int pe), .val (.int pf), .val (.int (2 : Int32)), .val (.int c_118), .val (.int c_119), .val (.int c_120), .val (.int c_121), .val (.int c_122), .val (.ref s_123), .val (.int c_119), .unset, .unset, .unset, .unset, .unset]) rfl (q := 91) rfl ?_
    refine Go.iload X123 hx (hb hby at_91) rfl (q := 93) rfl ?_
    refine Go.iconst X123 hx (hb hby at_93) (r := (1 : Int32)) rfl (q := 94) rfl ?_
    refine Go.icmpYes X123 hx (hb hby at_94) (by decide) (q := 114) (by decide) (by decide) ?_
    refine Go.iload X123 hx (hb hby at_114) rfl (q := 116) rfl ?_
    refine Go.iconst X123 hx (hb hby at_116) (r := (2 : Int32)) rfl (q := 117) rfl ?_
    refine Go.icmpNo X123 hx (hb hby at_117) (by decide) (q := 120) rfl ?_
    refine Go.iconst X123 hx (hb hby at_120) (r := (2 : Int32)) rfl (q := 121) rfl ?_
    refine Go.iload X123 hx (hb hby at_121) rfl (q := 123) rfl ?_
    refine Go.iload X123 hx (hb hby at_123) rfl (q := 125) rfl ?_
    refine Go.iload X123 hx (hb hby at_125) rfl (q := 127) rfl ?_
    refine Go.iload X123 hx (hb hby at_127) rfl (q := 129) rfl ?_
    refine Go.callS X123 hx hZ hown (wd5 hw) (wd6 hw) (wd2 hw) (wd7 hw) (by decide) (cmk2 l Z a0 hw cs c_118 c_122 c_120 c_121 h123 OK123 SCS hcs P118_0 P122_0) e123 (by rw [hml]; rfl) (hb hby at_129) (argsL := [(.int (2 : Int32)), (.int c_118), (.int c_122), (.int c_120), (.int c_121)]) (rest := []) (lenOf pd17 rfl) rfl rfl (W := 0) (by first | exact Nat.le_refl _ | decide) (by decide) (by decide) (by decide) (by decide) ?_
    intro v124 T124 L124 X124 hQ124
    obtain ⟨h124, e124⟩ : ∃ z, T124.heap = z := ⟨_, rfl⟩
    rw [e124] at hQ124
    obtain ⟨s_124, b_124, kb_124, rfl, N124q, K124, fr124_s, fr124_b, P124_0, P124_1, P124_2, P124_3⟩ := hQ124
    have N124 := Fr.app N123 N124q
    have ne_s_123_s_124 : s_123 ≠ s_124 := ne_new P123_0.lt fr124_s
    have ne_b_123_s_124 : b_123 ≠ s_124 := ne_new P123_3.lt fr124_s
    have g_s_124 : Z.heap.size ≤ s_124 := Nat.le_trans OK123.1 fr124_s
    have ne_s_123_b_124 : s_123 ≠ b_124 := ne_new P123_0.lt fr124_b
    have ne_b_123_b_124 : b_123 ≠ b_124 := ne_new P123_3.lt fr124_b
    have g_b_124 : Z.heap.size ≤ b_124 := Nat.le_trans OK123.1 fr124_b
    replace hKd := Nat.le_trans hKd K124.1
    replace P123_0 := P123_0.keep K124
    replace P123_1 := P123_1.keep K124 nin0
    replace P123_2 := P123_2.keep K124 nin0
    replace P123_3 := P123_3.keep K124 nin0
    have OK124 := ext_keep OK123 K124 all0
    refine Go.astore X124 hx (hb hby at_132) rfl (l' := #[.val (.int pn), .val (.int pa), .val (.int pb), .val (.int pd), .val (.int pe), .val (.int pf), .val (.int (2 : Int32)), .val (.int c_118), .val (.int c_119), .val (.int c_120), .val (.int c_121), .val (.int c_122), .val (.ref s_123), .val (.int c_119), .val (.ref s_124), .unset, .unset, .unset, .unset]) rfl (q := 134) rfl ?_
    refine Go.goto X124 hx (hb hby at_134) (q := 174) (by decide) (by decide) ?_
    refine Go.aload X124 hx (hb hby at_174) rfl rfl (q := 176) rfl ?_
    refine Go.callSW X124 hx hZ hown hS hKd (wd38 hw) (wd39 hw) (wd40 hw) (wd41 hw) (by decide) (cof2 l Z a0 hw s_123 b_123 (kb_123) cs fm c_118 c_119 h124 OK124 P123_0 P123_1 P123_2 P123_3 SCS SFM hcs hfm P118_0 P119_0) e124 (by rw [hml]; rfl) (hb hby at_176) (argsL := [(.ref s_123)]) (rest := []) (lenOf pd18 rfl) rfl rfl (W := 0) (by first | exact Nat.le_refl _ | decide) (by decide) (by decide) (by decide) (by decide) ?_
    intro v125 T125 L125 k125 X125 hS hKd hZ hown hQ125
    obtain ⟨h125, e125⟩ : ∃ z, T125.heap = z := ⟨_, rfl⟩
    rw [e125] at hQ125 hKd
    obtain ⟨b_125, rfl, N125q, K125, fr125_b, P125_0, P125_1⟩ := hQ125
    have N125 := Fr.app N124 N125q
    have ne_s_123_b_125 : s_123 ≠ b_125 := ne_new P123_0.lt fr125_b
    have ne_b_123_b_125 : b_123 ≠ b_125 := ne_new P123_3.lt fr125_b
    have ne_s_124_b_125 : s_124 ≠ b_125 := ne_new P124_0.lt fr125_b
    have ne_b_124_b_125 : b_124 ≠ b_125 := ne_new P124_3.lt fr125_b
    have g_b_125 : Z.heap.size ≤ b_125 := Nat.le_trans OK124.1 fr125_b
    replace P123_0 := P123_0.keep K125
    replace P123_1 := P123_1.keep K125 nin0
    replace P123_2 := P123_2.keep K125 nin0
    replace P123_3 := P123_3.keep K125 nin0
    replace P124_0 := P124_0.keep K125
    replace P124_1 := P124_1.keep K125 nin0
    replace P124_2 := P124_2.keep K125 nin0
    replace P124_3 := P124_3.keep K125 nin0
    have OK125 := ext_keep OK124 K125 all0
    refine Go.astore X125 hx (hb hby at_179) rfl (l' := #[.val (.int pn), .val (.int pa), .val (.int pb), .val (.int pd), .val (.int pe), .val (.int pf), .val (.int (2 : Int32)), .val (.int c_118), .val (.int c_119), .val (.int c_120), .val (.int c_121), .val (.int c_122), .val (.ref s_123), .val (.int c_119), .val (.ref s_124), .val (.ref b_125), .unset, .unset, .unset]) rfl (q := 181) rfl ?_
    refine Go.aload X125 hx (hb hby at_181) rfl rfl (q := 183) rfl ?_
    refine Go.callSW X125 hx hZ hown hS hKd (wd38 hw) (wd39 hw) (wd40 hw) (wd41 hw) (by decide) (cof2 l Z a0 hw s_123 b_123 (kb_123) cs fm c_118 c_119 h125 OK125 P123_0 P123_1 P123_2 P123_3 SCS SFM hcs hfm P118_0 P119_0) e125 (by rw [hml]; rfl) (hb hby at_183) (argsL := [(.ref s_123)]) (rest := []) (lenOf pd18 rfl) rfl rfl (W := 0) (by first | exact Nat.le_refl _ | decide) (by decide) (by decide) (by decide) (by decide) ?_
    intro v126 T126 L126 k126 X126 hS hKd hZ hown hQ126
    obtain ⟨h126, e126⟩ : ∃ z, T126.heap = z := ⟨_, rfl⟩
    rw [e126] at hQ126 hKd
    obtain ⟨b_126, rfl, N126q, K126, fr126_b, P126_0, P126_1⟩ := hQ126
    have N126 := Fr.app N125 N126q
    have ne_s_123_b_126 : s_123 ≠ b_126 := ne_new P123_0.lt fr126_b
    have ne_b_123_b_126 : b_123 ≠ b_126 := ne_new P123_3.lt fr126_b
    have ne_s_124_b_126 : s_124 ≠ b_126 := ne_new P124_0.lt fr126_b
    have ne_b_124_b_126 : b_124 ≠ b_126 := ne_new P124_3.lt fr126_b
    have ne_b_125_b_126 : b_125 ≠ b_126 := ne_new P125_0.lt fr126_b
    have g_b_126 : Z.heap.size ≤ b_126 := Nat.le_trans OK125.1 fr126_b
    replace P123_0 := P123_0.keep K126
    replace P123_1 := P123_1.keep K126 nin0
    replace P123_2 := P123_2.keep K126 nin0
    replace P123_3 := P123_3.keep K126 nin0
    replace P124_0 := P124_0.keep K126
    replace P124_1 := P124_1.keep K126 nin0
    replace P124_2 := P124_2.keep K126 nin0
    replace P124_3 := P124_3.keep K126 nin0
    replace P125_0 := P125_0.keep K126
    replace P125_1 := P125_1.keep K126 nin0
    have OK126 := ext_keep OK125 K126 all0
    refine Go.astore X126 hx (hb hby at_186) rfl (l' := #[.val (.int pn), .val (.int pa), .val (.int pb), .val (.int pd), .val (.int pe), .val (.int pf), .val (.int (2 : Int32)), .val (.int c_118), .val (.int c_119), .val (.int c_120), .val (.int c_121), .val (.int c_122), .val (.ref s_123), .val (.int c_119), .val (.ref s_124), .val (.ref b_125), .val (.ref b_126), .unset, .unset]) rfl (q := 188) rfl ?_
    refine Go.aload X126 hx (hb hby at_188) rfl rfl (q := 190) rfl ?_
    refine Go.callSW X126 hx hZ hown hS hKd (wd38 hw) (wd39 hw) (wd40 hw) (wd41 hw) (by decide) (cof2 l Z a0 hw s_124 b_124 (kb_124) cs fm c_118 c_122 h126 OK126 P124_0 P124_1 P124_2 P124_3 SCS SFM hcs hfm P118_0 P122_0) e126 (by rw [hml]; rfl) (hb hby at_190) (argsL := [(.ref s_124)]) (rest := []) (lenOf pd18 rfl) rfl rfl (W := 0) (by first | exact Nat.le_refl _ | decide) (by decide) (by decide) (by decide) (by decide) ?_
    intro v127 T127 L127 k127 X127 hS hKd hZ hown hQ127
    obtain ⟨h127, e127⟩ : ∃ z, T127.heap = z := ⟨_, rfl⟩
    rw [e127] at hQ127 hKd
    obtain ⟨b_127, rfl, N127q, K127, fr127_b, P127_0, P127_1⟩ := hQ127
    have N127 := Fr.app N126 N127q
    have ne_s_123_b_127 : s_123 ≠ b_127 := ne_new P123_0.lt fr127_b
    have ne_b_123_b_127 : b_123 ≠ b_127 := ne_new P123_3.lt fr127_b
    have ne_s_124_b_127 : s_124 ≠ b_127 := ne_new P124_0.lt fr127_b
    have ne_b_124_b_127 : b_124 ≠ b_127 := ne_new P124_3.lt fr127_b
    have ne_b_125_b_127 : b_125 ≠ b_127 := ne_new P125_0.lt fr127_b
    have ne_b_126_b_127 : b_126 ≠ b_127 := ne_new P126_0.lt fr127_b
    have g_b_127 : Z.heap.size ≤ b_127 := Nat.le_trans OK126.1 fr127_b
    replace P123_0 := P123_0.keep K127
    replace P123_1 := P123_1.keep K127 nin0
    replace P123_2 := P123_2.keep K127 nin0
    replace P123_3 := P123_3.keep K127 nin0
    replace P124_0 := P124_0.keep K127
    replace P124_1 := P124_1.keep K127 nin0
    replace P124_2 := P124_2.keep K127 nin0
    replace P124_3 := P124_3.keep K127 nin0
    replace P125_0 := P125_0.keep K127
    replace P125_1 := P125_1.keep K127 nin0
    replace P126_0 := P126_0.keep K127
    replace P126_1 := P126_1.keep K127 nin0
    have OK127 := ext_keep OK126 K127 all0
    refine Go.astore X127 hx (hb hby at_193) rfl (l' := #[.val (.int pn), .val (.int pa), .val (.int pb), .val (.int pd), .val (.int pe), .val (.int pf), .val (.int (2 : Int32)), .val (.int c_118), .val (.int c_119), .val (.int c_120), .val (.int c_121), .val (.int c_122), .val (.ref s_123), .val (.int c_119), .val (.ref s_124), .val (.ref b_125), .val (.ref b_126), .val (.ref b_127), .unset]) rfl (q := 195) rfl ?_
    refine Go.aload X127 hx (hb hby at_195) rfl rfl (q := 197) rfl ?_
    refine Go.virt X127 hx hZ hown (wd93 hw) (wd94 hw) (notFace_of_selects (args := #[]) (mvT hZ (wd96 hw))) (wd96 hw) (wd95 hw) (wd40 hw) (wd97 hw) (by decide) (ctos l Z a0 hw b_125 s_123 h127 OK127 P125_1) e127 P125_0 (by rw [hml]; rfl) (hb hby at_197) (argsL := []) (rest := []) (lenOf pd19 rfl) rfl rfl (W := 0) (by first | exact Nat.le_refl _ | decide) (by decide) (by decide) (by decide) (by decide) ?_
    intro v128 T128 L128 X128 hQ128
    obtain ⟨rfl, N128q, e128⟩ := hQ128
    have N128 := Fr.app N127 N128q
    refine Go.astore X128 hx (hb hby at_200) rfl (l' := #[.val (.int pn), .val (.int pa), .val (.int pb), .val (.int pd), .val (.int pe), .val (.int pf), .val (.int (2 : Int32)), .val (.int c_118), .val (.int c_119), .val (.int c_120), .val (.int c_121), .val (.int c_122), .val (.ref s_123), .val (.int c_119), .val (.ref s_124), .val (.ref b_125), .val (.ref b_126), .val (.ref b_127), .val (.ref s_123)]) rfl (q := 202) rfl ?_
    refine Go.aload X128 hx (hb hby at_202) rfl rfl (q := 204) rfl ?_
    refine Go.aload X128 hx (hb hby at_204) rfl rfl (q := 206) rfl ?_
    refine Go.virt X128 hx hZ hown (wd98 hw) (wd99 hw) (notFace_of_selects (args := #[]) (mvT hZ (wd101 hw))) (wd101 hw) (wd100 hw) (wd10 hw) (wd102 hw) (by decide) (ceqs l Z a0 hw s_123 h127 OK127) e128 P123_0 (by rw [hml]; rfl) (hb hby at_206) (argsL := [(.ref s_123)]) (rest := []) (lenOf pd14 rfl) rfl rfl (W := 0) (by first | exact Nat.le_refl _ | decide) (by decide) (by decide) (by decide) (by decide) ?_
    intro v129 T129 L129 X129 hQ129
    obtain ⟨rfl, N129q, e129⟩ := hQ129
    have N129 := Fr.app N128 N129q
    refine Go.ifNo X129 hx (hb hby at_209) (by decide) (q := 212) rfl ?_
    refine Go.aload X129 hx (hb hby at_212) rfl rfl (q := 214) rfl ?_
    refine Go.virt X129 hx hZ hown (wd103 hw) (wd55 hw) (notFace_of_selects (args := #[]) (mvT hZ (wd57 hw))) (wd57 hw) (wd56 hw) (wd10 hw) (wd58 hw) (by decide) (clen l Z a0 hw s_123 cs b_123 (kb_123) ((2 : Int32)) ([(.int c_118), (.int c_119)]) h127 OK127 P123_0 P123_1 P123_2 P123_3 SCS hcs) e129 P123_0 (by rw [hml]; rfl) (hb hby at_214) (argsL := []) (rest := []) (lenOf pd10 rfl) rfl rfl (W := 0) (by first | exact Nat.le_refl _ | decide) (by decide) (by decide) (by decide) (by decide) ?_
    intro v130 T130 L130 X130 hQ130
    obtain ⟨rfl, N130q, e130⟩ := hQ130
    have N130 := Fr.app N129 N130q
    refine Go.iload X130 hx (hb hby at_217) rfl (q := 219) rfl ?_
    refine Go.icmpNo X130 hx (hb hby at_219) (by decide) (q := 222) rfl ?_
    refine Go.aload X130 hx (hb hby at_222) rfl rfl (q := 224) rfl ?_
    refine Go.aload X130 hx (hb hby at_224) rfl rfl (q := 226) rfl ?_
    refine Go.virt X130 hx hZ hown (wd104 hw) (wd105 hw) (notFace_of_selects (args := #[]) (mvT hZ (wd107 hw))) (wd107 hw) (wd106 hw) (wd40 hw) (wd108 hw) (by decide) (cqes l Z a0 hw b_125 b_126 s_123 h127 OK127 P126_0 P125_1 P126_1 P123_0) e130 P125_0 (by rw [hml]; rfl) (hb hby at_226) (argsL := [(.ref b_126)]) (rest := []) (lenOf pd14 rfl) rfl rfl (W := 0) (by first | exact Nat.le_refl _ | decide) (by decide) (by decide) (by decide) (by decide) ?_
    intro v131 T131 L131 X131 hQ131
    obtain ⟨rfl, N131q, e131⟩ := hQ131
    have N131 := Fr.app N130 N131q
    refine Go.ifNo X131 hx (hb hby at_229) (by decide) (q := 232) rfl ?_
    by_cases hc132 : c_119 = c_122
    · show Go pp ee below _ (T131.setTop (mkF mm 232 #[.val (.int pn), .val (.int pa), .val (.int pb), .val (.int pd), .val (.int pe), .val (.int pf), .val (.int (2 : Int32)), .val (.int c_118), .val (.int c_119), .val (.int c_120), .val (.int c_121), .val (.int c_122), .val (.ref s_123), .val (.int c_119), .val (.ref s_124), .val (.ref b_125), .val (.ref b_126), .val (.ref b_127), .val (.ref s_123)] []))
      refine Go.aload X131 hx (hb hby at_232) rfl rfl (q := 234) rfl ?_
      refine Go.aload X131 hx (hb hby at_234) rfl rfl (q := 236) rfl ?_
      refine Go.virt X131 hx hZ hown (wd104 hw) (wd105 hw) (notFace_of_selects (args := #[]) (mvT hZ (wd107 hw))) (wd107 hw) (wd106 hw) (wd40 hw) (wd108 hw) (by decide) (cqe2_1 l Z a0 hw b_125 b_127 s_123 s_124 cs b_123 b_124 (kb_123) (kb_124) c_118 c_119 c_122 h127 OK127 P127_0 P125_1 P127_1 P123_0 P124_0 P123_1 P124_1 P123_2 P124_2 P123_3 P124_3 ne_s_123_s_124 SCS hcs hc132) e131 P125_0 (by rw [hml]; rfl) (hb hby at_236) (argsL := [(.ref b_127)]) (rest := []) (lenOf pd14 rfl) rfl rfl (W := 0) (by first | exact Nat.le_refl _ | decide) (by decide) (by decide) (by decide) (by decide) ?_
      intro v133 T133 L133 X133 hQ133
      obtain ⟨rfl, N133q, e133⟩ := hQ133
      have N133 := Fr.app N131 N133q
      refine Go.iload X133 hx (hb hby at_239) rfl (q := 241) rfl ?_
      refine Go.iload X133 hx (hb hby at_241) rfl (q := 243) rfl ?_
      refine Go.icmpNo X133 hx (hb hby at_243) (Jvm.Free.XT.ii_ne_f hc132) (q := 246) rfl ?_
      refine Go.iconst X133 hx (hb hby at_246) (r := (1 : Int32)) rfl (q := 247) rfl ?_
      refine Go.goto X133 hx (hb hby at_247) (q := 251) (by decide) (by decide) ?_
      refine Go.icmpNo X133 hx (hb hby at_251) (by decide) (q := 254) rfl ?_
      refine Go.iconst X133 hx (hb hby at_254) (r := (1 : Int32)) rfl (q := 255) rfl ?_
      refine Go.goto X133 hx (hb hby at_255) (q := 259) (by decide) (by decide) ?_
      exact Go.retIW X133 hx hS hKd hret hlk (by simp) rfl (hb hby at_259) e133 (by decide) (by decide) ⟨rfl, N133⟩
    · show Go pp ee below _ (T131.setTop (mkF mm 232 #[.val (.int pn), .val (.int pa), .val (.int pb), .val (.int pd), .val (.int pe), .val (.int pf), .val (.int (2 : Int32)), .val (.int c_118), .val (.int c_119), .val (.int c_120), .val (.int c_121), .val (.int c_122), .val (.ref s_123), .val (.int c_119), .val (.ref s_124), .val (.ref b_125), .val (.ref b_126), .val (.ref b_127), .val (.ref s_123)] []))
      refine Go.aload X131 hx (hb hby at_232) rfl rfl (q := 234) rfl ?_
      refine Go.aload X131 hx (hb hby at_234) rfl rfl (q := 236) rfl ?_
      refine Go.virt X131 hx hZ hown (wd104 hw) (wd105 hw) (notFace_of_selects (args := #[]) (mvT hZ (wd107 hw))) (wd107 hw) (wd106 hw) (wd40 hw) (wd108 hw) (by decide) (cqe2_0 l Z a0 hw b_125 b_127 s_123 s_124 cs b_123 b_124 (kb_123) (kb_124) c_118 c_119 c_122 h127 OK127 P127_0 P125_1 P127_1 P123_0 P124_0 P123_1 P124_1 P123_2 P124_2 P123_3 P124_3 ne_s_123_s_124 SCS hcs hc132) e131 P125_0 (by rw [hml]; rfl) (hb hby at_236) (argsL := [(.ref b_127)]) (rest := []) (lenOf pd14 rfl) rfl rfl (W := 0) (by first | exact Nat.le_refl _ | decide) (by decide) (by decide) (by decide) (by decide) ?_
      intro v134 T134 L134 X134 hQ134
      obtain ⟨rfl, N134q, e134⟩ := hQ134
      have N134 := Fr.app N131 N134q
      refine Go.iload X134 hx (hb hby at_239) rfl (q := 241) rfl ?_
      refine Go.iload X134 hx (hb hby at_241) rfl (q := 243) rfl ?_
      refine Go.icmpYes X134 hx (hb hby at_243) (Jvm.Free.XT.ii_ne_t hc132) (q := 250) (by decide) (by decide) ?_
      refine Go.iconst X134 hx (hb hby at_250) (r := (0 : Int32)) rfl (q := 251) rfl ?_
      refine Go.icmpNo X134 hx (hb hby at_251) (by decide) (q := 254) rfl ?_
      refine Go.iconst X134 hx (hb hby at_254) (r := (1 : Int32)) rfl (q := 255) rfl ?_
      refine Go.goto X134 hx (hb hby at_255) (q := 259) (by decide) (by decide) ?_
      exact Go.retIW X134 hx hS hKd hret hlk (by simp) rfl (hb hby at_259) e134 (by decide) (by decide) ⟨rfl, N134⟩
  · show Go pp ee below _ (s₁.setTop (mkF mm 4 #[.val (.int pn), .val (.int pa), .val (.int pb), .val (.int pd), .val (.int pe), .val (.int pf), .unset, .unset, .unset, .unset, .unset, .unset, .unset, .unset, .unset, .unset, .unset, .unset, .unset] [(.int (2 : Int32)), (.int (1 : Int32))]))
    refine Go.iadd X0 hx (hb hby at_4) (r := (3 : Int32)) rfl (q := 5) rfl ?_
    refine Go.istore X0 hx (hb hby at_5) (l' := #[.val (.int pn), .val (.int pa), .val (.int pb), .val (.int pd), .val (.int pe), .val (.int pf), .val (.int (3 : Int32)), .unset, .unset, .unset, .unset, .unset, .unset, .unset, .unset, .unset, .unset, .unset, .unset]) rfl (q := 7) rfl ?_
    refine Go.iloadN X0 hx (hb hby at_7) rfl (q := 8) rfl ?_
    refine Go.callS X0 hx hZ hown (wd0 hw) (wd1 hw) (wd2 hw) (wd3 hw) (by decide) (cidc l Z a0 hw pa h0 O0) e0 (by rw [hml]; rfl) (hb hby at_8) (argsL := [(.int pa)]) (rest := []) (lenOf pd16 rfl) rfl rfl (W := 0) (by first | exact Nat.le_refl _ | decide) (by decide) (by decide) (by decide) (by decide) ?_
    intro v135 T135 L135 X135 hQ135
    obtain ⟨c_135, rfl, N135q, e135, P135_0⟩ := hQ135
    have N135 := Fr.app N0 N135q
    refine Go.istore X135 hx (hb hby at_11) (l' := #[.val (.int pn), .val (.int pa), .val (.int pb), .val (.int pd), .val (.int pe), .val (.int pf), .val (.int (3 : Int32)), .val (.int c_135), .unset, .unset, .unset, .unset, .unset, .unset, .unset, .unset, .unset, .unset, .unset]) rfl (q := 13) rfl ?_
    refine Go.iloadN X135 hx (hb hby at_13) rfl (q := 14) rfl ?_
    refine Go.callS X135 hx hZ hown (wd0 hw) (wd1 hw) (wd2 hw) (wd3 hw) (by decide) (cidc l Z a0 hw pb h0 O0) e135 (by rw [hml]; rfl) (hb hby at_14) (argsL := [(.int pb)]) (rest := []) (lenOf pd16 rfl) rfl rfl (W := 0) (by first | exact Nat.le_refl _ | decide) (by decide) (by decide) (by decide) (by decide) ?_
    intro v136 T136 L136 X136 hQ136
    obtain ⟨c_136, rfl, N136q, e136, P136_0⟩ := hQ136
    have N136 := Fr.app N135 N136q
    refine Go.istore X136 hx (hb hby at_17) (l' := #[.val (.int pn), .val (.int pa), .val (.int pb), .val (.int pd), .val (.int pe), .val (.int pf), .val (.int (3 : Int32)), .val (.int c_135), .val (.int c_136), .unset, .unset, .unset, .unset, .unset, .unset, .unset, .unset, .unset, .unset]) rfl (q := 19) rfl ?_
    refine Go.iloadN X136 hx (hb hby at_19) rfl (q := 20) rfl ?_
    refine Go.callS X136 hx hZ hown (wd0 hw) (wd1 hw) (wd2 hw) (wd3 hw) (by decide) (cidc l Z a0 hw pd h0 O0) e136 (by rw [hml]; rfl) (hb hby at_20) (argsL := [(.int pd)]) (rest := []) (lenOf pd16 rfl) rfl rfl (W := 0) (by first | exact Nat.le_refl _ | decide) (by decide) (by decide) (by decide) (by decide) ?_
    intro v137 T137 L137 X137 hQ137
    obtain ⟨c_137, rfl, N137q, e137, P137_0⟩ := hQ137
    have N137 := Fr.app N136 N137q
    refine Go.istore X137 hx (hb hby at_23) (l' := #[.val (.int pn), .val (.int pa), .val (.int pb), .val (.int pd), .val (.int pe), .val (.int pf), .val (.int (3 : Int32)), .val (.int c_135), .val (.int c_136), .val (.int c_137), .unset, .unset, .unset, .unset, .unset, .unset, .unset, .unset, .unset]) rfl (q := 25) rfl ?_
    refine Go.iload X137 hx (hb hby at_25) rfl (q := 27) rfl ?_
    refine Go.callS X137 hx hZ hown (wd0 hw) (wd1 hw) (wd2 hw) (wd3 hw) (by decide) (cidc l Z a0 hw pe h0 O0) e137 (by rw [hml]; rfl) (hb hby at_27) (argsL := [(.int pe)]) (rest := []) (lenOf pd16 rfl) rfl rfl (W := 0) (by first | exact Nat.le_refl _ | decide) (by decide) (by decide) (by decide) (by decide) ?_
    intro v138 T138 L138 X138 hQ138
    obtain ⟨c_138, rfl, N138q, e138, P138_0⟩ := hQ138
    have N138 := Fr.app N137 N138q
    refine Go.istore X138 hx (hb hby at_30) (l' := #[.val (.int pn), .val (.int pa), .val (.int pb), .val (.int pd), .val (.int pe), .val (.int pf), .val (.int (3 : Int32)), .val (.int c_135), .val (.int c_136), .val (.int c_137), .val (.int c_138), .unset, .unset, .unset, .unset, .unset, .unset, .unset, .unset]) rfl (q := 32) rfl ?_
    refine Go.iload X138 hx (hb hby at_32) rfl (q := 34) rfl ?_
    refine Go.callS X138 hx hZ hown (wd0 hw) (wd1 hw) (wd2 hw) (wd3 hw) (by decide) (cidc l Z a0 hw pf h0 O0) e138 (by rw [hml]; rfl) (hb hby at_34) (argsL := [(.int pf)]) (rest := []) (lenOf pd16 rfl) rfl rfl (W := 0) (by first | exact Nat.le_refl _ | decide) (by decide) (by decide) (by decide) (by decide) ?_
    intro v139 T139 L139 X139 hQ139
    obtain ⟨c_139, rfl, N139q, e139, P139_0⟩ := hQ139
    have N139 := Fr.app N138 N139q
    refine Go.istore X139 hx (hb hby at_37) (l' := #[.val (.int pn), .val (.int pa), .val (.int pb), .val (.int pd), .val (.int pe), .val (.int pf), .val (.int (3 : Int32)), .val (.int c_135), .val (.int c_136), .val (.int c_137), .val (.int c_138), .val (.int c_139), .unset, .unset, .unset, .unset, .unset, .unset, .unset]) rfl (q := 39) rfl ?_
    refine Go.iload X139 hx (hb hby at_39) rfl (q := 41) rfl ?_
    refine Go.iload X139 hx (hb hby at_41) rfl (q := 43) rfl ?_
    refine Go.iload X139 hx (hb hby at_43) rfl (q := 45) rfl ?_
    refine Go.iload X139 hx (hb hby at_45) rfl (q := 47) rfl ?_
    refine Go.iload X139 hx (hb hby at_47) rfl (q := 49) rfl ?_
    refine Go.callS X139 hx hZ hown (wd5 hw) (wd6 hw) (wd2 hw) (wd7 hw) (by decide) (cmk3 l Z a0 hw cs c_135 c_136 c_137 c_138 h0 O0 SCS hcs P135_0 P136_0 P137_0) e139 (by rw [hml]; rfl) (hb hby at_49) (argsL := [(.int (3 : Int32)), (.int c_135), (.int c_136), (.int c_137), (.int c_138)]) (rest := []) (lenOf pd17 rfl) rfl rfl (W := 0) (by first | exact Nat.le_refl _ | decide) (by decide) (by decide) (by decide) (by decide) ?_
    intro v140 T140 L140 X140 hQ140
    obtain ⟨h140, e140⟩ : ∃ z, T140.heap = z := ⟨_, rfl⟩
    rw [e140] at hQ140
    obtain ⟨s_140, b_140, kb_140, rfl, N140q, K140, fr140_s, fr140_b, P140_0, P140_1, P140_2, P140_3⟩ := hQ140
    have N140 := Fr.app N139 N140q
    have g_s_140 : Z.heap.size ≤ s_140 := Nat.le_trans O0.1 fr140_s
    have g_b_140 : Z.heap.size ≤ b_140 := Nat.le_trans O0.1 fr140_b
    replace hKd := Nat.le_trans hKd K140.1
    have OK140 := ext_keep O0 K140 all0
    refine Go.astore X140 hx (hb hby at_52) rfl (l' := #[.val (.int pn), .val (.int pa), .val (.int pb), .val (.int pd), .val (.int pe), .val (.int pf), .val (.int (3 : Int32)), .val (.int c_135), .val (.int c_136), .val (.int c_137), .val (.int c_138), .val (.int c_139), .val (.ref s_140), .unset, .unset, .unset, .unset, .unset, .unset]) rfl (q := 54) rfl ?_
    refine Go.iload X140 hx (hb hby at_54) rfl (q := 56) rfl ?_
    refine Go.iconst X140 hx (hb hby at_56) (r := (1 : Int32)) rfl (q := 57) rfl ?_
    refine Go.icmpYes X140 hx (hb hby at_57) (by decide) (q := 65) (by decide) (by decide) ?_
    refine Go.iload X140 hx (hb hby at_65) rfl (q := 67) rfl ?_
    refine Go.iconst X140 hx (hb hby at_67) (r := (2 : Int32)) rfl (q := 68) rfl ?_
    refine Go.icmpYes X140 hx (hb hby at_68) (by decide) (q := 76) (by decide) (by decide) ?_
    refine Go.iload X140 hx (hb hby at_76) rfl (q := 78) rfl ?_
    refine Go.iconst X140 hx (hb hby at_78) (r := (3 : Int32)) rfl (q := 79) rfl ?_
    refine Go.icmpNo X140 hx (hb hby at_79) (by decide) (q := 82) rfl ?_
    refine Go.iload X140 hx (hb hby at_82) rfl (q := 84) rfl ?_
    refine Go.goto X140 hx (hb hby at_84) (q := 89) (by decide) (by decide) ?_
    refine Go.istore X140 hx (hb hby at_89) (l' := #[.val (.int pn), .val (.int pa), .val (.int pb), .val (.int pd), .val (.int pe), .val (.int pf), .val (.int (3 : Int32)), .val (.int c_135), .val (.int c_136), .val (.int c_137), .val (.int c_138), .val (.int c_139), .val (.ref s_140), .val (.int c_137), .unset, .unset, .unset, .unset, .unset]) rfl (q := 91) rfl ?_
    refine Go.iload X140 hx (hb hby at_91) rfl (q := 93) rfl ?_
    refine Go.iconst X140 hx (hb hby at_93) (r := (1 : Int32)) rfl (q := 94) rfl ?_
    refine Go.icmpYes X140 hx (hb hby at_94) (by decide) (q := 114) (by decide) (by decide) ?_
    refine Go.iload X140 hx (hb hby at_114) rfl (q := 116) rfl ?_
    refine Go.iconst X140 hx (hb hby at_116) (r := (2 : Int32)) rfl (q := 117) rfl ?_
    refine Go.icmpYes X140 hx (hb hby at_117) (by decide) (q := 137) (by decide) (by decide) ?_
    refine Go.iload X140 hx (hb hby at_137) rfl (q := 139) rfl ?_
    refine Go.iconst X140 hx (hb hby at_139) (r := (3 : Int32)) rfl (q := 140) rfl ?_
    refine Go.icmpNo X140 hx (hb hby at_140) (by decide) (q := 143) rfl ?_
    refine Go.iconst X140 hx (hb hby at_143) (r := (3 : Int32)) rfl (q := 144) rfl ?_
    refine Go.iload X140 hx (hb hby at_144) rfl (q := 146) rfl ?_
    refine Go.iload X140 hx (hb hby at_146) rfl (q := 148) rfl ?_
    refine Go.iload X140 hx (hb hby at_148) rfl (q := 150) rfl ?_
    refine Go.iload X140 hx (hb hby at_150) rfl (q := 152) rfl ?_
    refine Go.callS X140 hx hZ hown (wd5 hw) (wd6 hw) (wd2 hw) (wd7 hw) (by decide) (cmk3 l Z a0 hw cs c_135 c_136 c_139 c_138 h140 OK140 SCS hcs P135_0 P136_0 P139_0) e140 (by rw [hml]; rfl) (hb hby at_152) (argsL := [(.int (3 : Int32)), (.int c_135), (.int c_136), (.int c_139), (.int c_138)]) (rest := []) (lenOf pd17 rfl) rfl rfl (W := 0) (by first | exact Nat.le_refl _ | decide) (by decide) (by decide) (by decide) (by decide) ?_
    intro v141 T141 L141 X141 hQ141
    obtain ⟨h141, e141⟩ : ∃ z, T141.heap = z := ⟨_, rfl⟩
    rw [e141] at hQ141
    obtain ⟨s_141, b_141, kb_141, rfl, N141q, K141, fr141_s, fr141_b, P141_0, P141_1, P141_2, P141_3⟩ := hQ141
    have N141 := Fr.app N140 N141q
    have ne_s_140_s_141 : s_140 ≠ s_141 := ne_new P140_0.lt fr141_s
    have ne_b_140_s_141 : b_140 ≠ s_141 := ne_new P140_3.lt fr141_s
    have g_s_141 : Z.heap.size ≤ s_141 := Nat.le_trans OK140.1 fr141_s
    have ne_s_140_b_141 : s_140 ≠ b_141 := ne_new P140_0.lt fr141_b
    have ne_b_140_b_141 : b_140 ≠ b_141 := ne_new P140_3.lt fr141_b
    have g_b_141 : Z.heap.size ≤ b_141 := Nat.le_trans OK140.1 fr141_b
    replace hKd := Nat.le_trans hKd K141.1
    replace P140_0 := P140_0.keep K141
    replace P140_1 := P140_1.keep K141 nin0
    replace P140_2 := P140_2.keep K141 nin0
    replace P140_3 := P140_3.keep K141 nin0
    have OK141 := ext_keep OK140 K141 all0
    refine Go.astore X141 hx (hb hby at_155) rfl (l' := #[.val (.int pn), .val (.int pa), .val (.int pb), .val (.int pd), .val (.int pe), .val (.int pf), .val (.int (3 : Int32)), .val (.int c_135), .val (.int c_136), .val (.int c_137), .val (.int c_138), .val (.int c_139), .val (.ref s_140), .val (.int c_137), .val (.ref s_141), .unset, .unset, .unset, .unset]) rfl (q := 157) rfl ?_
    refine Go.goto X141 hx (hb hby at_157) (q := 174) (by decide) (by decide) ?_
    refine Go.aload X141 hx (hb hby at_174) rfl rfl (q := 176) rfl ?_
    refine Go.callSW X141 hx hZ hown hS hKd (wd38 hw) (wd39 hw) (wd40 hw) (wd41 hw) (by decide) (cof3 l Z a0 hw s_140 b_140 (kb_140) cs fm c_135 c_136 c_137 h141 OK141 P140_0 P140_1 P140_2 P140_3 SCS SFM hcs hfm P135_0 P136_0 P137_0) e141 (by rw [hml]; rfl) (hb hby at_176) (argsL := [(.ref s_140)]) (rest := []) (lenOf pd18 rfl) rfl rfl (W := 0) (by first | exact Nat.le_refl _ | decide) (by decide) (by decide) (by decide) (by decide) ?_
    intro v142 T142 L142 k142 X142 hS hKd hZ hown hQ142
    obtain ⟨h142, e142⟩ : ∃ z, T142.heap = z := ⟨_, rfl⟩
    rw [e142] at hQ142 hKd
    obtain ⟨b_142, rfl, N142q, K142, fr142_b, P142_0, P142_1⟩ := hQ142
    have N142 := Fr.app N141 N142q
    have ne_s_140_b_142 : s_140 ≠ b_142 := ne_new P140_0.lt fr142_b
    have ne_b_140_b_142 : b_140 ≠ b_142 := ne_new P140_3.lt fr142_b
    have ne_s_141_b_142 : s_141 ≠ b_142 := ne_new P141_0.lt fr142_b
    have ne_b_141_b_142 : b_141 ≠ b_142 := ne_new P141_3.lt fr142_b
    have g_b_142 : Z.heap.size ≤ b_142 := Nat.le_trans OK141.1 fr142_b
    replace P140_0 := P140_0.keep K142
    replace P140_1 := P140_1.keep K142 nin0
    replace P140_2 := P140_2.keep K142 nin0
    replace P140_3 := P140_3.keep K142 nin0
    replace P141_0 := P141_0.keep K142
    replace P141_1 := P141_1.keep K142 nin0
    replace P141_2 := P141_2.keep K142 nin0
    replace P141_3 := P141_3.keep K142 nin0
    have OK142 := ext_keep OK141 K142 all0
    refine Go.astore X142 hx (hb hby at_179) rfl (l' := #[.val (.int pn), .val (.int pa), .val (.int pb), .val (.int pd), .val (.int pe), .val (.int pf), .val (.int (3 : Int32)), .val (.int c_135), .val (.int c_136), .val (.int c_137), .val (.int c_138), .val (.int c_139), .val (.ref s_140), .val (.int c_137), .val (.ref s_141), .val (.ref b_142), .unset, .unset, .unset]) rfl (q := 181) rfl ?_
    refine Go.aload X142 hx (hb hby at_181) rfl rfl (q := 183) rfl ?_
    refine Go.callSW X142 hx hZ hown hS hKd (wd38 hw) (wd39 hw) (wd40 hw) (wd41 hw) (by decide) (cof3 l Z a0 hw s_140 b_140 (kb_140) cs fm c_135 c_136 c_137 h142 OK142 P140_0 P140_1 P140_2 P140_3 SCS SFM hcs hfm P135_0 P136_0 P137_0) e142 (by rw [hml]; rfl) (hb hby at_183) (argsL := [(.ref s_140)]) (rest := []) (lenOf pd18 rfl) rfl rfl (W := 0) (by first | exact Nat.le_refl _ | decide) (by decide) (by decide) (by decide) (by decide) ?_
    intro v143 T143 L143 k143 X143 hS hKd hZ hown hQ143
    obtain ⟨h143, e143⟩ : ∃ z, T143.heap = z := ⟨_, rfl⟩
    rw [e143] at hQ143 hKd
    obtain ⟨b_143, rfl, N143q, K143, fr143_b, P143_0, P143_1⟩ := hQ143
    have N143 := Fr.app N142 N143q
    have ne_s_140_b_143 : s_140 ≠ b_143 := ne_new P140_0.lt fr143_b
    have ne_b_140_b_143 : b_140 ≠ b_143 := ne_new P140_3.lt fr143_b
    have ne_s_141_b_143 : s_141 ≠ b_143 := ne_new P141_0.lt fr143_b
    have ne_b_141_b_143 : b_141 ≠ b_143 := ne_new P141_3.lt fr143_b
    have ne_b_142_b_143 : b_142 ≠ b_143 := ne_new P142_0.lt fr143_b
    have g_b_143 : Z.heap.size ≤ b_143 := Nat.le_trans OK142.1 fr143_b
    replace P140_0 := P140_0.keep K143
    replace P140_1 := P140_1.keep K143 nin0
    replace P140_2 := P140_2.keep K143 nin0
    replace P140_3 := P140_3.keep K143 nin0
    replace P141_0 := P141_0.keep K143
    replace P141_1 := P141_1.keep K143 nin0
    replace P141_2 := P141_2.keep K143 nin0
    replace P141_3 := P141_3.keep K143 nin0
    replace P142_0 := P142_0.keep K143
    replace P142_1 := P142_1.keep K143 nin0
    have OK143 := ext_keep OK142 K143 all0
    refine Go.astore X143 hx (hb hby at_186) rfl (l' := #[.val (.int pn), .val (.int pa), .val (.int pb), .val (.int pd), .val (.int pe), .val (.int pf), .val (.int (3 : Int32)), .val (.int c_135), .val (.int c_136), .val (.int c_137), .val (.int c_138), .val (.int c_139), .val (.ref s_140), .val (.int c_137), .val (.ref s_141), .val (.ref b_142), .val (.ref b_143), .unset, .unset]) rfl (q := 188) rfl ?_
    refine Go.aload X143 hx (hb hby at_188) rfl rfl (q := 190) rfl ?_
    refine Go.callSW X143 hx hZ hown hS hKd (wd38 hw) (wd39 hw) (wd40 hw) (wd41 hw) (by decide) (cof3 l Z a0 hw s_141 b_141 (kb_141) cs fm c_135 c_136 c_139 h143 OK143 P141_0 P141_1 P141_2 P141_3 SCS SFM hcs hfm P135_0 P136_0 P139_0) e143 (by rw [hml]; rfl) (hb hby at_190) (argsL := [(.ref s_141)]) (rest := []) (lenOf pd18 rfl) rfl rfl (W := 0) (by first | exact Nat.le_refl _ | decide) (by decide) (by decide) (by decide) (by decide) ?_
    intro v144 T144 L144 k144 X144 hS hKd hZ hown hQ144
    obtain ⟨h144, e144⟩ : ∃ z, T144.heap = z := ⟨_, rfl⟩
    rw [e144] at hQ144 hKd
    obtain ⟨b_144, rfl, N144q, K144, fr144_b, P144_0, P144_1⟩ := hQ144
    have N144 := Fr.app N143 N144q
    have ne_s_140_b_144 : s_140 ≠ b_144 := ne_new P140_0.lt fr144_b
    have ne_b_140_b_144 : b_140 ≠ b_144 := ne_new P140_3.lt fr144_b
    have ne_s_141_b_144 : s_141 ≠ b_144 := ne_new P141_0.lt fr144_b
    have ne_b_141_b_144 : b_141 ≠ b_144 := ne_new P141_3.lt fr144_b
    have ne_b_142_b_144 : b_142 ≠ b_144 := ne_new P142_0.lt fr144_b
    have ne_b_143_b_144 : b_143 ≠ b_144 := ne_new P143_0.lt fr144_b
    have g_b_144 : Z.heap.size ≤ b_144 := Nat.le_trans OK143.1 fr144_b
    replace P140_0 := P140_0.keep K144
    replace P140_1 := P140_1.keep K144 nin0
    replace P140_2 := P140_2.keep K144 nin0
    replace P140_3 := P140_3.keep K144 nin0
    replace P141_0 := P141_0.keep K144
    replace P141_1 := P141_1.keep K144 nin0
    replace P141_2 := P141_2.keep K144 nin0
    replace P141_3 := P141_3.keep K144 nin0
    replace P142_0 := P142_0.keep K144
    replace P142_1 := P142_1.keep K144 nin0
    replace P143_0 := P143_0.keep K144
    replace P143_1 := P143_1.keep K144 nin0
    have OK144 := ext_keep OK143 K144 all0
    refine Go.astore X144 hx (hb hby at_193) rfl (l' := #[.val (.int pn), .val (.int pa), .val (.int pb), .val (.int pd), .val (.int pe), .val (.int pf), .val (.int (3 : Int32)), .val (.int c_135), .val (.int c_136), .val (.int c_137), .val (.int c_138), .val (.int c_139), .val (.ref s_140), .val (.int c_137), .val (.ref s_141), .val (.ref b_142), .val (.ref b_143), .val (.ref b_144), .unset]) rfl (q := 195) rfl ?_
    refine Go.aload X144 hx (hb hby at_195) rfl rfl (q := 197) rfl ?_
    refine Go.virt X144 hx hZ hown (wd93 hw) (wd94 hw) (notFace_of_selects (args := #[]) (mvT hZ (wd96 hw))) (wd96 hw) (wd95 hw) (wd40 hw) (wd97 hw) (by decide) (ctos l Z a0 hw b_142 s_140 h144 OK144 P142_1) e144 P142_0 (by rw [hml]; rfl) (hb hby at_197) (argsL := []) (rest := []) (lenOf pd19 rfl) rfl rfl (W := 0) (by first | exact Nat.le_refl _ | decide) (by decide) (by decide) (by decide) (by decide) ?_
    intro v145 T145 L145 X145 hQ145
    obtain ⟨rfl, N145q, e145⟩ := hQ145
    have N145 := Fr.app N144 N145q
    refine Go.astore X145 hx (hb hby at_200) rfl (l' := #[.val (.int pn), .val (.int pa), .val (.int pb), .val (.int pd), .val (.int pe), .val (.int pf), .val (.int (3 : Int32)), .val (.int c_135), .val (.int c_136), .val (.int c_137), .val (.int c_138), .val (.int c_139), .val (.ref s_140), .val (.int c_137), .val (.ref s_141), .val (.ref b_142), .val (.ref b_143), .val (.ref b_144), .val (.ref s_140)]) rfl (q := 202) rfl ?_
    refine Go.aload X145 hx (hb hby at_202) rfl rfl (q := 204) rfl ?_
    refine Go.aload X145 hx (hb hby at_204) rfl rfl (q := 206) rfl ?_
    refine Go.virt X145 hx hZ hown (wd98 hw) (wd99 hw) (notFace_of_selects (args := #[]) (mvT hZ (wd101 hw))) (wd101 hw) (wd100 hw) (wd10 hw) (wd102 hw) (by decide) (ceqs l Z a0 hw s_140 h144 OK144) e145 P140_0 (by rw [hml]; rfl) (hb hby at_206) (argsL := [(.ref s_140)]) (rest := []) (lenOf pd14 rfl) rfl rfl (W := 0) (by first | exact Nat.le_refl _ | decide) (by decide) (by decide) (by decide) (by decide) ?_
    intro v146 T146 L146 X146 hQ146
    obtain ⟨rfl, N146q, e146⟩ := hQ146
    have N146 := Fr.app N145 N146q
    refine Go.ifNo X146 hx (hb hby at_209) (by decide) (q := 212) rfl ?_
    refine Go.aload X146 hx (hb hby at_212) rfl rfl (q := 214) rfl ?_
    refine Go.virt X146 hx hZ hown (wd103 hw) (wd55 hw) (notFace_of_selects (args := #[]) (mvT hZ (wd57 hw))) (wd57 hw) (wd56 hw) (wd10 hw) (wd58 hw) (by decide) (clen l Z a0 hw s_140 cs b_140 (kb_140) ((3 : Int32)) ([(.int c_135), (.int c_136), (.int c_137)]) h144 OK144 P140_0 P140_1 P140_2 P140_3 SCS hcs) e146 P140_0 (by rw [hml]; rfl) (hb hby at_214) (argsL := []) (rest := []) (lenOf pd10 rfl) rfl rfl (W := 0) (by first | exact Nat.le_refl _ | decide) (by decide) (by decide) (by decide) (by decide) ?_
    intro v147 T147 L147 X147 hQ147
    obtain ⟨rfl, N147q, e147⟩ := hQ147
    have N147 := Fr.app N146 N147q
    refine Go.iload X147 hx (hb hby at_217) rfl (q := 219) rfl ?_
    refine Go.icmpNo X147 hx (hb hby at_219) (by decide) (q := 222) rfl ?_
    refine Go.aload X147 hx (hb hby at_222) rfl rfl (q := 224) rfl ?_
    refine Go.aload X147 hx (hb hby at_224) rfl rfl (q := 226) rfl ?_
    refine Go.virt X147 hx hZ hown (wd104 hw) (wd105 hw) (notFace_of_selects (args := #[]) (mvT hZ (wd107 hw))) (wd107 hw) (wd106 hw) (wd40 hw) (wd108 hw) (by decide) (cqes l Z a0 hw b_142 b_143 s_140 h144 OK144 P143_0 P142_1 P143_1 P140_0) e147 P142_0 (by rw [hml]; rfl) (hb hby at_226) (argsL := [(.ref b_143)]) (rest := []) (lenOf pd14 rfl) rfl rfl (W := 0) (by first | exact Nat.le_refl _ | decide) (by decide) (by decide) (by decide) (by decide) ?_
    intro v148 T148 L148 X148 hQ148
    obtain ⟨rfl, N148q, e148⟩ := hQ148
    have N148 := Fr.app N147 N148q
    refine Go.ifNo X148 hx (hb hby at_229) (by decide) (q := 232) rfl ?_
    by_cases hc149 : c_137 = c_139
    · show Go pp ee below _ (T148.setTop (mkF mm 232 #[.val (.int pn), .val (.int pa), .val (.int pb), .val (.int pd), .val (.int pe), .val (.int pf), .val (.int (3 : Int32)), .val (.int c_135), .val (.int c_136), .val (.int c_137), .val (.int c_138), .val (.int c_139), .val (.ref s_140), .val (.int c_137), .val (.ref s_141), .val (.ref b_142), .val (.ref b_143), .val (.ref b_144), .val (.ref s_140)] []))
      refine Go.aload X148 hx (hb hby at_232) rfl rfl (q := 234) rfl ?_
      refine Go.aload X148 hx (hb hby at_234) rfl rfl (q := 236) rfl ?_
      refine Go.virt X148 hx hZ hown (wd104 hw) (wd105 hw) (notFace_of_selects (args := #[]) (mvT hZ (wd107 hw))) (wd107 hw) (wd106 hw) (wd40 hw) (wd108 hw) (by decide) (cqe3_1 l Z a0 hw b_142 b_144 s_140 s_141 cs b_140 b_141 (kb_140) (kb_141) c_135 c_136 c_137 c_139 h144 OK144 P144_0 P142_1 P144_1 P140_0 P141_0 P140_1 P141_1 P140_2 P141_2 P140_3 P141_3 ne_s_140_s_141 SCS hcs hc149) e148 P142_0 (by rw [hml]; rfl) (hb hby at_236) (argsL := [(.ref b_144)]) (rest := []) (lenOf pd14 rfl) rfl rfl (W := 0) (by first | exact Nat.le_refl _ | decide) (by decide) (by decide) (by decide) (by decide) ?_
      intro v150 T150 L150 X150 hQ150
      obtain ⟨rfl, N150q, e150⟩ := hQ150
      have N150 := Fr.app N148 N150q
      refine Go.iload X150 hx (hb hby at_239) rfl (q := 241) rfl ?_
      refine Go.iload X150 hx (hb hby at_241) rfl (q := 243) rfl ?_
      refine Go.icmpNo X150 hx (hb hby at_243) (Jvm.Free.XT.ii_ne_f hc149) (q := 246) rfl ?_
      refine Go.iconst X150 hx (hb hby at_246) (r := (1 : Int32)) rfl (q := 247) rfl ?_
      refine Go.goto X150 hx (hb hby at_247) (q := 251) (by decide) (by decide) ?_
      refine Go.icmpNo X150 hx (hb hby at_251) (by decide) (q := 254) rfl ?_
      refine Go.iconst X150 hx (hb hby at_254) (r := (1 : Int32)) rfl (q := 255) rfl ?_
      refine Go.goto X150 hx (hb hby at_255) (q := 259) (by decide) (by decide) ?_
      exact Go.retIW X150 hx hS hKd hret hlk (by simp) rfl (hb hby at_259) e150 (by decide) (by decide) ⟨rfl, N150⟩
    · show Go pp ee below _ (T148.setTop (mkF mm 232 #[.val (.int pn), .val (.int pa), .val (.int pb), .val (.int pd), .val (.int pe), .val (.int pf), .val (.int (3 : Int32)), .val (.int c_135), .val (.int c_136), .val (.int c_137), .val (.int c_138), .val (.int c_139), .val (.ref s_140), .val (.int c_137), .val (.ref s_141), .val (.ref b_142), .val (.ref b_143), .val (.ref b_144), .val (.ref s_140)] []))
      refine Go.aload X148 hx (hb hby at_232) rfl rfl (q := 234) rfl ?_
      refine Go.aload X148 hx (hb hby at_234) rfl rfl (q := 236) rfl ?_
      refine Go.virt X148 hx hZ hown (wd104 hw) (wd105 hw) (notFace_of_selects (args := #[]) (mvT hZ (wd107 hw))) (wd107 hw) (wd106 hw) (wd40 hw) (wd108 hw) (by decide) (cqe3_0 l Z a0 hw b_142 b_144 s_140 s_141 cs b_140 b_141 (kb_140) (kb_141) c_135 c_136 c_137 c_139 h144 OK144 P144_0 P142_1 P144_1 P140_0 P141_0 P140_1 P141_1 P140_2 P141_2 P140_3 P141_3 ne_s_140_s_141 SCS hcs hc149) e148 P142_0 (by rw [hml]; rfl) (hb hby at_236) (argsL := [(.ref b_144)]) (rest := []) (lenOf pd14 rfl) rfl rfl (W := 0) (by first | exact Nat.le_refl _ | decide) (by decide) (by decide) (by decide) (by decide) ?_
      intro v151 T151 L151 X151 hQ151
      obtain ⟨rfl, N151q, e151⟩ := hQ151
      have N151 := Fr.app N148 N151q
      refine Go.iload X151 hx (hb hby at_239) rfl (q := 241) rfl ?_
      refine Go.iload X151 hx (hb hby at_241) rfl (q := 243) rfl ?_
      refine Go.icmpYes X151 hx (hb hby at_243) (Jvm.Free.XT.ii_ne_t hc149) (q := 250) (by decide) (by decide) ?_
      refine Go.iconst X151 hx (hb hby at_250) (r := (0 : Int32)) rfl (q := 251) rfl ?_
      refine Go.icmpNo X151 hx (hb hby at_251) (by decide) (q := 254) rfl ?_
      refine Go.iconst X151 hx (hb hby at_254) (r := (1 : Int32)) rfl (q := 255) rfl ?_
      refine Go.goto X151 hx (hb hby at_255) (q := 259) (by decide) (by decide) ?_
      exact Go.retIW X151 hx hS hKd hret hlk (by simp) rfl (hb hby at_259) e151 (by decide) (by decide) ⟨rfl, N151⟩
  · show Go pp ee below _ (s₁.setTop (mkF mm 4 #[.val (.int pn), .val (.int pa), .val (.int pb), .val (.int pd), .val (.int pe), .val (.int pf), .unset, .unset, .unset, .unset, .unset, .unset, .unset, .unset, .unset, .unset, .unset, .unset, .unset] [(.int (3 : Int32)), (.int (1 : Int32))]))
    refine Go.iadd X0 hx (hb hby at_4) (r := (4 : Int32)) rfl (q := 5) rfl ?_
    refine Go.istore X0 hx (hb hby at_5) (l' := #[.val (.int pn), .val (.int pa), .val (.int pb), .val (.int pd), .val (.int pe), .val (.int pf), .val (.int (4 : Int32)), .unset, .unset, .unset, .unset, .unset, .unset, .unset, .unset, .unset, .unset, .unset, .unset]) rfl (q := 7) rfl ?_
    refine Go.iloadN X0 hx (hb hby at_7) rfl (q := 8) rfl ?_
    refine Go.callS X0 hx hZ hown (wd0 hw) (wd1 hw) (wd2 hw) (wd3 hw) (by decide) (cidc l Z a0 hw pa h0 O0) e0 (by rw [hml]; rfl) (hb hby at_8) (argsL := [(.int pa)]) (rest := []) (lenOf pd16 rfl) rfl rfl (W := 0) (by first | exact Nat.le_refl _ | decide) (by decide) (by decide) (by decide) (by decide) ?_
    intro v152 T152 L152 X152 hQ152
    obtain ⟨c_152, rfl, N152q, e152, P152_0⟩ := hQ152
    have N152 := Fr.app N0 N152q
    refine Go.istore X152 hx (hb hby at_11) (l' := #[.val (.int pn), .val (.int pa), .val (.int pb), .val (.int pd), .val (.int pe), .val (.int pf), .val (.int (4 : Int32)), .val (.int c_152), .unset, .unset, .unset, .unset, .unset, .unset, .unset, .unset, .unset, .unset, .unset]) rfl (q := 13) rfl ?_
    refine Go.iloadN X152 hx (hb hby at_13) rfl (q := 14) rfl ?_
    refine Go.callS X152 hx hZ hown (wd0 hw) (wd1 hw) (wd2 hw) (wd3 hw) (by decide) (cidc l Z a0 hw pb h0 O0) e152 (by rw [hml]; rfl) (hb hby at_14) (argsL := [(.int pb)]) (rest := []) (lenOf pd16 rfl) rfl rfl (W := 0) (by first | exact Nat.le_refl _ | decide) (by decide) (by decide) (by decide) (by decide) ?_
    intro v153 T153 L153 X153 hQ153
    obtain ⟨c_153, rfl, N153q, e153, P153_0⟩ := hQ153
    have N153 := Fr.app N152 N153q
    refine Go.istore X153 hx (hb hby at_17) (l' := #[.val (.int pn), .val (.int pa), .val (.int pb), .val (.int pd), .val (.int pe), .val (.int pf), .val (.int (4 : Int32)), .val (.int c_152), .val (.int c_153), .unset, .unset, .unset, .unset, .unset, .unset, .unset, .unset, .unset, .unset]) rfl (q := 19) rfl ?_
    refine Go.iloadN X153 hx (hb hby at_19) rfl (q := 20) rfl ?_
    refine Go.callS X153 hx hZ hown (wd0 hw) (wd1 hw) (wd2 hw) (wd3 hw) (by decide) (cidc l Z a0 hw pd h0 O0) e153 (by rw [hml]; rfl) (hb hby at_20) (argsL := [(.int pd)]) (rest := []) (lenOf pd16 rfl) rfl rfl (W := 0) (by first | exact Nat.le_refl _ | decide) (by decide) (by decide) (by decide) (by decide) ?_
    intro v154 T154 L154 X154 hQ154
    obtain ⟨c_154, rfl, N154q, e154, P154_0⟩ := hQ154
    have N154 := Fr.app N153 N154q
    refine Go.istore X154 hx (hb hby at_23) (l' := #[.val (.int pn), .val (.int pa), .val (.int pb), .val (.int pd), .val (.int pe), .val (.int pf), .val (.int (4 : Int32)), .val (.int c_152), .val (.int c_153), .val (.int c_154), .unset, .unset, .unset, .unset, .unset, .unset, .unset, .unset, .unset]) rfl (q := 25) rfl ?_
    refine Go.iload X154 hx (hb hby at_25) rfl (q := 27) rfl ?_
    refine Go.callS X154 hx hZ hown (wd0 hw) (wd1 hw) (wd2 hw) (wd3 hw) (by decide) (cidc l Z a0 hw pe h0 O0) e154 (by rw [hml]; rfl) (hb hby at_27) (argsL := [(.int pe)]) (rest := []) (lenOf pd16 rfl) rfl rfl (W := 0) (by first | exact Nat.le_refl _ | decide) (by decide) (by decide) (by decide) (by decide) ?_
    intro v155 T155 L155 X155 hQ155
    obtain ⟨c_155, rfl, N155q, e155, P155_0⟩ := hQ155
    have N155 := Fr.app N154 N155q
    refine Go.istore X155 hx (hb hby at_30) (l' := #[.val (.int pn), .val (.int pa), .val (.int pb), .val (.int pd), .val (.int pe), .val (.int pf), .val (.int (4 : Int32)), .val (.int c_152), .val (.int c_153), .val (.int c_154), .val (.int c_155), .unset, .unset, .unset, .unset, .unset, .unset, .unset, .unset]) rfl (q := 32) rfl ?_
    refine Go.iload X155 hx (hb hby at_32) rfl (q := 34) rfl ?_
    refine Go.callS X155 hx hZ hown (wd0 hw) (wd1 hw) (wd2 hw) (wd3 hw) (by decide) (cidc l Z a0 hw pf h0 O0) e155 (by rw [hml]; rfl) (hb hby at_34) (argsL := [(.int pf)]) (rest := []) (lenOf pd16 rfl) rfl rfl (W := 0) (by first | exact Nat.le_refl _ | decide) (by decide) (by decide) (by decide) (by decide) ?_
    intro v156 T156 L156 X156 hQ156
    obtain ⟨c_156, rfl, N156q, e156, P156_0⟩ := hQ156
    have N156 := Fr.app N155 N156q
    refine Go.istore X156 hx (hb hby at_37) (l' := #[.val (.int pn), .val (.int pa), .val (.int pb), .val (.int pd), .val (.int pe), .val (.int pf), .val (.int (4 : Int32)), .val (.int c_152), .val (.int c_153), .val (.int c_154), .val (.int c_155), .val (.int c_156), .unset, .unset, .unset, .unset, .unset, .unset, .unset]) rfl (q := 39) rfl ?_
    refine Go.iload X156 hx (hb hby at_39) rfl (q := 41) rfl ?_
    refine Go.iload X156 hx (hb hby at_41) rfl (q := 43) rfl ?_
    refine Go.iload X156 hx (hb hby at_43) rfl (q := 45) rfl ?_
    refine Go.iload X156 hx (hb hby at_45) rfl (q := 47) rfl ?_
    refine Go.iload X156 hx (hb hby at_47) rfl (q := 49) rfl ?_
    refine Go.callS X156 hx hZ hown (wd5 hw) (wd6 hw) (wd2 hw) (wd7 hw) (by decide) (cmk4 l Z a0 hw cs c_152 c_153 c_154 c_155 h0 O0 SCS hcs P152_0 P153_0 P154_0 P155_0) e156 (by rw [hml]; rfl) (hb hby at_49) (argsL := [(.int (4 : Int32)), (.int c_152), (.int c_153), (.int c_154), (.int c_155)]) (rest := []) (lenOf pd17 rfl) rfl rfl (W := 0) (by first | exact Nat.le_refl _ | decide) (by decide) (by decide) (by decide) (by decide) ?_
    intro v157 T157 L157 X157 hQ157
    obtain ⟨h157, e157⟩ : ∃ z, T157.heap = z := ⟨_, rfl⟩
    rw [e157] at hQ157
    obtain ⟨s_157, b_157, kb_157, rfl, N157q, K157, fr157_s, fr157_b, P157_0, P157_1, P157_2, P157_3⟩ := hQ157
    have N157 := Fr.app N156 N157q
    have g_s_157 : Z.heap.size ≤ s_157 := Nat.le_trans O0.1 fr157_s
    have g_b_157 : Z.heap.size ≤ b_157 := Nat.le_trans O0.1 fr157_b
    replace hKd := Nat.le_trans hKd K157.1
    have OK157 := ext_keep O0 K157 all0
    refine Go.astore X157 hx (hb hby at_52) rfl (l' := #[.val (.int pn), .val (.int pa), .val (.int pb), .val (.int pd), .val (.int pe), .val (.int pf), .val (.int (4 : Int32)), .val (.int c_152), .val (.int c_153), .val (.int c_154), .val (.int c_155), .val (.int c_156), .val (.ref s_157), .unset, .unset, .unset, .unset, .unset, .unset]) rfl (q := 54) rfl ?_
    refine Go.iload X157 hx (hb hby at_54) rfl (q := 56) rfl ?_
    refine Go.iconst X157 hx (hb hby at_56) (r := (1 : Int32)) rfl (q := 57) rfl ?_
    refine Go.icmpYes X157 hx (hb hby at_57) (by decide) (q := 65) (by decide) (by decide) ?_
    refine Go.iload X157 hx (hb hby at_65) rfl (q := 67) rfl ?_
    refine Go.iconst X157 hx (hb hby at_67) (r := (2 : Int32)) rfl (q := 68) rfl ?_
    refine Go.icmpYes X157 hx (hb hby at_68) (by decide) (q := 76) (by decide) (by decide) ?_
    refine Go.iload X157 hx (hb hby at_76) rfl (q := 78) rfl ?_
    refine Go.iconst X157 hx (hb hby at_78) (r := (3 : Int32)) rfl (q := 79) rfl ?_
    refine Go.icmpYes X157 hx (hb hby at_79) (by decide) (q := 87) (by decide) (by decide) ?_
    refine Go.iload X157 hx (hb hby at_87) rfl (q := 89) rfl ?_
    refine Go.istore X157 hx (hb hby at_89) (l' := #[.val (.int pn), .val (.int pa), .val (.int pb), .val (.int pd), .val (.int pe), .val (.int pf), .val (.int (4 : Int32)), .val (.int c_152), .val (.int c_153), .val (.int c_154), .val (.int c_155), .val (.int c_156), .val (.ref s_157), .val (.int c_155), .unset, .unset, .unset, .unset, .unset]) rfl (q := 91) rfl ?_
    refine Go.iload X157 hx (hb hby at_91) rfl (q := 93) rfl ?_
    refine Go.iconst X157 hx (hb hby at_93) (r := (1 : Int32)) rfl (q := 94) rfl ?_
    refine Go.icmpYes X157 hx (hb hby at_94) (by decide) (q := 114) (by decide) (by decide) ?_
    refine Go.iload X157 hx (hb hby at_114) rfl (q := 116) rfl ?_
    refine Go.iconst X157 hx (hb hby at_116) (r := (2 : Int32)) rfl (q := 117) rfl ?_
    refine Go.icmpYes X157 hx (hb hby at_117) (by decide) (q := 137) (by decide) (by decide) ?_
    refine Go.iload X157 hx (hb hby at_137) rfl (q := 139) rfl ?_
    refine Go.iconst X157 hx (hb hby at_139) (r := (3 : Int32)) rfl (q := 140) rfl ?_
    refine Go.icmpYes X157 hx (hb hby at_140) (by decide) (q := 160) (by decide) (by decide) ?_
    refine Go.iconst X157 hx (hb hby at_160) (r := (4 : Int32)) rfl (q := 161) rfl ?_
    refine Go.iload X157 hx (hb hby at_161) rfl (q := 163) rfl ?_
    refine Go.iload X157 hx (hb hby at_163) rfl (q := 165) rfl ?_
    refine Go.iload X157 hx (hb hby at_165) rfl (q := 167) rfl ?_
    refine Go.iload X157 hx (hb hby at_167) rfl (q := 169) rfl ?_
    refine Go.callS X157 hx hZ hown (wd5 hw) (wd6 hw) (wd2 hw) (wd7 hw) (by decide) (cmk4 l Z a0 hw cs c_152 c_153 c_154 c_156 h157 OK157 SCS hcs P152_0 P153_0 P154_0 P156_0) e157 (by rw [hml]; rfl) (hb hby at_169) (argsL := [(.int (4 : Int32)), (.int c_152), (.int c_153), (.int c_154), (.int c_156)]) (rest := []) (lenOf pd17 rfl) rfl rfl (W := 0) (by first | exact Nat.le_refl _ | decide) (by decide) (by decide) (by decide) (by decide) ?_
    intro v158 T158 L158 X158 hQ158
    obtain ⟨h158, e158⟩ : ∃ z, T158.heap = z := ⟨_, rfl⟩
    rw [e158] at hQ158
    obtain ⟨s_158, b_158, kb_158, rfl, N158q, K158, fr158_s, fr158_b, P158_0, P158_1, P158_2, P158_3⟩ := hQ158
    have N158 := Fr.app N157 N158q
    have ne_s_157_s_158 : s_157 ≠ s_158 := ne_new P157_0.lt fr158_s
    have ne_b_157_s_158 : b_157 ≠ s_158 := ne_new P157_3.lt fr158_s
    have g_s_158 : Z.heap.size ≤ s_158 := Nat.le_trans OK157.1 fr158_s
    have ne_s_157_b_158 : s_157 ≠ b_158 := ne_new P157_0.lt fr158_b
    have ne_b_157_b_158 : b_157 ≠ b_158 := ne_new P157_3.lt fr158_b
    have g_b_158 : Z.heap.size ≤ b_158 := Nat.le_trans OK157.1 fr158_b
    replace hKd := Nat.le_trans hKd K158.1
    replace P157_0 := P157_0.keep K158
    replace P157_1 := P157_1.keep K158 nin0
    replace P157_2 := P157_2.keep K158 nin0
    replace P157_3 := P157_3.keep K158 nin0
    have OK158 := ext_keep OK157 K158 all0
    refine Go.astore X158 hx (hb hby at_172) rfl (l' := #[.val (.int pn), .val (.int pa), .val (.int pb), .val (.int pd), .val (.int pe), .val (.int pf), .val (.int (4 : Int32)), .val (.int c_152), .val (.int c_153), .val (.int c_154), .val (.int c_155), .val (.int c_156), .val (.ref s_157), .val (.int c_155), .val (.ref s_158), .unset, .unset, .unset, .unset]) rfl (q := 174) rfl ?_
    refine Go.aload X158 hx (hb hby at_174) rfl rfl (q := 176) rfl ?_
    refine Go.callSW X158 hx hZ hown hS hKd (wd38 hw) (wd39 hw) (wd40 hw) (wd41 hw) (by decide) (cof4 l Z a0 hw s_157 b_157 (kb_157) cs fm c_152 c_153 c_154 c_155 h158 OK158 P157_0 P157_1 P157_2 P157_3 SCS SFM hcs hfm P152_0 P153_0 P154_0 P155_0) e158 (by rw [hml]; rfl) (hb hby at_176) (argsL := [(.ref s_157)]) (rest := []) (lenOf pd18 rfl) rfl rfl (W := 0) (by first | exact Nat.le_refl _ | decide) (by decide) (by decide) (by decide) (by decide) ?_
    intro v159 T159 L159 k159 X159 hS hKd hZ hown hQ159
    obtain ⟨h159, e159⟩ : ∃ z, T159.heap = z := ⟨_, rfl⟩
    rw [e159] at hQ159 hKd
    obtain ⟨b_159, rfl, N159q, K159, fr159_b, P159_0, P159_1⟩ := hQ159
    have N159 := Fr.app N158 N159q
    have ne_s_157_b_159 : s_157 ≠ b_159 := ne_new P157_0.lt fr159_b
    have ne_b_157_b_159 : b_157 ≠ b_159 := ne_new P157_3.lt fr159_b
    have ne_s_158_b_159 : s_158 ≠ b_159 := ne_new P158_0.lt fr159_b
    have ne_b_158_b_159 : b_158 ≠ b_159 := ne_new P158_3.lt fr159_b
    have g_b_159 : Z.heap.size ≤ b_159 := Nat.le_trans OK158.1 fr159_b
    replace P157_0 := P157_0.keep K159
    replace P157_1 := P157_1.keep K159 nin0
    replace P157_2 := P157_2.keep K159 nin0
    replace P157_3 := P157_3.keep K159 nin0
    replace P158_0 := P158_0.keep K159
    replace P158_1 := P158_1.keep K159 nin0
    replace P158_2 := P158_2.keep K159 nin0
    replace P158_3 := P158_3.keep K159 nin0
    have OK159 := ext_keep OK158 K159 all0
    refine Go.astore X159 hx (hb hby at_179) rfl (l' := #[.val (.int pn), .val (.int pa), .val (.int pb), .val (.int pd), .val (.int pe), .val (.int pf), .val (.int (4 : Int32)), .val (.int c_152), .val (.int c_153), .val (.int c_154), .val (.int c_155), .val (.int c_156), .val (.ref s_157), .val (.int c_155), .val (.ref s_158), .val (.ref b_159), .unset, .unset, .unset]) rfl (q := 181) rfl ?_
    refine Go.aload X159 hx (hb hby at_181) rfl rfl (q := 183) rfl ?_
    refine Go.callSW X159 hx hZ hown hS hKd (wd38 hw) (wd39 hw) (wd40 hw) (wd41 hw) (by decide) (cof4 l Z a0 hw s_157 b_157 (kb_157) cs fm c_152 c_153 c_154 c_155 h159 OK159 P157_0 P157_1 P157_2 P157_3 SCS SFM hcs hfm P152_0 P153_0 P154_0 P155_0) e159 (by rw [hml]; rfl) (hb hby at_183) (argsL := [(.ref s_157)]) (rest := []) (lenOf pd18 rfl) rfl rfl (W := 0) (by first | exact Nat.le_refl _ | decide) (by decide) (by decide) (by decide) (by decide) ?_
    intro v160 T160 L160 k160 X160 hS hKd hZ hown hQ160
    obtain ⟨h160, e160⟩ : ∃ z, T160.heap = z := ⟨_, rfl⟩
    rw [e160] at hQ160 hKd
    obtain ⟨b_160, rfl, N160q, K160, fr160_b, P160_0, P160_1⟩ := hQ160
    have N160 := Fr.app N159 N160q
    have ne_s_157_b_160 : s_157 ≠ b_160 := ne_new P157_0.lt fr160_b
    have ne_b_157_b_160 : b_157 ≠ b_160 := ne_new P157_3.lt fr160_b
    have ne_s_158_b_160 : s_158 ≠ b_160 := ne_new P158_0.lt fr160_b
    have ne_b_158_b_160 : b_158 ≠ b_160 := ne_new P158_3.lt fr160_b
    have ne_b_159_b_160 : b_159 ≠ b_160 := ne_new P159_0.lt fr160_b
    have g_b_160 : Z.heap.size ≤ b_160 := Nat.le_trans OK159.1 fr160_b
    replace P157_0 := P157_0.keep K160
    replace P157_1 := P157_1.keep K160 nin0
    replace P157_2 := P157_2.keep K160 nin0
    replace P157_3 := P157_3.keep K160 nin0
    replace P158_0 := P158_0.keep K160
    replace P158_1 := P158_1.keep K160 nin0
    replace P158_2 := P158_2.keep K160 nin0
    replace P158_3 := P158_3.keep K160 nin0
    replace P159_0 := P159_0.keep K160
    replace P159_1 := P159_1.keep K160 nin0
    have OK160 := ext_keep OK159 K160 all0
    refine Go.astore X160 hx (hb hby at_186) rfl (l' := #[.val (.int pn), .val (.int pa), .val (.int pb), .val (.int pd), .val (.int pe), .val (.int pf), .val (.int (4 : Int32)), .val (.int c_152), .val (.int c_153), .val (.int c_154), .val (.int c_155), .val (.int c_156), .val (.ref s_157), .val (.int c_155), .val (.ref s_158), .val (.ref b_159), .val (.ref b_160), .unset, .unset]) rfl (q := 188) rfl ?_
    refine Go.aload X160 hx (hb hby at_188) rfl rfl (q := 190) rfl ?_
    refine Go.callSW X160 hx hZ hown hS hKd (wd38 hw) (wd39 hw) (wd40 hw) (wd41 hw) (by decide) (cof4 l Z a0 hw s_158 b_158 (kb_158) cs fm c_152 c_153 c_154 c_156 h160 OK160 P158_0 P158_1 P158_2 P158_3 SCS SFM hcs hfm P152_0 P153_0 P154_0 P156_0) e160 (by rw [hml]; rfl) (hb hby at_190) (argsL := [(.ref s_158)]) (rest := []) (lenOf pd18 rfl) rfl rfl (W := 0) (by first | exact Nat.le_refl _ | decide) (by decide) (by decide) (by decide) (by decide) ?_
    intro v161 T161 L161 k161 X161 hS hKd hZ hown hQ161
    obtain ⟨h161, e161⟩ : ∃ z, T161.heap = z := ⟨_, rfl⟩
    rw [e161] at hQ161 hKd
    obtain ⟨b_161, rfl, N161q, K161, fr161_b, P161_0, P161_1⟩ := hQ161
    have N161 := Fr.app N160 N161q
    have ne_s_157_b_161 : s_157 ≠ b_161 := ne_new P157_0.lt fr161_b
    have ne_b_157_b_161 : b_157 ≠ b_161 := ne_new P157_3.lt fr161_b
    have ne_s_158_b_161 : s_158 ≠ b_161 := ne_new P158_0.lt fr161_b
    have ne_b_158_b_161 : b_158 ≠ b_161 := ne_new P158_3.lt fr161_b
    have ne_b_159_b_161 : b_159 ≠ b_161 := ne_new P159_0.lt fr161_b
    have ne_b_160_b_161 : b_160 ≠ b_161 := ne_new P160_0.lt fr161_b
    have g_b_161 : Z.heap.size ≤ b_161 := Nat.le_trans OK160.1 fr161_b
    replace P157_0 := P157_0.keep K161
    replace P157_1 := P157_1.keep K161 nin0
    replace P157_2 := P157_2.keep K161 nin0
    replace P157_3 := P157_3.keep K161 nin0
    replace P158_0 := P158_0.keep K161
    replace P158_1 := P158_1.keep K161 nin0
    replace P158_2 := P158_2.keep K161 nin0
    replace P158_3 := P158_3.keep K161 nin0
    replace P159_0 := P159_0.keep K161
    replace P159_1 := P159_1.keep K161 nin0
    replace P160_0 := P160_0.keep K161
    replace P160_1 := P160_1.keep K161 nin0
    have OK161 := ext_keep OK160 K161 all0
    refine Go.astore X161 hx (hb hby at_193) rfl (l' := #[.val (.int pn), .val (.int pa), .val (.int pb), .val (.int pd), .val (.int pe), .val (.int pf), .val (.int (4 : Int32)), .val (.int c_152), .val (.int c_153), .val (.int c_154), .val (.int c_155), .val (.int c_156), .val (.ref s_157), .val (.int c_155), .val (.ref s_158), .val (.ref b_159), .val (.ref b_160), .val (.ref b_161), .unset]) rfl (q := 195) rfl ?_
    refine Go.aload X161 hx (hb hby at_195) rfl rfl (q := 197) rfl ?_
    refine Go.virt X161 hx hZ hown (wd93 hw) (wd94 hw) (notFace_of_selects (args := #[]) (mvT hZ (wd96 hw))) (wd96 hw) (wd95 hw) (wd40 hw) (wd97 hw) (by decide) (ctos l Z a0 hw b_159 s_157 h161 OK161 P159_1) e161 P159_0 (by rw [hml]; rfl) (hb hby at_197) (argsL := []) (rest := []) (lenOf pd19 rfl) rfl rfl (W := 0) (by first | exact Nat.le_refl _ | decide) (by decide) (by decide) (by decide) (by decide) ?_
    intro v162 T162 L162 X162 hQ162
    obtain ⟨rfl, N162q, e162⟩ := hQ162
    have N162 := Fr.app N161 N162q
    refine Go.astore X162 hx (hb hby at_200) rfl (l' := #[.val (.int pn), .val (.int pa), .val (.int pb), .val (.int pd), .val (.int pe), .val (.int pf), .val (.int (4 : Int32)), .val (.int c_152), .val (.int c_153), .val (.int c_154), .val (.int c_155), .val (.int c_156), .val (.ref s_157), .val (.int c_155), .val (.ref s_158), .val (.ref b_159), .val (.ref b_160), .val (.ref b_161), .val (.ref s_157)]) rfl (q := 202) rfl ?_
    refine Go.aload X162 hx (hb hby at_202) rfl rfl (q := 204) rfl ?_
    refine Go.aload X162 hx (hb hby at_204) rfl rfl (q := 206) rfl ?_
    refine Go.virt X162 hx hZ hown (wd98 hw) (wd99 hw) (notFace_of_selects (args := #[]) (mvT hZ (wd101 hw))) (wd101 hw) (wd100 hw) (wd10 hw) (wd102 hw) (by decide) (ceqs l Z a0 hw s_157 h161 OK161) e162 P157_0 (by rw [hml]; rfl) (hb hby at_206) (argsL := [(.ref s_157)]) (rest := []) (lenOf pd14 rfl) rfl rfl (W := 0) (by first | exact Nat.le_refl _ | decide) (by decide) (by decide) (by decide) (by decide) ?_
    intro v163 T163 L163 X163 hQ163
    obtain ⟨rfl, N163q, e163⟩ := hQ163
    have N163 := Fr.app N162 N163q
    refine Go.ifNo X163 hx (hb hby at_209) (by decide) (q := 212) rfl ?_
    refine Go.aload X163 hx (hb hby at_212) rfl rfl (q := 214) rfl ?_
    refine Go.virt X163 hx hZ hown (wd103 hw) (wd55 hw) (notFace_of_selects (args := #[]) (mvT hZ (wd57 hw))) (wd57 hw) (wd56 hw) (wd10 hw) (wd58 hw) (by decide) (clen l Z a0 hw s_157 cs b_157 (kb_157) ((4 : Int32)) ([(.int c_152), (.int c_153), (.int c_154), (.int c_155)]) h161 OK161 P157_0 P157_1 P157_2 P157_3 SCS hcs) e163 P157_0 (by rw [hml]; rfl) (hb hby at_214) (argsL := []) (rest := []) (lenOf pd10 rfl) rfl rfl (W := 0) (by first | exact Nat.le_refl _ | decide) (by decide) (by decide) (by decide) (by decide) ?_
    intro v164 T164 L164 X164 hQ164
    obtain ⟨rfl, N164q, e164⟩ := hQ164
    have N164 := Fr.app N163 N164q
    refine Go.iload X164 hx (hb hby at_217) rfl (q := 219) rfl ?_
    refine Go.icmpNo X164 hx (hb hby at_219) (by decide) (q := 222) rfl ?_
    refine Go.aload X164 hx (hb hby at_222) rfl rfl (q := 224) rfl ?_
    refine Go.aload X164 hx (hb hby at_224) rfl rfl (q := 226) rfl ?_
    refine Go.virt X164 hx hZ hown (wd104 hw) (wd105 hw) (notFace_of_selects (args := #[]) (mvT hZ (wd107 hw))) (wd107 hw) (wd106 hw) (wd40 hw) (wd108 hw) (by decide) (cqes l Z a0 hw b_159 b_160 s_157 h161 OK161 P160_0 P159_1 P160_1 P157_0) e164 P159_0 (by rw [hml]; rfl) (hb hby at_226) (argsL := [(.ref b_160)]) (rest := []) (lenOf pd14 rfl) rfl rfl (W := 0) (by first | exact Nat.le_refl _ | decide) (by decide) (by decide) (by decide) (by decide) ?_
    intro v165 T165 L165 X165 hQ165
    obtain ⟨rfl, N165q, e165⟩ := hQ165
    have N165 := Fr.app N164 N165q
    refine Go.ifNo X165 hx (hb hby at_229) (by decide) (q := 232) rfl ?_
    by_cases hc166 : c_155 = c_156
    · show Go pp ee below _ (T165.setTop (mkF mm 232 #[.val (.int pn), .val (.int pa), .val (.int pb), .val (.int pd), .val (.int pe), .val (.int pf), .val (.int (4 : Int32)), .val (.int c_152), .val (.int c_153), .val (.int c_154), .val (.int c_155), .val (.int c_156), .val (.ref s_157), .val (.int c_155), .val (.ref s_158), .val (.ref b_159), .val (.ref b_160), .val (.ref b_161), .val (.ref s_157)] []))
      refine Go.aload X165 hx (hb hby at_232) rfl rfl (q := 234) rfl ?_
      refine Go.aload X165 hx (hb hby at_234) rfl rfl (q := 236) rfl ?_
      refine Go.virt X165 hx hZ hown (wd104 hw) (wd105 hw) (notFace_of_selects (args := #[]) (mvT hZ (wd107 hw))) (wd107 hw) (wd106 hw) (wd40 hw) (wd108 hw) (by decide) (cqe4_1 l Z a0 hw b_159 b_161 s_157 s_158 cs b_157 b_158 (kb_157) (kb_158) c_152 c_153 c_154 c_155 c_156 h161 OK161 P161_0 P159_1 P161_1 P157_0 P158_0 P157_1 P158_1 P157_2 P158_2 P157_3 P158_3 ne_s_157_s_158 SCS hcs hc166) e165 P159_0 (by rw [hml]; rfl) (hb hby at_236) (argsL := [(.ref b_161)]) (rest := []) (lenOf pd14 rfl) rfl rfl (W := 0) (by first | exact Nat.le_refl _ | decide) (by decide) (by decide) (by decide) (by decide) ?_
      intro v167 T167 L167 X167 hQ167
      obtain ⟨rfl, N167q, e167⟩ := hQ167
      have N167 := Fr.app N165 N167q
      refine Go.iload X167 hx (hb hby at_239) rfl (q := 241) rfl ?_
      refine Go.iload X167 hx (hb hby at_241) rfl (q := 243) rfl ?_
      refine Go.icmpNo X167 hx (hb hby at_243) (Jvm.Free.XT.ii_ne_f hc166) (q := 246) rfl ?_
      refine Go.iconst X167 hx (hb hby at_246) (r := (1 : Int32)) rfl (q := 247) rfl ?_
      refine Go.goto X167 hx (hb hby at_247) (q := 251) (by decide) (by decide) ?_
      refine Go.icmpNo X167 hx (hb hby at_251) (by decide) (q := 254) rfl ?_
      refine Go.iconst X167 hx (hb hby at_254) (r := (1 : Int32)) rfl (q := 255) rfl ?_
      refine Go.goto X167 hx (hb hby at_255) (q := 259) (by decide) (by decide) ?_
      exact Go.retIW X167 hx hS hKd hret hlk (by simp) rfl (hb hby at_259) e167 (by decide) (by decide) ⟨rfl, N167⟩
    · show Go pp ee below _ (T165.setTop (mkF mm 232 #[.val (.int pn), .val (.int pa), .val (.int pb), .val (.int pd), .val (.int pe), .val (.int pf), .val (.int (4 : Int32)), .val (.int c_152), .val (.int c_153), .val (.int c_154), .val (.int c_155), .val (.int c_156), .val (.ref s_157), .val (.int c_155), .val (.ref s_158), .val (.ref b_159), .val (.ref b_160), .val (.ref b_161), .val (.ref s_157)] []))
      refine Go.aload X165 hx (hb hby at_232) rfl rfl (q := 234) rfl ?_
      refine Go.aload X165 hx (hb hby at_234) rfl rfl (q := 236) rfl ?_
      refine Go.virt X165 hx hZ hown (wd104 hw) (wd105 hw) (notFace_of_selects (args := #[]) (mvT hZ (wd107 hw))) (wd107 hw) (wd106 hw) (wd40 hw) (wd108 hw) (by decide) (cqe4_0 l Z a0 hw b_159 b_161 s_157 s_158 cs b_157 b_158 (kb_157) (kb_158) c_152 c_153 c_154 c_155 c_156 h161 OK161 P161_0 P159_1 P161_1 P157_0 P158_0 P157_1 P158_1 P157_2 P158_2 P157_3 P158_3 ne_s_157_s_158 SCS hcs hc166) e165 P159_0 (by rw [hml]; rfl) (hb hby at_236) (argsL := [(.ref b_161)]) (rest := []) (lenOf pd14 rfl) rfl rfl (W := 0) (by first | exact Nat.le_refl _ | decide) (by decide) (by decide) (by decide) (by decide) ?_
      intro v168 T168 L168 X168 hQ168
      obtain ⟨rfl, N168q, e168⟩ := hQ168
      have N168 := Fr.app N165 N168q
      refine Go.iload X168 hx (hb hby at_239) rfl (q := 241) rfl ?_
      refine Go.iload X168 hx (hb hby at_241) rfl (q := 243) rfl ?_
      refine Go.icmpYes X168 hx (hb hby at_243) (Jvm.Free.XT.ii_ne_t hc166) (q := 250) (by decide) (by decide) ?_
      refine Go.iconst X168 hx (hb hby at_250) (r := (0 : Int32)) rfl (q := 251) rfl ?_
      refine Go.icmpNo X168 hx (hb hby at_251) (by decide) (q := 254) rfl ?_
      refine Go.iconst X168 hx (hb hby at_254) (r := (1 : Int32)) rfl (q := 255) rfl ?_
      refine Go.goto X168 hx (hb hby at_255) (q := 259) (by decide) (by decide) ?_
      exact Go.retIW X168 hx hS hKd hret hlk (by simp) rfl (hb hby at_259) e168 (by decide) (by decide) ⟨rfl, N168⟩
set_option maxRecDepth 65536 in
set_option maxHeartbeats 40000000 in
theorem comes_1 {Post : Tables → Env → Array Value → State → Outcome → State → Prop} (hpost : ∀ tb e args s v u, (limb_1_1.after args s (.returned v) u = true ∧ limb_1_2.after args s (.returned v) u = true ∧ True) → ReturnedEndW s (.returned v) u (Jvm.fieldLocs frame_1_writes args s ++ Jvm.arrayLocs frame_1_arrays args s ++ Jvm.staticLocs frame_1_statics s) 32 1152 → Post tb e args s (.returned v) u) :
    ArmFor flags0 classFile x code maxLocals ret World_1 tables_1 room_1 Calls_1 rest_1 Pre_1 Post := by
  intro l hfl _ _ p e ha hc hk s m args below hf hA hF happ hP
  obtain ⟨hcalls, hrest, hpre⟩ := hP
  obtain ⟨-, -, -, hnamed, -, -, -, hat⟩ := (Spec.applies_iff hf).mp happ
  obtain ⟨hg, hn⟩ := and_e (Cond.before_iff.mp (show (Jvm.Cond.and given_1 narrow_1).before args s = true from hpre))
  obtain ⟨ga1, gb1⟩ := and_e hg
  obtain ⟨ga2, gb2⟩ := and_e gb1
  obtain ⟨ga3, gb3⟩ := and_e gb2
  obtain ⟨ga4, gb4⟩ := and_e gb3
  obtain ⟨ga5, gb5⟩ := and_e gb4
  obtain ⟨ga6, gb6⟩ := and_e gb5
  obtain ⟨w0, w1, w2, w3, w4, w5, rfl⟩ : ∃ w0 w1 w2 w3 w4 w5 : Value, args = #[w0, w1, w2, w3, w4, w5] := by
    have hs : args.size = 6 := by simpa [Cond.value, given_1] using ga1
    obtain ⟨L⟩ := args
    match L, hs with
    | [w0, w1, w2, w3, w4, w5], _ => exact ⟨w0, w1, w2, w3, w4, w5, rfl⟩
  have hw := fun d (hd : d ∈ tables_1) => atoms_spec (ws := Jvm.Cond.code x code maxLocals ret :: tables_1) hat d (List.mem_cons_of_mem _ hd)
  have hfit : Fit s := fun {y c} hc i hi => by
    obtain ⟨ha, rfl⟩ := Array.getElem?_eq_some_iff.mp hc
    have q := List.all_eq_true.mp ((Array.all_eq_true_iff_forall_mem.mp hF) _ (Array.getElem_mem ha)) i (List.mem_range.mpr hi)
    simpa [Array.getElem?_eq_getElem hi] using q
  obtain ⟨hsets, hown0⟩ := atoms_of _ (rest_1_c_eq ▸ (show rest_1_c.before _ s = true from hrest))
  have hr0 := Cond.before_iff.mp hown0
  obtain ⟨i0, ei0⟩ := is_v ga2
  obtain rfl : w0 = (.int i0) := Option.some.inj ei0
  obtain ⟨i1, ei1⟩ := is_v ga3
  obtain rfl : w1 = (.int i1) := Option.some.inj ei1
  obtain ⟨i2, ei2⟩ := is_v ga4
  obtain rfl : w2 = (.int i2) := Option.some.inj ei2
  obtain ⟨i3, ei3⟩ := is_v ga5
  obtain rfl : w3 = (.int i3) := Option.some.inj ei3
  obtain ⟨i4, ei4⟩ := is_v ga6
  obtain rfl : w4 = (.int i4) := Option.some.inj ei4
  obtain ⟨i5, ei5⟩ := is_v gb6
  obtain rfl : w5 = (.int i5) := Option.some.inj ei5
  obtain ⟨cs, ecs, SCS⟩ := sta_int (hsets _ (List.mem_of_getElem? (i := 0) rfl)) (hsets _ (List.mem_of_getElem? (i := 1) rfl))
  have hcs := ne_int ecs (hsets _ (List.mem_of_getElem? (i := 2) rfl))
  obtain ⟨fm, efm, hfm, SFM⟩ := sta_ref (hsets _ (List.mem_of_getElem? (i := 7) rfl)) (hsets _ (List.mem_of_getElem? (i := 8) rfl))
  obtain ⟨n, o, h1, h2, h3, _, L, rfl, ⟨rfl, N⟩, hq⟩ := law0 l s _ hw i0 i1 i2 i3 i4 i5 cs fm s.heap ⟨Nat.le_refl _, fun _ _ q => q⟩ SCS SFM hcs hfm p e ha hc hk s m _ below hf ((Spec.applies_iff_loose hf).mp happ).1 ⟨rfl, State.Warmed39.refl s, rfl⟩ trivial
  refine ⟨n, _, h1, h2, h3, hpost _ _ _ _ _ _ ⟨Cond.after_iff.mpr rfl, Cond.after_iff.mpr (eq_i res_at (Term.int_eval (1)) rfl), trivial⟩ ⟨hq.1, hq.2.1, hq.2.2.1, (hq.2.2.2.sift fun y hy => Or.inr (N y hy)).mono (by decide) (by decide)⟩⟩
theorem main_1_1 : Claimed_1_1 := comes_1 fun _ _ _ _ _ _ h hF => ⟨h.1, hF⟩
theorem main_1_2 : Claimed_1_2 := comes_1 fun _ _ _ _ _ _ h hF => ⟨h.2.1, hF⟩
end Jvm.Pilot.@@N@@
namespace Jvm.Pilot.@@N@@
open Jvm Jvm.ClassFile Sem Op Lib Jvm.Free Jvm.Stand Jvm.Pilot.@@N@@.Jvm.D
/-! MADE BY PROGRAM (witnessworld.py) out of the Statement's table words and the real class files: 21 classes; the members and pool entries that the words name. The judged class is class 1, her method 3. -/
namespace start1
open Jvm.ClassFile
def u (s : String) : CpInfo := .utf8 (stringToUtf16 s)
/-- a pool by its gaps: so many unusable entries, then the entry; so many at the end -/
def gap : Nat → List CpInfo → List CpInfo
  | 0, r => r
  | n + 1, r => .unusable :: gap n r
def poolList (es : List (Nat × CpInfo)) (last : Nat) : List CpInfo := es.foldr (fun e r => gap e.1 (e.2 :: r)) (gap last [])
def pool (es : List (Nat × CpInfo)) (last : Nat) : Array CpInfo := ⟨poolList es last⟩
def fileOf (pool : Array CpInfo) (this : Nat) (attrs : Array Attribute := #[]) (ms : Array MethodInfo := #[]) (fl : Nat := 33) (sup : Nat := 0) (ifs : Array Nat := #[]) (fds : Array FieldInfo := #[]) : ClassFile where
  minorVersion := 0
  majorVersion := 65
  constantPool := pool
  accessFlags := fl
  thisClass := this
  superClass := sup
  interfaces := ifs
  fields := fds
  methods := ms
  attributes := attrs
def plain (name : String) (sup : Option ClassId) : Class where
  name := name
  kind := .ordinary
  loader := none
  accessFlags := 33
  super := sup
  interfaces := #[]
  cf := none
  fields := #[]
  methods := #[]
  instanceTypes := #[]
  staticTypes := #[]
  resolved := #[]
  callSites := []
  init := .initialized
  statics := none
  mirror := none

def pool0 : Array CpInfo := pool [(5, u "<init>"), (0, u "()V"), (1, .class_ 10), (1, u "java/lang/Object")] 113

def k0c0 : Code := { maxStack := 0, maxLocals := 1, code := object_method_1_code, exceptionTable := #[], attributes := #[] }
def k0m0 : Method := { name := "<init>", desc := "()V", sig := { parameters := [], returnType := none }, accessFlags := 1, code := some k0c0 }
/-- java/lang/Object -/
def k0 : Class := { plain "java/lang/Object" none with
  accessFlags := 33
  interfaces := #[]
  cf := some (fileOf pool0 8 #[] #[{ accessFlags := 1, nameIndex := 5, descriptorIndex := 6, attributes := #[] }] 33 0 #[] #[])
  fields := #[]
  methods := #[k0m0]
  instanceTypes := #[]
  staticTypes := #[]
  resolved := Array.replicate 124 none
  statics := none }

def pool1 : Array CpInfo := pool [(2, .class_ 4), (1, u "java/lang/Object"), (0, u "<init>"), (0, u "()V"), (0, .integer 2147483647), (0, .class_ 9), (0, u "java/lang/String"), (0, .methodref 8 11), (0, .nameAndType 5 12), (0, u "([C)V"), (0, .methodref 14 15), (0, .class_ 16), (0, .nameAndType 17 18), (0, u "com/example/cronopoly/cronopoly/ScheduleIdOfPinLaw"), (0, u "idChar"), (0, u "(I)C"), (0, .methodref 14 20), (0, .nameAndType 21 22), (0, u "make"), (0, u "(ICCCC)Ljava/lang/String;"), (0, .methodref 24 25), (0, .class_ 26), (0, .nameAndType 27 28), (0, u "com/example/cronopoly/cronopoly/ScheduleId"), (0, u "of"), (0, u "(Ljava/lang/String;)Lcom/example/cronopoly/cronopoly/ScheduleId;"), (0, .methodref 24 30), (0, .nameAndType 31 32), (0, u "toString"), (0, u "()Ljava/lang/String;"), (0, .methodref 8 34), (0, .nameAndType 35 36), (0, u "equals"), (0, u "(Ljava/lang/Object;)Z"), (0, .methodref 8 38), (0, .nameAndType 39 40), (0, u "length"), (0, u "()I"), (0, .methodref 24 34), (3, u "law"), (0, u "(IIIIII)Z")] 2

def k1m0 : Method := { name := "<init>", desc := "()V", sig := { parameters := [], returnType := none }, accessFlags := 1, code := none }
def k1c1 : Code := { maxStack := 3, maxLocals := 2, code := method_2_code, exceptionTable := #[], attributes := #[] }
def k1m1 : Method := { name := "idChar", desc := "(I)C", sig := { parameters := [.int], returnType := some .char }, accessFlags := 10, code := some k1c1 }
def k1c2 : Code := { maxStack := 6, maxLocals := 5, code := method_3_code, exceptionTable := #[], attributes := #[] }
def k1m2 : Method := { name := "make", desc := "(ICCCC)Ljava/lang/String;", sig := { parameters := [.int, .char, .char, .char, .char], returnType := some (.object "java/lang/String") }, accessFlags := 10, code := some k1c2 }
def k1c3 : Code := { maxStack := 5, maxLocals := 19, code := code, exceptionTable := #[], attributes := #[] }
def k1m3 : Method := { name := "law", desc := "(IIIIII)Z", sig := { parameters := [.int, .int, .int, .int, .int, .int], returnType := some .boolean }, accessFlags := 9, code := some k1c3 }
/-- com/example/cronopoly/cronopoly/ScheduleIdOfPinLaw -/
def k1 : Class := { plain "com/example/cronopoly/cronopoly/ScheduleIdOfPinLaw" (some 0) with
  accessFlags := 49
  interfaces := #[]
  cf := some (fileOf pool1 14 #[] #[{ accessFlags := 1, nameIndex := 5, descriptorIndex := 6, attributes := #[] }, { accessFlags := 10, nameIndex := 17, descriptorIndex := 18, attributes := #[] }, { accessFlags := 10, nameIndex := 21, descriptorIndex := 22, attributes := #[] }, { accessFlags := 9, nameIndex := 45, descriptorIndex := 46, attributes := #[] }] 49 2 #[] #[])
  fields := #[]
  methods := #[k1m0, k1m1, k1m2, k1m3]
  instanceTypes := #[]
  staticTypes := #[]
  resolved := Array.replicate 49 none
  statics := none }

def pool2 : Array CpInfo := pool [(1, .class_ 2), (0, u "java/io/Serializable"), (0, .class_ 4), (0, u "java/lang/Object")] 2

/-- java/io/Serializable -/
def k2 : Class := { plain "java/io/Serializable" (some 0) with
  accessFlags := 1537
  interfaces := #[]
  cf := some (fileOf pool2 1 #[] #[] 1537 3 #[] #[])
  fields := #[]
  methods := #[]
  instanceTypes := #[]
  staticTypes := #[]
  resolved := Array.replicate 7 none
  statics := none }

def pool3 : Array CpInfo := pool [(1, .class_ 2), (0, u "java/lang/Comparable"), (0, .class_ 4), (0, u "java/lang/Object")] 7

/-- java/lang/Comparable -/
def k3 : Class := { plain "java/lang/Comparable" (some 0) with
  accessFlags := 1537
  interfaces := #[]
  cf := some (fileOf pool3 1 #[] #[] 1537 3 #[] #[])
  fields := #[]
  methods := #[]
  instanceTypes := #[]
  staticTypes := #[]
  resolved := Array.replicate 12 none
  statics := none }

def pool4 : Array CpInfo := pool [(2, .class_ 4), (1, u "java/lang/CharSequence"), (42, .class_ 48), (0, u "java/lang/CharSequence$1CodePointIterator"), (10, .class_ 60), (0, u "java/lang/CharSequence$1CharIterator"), (5, .class_ 67), (0, u "java/lang/Object")] 63

/-- java/lang/CharSequence -/
def k4 : Class := { plain "java/lang/CharSequence" (some 0) with
  accessFlags := 1537
  interfaces := #[]
  cf := some (fileOf pool4 2 #[.nestMembers #[47, 59]] #[] 1537 66 #[] #[])
  fields := #[]
  methods := #[]
  instanceTypes := #[]
  staticTypes := #[]
  resolved := Array.replicate 131 none
  statics := none }

def pool5 : Array CpInfo := pool [(1, .class_ 2), (0, u "java/lang/constant/Constable"), (0, .class_ 4), (0, u "java/lang/Object")] 6

/-- java/lang/constant/Constable -/
def k5 : Class := { plain "java/lang/constant/Constable" (some 0) with
  accessFlags := 1537
  interfaces := #[]
  cf := some (fileOf pool5 1 #[] #[] 1537 3 #[] #[])
  fields := #[]
  methods := #[]
  instanceTypes := #[]
  staticTypes := #[]
  resolved := Array.replicate 11 none
  statics := none }

def pool6 : Array CpInfo := pool [(1, .class_ 2), (0, u "java/lang/constant/ConstantDesc"), (0, .class_ 4), (0, u "java/lang/Object")] 32

/-- java/lang/constant/ConstantDesc -/
def k6 : Class := { plain "java/lang/constant/ConstantDesc" (some 0) with
  accessFlags := 1537
  interfaces := #[]
  cf := some (fileOf pool6 1 #[] #[] 1537 3 #[] #[])
  fields := #[]
  methods := #[]
  instanceTypes := #[]
  staticTypes := #[]
  resolved := Array.replicate 37 none
  statics := none }

def pool7 : Array CpInfo := pool [(1, .methodref 2 3), (0, .class_ 4), (0, .nameAndType 5 6), (0, u "java/lang/Object"), (0, u "<init>"), (0, u "()V"), (2, .fieldref 10 11), (0, .class_ 12), (0, .nameAndType 13 14), (0, u "java/lang/String"), (0, u "value"), (0, u "[B"), (0, .fieldref 10 16), (0, .nameAndType 17 18), (0, u "coder"), (0, u "B"), (2, u "hash"), (0, u "I"), (2, u "hashIsZero"), (0, u "Z"), (0, .methodref 10 28), (0, .nameAndType 5 29), (0, u "([CIILjava/lang/Void;)V"), (8, .fieldref 10 39), (0, .nameAndType 40 26), (0, u "COMPACT_STRINGS"), (1, .class_ 44), (1, u "java/lang/StringUTF16"), (0, u "compress"), (1, .methodref 42 48), (0, .nameAndType 49 50), (0, u "coderFromArrayLen"), (0, u "([BI)B"), (56, .class_ 109), (1, u "java/lang/StringLatin1"), (32, u "()Z"), (34, .methodref 42 178), (0, .nameAndType 45 179), (0, u "([CII)[B"), (154, u "()I"), (0, .methodref 10 336), (0, .nameAndType 17 337), (0, u "()B"), (53, u "(II)V"), (100, .methodref 10 493), (0, .nameAndType 494 142), (0, u "isLatin1"), (4, .methodref 10 500), (0, .nameAndType 501 391), (0, u "checkIndex"), (2, u "codePointAt"), (2, u "length"), (33, .methodref 107 542), (0, .nameAndType 543 544), (0, u "equals"), (0, u "([B[B)Z"), (28, u "(Ljava/lang/Object;)Z"), (1, .class_ 576), (0, u "java/lang/CharSequence"), (22, u "CASE_INSENSITIVE_ORDER"), (0, u "Ljava/util/Comparator;"), (91, u "isEmpty"), (72, u "(I)I"), (244, u "([C)V"), (42, .fieldref 1054 1055), (0, .class_ 1056), (0, .nameAndType 1057 1058), (0, u "jdk/internal/util/Preconditions"), (0, u "SIOOBE_FORMATTER"), (0, u "Ljava/util/function/BiFunction;"), (0, .methodref 1054 1060), (0, .nameAndType 501 1061), (0, u "(IILjava/util/function/BiFunction;)I"), (39, u "serialPersistentFields"), (0, u "[Ljava/io/ObjectStreamField;"), (0, .class_ 1104), (0, u "java/lang/String$CaseInsensitiveComparator"), (1, .class_ 1107), (0, u "java/io/Serializable"), (0, .class_ 1109), (0, u "java/lang/Comparable"), (0, .class_ 1111), (0, u "java/lang/constant/Constable"), (0, .class_ 1113), (0, u "java/lang/constant/ConstantDesc"), (2, u "serialVersionUID"), (0, u "J"), (3, u "REPL"), (0, u "C"), (2, u "LATIN1"), (1, u "UTF16")] 323

def k7m0 : Method := { name := "<init>", desc := "()V", sig := { parameters := [], returnType := none }, accessFlags := 1, code := none }
def k7c1 : Code := { maxStack := 5, maxLocals := 2, code := jdk_42_method_3_code, exceptionTable := #[], attributes := #[] }
def k7m1 : Method := { name := "<init>", desc := "([C)V", sig := { parameters := [(.array .char)], returnType := none }, accessFlags := 1, code := some k7c1 }
def k7c2 : Code := { maxStack := 2, maxLocals := 1, code := jdk_42_method_54_code, exceptionTable := #[], attributes := #[] }
def k7m2 : Method := { name := "length", desc := "()I", sig := { parameters := [], returnType := some .int }, accessFlags := 1, code := some k7c2 }
def k7c3 : Code := { maxStack := 1, maxLocals := 1, code := jdk_42_method_55_code, exceptionTable := #[], attributes := #[] }
def k7m3 : Method := { name := "isEmpty", desc := "()Z", sig := { parameters := [], returnType := some .boolean }, accessFlags := 1, code := some k7c3 }
def k7c4 : Code := { maxStack := 3, maxLocals := 3, code := jdk_42_method_57_code, exceptionTable := #[], attributes := #[] }
def k7m4 : Method := { name := "codePointAt", desc := "(I)I", sig := { parameters := [.int], returnType := some .int }, accessFlags := 1, code := some k7c4 }
def k7c5 : Code := { maxStack := 2, maxLocals := 3, code := jdk_42_method_66_code, exceptionTable := #[], attributes := #[] }
def k7m5 : Method := { name := "equals", desc := "(Ljava/lang/Object;)Z", sig := { parameters := [(.object "java/lang/Object")], returnType := some .boolean }, accessFlags := 1, code := some k7c5 }
def k7c6 : Code := { maxStack := 4, maxLocals := 6, code := jdk_42_method_149_code, exceptionTable := #[], attributes := #[] }
def k7m6 : Method := { name := "<init>", desc := "([CIILjava/lang/Void;)V", sig := { parameters := [(.array .char), .int, .int, (.object "java/lang/Void")], returnType := none }, accessFlags := 2, code := some k7c6 }
def k7c7 : Code := { maxStack := 1, maxLocals := 1, code := jdk_42_method_152_code, exceptionTable := #[], attributes := #[] }
def k7m7 : Method := { name := "coder", desc := "()B", sig := { parameters := [], returnType := some .byte }, accessFlags := 0, code := some k7c7 }
def k7c8 : Code := { maxStack := 1, maxLocals := 1, code := jdk_42_method_154_code, exceptionTable := #[], attributes := #[] }
def k7m8 : Method := { name := "isLatin1", desc := "()Z", sig := { parameters := [], returnType := some .boolean }, accessFlags := 0, code := some k7c8 }
def k7c9 : Code := { maxStack := 3, maxLocals := 2, code := jdk_42_method_155_code, exceptionTable := #[], attributes := #[] }
def k7m9 : Method := { name := "checkIndex", desc := "(II)V", sig := { parameters := [.int, .int], returnType := none }, accessFlags := 8, code := some k7c9 }
/-- java/lang/String -/
def k7 : Class := { plain "java/lang/String" (some 0) with
  accessFlags := 49
  interfaces := #[2, 3, 4, 5, 6]
  cf := some (fileOf pool7 10 #[.nestMembers #[1103]] #[{ accessFlags := 1, nameIndex := 5, descriptorIndex := 6, attributes := #[] }, { accessFlags := 1, nameIndex := 5, descriptorIndex := 1010, attributes := #[] }, { accessFlags := 1, nameIndex := 507, descriptorIndex := 334, attributes := #[] }, { accessFlags := 1, nameIndex := 692, descriptorIndex := 142, attributes := #[] }, { accessFlags := 1, nameIndex := 504, descriptorIndex := 765, attributes := #[] }, { accessFlags := 1, nameIndex := 543, descriptorIndex := 573, attributes := #[] }, { accessFlags := 2, nameIndex := 5, descriptorIndex := 29, attributes := #[] }, { accessFlags := 0, nameIndex := 17, descriptorIndex := 337, attributes := #[] }, { accessFlags := 0, nameIndex := 494, descriptorIndex := 142, attributes := #[] }, { accessFlags := 8, nameIndex := 501, descriptorIndex := 391, attributes := #[] }] 49 2 #[1106, 1108, 575, 1110, 1112] #[{ accessFlags := 18, nameIndex := 13, descriptorIndex := 14, attributes := #[] }, { accessFlags := 18, nameIndex := 17, descriptorIndex := 18, attributes := #[] }, { accessFlags := 2, nameIndex := 21, descriptorIndex := 22, attributes := #[] }, { accessFlags := 2, nameIndex := 25, descriptorIndex := 26, attributes := #[] }, { accessFlags := 26, nameIndex := 1116, descriptorIndex := 1117, attributes := #[] }, { accessFlags := 24, nameIndex := 40, descriptorIndex := 26, attributes := #[] }, { accessFlags := 26, nameIndex := 1101, descriptorIndex := 1102, attributes := #[] }, { accessFlags := 26, nameIndex := 1121, descriptorIndex := 1122, attributes := #[] }, { accessFlags := 25, nameIndex := 599, descriptorIndex := 600, attributes := #[] }, { accessFlags := 24, nameIndex := 1125, descriptorIndex := 18, attributes := #[] }, { accessFlags := 24, nameIndex := 1127, descriptorIndex := 18, attributes := #[] }])
  fields := #[{ name := "value", type := (.array .byte), accessFlags := 18, slot := 0, constantValue := 0 }, { name := "coder", type := .byte, accessFlags := 18, slot := 1, constantValue := 0 }, { name := "hash", type := .int, accessFlags := 2, slot := 2, constantValue := 0 }, { name := "hashIsZero", type := .boolean, accessFlags := 2, slot := 3, constantValue := 0 }, { name := "serialVersionUID", type := .long, accessFlags := 26, slot := 0, constantValue := 0 }, { name := "COMPACT_STRINGS", type := .boolean, accessFlags := 24, slot := 1, constantValue := 0 }, { name := "serialPersistentFields", type := (.array (.object "java/io/ObjectStreamField")), accessFlags := 26, slot := 2, constantValue := 0 }, { name := "REPL", type := .char, accessFlags := 26, slot := 3, constantValue := 0 }, { name := "CASE_INSENSITIVE_ORDER", type := (.object "java/util/Comparator"), accessFlags := 25, slot := 4, constantValue := 0 }, { name := "LATIN1", type := .byte, accessFlags := 24, slot := 5, constantValue := 0 }, { name := "UTF16", type := .byte, accessFlags := 24, slot := 6, constantValue := 0 }]
  methods := #[k7m0, k7m1, k7m2, k7m3, k7m4, k7m5, k7m6, k7m7, k7m8, k7m9]
  instanceTypes := #[(.array .byte), .byte, .int, .boolean]
  staticTypes := #[.long, .boolean, (.array (.object "java/io/ObjectStreamField")), .char, (.object "java/util/Comparator"), .byte, .byte]
  resolved := Array.replicate 1451 none
  statics := some 0 }

def pool8 : Array CpInfo := pool [(6, .class_ 8), (1, u "java/lang/Object"), (0, u "<init>"), (0, u "()V"), (1, .class_ 14), (1, u "java/lang/StringUTF16"), (31, u "$assertionsDisabled"), (0, u "Z"), (13, u "HI_BYTE_SHIFT"), (0, u "I"), (2, u "LO_BYTE_SHIFT"), (49, .methodref 12 116), (0, .nameAndType 117 118), (0, u "compress"), (0, u "([CI[BII)I"), (3, u "([CII)[B"), (138, u "coderFromArrayLen"), (0, u "([BI)B"), (106, .class_ 371), (1, u "java/lang/StringUTF16$LinesSpliterator"), (58, u "MAX_LENGTH"), (196, .class_ 628), (0, u "java/lang/StringUTF16$CodePointsSpliterator"), (0, .class_ 630), (0, u "java/lang/StringUTF16$CharsSpliterator")] 4

def k8m0 : Method := { name := "<init>", desc := "()V", sig := { parameters := [], returnType := none }, accessFlags := 0, code := none }
def k8c1 : Code := { maxStack := 2, maxLocals := 2, code := jdk_52_method_15_code, exceptionTable := #[], attributes := #[] }
def k8m1 : Method := { name := "coderFromArrayLen", desc := "([BI)B", sig := { parameters := [(.array .byte), .int], returnType := some .byte }, accessFlags := 8, code := some k8c1 }
def k8c2 : Code := { maxStack := 5, maxLocals := 6, code := jdk_52_method_16_code, exceptionTable := #[], attributes := #[] }
def k8m2 : Method := { name := "compress", desc := "([CII)[B", sig := { parameters := [(.array .char), .int, .int], returnType := some (.array .byte) }, accessFlags := 9, code := some k8c2 }
def k8c3 : Code := { maxStack := 3, maxLocals := 7, code := jdk_52_method_21_code, exceptionTable := #[], attributes := #[] }
def k8m3 : Method := { name := "compress", desc := "([CI[BII)I", sig := { parameters := [(.array .char), .int, (.array .byte), .int, .int], returnType := some .int }, accessFlags := 9, code := some k8c3 }
/-- java/lang/StringUTF16 -/
def k8 : Class := { plain "java/lang/StringUTF16" (some 0) with
  accessFlags := 48
  interfaces := #[]
  cf := some (fileOf pool8 12 #[.nestMembers #[627, 629, 369]] #[{ accessFlags := 0, nameIndex := 9, descriptorIndex := 10, attributes := #[] }, { accessFlags := 8, nameIndex := 261, descriptorIndex := 262, attributes := #[] }, { accessFlags := 9, nameIndex := 117, descriptorIndex := 122, attributes := #[] }, { accessFlags := 9, nameIndex := 117, descriptorIndex := 118, attributes := #[] }] 48 6 #[] #[{ accessFlags := 26, nameIndex := 61, descriptorIndex := 62, attributes := #[] }, { accessFlags := 26, nameIndex := 65, descriptorIndex := 62, attributes := #[] }, { accessFlags := 24, nameIndex := 430, descriptorIndex := 62, attributes := #[] }, { accessFlags := 4120, nameIndex := 46, descriptorIndex := 47, attributes := #[] }])
  fields := #[{ name := "HI_BYTE_SHIFT", type := .int, accessFlags := 26, slot := 0, constantValue := 0 }, { name := "LO_BYTE_SHIFT", type := .int, accessFlags := 26, slot := 1, constantValue := 0 }, { name := "MAX_LENGTH", type := .int, accessFlags := 24, slot := 2, constantValue := 0 }, { name := "$assertionsDisabled", type := .boolean, accessFlags := 4120, slot := 3, constantValue := 0 }]
  methods := #[k8m0, k8m1, k8m2, k8m3]
  instanceTypes := #[]
  staticTypes := #[.int, .int, .int, .boolean]
  resolved := Array.replicate 635 none
  statics := none }

def pool9 : Array CpInfo := pool [(1, .methodref 2 3), (0, .class_ 4), (0, .nameAndType 5 6), (0, u "java/lang/Object"), (0, u "<init>"), (0, u "()V"), (0, .fieldref 8 9), (0, .class_ 10), (0, .nameAndType 11 12), (0, u "com/example/cronopoly/cronopoly/ScheduleId"), (0, u "text"), (0, u "Ljava/lang/String;"), (0, .string 11), (0, .methodref 15 16), (0, .class_ 17), (0, .nameAndType 18 19), (0, u "java/util/Objects"), (0, u "requireNonNull"), (0, u "(Ljava/lang/Object;Ljava/lang/String;)Ljava/lang/Object;"), (0, .methodref 21 22), (0, .class_ 23), (0, .nameAndType 24 25), (0, u "java/lang/String"), (0, u "isEmpty"), (0, u "()Z"), (6, .methodref 21 33), (0, .nameAndType 34 35), (0, u "length"), (0, u "()I"), (0, .methodref 21 37), (0, .nameAndType 38 39), (0, u "codePointAt"), (0, u "(I)I"), (0, .methodref 8 41), (0, .nameAndType 42 43), (0, u "isIdCharacter"), (0, u "(I)Z"), (10, .methodref 8 55), (0, .nameAndType 5 56), (0, u "(Ljava/lang/String;)V"), (28, .methodref 21 86), (0, .nameAndType 87 88), (0, u "equals"), (0, u "(Ljava/lang/Object;)Z"), (3, u "MAX_LENGTH"), (0, u "I"), (2, u "QUOTE_LENGTH"), (3, u "of"), (0, u "(Ljava/lang/String;)Lcom/example/cronopoly/cronopoly/ScheduleId;"), (1, u "toString"), (0, u "()Ljava/lang/String;")] 25

def k9c0 : Code := { maxStack := 2, maxLocals := 2, code := prog_16_method_1_code, exceptionTable := #[], attributes := #[] }
def k9m0 : Method := { name := "<init>", desc := "(Ljava/lang/String;)V", sig := { parameters := [(.object "java/lang/String")], returnType := none }, accessFlags := 2, code := some k9c0 }
def k9c1 : Code := { maxStack := 3, maxLocals := 3, code := prog_16_method_2_code, exceptionTable := #[], attributes := #[] }
def k9m1 : Method := { name := "of", desc := "(Ljava/lang/String;)Lcom/example/cronopoly/cronopoly/ScheduleId;", sig := { parameters := [(.object "java/lang/String")], returnType := some (.object "com/example/cronopoly/cronopoly/ScheduleId") }, accessFlags := 9, code := some k9c1 }
def k9c2 : Code := { maxStack := 2, maxLocals := 2, code := prog_16_method_3_code, exceptionTable := #[], attributes := #[] }
def k9m2 : Method := { name := "isIdCharacter", desc := "(I)Z", sig := { parameters := [.int], returnType := some .boolean }, accessFlags := 10, code := some k9c2 }
def k9c3 : Code := { maxStack := 1, maxLocals := 1, code := prog_16_method_6_code, exceptionTable := #[], attributes := #[] }
def k9m3 : Method := { name := "toString", desc := "()Ljava/lang/String;", sig := { parameters := [], returnType := some (.object "java/lang/String") }, accessFlags := 1, code := some k9c3 }
def k9c4 : Code := { maxStack := 2, maxLocals := 3, code := prog_16_method_7_code, exceptionTable := #[], attributes := #[] }
def k9m4 : Method := { name := "equals", desc := "(Ljava/lang/Object;)Z", sig := { parameters := [(.object "java/lang/Object")], returnType := some .boolean }, accessFlags := 1, code := some k9c4 }
/-- com/example/cronopoly/cronopoly/ScheduleId -/
def k9 : Class := { plain "com/example/cronopoly/cronopoly/ScheduleId" (some 0) with
  accessFlags := 49
  interfaces := #[]
  cf := some (fileOf pool9 8 #[] #[{ accessFlags := 2, nameIndex := 5, descriptorIndex := 56, attributes := #[] }, { accessFlags := 9, nameIndex := 100, descriptorIndex := 101, attributes := #[] }, { accessFlags := 10, nameIndex := 42, descriptorIndex := 43, attributes := #[] }, { accessFlags := 1, nameIndex := 103, descriptorIndex := 104, attributes := #[] }, { accessFlags := 1, nameIndex := 87, descriptorIndex := 88, attributes := #[] }] 49 2 #[] #[{ accessFlags := 25, nameIndex := 92, descriptorIndex := 93, attributes := #[] }, { accessFlags := 26, nameIndex := 96, descriptorIndex := 93, attributes := #[] }, { accessFlags := 18, nameIndex := 11, descriptorIndex := 12, attributes := #[] }])
  fields := #[{ name := "MAX_LENGTH", type := .int, accessFlags := 25, slot := 0, constantValue := 0 }, { name := "QUOTE_LENGTH", type := .int, accessFlags := 26, slot := 1, constantValue := 0 }, { name := "text", type := (.object "java/lang/String"), accessFlags := 18, slot := 0, constantValue := 0 }]
  methods := #[k9m0, k9m1, k9m2, k9m3, k9m4]
  instanceTypes := #[(.object "java/lang/String")]
  staticTypes := #[.int, .int]
  resolved := Array.replicate 130 none
  statics := none }

def pool10 : Array CpInfo := pool [(2, .class_ 4), (1, u "java/lang/Object"), (0, u "<init>"), (0, u "()V"), (35, .class_ 44), (1, u "java/util/Objects"), (0, u "requireNonNull"), (48, u "(Ljava/lang/Object;Ljava/lang/String;)Ljava/lang/Object;")] 89

def k10m0 : Method := { name := "<init>", desc := "()V", sig := { parameters := [], returnType := none }, accessFlags := 2, code := none }
def k10c1 : Code := { maxStack := 3, maxLocals := 2, code := jdk_31_method_11_code, exceptionTable := #[], attributes := #[] }
def k10m1 : Method := { name := "requireNonNull", desc := "(Ljava/lang/Object;Ljava/lang/String;)Ljava/lang/Object;", sig := { parameters := [(.object "java/lang/Object"), (.object "java/lang/String")], returnType := some (.object "java/lang/Object") }, accessFlags := 9, code := some k10c1 }
/-- java/util/Objects -/
def k10 : Class := { plain "java/util/Objects" (some 0) with
  accessFlags := 49
  interfaces := #[]
  cf := some (fileOf pool10 42 #[] #[{ accessFlags := 2, nameIndex := 5, descriptorIndex := 6, attributes := #[] }, { accessFlags := 9, nameIndex := 45, descriptorIndex := 94, attributes := #[] }] 49 2 #[] #[])
  fields := #[]
  methods := #[k10m0, k10m1]
  instanceTypes := #[]
  staticTypes := #[]
  resolved := Array.replicate 184 none
  statics := none }

def pool11 : Array CpInfo := pool [(2, .class_ 4), (1, u "java/lang/Object"), (0, u "<init>"), (0, u "()V"), (17, .class_ 26), (1, u "jdk/internal/util/Preconditions"), (6, u "checkIndex"), (21, .class_ 56), (0, u "jdk/internal/util/Preconditions$4"), (57, .class_ 115), (0, u "jdk/internal/util/Preconditions$1"), (7, u "SIOOBE_FORMATTER"), (0, u "Ljava/util/function/BiFunction;"), (0, .class_ 126), (0, u "jdk/internal/util/Preconditions$2"), (3, u "AIOOBE_FORMATTER"), (0, .class_ 132), (0, u "jdk/internal/util/Preconditions$3"), (3, u "IOOBE_FORMATTER"), (41, u "(IILjava/util/function/BiFunction;)I")] 15

def k11m0 : Method := { name := "<init>", desc := "()V", sig := { parameters := [], returnType := none }, accessFlags := 1, code := none }
def k11c1 : Code := { maxStack := 3, maxLocals := 3, code := jdk_41_method_11_code, exceptionTable := #[], attributes := #[] }
def k11m1 : Method := { name := "checkIndex", desc := "(IILjava/util/function/BiFunction;)I", sig := { parameters := [.int, .int, (.object "java/util/function/BiFunction")], returnType := some .int }, accessFlags := 9, code := some k11c1 }
/-- jdk/internal/util/Preconditions -/
def k11 : Class := { plain "jdk/internal/util/Preconditions" (some 0) with
  accessFlags := 33
  interfaces := #[]
  cf := some (fileOf pool11 24 #[.nestMembers #[55, 131, 125, 114]] #[{ accessFlags := 1, nameIndex := 5, descriptorIndex := 6, attributes := #[] }, { accessFlags := 9, nameIndex := 33, descriptorIndex := 178, attributes := #[] }] 33 2 #[] #[{ accessFlags := 25, nameIndex := 123, descriptorIndex := 124, attributes := #[] }, { accessFlags := 25, nameIndex := 130, descriptorIndex := 124, attributes := #[] }, { accessFlags := 25, nameIndex := 136, descriptorIndex := 124, attributes := #[] }])
  fields := #[{ name := "SIOOBE_FORMATTER", type := (.object "java/util/function/BiFunction"), accessFlags := 25, slot := 0, constantValue := 0 }, { name := "AIOOBE_FORMATTER", type := (.object "java/util/function/BiFunction"), accessFlags := 25, slot := 1, constantValue := 0 }, { name := "IOOBE_FORMATTER", type := (.object "java/util/function/BiFunction"), accessFlags := 25, slot := 2, constantValue := 0 }]
  methods := #[k11m0, k11m1]
  instanceTypes := #[]
  staticTypes := #[(.object "java/util/function/BiFunction"), (.object "java/util/function/BiFunction"), (.object "java/util/function/BiFunction")]
  resolved := Array.replicate 194 none
  statics := some 1 }

def pool12 : Array CpInfo := pool [(4, .class_ 6), (1, u "java/lang/Object"), (0, u "<init>"), (0, u "()V"), (5, .class_ 16), (1, u "java/lang/StringLatin1"), (104, u "$assertionsDisabled"), (0, u "Z"), (98, .class_ 223), (1, u "java/lang/StringLatin1$LinesSpliterator"), (57, u "equals"), (0, u "([B[B)Z"), (107, .class_ 391), (0, u "java/lang/StringLatin1$CharsSpliterator")] 3

def k12m0 : Method := { name := "<init>", desc := "()V", sig := { parameters := [], returnType := none }, accessFlags := 0, code := none }
def k12c1 : Code := { maxStack := 3, maxLocals := 3, code := jdk_43_method_13_code, exceptionTable := #[], attributes := #[] }
def k12m1 : Method := { name := "equals", desc := "([B[B)Z", sig := { parameters := [(.array .byte), (.array .byte)], returnType := some .boolean }, accessFlags := 9, code := some k12c1 }
/-- java/lang/StringLatin1 -/
def k12 : Class := { plain "java/lang/StringLatin1" (some 0) with
  accessFlags := 48
  interfaces := #[]
  cf := some (fileOf pool12 14 #[.nestMembers #[390, 221]] #[{ accessFlags := 0, nameIndex := 7, descriptorIndex := 8, attributes := #[] }, { accessFlags := 9, nameIndex := 281, descriptorIndex := 282, attributes := #[] }] 48 4 #[] #[{ accessFlags := 4120, nameIndex := 121, descriptorIndex := 122, attributes := #[] }])
  fields := #[{ name := "$assertionsDisabled", type := .boolean, accessFlags := 4120, slot := 0, constantValue := 0 }]
  methods := #[k12m0, k12m1]
  instanceTypes := #[]
  staticTypes := #[.boolean]
  resolved := Array.replicate 395 none
  statics := none }

def pool13 : Array CpInfo := pool [(9, u "<init>"), (6, .class_ 18), (1, u "java/lang/Object"), (0, u "()V"), (1, .class_ 23), (1, u "jdk/internal/util/ArraysSupport"), (0, u "LOG2_ARRAY_LONG_INDEX_SCALE"), (0, u "I"), (2, u "U"), (0, u "Ljdk/internal/misc/Unsafe;"), (8, u "BIG_ENDIAN"), (0, u "Z"), (8, u "LOG2_BYTE_BIT_SIZE"), (4, u "LOG2_ARRAY_INT_INDEX_SCALE"), (54, u "JLA"), (0, u "Ljdk/internal/access/JavaLangAccess;"), (11, u "LOG2_ARRAY_BOOLEAN_INDEX_SCALE"), (9, u "LOG2_ARRAY_BYTE_INDEX_SCALE"), (5, u "LOG2_ARRAY_CHAR_INDEX_SCALE"), (5, u "LOG2_ARRAY_SHORT_INDEX_SCALE"), (18, u "LOG2_ARRAY_FLOAT_INDEX_SCALE"), (24, u "LOG2_ARRAY_DOUBLE_INDEX_SCALE"), (89, u "T_BOOLEAN"), (2, u "T_CHAR"), (1, u "T_FLOAT"), (1, u "T_DOUBLE"), (1, u "T_BYTE"), (1, u "T_SHORT"), (1, u "T_INT"), (1, u "T_LONG"), (1, u "SOFT_MAX_ARRAY_LENGTH")] 83

def k13m0 : Method := { name := "<init>", desc := "()V", sig := { parameters := [], returnType := none }, accessFlags := 2, code := none }
/-- jdk/internal/util/ArraysSupport -/
def k13 : Class := { plain "jdk/internal/util/ArraysSupport" (some 0) with
  accessFlags := 33
  interfaces := #[]
  cf := some (fileOf pool13 21 #[] #[{ accessFlags := 2, nameIndex := 9, descriptorIndex := 19, attributes := #[] }] 33 16 #[] #[{ accessFlags := 24, nameIndex := 28, descriptorIndex := 29, attributes := #[] }, { accessFlags := 26, nameIndex := 38, descriptorIndex := 39, attributes := #[] }, { accessFlags := 25, nameIndex := 121, descriptorIndex := 25, attributes := #[] }, { accessFlags := 25, nameIndex := 131, descriptorIndex := 25, attributes := #[] }, { accessFlags := 25, nameIndex := 137, descriptorIndex := 25, attributes := #[] }, { accessFlags := 25, nameIndex := 143, descriptorIndex := 25, attributes := #[] }, { accessFlags := 25, nameIndex := 53, descriptorIndex := 25, attributes := #[] }, { accessFlags := 25, nameIndex := 24, descriptorIndex := 25, attributes := #[] }, { accessFlags := 25, nameIndex := 162, descriptorIndex := 25, attributes := #[] }, { accessFlags := 25, nameIndex := 187, descriptorIndex := 25, attributes := #[] }, { accessFlags := 26, nameIndex := 48, descriptorIndex := 25, attributes := #[] }, { accessFlags := 25, nameIndex := 277, descriptorIndex := 25, attributes := #[] }, { accessFlags := 25, nameIndex := 280, descriptorIndex := 25, attributes := #[] }, { accessFlags := 25, nameIndex := 282, descriptorIndex := 25, attributes := #[] }, { accessFlags := 25, nameIndex := 284, descriptorIndex := 25, attributes := #[] }, { accessFlags := 25, nameIndex := 286, descriptorIndex := 25, attributes := #[] }, { accessFlags := 25, nameIndex := 288, descriptorIndex := 25, attributes := #[] }, { accessFlags := 25, nameIndex := 290, descriptorIndex := 25, attributes := #[] }, { accessFlags := 25, nameIndex := 292, descriptorIndex := 25, attributes := #[] }, { accessFlags := 26, nameIndex := 108, descriptorIndex := 109, attributes := #[] }, { accessFlags := 25, nameIndex := 294, descriptorIndex := 25, attributes := #[] }])
  fields := #[{ name := "U", type := (.object "jdk/internal/misc/Unsafe"), accessFlags := 24, slot := 0, constantValue := 0 }, { name := "BIG_ENDIAN", type := .boolean, accessFlags := 26, slot := 1, constantValue := 0 }, { name := "LOG2_ARRAY_BOOLEAN_INDEX_SCALE", type := .int, accessFlags := 25, slot := 2, constantValue := 0 }, { name := "LOG2_ARRAY_BYTE_INDEX_SCALE", type := .int, accessFlags := 25, slot := 3, constantValue := 0 }, { name := "LOG2_ARRAY_CHAR_INDEX_SCALE", type := .int, accessFlags := 25, slot := 4, constantValue := 0 }, { name := "LOG2_ARRAY_SHORT_INDEX_SCALE", type := .int, accessFlags := 25, slot := 5, constantValue := 0 }, { name := "LOG2_ARRAY_INT_INDEX_SCALE", type := .int, accessFlags := 25, slot := 6, constantValue := 0 }, { name := "LOG2_ARRAY_LONG_INDEX_SCALE", type := .int, accessFlags := 25, slot := 7, constantValue := 0 }, { name := "LOG2_ARRAY_FLOAT_INDEX_SCALE", type := .int, accessFlags := 25, slot := 8, constantValue := 0 }, { name := "LOG2_ARRAY_DOUBLE_INDEX_SCALE", type := .int, accessFlags := 25, slot := 9, constantValue := 0 }, { name := "LOG2_BYTE_BIT_SIZE", type := .int, accessFlags := 26, slot := 10, constantValue := 0 }, { name := "T_BOOLEAN", type := .int, accessFlags := 25, slot := 11, constantValue := 0 }, { name := "T_CHAR", type := .int, accessFlags := 25, slot := 12, constantValue := 0 }, { name := "T_FLOAT", type := .int, accessFlags := 25, slot := 13, constantValue := 0 }, { name := "T_DOUBLE", type := .int, accessFlags := 25, slot := 14, constantValue := 0 }, { name := "T_BYTE", type := .int, accessFlags := 25, slot := 15, constantValue := 0 }, { name := "T_SHORT", type := .int, accessFlags := 25, slot := 16, constantValue := 0 }, { name := "T_INT", type := .int, accessFlags := 25, slot := 17, constantValue := 0 }, { name := "T_LONG", type := .int, accessFlags := 25, slot := 18, constantValue := 0 }, { name := "JLA", type := (.object "jdk/internal/access/JavaLangAccess"), accessFlags := 26, slot := 19, constantValue := 0 }, { name := "SOFT_MAX_ARRAY_LENGTH", type := .int, accessFlags := 25, slot := 20, constantValue := 0 }]
  methods := #[k13m0]
  instanceTypes := #[]
  staticTypes := #[(.object "jdk/internal/misc/Unsafe"), .boolean, .int, .int, .int, .int, .int, .int, .int, .int, .int, .int, .int, .int, .int, .int, .int, .int, .int, (.object "jdk/internal/access/JavaLangAccess"), .int]
  resolved := Array.replicate 378 none
  statics := none }

def pool14 : Array CpInfo := pool [(1, u "java/lang/Cloneable"), (0, .class_ 1), (0, u "java/lang/Object"), (0, .class_ 3)] 3

/-- java/lang/Cloneable -/
def k14 : Class := { plain "java/lang/Cloneable" (some 0) with
  accessFlags := 1537
  interfaces := #[]
  cf := some (fileOf pool14 2 #[] #[] 1537 4 #[] #[])
  fields := #[]
  methods := #[]
  instanceTypes := #[]
  staticTypes := #[]
  resolved := Array.replicate 8 none
  statics := none }

/-- the primitive byte -/
def k15 : Class := { plain "byte" none with kind := .primitive 'B', accessFlags := 0x411 }
/-- [B -/
def k16 : Class := { plain "[B" (some 0) with kind := .array 15 .byte, interfaces := #[14, 2], accessFlags := 1041 }

/-- the primitive char -/
def k17 : Class := { plain "char" none with kind := .primitive 'C', accessFlags := 0x411 }
/-- [C -/
def k18 : Class := { plain "[C" (some 0) with kind := .array 17 .char, interfaces := #[14, 2], accessFlags := 1041 }

/-- the primitive int -/
def k19 : Class := { plain "int" none with kind := .primitive 'I', accessFlags := 0x411 }
/-- [I -/
def k20 : Class := { plain "[I" (some 0) with kind := .array 19 .int, interfaces := #[14, 2], accessFlags := 1041 }

def heap : Heap := #[{ cls := 7, slots := #[.long 0, .int 1, .null, .int 0, .null, .int 0, .int 0], vm := .statics 7 },
  { cls := 11, slots := #[.null, .null, .null], vm := .statics 11 }]
def classes : Array Class := #[k0, k1, k2, k3, k4, k5, k6, k7, k8, k9, k10, k11, k12, k13, k14, k15, k16, k17, k18, k19, k20]
def interned : List (Array UInt16 × Addr) := []
def slotsUsed : Nat := 10
def theMethod : MethodId := ⟨1, 3⟩
def args0 : Array Value := #[.int 5, .int 1, .int 2, .int 3, .int 4, .int 5]
def aboutOver (below : List Frame) : State where
  vm := { classes := classes, interned := interned.toArray }
  heap := heap
  slotsUsed := slotsUsed
  threads := #[{ frames := .invoking theMethod args0 :: below }]
def below0 : List Frame := [.native { method := ⟨0, 0⟩, args := #[] }]
def about1 : State := aboutOver below0
def p0 : Program := .bare "" "" ""
def e0 : Env := launch0.env 0 0 0
theorem w_frames : about1.frames = Frame.invoking theMethod args0 :: below0 := rfl
set_option maxRecDepth 65536 in
theorem w_args : argsFit about1.vm theMethod args0 = true := by decide +kernel
set_option maxRecDepth 65536 in
theorem w_heap : heapFits about1 = true := by decide +kernel
set_option maxRecDepth 65536 in
theorem w_runnable : about1.curStatus? = some .runnable := by decide +kernel
set_option maxRecDepth 65536 in
theorem w_alone : about1.alone = true := by decide +kernel
set_option maxRecDepth 65536 in
theorem w_named : about1.methodNamed? x = some theMethod := by decide +kernel
set_option maxRecDepth 65536 in
theorem w_hears : about1.hears theMethod below0 = true := by decide +kernel
set_option maxRecDepth 65536 in
theorem w_ripe : about1.ripe theMethod args0 below0 = true := by decide +kernel
theorem w_running : about1.status = .running := rfl
set_option maxRecDepth 65536 in
theorem w_room : about1.hasRoom e0.platform room_1 = true :=
  launch0.hasRoom_least _ room_1 (by decide +kernel) (by decide +kernel) (by decide +kernel) (by decide +kernel) (by decide +kernel) (by decide +kernel)
theorem allAtoms_all (ts : List Jvm.Cond) (a : Array Jvm.Value) (st : Jvm.State) : (allAtoms ts).before a st = ts.all (fun c => c.before a st) := by
  induction ts with
  | nil => rfl
  | cons c t ih =>
    show (Jvm.Cond.and c (allAtoms t)).before a st = _
    rw [Jvm.Cond.before_and, ih, List.all_cons]
def words1 : List Jvm.Cond := Jvm.Cond.code x code maxLocals ret :: tables_1
/-- a 'code' word, met by the world's own term for the bytes: nothing is compared byte by byte -/
theorem code_word {y : MethodName} {bytes : ByteArray} {mx : Nat} {rt : Option FieldType} {a : Array Value} {s : State} {m : MethodId} {meth : Method} {c : Code} (h1 : s.methodNamed? y = some m) (h2 : s.vm.method? m = some meth) (h3 : meth.code = some c) (h4 : c.code = bytes)
    (h5 : (c.maxLocals == mx && c.exceptionTable.isEmpty && decide (c.maxStack ≤ mostOperands) && decide (meth.sig.returnType = rt) && !meth.locks && decide (parseMethodDescriptor y.desc = some meth.sig)) = true) : (Jvm.Cond.code y bytes mx rt).before a s = true := by
  simp only [Bool.and_eq_true, beq_iff_eq, Bool.not_eq_true', decide_eq_true_eq] at h5
  obtain ⟨⟨⟨⟨⟨g1, g2⟩, g3⟩, g4⟩, g5⟩, g6⟩ := h5
  simp [Cond.before, Cond.holds, Cond.value, h1, h2, h3, h4, g1, g2, g3, g4, g5, g6]
def isCode : Jvm.Cond → Bool
  | .code _ _ _ _ => true
  | _ => false
theorem all_split {L : List Jvm.Cond} {P : Jvm.Cond → Bool} (h1 : L.all (fun c => isCode c || P c) = true) (h2 : ∀ c ∈ L.filter isCode, P c = true) : L.all P = true := by
  refine List.all_eq_true.mpr fun c hc => ?_
  have h := List.all_eq_true.mp h1 c hc
  rcases Bool.eq_false_or_eq_true (isCode c) with hi | hi
  · exact h2 c (List.mem_filter.mpr ⟨hc, hi⟩)
  · simpa [hi] using h
set_option maxRecDepth 65536 in
theorem w_c0 : (Jvm.Cond.code x code maxLocals ret).before args0 about1 = true := code_word (m := ⟨1, 3⟩) (meth := k1m3) (c := k1c3) (by decide +kernel) rfl rfl rfl (by decide +kernel)
set_option maxRecDepth 65536 in
theorem w_c1 : (Jvm.Cond.code ({ cls := "com/example/cronopoly/cronopoly/ScheduleIdOfPinLaw", name := "idChar", desc := "(I)C" } : Jvm.MethodName) method_2_code (2 : Nat) (Option.some Jvm.ClassFile.FieldType.char)).before args0 about1 = true := code_word (m := ⟨1, 1⟩) (meth := k1m1) (c := k1c1) (by decide +kernel) rfl rfl rfl (by decide +kernel)
set_option maxRecDepth 65536 in
theorem w_c2 : (Jvm.Cond.code ({ cls := "com/example/cronopoly/cronopoly/ScheduleIdOfPinLaw", name := "make", desc := "(ICCCC)Ljava/lang/String;" } : Jvm.MethodName) method_3_code (5 : Nat) (Option.some (Jvm.ClassFile.FieldType.object "java/lang/String"))).before args0 about1 = true := code_word (m := ⟨1, 2⟩) (meth := k1m2) (c := k1c2) (by decide +kernel) rfl rfl rfl (by decide +kernel)
set_option maxRecDepth 65536 in
theorem w_c3 : (Jvm.Cond.code ({ cls := "java/lang/String", name := "<init>", desc := "([C)V" } : Jvm.MethodName) jdk_42_method_3_code (2 : Nat) (Option.none : Option Jvm.ClassFile.FieldType)).before args0 about1 = true := code_word (m := ⟨7, 1⟩) (meth := k7m1) (c := k7c1) (by decide +kernel) rfl rfl rfl (by decide +kernel)
set_option maxRecDepth 65536 in
theorem w_c4 : (Jvm.Cond.code ({ cls := "java/lang/String", name := "<init>", desc := "([CIILjava/lang/Void;)V" } : Jvm.MethodName) jdk_42_method_149_code (6 : Nat) (Option.none : Option Jvm.ClassFile.FieldType)).before args0 about1 = true := code_word (m := ⟨7, 6⟩) (meth := k7m6) (c := k7c6) (by decide +kernel) rfl rfl rfl (by decide +kernel)
set_option maxRecDepth 65536 in
theorem w_c5 : (Jvm.Cond.code ({ cls := "java/lang/Object", name := "<init>", desc := "()V" } : Jvm.MethodName) object_method_1_code (1 : Nat) (Option.none : Option Jvm.ClassFile.FieldType)).before args0 about1 = true := code_word (m := ⟨0, 0⟩) (meth := k0m0) (c := k0c0) (by decide +kernel) rfl rfl rfl (by decide +kernel)
set_option maxRecDepth 65536 in
theorem w_c6 : (Jvm.Cond.code ({ cls := "java/lang/StringUTF16", name := "compress", desc := "([CII)[B" } : Jvm.MethodName) jdk_52_method_16_code (6 : Nat) (Option.some (Jvm.ClassFile.FieldType.array Jvm.ClassFile.FieldType.byte))).before args0 about1 = true := code_word (m := ⟨8, 2⟩) (meth := k8m2) (c := k8c2) (by decide +kernel) rfl rfl rfl (by decide +kernel)
set_option maxRecDepth 65536 in
theorem w_c7 : (Jvm.Cond.code ({ cls := "java/lang/StringUTF16", name := "compress", desc := "([CI[BII)I" } : Jvm.MethodName) jdk_52_method_21_code (7 : Nat) (Option.some Jvm.ClassFile.FieldType.int)).before args0 about1 = true := code_word (m := ⟨8, 3⟩) (meth := k8m3) (c := k8c3) (by decide +kernel) rfl rfl rfl (by decide +kernel)
set_option maxRecDepth 65536 in
theorem w_c8 : (Jvm.Cond.code ({ cls := "java/lang/StringUTF16", name := "coderFromArrayLen", desc := "([BI)B" } : Jvm.MethodName) jdk_52_method_15_code (2 : Nat) (Option.some Jvm.ClassFile.FieldType.byte)).before args0 about1 = true := code_word (m := ⟨8, 1⟩) (meth := k8m1) (c := k8c1) (by decide +kernel) rfl rfl rfl (by decide +kernel)
set_option maxRecDepth 65536 in
theorem w_c9 : (Jvm.Cond.code ({ cls := "com/example/cronopoly/cronopoly/ScheduleId", name := "of", desc := "(Ljava/lang/String;)Lcom/example/cronopoly/cronopoly/ScheduleId;" } : Jvm.MethodName) prog_16_method_2_code (3 : Nat) (Option.some (Jvm.ClassFile.FieldType.object "com/example/cronopoly/cronopoly/ScheduleId"))).before args0 about1 = true := code_word (m := ⟨9, 1⟩) (meth := k9m1) (c := k9c1) (by decide +kernel) rfl rfl rfl (by decide +kernel)
set_option maxRecDepth 65536 in
theorem w_c10 : (Jvm.Cond.code ({ cls := "java/util/Objects", name := "requireNonNull", desc := "(Ljava/lang/Object;Ljava/lang/String;)Ljava/lang/Object;" } : Jvm.MethodName) jdk_31_method_11_code (2 : Nat) (Option.some (Jvm.ClassFile.FieldType.object "java/lang/Object"))).before args0 about1 = true := code_word (m := ⟨10, 1⟩) (meth := k10m1) (c := k10c1) (by decide +kernel) rfl rfl rfl (by decide +kernel)
set_option maxRecDepth 65536 in
theorem w_c11 : (Jvm.Cond.code ({ cls := "java/lang/String", name := "isEmpty", desc := "()Z" } : Jvm.MethodName) jdk_42_method_55_code (1 : Nat) (Option.some Jvm.ClassFile.FieldType.boolean)).before args0 about1 = true := code_word (m := ⟨7, 3⟩) (meth := k7m3) (c := k7c3) (by decide +kernel) rfl rfl rfl (by decide +kernel)
set_option maxRecDepth 65536 in
theorem w_c12 : (Jvm.Cond.code ({ cls := "java/lang/String", name := "length", desc := "()I" } : Jvm.MethodName) jdk_42_method_54_code (1 : Nat) (Option.some Jvm.ClassFile.FieldType.int)).before args0 about1 = true := code_word (m := ⟨7, 2⟩) (meth := k7m2) (c := k7c2) (by decide +kernel) rfl rfl rfl (by decide +kernel)
set_option maxRecDepth 65536 in
theorem w_c13 : (Jvm.Cond.code ({ cls := "java/lang/String", name := "coder", desc := "()B" } : Jvm.MethodName) jdk_42_method_152_code (1 : Nat) (Option.some Jvm.ClassFile.FieldType.byte)).before args0 about1 = true := code_word (m := ⟨7, 7⟩) (meth := k7m7) (c := k7c7) (by decide +kernel) rfl rfl rfl (by decide +kernel)
set_option maxRecDepth 65536 in
theorem w_c14 : (Jvm.Cond.code ({ cls := "java/lang/String", name := "codePointAt", desc := "(I)I" } : Jvm.MethodName) jdk_42_method_57_code (3 : Nat) (Option.some Jvm.ClassFile.FieldType.int)).before args0 about1 = true := code_word (m := ⟨7, 4⟩) (meth := k7m4) (c := k7c4) (by decide +kernel) rfl rfl rfl (by decide +kernel)
set_option maxRecDepth 65536 in
theorem w_c15 : (Jvm.Cond.code ({ cls := "java/lang/String", name := "isLatin1", desc := "()Z" } : Jvm.MethodName) jdk_42_method_154_code (1 : Nat) (Option.some Jvm.ClassFile.FieldType.boolean)).before args0 about1 = true := code_word (m := ⟨7, 8⟩) (meth := k7m8) (c := k7c8) (by decide +kernel) rfl rfl rfl (by decide +kernel)
set_option maxRecDepth 65536 in
theorem w_c16 : (Jvm.Cond.code ({ cls := "java/lang/String", name := "checkIndex", desc := "(II)V" } : Jvm.MethodName) jdk_42_method_155_code (2 : Nat) (Option.none : Option Jvm.ClassFile.FieldType)).before args0 about1 = true := code_word (m := ⟨7, 9⟩) (meth := k7m9) (c := k7c9) (by decide +kernel) rfl rfl rfl (by decide +kernel)
set_option maxRecDepth 65536 in
theorem w_c17 : (Jvm.Cond.code ({ cls := "jdk/internal/util/Preconditions", name := "checkIndex", desc := "(IILjava/util/function/BiFunction;)I" } : Jvm.MethodName) jdk_41_method_11_code (3 : Nat) (Option.some Jvm.ClassFile.FieldType.int)).before args0 about1 = true := code_word (m := ⟨11, 1⟩) (meth := k11m1) (c := k11c1) (by decide +kernel) rfl rfl rfl (by decide +kernel)
set_option maxRecDepth 65536 in
theorem w_c18 : (Jvm.Cond.code ({ cls := "com/example/cronopoly/cronopoly/ScheduleId", name := "isIdCharacter", desc := "(I)Z" } : Jvm.MethodName) prog_16_method_3_code (2 : Nat) (Option.some Jvm.ClassFile.FieldType.boolean)).before args0 about1 = true := code_word (m := ⟨9, 2⟩) (meth := k9m2) (c := k9c2) (by decide +kernel) rfl rfl rfl (by decide +kernel)
set_option maxRecDepth 65536 in
theorem w_c19 : (Jvm.Cond.code ({ cls := "com/example/cronopoly/cronopoly/ScheduleId", name := "<init>", desc := "(Ljava/lang/String;)V" } : Jvm.MethodName) prog_16_method_1_code (2 : Nat) (Option.none : Option Jvm.ClassFile.FieldType)).before args0 about1 = true := code_word (m := ⟨9, 0⟩) (meth := k9m0) (c := k9c0) (by decide +kernel) rfl rfl rfl (by decide +kernel)
set_option maxRecDepth 65536 in
theorem w_c20 : (Jvm.Cond.code ({ cls := "com/example/cronopoly/cronopoly/ScheduleId", name := "toString", desc := "()Ljava/lang/String;" } : Jvm.MethodName) prog_16_method_6_code (1 : Nat) (Option.some (Jvm.ClassFile.FieldType.object "java/lang/String"))).before args0 about1 = true := code_word (m := ⟨9, 3⟩) (meth := k9m3) (c := k9c3) (by decide +kernel) rfl rfl rfl (by decide +kernel)
set_option maxRecDepth 65536 in
theorem w_c21 : (Jvm.Cond.code ({ cls := "java/lang/String", name := "equals", desc := "(Ljava/lang/Object;)Z" } : Jvm.MethodName) jdk_42_method_66_code (3 : Nat) (Option.some Jvm.ClassFile.FieldType.boolean)).before args0 about1 = true := code_word (m := ⟨7, 5⟩) (meth := k7m5) (c := k7c5) (by decide +kernel) rfl rfl rfl (by decide +kernel)
set_option maxRecDepth 65536 in
theorem w_c22 : (Jvm.Cond.code ({ cls := "com/example/cronopoly/cronopoly/ScheduleId", name := "equals", desc := "(Ljava/lang/Object;)Z" } : Jvm.MethodName) prog_16_method_7_code (3 : Nat) (Option.some Jvm.ClassFile.FieldType.boolean)).before args0 about1 = true := code_word (m := ⟨9, 4⟩) (meth := k9m4) (c := k9c4) (by decide +kernel) rfl rfl rfl (by decide +kernel)
set_option maxRecDepth 65536 in
theorem w_c23 : (Jvm.Cond.code ({ cls := "java/lang/StringLatin1", name := "equals", desc := "([B[B)Z" } : Jvm.MethodName) jdk_43_method_13_code (3 : Nat) (Option.some Jvm.ClassFile.FieldType.boolean)).before args0 about1 = true := code_word (m := ⟨12, 1⟩) (meth := k12m1) (c := k12c1) (by decide +kernel) rfl rfl rfl (by decide +kernel)
def codes1 : List Jvm.Cond := [Jvm.Cond.code x code maxLocals ret, Jvm.Cond.code ({ cls := "com/example/cronopoly/cronopoly/ScheduleIdOfPinLaw", name := "idChar", desc := "(I)C" } : Jvm.MethodName) method_2_code (2 : Nat) (Option.some Jvm.ClassFile.FieldType.char), Jvm.Cond.code ({ cls := "com/example/cronopoly/cronopoly/ScheduleIdOfPinLaw", name := "make", desc := "(ICCCC)Ljava/lang/String;" } : Jvm.MethodName) method_3_code (5 : Nat) (Option.some (Jvm.ClassFile.FieldType.object "java/lang/String")), Jvm.Cond.code ({ cls := "java/lang/String", name := "<init>", desc := "([C)V" } : Jvm.MethodName) jdk_42_method_3_code (2 : Nat) (Option.none : Option Jvm.ClassFile.FieldType), Jvm.Cond.code ({ cls := "java/lang/String", name := "<init>", desc := "([CIILjava/lang/Void;)V" } : Jvm.MethodName) jdk_42_method_149_code (6 : Nat) (Option.none : Option Jvm.ClassFile.FieldType), Jvm.Cond.code ({ cls := "java/lang/Object", name := "<init>", desc := "()V" } : Jvm.MethodName) object_method_1_code (1 : Nat) (Option.none : Option Jvm.ClassFile.FieldType), Jvm.Cond.code ({ cls := "java/lang/StringUTF16", name := "compress", desc := "([CII)[B" } : Jvm.MethodName) jdk_52_method_16_code (6 : Nat) (Option.some (Jvm.ClassFile.FieldType.array Jvm.ClassFile.FieldType.byte)), Jvm.Cond.code ({ cls := "java/lang/StringUTF16", name := "compress", desc := "([CI[BII)I" } : Jvm.MethodName) jdk_52_method_21_code (7 : Nat) (Option.some Jvm.ClassFile.FieldType.int), Jvm.Cond.code ({ cls := "java/lang/StringUTF16", name := "coderFromArrayLen", desc := "([BI)B" } : Jvm.MethodName) jdk_52_method_15_code (2 : Nat) (Option.some Jvm.ClassFile.FieldType.byte), Jvm.Cond.code ({ cls := "com/example/cronopoly/cronopoly/ScheduleId", name := "of", desc := "(Ljava/lang/String;)Lcom/example/cronopoly/cronopoly/ScheduleId;" } : Jvm.MethodName) prog_16_method_2_code (3 : Nat) (Option.some (Jvm.ClassFile.FieldType.object "com/example/cronopoly/cronopoly/ScheduleId")), Jvm.Cond.code ({ cls := "java/util/Objects", name := "requireNonNull", desc := "(Ljava/lang/Object;Ljava/lang/String;)Ljava/lang/Object;" } : Jvm.MethodName) jdk_31_method_11_code (2 : Nat) (Option.some (Jvm.ClassFile.FieldType.object "java/lang/Object")), Jvm.Cond.code ({ cls := "java/lang/String", name := "isEmpty", desc := "()Z" } : Jvm.MethodName) jdk_42_method_55_code (1 : Nat) (Option.some Jvm.ClassFile.FieldType.boolean), Jvm.Cond.code ({ cls := "java/lang/String", name := "length", desc := "()I" } : Jvm.MethodName) jdk_42_method_54_code (1 : Nat) (Option.some Jvm.ClassFile.FieldType.int), Jvm.Cond.code ({ cls := "java/lang/String", name := "coder", desc := "()B" } : Jvm.MethodName) jdk_42_method_152_code (1 : Nat) (Option.some Jvm.ClassFile.FieldType.byte), Jvm.Cond.code ({ cls := "java/lang/String", name := "codePointAt", desc := "(I)I" } : Jvm.MethodName) jdk_42_method_57_code (3 : Nat) (Option.some Jvm.ClassFile.FieldType.int), Jvm.Cond.code ({ cls := "java/lang/String", name := "isLatin1", desc := "()Z" } : Jvm.MethodName) jdk_42_method_154_code (1 : Nat) (Option.some Jvm.ClassFile.FieldType.boolean), Jvm.Cond.code ({ cls := "java/lang/String", name := "checkIndex", desc := "(II)V" } : Jvm.MethodName) jdk_42_method_155_code (2 : Nat) (Option.none : Option Jvm.ClassFile.FieldType), Jvm.Cond.code ({ cls := "jdk/internal/util/Preconditions", name := "checkIndex", desc := "(IILjava/util/function/BiFunction;)I" } : Jvm.MethodName) jdk_41_method_11_code (3 : Nat) (Option.some Jvm.ClassFile.FieldType.int), Jvm.Cond.code ({ cls := "com/example/cronopoly/cronopoly/ScheduleId", name := "isIdCharacter", desc := "(I)Z" } : Jvm.MethodName) prog_16_method_3_code (2 : Nat) (Option.some Jvm.ClassFile.FieldType.boolean), Jvm.Cond.code ({ cls := "com/example/cronopoly/cronopoly/ScheduleId", name := "<init>", desc := "(Ljava/lang/String;)V" } : Jvm.MethodName) prog_16_method_1_code (2 : Nat) (Option.none : Option Jvm.ClassFile.FieldType), Jvm.Cond.code ({ cls := "com/example/cronopoly/cronopoly/ScheduleId", name := "toString", desc := "()Ljava/lang/String;" } : Jvm.MethodName) prog_16_method_6_code (1 : Nat) (Option.some (Jvm.ClassFile.FieldType.object "java/lang/String")), Jvm.Cond.code ({ cls := "java/lang/String", name := "equals", desc := "(Ljava/lang/Object;)Z" } : Jvm.MethodName) jdk_42_method_66_code (3 : Nat) (Option.some Jvm.ClassFile.FieldType.boolean), Jvm.Cond.code ({ cls := "com/example/cronopoly/cronopoly/ScheduleId", name := "equals", desc := "(Ljava/lang/Object;)Z" } : Jvm.MethodName) prog_16_method_7_code (3 : Nat) (Option.some Jvm.ClassFile.FieldType.boolean), Jvm.Cond.code ({ cls := "java/lang/StringLatin1", name := "equals", desc := "([B[B)Z" } : Jvm.MethodName) jdk_43_method_13_code (3 : Nat) (Option.some Jvm.ClassFile.FieldType.boolean)]
set_option maxRecDepth 65536 in
theorem codes_eq : words1.filter isCode = codes1 := rfl
theorem w_codes : ∀ c ∈ words1.filter isCode, c.before args0 about1 = true := by
  rw [codes_eq]
  intro c hc
  simp only [codes1, List.mem_cons, List.not_mem_nil, or_false] at hc
  rcases hc with rfl | rfl | rfl | rfl | rfl | rfl | rfl | rfl | rfl | rfl | rfl | rfl | rfl | rfl | rfl | rfl | rfl | rfl | rfl | rfl | rfl | rfl | rfl | rfl
  · exact w_c0
  · exact w_c1
  · exact w_c2
  · exact w_c3
  · exact w_c4
  · exact w_c5
  · exact w_c6
  · exact w_c7
  · exact w_c8
  · exact w_c9
  · exact w_c10
  · exact w_c11
  · exact w_c12
  · exact w_c13
  · exact w_c14
  · exact w_c15
  · exact w_c16
  · exact w_c17
  · exact w_c18
  · exact w_c19
  · exact w_c20
  · exact w_c21
  · exact w_c22
  · exact w_c23
set_option maxRecDepth 65536 in
theorem w_t1 : (words1.take 24).all (fun c => isCode c || c.before args0 about1) = true := by decide +kernel
set_option maxRecDepth 65536 in
theorem w_t2 : ((words1.drop 24).take 24).all (fun c => isCode c || c.before args0 about1) = true := by decide +kernel
set_option maxRecDepth 65536 in
theorem w_t3 : (((words1.drop 24).drop 24).take 24).all (fun c => isCode c || c.before args0 about1) = true := by decide +kernel
set_option maxRecDepth 65536 in
theorem w_t4 : ((((words1.drop 24).drop 24).drop 24).take 24).all (fun c => isCode c || c.before args0 about1) = true := by decide +kernel
set_option maxRecDepth 65536 in
theorem w_t5 : ((((words1.drop 24).drop 24).drop 24).drop 24).all (fun c => isCode c || c.before args0 about1) = true := by decide +kernel
theorem w_tables : (allAtoms (Jvm.Cond.code x code maxLocals ret :: tables_1)).before args0 about1 = true := by
  rw [allAtoms_all]
  show words1.all (fun c => c.before args0 about1) = true
  refine all_split ?_ w_codes
  rw [← List.take_append_drop 24 words1, List.all_append, w_t1, ← List.take_append_drop 24 (words1.drop 24), List.all_append, w_t2, ← List.take_append_drop 24 ((words1.drop 24).drop 24), List.all_append, w_t3, ← List.take_append_drop 24 (((words1.drop 24).drop 24).drop 24), List.all_append, w_t4, w_t5]
  rfl
set_option maxRecDepth 65536 in
theorem w_rest : rest_1_c.before args0 about1 = true := by decide +kernel
set_option maxRecDepth 65536 in
theorem w_case : (Jvm.Cond.and given_1 narrow_1).before args0 about1 = true := by decide +kernel
theorem w_applies : (headSpec (Jvm.Cond.code x code maxLocals ret :: tables_1) room_1).applies x e0.platform about1 = true :=
  (Spec.applies_iff w_frames).mpr ⟨w_running, w_runnable, w_alone, w_named, w_hears, w_ripe, w_room, w_tables⟩
theorem atStart : AtStart classFile x code maxLocals ret World_1 tables_1 room_1 Calls_1 rest_1 Pre_1 launch0 p0 e0 about1 theMethod args0 below0 :=
  ⟨lists_1, trivial, launch0.admits_env _ _ _, launch0.least_env, fairChoices_fair.cas, fairChoices_fair.clock, w_frames, w_args, w_heap, w_applies, trivial, w_rest, w_case⟩
end start1
theorem witness_1 : WitnessClaimed_1 := ⟨start1.p0, start1.e0, start1.about1, start1.theMethod, start1.args0, start1.below0, start1.atStart⟩
end Jvm.Pilot.@@N@@
