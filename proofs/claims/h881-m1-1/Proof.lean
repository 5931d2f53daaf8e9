import JvmDerived
import JvmDerived.Pilot.@@N@@Statement
import JvmDerived.Pilot.@@N@@Code
set_option linter.unusedVariables false
set_option linter.unusedSimpArgs false
namespace Jvm.RoadKit
open Sem ClassFile Op Lib Jvm.Stand Jvm.Free Jvm.LawKit
section Own
variable {p : Program} {l : Launch} {e : Env} {R : Room} {s : State} {m : MethodId} {args : Array Value} {below : List Frame} {meth : Method} {c : Code} {T T' : State} {locs : List Loc} {cells slots : Nat} {Z : State} {a0 : Array Value} {h h' h0 : Heap} {K : State → Outcome → Prop} {pc : Nat} {Ls : Array Slot} {rest : List Value} {Q : Option Value → Heap → List Loc → Prop} {k n : Nat} {a b : Addr} {ws : List Addr} {sl : Nat} {v : Value}
/-- from T the run comes to its end, and K holds there -/
def Go (p : Program) (e : Env) (below : List Frame) (K : State → Outcome → Prop) (T : State) : Prop := ∃ U o, Steps p.tables e below T U ∧ U.status = .running ∧ Ended U below o ∧ K U o
theorem Go.by (st : ∀ t, Steps p.tables e below T' t → Steps p.tables e below T t) (g : Go p e below K T') : Go p e below K T := by
  obtain ⟨U, o, q, r⟩ := g; exact ⟨U, o, st _ q, r⟩
theorem Go.on (st : Steps p.tables e below T T') (g : Go p e below K T') : Go p e below K T := by
  obtain ⟨U, o, q, r⟩ := g; exact ⟨U, o, st.trans q, r⟩
theorem Go.cast {T'' : State} (q : T = T'') (g : Go p e below K T'') : Go p e below K T := q ▸ g
def KK (s : State) (Q : Option Value → Heap → List Loc → Prop) (k n : Nat) : State → Outcome → Prop := fun U o => ∃ v L, o = .returned v ∧ Q v U.heap L ∧ FrameEnd s o U L k n
abbrev Ctr (l : Launch) (Z : State) (h0 : Heap) (y : MethodName) (bytes : ByteArray) (maxL : Nat) (ret : Option FieldType) (ws : List Cond) (rm : Room) (as' : Array Value) (Q : Option Value → Heap → List Loc → Prop) : Prop :=
  MetFree l y (head1 (Cond.code y bytes maxL ret :: ws) rm) (fun a U => a = as' ∧ Z.Warmed39 U.vm ∧ U.heap = h0) (fun _ _ _ _ _ => True) (fun _ U o U' => ∃ v L, o = .returned v ∧ Q v U'.heap L ∧ FrameEnd U o U' L rm.cells rm.slots)
theorem enter {y : MethodName} {bytes : ByteArray} {maxL : Nat} {ret : Option FieldType} {ws : List Cond} {rm : Room} {as' : Array Value} (hp : plainFor y = true)
    (H : ∀ (p : Program) (e : Env) (s : State) (m : MethodId) (below : List Frame) (meth : Method) (c : Code) (s₁ : State), p.tables.exec = Jvm.exec → c.code = bytes → c.maxLocals = maxL → Z.Warmed39 s.vm → s.vm.findClass y.cls = some m.cls → meth.name = y.name → meth.sig.returnType = ret → meth.locks = false →
      Stand p l e rm s m as' below meth c s₁ [] 0 0 → s₁.heap = h0 → s.heap = h0 → Go p e below (KK s Q rm.cells rm.slots) (s₁.setTop (entryFrame m as' maxL))) : Ctr l Z h0 y bytes maxL ret ws rm as' Q := by
  refine MetFree.of_bodySF hp hisR ?_
  intro p e s m args below meth c s₁ Bd hml0 hP hK
  obtain ⟨rfl, hZ, hh⟩ := hP
  exact H p e s m below meth c s₁ Bd.exec Bd.bytes hml0 hZ (findClass_of_methodNamed Bd.named) (name_of_methodNamed Bd.named Bd.method).1 Bd.returns Bd.notSynchronized (Stand.of_body Bd) (by rw [← hh, Bd.state]; rfl) hh
/-! returns -/
theorem Go.ret {w : Value} {t : FieldType} {i : Instr} (X : Stand p l e R s m args below meth c T locs cells slots) (hx : p.tables.exec = Jvm.exec) (hret : meth.sig.returnType = some t) (hlk : meth.locks = false) (hn : narrow t w = w)
    (hi : (i = .ireturn ∧ (t = .int ∨ t = .boolean ∨ t = .byte ∨ t = .char ∨ t = .short) ∧ ∃ z, w = .int z) ∨ (i = .lreturn ∧ t = .long ∧ ∃ z, w = .long z) ∨ (i = .dreturn ∧ t = .double ∧ ∃ z, w = .double z) ∨ (i = .freturn ∧ t = .float ∧ ∃ z, w = .float z) ∨ (i = .areturn ∧ t.isReference = true ∧ w.isRef = true))
    (hd : decode c.code pc = .ok (i, 1)) (eT : T.heap = h) (hk : cells ≤ k) (hs : slots ≤ n) (hQ : Q (some w) h locs) : Go p e below (KK s Q k n) (T.setTop (mkF m pc Ls (w :: rest))) := by
  obtain ⟨fs, hr, hrun, hended, hW, hsame⟩ := X.leave (v := some w) (fun h => by rw [hret] at h; cases h) hlk
  subst eT
  exact ⟨_, _, retOut X hx hret hn hi hd hr, hrun, hended, _, _, rfl, hQ, ⟨_, rfl⟩, hW, hsame.mono hk hs⟩
theorem Go.retI {z : Int32} {t : FieldType} (X : Stand p l e R s m args below meth c T locs cells slots) (hx : p.tables.exec = Jvm.exec) (hret : meth.sig.returnType = some t) (hlk : meth.locks = false) (ht : t = .int ∨ t = .boolean ∨ t = .byte ∨ t = .char ∨ t = .short) (hn : narrow t (.int z) = .int z)
    (hd : decode c.code pc = .ok (.ireturn, 1)) (eT : T.heap = h) (hk : cells ≤ k) (hs : slots ≤ n) (hQ : Q (some (.int z)) h locs) : Go p e below (KK s Q k n) (T.setTop (mkF m pc Ls (.int z :: rest))) :=
  Go.ret X hx hret hlk hn (Or.inl ⟨rfl, ht, z, rfl⟩) hd eT hk hs hQ
theorem Go.retJ {z : Int64} (X : Stand p l e R s m args below meth c T locs cells slots) (hx : p.tables.exec = Jvm.exec) (hret : meth.sig.returnType = some .long) (hlk : meth.locks = false)
    (hd : decode c.code pc = .ok (.lreturn, 1)) (eT : T.heap = h) (hk : cells ≤ k) (hs : slots ≤ n) (hQ : Q (some (.long z)) h locs) : Go p e below (KK s Q k n) (T.setTop (mkF m pc Ls (.long z :: rest))) :=
  Go.ret X hx hret hlk rfl (Or.inr (Or.inl ⟨rfl, rfl, z, rfl⟩)) hd eT hk hs hQ
theorem nar_ref {t : FieldType} {w : Value} (hw : w.isRef = true) : narrow t w = w := by cases w <;> first | (simp [Value.isRef] at hw; done) | (cases t <;> rfl)
theorem fits_any {C : String} {w : Value} (hw : w.isRef = true) : fits (.object C) w = true := by cases w <;> first | (simp [Value.isRef] at hw; done) | rfl
theorem Go.retA {w : Value} {t : FieldType} (X : Stand p l e R s m args below meth c T locs cells slots) (hx : p.tables.exec = Jvm.exec) (hret : meth.sig.returnType = some t) (hlk : meth.locks = false) (ht : t.isReference = true) (hw : w.isRef = true)
    (hd : decode c.code pc = .ok (.areturn, 1)) (eT : T.heap = h) (hk : cells ≤ k) (hs : slots ≤ n) (hQ : Q (some w) h locs) : Go p e below (KK s Q k n) (T.setTop (mkF m pc Ls (w :: rest))) :=
  Go.ret X hx hret hlk (nar_ref hw) (Or.inr (Or.inr (Or.inr (Or.inr ⟨rfl, ht, hw⟩)))) hd eT hk hs hQ
theorem Go.retV (X : Stand p l e R s m args below meth c T locs cells slots) (hx : p.tables.exec = Jvm.exec) (hret : meth.sig.returnType = none) (hlk : meth.locks = false)
    (hd : decode c.code pc = .ok (.return_, 1)) (eT : T.heap = h) (hk : cells ≤ k) (hs : slots ≤ n) (hQ : Q none h locs) : Go p e below (KK s Q k n) (T.setTop (mkF m pc Ls [])) := by
  obtain ⟨fs, hr, hrun, hended, hW, hsame⟩ := X.leave (v := none) (fun _ => rfl) hlk
  subst eT
  exact ⟨_, _, X.returnOut hx hret hd hr, hrun, hended, _, _, rfl, hQ, ⟨_, rfl⟩, hW, hsame.mono hk hs⟩
/-! the old cells -/
theorem ext_trans {h1 h2 h3 : Heap} (E : Ext h1 h2) (F : Ext h2 h3) : Ext h1 h3 := ⟨Nat.le_trans E.1 F.1, fun a c q => F.2 a c (E.2 a c q)⟩
theorem ext_wr {h1 h2 h3 : Heap} (E : Ext h1 h2) (W : Wr h2 h3 a sl v) (g : h1.size ≤ a) : Ext h1 h3 := by
  obtain ⟨cell, q1, q2, q3, rfl⟩ := W
  refine ⟨by simpa using E.1, fun x c q => ?_⟩
  have hx : x < h1.size := (Array.getElem?_eq_some_iff.mp q).1
  rw [Array.getElem?_setIfInBounds_ne (Nat.ne_of_gt (Nat.lt_of_lt_of_le hx g))]
  exact E.2 x c q
theorem ext_keep {h1 h2 h3 : Heap} (E : Ext h1 h2) (F : Keep h2 h3 ws) (g : ∀ x ∈ ws, h1.size ≤ x) : Ext h1 h3 := by
  refine ⟨Nat.le_trans E.1 F.1, fun x c q => F.2.1 x c (E.2 x c q) fun z => ?_⟩
  exact absurd (Array.getElem?_eq_some_iff.mp q).1 (Nat.not_lt.mpr (g x z))
theorem ne_new (q : a < h.size) (r : h.size ≤ b) : a ≠ b := Nat.ne_of_lt (Nat.lt_of_lt_of_le q r)
/-! calls -/
theorem Go.callS {own : String} {index : Nat} {y : MethodName} {bytes : ByteArray} {maxL : Nat} {ret : Option FieldType} {rm : Room} {as' : Array Value} {argsL S : List Value} (X : Stand p l e R s m args below meth c T locs cells slots) (hx : p.tables.exec = Jvm.exec) (hZ : Z.Warmed39 s.vm) (hown : s.vm.findClass own = some m.cls)
    (w1 : (Cond.methodLink own index y).before a0 Z = true) (w2 : (Cond.static y).before a0 Z = true) (w3 : (Cond.initialized y.cls).before a0 Z = true) (w4 : (Cond.code y bytes maxL ret).before a0 Z = true)
    (hy : y.cls ≠ "java/lang/invoke/MethodHandle" ∧ y.cls ≠ "java/lang/invoke/VarHandle") {Q : Option Value → Heap → List Loc → Prop} (hM : Ctr l Z h y bytes maxL ret [] rm as' Q) (eT : T.heap = h) (hsz : Ls.size = c.maxLocals)
    (hd : decode c.code pc = .ok (.invokestatic index, 3)) (hlen : ∀ sig, parseMethodDescriptor y.desc = some sig → argsL.length = sig.parameters.length) (hst : S = argsL.reverse ++ rest) (has : argsL.toArray = as')
    {W : Nat} (hW : 2 * 0 + (rest.map fun v => v.category).sum ≤ W) (hf : rm.frames + 1 ≤ R.frames) (hl : W + (maxL + 11) + rm.locals ≤ R.locals) (hc : cells + rm.cells ≤ R.cells) (hs : slots + rm.slots ≤ R.slots)
    (g : ∀ (v : Option Value) (T' : State) (L : List Loc), Stand p l e R s m args below meth c T' (locs ++ L) (cells + rm.cells) (slots + rm.slots) → Q v T'.heap L → Go p e below K (T'.setTop (mkF m (pc + 3) Ls (v.toList ++ rest)))) : Go p e below K (T.setTop (mkF m pc Ls S)) := by
  obtain ⟨v, _, ⟨T', L', k', n'⟩, -, X', ⟨Lc, hQ, l', y', z'⟩, st⟩ := Jvm.LawKit.callS X hx (y := y) hown (mvT hZ w1) (mvT hZ w2) (mvT hZ w3) (mvT hZ w4) hy (backOf (W := W) hM hZ w4 w3 hf hl) (g := mkF m pc Ls S) rfl hsz (argsL := argsL) (rest := rest) hlen hst hW hd (fun _ _ => ⟨has, eT, hc, hs⟩)
  dsimp only [Pt.U, Pt.locs, Pt.cells, Pt.slots] at X' l' y' z' st hQ
  subst l' y' z'
  exact Go.by st (g v T' Lc X' hQ)
theorem Go.init {own : String} {index : Nat} {y : MethodName} {bytes : ByteArray} {maxL : Nat} {rm : Room} {as' : Array Value} {argsL S : List Value} (X : Stand p l e R s m args below meth c T locs cells slots) (hx : p.tables.exec = Jvm.exec) (hZ : Z.Warmed39 s.vm) (hown : s.vm.findClass own = some m.cls) (hy1 : y.name = "<init>")
    (w1 : (Cond.methodLink own index y).before a0 Z = true) (w2 : (Cond.instanceMethod y).before a0 Z = true) (w3 : (Cond.initialized y.cls).before a0 Z = true) (w4 : (Cond.code y bytes maxL none).before a0 Z = true)
    (hy : y.cls ≠ "java/lang/invoke/MethodHandle" ∧ y.cls ≠ "java/lang/invoke/VarHandle") {Q : Option Value → Heap → List Loc → Prop} (hM : Ctr l Z h y bytes maxL none [] rm as' Q) (eT : T.heap = h) (hsz : Ls.size = c.maxLocals)
    (hd : decode c.code pc = .ok (.invokespecial index, 3)) (hlen : ∀ sig, parseMethodDescriptor y.desc = some sig → argsL.length = sig.parameters.length) (hst : S = argsL.reverse ++ .ref a :: rest) (has : (Value.ref a :: argsL).toArray = as')
    {W : Nat} (hW : 2 * 0 + (rest.map fun v => v.category).sum ≤ W) (hf : rm.frames + 1 ≤ R.frames) (hl : W + (maxL + 11) + rm.locals ≤ R.locals) (hc : cells + rm.cells ≤ R.cells) (hs : slots + rm.slots ≤ R.slots)
    (g : ∀ (v : Option Value) (T' : State) (L : List Loc), Stand p l e R s m args below meth c T' (locs ++ L) (cells + rm.cells) (slots + rm.slots) → Q v T'.heap L → Go p e below K (T'.setTop (mkF m (pc + 3) Ls (v.toList ++ rest)))) : Go p e below K (T.setTop (mkF m pc Ls S)) := by
  obtain ⟨v, _, ⟨T', L', k', n'⟩, -, X', ⟨Lc, hQ, l', y', z'⟩, st⟩ := X.specialBack hx (y := y) hy1 hown (mvT hZ w1) (mvT hZ w2) (mvT hZ w4) hy (backOf (W := W) hM hZ w4 w3 hf hl) (g := mkF m pc Ls S) rfl hsz (Steps.refl _) (a := a) (argsL := argsL) (rest := rest) hlen hst hW hd (fun _ _ => ⟨has, eT, hc, hs⟩)
  dsimp only [Pt.U, Pt.locs, Pt.cells, Pt.slots] at X' l' y' z' st hQ
  subst l' y' z'
  exact Go.on st (g v T' Lc X' hQ)
theorem Go.virt {own C : String} {index : Nat} {y z : MethodName} {bytes : ByteArray} {maxL : Nat} {ret : Option FieldType} {rm : Room} {as' : Array Value} {argsL S : List Value} (X : Stand p l e R s m args below meth c T locs cells slots) (hx : p.tables.exec = Jvm.exec) (hZ : Z.Warmed39 s.vm) (hown : s.vm.findClass own = some m.cls)
    (w1 : (Cond.methodLink own index y).before a0 Z = true) (w2 : (Cond.declares y).before a0 Z = true) (hnf : NotFace s y) (w5 : (Cond.selects C y z).before a0 Z = true) (w6 : (Cond.instanceMethod z).before a0 Z = true) (w3 : (Cond.initialized z.cls).before a0 Z = true) (w4 : (Cond.code z bytes maxL ret).before a0 Z = true)
    (hy : y.cls ≠ "java/lang/invoke/MethodHandle" ∧ y.cls ≠ "java/lang/invoke/VarHandle") {Q : Option Value → Heap → List Loc → Prop} (hM : Ctr l Z h z bytes maxL ret [] rm as' Q) (eT : T.heap = h) (E : Exa Z h a C) (hsz : Ls.size = c.maxLocals)
    (hd : decode c.code pc = .ok (.invokevirtual index, 3)) (hlen : ∀ sig, parseMethodDescriptor y.desc = some sig → argsL.length = sig.parameters.length) (hst : S = argsL.reverse ++ .ref a :: rest) (has : (Value.ref a :: argsL).toArray = as')
    {W : Nat} (hW : 2 * 0 + (rest.map fun v => v.category).sum ≤ W) (hf : rm.frames + 1 ≤ R.frames) (hl : W + (maxL + 11) + rm.locals ≤ R.locals) (hc : cells + rm.cells ≤ R.cells) (hs : slots + rm.slots ≤ R.slots)
    (g : ∀ (v : Option Value) (T' : State) (L : List Loc), Stand p l e R s m args below meth c T' (locs ++ L) (cells + rm.cells) (slots + rm.slots) → Q v T'.heap L → Go p e below K (T'.setTop (mkF m (pc + 3) Ls (v.toList ++ rest)))) : Go p e below K (T.setTop (mkF m pc Ls S)) := by
  obtain ⟨cq, kq, q1, q2, q3⟩ := isOf hZ eT E
  obtain ⟨v, _, ⟨T', L', k', n'⟩, -, X', ⟨Lc, hQ, l', y', z'⟩, st⟩ := X.virtualBack hx (y := y) (z := z) hown (mvT hZ w1) (mvT hZ w2) hnf (mvT hZ w5) (mvT hZ w6) hy (backOf (W := W) hM hZ w4 w3 hf hl) q1 q3 (g := mkF m pc Ls S) rfl hsz (Steps.refl _) (argsL := argsL) (rest := rest) hlen hst hW hd (fun _ _ => ⟨has, eT, hc, hs⟩)
  dsimp only [Pt.U, Pt.locs, Pt.cells, Pt.slots] at X' l' y' z' st hQ
  subst l' y' z'
  exact Go.on st (g v T' Lc X' hQ)
theorem Go.face {own C : String} {index count : Nat} {y z : MethodName} {bytes : ByteArray} {maxL : Nat} {ret : Option FieldType} {rm : Room} {as' : Array Value} {argsL S : List Value} (X : Stand p l e R s m args below meth c T locs cells slots) (hx : p.tables.exec = Jvm.exec) (hZ : Z.Warmed39 s.vm) (hown : s.vm.findClass own = some m.cls)
    (w1 : (Cond.methodLink own index y).before a0 Z = true) (w2 : (Cond.declares y).before a0 Z = true) (w7 : (Cond.interfaceMethod y.cls y.cls y.name y.desc).before a0 Z = true) (w5 : (Cond.selects C y z).before a0 Z = true) (w6 : (Cond.instanceMethod z).before a0 Z = true) (w8 : (Cond.publicMethod z).before a0 Z = true) (w9 : (Cond.unhidden C y.name y.desc).before a0 Z = true) (w10 : (Cond.castable C y.cls).before a0 Z = true) (w3 : (Cond.initialized z.cls).before a0 Z = true) (w4 : (Cond.code z bytes maxL ret).before a0 Z = true)
    (hy : y.cls ≠ "java/lang/invoke/MethodHandle" ∧ y.cls ≠ "java/lang/invoke/VarHandle") {Q : Option Value → Heap → List Loc → Prop} (hM : Ctr l Z h z bytes maxL ret [] rm as' Q) (eT : T.heap = h) (E : Exa Z h a C) (hsz : Ls.size = c.maxLocals)
    (hd : decode c.code pc = .ok (.invokeinterface index count, 5)) (hlen : ∀ sig, parseMethodDescriptor y.desc = some sig → argsL.length = sig.parameters.length) (hst : S = argsL.reverse ++ .ref a :: rest) (has : (Value.ref a :: argsL).toArray = as')
    {W : Nat} (hW : 2 * 0 + (rest.map fun v => v.category).sum ≤ W) (hf : rm.frames + 1 ≤ R.frames) (hl : W + (maxL + 11) + rm.locals ≤ R.locals) (hc : cells + rm.cells ≤ R.cells) (hs : slots + rm.slots ≤ R.slots)
    (g : ∀ (v : Option Value) (T' : State) (L : List Loc), Stand p l e R s m args below meth c T' (locs ++ L) (cells + rm.cells) (slots + rm.slots) → Q v T'.heap L → Go p e below K (T'.setTop (mkF m (pc + 5) Ls (v.toList ++ rest)))) : Go p e below K (T.setTop (mkF m pc Ls S)) := by
  obtain ⟨cq, kq, q1, q2, q3⟩ := isOf hZ eT E
  obtain ⟨v, _, ⟨T', L', k', n'⟩, -, X', ⟨Lc, hQ, l', y', z'⟩, st⟩ := X.interfaceBack hx (xi := y) (y := z) hown (mvT hZ w1) (mvT hZ w2) (mvT hZ w7 (by simp [Cond.onTables, Cond.keepsFace, Cond.keeps, Cond.steady, Cond.faceAtom]; exact hy)) (mvT hZ w5) (mvT hZ w6) (mvT hZ w8) (mvT hZ w9) (mvT hZ w10) hy (backOf (W := W) (len := 5) hM hZ w4 w3 hf hl) q1 q2 q3 (g := mkF m pc Ls S) rfl hsz (Steps.refl _) (argsL := argsL) (rest := rest) hlen hst hW hd (fun _ _ => ⟨has, eT, hc, hs⟩)
  dsimp only [Pt.U, Pt.locs, Pt.cells, Pt.slots] at X' l' y' z' st hQ
  subst l' y' z'
  exact Go.on st (g v T' Lc X' hQ)
theorem Go.priv {own : String} {index : Nat} {y : MethodName} {bytes : ByteArray} {maxL : Nat} {ret : Option FieldType} {rm : Room} {as' : Array Value} {argsL S : List Value} {C : String} (X : Stand p l e R s m args below meth c T locs cells slots) (hx : p.tables.exec = Jvm.exec) (hZ : Z.Warmed39 s.vm) (hown : s.vm.findClass own = some m.cls)
    (w1 : (Cond.methodLink own index y).before a0 Z = true) (w6 : (Cond.instanceMethod y).before a0 Z = true) (w5 : (Cond.selects y.cls y y).before a0 Z = true) (w7 : (Cond.privateMethod y).before a0 Z = true) (w3 : (Cond.initialized y.cls).before a0 Z = true) (w4 : (Cond.code y bytes maxL ret).before a0 Z = true)
    (hy : y.cls ≠ "java/lang/invoke/MethodHandle" ∧ y.cls ≠ "java/lang/invoke/VarHandle") {Q : Option Value → Heap → List Loc → Prop} (hM : Ctr l Z h y bytes maxL ret [] rm as' Q) (eT : T.heap = h) (E : Exa Z h a C) (hsz : Ls.size = c.maxLocals)
    (hd : decode c.code pc = .ok (.invokevirtual index, 3)) (hlen : ∀ sig, parseMethodDescriptor y.desc = some sig → argsL.length = sig.parameters.length) (hst : S = argsL.reverse ++ .ref a :: rest) (has : (Value.ref a :: argsL).toArray = as')
    {W : Nat} (hW : 2 * 0 + (rest.map fun v => v.category).sum ≤ W) (hf : rm.frames + 1 ≤ R.frames) (hl : W + (maxL + 11) + rm.locals ≤ R.locals) (hc : cells + rm.cells ≤ R.cells) (hs : slots + rm.slots ≤ R.slots)
    (g : ∀ (v : Option Value) (T' : State) (L : List Loc), Stand p l e R s m args below meth c T' (locs ++ L) (cells + rm.cells) (slots + rm.slots) → Q v T'.heap L → Go p e below K (T'.setTop (mkF m (pc + 3) Ls (v.toList ++ rest)))) : Go p e below K (T.setTop (mkF m pc Ls S)) := by
  obtain ⟨cq, q1, q2⟩ := E.cell
  subst eT
  obtain ⟨v, _, ⟨T', L', k', n'⟩, -, X', ⟨Lc, hQ, l', y', z'⟩, st⟩ := X.privateBack hx (y := y) hown (mvT hZ w1) (mvT hZ w6) (mvT hZ w5) (Cond.privateMethod_at (mvP hZ w7 (args := #[]))) (mvT hZ w4) hy (backOf (W := W) hM hZ w4 w3 hf hl) (g := mkF m pc Ls S) rfl hsz (Steps.refl _) (a := a) q1 q2 (argsL := argsL) (rest := rest) hlen hst hW hd (fun _ _ => ⟨has, rfl, hc, hs⟩)
  dsimp only [Pt.U, Pt.locs, Pt.cells, Pt.slots] at X' l' y' z' st hQ
  subst l' y' z'
  exact Go.on st (g v T' Lc X' hQ)
theorem Go.sup {own C : String} {index : Nat} {y : MethodName} {bytes : ByteArray} {maxL : Nat} {ret : Option FieldType} {rm : Room} {as' : Array Value} {argsL S : List Value} (X : Stand p l e R s m args below meth c T locs cells slots) (hx : p.tables.exec = Jvm.exec) (hZ : Z.Warmed39 s.vm) (hown : s.vm.findClass own = some m.cls)
    (w1 : (Cond.methodLink own index y).before a0 Z = true) (w2 : (Cond.sameMethod y.cls y.cls y.name y.desc).before a0 Z = true) (w6 : (Cond.instanceMethod y).before a0 Z = true) (w5 : (Cond.superclass own y.cls).before a0 Z = true) (hn : y.name ≠ "<init>") (w3 : (Cond.initialized y.cls).before a0 Z = true) (w4 : (Cond.code y bytes maxL ret).before a0 Z = true)
    {Q : Option Value → Heap → List Loc → Prop} (hM : Ctr l Z h y bytes maxL ret [] rm as' Q) (eT : T.heap = h) (E : Exa Z h a C) (hsz : Ls.size = c.maxLocals)
    (hd : decode c.code pc = .ok (.invokespecial index, 3)) (hlen : ∀ sig, parseMethodDescriptor y.desc = some sig → argsL.length = sig.parameters.length) (hst : S = argsL.reverse ++ .ref a :: rest) (has : (Value.ref a :: argsL).toArray = as')
    {W : Nat} (hW : 2 * 0 + (rest.map fun v => v.category).sum ≤ W) (hf : rm.frames + 1 ≤ R.frames) (hl : W + (maxL + 11) + rm.locals ≤ R.locals) (hc : cells + rm.cells ≤ R.cells) (hs : slots + rm.slots ≤ R.slots)
    (g : ∀ (v : Option Value) (T' : State) (L : List Loc), Stand p l e R s m args below meth c T' (locs ++ L) (cells + rm.cells) (slots + rm.slots) → Q v T'.heap L → Go p e below K (T'.setTop (mkF m (pc + 3) Ls (v.toList ++ rest)))) : Go p e below K (T.setTop (mkF m pc Ls S)) := by
  obtain ⟨v, _, ⟨T', L', k', n'⟩, -, X', ⟨Lc, hQ, l', y', z'⟩, st⟩ := superBack X hx hZ (y := y) hown w1 w2 w6 w5 hn (backOf (W := W) hM hZ w4 w3 hf hl) eT (Ins.self E) (g := mkF m pc Ls S) rfl hsz w4 (argsL := argsL) (rest := rest) hlen hst hW hd (fun _ _ => ⟨has, eT, hc, hs⟩)
  dsimp only [Pt.U, Pt.locs, Pt.cells, Pt.slots] at X' l' y' z' st hQ
  subst l' y' z'
  exact Go.on st (g v T' Lc X' hQ)
/-! arrays whose components are known -/
variable {cA : ClassId} {ty : FieldType} {z j : Int32} {vs : List Value} {dv : Value}
theorem Go.alen (X : Stand p l e R s m args below meth c T locs cells slots) (hx : p.tables.exec = Jvm.exec) (hZ : Z.Warmed39 s.vm) (eT : T.heap = h) (V : Arv Z h a cA ty z vs dv) (hd : decode c.code pc = .ok (.arraylength, 1))
    (g : Go p e below K (T.setTop (mkF m (pc + 1) Ls (.int z :: rest)))) : Go p e below K (T.setTop (mkF m pc Ls (.ref a :: rest))) := by
  obtain ⟨cl, A, -, S, N, -, -⟩ := V
  subst eT
  refine Go.by (fun t q => X.arraylength hx A.1 (State.isArrayOf_alike hZ.alike A.2.1) (g := mkF m pc Ls (.ref a :: rest)) rfl rfl hd _ q) ?_
  rw [len_of S N]
  exact g
/-- an array of which the length alone is known -/
def Lng (Z : State) (h : Heap) (a : Addr) (n : Int32) : Prop := ∃ (cl : Cell) (ty : FieldType), Arr Z h a cl ty ∧ cl.slots.size = n.toNatClampNeg ∧ ¬ n < 0
theorem Lng.ext (L : Lng Z h a z) (E : Ext h h') : Lng Z h' a z := by obtain ⟨cl, ty, A, r⟩ := L; exact ⟨cl, ty, A.ext E, r⟩
theorem Lng.lt (L : Lng Z h a z) : a < h.size := by obtain ⟨cl, ty, A, r⟩ := L; exact A.lt
theorem Lng.of {cl : Cell} (A : Arr Z h a cl ty) (q : cl.slots.size < 2 ^ 31) (e : cl.slots.size.toInt32 = z) (hz : ¬ z < 0) : Lng Z h a z := by
  refine ⟨cl, ty, A, ?_, hz⟩
  rw [← e]; simp only [Int32.toNatClampNeg, len_toInt q]; rfl
theorem Go.aln (X : Stand p l e R s m args below meth c T locs cells slots) (hx : p.tables.exec = Jvm.exec) (hZ : Z.Warmed39 s.vm) (eT : T.heap = h) (V : Lng Z h a z) (hd : decode c.code pc = .ok (.arraylength, 1))
    (g : Go p e below K (T.setTop (mkF m (pc + 1) Ls (.int z :: rest)))) : Go p e below K (T.setTop (mkF m pc Ls (.ref a :: rest))) := by
  obtain ⟨cl, ty, A, S, N⟩ := V
  subst eT
  refine Go.by (fun t q => X.arraylength hx A.1 (State.isArrayOf_alike hZ.alike A.2.1) (g := mkF m pc Ls (.ref a :: rest)) rfl rfl hd _ q) ?_
  rw [len_of S N]
  exact g
theorem bb (x : Int32) : x.toInt8.toInt32.toInt8.toInt32 = x.toInt8.toInt32 := by simp
theorem Go.bal {v : Value} (X : Stand p l e R s m args below meth c T locs cells slots) (hx : p.tables.exec = Jvm.exec) (hZ : Z.Warmed39 s.vm) (eT : T.heap = h) (V : Arv Z h a cA .byte z vs dv) (hj : ¬ j < 0 ∧ j < z) (hv : vs.getD j.toNatClampNeg dv = v) (hd : decode c.code pc = .ok (.baload, 1))
    (g : Go p e below K (T.setTop (mkF m (pc + 1) Ls (v :: rest)))) : Go p e below K (T.setTop (mkF m pc Ls (.int j :: .ref a :: rest))) := by
  obtain ⟨cl, A, -, S, N, H, -⟩ := V
  subst eT
  have hin := inb_of S hj
  exact Go.by (fun t q => X.baloadBytes hx (j := j) (v := v) A.1 (State.isArrayOf_alike hZ.alike A.2.1) A.2.2 hin (H.at hin hv) (g := mkF m pc Ls (.int j :: .ref a :: rest)) rfl rfl hd _ q) g
theorem Go.cal {v : Value} (X : Stand p l e R s m args below meth c T locs cells slots) (hx : p.tables.exec = Jvm.exec) (hZ : Z.Warmed39 s.vm) (eT : T.heap = h) (V : Arv Z h a cA .char z vs dv) (hj : ¬ j < 0 ∧ j < z) (hv : vs.getD j.toNatClampNeg dv = v) (hd : decode c.code pc = .ok (.caload, 1))
    (g : Go p e below K (T.setTop (mkF m (pc + 1) Ls (v :: rest)))) : Go p e below K (T.setTop (mkF m pc Ls (.int j :: .ref a :: rest))) := by
  obtain ⟨cl, A, -, S, N, H, -⟩ := V
  subst eT
  have hin := inb_of S hj
  exact Go.by (fun t q => X.caload hx (j := j) (v := v) A.1 (State.isArrayOf_alike hZ.alike A.2.1) A.2.2 hin (H.at hin hv) (g := mkF m pc Ls (.int j :: .ref a :: rest)) rfl rfl hd _ q) g
theorem Go.ial {v : Value} (X : Stand p l e R s m args below meth c T locs cells slots) (hx : p.tables.exec = Jvm.exec) (hZ : Z.Warmed39 s.vm) (eT : T.heap = h) (V : Arv Z h a cA .int z vs dv) (hj : ¬ j < 0 ∧ j < z) (hv : vs.getD j.toNatClampNeg dv = v) (hd : decode c.code pc = .ok (.iaload, 1))
    (g : Go p e below K (T.setTop (mkF m (pc + 1) Ls (v :: rest)))) : Go p e below K (T.setTop (mkF m pc Ls (.int j :: .ref a :: rest))) := by
  obtain ⟨cl, A, -, S, N, H, -⟩ := V
  subst eT
  have hin := inb_of S hj
  exact Go.by (fun t q => X.iaload hx (j := j) (v := v) A.1 (State.isArrayOf_alike hZ.alike A.2.1) A.2.2 hin (H.at hin hv) (g := mkF m pc Ls (.int j :: .ref a :: rest)) rfl rfl hd _ q) g
theorem Go.aal {v : Value} (X : Stand p l e R s m args below meth c T locs cells slots) (hx : p.tables.exec = Jvm.exec) (hZ : Z.Warmed39 s.vm) (eT : T.heap = h) (V : Arv Z h a cA ty z vs dv) (hty : ty.isReference = true) (hj : ¬ j < 0 ∧ j < z) (hv : vs.getD j.toNatClampNeg dv = v) (hd : decode c.code pc = .ok (.aaload, 1))
    (g : Go p e below K (T.setTop (mkF m (pc + 1) Ls (v :: rest)))) : Go p e below K (T.setTop (mkF m pc Ls (.int j :: .ref a :: rest))) := by
  obtain ⟨cl, A, -, S, N, H, -⟩ := V
  subst eT
  have hin := inb_of S hj
  exact Go.by (fun t q => X.aaload hx (j := j) (v := v) A.1 (State.isArrayOf_alike hZ.alike A.2.1) hty A.2.2 hin (H.at hin hv) (g := mkF m pc Ls (.int j :: .ref a :: rest)) rfl rfl hd _ q) g
theorem Go.bst {x : Int32} {i : Nat} (X : Stand p l e R s m args below meth c T locs cells slots) (hx : p.tables.exec = Jvm.exec) (hZ : Z.Warmed39 s.vm) (eT : T.heap = h) (V : Arv Z h a cA .byte z vs dv) (hj : ¬ j < 0 ∧ j < z) (hi : j.toNatClampNeg = i) (hl : i < vs.length) (hd : decode c.code pc = .ok (.bastore, 1))
    (g : ∀ (T' : State) (h' : Heap), Stand p l e R s m args below meth c T' (locs ++ [⟨a, j.toNatClampNeg⟩]) cells slots → T'.heap = h' → Wr h h' a j.toNatClampNeg (.int x.toInt8.toInt32) → Arv Z h' a cA .byte z (vs.set i (.int x.toInt8.toInt32)) dv → Go p e below K (T'.setTop (mkF m (pc + 1) Ls rest))) : Go p e below K (T.setTop (mkF m pc Ls (.int x :: .int j :: .ref a :: rest))) := by
  obtain ⟨cl, A, q1, S, N, H, G⟩ := V
  obtain ⟨T', h', X', e', W, st⟩ := stB X hx hZ eT A (j := j) (x := x) (inb_of S hj) (g := mkF m pc Ls (.int x :: .int j :: .ref a :: rest)) rfl rfl hd
  exact Go.by st (g T' h' X' e' W (Arv.set A q1 S N H G (fits_nar_byte _) W i hi hl))
theorem Go.cst {x : Int32} {i : Nat} (X : Stand p l e R s m args below meth c T locs cells slots) (hx : p.tables.exec = Jvm.exec) (hZ : Z.Warmed39 s.vm) (eT : T.heap = h) (V : Arv Z h a cA .char z vs dv) (hj : ¬ j < 0 ∧ j < z) (hi : j.toNatClampNeg = i) (hl : i < vs.length) (hd : decode c.code pc = .ok (.castore, 1))
    (g : ∀ (T' : State) (h' : Heap), Stand p l e R s m args below meth c T' (locs ++ [⟨a, j.toNatClampNeg⟩]) cells slots → T'.heap = h' → Wr h h' a j.toNatClampNeg (.int (nar .char x)) → Arv Z h' a cA .char z (vs.set i (.int (nar .char x))) dv → Go p e below K (T'.setTop (mkF m (pc + 1) Ls rest))) : Go p e below K (T.setTop (mkF m pc Ls (.int x :: .int j :: .ref a :: rest))) := by
  obtain ⟨cl, A, q1, S, N, H, G⟩ := V
  obtain ⟨T', h', X', e', W, st⟩ := stC X hx hZ eT A (j := j) (x := x) (inb_of S hj) (g := mkF m pc Ls (.int x :: .int j :: .ref a :: rest)) rfl rfl hd
  exact Go.by st (g T' h' X' e' W (Arv.set A q1 S N H G (fits_nar_char _) W i hi hl))
theorem Go.ist {x : Int32} {i : Nat} (X : Stand p l e R s m args below meth c T locs cells slots) (hx : p.tables.exec = Jvm.exec) (hZ : Z.Warmed39 s.vm) (eT : T.heap = h) (V : Arv Z h a cA .int z vs dv) (hj : ¬ j < 0 ∧ j < z) (hi : j.toNatClampNeg = i) (hl : i < vs.length) (hd : decode c.code pc = .ok (.iastore, 1))
    (g : ∀ (T' : State) (h' : Heap), Stand p l e R s m args below meth c T' (locs ++ [⟨a, j.toNatClampNeg⟩]) cells slots → T'.heap = h' → Wr h h' a j.toNatClampNeg (.int x) → Arv Z h' a cA .int z (vs.set i (.int x)) dv → Go p e below K (T'.setTop (mkF m (pc + 1) Ls rest))) : Go p e below K (T.setTop (mkF m pc Ls (.int x :: .int j :: .ref a :: rest))) := by
  obtain ⟨cl, A, q1, S, N, H, G⟩ := V
  obtain ⟨T', h', X', e', W, st⟩ := stI X hx hZ eT A (j := j) (x := x) (inb_of S hj) (g := mkF m pc Ls (.int x :: .int j :: .ref a :: rest)) rfl rfl hd
  exact Go.by st (g T' h' X' e' W (Arv.set A q1 S N H G rfl W i hi hl))
/-! from the case's words -/
theorem sta_exa {C f d K : String} (hx : (Cond.exactly (Term.static C f d) K).value args s none s [] = some true) (w1 : (Cond.initialized C).before args s = true) (w2 : (Cond.laysStatic C f d).before args s = true) : ∃ a, (Term.static C f d).eval args s none [] s = some (.ref a) ∧ Sta s s.heap C f d (.ref a) ∧ Exa s s.heap a K := by
  obtain ⟨a, ev⟩ := exa_v hx
  exact ⟨a, ev, Sta.start ev (Or.inr ⟨w1, w2⟩), Exa.start ev hx⟩
theorem fld_int {t : Term} {C f d : String} {z : Int32} (ev : t.eval args s none [] s = some (.ref a)) (hx : (Cond.eq (Term.field t C f d) (Term.int z)).value args s none s [] = some true) : Fld s s.heap a C f d (.int z) := by
  obtain ⟨x, y, e1, e2, k1, k2⟩ := cmp_v (Or.inl hx)
  have e3 : y = .int z := by rw [Term.int_eval] at e2; exact (Option.some.inj e2).symm
  subst e3
  obtain ⟨q, rfl⟩ : ∃ q, x = .int q := k2
  have e4 : q = z := by simpa [Cond.value, e1, e2] using hx
  subst e4
  rw [fld_at ev] at e1
  exact Fld.start e1
theorem eq_int {t : Term} {x z : Int32} (ev : t.eval args s none [] s = some (.int x)) (h : (Cond.eq t (Term.int z)).before args s = true) : x = z := by
  have q := Cond.before_iff.mp h
  simpa [Cond.value, ev, Term.int_eval] using q
theorem fld_ref {t : Term} {C f d : String} (ev : t.eval args s none [] s = some (.ref a)) (ev2 : (Term.field t C f d).eval args s none [] s = some (.ref b)) : Fld s s.heap a C f d (.ref b) := by
  rw [fld_at ev] at ev2; exact Fld.start ev2
theorem fld_null {t : Term} {C f d : String} (ev : t.eval args s none [] s = some (.ref a)) (hx : (Cond.eq (Term.field t C f d) Term.null).value args s none s [] = some true) : Fld s s.heap a C f d .null := by
  have q := null_v hx
  rw [fld_at ev] at q; exact Fld.start q
theorem fld_same {t u : Term} {C f d : String} (ev : t.eval args s none [] s = some (.ref a)) (ev2 : u.eval args s none [] s = some (.ref b)) (hx : (Cond.eq (Term.field t C f d) u).value args s none s [] = some true) : Fld s s.heap a C f d (.ref b) := by
  obtain ⟨x, y, e1, e2, k1, k2⟩ := cmp_v (Or.inl hx)
  cases ev2.symm.trans e2
  have hr : x.isRef = true := by
    have := k2
    simp [Kin] at this
    exact this.2
  rw [eq_R e1 e2 hr rfl] at hx
  have e3 : x = .ref b := by simpa using hx
  subst e3
  exact fld_ref ev e1
theorem elem_int {t : Term} {i v : Int32} {cl : Cell} {ty : FieldType} (ev : t.eval args s none [] s = some (.ref a)) (A : Arr s s.heap a cl ty) (hx : (Cond.eq (Term.elem t (Term.int i)) (Term.int v)).value args s none s [] = some true) : cl.slots[i.toNatClampNeg]? = some (.int v) := by
  obtain ⟨x, y, e1, e2, k1, k2⟩ := cmp_v (Or.inl hx)
  have e3 : y = .int v := by rw [Term.int_eval] at e2; exact (Option.some.inj e2).symm
  subst e3
  obtain ⟨q, rfl⟩ : ∃ q, x = .int q := k2
  have e4 : q = v := eq_int e1 (Cond.before_iff.mpr hx)
  subst e4
  exact (elem_in e1 ev (Term.int_eval _) A.1).2
theorem sta_int {C f d : String} (h0 : (Cond.initializedFor C f d).before args s = true) (h1 : (Cond.isInt (Term.static C f d)).before args s = true) : ∃ x, (Term.static C f d).eval args s none [] s = some (.int x) ∧ Sta s s.heap C f d (.int x) := by
  obtain ⟨x, ev⟩ := is_v (Cond.before_iff.mp h1)
  exact ⟨x, ev, Sta.start ev (Or.inl h0)⟩
theorem sta_ref {C f d : String} (h0 : (Cond.initializedFor C f d).before args s = true) (h1 : (Cond.isRef (Term.static C f d)).before args s = true) : ∃ x, (Term.static C f d).eval args s none [] s = some x ∧ x.isRef = true ∧ Sta s s.heap C f d x := by
  obtain ⟨x, ev, hr⟩ := isR_v (Cond.before_iff.mp h1)
  exact ⟨x, ev, hr, Sta.start ev (Or.inl h0)⟩
theorem ne_int {t : Term} {x z : Int32} (ev : t.eval args s none [] s = some (.int x)) (h : (Cond.not (Cond.eq t (Term.int z))).before args s = true) : ¬ x = z := by
  have q := not_v (Cond.before_iff.mp h)
  intro e; subst e
  rw [eq_i ev (Term.int_eval _) rfl] at q
  cases q
/-! a class whose superclasses are named is not one that can be instantiated and isn't among them -/
theorem ns_root {O D : String} {nn : Nat} (w : (Cond.noSuperclass O).before a0 Z = true) (wk : (Cond.instantiable D nn).before a0 Z = true) (hn : O ≠ D) : NS Z O D := by
  obtain ⟨c1, k1, q1, q2, q3, -, -⟩ := Cond.noSuperclass_spec w
  obtain ⟨t, -, g1, -⟩ := Cond.instantiable_spec wk
  refine ⟨c1, t, q1, g1, fun fuel => ?_⟩
  have ne := ids_ne q1 g1 hn
  cases fuel <;> simp [Vm.isSubclassAux, ne, q2, q3]
theorem ns_no {C S D : String} {nn : Nat} (w : (Cond.superclass C S).before a0 Z = true) (wk : (Cond.instantiable D nn).before a0 Z = true) (n : NS Z C D) (hn : C ≠ D) : ∃ c t, Z.vm.findClass C = some c ∧ Z.vm.findClass D = some t ∧ Z.vm.assignable c t = false := by
  obtain ⟨c1, t, q0, g0, n3⟩ := n
  obtain ⟨p1, k1, kp, q1, q2, q3, q4, q5, -, q7⟩ := Cond.superclass_spec q0 w
  obtain ⟨t', k2, g1, g2, g3, g4, -⟩ := Cond.instantiable_spec wk
  cases g0.symm.trans g1
  have ne := ids_ne q0 g0 hn
  have g5 : k2.isInterface = false := by simpa using (Bool.or_eq_false_iff.mp g4).1
  refine ⟨c1, t, q0, g0, ?_⟩
  show Z.vm.assignableAux (255 + 1) c1 t = false
  simp [Vm.assignableAux, ne, q2, g2, q5, g3, g5, Vm.isSubclass, n3]
end Own
end Jvm.RoadKit
namespace Jvm.RoadKit
open Sem ClassFile Op Lib Jvm.Stand Jvm.Free Jvm.LawKit
section OwnSteps
variable {p : Program} {l : Launch} {e : Env} {R : Room} {s : State} {m : MethodId} {args : Array Value} {below : List Frame} {meth : Method} {c : Code} {T : State} {locs : List Loc} {cells slots : Nat} {K : State → Outcome → Prop} {pc q : Nat} {Ls l' : Array Slot} {S : List Value}
theorem Go.iloadN {k : Fin 4} {v : Int32} (X : Stand p l e R s m args below meth c T locs cells slots) (hx : p.tables.exec = Jvm.exec) (hd : decode c.code pc = .ok (.iload_n k, 1)) (hl : Ls[k.val]? = some (.val (.int v))) (hp : pc + 1 = q) (g : Go p e below K (T.setTop (mkF m q Ls (.int v :: S)))) : Go p e below K (T.setTop (mkF m pc Ls S)) := by
  subst hp
  exact Go.by (fun t z => XS.iloadN X.here hx rfl hd hl z) g
theorem Go.iload {k : Nat} {v : Int32} (X : Stand p l e R s m args below meth c T locs cells slots) (hx : p.tables.exec = Jvm.exec) (hd : decode c.code pc = .ok (.iload k, 2)) (hl : Ls[k]? = some (.val (.int v))) (hp : pc + 2 = q) (g : Go p e below K (T.setTop (mkF m q Ls (.int v :: S)))) : Go p e below K (T.setTop (mkF m pc Ls S)) := by
  subst hp
  exact Go.by (fun t z => XS.iload X.here hx rfl hd hl z) g
theorem Go.istoreN {k : Fin 4} {v : Int32} (X : Stand p l e R s m args below meth c T locs cells slots) (hx : p.tables.exec = Jvm.exec) (hd : decode c.code pc = .ok (.istore_n k, 1)) (hl : storeLocals Ls k.val (.int v) = some l') (hp : pc + 1 = q) (g : Go p e below K (T.setTop (mkF m q l' S))) : Go p e below K (T.setTop (mkF m pc Ls (.int v :: S))) := by
  subst hp
  exact Go.by (fun t z => XS.istoreN X.here hx rfl hd rfl hl z) g
theorem Go.istore {k : Nat} {v : Int32} (X : Stand p l e R s m args below meth c T locs cells slots) (hx : p.tables.exec = Jvm.exec) (hd : decode c.code pc = .ok (.istore k, 2)) (hl : storeLocals Ls k (.int v) = some l') (hp : pc + 2 = q) (g : Go p e below K (T.setTop (mkF m q l' S))) : Go p e below K (T.setTop (mkF m pc Ls (.int v :: S))) := by
  subst hp
  exact Go.by (fun t z => XS.istore X.here hx rfl hd rfl hl z) g
theorem Go.lloadN {k : Fin 4} {v : Int64} (X : Stand p l e R s m args below meth c T locs cells slots) (hx : p.tables.exec = Jvm.exec) (hd : decode c.code pc = .ok (.lload_n k, 1)) (hl : Ls[k.val]? = some (.val (.long v))) (hp : pc + 1 = q) (g : Go p e below K (T.setTop (mkF m q Ls (.long v :: S)))) : Go p e below K (T.setTop (mkF m pc Ls S)) := by
  subst hp
  exact Go.by (fun t z => XS.lloadN X.here hx rfl hd hl z) g
theorem Go.lload {k : Nat} {v : Int64} (X : Stand p l e R s m args below meth c T locs cells slots) (hx : p.tables.exec = Jvm.exec) (hd : decode c.code pc = .ok (.lload k, 2)) (hl : Ls[k]? = some (.val (.long v))) (hp : pc + 2 = q) (g : Go p e below K (T.setTop (mkF m q Ls (.long v :: S)))) : Go p e below K (T.setTop (mkF m pc Ls S)) := by
  subst hp
  exact Go.by (fun t z => XS.lload X.here hx rfl hd hl z) g
theorem Go.lstoreN {k : Fin 4} {v : Int64} (X : Stand p l e R s m args below meth c T locs cells slots) (hx : p.tables.exec = Jvm.exec) (hd : decode c.code pc = .ok (.lstore_n k, 1)) (hl : storeLocals Ls k.val (.long v) = some l') (hp : pc + 1 = q) (g : Go p e below K (T.setTop (mkF m q l' S))) : Go p e below K (T.setTop (mkF m pc Ls (.long v :: S))) := by
  subst hp
  exact Go.by (fun t z => XS.lstoreN X.here hx rfl hd rfl hl z) g
theorem Go.lstore {k : Nat} {v : Int64} (X : Stand p l e R s m args below meth c T locs cells slots) (hx : p.tables.exec = Jvm.exec) (hd : decode c.code pc = .ok (.lstore k, 2)) (hl : storeLocals Ls k (.long v) = some l') (hp : pc + 2 = q) (g : Go p e below K (T.setTop (mkF m q l' S))) : Go p e below K (T.setTop (mkF m pc Ls (.long v :: S))) := by
  subst hp
  exact Go.by (fun t z => XS.lstore X.here hx rfl hd rfl hl z) g
theorem Go.aloadN {k : Fin 4} {v : Value} (X : Stand p l e R s m args below meth c T locs cells slots) (hx : p.tables.exec = Jvm.exec) (hd : decode c.code pc = .ok (.aload_n k, 1)) (hl : Ls[k.val]? = some (.val v)) (hv : v.isRef = true) (hp : pc + 1 = q) (g : Go p e below K (T.setTop (mkF m q Ls (v :: S)))) : Go p e below K (T.setTop (mkF m pc Ls S)) := by
  subst hp
  exact Go.by (fun t z => XS.aloadN X.here hx rfl hd hl hv z) g
theorem Go.aload {k : Nat} {v : Value} (X : Stand p l e R s m args below meth c T locs cells slots) (hx : p.tables.exec = Jvm.exec) (hd : decode c.code pc = .ok (.aload k, 2)) (hl : Ls[k]? = some (.val v)) (hv : v.isRef = true) (hp : pc + 2 = q) (g : Go p e below K (T.setTop (mkF m q Ls (v :: S)))) : Go p e below K (T.setTop (mkF m pc Ls S)) := by
  subst hp
  exact Go.by (fun t z => XS.aload X.here hx rfl hd hl hv z) g
theorem Go.astoreN {k : Fin 4} {v : Value} (X : Stand p l e R s m args below meth c T locs cells slots) (hx : p.tables.exec = Jvm.exec) (hd : decode c.code pc = .ok (.astore_n k, 1)) (hv : v.isRef = true) (hl : storeLocals Ls k.val v = some l') (hp : pc + 1 = q) (g : Go p e below K (T.setTop (mkF m q l' S))) : Go p e below K (T.setTop (mkF m pc Ls (v :: S))) := by
  subst hp
  exact Go.by (fun t z => XS.astoreN X.here hx rfl hd rfl hv hl z) g
theorem Go.astore {k : Nat} {v : Value} (X : Stand p l e R s m args below meth c T locs cells slots) (hx : p.tables.exec = Jvm.exec) (hd : decode c.code pc = .ok (.astore k, 2)) (hv : v.isRef = true) (hl : storeLocals Ls k v = some l') (hp : pc + 2 = q) (g : Go p e below K (T.setTop (mkF m q l' S))) : Go p e below K (T.setTop (mkF m pc Ls (v :: S))) := by
  subst hp
  exact Go.by (fun t z => XS.astore X.here hx rfl hd rfl hv hl z) g
theorem Go.iconst {i : Int} {r : Int32} (X : Stand p l e R s m args below meth c T locs cells slots) (hx : p.tables.exec = Jvm.exec) (hd : decode c.code pc = .ok (.iconst i, 1)) (hr : Int32.ofInt i = r) (hp : pc + 1 = q) (g : Go p e below K (T.setTop (mkF m q Ls (.int r :: S)))) : Go p e below K (T.setTop (mkF m pc Ls S)) := by
  subst hp hr
  exact Go.by (fun t z => XS.iconst X.here hx rfl hd z) g
theorem Go.bipush {i : Int} {r : Int32} (X : Stand p l e R s m args below meth c T locs cells slots) (hx : p.tables.exec = Jvm.exec) (hd : decode c.code pc = .ok (.bipush i, 2)) (hr : (Int8.ofInt i).toInt32 = r) (hp : pc + 2 = q) (g : Go p e below K (T.setTop (mkF m q Ls (.int r :: S)))) : Go p e below K (T.setTop (mkF m pc Ls S)) := by
  subst hp hr
  exact Go.by (fun t z => XS.bipush X.here hx rfl hd z) g
theorem Go.sipush {i : Int} {r : Int32} (X : Stand p l e R s m args below meth c T locs cells slots) (hx : p.tables.exec = Jvm.exec) (hd : decode c.code pc = .ok (.sipush i, 3)) (hr : (Int16.ofInt i).toInt32 = r) (hp : pc + 3 = q) (g : Go p e below K (T.setTop (mkF m q Ls (.int r :: S)))) : Go p e below K (T.setTop (mkF m pc Ls S)) := by
  subst hp hr
  exact Go.by (fun t z => XS.sipush X.here hx rfl hd z) g
theorem Go.lconst {k : Fin 2} {r : Int64} (X : Stand p l e R s m args below meth c T locs cells slots) (hx : p.tables.exec = Jvm.exec) (hd : decode c.code pc = .ok (.lconst k, 1)) (hr : Int64.ofNat k = r) (hp : pc + 1 = q) (g : Go p e below K (T.setTop (mkF m q Ls (.long r :: S)))) : Go p e below K (T.setTop (mkF m pc Ls S)) := by
  subst hp hr
  exact Go.by (fun t z => XS.lconst X.here hx rfl hd z) g
theorem Go.aconst_null  (X : Stand p l e R s m args below meth c T locs cells slots) (hx : p.tables.exec = Jvm.exec) (hd : decode c.code pc = .ok (.aconst_null, 1)) (hp : pc + 1 = q) (g : Go p e below K (T.setTop (mkF m q Ls (.null :: S)))) : Go p e below K (T.setTop (mkF m pc Ls S)) := by
  subst hp
  exact Go.by (fun t z => XS.aconstNull X.here hx rfl hd z) g
theorem Go.iadd {x y r : Int32} (X : Stand p l e R s m args below meth c T locs cells slots) (hx : p.tables.exec = Jvm.exec) (hd : decode c.code pc = .ok (.iadd, 1)) (hr : x + y = r) (hp : pc + 1 = q) (g : Go p e below K (T.setTop (mkF m q Ls (.int r :: S)))) : Go p e below K (T.setTop (mkF m pc Ls (.int y :: .int x :: S))) := by
  subst hp hr
  exact Go.by (fun t z => XS.iadd X.here hx rfl hd rfl z) g
theorem Go.ladd {x y r : Int64} (X : Stand p l e R s m args below meth c T locs cells slots) (hx : p.tables.exec = Jvm.exec) (hd : decode c.code pc = .ok (.ladd, 1)) (hr : x + y = r) (hp : pc + 1 = q) (g : Go p e below K (T.setTop (mkF m q Ls (.long r :: S)))) : Go p e below K (T.setTop (mkF m pc Ls (.long y :: .long x :: S))) := by
  subst hp hr
  exact Go.by (fun t z => XS.ladd X.here hx rfl hd rfl z) g
theorem Go.isub {x y r : Int32} (X : Stand p l e R s m args below meth c T locs cells slots) (hx : p.tables.exec = Jvm.exec) (hd : decode c.code pc = .ok (.isub, 1)) (hr : x - y = r) (hp : pc + 1 = q) (g : Go p e below K (T.setTop (mkF m q Ls (.int r :: S)))) : Go p e below K (T.setTop (mkF m pc Ls (.int y :: .int x :: S))) := by
  subst hp hr
  exact Go.by (fun t z => XS.isub X.here hx rfl hd rfl z) g
theorem Go.lsub {x y r : Int64} (X : Stand p l e R s m args below meth c T locs cells slots) (hx : p.tables.exec = Jvm.exec) (hd : decode c.code pc = .ok (.lsub, 1)) (hr : x - y = r) (hp : pc + 1 = q) (g : Go p e below K (T.setTop (mkF m q Ls (.long r :: S)))) : Go p e below K (T.setTop (mkF m pc Ls (.long y :: .long x :: S))) := by
  subst hp hr
  exact Go.by (fun t z => XS.lsub X.here hx rfl hd rfl z) g
theorem Go.imul {x y r : Int32} (X : Stand p l e R s m args below meth c T locs cells slots) (hx : p.tables.exec = Jvm.exec) (hd : decode c.code pc = .ok (.imul, 1)) (hr : x * y = r) (hp : pc + 1 = q) (g : Go p e below K (T.setTop (mkF m q Ls (.int r :: S)))) : Go p e below K (T.setTop (mkF m pc Ls (.int y :: .int x :: S))) := by
  subst hp hr
  exact Go.by (fun t z => XS.imul X.here hx rfl hd rfl z) g
theorem Go.lmul {x y r : Int64} (X : Stand p l e R s m args below meth c T locs cells slots) (hx : p.tables.exec = Jvm.exec) (hd : decode c.code pc = .ok (.lmul, 1)) (hr : x * y = r) (hp : pc + 1 = q) (g : Go p e below K (T.setTop (mkF m q Ls (.long r :: S)))) : Go p e below K (T.setTop (mkF m pc Ls (.long y :: .long x :: S))) := by
  subst hp hr
  exact Go.by (fun t z => XS.lmul X.here hx rfl hd rfl z) g
theorem Go.iand {x y r : Int32} (X : Stand p l e R s m args below meth c T locs cells slots) (hx : p.tables.exec = Jvm.exec) (hd : decode c.code pc = .ok (.iand, 1)) (hr : x &&& y = r) (hp : pc + 1 = q) (g : Go p e below K (T.setTop (mkF m q Ls (.int r :: S)))) : Go p e below K (T.setTop (mkF m pc Ls (.int y :: .int x :: S))) := by
  subst hp hr
  exact Go.by (fun t z => XS.iand X.here hx rfl hd rfl z) g
theorem Go.land {x y r : Int64} (X : Stand p l e R s m args below meth c T locs cells slots) (hx : p.tables.exec = Jvm.exec) (hd : decode c.code pc = .ok (.land, 1)) (hr : x &&& y = r) (hp : pc + 1 = q) (g : Go p e below K (T.setTop (mkF m q Ls (.long r :: S)))) : Go p e below K (T.setTop (mkF m pc Ls (.long y :: .long x :: S))) := by
  subst hp hr
  exact Go.by (fun t z => XS.land X.here hx rfl hd rfl z) g
theorem Go.ior {x y r : Int32} (X : Stand p l e R s m args below meth c T locs cells slots) (hx : p.tables.exec = Jvm.exec) (hd : decode c.code pc = .ok (.ior, 1)) (hr : x ||| y = r) (hp : pc + 1 = q) (g : Go p e below K (T.setTop (mkF m q Ls (.int r :: S)))) : Go p e below K (T.setTop (mkF m pc Ls (.int y :: .int x :: S))) := by
  subst hp hr
  exact Go.by (fun t z => XS.ior X.here hx rfl hd rfl z) g
theorem Go.lor {x y r : Int64} (X : Stand p l e R s m args below meth c T locs cells slots) (hx : p.tables.exec = Jvm.exec) (hd : decode c.code pc = .ok (.lor, 1)) (hr : x ||| y = r) (hp : pc + 1 = q) (g : Go p e below K (T.setTop (mkF m q Ls (.long r :: S)))) : Go p e below K (T.setTop (mkF m pc Ls (.long y :: .long x :: S))) := by
  subst hp hr
  exact Go.by (fun t z => XS.lor X.here hx rfl hd rfl z) g
theorem Go.ixor {x y r : Int32} (X : Stand p l e R s m args below meth c T locs cells slots) (hx : p.tables.exec = Jvm.exec) (hd : decode c.code pc = .ok (.ixor, 1)) (hr : x ^^^ y = r) (hp : pc + 1 = q) (g : Go p e below K (T.setTop (mkF m q Ls (.int r :: S)))) : Go p e below K (T.setTop (mkF m pc Ls (.int y :: .int x :: S))) := by
  subst hp hr
  exact Go.by (fun t z => XS.ixor X.here hx rfl hd rfl z) g
theorem Go.lxor {x y r : Int64} (X : Stand p l e R s m args below meth c T locs cells slots) (hx : p.tables.exec = Jvm.exec) (hd : decode c.code pc = .ok (.lxor, 1)) (hr : x ^^^ y = r) (hp : pc + 1 = q) (g : Go p e below K (T.setTop (mkF m q Ls (.long r :: S)))) : Go p e below K (T.setTop (mkF m pc Ls (.long y :: .long x :: S))) := by
  subst hp hr
  exact Go.by (fun t z => XS.lxor X.here hx rfl hd rfl z) g
theorem Go.idiv {x y r : Int32} (X : Stand p l e R s m args below meth c T locs cells slots) (hx : p.tables.exec = Jvm.exec) (hd : decode c.code pc = .ok (.idiv, 1)) (hy : y ≠ 0) (hr : x / y = r) (hp : pc + 1 = q) (g : Go p e below K (T.setTop (mkF m q Ls (.int r :: S)))) : Go p e below K (T.setTop (mkF m pc Ls (.int y :: .int x :: S))) := by
  subst hp hr
  exact Go.by (fun t z => XS.idiv X.here hx rfl hd rfl hy z) g
theorem Go.ineg {x r : Int32} (X : Stand p l e R s m args below meth c T locs cells slots) (hx : p.tables.exec = Jvm.exec) (hd : decode c.code pc = .ok (.ineg, 1)) (hr : -x = r) (hp : pc + 1 = q) (g : Go p e below K (T.setTop (mkF m q Ls (.int r :: S)))) : Go p e below K (T.setTop (mkF m pc Ls (.int x :: S))) := by
  subst hp hr
  exact Go.by (fun t z => XS.ineg X.here hx rfl hd rfl z) g
theorem Go.ldiv {x y r : Int64} (X : Stand p l e R s m args below meth c T locs cells slots) (hx : p.tables.exec = Jvm.exec) (hd : decode c.code pc = .ok (.ldiv, 1)) (hy : y ≠ 0) (hr : x / y = r) (hp : pc + 1 = q) (g : Go p e below K (T.setTop (mkF m q Ls (.long r :: S)))) : Go p e below K (T.setTop (mkF m pc Ls (.long y :: .long x :: S))) := by
  subst hp hr
  exact Go.by (fun t z => XS.ldiv X.here hx rfl hd rfl hy z) g
theorem Go.lneg {x r : Int64} (X : Stand p l e R s m args below meth c T locs cells slots) (hx : p.tables.exec = Jvm.exec) (hd : decode c.code pc = .ok (.lneg, 1)) (hr : -x = r) (hp : pc + 1 = q) (g : Go p e below K (T.setTop (mkF m q Ls (.long r :: S)))) : Go p e below K (T.setTop (mkF m pc Ls (.long x :: S))) := by
  subst hp hr
  exact Go.by (fun t z => XS.lneg X.here hx rfl hd rfl z) g
theorem Go.irem {x y r : Int32} (X : Stand p l e R s m args below meth c T locs cells slots) (hx : p.tables.exec = Jvm.exec) (hd : decode c.code pc = .ok (.irem, 1)) (hy : y ≠ 0) (hr : x % y = r) (hp : pc + 1 = q) (g : Go p e below K (T.setTop (mkF m q Ls (.int r :: S)))) : Go p e below K (T.setTop (mkF m pc Ls (.int y :: .int x :: S))) := by
  subst hp hr
  exact Go.by (fun t z => iremM X hx (g := mkF m pc Ls (.int y :: .int x :: S)) rfl hd rfl hy z) g
theorem Go.lrem {x y r : Int64} (X : Stand p l e R s m args below meth c T locs cells slots) (hx : p.tables.exec = Jvm.exec) (hd : decode c.code pc = .ok (.lrem, 1)) (hy : y ≠ 0) (hr : x - (x / y) * y = r) (hp : pc + 1 = q) (g : Go p e below K (T.setTop (mkF m q Ls (.long r :: S)))) : Go p e below K (T.setTop (mkF m pc Ls (.long y :: .long x :: S))) := by
  subst hp hr
  exact Go.by (fun t z => XS.lrem X.here hx rfl hd rfl hy z) g
theorem Go.ishl {x y r : Int32} (X : Stand p l e R s m args below meth c T locs cells slots) (hx : p.tables.exec = Jvm.exec) (hd : decode c.code pc = .ok (.ishl, 1)) (hr : x <<< (y &&& 31) = r) (hp : pc + 1 = q) (g : Go p e below K (T.setTop (mkF m q Ls (.int r :: S)))) : Go p e below K (T.setTop (mkF m pc Ls (.int y :: .int x :: S))) := by
  subst hp hr
  exact Go.by (fun t z => XS.ishl X.here hx rfl hd rfl z) g
theorem Go.ishr {x y r : Int32} (X : Stand p l e R s m args below meth c T locs cells slots) (hx : p.tables.exec = Jvm.exec) (hd : decode c.code pc = .ok (.ishr, 1)) (hr : x >>> (y &&& 31) = r) (hp : pc + 1 = q) (g : Go p e below K (T.setTop (mkF m q Ls (.int r :: S)))) : Go p e below K (T.setTop (mkF m pc Ls (.int y :: .int x :: S))) := by
  subst hp hr
  exact Go.by (fun t z => XS.ishr X.here hx rfl hd rfl z) g
theorem Go.iushr {x y r : Int32} (X : Stand p l e R s m args below meth c T locs cells slots) (hx : p.tables.exec = Jvm.exec) (hd : decode c.code pc = .ok (.iushr, 1)) (hr : (x.toUInt32 >>> (y &&& 31).toUInt32).toInt32 = r) (hp : pc + 1 = q) (g : Go p e below K (T.setTop (mkF m q Ls (.int r :: S)))) : Go p e below K (T.setTop (mkF m pc Ls (.int y :: .int x :: S))) := by
  subst hp hr
  exact Go.by (fun t z => XS.iushr X.here hx rfl hd rfl z) g
theorem Go.lshl {x : Int64} {y : Int32} {r : Int64} (X : Stand p l e R s m args below meth c T locs cells slots) (hx : p.tables.exec = Jvm.exec) (hd : decode c.code pc = .ok (.lshl, 1)) (hr : x <<< (y &&& 0x3f).toInt64 = r) (hp : pc + 1 = q) (g : Go p e below K (T.setTop (mkF m q Ls (.long r :: S)))) : Go p e below K (T.setTop (mkF m pc Ls (.int y :: .long x :: S))) := by
  subst hp hr
  exact Go.by (fun t z => XS.lshl X.here hx rfl hd rfl z) g
theorem Go.lshr {x : Int64} {y : Int32} {r : Int64} (X : Stand p l e R s m args below meth c T locs cells slots) (hx : p.tables.exec = Jvm.exec) (hd : decode c.code pc = .ok (.lshr, 1)) (hr : x >>> (y &&& 0x3f).toInt64 = r) (hp : pc + 1 = q) (g : Go p e below K (T.setTop (mkF m q Ls (.long r :: S)))) : Go p e below K (T.setTop (mkF m pc Ls (.int y :: .long x :: S))) := by
  subst hp hr
  exact Go.by (fun t z => XS.lshr X.here hx rfl hd rfl z) g
theorem Go.lushr {x : Int64} {y : Int32} {r : Int64} (X : Stand p l e R s m args below meth c T locs cells slots) (hx : p.tables.exec = Jvm.exec) (hd : decode c.code pc = .ok (.lushr, 1)) (hr : (x.toUInt64 >>> (y &&& 0x3f).toInt64.toUInt64).toInt64 = r) (hp : pc + 1 = q) (g : Go p e below K (T.setTop (mkF m q Ls (.long r :: S)))) : Go p e below K (T.setTop (mkF m pc Ls (.int y :: .long x :: S))) := by
  subst hp hr
  exact Go.by (fun t z => XS.lushr X.here hx rfl hd rfl z) g
theorem Go.i2b {x : Int32} {r : Int32} (X : Stand p l e R s m args below meth c T locs cells slots) (hx : p.tables.exec = Jvm.exec) (hd : decode c.code pc = .ok (.i2b, 1)) (hr : x.toInt8.toInt32 = r) (hp : pc + 1 = q) (g : Go p e below K (T.setTop (mkF m q Ls (.int r :: S)))) : Go p e below K (T.setTop (mkF m pc Ls (.int x :: S))) := by
  subst hp hr
  exact Go.by (fun t z => XS.i2b X.here hx rfl hd rfl z) g
theorem Go.i2c {x : Int32} {r : Int32} (X : Stand p l e R s m args below meth c T locs cells slots) (hx : p.tables.exec = Jvm.exec) (hd : decode c.code pc = .ok (.i2c, 1)) (hr : x.toUInt32.toUInt16.toUInt32.toInt32 = r) (hp : pc + 1 = q) (g : Go p e below K (T.setTop (mkF m q Ls (.int r :: S)))) : Go p e below K (T.setTop (mkF m pc Ls (.int x :: S))) := by
  subst hp hr
  exact Go.by (fun t z => XS.i2c X.here hx rfl hd rfl z) g
theorem Go.i2s {x : Int32} {r : Int32} (X : Stand p l e R s m args below meth c T locs cells slots) (hx : p.tables.exec = Jvm.exec) (hd : decode c.code pc = .ok (.i2s, 1)) (hr : x.toInt16.toInt32 = r) (hp : pc + 1 = q) (g : Go p e below K (T.setTop (mkF m q Ls (.int r :: S)))) : Go p e below K (T.setTop (mkF m pc Ls (.int x :: S))) := by
  subst hp hr
  exact Go.by (fun t z => XS.i2s X.here hx rfl hd rfl z) g
theorem Go.i2l {x : Int32} {r : Int64} (X : Stand p l e R s m args below meth c T locs cells slots) (hx : p.tables.exec = Jvm.exec) (hd : decode c.code pc = .ok (.i2l, 1)) (hr : x.toInt64 = r) (hp : pc + 1 = q) (g : Go p e below K (T.setTop (mkF m q Ls (.long r :: S)))) : Go p e below K (T.setTop (mkF m pc Ls (.int x :: S))) := by
  subst hp hr
  exact Go.by (fun t z => XS.i2l X.here hx rfl hd rfl z) g
theorem Go.l2i {x : Int64} {r : Int32} (X : Stand p l e R s m args below meth c T locs cells slots) (hx : p.tables.exec = Jvm.exec) (hd : decode c.code pc = .ok (.l2i, 1)) (hr : x.toInt32 = r) (hp : pc + 1 = q) (g : Go p e below K (T.setTop (mkF m q Ls (.int r :: S)))) : Go p e below K (T.setTop (mkF m pc Ls (.long x :: S))) := by
  subst hp hr
  exact Go.by (fun t z => XS.l2i X.here hx rfl hd rfl z) g
theorem Go.lcmp {x y : Int64} {r : Int32} (X : Stand p l e R s m args below meth c T locs cells slots) (hx : p.tables.exec = Jvm.exec) (hd : decode c.code pc = .ok (.lcmp, 1)) (hr : Jvm.Free.XT.cmpL x y = r) (hp : pc + 1 = q) (g : Go p e below K (T.setTop (mkF m q Ls (.int r :: S)))) : Go p e below K (T.setTop (mkF m pc Ls (.long y :: .long x :: S))) := by
  subst hp hr
  exact Go.by (fun t z => XS.lcmp X.here hx rfl hd rfl z) g
theorem Go.iinc {k : Nat} {cst : Int} {x r : Int32} (X : Stand p l e R s m args below meth c T locs cells slots) (hx : p.tables.exec = Jvm.exec) (hd : decode c.code pc = .ok (.iinc k cst, 3)) (hl : Ls[k]? = some (.val (.int x))) (hr : x + Int32.ofInt cst = r) (hl' : storeLocals Ls k (.int r) = some l') (hp : pc + 3 = q) (g : Go p e below K (T.setTop (mkF m q l' S))) : Go p e below K (T.setTop (mkF m pc Ls S)) := by
  subst hp hr
  exact Go.by (fun t z => XS.iinc X.here hx rfl hd hl hl' z) g
theorem Go.dup {x : Value} (X : Stand p l e R s m args below meth c T locs cells slots) (hx : p.tables.exec = Jvm.exec) (hd : decode c.code pc = .ok (.dup, 1)) (hc : x.category = 1) (hp : pc + 1 = q) (g : Go p e below K (T.setTop (mkF m q Ls (x :: x :: S)))) : Go p e below K (T.setTop (mkF m pc Ls (x :: S))) := by
  subst hp
  exact Go.by (fun t z => XS.dup X.here hx rfl hd rfl hc z) g
theorem Go.dup_x1 {x y : Value} (X : Stand p l e R s m args below meth c T locs cells slots) (hx : p.tables.exec = Jvm.exec) (hd : decode c.code pc = .ok (.dup_x1, 1)) (hc : x.category = 1) (hc2 : y.category = 1) (hp : pc + 1 = q) (g : Go p e below K (T.setTop (mkF m q Ls (x :: y :: x :: S)))) : Go p e below K (T.setTop (mkF m pc Ls (x :: y :: S))) := by
  subst hp
  exact Go.by (fun t z => XS.dupX1 X.here hx rfl hd rfl hc hc2 z) g
theorem Go.swap {x y : Value} (X : Stand p l e R s m args below meth c T locs cells slots) (hx : p.tables.exec = Jvm.exec) (hd : decode c.code pc = .ok (.swap, 1)) (hc : x.category = 1) (hc2 : y.category = 1) (hp : pc + 1 = q) (g : Go p e below K (T.setTop (mkF m q Ls (y :: x :: S)))) : Go p e below K (T.setTop (mkF m pc Ls (x :: y :: S))) := by
  subst hp
  exact Go.by (fun t z => XS.swap X.here hx rfl hd rfl hc hc2 z) g
theorem Go.pop {x : Value} (X : Stand p l e R s m args below meth c T locs cells slots) (hx : p.tables.exec = Jvm.exec) (hd : decode c.code pc = .ok (.pop, 1)) (hc : x.category = 1) (hp : pc + 1 = q) (g : Go p e below K (T.setTop (mkF m q Ls S))) : Go p e below K (T.setTop (mkF m pc Ls (x :: S))) := by
  subst hp
  exact Go.by (fun t z => XS.pop X.here hx rfl hd rfl hc z) g
theorem Go.goto  {o : Int} (X : Stand p l e R s m args below meth c T locs cells slots) (hx : p.tables.exec = Jvm.exec) (hd : decode c.code pc = .ok (.goto o, 3)) (ho : 0 ≤ (pc : Int) + o) (hp : ((pc : Int) + o).toNat = q) (g : Go p e below K (T.setTop (mkF m q Ls S))) : Go p e below K (T.setTop (mkF m pc Ls S)) :=
  Go.by (fun t z => XS.goto X.here hx rfl (pc0 := pc) rfl hd ho hp z) g
theorem Go.ifYes {cd : ClassFile.Cond} {x : Int32} {o : Int} (X : Stand p l e R s m args below meth c T locs cells slots) (hx : p.tables.exec = Jvm.exec) (hd : decode c.code pc = .ok (.ifCond cd o, 3)) (hc : ifCond.holds cd x = true) (ho : 0 ≤ (pc : Int) + o) (hp : ((pc : Int) + o).toNat = q) (g : Go p e below K (T.setTop (mkF m q Ls S))) : Go p e below K (T.setTop (mkF m pc Ls (.int x :: S))) :=
  Go.by (fun t z => XS.ifYes X.here hx rfl (pc0 := pc) rfl hd rfl hc ho hp z) g
theorem Go.icmpYes {cd : ClassFile.Cond} {x y : Int32} {o : Int} (X : Stand p l e R s m args below meth c T locs cells slots) (hx : p.tables.exec = Jvm.exec) (hd : decode c.code pc = .ok (.if_icmp cd o, 3)) (hc : if_icmp.holds cd x y = true) (ho : 0 ≤ (pc : Int) + o) (hp : ((pc : Int) + o).toNat = q) (g : Go p e below K (T.setTop (mkF m q Ls S))) : Go p e below K (T.setTop (mkF m pc Ls (.int y :: .int x :: S))) :=
  Go.by (fun t z => XS.icmpYes X.here hx rfl (pc0 := pc) rfl hd rfl hc ho hp z) g
theorem Go.ifnullYes  {o : Int} (X : Stand p l e R s m args below meth c T locs cells slots) (hx : p.tables.exec = Jvm.exec) (hd : decode c.code pc = .ok (.ifnull o, 3)) (ho : 0 ≤ (pc : Int) + o) (hp : ((pc : Int) + o).toNat = q) (g : Go p e below K (T.setTop (mkF m q Ls S))) : Go p e below K (T.setTop (mkF m pc Ls (.null :: S))) :=
  Go.by (fun t z => XS.ifnullYes X.here hx rfl (pc0 := pc) rfl hd rfl ho hp z) g
theorem Go.ifnonnullYes {b : Addr} {o : Int} (X : Stand p l e R s m args below meth c T locs cells slots) (hx : p.tables.exec = Jvm.exec) (hd : decode c.code pc = .ok (.ifnonnull o, 3)) (ho : 0 ≤ (pc : Int) + o) (hp : ((pc : Int) + o).toNat = q) (g : Go p e below K (T.setTop (mkF m q Ls S))) : Go p e below K (T.setTop (mkF m pc Ls (.ref b :: S))) :=
  Go.by (fun t z => XS.ifnonnullYes X.here hx rfl (pc0 := pc) rfl hd rfl ho hp z) g
theorem Go.ifNo {cd : ClassFile.Cond} {x : Int32} {o : Int} (X : Stand p l e R s m args below meth c T locs cells slots) (hx : p.tables.exec = Jvm.exec) (hd : decode c.code pc = .ok (.ifCond cd o, 3)) (hc : ifCond.holds cd x = false) (hp : pc + 3 = q) (g : Go p e below K (T.setTop (mkF m q Ls S))) : Go p e below K (T.setTop (mkF m pc Ls (.int x :: S))) := by
  subst hp
  exact Go.by (fun t z => XS.ifNo X.here hx rfl hd rfl hc z) g
theorem Go.icmpNo {cd : ClassFile.Cond} {x y : Int32} {o : Int} (X : Stand p l e R s m args below meth c T locs cells slots) (hx : p.tables.exec = Jvm.exec) (hd : decode c.code pc = .ok (.if_icmp cd o, 3)) (hc : if_icmp.holds cd x y = false) (hp : pc + 3 = q) (g : Go p e below K (T.setTop (mkF m q Ls S))) : Go p e below K (T.setTop (mkF m pc Ls (.int y :: .int x :: S))) := by
  subst hp
  exact Go.by (fun t z => XS.icmpNo X.here hx rfl hd rfl hc z) g
theorem Go.ifnullNo {b : Addr} {o : Int} (X : Stand p l e R s m args below meth c T locs cells slots) (hx : p.tables.exec = Jvm.exec) (hd : decode c.code pc = .ok (.ifnull o, 3)) (hp : pc + 3 = q) (g : Go p e below K (T.setTop (mkF m q Ls S))) : Go p e below K (T.setTop (mkF m pc Ls (.ref b :: S))) := by
  subst hp
  exact Go.by (fun t z => XS.ifnullNo X.here hx rfl hd rfl z) g
theorem Go.ifnonnullNo {o : Int} (X : Stand p l e R s m args below meth c T locs cells slots) (hx : p.tables.exec = Jvm.exec) (hd : decode c.code pc = .ok (.ifnonnull o, 3)) (hp : pc + 3 = q) (g : Go p e below K (T.setTop (mkF m q Ls S))) : Go p e below K (T.setTop (mkF m pc Ls (.null :: S))) := by
  subst hp
  exact Go.by (fun t z => XS.ifnonnullNo X.here hx rfl hd rfl z) g
theorem Go.acmp {cd : ACond} {x y : Value} {o : Int} {same : Bool} (X : Stand p l e R s m args below meth c T locs cells slots) (hx : p.tables.exec = Jvm.exec) (h1 : x.isRef = true) (h2 : y.isRef = true) (hd : decode c.code pc = .ok (.if_acmp cd o, 3)) (hq : decide (x = y) = same) (ho : 0 ≤ (pc : Int) + o) (hp : q = if acV cd same = true then ((pc : Int) + o).toNat else pc + 3) (g : Go p e below K (T.setTop (mkF m q Ls S))) : Go p e below K (T.setTop (mkF m pc Ls (y :: x :: S))) :=
  Go.by (fun t z => Jvm.RoadKit.acmp (g := mkF m pc Ls (y :: x :: S)) X hx rfl h1 h2 (pc0 := pc) (same := same) rfl hd rfl hq ho hp z) g
variable {Z : State} {a0 : Array Value} {h : Heap} {own R0 O n d host C : String} {index kk : Nat} {a : Addr} {v v' old : Value} {ty : FieldType}
theorem Go.getF (X : Stand p l e R s m args below meth c T locs cells slots) (hx : p.tables.exec = Jvm.exec) (hZ : Z.Warmed39 s.vm) (hown : s.vm.findClass own = some m.cls) (w : (Cond.fieldLink own index R0 n d).before a0 Z = true ∨ (Cond.fieldLinkNest own index R0 n d host).before a0 Z = true) (via : Via Z R0 O n d) (eT : T.heap = h) (F : Fld Z h a O n d v) (hd : decode c.code pc = .ok (.getfield index, 3)) (hp : pc + 3 = q)
    (g : ∀ T', Stand p l e R s m args below meth c T' locs cells slots → T'.heap = h → Go p e below K (T'.setTop (mkF m q Ls (v :: S)))) : Go p e below K (T.setTop (mkF m pc Ls (.ref a :: S))) := by
  subst hp
  obtain ⟨T', X', e', st⟩ := Jvm.RoadKit.getF X hx hZ hown w via eT F (g := mkF m pc Ls (.ref a :: S)) rfl rfl hd
  exact Go.by st (g T' X' e')
theorem Go.getS (X : Stand p l e R s m args below meth c T locs cells slots) (hx : p.tables.exec = Jvm.exec) (hZ : Z.Warmed39 s.vm) (hown : s.vm.findClass own = some m.cls) (w : (Cond.fieldLink own index R0 n d).before a0 Z = true ∨ (Cond.fieldLinkNest own index R0 n d host).before a0 Z = true) (via : Via Z R0 O n d) (eT : T.heap = h) (F : Sta Z h O n d v) (hd : decode c.code pc = .ok (.getstatic index, 3)) (hp : pc + 3 = q)
    (g : ∀ T', Stand p l e R s m args below meth c T' locs cells slots → T'.heap = h → Go p e below K (T'.setTop (mkF m q Ls (v :: S)))) : Go p e below K (T.setTop (mkF m pc Ls S)) := by
  subst hp
  obtain ⟨T', X', e', st⟩ := Jvm.RoadKit.getS2 X hx hZ hown w via eT F (g := mkF m pc Ls S) rfl hd
  exact Go.by st (g T' X' e')
theorem Go.putF (X : Stand p l e R s m args below meth c T locs cells slots) (hx : p.tables.exec = Jvm.exec) (hZ : Z.Warmed39 s.vm) (hown : s.vm.findClass own = some m.cls) (w : (Cond.fieldLink own index R0 n d).before a0 Z = true ∨ (Cond.fieldLinkNest own index R0 n d host).before a0 Z = true) (via : Via Z R0 O n d) (eT : T.heap = h) (F : Fld Z h a O n d old) (E : Exa Z h a C)
    (L : (Cond.lays C O n d).before a0 Z = true ∨ ((Cond.laysFinal C O n d).before a0 Z = true ∧ own = O ∧ meth.name = "<init>")) (wi : (Cond.instantiable C kk).before a0 Z = true) (hty : parseFieldDescriptor d = some ty) (hn : narrow ty v = v) (hf : fits ty v = true) (hd : decode c.code pc = .ok (.putfield index, 3)) (hp : pc + 3 = q)
    (g : ∀ T' h', Stand p l e R s m args below meth c T' (locs ++ [⟨a, slotOf Z O n d⟩]) cells slots → T'.heap = h' → Wr h h' a (slotOf Z O n d) v → Fld Z h' a O n d v → Go p e below K (T'.setTop (mkF m q Ls S))) : Go p e below K (T.setTop (mkF m pc Ls (v :: .ref a :: S))) := by
  subst hp
  obtain ⟨T', h', X', e', W, st⟩ := Jvm.RoadKit.putF X hx hZ hown w via eT F E L wi hty hn hf (g := mkF m pc Ls (v :: .ref a :: S)) rfl rfl hd
  exact Go.by st (g T' h' X' e' W (F.same W))
theorem Go.putFN (X : Stand p l e R s m args below meth c T locs cells slots) (hx : p.tables.exec = Jvm.exec) (hZ : Z.Warmed39 s.vm) (hown : s.vm.findClass own = some m.cls) (w : (Cond.fieldLink own index R0 n d).before a0 Z = true) (via : Via Z R0 O n d) (eT : T.heap = h) (F : Fld Z h a O n d old) (E : Exa Z h a C)
    (L : (Cond.lays C O n d).before a0 Z = true ∨ ((Cond.laysFinal C O n d).before a0 Z = true ∧ own = O ∧ meth.name = "<init>")) (wi : (Cond.instantiable C kk).before a0 Z = true) (hty : parseFieldDescriptor d = some ty) (hn : narrow ty v = v') (hf : fits ty v' = true) (hd : decode c.code pc = .ok (.putfield index, 3)) (hp : pc + 3 = q)
    (g : ∀ T' h', Stand p l e R s m args below meth c T' (locs ++ [⟨a, slotOf Z O n d⟩]) cells slots → T'.heap = h' → Wr h h' a (slotOf Z O n d) v' → Fld Z h' a O n d v' → Go p e below K (T'.setTop (mkF m q Ls S))) : Go p e below K (T.setTop (mkF m pc Ls (v :: .ref a :: S))) := by
  subst hp
  obtain ⟨T', h', X', e', W, st⟩ := Jvm.RoadKit.putFN X hx hZ hown w via eT F E L wi hty hn hf (g := mkF m pc Ls (v :: .ref a :: S)) rfl rfl hd
  exact Go.by st (g T' h' X' e' W (F.same W))
theorem Go.newO {nn : Nat} (X : Stand p l e R s m args below meth c T locs cells slots) (hx : p.tables.exec = Jvm.exec) (hZ : Z.Warmed39 s.vm) (hown : s.vm.findClass own = some m.cls) (w : (Cond.classLink own index C).before a0 Z = true) (wi : (Cond.instantiable C nn).before a0 Z = true) (wz : (Cond.initialized C).before a0 Z = true) (eT : T.heap = h) (hd : decode c.code pc = .ok (.new index, 3)) (hc : cells + 1 ≤ R.cells) (hl : slots + nn ≤ R.slots) (hp : pc + 3 = q)
    (g : ∀ (b : Addr) T' h', Stand p l e R s m args below meth c T' locs (cells + 1) (slots + nn) → T'.heap = h' → h.size = b → Ext h h' → Exa Z h' b C → (∀ {O nm d : String} {ty : FieldType}, Laid Z a0 C O nm d → parseFieldDescriptor d = some ty → Fld Z h' b O nm d (defaultValue ty)) → Unt h' b → Go p e below K (T'.setTop (mkF m q Ls (.ref b :: S)))) : Go p e below K (T.setTop (mkF m pc Ls S)) := by
  subst hp
  obtain ⟨T', h', X', e', E, A, D, U, st⟩ := Jvm.RoadKit.newO X hx hZ hown w wi wz eT (g := mkF m pc Ls S) rfl hd hc hl
  exact Go.by st (g _ T' h' X' e' rfl E A D U)
theorem Go.newP {aty : ArrayType} {z : Int32} {ad : String} {cap : Nat} (X : Stand p l e R s m args below meth c T locs cells slots) (hx : p.tables.exec = Jvm.exec) (hZ : Z.Warmed39 s.vm) (w : (Cond.arrayClass (newarray.typeOf aty)).before a0 Z = true) (eT : T.heap = h) (hd : decode c.code pc = .ok (.newarray aty, 2)) (hn : ¬ z < 0) (hcap : z.toNatClampNeg ≤ cap) (hb : cap * 8 ≤ 536870912) (hc : cells + 1 ≤ R.cells) (hl : slots + cap ≤ R.slots) (had : "[" ++ (newarray.typeOf aty).toString = ad) (hp : pc + 2 = q)
    (g : ∀ (b : Addr) T' h' cA, Stand p l e R s m args below meth c T' locs (cells + 1) (slots + cap) → T'.heap = h' → h.size = b → Ext h h' → Arv Z h' b cA (newarray.typeOf aty) z [] (defaultValue (newarray.typeOf aty)) → Exa Z h' b ad → Go p e below K (T'.setTop (mkF m q Ls (.ref b :: S)))) : Go p e below K (T.setTop (mkF m pc Ls (.int z :: S))) := by
  subst hp
  obtain ⟨T', h', cA, X', e', E, A, B, st⟩ := Jvm.RoadKit.newPE X hx hZ w eT (g := mkF m pc Ls (.int z :: S)) rfl hd rfl hn hcap hb hc hl had
  exact Go.by st (g _ T' h' cA X' e' rfl E (Arv.new A hn) B)
theorem Go.initO (X : Stand p l e R s m args below meth c T locs cells slots) (hx : p.tables.exec = Jvm.exec) (hZ : Z.Warmed39 s.vm) (hown : s.vm.findClass own = some m.cls) (w1 : (Cond.methodLink own index Lib.objectInit).before a0 Z = true) (w2 : (Cond.instanceMethod Lib.objectInit).before a0 Z = true) (w3 : (Cond.code Lib.objectInit ⟨#[0xb1]⟩ 1 none).before a0 Z = true) (eT : T.heap = h) (hsz : Ls.size = c.maxLocals) (hd : decode c.code pc = .ok (.invokespecial index, 3)) (hf : 1 ≤ R.frames) {W : Nat} (hW : 2 * 0 + (S.map fun v => v.category).sum ≤ W) (hl : W + 12 ≤ R.locals) (hp : pc + 3 = q)
    (g : ∀ T', Stand p l e R s m args below meth c T' locs cells slots → T'.heap = h → Go p e below K (T'.setTop (mkF m q Ls S))) : Go p e below K (T.setTop (mkF m pc Ls (.ref a :: S))) := by
  subst hp
  obtain ⟨T', X', e', st⟩ := Jvm.RoadKit.initO X hx hZ hown w1 w2 w3 eT (g := mkF m pc Ls (.ref a :: S)) rfl hsz rfl hd hf hW hl
  exact Go.by st (g T' X' e')
theorem Go.castY {D : String} (X : Stand p l e R s m args below meth c T locs cells slots) (hx : p.tables.exec = Jvm.exec) (hZ : Z.Warmed39 s.vm) (hown : s.vm.findClass own = some m.cls) (w : (Cond.classLink own index D).before a0 Z = true) (eT : T.heap = h) (F : Ins Z h a D true) (hd : decode c.code pc = .ok (.checkcast index, 3)) (hp : pc + 3 = q)
    (g : ∀ T', Stand p l e R s m args below meth c T' locs cells slots → T'.heap = h → Go p e below K (T'.setTop (mkF m q Ls (.ref a :: S)))) : Go p e below K (T.setTop (mkF m pc Ls (.ref a :: S))) := by
  subst hp
  obtain ⟨T', X', e', st⟩ := Jvm.RoadKit.castY X hx hZ hown w eT F (g := mkF m pc Ls (.ref a :: S)) rfl rfl hd
  exact Go.by st (g T' X' e')
theorem Go.instY {D : String} (X : Stand p l e R s m args below meth c T locs cells slots) (hx : p.tables.exec = Jvm.exec) (hZ : Z.Warmed39 s.vm) (hown : s.vm.findClass own = some m.cls) (w : (Cond.classLink own index D).before a0 Z = true) (eT : T.heap = h) (F : Ins Z h a D true) (hd : decode c.code pc = .ok (.instanceof index, 3)) (hp : pc + 3 = q)
    (g : ∀ T', Stand p l e R s m args below meth c T' locs cells slots → T'.heap = h → Go p e below K (T'.setTop (mkF m q Ls (.int 1 :: S)))) : Go p e below K (T.setTop (mkF m pc Ls (.ref a :: S))) := by
  subst hp
  obtain ⟨T', X', e', st⟩ := Jvm.RoadKit.instY X hx hZ hown w eT F (g := mkF m pc Ls (.ref a :: S)) rfl rfl hd
  exact Go.by st (g T' X' e')
theorem Go.instNo {D : String} (X : Stand p l e R s m args below meth c T locs cells slots) (hx : p.tables.exec = Jvm.exec) (hZ : Z.Warmed39 s.vm) (hown : s.vm.findClass own = some m.cls) (w : (Cond.classLink own index D).before a0 Z = true) (eT : T.heap = h) (E : Exa Z h a C) (F : ∃ c t, Z.vm.findClass C = some c ∧ Z.vm.findClass D = some t ∧ Z.vm.assignable c t = false) (hd : decode c.code pc = .ok (.instanceof index, 3)) (hp : pc + 3 = q)
    (g : ∀ T', Stand p l e R s m args below meth c T' locs cells slots → T'.heap = h → Go p e below K (T'.setTop (mkF m q Ls (.int 0 :: S)))) : Go p e below K (T.setTop (mkF m pc Ls (.ref a :: S))) := by
  subst hp
  obtain ⟨T', X', e', st⟩ := Jvm.RoadKit.instNo X hx hZ hown w eT E F (g := mkF m pc Ls (.ref a :: S)) rfl rfl hd
  exact Go.by st (g T' X' e')
theorem Go.ldcI {z : Int32} (X : Stand p l e R s m args below meth c T locs cells slots) (hx : p.tables.exec = Jvm.exec) (hZ : Z.Warmed39 s.vm) (hown : s.vm.findClass own = some m.cls) (w : (Cond.constant own index z).before a0 Z = true) (hd : decode c.code pc = .ok (.ldc index, 2)) (hp : pc + 2 = q) (g : Go p e below K (T.setTop (mkF m q Ls (.int z :: S)))) : Go p e below K (T.setTop (mkF m pc Ls S)) := by
  subst hp
  exact Go.by (X.ldcInt hx hown (mvT hZ w) (g := mkF m pc Ls S) rfl hd) g
theorem Go.ldcwI {z : Int32} (X : Stand p l e R s m args below meth c T locs cells slots) (hx : p.tables.exec = Jvm.exec) (hZ : Z.Warmed39 s.vm) (hown : s.vm.findClass own = some m.cls) (w : (Cond.constant own index z).before a0 Z = true) (hd : decode c.code pc = .ok (.ldc_w index, 3)) (hp : pc + 3 = q) (g : Go p e below K (T.setTop (mkF m q Ls (.int z :: S)))) : Go p e below K (T.setTop (mkF m pc Ls S)) := by
  subst hp
  exact Go.by (X.ldcwInt hx hown (mvT hZ w) (g := mkF m pc Ls S) rfl hd) g
theorem Go.ldc2 {z : Int64} (X : Stand p l e R s m args below meth c T locs cells slots) (hx : p.tables.exec = Jvm.exec) (hZ : Z.Warmed39 s.vm) (hown : s.vm.findClass own = some m.cls) (w : (Cond.constantLong own index z).before a0 Z = true) (hd : decode c.code pc = .ok (.ldc2_w index, 3)) (hp : pc + 3 = q) (g : Go p e below K (T.setTop (mkF m q Ls (.long z :: S)))) : Go p e below K (T.setTop (mkF m pc Ls S)) := by
  subst hp
  exact Go.by (X.ldc2Long hx hown (mvT hZ w) (g := mkF m pc Ls S) rfl hd) g

end OwnSteps
end Jvm.RoadKit
namespace Jvm.Pilot.@@N@@
open Jvm Jvm.ClassFile Sem Op Lib Jvm.Free Jvm.Stand Jvm.LawKit Jvm.RoadKit Bundle Jvm.Pilot.@@N@@.Jvm.D
theorem wd0 {Z : State} {a0 : Array Value} (hw : ∀ d ∈ tables_1, d.before a0 Z = true) : (Jvm.Cond.constant "com/example/depositum/depositum/format/FileFormatIsContainerPinLaw" (7 : Nat) (2147483647 : Int32)).before a0 Z = true := hw _ (List.mem_of_getElem? (i := 0) rfl)
theorem wd1 {Z : State} {a0 : Array Value} (hw : ∀ d ∈ tables_1, d.before a0 Z = true) : (Jvm.Cond.methodLink "com/example/depositum/depositum/format/FileFormatIsContainerPinLaw" (8 : Nat) ({ cls := "com/example/depositum/depositum/format/FileFormatIsContainerPinLaw", name := "pick", desc := "(I)Lcom/example/depositum/depositum/format/FileFormat;" } : Jvm.MethodName)).before a0 Z = true := hw _ (List.mem_of_getElem? (i := 1) rfl)
theorem wd2 {Z : State} {a0 : Array Value} (hw : ∀ d ∈ tables_1, d.before a0 Z = true) : (Jvm.Cond.static ({ cls := "com/example/depositum/depositum/format/FileFormatIsContainerPinLaw", name := "pick", desc := "(I)Lcom/example/depositum/depositum/format/FileFormat;" } : Jvm.MethodName)).before a0 Z = true := hw _ (List.mem_of_getElem? (i := 2) rfl)
theorem wd3 {Z : State} {a0 : Array Value} (hw : ∀ d ∈ tables_1, d.before a0 Z = true) : (Jvm.Cond.initialized "com/example/depositum/depositum/format/FileFormatIsContainerPinLaw").before a0 Z = true := hw _ (List.mem_of_getElem? (i := 3) rfl)
theorem wd4 {Z : State} {a0 : Array Value} (hw : ∀ d ∈ tables_1, d.before a0 Z = true) : (Jvm.Cond.code ({ cls := "com/example/depositum/depositum/format/FileFormatIsContainerPinLaw", name := "pick", desc := "(I)Lcom/example/depositum/depositum/format/FileFormat;" } : Jvm.MethodName) method_3_code (1 : Nat) (Option.some (Jvm.ClassFile.FieldType.object "com/example/depositum/depositum/format/FileFormat"))).before a0 Z = true := hw _ (List.mem_of_getElem? (i := 4) rfl)
theorem wd5 {Z : State} {a0 : Array Value} (hw : ∀ d ∈ tables_1, d.before a0 Z = true) : (Jvm.Cond.fieldLink "com/example/depositum/depositum/format/FileFormatIsContainerPinLaw" (20 : Nat) "com/example/depositum/depositum/format/FileFormat" "PDF" "Lcom/example/depositum/depositum/format/FileFormat;").before a0 Z = true := hw _ (List.mem_of_getElem? (i := 5) rfl)
theorem wd6 {Z : State} {a0 : Array Value} (hw : ∀ d ∈ tables_1, d.before a0 Z = true) : (Jvm.Cond.initialized "com/example/depositum/depositum/format/FileFormat").before a0 Z = true := hw _ (List.mem_of_getElem? (i := 6) rfl)
theorem wd7 {Z : State} {a0 : Array Value} (hw : ∀ d ∈ tables_1, d.before a0 Z = true) : (Jvm.Cond.laysStatic "com/example/depositum/depositum/format/FileFormat" "PDF" "Lcom/example/depositum/depositum/format/FileFormat;").before a0 Z = true := hw _ (List.mem_of_getElem? (i := 7) rfl)
theorem wd8 {Z : State} {a0 : Array Value} (hw : ∀ d ∈ tables_1, d.before a0 Z = true) : (Jvm.Cond.methodLink "com/example/depositum/depositum/format/FileFormatIsContainerPinLaw" (14 : Nat) ({ cls := "com/example/depositum/depositum/format/FileFormat", name := "isContainer", desc := "()Z" } : Jvm.MethodName)).before a0 Z = true := hw _ (List.mem_of_getElem? (i := 8) rfl)
theorem wd9 {Z : State} {a0 : Array Value} (hw : ∀ d ∈ tables_1, d.before a0 Z = true) : (Jvm.Cond.declares ({ cls := "com/example/depositum/depositum/format/FileFormat", name := "isContainer", desc := "()Z" } : Jvm.MethodName)).before a0 Z = true := hw _ (List.mem_of_getElem? (i := 9) rfl)
theorem wd10 {Z : State} {a0 : Array Value} (hw : ∀ d ∈ tables_1, d.before a0 Z = true) : (Jvm.Cond.instanceMethod ({ cls := "com/example/depositum/depositum/format/FileFormat", name := "isContainer", desc := "()Z" } : Jvm.MethodName)).before a0 Z = true := hw _ (List.mem_of_getElem? (i := 10) rfl)
theorem wd11 {Z : State} {a0 : Array Value} (hw : ∀ d ∈ tables_1, d.before a0 Z = true) : (Jvm.Cond.selects "com/example/depositum/depositum/format/FileFormat" ({ cls := "com/example/depositum/depositum/format/FileFormat", name := "isContainer", desc := "()Z" } : Jvm.MethodName) ({ cls := "com/example/depositum/depositum/format/FileFormat", name := "isContainer", desc := "()Z" } : Jvm.MethodName)).before a0 Z = true := hw _ (List.mem_of_getElem? (i := 11) rfl)
theorem wd12 {Z : State} {a0 : Array Value} (hw : ∀ d ∈ tables_1, d.before a0 Z = true) : (Jvm.Cond.code ({ cls := "com/example/depositum/depositum/format/FileFormat", name := "isContainer", desc := "()Z" } : Jvm.MethodName) prog_37_method_4_code (1 : Nat) (Option.some Jvm.ClassFile.FieldType.boolean)).before a0 Z = true := hw _ (List.mem_of_getElem? (i := 12) rfl)
theorem wd13 {Z : State} {a0 : Array Value} (hw : ∀ d ∈ tables_1, d.before a0 Z = true) : (Jvm.Cond.fieldLink "com/example/depositum/depositum/format/FileFormat" (22 : Nat) "com/example/depositum/depositum/format/FileFormat" "ZIP" "Lcom/example/depositum/depositum/format/FileFormat;").before a0 Z = true := hw _ (List.mem_of_getElem? (i := 13) rfl)
theorem wd14 {Z : State} {a0 : Array Value} (hw : ∀ d ∈ tables_1, d.before a0 Z = true) : (Jvm.Cond.laysStatic "com/example/depositum/depositum/format/FileFormat" "ZIP" "Lcom/example/depositum/depositum/format/FileFormat;").before a0 Z = true := hw _ (List.mem_of_getElem? (i := 14) rfl)
theorem wd15 {Z : State} {a0 : Array Value} (hw : ∀ d ∈ tables_1, d.before a0 Z = true) : (Jvm.Cond.fieldLink "com/example/depositum/depositum/format/FileFormat" (25 : Nat) "com/example/depositum/depositum/format/FileFormat" "TAR" "Lcom/example/depositum/depositum/format/FileFormat;").before a0 Z = true := hw _ (List.mem_of_getElem? (i := 15) rfl)
theorem wd16 {Z : State} {a0 : Array Value} (hw : ∀ d ∈ tables_1, d.before a0 Z = true) : (Jvm.Cond.laysStatic "com/example/depositum/depositum/format/FileFormat" "TAR" "Lcom/example/depositum/depositum/format/FileFormat;").before a0 Z = true := hw _ (List.mem_of_getElem? (i := 16) rfl)
theorem wd17 {Z : State} {a0 : Array Value} (hw : ∀ d ∈ tables_1, d.before a0 Z = true) : (Jvm.Cond.fieldLink "com/example/depositum/depositum/format/FileFormatIsContainerPinLaw" (30 : Nat) "com/example/depositum/depositum/format/FileFormat" "JPEG" "Lcom/example/depositum/depositum/format/FileFormat;").before a0 Z = true := hw _ (List.mem_of_getElem? (i := 17) rfl)
theorem wd18 {Z : State} {a0 : Array Value} (hw : ∀ d ∈ tables_1, d.before a0 Z = true) : (Jvm.Cond.laysStatic "com/example/depositum/depositum/format/FileFormat" "JPEG" "Lcom/example/depositum/depositum/format/FileFormat;").before a0 Z = true := hw _ (List.mem_of_getElem? (i := 18) rfl)
theorem wd19 {Z : State} {a0 : Array Value} (hw : ∀ d ∈ tables_1, d.before a0 Z = true) : (Jvm.Cond.fieldLink "com/example/depositum/depositum/format/FileFormatIsContainerPinLaw" (27 : Nat) "com/example/depositum/depositum/format/FileFormat" "TIFF" "Lcom/example/depositum/depositum/format/FileFormat;").before a0 Z = true := hw _ (List.mem_of_getElem? (i := 19) rfl)
theorem wd20 {Z : State} {a0 : Array Value} (hw : ∀ d ∈ tables_1, d.before a0 Z = true) : (Jvm.Cond.laysStatic "com/example/depositum/depositum/format/FileFormat" "TIFF" "Lcom/example/depositum/depositum/format/FileFormat;").before a0 Z = true := hw _ (List.mem_of_getElem? (i := 20) rfl)
theorem wd21 {Z : State} {a0 : Array Value} (hw : ∀ d ∈ tables_1, d.before a0 Z = true) : (Jvm.Cond.fieldLink "com/example/depositum/depositum/format/FileFormatIsContainerPinLaw" (24 : Nat) "com/example/depositum/depositum/format/FileFormat" "EPUB" "Lcom/example/depositum/depositum/format/FileFormat;").before a0 Z = true := hw _ (List.mem_of_getElem? (i := 21) rfl)
theorem wd22 {Z : State} {a0 : Array Value} (hw : ∀ d ∈ tables_1, d.before a0 Z = true) : (Jvm.Cond.laysStatic "com/example/depositum/depositum/format/FileFormat" "EPUB" "Lcom/example/depositum/depositum/format/FileFormat;").before a0 Z = true := hw _ (List.mem_of_getElem? (i := 22) rfl)
theorem wd23 {Z : State} {a0 : Array Value} (hw : ∀ d ∈ tables_1, d.before a0 Z = true) : (Jvm.Cond.fieldLink "com/example/depositum/depositum/format/FileFormatIsContainerPinLaw" (42 : Nat) "com/example/depositum/depositum/format/FileFormat" "TAR" "Lcom/example/depositum/depositum/format/FileFormat;").before a0 Z = true := hw _ (List.mem_of_getElem? (i := 23) rfl)
theorem wd24 {Z : State} {a0 : Array Value} (hw : ∀ d ∈ tables_1, d.before a0 Z = true) : (Jvm.Cond.fieldLink "com/example/depositum/depositum/format/FileFormatIsContainerPinLaw" (33 : Nat) "com/example/depositum/depositum/format/FileFormat" "POSTSCRIPT" "Lcom/example/depositum/depositum/format/FileFormat;").before a0 Z = true := hw _ (List.mem_of_getElem? (i := 24) rfl)
theorem wd25 {Z : State} {a0 : Array Value} (hw : ∀ d ∈ tables_1, d.before a0 Z = true) : (Jvm.Cond.laysStatic "com/example/depositum/depositum/format/FileFormat" "POSTSCRIPT" "Lcom/example/depositum/depositum/format/FileFormat;").before a0 Z = true := hw _ (List.mem_of_getElem? (i := 25) rfl)
theorem wd26 {Z : State} {a0 : Array Value} (hw : ∀ d ∈ tables_1, d.before a0 Z = true) : (Jvm.Cond.fieldLink "com/example/depositum/depositum/format/FileFormatIsContainerPinLaw" (45 : Nat) "com/example/depositum/depositum/format/FileFormat" "OTHER" "Lcom/example/depositum/depositum/format/FileFormat;").before a0 Z = true := hw _ (List.mem_of_getElem? (i := 26) rfl)
theorem wd27 {Z : State} {a0 : Array Value} (hw : ∀ d ∈ tables_1, d.before a0 Z = true) : (Jvm.Cond.laysStatic "com/example/depositum/depositum/format/FileFormat" "OTHER" "Lcom/example/depositum/depositum/format/FileFormat;").before a0 Z = true := hw _ (List.mem_of_getElem? (i := 27) rfl)
theorem wd28 {Z : State} {a0 : Array Value} (hw : ∀ d ∈ tables_1, d.before a0 Z = true) : (Jvm.Cond.fieldLink "com/example/depositum/depositum/format/FileFormatIsContainerPinLaw" (39 : Nat) "com/example/depositum/depositum/format/FileFormat" "ZIP" "Lcom/example/depositum/depositum/format/FileFormat;").before a0 Z = true := hw _ (List.mem_of_getElem? (i := 28) rfl)
theorem wd29 {Z : State} {a0 : Array Value} (hw : ∀ d ∈ tables_1, d.before a0 Z = true) : (Jvm.Cond.fieldLink "com/example/depositum/depositum/format/FileFormatIsContainerPinLaw" (36 : Nat) "com/example/depositum/depositum/format/FileFormat" "MP3" "Lcom/example/depositum/depositum/format/FileFormat;").before a0 Z = true := hw _ (List.mem_of_getElem? (i := 29) rfl)
theorem wd30 {Z : State} {a0 : Array Value} (hw : ∀ d ∈ tables_1, d.before a0 Z = true) : (Jvm.Cond.laysStatic "com/example/depositum/depositum/format/FileFormat" "MP3" "Lcom/example/depositum/depositum/format/FileFormat;").before a0 Z = true := hw _ (List.mem_of_getElem? (i := 30) rfl)
theorem d1_0 : decode method_3_code 0 = .ok (.iload_n 0, 1) := by decide +kernel
theorem d1_1 : decode method_3_code 1 = .ok (.ifCond .ne 7, 3) := by decide +kernel
theorem d1_4 : decode method_3_code 4 = .ok (.getstatic 20, 3) := by decide +kernel
theorem d1_7 : decode method_3_code 7 = .ok (.areturn, 1) := by decide +kernel
theorem d1_8 : decode method_3_code 8 = .ok (.iload_n 0, 1) := by decide +kernel
theorem d1_9 : decode method_3_code 9 = .ok (.iconst 1, 1) := by decide +kernel
theorem d1_10 : decode method_3_code 10 = .ok (.if_icmp .ne 7, 3) := by decide +kernel
theorem d1_13 : decode method_3_code 13 = .ok (.getstatic 24, 3) := by decide +kernel
theorem d1_16 : decode method_3_code 16 = .ok (.areturn, 1) := by decide +kernel
theorem d1_17 : decode method_3_code 17 = .ok (.iload_n 0, 1) := by decide +kernel
theorem d1_18 : decode method_3_code 18 = .ok (.iconst 2, 1) := by decide +kernel
theorem d1_19 : decode method_3_code 19 = .ok (.if_icmp .ne 7, 3) := by decide +kernel
theorem d1_22 : decode method_3_code 22 = .ok (.getstatic 27, 3) := by decide +kernel
theorem d1_25 : decode method_3_code 25 = .ok (.areturn, 1) := by decide +kernel
theorem d1_26 : decode method_3_code 26 = .ok (.iload_n 0, 1) := by decide +kernel
theorem d1_27 : decode method_3_code 27 = .ok (.iconst 3, 1) := by decide +kernel
theorem d1_28 : decode method_3_code 28 = .ok (.if_icmp .ne 7, 3) := by decide +kernel
theorem d1_31 : decode method_3_code 31 = .ok (.getstatic 30, 3) := by decide +kernel
theorem d1_34 : decode method_3_code 34 = .ok (.areturn, 1) := by decide +kernel
theorem d1_35 : decode method_3_code 35 = .ok (.iload_n 0, 1) := by decide +kernel
theorem d1_36 : decode method_3_code 36 = .ok (.iconst 4, 1) := by decide +kernel
theorem d1_37 : decode method_3_code 37 = .ok (.if_icmp .ne 7, 3) := by decide +kernel
theorem d1_40 : decode method_3_code 40 = .ok (.getstatic 33, 3) := by decide +kernel
theorem d1_43 : decode method_3_code 43 = .ok (.areturn, 1) := by decide +kernel
theorem d1_44 : decode method_3_code 44 = .ok (.iload_n 0, 1) := by decide +kernel
theorem d1_45 : decode method_3_code 45 = .ok (.iconst 5, 1) := by decide +kernel
theorem d1_46 : decode method_3_code 46 = .ok (.if_icmp .ne 7, 3) := by decide +kernel
theorem d1_49 : decode method_3_code 49 = .ok (.getstatic 36, 3) := by decide +kernel
theorem d1_52 : decode method_3_code 52 = .ok (.areturn, 1) := by decide +kernel
theorem d1_53 : decode method_3_code 53 = .ok (.iload_n 0, 1) := by decide +kernel
theorem d1_54 : decode method_3_code 54 = .ok (.bipush 6, 2) := by decide +kernel
theorem d1_56 : decode method_3_code 56 = .ok (.if_icmp .ne 7, 3) := by decide +kernel
theorem d1_59 : decode method_3_code 59 = .ok (.getstatic 39, 3) := by decide +kernel
theorem d1_62 : decode method_3_code 62 = .ok (.areturn, 1) := by decide +kernel
theorem d1_63 : decode method_3_code 63 = .ok (.iload_n 0, 1) := by decide +kernel
theorem d1_64 : decode method_3_code 64 = .ok (.bipush 7, 2) := by decide +kernel
theorem d1_66 : decode method_3_code 66 = .ok (.if_icmp .ne 7, 3) := by decide +kernel
theorem d1_69 : decode method_3_code 69 = .ok (.getstatic 42, 3) := by decide +kernel
theorem d1_72 : decode method_3_code 72 = .ok (.areturn, 1) := by decide +kernel
theorem d1_73 : decode method_3_code 73 = .ok (.getstatic 45, 3) := by decide +kernel
theorem d1_76 : decode method_3_code 76 = .ok (.areturn, 1) := by decide +kernel
theorem d2_0 : decode prog_37_method_4_code 0 = .ok (.aload_n 0, 1) := by decide +kernel
theorem d2_1 : decode prog_37_method_4_code 1 = .ok (.getstatic 22, 3) := by decide +kernel
theorem d2_4 : decode prog_37_method_4_code 4 = .ok (.if_acmp .eq 10, 3) := by decide +kernel
theorem d2_7 : decode prog_37_method_4_code 7 = .ok (.aload_n 0, 1) := by decide +kernel
theorem d2_8 : decode prog_37_method_4_code 8 = .ok (.getstatic 25, 3) := by decide +kernel
theorem d2_11 : decode prog_37_method_4_code 11 = .ok (.if_acmp .ne 7, 3) := by decide +kernel
theorem d2_14 : decode prog_37_method_4_code 14 = .ok (.iconst 1, 1) := by decide +kernel
theorem d2_15 : decode prog_37_method_4_code 15 = .ok (.goto 4, 3) := by decide +kernel
theorem d2_18 : decode prog_37_method_4_code 18 = .ok (.iconst 0, 1) := by decide +kernel
theorem d2_19 : decode prog_37_method_4_code 19 = .ok (.ireturn, 1) := by decide +kernel
theorem pd0 : parseMethodDescriptor "(I)Lcom/example/depositum/depositum/format/FileFormat;" = some ⟨[.int], some (.object "com/example/depositum/depositum/format/FileFormat")⟩ := by decide +kernel
theorem pd1 : parseMethodDescriptor "()Z" = some ⟨[], some .boolean⟩ := by decide +kernel
theorem pn0 : plainName "com/example/depositum/depositum/format/FileFormatIsContainerPinLaw" = true := by first | (simp [plainName, overriddenIn]; done) | decide +kernel
theorem pn1 : plainName "com/example/depositum/depositum/format/FileFormat" = true := by first | (simp [plainName, overriddenIn]; done) | decide +kernel
theorem ef_pick0 (m : MethodId)  : entryFrame m #[(.int (0 : Int32))] 1 = mkF m 0 #[.val (.int (0 : Int32))] [] := by first | (simp [entryFrame, mkF, argsToLocals, Value.category, maxLocals]; done) | rfl
theorem ef_pick1 (m : MethodId)  : entryFrame m #[(.int (1 : Int32))] 1 = mkF m 0 #[.val (.int (1 : Int32))] [] := by first | (simp [entryFrame, mkF, argsToLocals, Value.category, maxLocals]; done) | rfl
theorem ef_pick2 (m : MethodId)  : entryFrame m #[(.int (2 : Int32))] 1 = mkF m 0 #[.val (.int (2 : Int32))] [] := by first | (simp [entryFrame, mkF, argsToLocals, Value.category, maxLocals]; done) | rfl
theorem ef_pick3 (m : MethodId)  : entryFrame m #[(.int (3 : Int32))] 1 = mkF m 0 #[.val (.int (3 : Int32))] [] := by first | (simp [entryFrame, mkF, argsToLocals, Value.category, maxLocals]; done) | rfl
theorem ef_pick4 (m : MethodId)  : entryFrame m #[(.int (4 : Int32))] 1 = mkF m 0 #[.val (.int (4 : Int32))] [] := by first | (simp [entryFrame, mkF, argsToLocals, Value.category, maxLocals]; done) | rfl
theorem ef_pick5 (m : MethodId)  : entryFrame m #[(.int (5 : Int32))] 1 = mkF m 0 #[.val (.int (5 : Int32))] [] := by first | (simp [entryFrame, mkF, argsToLocals, Value.category, maxLocals]; done) | rfl
theorem ef_pick6 (m : MethodId)  : entryFrame m #[(.int (6 : Int32))] 1 = mkF m 0 #[.val (.int (6 : Int32))] [] := by first | (simp [entryFrame, mkF, argsToLocals, Value.category, maxLocals]; done) | rfl
theorem ef_pick7 (m : MethodId)  : entryFrame m #[(.int (7 : Int32))] 1 = mkF m 0 #[.val (.int (7 : Int32))] [] := by first | (simp [entryFrame, mkF, argsToLocals, Value.category, maxLocals]; done) | rfl
theorem ef_pick8 (m : MethodId)  : entryFrame m #[(.int (8 : Int32))] 1 = mkF m 0 #[.val (.int (8 : Int32))] [] := by first | (simp [entryFrame, mkF, argsToLocals, Value.category, maxLocals]; done) | rfl
theorem ef_is_p (m : MethodId) (x0 : Addr) : entryFrame m #[(.ref x0)] 1 = mkF m 0 #[.val (.ref x0)] [] := by first | (simp [entryFrame, mkF, argsToLocals, Value.category, maxLocals]; done) | rfl
theorem ef_is_q (m : MethodId) (x0 : Addr) : entryFrame m #[(.ref x0)] 1 = mkF m 0 #[.val (.ref x0)] [] := by first | (simp [entryFrame, mkF, argsToLocals, Value.category, maxLocals]; done) | rfl
theorem ef_is_no (m : MethodId) (x0 : Addr) : entryFrame m #[(.ref x0)] 1 = mkF m 0 #[.val (.ref x0)] [] := by first | (simp [entryFrame, mkF, argsToLocals, Value.category, maxLocals]; done) | rfl
theorem ef_law0 (m : MethodId) (x0 : Int32) : entryFrame m #[(.int x0)] maxLocals = mkF m 0 #[.val (.int x0), .unset, .unset, .unset] [] := by first | (simp [entryFrame, mkF, argsToLocals, Value.category, maxLocals]; done) | rfl
theorem own_rem9 (x : Int32) : (x &&& (2147483647 : Int32)) % (9 : Int32) = 0 ∨ (x &&& (2147483647 : Int32)) % (9 : Int32) = 1 ∨ (x &&& (2147483647 : Int32)) % (9 : Int32) = 2 ∨ (x &&& (2147483647 : Int32)) % (9 : Int32) = 3 ∨ (x &&& (2147483647 : Int32)) % (9 : Int32) = 4 ∨ (x &&& (2147483647 : Int32)) % (9 : Int32) = 5 ∨ (x &&& (2147483647 : Int32)) % (9 : Int32) = 6 ∨ (x &&& (2147483647 : Int32)) % (9 : Int32) = 7 ∨ (x &&& (2147483647 : Int32)) % (9 : Int32) = 8 := by
  have h0 : 0 ≤ (x &&& (2147483647 : Int32)).toInt := by
    have : ¬ (x &&& (2147483647 : Int32)) < 0 := by rw [Jvm.Free.XT.and_neg32]; exact fun q => absurd q.2 (by decide)
    rw [Jvm.Free.XT.negI32] at this; omega
  generalize x &&& (2147483647 : Int32) = y at h0 ⊢
  have h1 : (y % 9).toInt = y.toInt.tmod 9 := Int32.toInt_mod y 9
  rw [Int.tmod_eq_emod_of_nonneg h0] at h1
  have h2 := Int.emod_nonneg y.toInt (by decide : (9 : Int) ≠ 0)
  have h3 := Int.emod_lt_of_pos y.toInt (by decide : (0 : Int) < 9)
  simp only [← Int32.toInt_inj]
  have e0 : (0 : Int32).toInt = 0 := rfl
  have e1 : (1 : Int32).toInt = 1 := rfl
  have e2 : (2 : Int32).toInt = 2 := rfl
  have e3 : (3 : Int32).toInt = 3 := rfl
  have e4 : (4 : Int32).toInt = 4 := rfl
  have e5 : (5 : Int32).toInt = 5 := rfl
  have e6 : (6 : Int32).toInt = 6 := rfl
  have e7 : (7 : Int32).toInt = 7 := rfl
  have e8 : (8 : Int32).toInt = 8 := rfl
  omega
def Q_pick0 (Z : State) (a : Addr) (h0 : Heap) (v : Option Value) (h : Heap) (L : List Loc) : Prop := v = some (.ref a) ∧ Fr Z.heap.size L ∧ h = h0
set_option maxRecDepth 65536 in
set_option maxHeartbeats 40000000 in
theorem pick0 (l : Launch) (Z : State) (a0 : Array Value) (hw : ∀ d ∈ tables_1, d.before a0 Z = true) (a : Addr) (h0 : Heap) (O0 : Ext Z.heap h0) (S : Sta Z Z.heap "com/example/depositum/depositum/format/FileFormat" "PDF" "Lcom/example/depositum/depositum/format/FileFormat;" (.ref a)) :
    Ctr l Z h0 (⟨"com/example/depositum/depositum/format/FileFormatIsContainerPinLaw", "pick", "(I)Lcom/example/depositum/depositum/format/FileFormat;"⟩ : MethodName) method_3_code 1 (some (.object "com/example/depositum/depositum/format/FileFormat")) [] ({ frames := 0, cells := 0, slots := 0, locals := 0 } : Room) #[(.int (0 : Int32))] (Q_pick0 Z a h0) := by
  refine enter (plainFor_of_name pn0) ?_
  intro p e s m below meth c s₁ hx hby hml hZ hown hnm hret hlk X0 e0 hs0
  replace hown : s.vm.findClass "com/example/depositum/depositum/format/FileFormatIsContainerPinLaw" = some m.cls := hown
  refine Go.cast (congrArg s₁.setTop (ef_pick0 m)) ?_
  have N0 := Fr.nil Z.heap.size
  show Go p e below _ (s₁.setTop (mkF m 0 #[.val (.int (0 : Int32))] []))
  refine Go.iloadN X0 hx (hb hby d1_0) rfl (q := 1) rfl ?_
  refine Go.ifNo X0 hx (hb hby d1_1) (by decide) (q := 4) rfl ?_
  refine Go.getS X0 hx hZ hown (host := "") (Or.inl (wd5 hw)) Via.refl e0 (S.ext O0) (hb hby d1_4) (q := 7) rfl ?_
  intro T1 X1 e1
  exact Go.retA X1 hx hret hlk rfl rfl (hb hby d1_7) e1 (by decide) (by decide) ⟨rfl, N0, rfl⟩
def Q_pick1 (Z : State) (a : Addr) (h0 : Heap) (v : Option Value) (h : Heap) (L : List Loc) : Prop := v = some (.ref a) ∧ Fr Z.heap.size L ∧ h = h0
set_option maxRecDepth 65536 in
set_option maxHeartbeats 40000000 in
theorem pick1 (l : Launch) (Z : State) (a0 : Array Value) (hw : ∀ d ∈ tables_1, d.before a0 Z = true) (a : Addr) (h0 : Heap) (O0 : Ext Z.heap h0) (S : Sta Z Z.heap "com/example/depositum/depositum/format/FileFormat" "EPUB" "Lcom/example/depositum/depositum/format/FileFormat;" (.ref a)) :
    Ctr l Z h0 (⟨"com/example/depositum/depositum/format/FileFormatIsContainerPinLaw", "pick", "(I)Lcom/example/depositum/depositum/format/FileFormat;"⟩ : MethodName) method_3_code 1 (some (.object "com/example/depositum/depositum/format/FileFormat")) [] ({ frames := 0, cells := 0, slots := 0, locals := 0 } : Room) #[(.int (1 : Int32))] (Q_pick1 Z a h0) := by
  refine enter (plainFor_of_name pn0) ?_
  intro p e s m below meth c s₁ hx hby hml hZ hown hnm hret hlk X0 e0 hs0
  replace hown : s.vm.findClass "com/example/depositum/depositum/format/FileFormatIsContainerPinLaw" = some m.cls := hown
  refine Go.cast (congrArg s₁.setTop (ef_pick1 m)) ?_
  have N0 := Fr.nil Z.heap.size
  show Go p e below _ (s₁.setTop (mkF m 0 #[.val (.int (1 : Int32))] []))
  refine Go.iloadN X0 hx (hb hby d1_0) rfl (q := 1) rfl ?_
  refine Go.ifYes X0 hx (hb hby d1_1) (by decide) (q := 8) (by decide) (by decide) ?_
  refine Go.iloadN X0 hx (hb hby d1_8) rfl (q := 9) rfl ?_
  refine Go.iconst X0 hx (hb hby d1_9) (r := (1 : Int32)) rfl (q := 10) rfl ?_
  refine Go.icmpNo X0 hx (hb hby d1_10) (by decide) (q := 13) rfl ?_
  refine Go.getS X0 hx hZ hown (host := "") (Or.inl (wd21 hw)) Via.refl e0 (S.ext O0) (hb hby d1_13) (q := 16) rfl ?_
  intro T1 X1 e1
  exact Go.retA X1 hx hret hlk rfl rfl (hb hby d1_16) e1 (by decide) (by decide) ⟨rfl, N0, rfl⟩
def Q_pick2 (Z : State) (a : Addr) (h0 : Heap) (v : Option Value) (h : Heap) (L : List Loc) : Prop := v = some (.ref a) ∧ Fr Z.heap.size L ∧ h = h0
set_option maxRecDepth 65536 in
set_option maxHeartbeats 40000000 in
theorem pick2 (l : Launch) (Z : State) (a0 : Array Value) (hw : ∀ d ∈ tables_1, d.before a0 Z = true) (a : Addr) (h0 : Heap) (O0 : Ext Z.heap h0) (S : Sta Z Z.heap "com/example/depositum/depositum/format/FileFormat" "TIFF" "Lcom/example/depositum/depositum/format/FileFormat;" (.ref a)) :
    Ctr l Z h0 (⟨"com/example/depositum/depositum/format/FileFormatIsContainerPinLaw", "pick", "(I)Lcom/example/depositum/depositum/format/FileFormat;"⟩ : MethodName) method_3_code 1 (some (.object "com/example/depositum/depositum/format/FileFormat")) [] ({ frames := 0, cells := 0, slots := 0, locals := 0 } : Room) #[(.int (2 : Int32))] (Q_pick2 Z a h0) := by
  refine enter (plainFor_of_name pn0) ?_
  intro p e s m below meth c s₁ hx hby hml hZ hown hnm hret hlk X0 e0 hs0
  replace hown : s.vm.findClass "com/example/depositum/depositum/format/FileFormatIsContainerPinLaw" = some m.cls := hown
  refine Go.cast (congrArg s₁.setTop (ef_pick2 m)) ?_
  have N0 := Fr.nil Z.heap.size
  show Go p e below _ (s₁.setTop (mkF m 0 #[.val (.int (2 : Int32))] []))
  refine Go.iloadN X0 hx (hb hby d1_0) rfl (q := 1) rfl ?_
  refine Go.ifYes X0 hx (hb hby d1_1) (by decide) (q := 8) (by decide) (by decide) ?_
  refine Go.iloadN X0 hx (hb hby d1_8) rfl (q := 9) rfl ?_
  refine Go.iconst X0 hx (hb hby d1_9) (r := (1 : Int32)) rfl (q := 10) rfl ?_
  refine Go.icmpYes X0 hx (hb hby d1_10) (by decide) (q := 17) (by decide) (by decide) ?_
  refine Go.iloadN X0 hx (hb hby d1_17) rfl (q := 18) rfl ?_
  refine Go.iconst X0 hx (hb hby d1_18) (r := (2 : Int32)) rfl (q := 19) rfl ?_
  refine Go.icmpNo X0 hx (hb hby d1_19) (by decide) (q := 22) rfl ?_
  refine Go.getS X0 hx hZ hown (host := "") (Or.inl (wd19 hw)) Via.refl e0 (S.ext O0) (hb hby d1_22) (q := 25) rfl ?_
  intro T1 X1 e1
  exact Go.retA X1 hx hret hlk rfl rfl (hb hby d1_25) e1 (by decide) (by decide) ⟨rfl, N0, rfl⟩
def Q_pick3 (Z : State) (a : Addr) (h0 : Heap) (v : Option Value) (h : Heap) (L : List Loc) : Prop := v = some (.ref a) ∧ Fr Z.heap.size L ∧ h = h0
set_option maxRecDepth 65536 in
set_option maxHeartbeats 40000000 in
theorem pick3 (l : Launch) (Z : State) (a0 : Array Value) (hw : ∀ d ∈ tables_1, d.before a0 Z = true) (a : Addr) (h0 : Heap) (O0 : Ext Z.heap h0) (S : Sta Z Z.heap "com/example/depositum/depositum/format/FileFormat" "JPEG" "Lcom/example/depositum/depositum/format/FileFormat;" (.ref a)) :
    Ctr l Z h0 (⟨"com/example/depositum/depositum/format/FileFormatIsContainerPinLaw", "pick", "(I)Lcom/example/depositum/depositum/format/FileFormat;"⟩ : MethodName) method_3_code 1 (some (.object "com/example/depositum/depositum/format/FileFormat")) [] ({ frames := 0, cells := 0, slots := 0, locals := 0 } : Room) #[(.int (3 : Int32))] (Q_pick3 Z a h0) := by
  refine enter (plainFor_of_name pn0) ?_
  intro p e s m below meth c s₁ hx hby hml hZ hown hnm hret hlk X0 e0 hs0
  replace hown : s.vm.findClass "com/example/depositum/depositum/format/FileFormatIsContainerPinLaw" = some m.cls := hown
  refine Go.cast (congrArg s₁.setTop (ef_pick3 m)) ?_
  have N0 := Fr.nil Z.heap.size
  show Go p e below _ (s₁.setTop (mkF m 0 #[.val (.int (3 : Int32))] []))
  refine Go.iloadN X0 hx (hb hby d1_0) rfl (q := 1) rfl ?_
  refine Go.ifYes X0 hx (hb hby d1_1) (by decide) (q := 8) (by decide) (by decide) ?_
  refine Go.iloadN X0 hx (hb hby d1_8) rfl (q := 9) rfl ?_
  refine Go.iconst X0 hx (hb hby d1_9) (r := (1 : Int32)) rfl (q := 10) rfl ?_
  refine Go.icmpYes X0 hx (hb hby d1_10) (by decide) (q := 17) (by decide) (by decide) ?_
  refine Go.iloadN X0 hx (hb hby d1_17) rfl (q := 18) rfl ?_
  refine Go.iconst X0 hx (hb hby d1_18) (r := (2 : Int32)) rfl (q := 19) rfl ?_
  refine Go.icmpYes X0 hx (hb hby d1_19) (by decide) (q := 26) (by decide) (by decide) ?_
  refine Go.iloadN X0 hx (hb hby d1_26) rfl (q := 27) rfl ?_
  refine Go.iconst X0 hx (hb hby d1_27) (r := (3 : Int32)) rfl (q := 28) rfl ?_
  refine Go.icmpNo X0 hx (hb hby d1_28) (by decide) (q := 31) rfl ?_
  refine Go.getS X0 hx hZ hown (host := "") (Or.inl (wd17 hw)) Via.refl e0 (S.ext O0) (hb hby d1_31) (q := 34) rfl ?_
  intro T1 X1 e1
  exact Go.retA X1 hx hret hlk rfl rfl (hb hby d1_34) e1 (by decide) (by decide) ⟨rfl, N0, rfl⟩
def Q_pick4 (Z : State) (a : Addr) (h0 : Heap) (v : Option Value) (h : Heap) (L : List Loc) : Prop := v = some (.ref a) ∧ Fr Z.heap.size L ∧ h = h0
set_option maxRecDepth 65536 in
set_option maxHeartbeats 40000000 in
theorem pick4 (l : Launch) (Z : State) (a0 : Array Value) (hw : ∀ d ∈ tables_1, d.before a0 Z = true) (a : Addr) (h0 : Heap) (O0 : Ext Z.heap h0) (S : Sta Z Z.heap "com/example/depositum/depositum/format/FileFormat" "POSTSCRIPT" "Lcom/example/depositum/depositum/format/FileFormat;" (.ref a)) :
    Ctr l Z h0 (⟨"com/example/depositum/depositum/format/FileFormatIsContainerPinLaw", "pick", "(I)Lcom/example/depositum/depositum/format/FileFormat;"⟩ : MethodName) method_3_code 1 (some (.object "com/example/depositum/depositum/format/FileFormat")) [] ({ frames := 0, cells := 0, slots := 0, locals := 0 } : Room) #[(.int (4 : Int32))] (Q_pick4 Z a h0) := by
  refine enter (plainFor_of_name pn0) ?_
  intro p e s m below meth c s₁ hx hby hml hZ hown hnm hret hlk X0 e0 hs0
  replace hown : s.vm.findClass "com/example/depositum/depositum/format/FileFormatIsContainerPinLaw" = some m.cls := hown
  refine Go.cast (congrArg s₁.setTop (ef_pick4 m)) ?_
  have N0 := Fr.nil Z.heap.size
  show Go p e below _ (s₁.setTop (mkF m 0 #[.val (.int (4 : Int32))] []))
  refine Go.iloadN X0 hx (hb hby d1_0) rfl (q := 1) rfl ?_
  refine Go.ifYes X0 hx (hb hby d1_1) (by decide) (q := 8) (by decide) (by decide) ?_
  refine Go.iloadN X0 hx (hb hby d1_8) rfl (q := 9) rfl ?_
  refine Go.iconst X0 hx (hb hby d1_9) (r := (1 : Int32)) rfl (q := 10) rfl ?_
  refine Go.icmpYes X0 hx (hb hby d1_10) (by decide) (q := 17) (by decide) (by decide) ?_
  refine Go.iloadN X0 hx (hb hby d1_17) rfl (q := 18) rfl ?_
  refine Go.iconst X0 hx (hb hby d1_18) (r := (2 : Int32)) rfl (q := 19) rfl ?_
  refine Go.icmpYes X0 hx (hb hby d1_19) (by decide) (q := 26) (by decide) (by decide) ?_
  refine Go.iloadN X0 hx (hb hby d1_26) rfl (q := 27) rfl ?_
  refine Go.iconst X0 hx (hb hby d1_27) (r := (3 : Int32)) rfl (q := 28) rfl ?_
  refine Go.icmpYes X0 hx (hb hby d1_28) (by decide) (q := 35) (by decide) (by decide) ?_
  refine Go.iloadN X0 hx (hb hby d1_35) rfl (q := 36) rfl ?_
  refine Go.iconst X0 hx (hb hby d1_36) (r := (4 : Int32)) rfl (q := 37) rfl ?_
  refine Go.icmpNo X0 hx (hb hby d1_37) (by decide) (q := 40) rfl ?_
  refine Go.getS X0 hx hZ hown (host := "") (Or.inl (wd24 hw)) Via.refl e0 (S.ext O0) (hb hby d1_40) (q := 43) rfl ?_
  intro T1 X1 e1
  exact Go.retA X1 hx hret hlk rfl rfl (hb hby d1_43) e1 (by decide) (by decide) ⟨rfl, N0, rfl⟩
def Q_pick5 (Z : State) (a : Addr) (h0 : Heap) (v : Option Value) (h : Heap) (L : List Loc) : Prop := v = some (.ref a) ∧ Fr Z.heap.size L ∧ h = h0
set_option maxRecDepth 65536 in
set_option maxHeartbeats 40000000 in
theorem pick5 (l : Launch) (Z : State) (a0 : Array Value) (hw : ∀ d ∈ tables_1, d.before a0 Z = true) (a : Addr) (h0 : Heap) (O0 : Ext Z.heap h0) (S : Sta Z Z.heap "com/example/depositum/depositum/format/FileFormat" "MP3" "Lcom/example/depositum/depositum/format/FileFormat;" (.ref a)) :
    Ctr l Z h0 (⟨"com/example/depositum/depositum/format/FileFormatIsContainerPinLaw", "pick", "(I)Lcom/example/depositum/depositum/format/FileFormat;"⟩ : MethodName) method_3_code 1 (some (.object "com/example/depositum/depositum/format/FileFormat")) [] ({ frames := 0, cells := 0, slots := 0, locals := 0 } : Room) #[(.int (5 : Int32))] (Q_pick5 Z a h0) := by
  refine enter (plainFor_of_name pn0) ?_
  intro p e s m below meth c s₁ hx hby hml hZ hown hnm hret hlk X0 e0 hs0
  replace hown : s.vm.findClass "com/example/depositum/depositum/format/FileFormatIsContainerPinLaw" = some m.cls := hown
  refine Go.cast (congrArg s₁.setTop (ef_pick5 m)) ?_
  have N0 := Fr.nil Z.heap.size
  show Go p e below _ (s₁.setTop (mkF m 0 #[.val (.int (5 : Int32))] []))
  refine Go.iloadN X0 hx (hb hby d1_0) rfl (q := 1) rfl ?_
  refine Go.ifYes X0 hx (hb hby d1_1) (by decide) (q := 8) (by decide) (by decide) ?_
  refine Go.iloadN X0 hx (hb hby d1_8) rfl (q := 9) rfl ?_
  refine Go.iconst X0 hx (hb hby d1_9) (r := (1 : Int32)) rfl (q := 10) rfl ?_
  refine Go.icmpYes X0 hx (hb hby d1_10) (by decide) (q := 17) (by decide) (by decide) ?_
  refine Go.iloadN X0 hx (hb hby d1_17) rfl (q := 18) rfl ?_
  refine Go.iconst X0 hx (hb hby d1_18) (r := (2 : Int32)) rfl (q := 19) rfl ?_
  refine Go.icmpYes X0 hx (hb hby d1_19) (by decide) (q := 26) (by decide) (by decide) ?_
  refine Go.iloadN X0 hx (hb hby d1_26) rfl (q := 27) rfl ?_
  refine Go.iconst X0 hx (hb hby d1_27) (r := (3 : Int32)) rfl (q := 28) rfl ?_
  refine Go.icmpYes X0 hx (hb hby d1_28) (by decide) (q := 35) (by decide) (by decide) ?_
  refine Go.iloadN X0 hx (hb hby d1_35) rfl (q := 36) rfl ?_
  refine Go.iconst X0 hx (hb hby d1_36) (r := (4 : Int32)) rfl (q := 37) rfl ?_
  refine Go.icmpYes X0 hx (hb hby d1_37) (by decide) (q := 44) (by decide) (by decide) ?_
  refine Go.iloadN X0 hx (hb hby d1_44) rfl (q := 45) rfl ?_
  refine Go.iconst X0 hx (hb hby d1_45) (r := (5 : Int32)) rfl (q := 46) rfl ?_
  refine Go.icmpNo X0 hx (hb hby d1_46) (by decide) (q := 49) rfl ?_
  refine Go.getS X0 hx hZ hown (host := "") (Or.inl (wd29 hw)) Via.refl e0 (S.ext O0) (hb hby d1_49) (q := 52) rfl ?_
  intro T1 X1 e1
  exact Go.retA X1 hx hret hlk rfl rfl (hb hby d1_52) e1 (by decide) (by decide) ⟨rfl, N0, rfl⟩
def Q_pick6 (Z : State) (a : Addr) (h0 : Heap) (v : Option Value) (h : Heap) (L : List Loc) : Prop := v = some (.ref a) ∧ Fr Z.heap.size L ∧ h = h0
set_option maxRecDepth 65536 in
set_option maxHeartbeats 40000000 in
theorem pick6 (l : Launch) (Z : State) (a0 : Array Value) (hw : ∀ d ∈ tables_1, d.before a0 Z = true) (a : Addr) (h0 : Heap) (O0 : Ext Z.heap h0) (S : Sta Z Z.heap "com/example/depositum/depositum/format/FileFormat" "ZIP" "Lcom/example/depositum/depositum/format/FileFormat;" (.ref a)) :
    Ctr l Z h0 (⟨"com/example/depositum/depositum/format/FileFormatIsContainerPinLaw", "pick", "(I)Lcom/example/depositum/depositum/format/FileFormat;"⟩ : MethodName) method_3_code 1 (some (.object "com/example/depositum/depositum/format/FileFormat")) [] ({ frames := 0, cells := 0, slots := 0, locals := 0 } : Room) #[(.int (6 : Int32))] (Q_pick6 Z a h0) := by
  refine enter (plainFor_of_name pn0) ?_
  intro p e s m below meth c s₁ hx hby hml hZ hown hnm hret hlk X0 e0 hs0
  replace hown : s.vm.findClass "com/example/depositum/depositum/format/FileFormatIsContainerPinLaw" = some m.cls := hown
  refine Go.cast (congrArg s₁.setTop (ef_pick6 m)) ?_
  have N0 := Fr.nil Z.heap.size
  show Go p e below _ (s₁.setTop (mkF m 0 #[.val (.int (6 : Int32))] []))
  refine Go.iloadN X0 hx (hb hby d1_0) rfl (q := 1) rfl ?_
  refine Go.ifYes X0 hx (hb hby d1_1) (by decide) (q := 8) (by decide) (by decide) ?_
  refine Go.iloadN X0 hx (hb hby d1_8) rfl (q := 9) rfl ?_
  refine Go.iconst X0 hx (hb hby d1_9) (r := (1 : Int32)) rfl (q := 10) rfl ?_
  refine Go.icmpYes X0 hx (hb hby d1_10) (by decide) (q := 17) (by decide) (by decide) ?_
  refine Go.iloadN X0 hx (hb hby d1_17) rfl (q := 18) rfl ?_
  refine Go.iconst X0 hx (hb hby d1_18) (r := (2 : Int32)) rfl (q := 19) rfl ?_
  refine Go.icmpYes X0 hx (hb hby d1_19) (by decide) (q := 26) (by decide) (by decide) ?_
  refine Go.iloadN X0 hx (hb hby d1_26) rfl (q := 27) rfl ?_
  refine Go.iconst X0 hx (hb hby d1_27) (r := (3 : Int32)) rfl (q := 28) rfl ?_
  refine Go.icmpYes X0 hx (hb hby d1_28) (by decide) (q := 35) (by decide) (by decide) ?_
  refine Go.iloadN X0 hx (hb hby d1_35) rfl (q := 36) rfl ?_
  refine Go.iconst X0 hx (hb hby d1_36) (r := (4 : Int32)) rfl (q := 37) rfl ?_
  refine Go.icmpYes X0 hx (hb hby d1_37) (by decide) (q := 44) (by decide) (by decide) ?_
  refine Go.iloadN X0 hx (hb hby d1_44) rfl (q := 45) rfl ?_
  refine Go.iconst X0 hx (hb hby d1_45) (r := (5 : Int32)) rfl (q := 46) rfl ?_
  refine Go.icmpYes X0 hx (hb hby d1_46) (by decide) (q := 53) (by decide) (by decide) ?_
  refine Go.iloadN X0 hx (hb hby d1_53) rfl (q := 54) rfl ?_
  refine Go.bipush X0 hx (hb hby d1_54) (r := (6 : Int32)) rfl (q := 56) rfl ?_
  refine Go.icmpNo X0 hx (hb hby d1_56) (by decide) (q := 59) rfl ?_
  refine Go.getS X0 hx hZ hown (host := "") (Or.inl (wd28 hw)) Via.refl e0 (S.ext O0) (hb hby d1_59) (q := 62) rfl ?_
  intro T1 X1 e1
  exact Go.retA X1 hx hret hlk rfl rfl (hb hby d1_62) e1 (by decide) (by decide) ⟨rfl, N0, rfl⟩
def Q_pick7 (Z : State) (a : Addr) (h0 : Heap) (v : Option Value) (h : Heap) (L : List Loc) : Prop := v = some (.ref a) ∧ Fr Z.heap.size L ∧ h = h0
set_option maxRecDepth 65536 in
set_option maxHeartbeats 40000000 in
theorem pick7 (l : Launch) (Z : State) (a0 : Array Value) (hw : ∀ d ∈ tables_1, d.before a0 Z = true) (a : Addr) (h0 : Heap) (O0 : Ext Z.heap h0) (S : Sta Z Z.heap "com/example/depositum/depositum/format/FileFormat" "TAR" "Lcom/example/depositum/depositum/format/FileFormat;" (.ref a)) :
    Ctr l Z h0 (⟨"com/example/depositum/depositum/format/FileFormatIsContainerPinLaw", "pick", "(I)Lcom/example/depositum/depositum/format/FileFormat;"⟩ : MethodName) method_3_code 1 (some (.object "com/example/depositum/depositum/format/FileFormat")) [] ({ frames := 0, cells := 0, slots := 0, locals := 0 } : Room) #[(.int (7 : Int32))] (Q_pick7 Z a h0) := by
  refine enter (plainFor_of_name pn0) ?_
  intro p e s m below meth c s₁ hx hby hml hZ hown hnm hret hlk X0 e0 hs0
  replace hown : s.vm.findClass "com/example/depositum/depositum/format/FileFormatIsContainerPinLaw" = some m.cls := hown
  refine Go.cast (congrArg s₁.setTop (ef_pick7 m)) ?_
  have N0 := Fr.nil Z.heap.size
  show Go p e below _ (s₁.setTop (mkF m 0 #[.val (.int (7 : Int32))] []))
  refine Go.iloadN X0 hx (hb hby d1_0) rfl (q := 1) rfl ?_
  refine Go.ifYes X0 hx (hb hby d1_1) (by decide) (q := 8) (by decide) (by decide) ?_
  refine Go.iloadN X0 hx (hb hby d1_8) rfl (q := 9) rfl ?_
  refine Go.iconst X0 hx (hb hby d1_9) (r := (1 : Int32)) rfl (q := 10) rfl ?_
  refine Go.icmpYes X0 hx (hb hby d1_10) (by decide) (q := 17) (by decide) (by decide) ?_
  refine Go.iloadN X0 hx (hb hby d1_17) rfl (q := 18) rfl ?_
  refine Go.iconst X0 hx (hb hby d1_18) (r := (2 : Int32)) rfl (q := 19) rfl ?_
  refine Go.icmpYes X0 hx (hb hby d1_19) (by decide) (q := 26) (by decide) (by decide) ?_
  refine Go.iloadN X0 hx (hb hby d1_26) rfl (q := 27) rfl ?_
  refine Go.iconst X0 hx (hb hby d1_27) (r := (3 : Int32)) rfl (q := 28) rfl ?_
  refine Go.icmpYes X0 hx (hb hby d1_28) (by decide) (q := 35) (by decide) (by decide) ?_
  refine Go.iloadN X0 hx (hb hby d1_35) rfl (q := 36) rfl ?_
  refine Go.iconst X0 hx (hb hby d1_36) (r := (4 : Int32)) rfl (q := 37) rfl ?_
  refine Go.icmpYes X0 hx (hb hby d1_37) (by decide) (q := 44) (by decide) (by decide) ?_
  refine Go.iloadN X0 hx (hb hby d1_44) rfl (q := 45) rfl ?_
  refine Go.iconst X0 hx (hb hby d1_45) (r := (5 : Int32)) rfl (q := 46) rfl ?_
  refine Go.icmpYes X0 hx (hb hby d1_46) (by decide) (q := 53) (by decide) (by decide) ?_
  refine Go.iloadN X0 hx (hb hby d1_53) rfl (q := 54) rfl ?_
  refine Go.bipush X0 hx (hb hby d1_54) (r := (6 : Int32)) rfl (q := 56) rfl ?_
  refine Go.icmpYes X0 hx (hb hby d1_56) (by decide) (q := 63) (by decide) (by decide) ?_
  refine Go.iloadN X0 hx (hb hby d1_63) rfl (q := 64) rfl ?_
  refine Go.bipush X0 hx (hb hby d1_64) (r := (7 : Int32)) rfl (q := 66) rfl ?_
  refine Go.icmpNo X0 hx (hb hby d1_66) (by decide) (q := 69) rfl ?_
  refine Go.getS X0 hx hZ hown (host := "") (Or.inl (wd23 hw)) Via.refl e0 (S.ext O0) (hb hby d1_69) (q := 72) rfl ?_
  intro T1 X1 e1
  exact Go.retA X1 hx hret hlk rfl rfl (hb hby d1_72) e1 (by decide) (by decide) ⟨rfl, N0, rfl⟩
def Q_pick8 (Z : State) (a : Addr) (h0 : Heap) (v : Option Value) (h : Heap) (L : List Loc) : Prop := v = some (.ref a) ∧ Fr Z.heap.size L ∧ h = h0
set_option maxRecDepth 65536 in
set_option maxHeartbeats 40000000 in
theorem pick8 (l : Launch) (Z : State) (a0 : Array Value) (hw : ∀ d ∈ tables_1, d.before a0 Z = true) (a : Addr) (h0 : Heap) (O0 : Ext Z.heap h0) (S : Sta Z Z.heap "com/example/depositum/depositum/format/FileFormat" "OTHER" "Lcom/example/depositum/depositum/format/FileFormat;" (.ref a)) :
    Ctr l Z h0 (⟨"com/example/depositum/depositum/format/FileFormatIsContainerPinLaw", "pick", "(I)Lcom/example/depositum/depositum/format/FileFormat;"⟩ : MethodName) method_3_code 1 (some (.object "com/example/depositum/depositum/format/FileFormat")) [] ({ frames := 0, cells := 0, slots := 0, locals := 0 } : Room) #[(.int (8 : Int32))] (Q_pick8 Z a h0) := by
  refine enter (plainFor_of_name pn0) ?_
  intro p e s m below meth c s₁ hx hby hml hZ hown hnm hret hlk X0 e0 hs0
  replace hown : s.vm.findClass "com/example/depositum/depositum/format/FileFormatIsContainerPinLaw" = some m.cls := hown
  refine Go.cast (congrArg s₁.setTop (ef_pick8 m)) ?_
  have N0 := Fr.nil Z.heap.size
  show Go p e below _ (s₁.setTop (mkF m 0 #[.val (.int (8 : Int32))] []))
  refine Go.iloadN X0 hx (hb hby d1_0) rfl (q := 1) rfl ?_
  refine Go.ifYes X0 hx (hb hby d1_1) (by decide) (q := 8) (by decide) (by decide) ?_
  refine Go.iloadN X0 hx (hb hby d1_8) rfl (q := 9) rfl ?_
  refine Go.iconst X0 hx (hb hby d1_9) (r := (1 : Int32)) rfl (q := 10) rfl ?_
  refine Go.icmpYes X0 hx (hb hby d1_10) (by decide) (q := 17) (by decide) (by decide) ?_
  refine Go.iloadN X0 hx (hb hby d1_17) rfl (q := 18) rfl ?_
  refine Go.iconst X0 hx (hb hby d1_18) (r := (2 : Int32)) rfl (q := 19) rfl ?_
  refine Go.icmpYes X0 hx (hb hby d1_19) (by decide) (q := 26) (by decide) (by decide) ?_
  refine Go.iloadN X0 hx (hb hby d1_26) rfl (q := 27) rfl ?_
  refine Go.iconst X0 hx (hb hby d1_27) (r := (3 : Int32)) rfl (q := 28) rfl ?_
  refine Go.icmpYes X0 hx (hb hby d1_28) (by decide) (q := 35) (by decide) (by decide) ?_
  refine Go.iloadN X0 hx (hb hby d1_35) rfl (q := 36) rfl ?_
  refine Go.iconst X0 hx (hb hby d1_36) (r := (4 : Int32)) rfl (q := 37) rfl ?_
  refine Go.icmpYes X0 hx (hb hby d1_37) (by decide) (q := 44) (by decide) (by decide) ?_
  refine Go.iloadN X0 hx (hb hby d1_44) rfl (q := 45) rfl ?_
  refine Go.iconst X0 hx (hb hby d1_45) (r := (5 : Int32)) rfl (q := 46) rfl ?_
  refine Go.icmpYes X0 hx (hb hby d1_46) (by decide) (q := 53) (by decide) (by decide) ?_
  refine Go.iloadN X0 hx (hb hby d1_53) rfl (q := 54) rfl ?_
  refine Go.bipush X0 hx (hb hby d1_54) (r := (6 : Int32)) rfl (q := 56) rfl ?_
  refine Go.icmpYes X0 hx (hb hby d1_56) (by decide) (q := 63) (by decide) (by decide) ?_
  refine Go.iloadN X0 hx (hb hby d1_63) rfl (q := 64) rfl ?_
  refine Go.bipush X0 hx (hb hby d1_64) (r := (7 : Int32)) rfl (q := 66) rfl ?_
  refine Go.icmpYes X0 hx (hb hby d1_66) (by decide) (q := 73) (by decide) (by decide) ?_
  refine Go.getS X0 hx hZ hown (host := "") (Or.inl (wd26 hw)) Via.refl e0 (S.ext O0) (hb hby d1_73) (q := 76) rfl ?_
  intro T1 X1 e1
  exact Go.retA X1 hx hret hlk rfl rfl (hb hby d1_76) e1 (by decide) (by decide) ⟨rfl, N0, rfl⟩
def Q_is_p (Z : State) (a_ZIP : Addr) (a_TAR : Addr) (h0 : Heap) (v : Option Value) (h : Heap) (L : List Loc) : Prop := v = some (.int (1 : Int32)) ∧ Fr Z.heap.size L ∧ h = h0
set_option maxRecDepth 65536 in
set_option maxHeartbeats 40000000 in
theorem is_p (l : Launch) (Z : State) (a0 : Array Value) (hw : ∀ d ∈ tables_1, d.before a0 Z = true) (a_ZIP : Addr) (a_TAR : Addr) (h0 : Heap) (O0 : Ext Z.heap h0) (S_ZIP : Sta Z Z.heap "com/example/depositum/depositum/format/FileFormat" "ZIP" "Lcom/example/depositum/depositum/format/FileFormat;" (.ref a_ZIP)) (S_TAR : Sta Z Z.heap "com/example/depositum/depositum/format/FileFormat" "TAR" "Lcom/example/depositum/depositum/format/FileFormat;" (.ref a_TAR)) :
    Ctr l Z h0 (⟨"com/example/depositum/depositum/format/FileFormat", "isContainer", "()Z"⟩ : MethodName) prog_37_method_4_code 1 (some .boolean) [] ({ frames := 0, cells := 0, slots := 0, locals := 0 } : Room) #[(.ref a_ZIP)] (Q_is_p Z a_ZIP a_TAR h0) := by
  refine enter (plainFor_of_name pn1) ?_
  intro p e s m below meth c s₁ hx hby hml hZ hown hnm hret hlk X0 e0 hs0
  replace hown : s.vm.findClass "com/example/depositum/depositum/format/FileFormat" = some m.cls := hown
  refine Go.cast (congrArg s₁.setTop (ef_is_p m a_ZIP)) ?_
  have N0 := Fr.nil Z.heap.size
  show Go p e below _ (s₁.setTop (mkF m 0 #[.val (.ref a_ZIP)] []))
  refine Go.aloadN X0 hx (hb hby d2_0) rfl rfl (q := 1) rfl ?_
  refine Go.getS X0 hx hZ hown (host := "") (Or.inl (wd13 hw)) Via.refl e0 (S_ZIP.ext O0) (hb hby d2_1) (q := 4) rfl ?_
  intro T1 X1 e1
  refine Go.acmp X1 hx rfl rfl (hb hby d2_4) (same := true) (decide_eq_true rfl) (q := 14) (by decide) (by decide) ?_
  refine Go.iconst X1 hx (hb hby d2_14) (r := (1 : Int32)) rfl (q := 15) rfl ?_
  refine Go.goto X1 hx (hb hby d2_15) (q := 19) (by decide) (by decide) ?_
  exact Go.retI X1 hx hret hlk (by simp) rfl (hb hby d2_19) e1 (by decide) (by decide) ⟨rfl, N0, rfl⟩
def Q_is_q (Z : State) (a_ZIP : Addr) (a_TAR : Addr) (h0 : Heap) (v : Option Value) (h : Heap) (L : List Loc) : Prop := v = some (.int (1 : Int32)) ∧ Fr Z.heap.size L ∧ h = h0
set_option maxRecDepth 65536 in
set_option maxHeartbeats 40000000 in
theorem is_q (l : Launch) (Z : State) (a0 : Array Value) (hw : ∀ d ∈ tables_1, d.before a0 Z = true) (a_ZIP : Addr) (a_TAR : Addr) (h0 : Heap) (O0 : Ext Z.heap h0) (n0 : a_TAR ≠ a_ZIP) (S_ZIP : Sta Z Z.heap "com/example/depositum/depositum/format/FileFormat" "ZIP" "Lcom/example/depositum/depositum/format/FileFormat;" (.ref a_ZIP)) (S_TAR : Sta Z Z.heap "com/example/depositum/depositum/format/FileFormat" "TAR" "Lcom/example/depositum/depositum/format/FileFormat;" (.ref a_TAR)) :
    Ctr l Z h0 (⟨"com/example/depositum/depositum/format/FileFormat", "isContainer", "()Z"⟩ : MethodName) prog_37_method_4_code 1 (some .boolean) [] ({ frames := 0, cells := 0, slots := 0, locals := 0 } : Room) #[(.ref a_TAR)] (Q_is_q Z a_ZIP a_TAR h0) := by
  refine enter (plainFor_of_name pn1) ?_
  intro p e s m below meth c s₁ hx hby hml hZ hown hnm hret hlk X0 e0 hs0
  replace hown : s.vm.findClass "com/example/depositum/depositum/format/FileFormat" = some m.cls := hown
  refine Go.cast (congrArg s₁.setTop (ef_is_q m a_TAR)) ?_
  have N0 := Fr.nil Z.heap.size
  show Go p e below _ (s₁.setTop (mkF m 0 #[.val (.ref a_TAR)] []))
  refine Go.aloadN X0 hx (hb hby d2_0) rfl rfl (q := 1) rfl ?_
  refine Go.getS X0 hx hZ hown (host := "") (Or.inl (wd13 hw)) Via.refl e0 (S_ZIP.ext O0) (hb hby d2_1) (q := 4) rfl ?_
  intro T1 X1 e1
  refine Go.acmp X1 hx rfl rfl (hb hby d2_4) (same := false) (decide_eq_false fun q => n0 (Value.ref.inj q)) (q := 7) (by decide) (by decide) ?_
  refine Go.aloadN X1 hx (hb hby d2_7) rfl rfl (q := 8) rfl ?_
  refine Go.getS X1 hx hZ hown (host := "") (Or.inl (wd15 hw)) Via.refl e1 (S_TAR.ext O0) (hb hby d2_8) (q := 11) rfl ?_
  intro T2 X2 e2
  refine Go.acmp X2 hx rfl rfl (hb hby d2_11) (same := true) (decide_eq_true rfl) (q := 14) (by decide) (by decide) ?_
  refine Go.iconst X2 hx (hb hby d2_14) (r := (1 : Int32)) rfl (q := 15) rfl ?_
  refine Go.goto X2 hx (hb hby d2_15) (q := 19) (by decide) (by decide) ?_
  exact Go.retI X2 hx hret hlk (by simp) rfl (hb hby d2_19) e2 (by decide) (by decide) ⟨rfl, N0, rfl⟩
def Q_is_no (Z : State) (a_ZIP : Addr) (a_TAR : Addr) (a : Addr) (h0 : Heap) (v : Option Value) (h : Heap) (L : List Loc) : Prop := v = some (.int (0 : Int32)) ∧ Fr Z.heap.size L ∧ h = h0
set_option maxRecDepth 65536 in
set_option maxHeartbeats 40000000 in
theorem is_no (l : Launch) (Z : State) (a0 : Array Value) (hw : ∀ d ∈ tables_1, d.before a0 Z = true) (a_ZIP : Addr) (a_TAR : Addr) (a : Addr) (h0 : Heap) (O0 : Ext Z.heap h0) (n0 : a ≠ a_ZIP) (n1 : a ≠ a_TAR) (S_ZIP : Sta Z Z.heap "com/example/depositum/depositum/format/FileFormat" "ZIP" "Lcom/example/depositum/depositum/format/FileFormat;" (.ref a_ZIP)) (S_TAR : Sta Z Z.heap "com/example/depositum/depositum/format/FileFormat" "TAR" "Lcom/example/depositum/depositum/format/FileFormat;" (.ref a_TAR)) :
    Ctr l Z h0 (⟨"com/example/depositum/depositum/format/FileFormat", "isContainer", "()Z"⟩ : MethodName) prog_37_method_4_code 1 (some .boolean) [] ({ frames := 0, cells := 0, slots := 0, locals := 0 } : Room) #[(.ref a)] (Q_is_no Z a_ZIP a_TAR a h0) := by
  refine enter (plainFor_of_name pn1) ?_
  intro p e s m below meth c s₁ hx hby hml hZ hown hnm hret hlk X0 e0 hs0
  replace hown : s.vm.findClass "com/example/depositum/depositum/format/FileFormat" = some m.cls := hown
  refine Go.cast (congrArg s₁.setTop (ef_is_no m a)) ?_
  have N0 := Fr.nil Z.heap.size
  show Go p e below _ (s₁.setTop (mkF m 0 #[.val (.ref a)] []))
  refine Go.aloadN X0 hx (hb hby d2_0) rfl rfl (q := 1) rfl ?_
  refine Go.getS X0 hx hZ hown (host := "") (Or.inl (wd13 hw)) Via.refl e0 (S_ZIP.ext O0) (hb hby d2_1) (q := 4) rfl ?_
  intro T1 X1 e1
  refine Go.acmp X1 hx rfl rfl (hb hby d2_4) (same := false) (decide_eq_false fun q => n0 (Value.ref.inj q)) (q := 7) (by decide) (by decide) ?_
  refine Go.aloadN X1 hx (hb hby d2_7) rfl rfl (q := 8) rfl ?_
  refine Go.getS X1 hx hZ hown (host := "") (Or.inl (wd15 hw)) Via.refl e1 (S_TAR.ext O0) (hb hby d2_8) (q := 11) rfl ?_
  intro T2 X2 e2
  refine Go.acmp X2 hx rfl rfl (hb hby d2_11) (same := false) (decide_eq_false fun q => n1 (Value.ref.inj q)) (q := 18) (by decide) (by decide) ?_
  refine Go.iconst X2 hx (hb hby d2_18) (r := (0 : Int32)) rfl (q := 19) rfl ?_
  exact Go.retI X2 hx hret hlk (by simp) rfl (hb hby d2_19) e2 (by decide) (by decide) ⟨rfl, N0, rfl⟩
def Q_law0 (Z : State) (x0 : Int32) (a_PDF : Addr) (a_EPUB : Addr) (a_TIFF : Addr) (a_JPEG : Addr) (a_POSTSCRIPT : Addr) (a_MP3 : Addr) (a_ZIP : Addr) (a_TAR : Addr) (a_OTHER : Addr) (h0 : Heap) (v : Option Value) (h : Heap) (L : List Loc) : Prop := v = some (.int (1 : Int32)) ∧ Fr Z.heap.size L
set_option maxRecDepth 65536 in
set_option maxHeartbeats 40000000 in
theorem law0 (l : Launch) (Z : State) (a0 : Array Value) (hw : ∀ d ∈ tables_1, d.before a0 Z = true) (x0 : Int32) (a_PDF : Addr) (a_EPUB : Addr) (a_TIFF : Addr) (a_JPEG : Addr) (a_POSTSCRIPT : Addr) (a_MP3 : Addr) (a_ZIP : Addr) (a_TAR : Addr) (a_OTHER : Addr) (h0 : Heap) (O0 : Ext Z.heap h0) (ne_0_6 : a_PDF ≠ a_ZIP) (ne_0_7 : a_PDF ≠ a_TAR) (ne_1_6 : a_EPUB ≠ a_ZIP) (ne_1_7 : a_EPUB ≠ a_TAR) (ne_2_6 : a_TIFF ≠ a_ZIP) (ne_2_7 : a_TIFF ≠ a_TAR) (ne_3_6 : a_JPEG ≠ a_ZIP) (ne_3_7 : a_JPEG ≠ a_TAR) (ne_4_6 : a_POSTSCRIPT ≠ a_ZIP) (ne_4_7 : a_POSTSCRIPT ≠ a_TAR) (ne_5_6 : a_MP3 ≠ a_ZIP) (ne_5_7 : a_MP3 ≠ a_TAR) (ne_7_6 : a_TAR ≠ a_ZIP) (ne_8_6 : a_OTHER ≠ a_ZIP) (ne_8_7 : a_OTHER ≠ a_TAR) (S_PDF : Sta Z Z.heap "com/example/depositum/depositum/format/FileFormat" "PDF" "Lcom/example/depositum/depositum/format/FileFormat;" (.ref a_PDF)) (S_EPUB : Sta Z Z.heap "com/example/depositum/depositum/format/FileFormat" "EPUB" "Lcom/example/depositum/depositum/format/FileFormat;" (.ref a_EPUB)) (S_TIFF : Sta Z Z.heap "com/example/depositum/depositum/format/FileFormat" "TIFF" "Lcom/example/depositum/depositum/format/FileFormat;" (.ref a_TIFF)) (S_JPEG : Sta Z Z.heap "com/example/depositum/depositum/format/FileFormat" "JPEG" "Lcom/example/depositum/depositum/format/FileFormat;" (.ref a_JPEG)) (S_POSTSCRIPT : Sta Z Z.heap "com/example/depositum/depositum/format/FileFormat" "POSTSCRIPT" "Lcom/example/depositum/depositum/format/FileFormat;" (.ref a_POSTSCRIPT)) (S_MP3 : Sta Z Z.heap "com/example/depositum/depositum/format/FileFormat" "MP3" "Lcom/example/depositum/depositum/format/FileFormat;" (.ref a_MP3)) (S_ZIP : Sta Z Z.heap "com/example/depositum/depositum/format/FileFormat" "ZIP" "Lcom/example/depositum/depositum/format/FileFormat;" (.ref a_ZIP)) (S_TAR : Sta Z Z.heap "com/example/depositum/depositum/format/FileFormat" "TAR" "Lcom/example/depositum/depositum/format/FileFormat;" (.ref a_TAR)) (S_OTHER : Sta Z Z.heap "com/example/depositum/depositum/format/FileFormat" "OTHER" "Lcom/example/depositum/depositum/format/FileFormat;" (.ref a_OTHER)) (E_PDF : Exa Z Z.heap a_PDF "com/example/depositum/depositum/format/FileFormat") (E_EPUB : Exa Z Z.heap a_EPUB "com/example/depositum/depositum/format/FileFormat") (E_TIFF : Exa Z Z.heap a_TIFF "com/example/depositum/depositum/format/FileFormat") (E_JPEG : Exa Z Z.heap a_JPEG "com/example/depositum/depositum/format/FileFormat") (E_POSTSCRIPT : Exa Z Z.heap a_POSTSCRIPT "com/example/depositum/depositum/format/FileFormat") (E_MP3 : Exa Z Z.heap a_MP3 "com/example/depositum/depositum/format/FileFormat") (E_ZIP : Exa Z Z.heap a_ZIP "com/example/depositum/depositum/format/FileFormat") (E_TAR : Exa Z Z.heap a_TAR "com/example/depositum/depositum/format/FileFormat") (E_OTHER : Exa Z Z.heap a_OTHER "com/example/depositum/depositum/format/FileFormat") :
    Ctr l Z h0 x code maxLocals ret tables_1 room_1 #[(.int x0)] (Q_law0 Z x0 a_PDF a_EPUB a_TIFF a_JPEG a_POSTSCRIPT a_MP3 a_ZIP a_TAR a_OTHER h0) := by
  refine enter (plainFor_of_name pn0) ?_
  intro p e s m below meth c s₁ hx hby hml hZ hown hnm hret hlk X0 e0 hs0
  replace hown : s.vm.findClass "com/example/depositum/depositum/format/FileFormatIsContainerPinLaw" = some m.cls := hown
  refine Go.cast (congrArg s₁.setTop (ef_law0 m x0)) ?_
  have N0 := Fr.nil Z.heap.size
  show Go p e below _ (s₁.setTop (mkF m 0 #[.val (.int x0), .unset, .unset, .unset] []))
  refine Go.iloadN X0 hx (hb hby at_0) rfl (q := 1) rfl ?_
  refine Go.ldcI X0 hx hZ hown (wd0 hw) (hb hby at_1) (q := 3) rfl ?_
  refine Go.iand X0 hx (hb hby at_3) rfl (q := 4) rfl ?_
  refine Go.bipush X0 hx (hb hby at_4) (r := (9 : Int32)) rfl (q := 6) rfl ?_
  refine Go.irem X0 hx (hb hby at_6) (by decide) rfl (q := 7) rfl ?_
  have hk := own_rem9 x0
  generalize ((x0 &&& (2147483647 : Int32)) % (9 : Int32)) = k at hk ⊢
  rcases hk with rfl | rfl | rfl | rfl | rfl | rfl | rfl | rfl | rfl
  · show Go p e below _ (s₁.setTop (mkF m 7 #[.val (.int x0), .unset, .unset, .unset] [(.int (0 : Int32))]))
    refine Go.istoreN X0 hx (hb hby at_7) (l' := #[.val (.int x0), .val (.int (0 : Int32)), .unset, .unset]) rfl (q := 8) rfl ?_
    refine Go.iloadN X0 hx (hb hby at_8) rfl (q := 9) rfl ?_
    refine Go.callS X0 hx hZ hown (wd1 hw) (wd2 hw) (wd3 hw) (wd4 hw) (by decide) (pick0 l Z a0 hw a_PDF h0 O0 S_PDF) e0 (by rw [hml]; rfl) (hb hby at_9) (argsL := [(.int (0 : Int32))]) (rest := []) (lenOf pd0 rfl) rfl rfl (W := 0) (by first | exact Nat.le_refl _ | decide) (by decide) (by decide) (by decide) (by decide) ?_
    intro v1 T1 L1 X1 hQ1
    obtain ⟨rfl, N1q, e1⟩ := hQ1
    have N1 := Fr.app N0 N1q
    refine Go.astoreN X1 hx (hb hby at_12) rfl (l' := #[.val (.int x0), .val (.int (0 : Int32)), .val (.ref a_PDF), .unset]) rfl (q := 13) rfl ?_
    refine Go.iloadN X1 hx (hb hby at_13) rfl (q := 14) rfl ?_
    refine Go.bipush X1 hx (hb hby at_14) (r := (6 : Int32)) rfl (q := 16) rfl ?_
    refine Go.icmpNo X1 hx (hb hby at_16) (by decide) (q := 19) rfl ?_
    refine Go.iloadN X1 hx (hb hby at_19) rfl (q := 20) rfl ?_
    refine Go.bipush X1 hx (hb hby at_20) (r := (7 : Int32)) rfl (q := 22) rfl ?_
    refine Go.icmpYes X1 hx (hb hby at_22) (by decide) (q := 29) (by decide) (by decide) ?_
    refine Go.iconst X1 hx (hb hby at_29) (r := (0 : Int32)) rfl (q := 30) rfl ?_
    refine Go.istoreN X1 hx (hb hby at_30) (l' := #[.val (.int x0), .val (.int (0 : Int32)), .val (.ref a_PDF), .val (.int (0 : Int32))]) rfl (q := 31) rfl ?_
    refine Go.aloadN X1 hx (hb hby at_31) rfl rfl (q := 32) rfl ?_
    refine Go.virt X1 hx hZ hown (wd8 hw) (wd9 hw) (notFace_of_selects (args := #[]) (mvT hZ (wd11 hw))) (wd11 hw) (wd10 hw) (wd6 hw) (wd12 hw) (by decide) (is_no l Z a0 hw a_ZIP a_TAR a_PDF h0 O0 ne_0_6 ne_0_7 S_ZIP S_TAR) e1 (E_PDF.ext O0) (by rw [hml]; rfl) (hb hby at_32) (argsL := []) (rest := []) (lenOf pd1 rfl) rfl rfl (W := 0) (by first | exact Nat.le_refl _ | decide) (by decide) (by decide) (by decide) (by decide) ?_
    intro v2 T2 L2 X2 hQ2
    obtain ⟨rfl, N2q, e2⟩ := hQ2
    have N2 := Fr.app N1 N2q
    refine Go.iloadN X2 hx (hb hby at_35) rfl (q := 36) rfl ?_
    refine Go.icmpNo X2 hx (hb hby at_36) (by decide) (q := 39) rfl ?_
    refine Go.iconst X2 hx (hb hby at_39) (r := (1 : Int32)) rfl (q := 40) rfl ?_
    refine Go.goto X2 hx (hb hby at_40) (q := 44) (by decide) (by decide) ?_
    exact Go.retI X2 hx hret hlk (by simp) rfl (hb hby at_44) e2 (by decide) (by decide) ⟨rfl, N2⟩
  · show Go p e below _ (s₁.setTop (mkF m 7 #[.val (.int x0), .unset, .unset, .unset] [(.int (1 : Int32))]))
    refine Go.istoreN X0 hx (hb hby at_7) (l' := #[.val (.int x0), .val (.int (1 : Int32)), .unset, .unset]) rfl (q := 8) rfl ?_
    refine Go.iloadN X0 hx (hb hby at_8) rfl (q := 9) rfl ?_
    refine Go.callS X0 hx hZ hown (wd1 hw) (wd2 hw) (wd3 hw) (wd4 hw) (by decide) (pick1 l Z a0 hw a_EPUB h0 O0 S_EPUB) e0 (by rw [hml]; rfl) (hb hby at_9) (argsL := [(.int (1 : Int32))]) (rest := []) (lenOf pd0 rfl) rfl rfl (W := 0) (by first | exact Nat.le_refl _ | decide) (by decide) (by decide) (by decide) (by decide) ?_
    intro v3 T3 L3 X3 hQ3
    obtain ⟨rfl, N3q, e3⟩ := hQ3
    have N3 := Fr.app N0 N3q
    refine Go.astoreN X3 hx (hb hby at_12) rfl (l' := #[.val (.int x0), .val (.int (1 : Int32)), .val (.ref a_EPUB), .unset]) rfl (q := 13) rfl ?_
    refine Go.iloadN X3 hx (hb hby at_13) rfl (q := 14) rfl ?_
    refine Go.bipush X3 hx (hb hby at_14) (r := (6 : Int32)) rfl (q := 16) rfl ?_
    refine Go.icmpNo X3 hx (hb hby at_16) (by decide) (q := 19) rfl ?_
    refine Go.iloadN X3 hx (hb hby at_19) rfl (q := 20) rfl ?_
    refine Go.bipush X3 hx (hb hby at_20) (r := (7 : Int32)) rfl (q := 22) rfl ?_
    refine Go.icmpYes X3 hx (hb hby at_22) (by decide) (q := 29) (by decide) (by decide) ?_
    refine Go.iconst X3 hx (hb hby at_29) (r := (0 : Int32)) rfl (q := 30) rfl ?_
    refine Go.istoreN X3 hx (hb hby at_30) (l' := #[.val (.int x0), .val (.int (1 : Int32)), .val (.ref a_EPUB), .val (.int (0 : Int32))]) rfl (q := 31) rfl ?_
    refine Go.aloadN X3 hx (hb hby at_31) rfl rfl (q := 32) rfl ?_
    refine Go.virt X3 hx hZ hown (wd8 hw) (wd9 hw) (notFace_of_selects (args := #[]) (mvT hZ (wd11 hw))) (wd11 hw) (wd10 hw) (wd6 hw) (wd12 hw) (by decide) (is_no l Z a0 hw a_ZIP a_TAR a_EPUB h0 O0 ne_1_6 ne_1_7 S_ZIP S_TAR) e3 (E_EPUB.ext O0) (by rw [hml]; rfl) (hb hby at_32) (argsL := []) (rest := []) (lenOf pd1 rfl) rfl rfl (W := 0) (by first | exact Nat.le_refl _ | decide) (by decide) (by decide) (by decide) (by decide) ?_
    intro v4 T4 L4 X4 hQ4
    obtain ⟨rfl, N4q, e4⟩ := hQ4
    have N4 := Fr.app N3 N4q
    refine Go.iloadN X4 hx (hb hby at_35) rfl (q := 36) rfl ?_
    refine Go.icmpNo X4 hx (hb hby at_36) (by decide) (q := 39) rfl ?_
    refine Go.iconst X4 hx (hb hby at_39) (r := (1 : Int32)) rfl (q := 40) rfl ?_
    refine Go.goto X4 hx (hb hby at_40) (q := 44) (by decide) (by decide) ?_
    exact Go.retI X4 hx hret hlk (by simp) rfl (hb hby at_44) e4 (by decide) (by decide) ⟨rfl, N4⟩
  · show Go p e below _ (s₁.setTop (mkF m 7 #[.val (.int x0), .unset, .unset, .unset] [(.int (2 : Int32))]))
    refine Go.istoreN X0 hx (hb hby at_7) (l' := #[.val (.int x0), .val (.int (2 : Int32)), .unset, .unset]) rfl (q := 8) rfl ?_
    refine Go.iloadN X0 hx (hb hby at_8) rfl (q := 9) rfl ?_
    refine Go.callS X0 hx hZ hown (wd1 hw) (wd2 hw) (wd3 hw) (wd4 hw) (by decide) (pick2 l Z a0 hw a_TIFF h0 O0 S_TIFF) e0 (by rw [hml]; rfl) (hb hby at_9) (argsL := [(.int (2 : Int32))]) (rest := []) (lenOf pd0 rfl) rfl rfl (W := 0) (by first | exact Nat.le_refl _ | decide) (by decide) (by decide) (by decide) (by decide) ?_
    intro v5 T5 L5 X5 hQ5
    obtain ⟨rfl, N5q, e5⟩ := hQ5
    have N5 := Fr.app N0 N5q
    refine Go.astoreN X5 hx (hb hby at_12) rfl (l' := #[.val (.int x0), .val (.int (2 : Int32)), .val (.ref a_TIFF), .unset]) rfl (q := 13) rfl ?_
    refine Go.iloadN X5 hx (hb hby at_13) rfl (q := 14) rfl ?_
    refine Go.bipush X5 hx (hb hby at_14) (r := (6 : Int32)) rfl (q := 16) rfl ?_
    refine Go.icmpNo X5 hx (hb hby at_16) (by decide) (q := 19) rfl ?_
    refine Go.iloadN X5 hx (hb hby at_19) rfl (q := 20) rfl ?_
    refine Go.bipush X5 hx (hb hby at_20) (r := (7 : Int32)) rfl (q := 22) rfl ?_
    refine Go.icmpYes X5 hx (hb hby at_22) (by decide) (q := 29) (by decide) (by decide) ?_
    refine Go.iconst X5 hx (hb hby at_29) (r := (0 : Int32)) rfl (q := 30) rfl ?_
    refine Go.istoreN X5 hx (hb hby at_30) (l' := #[.val (.int x0), .val (.int (2 : Int32)), .val (.ref a_TIFF), .val (.int (0 : Int32))]) rfl (q := 31) rfl ?_
    refine Go.aloadN X5 hx (hb hby at_31) rfl rfl (q := 32) rfl ?_
    refine Go.virt X5 hx hZ hown (wd8 hw) (wd9 hw) (notFace_of_selects (args := #[]) (mvT hZ (wd11 hw))) (wd11 hw) (wd10 hw) (wd6 hw) (wd12 hw) (by decide) (is_no l Z a0 hw a_ZIP a_TAR a_TIFF h0 O0 ne_2_6 ne_2_7 S_ZIP S_TAR) e5 (E_TIFF.ext O0) (by rw [hml]; rfl) (hb hby at_32) (argsL := []) (rest := []) (lenOf pd1 rfl) rfl rfl (W := 0) (by first | exact Nat.le_refl _ | decide) (by decide) (by decide) (by decide) (by decide) ?_
    intro v6 T6 L6 X6 hQ6
    obtain ⟨rfl, N6q, e6⟩ := hQ6
    have N6 := Fr.app N5 N6q
    refine Go.iloadN X6 hx (hb hby at_35) rfl (q := 36) rfl ?_
    refine Go.icmpNo X6 hx (hb hby at_36) (by decide) (q := 39) rfl ?_
    refine Go.iconst X6 hx (hb hby at_39) (r := (1 : Int32)) rfl (q := 40) rfl ?_
    refine Go.goto X6 hx (hb hby at_40) (q := 44) (by decide) (by decide) ?_
    exact Go.retI X6 hx hret hlk (by simp) rfl (hb hby at_44) e6 (by decide) (by decide) ⟨rfl, N6⟩
  · show Go p e below _ (s₁.setTop (mkF m 7 #[.val (.int x0), .unset, .unset, .unset] [(.int (3 : Int32))]))
    refine Go.istoreN X0 hx (hb hby at_7) (l' := #[.val (.int x0), .val (.int (3 : Int32)), .unset, .unset]) rfl (q := 8) rfl ?_
    refine Go.iloadN X0 hx (hb hby at_8) rfl (q := 9) rfl ?_
    refine Go.callS X0 hx hZ hown (wd1 hw) (wd2 hw) (wd3 hw) (wd4 hw) (by decide) (pick3 l Z a0 hw a_JPEG h0 O0 S_JPEG) e0 (by rw [hml]; rfl) (hb hby at_9) (argsL := [(.int (3 : Int32))]) (rest := []) (lenOf pd0 rfl) rfl rfl (W := 0) (by first | exact Nat.le_refl _ | decide) (by decide) (by decide) (by decide) (by decide) ?_
    intro v7 T7 L7 X7 hQ7
    obtain ⟨rfl, N7q, e7⟩ := hQ7
    have N7 := Fr.app N0 N7q
    refine Go.astoreN X7 hx (hb hby at_12) rfl (l' := #[.val (.int x0), .val (.int (3 : Int32)), .val (.ref a_JPEG), .unset]) rfl (q := 13) rfl ?_
    refine Go.iloadN X7 hx (hb hby at_13) rfl (q := 14) rfl ?_
    refine Go.bipush X7 hx (hb hby at_14) (r := (6 : Int32)) rfl (q := 16) rfl ?_
    refine Go.icmpNo X7 hx (hb hby at_16) (by decide) (q := 19) rfl ?_
    refine Go.iloadN X7 hx (hb hby at_19) rfl (q := 20) rfl ?_
    refine Go.bipush X7 hx (hb hby at_20) (r := (7 : Int32)) rfl (q := 22) rfl ?_
    refine Go.icmpYes X7 hx (hb hby at_22) (by decide) (q := 29) (by decide) (by decide) ?_
    refine Go.iconst X7 hx (hb hby at_29) (r := (0 : Int32)) rfl (q := 30) rfl ?_
    refine Go.istoreN X7 hx (hb hby at_30) (l' := #[.val (.int x0), .val (.int (3 : Int32)), .val (.ref a_JPEG), .val (.int (0 : Int32))]) rfl (q := 31) rfl ?_
    refine Go.aloadN X7 hx (hb hby at_31) rfl rfl (q := 32) rfl ?_
    refine Go.virt X7 hx hZ hown (wd8 hw) (wd9 hw) (notFace_of_selects (args := #[]) (mvT hZ (wd11 hw))) (wd11 hw) (wd10 hw) (wd6 hw) (wd12 hw) (by decide) (is_no l Z a0 hw a_ZIP a_TAR a_JPEG h0 O0 ne_3_6 ne_3_7 S_ZIP S_TAR) e7 (E_JPEG.ext O0) (by rw [hml]; rfl) (hb hby at_32) (argsL := []) (rest := []) (lenOf pd1 rfl) rfl rfl (W := 0) (by first | exact Nat.le_refl _ | decide) (by decide) (by decide) (by decide) (by decide) ?_
    intro v8 T8 L8 X8 hQ8
    obtain ⟨rfl, N8q, e8⟩ := hQ8
    have N8 := Fr.app N7 N8q
    refine Go.iloadN X8 hx (hb hby at_35) rfl (q := 36) rfl ?_
    refine Go.icmpNo X8 hx (hb hby at_36) (by decide) (q := 39) rfl ?_
    refine Go.iconst X8 hx (hb hby at_39) (r := (1 : Int32)) rfl (q := 40) rfl ?_
    refine Go.goto X8 hx (hb hby at_40) (q := 44) (by decide) (by decide) ?_
    exact Go.retI X8 hx hret hlk (by simp) rfl (hb hby at_44) e8 (by decide) (by decide) ⟨rfl, N8⟩
  · show Go p e below _ (s₁.setTop (mkF m 7 #[.val (.int x0), .unset, .unset, .unset] [(.int (4 : Int32))]))
    refine Go.istoreN X0 hx (hb hby at_7) (l' := #[.val (.int x0), .val (.int (4 : Int32)), .unset, .unset]) rfl (q := 8) rfl ?_
    refine Go.iloadN X0 hx (hb hby at_8) rfl (q := 9) rfl ?_
    refine Go.callS X0 hx hZ hown (wd1 hw) (wd2 hw) (wd3 hw) (wd4 hw) (by decide) (pick4 l Z a0 hw a_POSTSCRIPT h0 O0 S_POSTSCRIPT) e0 (by rw [hml]; rfl) (hb hby at_9) (argsL := [(.int (4 : Int32))]) (rest := []) (lenOf pd0 rfl) rfl rfl (W := 0) (by first | exact Nat.le_refl _ | decide) (by decide) (by decide) (by decide) (by decide) ?_
    intro v9 T9 L9 X9 hQ9
    obtain ⟨rfl, N9q, e9⟩ := hQ9
    have N9 := Fr.app N0 N9q
    refine Go.astoreN X9 hx (hb hby at_12) rfl (l' := #[.val (.int x0), .val (.int (4 : Int32)), .val (.ref a_POSTSCRIPT), .unset]) rfl (q := 13) rfl ?_
    refine Go.iloadN X9 hx (hb hby at_13) rfl (q := 14) rfl ?_
    refine Go.bipush X9 hx (hb hby at_14) (r := (6 : Int32)) rfl (q := 16) rfl ?_
    refine Go.icmpNo X9 hx (hb hby at_16) (by decide) (q := 19) rfl ?_
    refine Go.iloadN X9 hx (hb hby at_19) rfl (q := 20) rfl ?_
    refine Go.bipush X9 hx (hb hby at_20) (r := (7 : Int32)) rfl (q := 22) rfl ?_
    refine Go.icmpYes X9 hx (hb hby at_22) (by decide) (q := 29) (by decide) (by decide) ?_
    refine Go.iconst X9 hx (hb hby at_29) (r := (0 : Int32)) rfl (q := 30) rfl ?_
    refine Go.istoreN X9 hx (hb hby at_30) (l' := #[.val (.int x0), .val (.int (4 : Int32)), .val (.ref a_POSTSCRIPT), .val (.int (0 : Int32))]) rfl (q := 31) rfl ?_
    refine Go.aloadN X9 hx (hb hby at_31) rfl rfl (q := 32) rfl ?_
    refine Go.virt X9 hx hZ hown (wd8 hw) (wd9 hw) (notFace_of_selects (args := #[]) (mvT hZ (wd11 hw))) (wd11 hw) (wd10 hw) (wd6 hw) (wd12 hw) (by decide) (is_no l Z a0 hw a_ZIP a_TAR a_POSTSCRIPT h0 O0 ne_4_6 ne_4_7 S_ZIP S_TAR) e9 (E_POSTSCRIPT.ext O0) (by rw [hml]; rfl) (hb hby at_32) (argsL := []) (rest := []) (lenOf pd1 rfl) rfl rfl (W := 0) (by first | exact Nat.le_refl _ | decide) (by decide) (by decide) (by decide) (by decide) ?_
    intro v10 T10 L10 X10 hQ10
    obtain ⟨rfl, N10q, e10⟩ := hQ10
    have N10 := Fr.app N9 N10q
    refine Go.iloadN X10 hx (hb hby at_35) rfl (q := 36) rfl ?_
    refine Go.icmpNo X10 hx (hb hby at_36) (by decide) (q := 39) rfl ?_
    refine Go.iconst X10 hx (hb hby at_39) (r := (1 : Int32)) rfl (q := 40) rfl ?_
    refine Go.goto X10 hx (hb hby at_40) (q := 44) (by decide) (by decide) ?_
    exact Go.retI X10 hx hret hlk (by simp) rfl (hb hby at_44) e10 (by decide) (by decide) ⟨rfl, N10⟩
  · show Go p e below _ (s₁.setTop (mkF m 7 #[.val (.int x0), .unset, .unset, .unset] [(.int (5 : Int32))]))
    refine Go.istoreN X0 hx (hb hby at_7) (l' := #[.val (.int x0), .val (.int (5 : Int32)), .unset, .unset]) rfl (q := 8) rfl ?_
    refine Go.iloadN X0 hx (hb hby at_8) rfl (q := 9) rfl ?_
    refine Go.callS X0 hx hZ hown (wd1 hw) (wd2 hw) (wd3 hw) (wd4 hw) (by decide) (pick5 l Z a0 hw a_MP3 h0 O0 S_MP3) e0 (by rw [hml]; rfl) (hb hby at_9) (argsL := [(.int (5 : Int32))]) (rest := []) (lenOf pd0 rfl) rfl rfl (W := 0) (by first | exact Nat.le_refl _ | decide) (by decide) (by decide) (by decide) (by decide) ?_
    intro v11 T11 L11 X11 hQ11
    obtain ⟨rfl, N11q, e11⟩ := hQ11
    have N11 := Fr.app N0 N11q
    refine Go.astoreN X11 hx (hb hby at_12) rfl (l' := #[.val (.int x0), .val (.int (5 : Int32)), .val (.ref a_MP3), .unset]) rfl (q := 13) rfl ?_
    refine Go.iloadN X11 hx (hb hby at_13) rfl (q := 14) rfl ?_
    refine Go.bipush X11 hx (hb hby at_14) (r := (6 : Int32)) rfl (q := 16) rfl ?_
    refine Go.icmpNo X11 hx (hb hby at_16) (by decide) (q := 19) rfl ?_
    refine Go.iloadN X11 hx (hb hby at_19) rfl (q := 20) rfl ?_
    refine Go.bipush X11 hx (hb hby at_20) (r := (7 : Int32)) rfl (q := 22) rfl ?_
    refine Go.icmpYes X11 hx (hb hby at_22) (by decide) (q := 29) (by decide) (by decide) ?_
    refine Go.iconst X11 hx (hb hby at_29) (r := (0 : Int32)) rfl (q := 30) rfl ?_
    refine Go.istoreN X11 hx (hb hby at_30) (l' := #[.val (.int x0), .val (.int (5 : Int32)), .val (.ref a_MP3), .val (.int (0 : Int32))]) rfl (q := 31) rfl ?_
    refine Go.aloadN X11 hx (hb hby at_31) rfl rfl (q := 32) rfl ?_
    refine Go.virt X11 hx hZ hown (wd8 hw) (wd9 hw) (notFace_of_selects (args := #[]) (mvT hZ (wd11 hw))) (wd11 hw) (wd10 hw) (wd6 hw) (wd12 hw) (by decide) (is_no l Z a0 hw a_ZIP a_TAR a_MP3 h0 O0 ne_5_6 ne_5_7 S_ZIP S_TAR) e11 (E_MP3.ext O0) (by rw [hml]; rfl) (hb hby at_32) (argsL := []) (rest := []) (lenOf pd1 rfl) rfl rfl (W := 0) (by first | exact Nat.le_refl _ | decide) (by decide) (by decide) (by decide) (by decide) ?_
    intro v12 T12 L12 X12 hQ12
    obtain ⟨rfl, N12q, e12⟩ := hQ12
    have N12 := Fr.app N11 N12q
    refine Go.iloadN X12 hx (hb hby at_35) rfl (q := 36) rfl ?_
    refine Go.icmpNo X12 hx (hb hby at_36) (by decide) (q := 39) rfl ?_
    refine Go.iconst X12 hx (hb hby at_39) (r := (1 : Int32)) rfl (q := 40) rfl ?_
    refine Go.goto X12 hx (hb hby at_40) (q := 44) (by decide) (by decide) ?_
    exact Go.retI X12 hx hret hlk (by simp) rfl (hb hby at_44) e12 (by decide) (by decide) ⟨rfl, N12⟩
  · show Go p e below _ (s₁.setTop (mkF m 7 #[.val (.int x0), .unset, .unset, .unset] [(.int (6 : Int32))]))
    refine Go.istoreN X0 hx (hb hby at_7) (l' := #[.val (.int x0), .val (.int (6 : Int32)), .unset, .unset]) rfl (q := 8) rfl ?_
    refine Go.iloadN X0 hx (hb hby at_8) rfl (q := 9) rfl ?_
    refine Go.callS X0 hx hZ hown (wd1 hw) (wd2 hw) (wd3 hw) (wd4 hw) (by decide) (pick6 l Z a0 hw a_ZIP h0 O0 S_ZIP) e0 (by rw [hml]; rfl) (hb hby at_9) (argsL := [(.int (6 : Int32))]) (rest := []) (lenOf pd0 rfl) rfl rfl (W := 0) (by first | exact Nat.le_refl _ | decide) (by decide) (by decide) (by decide) (by decide) ?_
    intro v13 T13 L13 X13 hQ13
    obtain ⟨rfl, N13q, e13⟩ := hQ13
    have N13 := Fr.app N0 N13q
    refine Go.astoreN X13 hx (hb hby at_12) rfl (l' := #[.val (.int x0), .val (.int (6 : Int32)), .val (.ref a_ZIP), .unset]) rfl (q := 13) rfl ?_
    refine Go.iloadN X13 hx (hb hby at_13) rfl (q := 14) rfl ?_
    refine Go.bipush X13 hx (hb hby at_14) (r := (6 : Int32)) rfl (q := 16) rfl ?_
    refine Go.icmpYes X13 hx (hb hby at_16) (by decide) (q := 25) (by decide) (by decide) ?_
    refine Go.iconst X13 hx (hb hby at_25) (r := (1 : Int32)) rfl (q := 26) rfl ?_
    refine Go.goto X13 hx (hb hby at_26) (q := 30) (by decide) (by decide) ?_
    refine Go.istoreN X13 hx (hb hby at_30) (l' := #[.val (.int x0), .val (.int (6 : Int32)), .val (.ref a_ZIP), .val (.int (1 : Int32))]) rfl (q := 31) rfl ?_
    refine Go.aloadN X13 hx (hb hby at_31) rfl rfl (q := 32) rfl ?_
    refine Go.virt X13 hx hZ hown (wd8 hw) (wd9 hw) (notFace_of_selects (args := #[]) (mvT hZ (wd11 hw))) (wd11 hw) (wd10 hw) (wd6 hw) (wd12 hw) (by decide) (is_p l Z a0 hw a_ZIP a_TAR h0 O0 S_ZIP S_TAR) e13 (E_ZIP.ext O0) (by rw [hml]; rfl) (hb hby at_32) (argsL := []) (rest := []) (lenOf pd1 rfl) rfl rfl (W := 0) (by first | exact Nat.le_refl _ | decide) (by decide) (by decide) (by decide) (by decide) ?_
    intro v14 T14 L14 X14 hQ14
    obtain ⟨rfl, N14q, e14⟩ := hQ14
    have N14 := Fr.app N13 N14q
    refine Go.iloadN X14 hx (hb hby at_35) rfl (q := 36) rfl ?_
    refine Go.icmpNo X14 hx (hb hby at_36) (by decide) (q := 39) rfl ?_
    refine Go.iconst X14 hx (hb hby at_39) (r := (1 : Int32)) rfl (q := 40) rfl ?_
    refine Go.goto X14 hx (hb hby at_40) (q := 44) (by decide) (by decide) ?_
    exact Go.retI X14 hx hret hlk (by simp) rfl (hb hby at_44) e14 (by decide) (by decide) ⟨rfl, N14⟩
  · show Go p e below _ (s₁.setTop (mkF m 7 #[.val (.int x0), .unset, .unset, .unset] [(.int (7 : Int32))]))
    refine Go.istoreN X0 hx (hb hby at_7) (l' := #[.val (.int x0), .val (.int (7 : Int32)), .unset, .unset]) rfl (q := 8) rfl ?_
    refine Go.iloadN X0 hx (hb hby at_8) rfl (q := 9) rfl ?_
    refine Go.callS X0 hx hZ hown (wd1 hw) (wd2 hw) (wd3 hw) (wd4 hw) (by decide) (pick7 l Z a0 hw a_TAR h0 O0 S_TAR) e0 (by rw [hml]; rfl) (hb hby at_9) (argsL := [(.int (7 : Int32))]) (rest := []) (lenOf pd0 rfl) rfl rfl (W := 0) (by first | exact Nat.le_refl _ | decide) (by decide) (by decide) (by decide) (by decide) ?_
    intro v15 T15 L15 X15 hQ15
    obtain ⟨rfl, N15q, e15⟩ := hQ15
    have N15 := Fr.app N0 N15q
    refine Go.astoreN X15 hx (hb hby at_12) rfl (l' := #[.val (.int x0), .val (.int (7 : Int32)), .val (.ref a_TAR), .unset]) rfl (q := 13) rfl ?_
    refine Go.iloadN X15 hx (hb hby at_13) rfl (q := 14) rfl ?_
    refine Go.bipush X15 hx (hb hby at_14) (r := (6 : Int32)) rfl (q := 16) rfl ?_
    refine Go.icmpNo X15 hx (hb hby at_16) (by decide) (q := 19) rfl ?_
    refine Go.iloadN X15 hx (hb hby at_19) rfl (q := 20) rfl ?_
    refine Go.bipush X15 hx (hb hby at_20) (r := (7 : Int32)) rfl (q := 22) rfl ?_
    refine Go.icmpNo X15 hx (hb hby at_22) (by decide) (q := 25) rfl ?_
    refine Go.iconst X15 hx (hb hby at_25) (r := (1 : Int32)) rfl (q := 26) rfl ?_
    refine Go.goto X15 hx (hb hby at_26) (q := 30) (by decide) (by decide) ?_
    refine Go.istoreN X15 hx (hb hby at_30) (l' := #[.val (.int x0), .val (.int (7 : Int32)), .val (.ref a_TAR), .val (.int (1 : Int32))]) rfl (q := 31) rfl ?_
    refine Go.aloadN X15 hx (hb hby at_31) rfl rfl (q := 32) rfl ?_
    refine Go.virt X15 hx hZ hown (wd8 hw) (wd9 hw) (notFace_of_selects (args := #[]) (mvT hZ (wd11 hw))) (wd11 hw) (wd10 hw) (wd6 hw) (wd12 hw) (by decide) (is_q l Z a0 hw a_ZIP a_TAR h0 O0 ne_7_6 S_ZIP S_TAR) e15 (E_TAR.ext O0) (by rw [hml]; rfl) (hb hby at_32) (argsL := []) (rest := []) (lenOf pd1 rfl) rfl rfl (W := 0) (by first | exact Nat.le_refl _ | decide) (by decide) (by decide) (by decide) (by decide) ?_
    intro v16 T16 L16 X16 hQ16
    obtain ⟨rfl, N16q, e16⟩ := hQ16
    have N16 := Fr.app N15 N16q
    refine Go.iloadN X16 hx (hb hby at_35) rfl (q := 36) rfl ?_
    refine Go.icmpNo X16 hx (hb hby at_36) (by decide) (q := 39) rfl ?_
    refine Go.iconst X16 hx (hb hby at_39) (r := (1 : Int32)) rfl (q := 40) rfl ?_
    refine Go.goto X16 hx (hb hby at_40) (q := 44) (by decide) (by decide) ?_
    exact Go.retI X16 hx hret hlk (by simp) rfl (hb hby at_44) e16 (by decide) (by decide) ⟨rfl, N16⟩
  · show Go p e below _ (s₁.setTop (mkF m 7 #[.val (.int x0), .unset, .unset, .unset] [(.int (8 : Int32))]))
    refine Go.istoreN X0 hx (hb hby at_7) (l' := #[.val (.int x0), .val (.int (8 : Int32)), .unset, .unset]) rfl (q := 8) rfl ?_
    refine Go.iloadN X0 hx (hb hby at_8) rfl (q := 9) rfl ?_
    refine Go.callS X0 hx hZ hown (wd1 hw) (wd2 hw) (wd3 hw) (wd4 hw) (by decide) (pick8 l Z a0 hw a_OTHER h0 O0 S_OTHER) e0 (by rw [hml]; rfl) (hb hby at_9) (argsL := [(.int (8 : Int32))]) (rest := []) (lenOf pd0 rfl) rfl rfl (W := 0) (by first | exact Nat.le_refl _ | decide) (by decide) (by decide) (by decide) (by decide) ?_
    intro v17 T17 L17 X17 hQ17
    obtain ⟨rfl, N17q, e17⟩ := hQ17
    have N17 := Fr.app N0 N17q
    refine Go.astoreN X17 hx (hb hby at_12) rfl (l' := #[.val (.int x0), .val (.int (8 : Int32)), .val (.ref a_OTHER), .unset]) rfl (q := 13) rfl ?_
    refine Go.iloadN X17 hx (hb hby at_13) rfl (q := 14) rfl ?_
    refine Go.bipush X17 hx (hb hby at_14) (r := (6 : Int32)) rfl (q := 16) rfl ?_
    refine Go.icmpNo X17 hx (hb hby at_16) (by decide) (q := 19) rfl ?_
    refine Go.iloadN X17 hx (hb hby at_19) rfl (q := 20) rfl ?_
    refine Go.bipush X17 hx (hb hby at_20) (r := (7 : Int32)) rfl (q := 22) rfl ?_
    refine Go.icmpYes X17 hx (hb hby at_22) (by decide) (q := 29) (by decide) (by decide) ?_
    refine Go.iconst X17 hx (hb hby at_29) (r := (0 : Int32)) rfl (q := 30) rfl ?_
    refine Go.istoreN X17 hx (hb hby at_30) (l' := #[.val (.int x0), .val (.int (8 : Int32)), .val (.ref a_OTHER), .val (.int (0 : Int32))]) rfl (q := 31) rfl ?_
    refine Go.aloadN X17 hx (hb hby at_31) rfl rfl (q := 32) rfl ?_
    refine Go.virt X17 hx hZ hown (wd8 hw) (wd9 hw) (notFace_of_selects (args := #[]) (mvT hZ (wd11 hw))) (wd11 hw) (wd10 hw) (wd6 hw) (wd12 hw) (by decide) (is_no l Z a0 hw a_ZIP a_TAR a_OTHER h0 O0 ne_8_6 ne_8_7 S_ZIP S_TAR) e17 (E_OTHER.ext O0) (by rw [hml]; rfl) (hb hby at_32) (argsL := []) (rest := []) (lenOf pd1 rfl) rfl rfl (W := 0) (by first | exact Nat.le_refl _ | decide) (by decide) (by decide) (by decide) (by decide) ?_
    intro v18 T18 L18 X18 hQ18
    obtain ⟨rfl, N18q, e18⟩ := hQ18
    have N18 := Fr.app N17 N18q
    refine Go.iloadN X18 hx (hb hby at_35) rfl (q := 36) rfl ?_
    refine Go.icmpNo X18 hx (hb hby at_36) (by decide) (q := 39) rfl ?_
    refine Go.iconst X18 hx (hb hby at_39) (r := (1 : Int32)) rfl (q := 40) rfl ?_
    refine Go.goto X18 hx (hb hby at_40) (q := 44) (by decide) (by decide) ?_
    exact Go.retI X18 hx hret hlk (by simp) rfl (hb hby at_44) e18 (by decide) (by decide) ⟨rfl, N18⟩
set_option maxRecDepth 65536 in
set_option maxHeartbeats 40000000 in
theorem comes_1 {Post : Tables → Env → Array Value → State → Outcome → State → Prop} (hpost : ∀ tb e args s v u, (limb_1_1.after args s (.returned v) u = true ∧ limb_1_2.after args s (.returned v) u = true ∧ True) → FrameEnd s (.returned v) u (Jvm.fieldLocs frame_1_writes args s ++ Jvm.arrayLocs frame_1_arrays args s ++ Jvm.staticLocs frame_1_statics s) 0 0 → Post tb e args s (.returned v) u) :
    ArmFor flags0 classFile x code maxLocals ret World_1 tables_1 room_1 Calls_1 rest_1 Pre_1 Post := by
  intro l hfl _ _ p e ha hc hk s m args below hf hA hF happ hP
  obtain ⟨hcalls, hrest, hpre⟩ := hP
  obtain ⟨-, -, -, hnamed, -, -, -, hat⟩ := (Spec.applies_iff hf).mp happ
  obtain ⟨hg, hn⟩ := and_e (Cond.before_iff.mp (show (Jvm.Cond.and given_1 narrow_1).before args s = true from hpre))
  obtain ⟨ga1, gb1⟩ := and_e hg
  obtain ⟨ga2, gb2⟩ := and_e hn
  obtain ⟨ga3, gb3⟩ := and_e gb2
  obtain ⟨ga4, gb4⟩ := and_e gb3
  obtain ⟨ga5, gb5⟩ := and_e gb4
  obtain ⟨ga6, gb6⟩ := and_e gb5
  obtain ⟨ga7, gb7⟩ := and_e gb6
  obtain ⟨ga8, gb8⟩ := and_e gb7
  obtain ⟨ga9, gb9⟩ := and_e gb8
  obtain ⟨ga10, gb10⟩ := and_e gb9
  obtain ⟨ga11, gb11⟩ := and_e gb10
  obtain ⟨ga12, gb12⟩ := and_e gb11
  obtain ⟨ga13, gb13⟩ := and_e gb12
  obtain ⟨ga14, gb14⟩ := and_e gb13
  obtain ⟨ga15, gb15⟩ := and_e gb14
  obtain ⟨ga16, gb16⟩ := and_e gb15
  obtain ⟨ga17, gb17⟩ := and_e gb16
  obtain ⟨ga18, gb18⟩ := and_e gb17
  obtain ⟨w0, rfl⟩ : ∃ w0 : Value, args = #[w0] := by
    have hs : args.size = 1 := by simpa [Cond.value, given_1] using ga1
    obtain ⟨L⟩ := args
    match L, hs with
    | [w0], _ => exact ⟨w0, rfl⟩
  have hw := fun d (hd : d ∈ tables_1) => atoms_spec (ws := Jvm.Cond.code x code maxLocals ret :: tables_1) hat d (List.mem_cons_of_mem _ hd)
  have hfit : Fit s := fun {y c} hc i hi => by
    obtain ⟨ha, rfl⟩ := Array.getElem?_eq_some_iff.mp hc
    have q := List.all_eq_true.mp ((Array.all_eq_true_iff_forall_mem.mp hF) _ (Array.getElem_mem ha)) i (List.mem_range.mpr hi)
    simpa [Array.getElem?_eq_getElem hi] using q
  obtain ⟨i0, ei0⟩ := is_v gb1
  obtain rfl : w0 = (.int i0) := Option.some.inj ei0
  obtain ⟨a_PDF, ev_PDF, S_PDF, E_PDF⟩ := sta_exa ga2 (wd6 hw) (wd7 hw)
  obtain ⟨a_ZIP, ev_ZIP, S_ZIP, E_ZIP⟩ := sta_exa ga3 (wd6 hw) (wd14 hw)
  have F_PDF_ordinal := fld_int ev_PDF ga4
  have F_ZIP_ordinal := fld_int ev_ZIP ga5
  obtain ⟨a_TAR, ev_TAR, S_TAR, E_TAR⟩ := sta_exa ga6 (wd6 hw) (wd16 hw)
  have F_TAR_ordinal := fld_int ev_TAR ga7
  obtain ⟨a_JPEG, ev_JPEG, S_JPEG, E_JPEG⟩ := sta_exa ga8 (wd6 hw) (wd18 hw)
  have F_JPEG_ordinal := fld_int ev_JPEG ga9
  obtain ⟨a_TIFF, ev_TIFF, S_TIFF, E_TIFF⟩ := sta_exa ga10 (wd6 hw) (wd20 hw)
  have F_TIFF_ordinal := fld_int ev_TIFF ga11
  obtain ⟨a_EPUB, ev_EPUB, S_EPUB, E_EPUB⟩ := sta_exa ga12 (wd6 hw) (wd22 hw)
  have F_EPUB_ordinal := fld_int ev_EPUB ga13
  obtain ⟨a_POSTSCRIPT, ev_POSTSCRIPT, S_POSTSCRIPT, E_POSTSCRIPT⟩ := sta_exa ga14 (wd6 hw) (wd25 hw)
  have F_POSTSCRIPT_ordinal := fld_int ev_POSTSCRIPT ga15
  obtain ⟨a_OTHER, ev_OTHER, S_OTHER, E_OTHER⟩ := sta_exa ga16 (wd6 hw) (wd27 hw)
  have F_OTHER_ordinal := fld_int ev_OTHER ga17
  obtain ⟨a_MP3, ev_MP3, S_MP3, E_MP3⟩ := sta_exa ga18 (wd6 hw) (wd30 hw)
  have F_MP3_ordinal := fld_int ev_MP3 gb18
  have ne_0_6 : a_PDF ≠ a_ZIP := Fld.ne F_PDF_ordinal F_ZIP_ordinal (by decide)
  have ne_0_7 : a_PDF ≠ a_TAR := Fld.ne F_PDF_ordinal F_TAR_ordinal (by decide)
  have ne_1_6 : a_EPUB ≠ a_ZIP := Fld.ne F_EPUB_ordinal F_ZIP_ordinal (by decide)
  have ne_1_7 : a_EPUB ≠ a_TAR := Fld.ne F_EPUB_ordinal F_TAR_ordinal (by decide)
  have ne_2_6 : a_TIFF ≠ a_ZIP := Fld.ne F_TIFF_ordinal F_ZIP_ordinal (by decide)
  have ne_2_7 : a_TIFF ≠ a_TAR := Fld.ne F_TIFF_ordinal F_TAR_ordinal (by decide)
  have ne_3_6 : a_JPEG ≠ a_ZIP := Fld.ne F_JPEG_ordinal F_ZIP_ordinal (by decide)
  have ne_3_7 : a_JPEG ≠ a_TAR := Fld.ne F_JPEG_ordinal F_TAR_ordinal (by decide)
  have ne_4_6 : a_POSTSCRIPT ≠ a_ZIP := Fld.ne F_POSTSCRIPT_ordinal F_ZIP_ordinal (by decide)
  have ne_4_7 : a_POSTSCRIPT ≠ a_TAR := Fld.ne F_POSTSCRIPT_ordinal F_TAR_ordinal (by decide)
  have ne_5_6 : a_MP3 ≠ a_ZIP := Fld.ne F_MP3_ordinal F_ZIP_ordinal (by decide)
  have ne_5_7 : a_MP3 ≠ a_TAR := Fld.ne F_MP3_ordinal F_TAR_ordinal (by decide)
  have ne_7_6 : a_TAR ≠ a_ZIP := Fld.ne F_TAR_ordinal F_ZIP_ordinal (by decide)
  have ne_8_6 : a_OTHER ≠ a_ZIP := Fld.ne F_OTHER_ordinal F_ZIP_ordinal (by decide)
  have ne_8_7 : a_OTHER ≠ a_TAR := Fld.ne F_OTHER_ordinal F_TAR_ordinal (by decide)
  obtain ⟨n, o, h1, h2, h3, _, L, rfl, ⟨rfl, N⟩, hq⟩ := law0 l s _ hw i0 a_PDF a_EPUB a_TIFF a_JPEG a_POSTSCRIPT a_MP3 a_ZIP a_TAR a_OTHER s.heap ⟨Nat.le_refl _, fun _ _ q => q⟩ ne_0_6 ne_0_7 ne_1_6 ne_1_7 ne_2_6 ne_2_7 ne_3_6 ne_3_7 ne_4_6 ne_4_7 ne_5_6 ne_5_7 ne_7_6 ne_8_6 ne_8_7 S_PDF S_EPUB S_TIFF S_JPEG S_POSTSCRIPT S_MP3 S_ZIP S_TAR S_OTHER E_PDF E_EPUB E_TIFF E_JPEG E_POSTSCRIPT E_MP3 E_ZIP E_TAR E_OTHER p e ha hc hk s m _ below hf ((Spec.applies_iff_loose hf).mp happ).1 ⟨rfl, State.Warmed39.refl s, rfl⟩ trivial
  refine ⟨n, _, h1, h2, h3, hpost _ _ _ _ _ _ ⟨Cond.after_iff.mpr rfl, Cond.after_iff.mpr (eq_i res_at (Term.int_eval (1)) rfl), trivial⟩ ⟨hq.1, hq.2.1, (hq.2.2.sift fun y hy => Or.inr (N y hy)).mono (by decide) (by decide)⟩⟩
theorem main_1_1 : Claimed_1_1 := comes_1 fun _ _ _ _ _ _ h hF => ⟨h.1, hF⟩
theorem main_1_2 : Claimed_1_2 := comes_1 fun _ _ _ _ _ _ h hF => ⟨h.2.1, hF⟩
end Jvm.Pilot.@@N@@
namespace Jvm.Pilot.@@N@@
open Jvm Jvm.ClassFile Sem Op Lib Jvm.Free Jvm.Stand Jvm.Pilot.@@N@@.Jvm.D
/-! MADE BY PROGRAM (witnessworld.py) out of the Statement's table words and the real class files: 12 classes; the members and pool entries that the words name. The judged class is class 1, her method 1. -/
namespace start1
open Jvm.ClassFile
def u (s : String) : CpInfo := .utf8 (stringToUtf16 s)
/-- a pool by its gaps: so many unusable entries, then the entry; so many at the end -/
def gap : Nat → List CpInfo → List CpInfo
  | 0, r => r
  | n + 1, r => .unusable :: gap n r
def poolList (es : List (Nat × CpInfo)) (last : Nat) : List CpInfo := es.foldr (fun e r => gap e.1 (e.2 :: r)) (gap last [])
def pool (es : List (Nat × CpInfo)) (last : Nat) : Array CpInfo := ⟨poolList es last⟩
def fileOf (pool : Array CpInfo) (this : Nat) (attrs : Array Attribute := #[]) (ms : Array MethodInfo := #[]) (fl : Nat := 33) (sup : Nat := 0) (ifs : Array Nat := #[]) (fds : Array FieldInfo := #[]) : ClassFile where
  minorVersion := 0
  majorVersion := 65
  constantPool := pool
  accessFlags := fl
  thisClass := this
  superClass := sup
  interfaces := ifs
  fields := fds
  methods := ms
  attributes := attrs
def plain (name : String) (sup : Option ClassId) : Class where
  name := name
  kind := .ordinary
  loader := none
  accessFlags := 33
  super := sup
  interfaces := #[]
  cf := none
  fields := #[]
  methods := #[]
  instanceTypes := #[]
  staticTypes := #[]
  resolved := #[]
  callSites := []
  init := .initialized
  statics := none
  mirror := none

def pool0 : Array CpInfo := pool [(5, u "<init>"), (0, u "()V"), (1, .class_ 10), (1, u "java/lang/Object")] 113

def k0m0 : Method := { name := "<init>", desc := "()V", sig := { parameters := [], returnType := none }, accessFlags := 1, code := none }
/-- java/lang/Object -/
def k0 : Class := { plain "java/lang/Object" none with
  accessFlags := 33
  interfaces := #[]
  cf := some (fileOf pool0 8 #[] #[{ accessFlags := 1, nameIndex := 5, descriptorIndex := 6, attributes := #[] }] 33 0 #[] #[])
  fields := #[]
  methods := #[k0m0]
  instanceTypes := #[]
  staticTypes := #[]
  resolved := Array.replicate 124 none
  statics := none }

def pool1 : Array CpInfo := pool [(2, .class_ 4), (1, u "java/lang/Object"), (0, u "<init>"), (0, u "()V"), (0, .integer 2147483647), (0, .methodref 9 10), (0, .class_ 11), (0, .nameAndType 12 13), (0, u "com/example/depositum/depositum/format/FileFormatIsContainerPinLaw"), (0, u "pick"), (0, u "(I)Lcom/example/depositum/depositum/format/FileFormat;"), (0, .methodref 15 16), (0, .class_ 17), (0, .nameAndType 18 19), (0, u "com/example/depositum/depositum/format/FileFormat"), (0, u "isContainer"), (0, u "()Z"), (0, .fieldref 15 21), (0, .nameAndType 22 23), (0, u "PDF"), (0, u "Lcom/example/depositum/depositum/format/FileFormat;"), (0, .fieldref 15 25), (0, .nameAndType 26 23), (0, u "EPUB"), (0, .fieldref 15 28), (0, .nameAndType 29 23), (0, u "TIFF"), (0, .fieldref 15 31), (0, .nameAndType 32 23), (0, u "JPEG"), (0, .fieldref 15 34), (0, .nameAndType 35 23), (0, u "POSTSCRIPT"), (0, .fieldref 15 37), (0, .nameAndType 38 23), (0, u "MP3"), (0, .fieldref 15 40), (0, .nameAndType 41 23), (0, u "ZIP"), (0, .fieldref 15 43), (0, .nameAndType 44 23), (0, u "TAR"), (0, .fieldref 15 46), (0, .nameAndType 47 23), (0, u "OTHER"), (2, u "law"), (0, u "(I)Z")] 3

def k1m0 : Method := { name := "<init>", desc := "()V", sig := { parameters := [], returnType := none }, accessFlags := 1, code := none }
def k1c1 : Code := { maxStack := 2, maxLocals := 4, code := code, exceptionTable := #[], attributes := #[] }
def k1m1 : Method := { name := "law", desc := "(I)Z", sig := { parameters := [.int], returnType := some .boolean }, accessFlags := 9, code := some k1c1 }
def k1c2 : Code := { maxStack := 2, maxLocals := 1, code := method_3_code, exceptionTable := #[], attributes := #[] }
def k1m2 : Method := { name := "pick", desc := "(I)Lcom/example/depositum/depositum/format/FileFormat;", sig := { parameters := [.int], returnType := some (.object "com/example/depositum/depositum/format/FileFormat") }, accessFlags := 10, code := some k1c2 }
/-- com/example/depositum/depositum/format/FileFormatIsContainerPinLaw -/
def k1 : Class := { plain "com/example/depositum/depositum/format/FileFormatIsContainerPinLaw" (some 0) with
  accessFlags := 49
  interfaces := #[]
  cf := some (fileOf pool1 9 #[] #[{ accessFlags := 1, nameIndex := 5, descriptorIndex := 6, attributes := #[] }, { accessFlags := 9, nameIndex := 50, descriptorIndex := 51, attributes := #[] }, { accessFlags := 10, nameIndex := 12, descriptorIndex := 13, attributes := #[] }] 49 2 #[] #[])
  fields := #[]
  methods := #[k1m0, k1m1, k1m2]
  instanceTypes := #[]
  staticTypes := #[]
  resolved := Array.replicate 55 none
  statics := none }

def pool2 : Array CpInfo := pool [(1, .class_ 2), (0, u "java/lang/constant/Constable"), (0, .class_ 4), (0, u "java/lang/Object")] 6

/-- java/lang/constant/Constable -/
def k2 : Class := { plain "java/lang/constant/Constable" (some 0) with
  accessFlags := 1537
  interfaces := #[]
  cf := some (fileOf pool2 1 #[] #[] 1537 3 #[] #[])
  fields := #[]
  methods := #[]
  instanceTypes := #[]
  staticTypes := #[]
  resolved := Array.replicate 11 none
  statics := none }

def pool3 : Array CpInfo := pool [(1, .class_ 2), (0, u "java/lang/Comparable"), (0, .class_ 4), (0, u "java/lang/Object")] 7

/-- java/lang/Comparable -/
def k3 : Class := { plain "java/lang/Comparable" (some 0) with
  accessFlags := 1537
  interfaces := #[]
  cf := some (fileOf pool3 1 #[] #[] 1537 3 #[] #[])
  fields := #[]
  methods := #[]
  instanceTypes := #[]
  staticTypes := #[]
  resolved := Array.replicate 12 none
  statics := none }

def pool4 : Array CpInfo := pool [(1, .class_ 2), (0, u "java/io/Serializable"), (0, .class_ 4), (0, u "java/lang/Object")] 2

/-- java/io/Serializable -/
def k4 : Class := { plain "java/io/Serializable" (some 0) with
  accessFlags := 1537
  interfaces := #[]
  cf := some (fileOf pool4 1 #[] #[] 1537 3 #[] #[])
  fields := #[]
  methods := #[]
  instanceTypes := #[]
  staticTypes := #[]
  resolved := Array.replicate 7 none
  statics := none }

def pool5 : Array CpInfo := pool [(2, .class_ 4), (1, u "java/lang/Enum"), (0, u "name"), (0, u "Ljava/lang/String;"), (2, u "ordinal"), (0, u "I"), (1, .class_ 14), (1, u "java/lang/Object"), (4, u "hash"), (86, .class_ 108), (1, u "java/lang/Enum$EnumDesc"), (2, .class_ 112), (0, u "java/lang/constant/Constable"), (0, .class_ 114), (0, u "java/lang/Comparable"), (0, .class_ 116), (0, u "java/io/Serializable")] 87

/-- java/lang/Enum -/
def k5 : Class := { plain "java/lang/Enum" (some 0) with
  accessFlags := 1057
  interfaces := #[2, 3, 4]
  cf := some (fileOf pool5 2 #[.nestMembers #[106]] #[] 1057 12 #[111, 113, 115] #[{ accessFlags := 18, nameIndex := 5, descriptorIndex := 6, attributes := #[] }, { accessFlags := 18, nameIndex := 9, descriptorIndex := 10, attributes := #[] }, { accessFlags := 2, nameIndex := 19, descriptorIndex := 10, attributes := #[] }])
  fields := #[{ name := "name", type := (.object "java/lang/String"), accessFlags := 18, slot := 0, constantValue := 0 }, { name := "ordinal", type := .int, accessFlags := 18, slot := 1, constantValue := 0 }, { name := "hash", type := .int, accessFlags := 2, slot := 2, constantValue := 0 }]
  methods := #[]
  instanceTypes := #[(.object "java/lang/String"), .int, .int]
  staticTypes := #[]
  resolved := Array.replicate 204 none
  statics := none }

def pool6 : Array CpInfo := pool [(1, .class_ 2), (0, u "com/example/depositum/depositum/format/FileFormat"), (2, u "PDF"), (0, u "Lcom/example/depositum/depositum/format/FileFormat;"), (2, u "EPUB"), (2, u "TIFF"), (2, u "JPEG"), (2, u "POSTSCRIPT"), (2, u "MP3"), (0, .fieldref 1 23), (0, .nameAndType 24 6), (0, u "ZIP"), (0, .fieldref 1 26), (0, .nameAndType 27 6), (0, u "TAR"), (2, u "OTHER"), (2, u "$VALUES"), (0, u "[Lcom/example/depositum/depositum/format/FileFormat;"), (6, .class_ 43), (1, u "java/lang/Enum"), (12, u "PDF_START"), (0, u "[B"), (6, u "ZIP_START"), (6, u "TIFF_LITTLE_ENDIAN_START"), (2, u "TIFF_BIG_ENDIAN_START"), (2, u "JPEG_START"), (2, u "POSTSCRIPT_START"), (2, u "ID3_START"), (5, u "TAR_MAGIC"), (10, u "EPUB_MEDIA_TYPE"), (2, u "EPUB_NAME"), (51, u "LEADING_BYTES"), (0, u "I"), (0, u "TAR_MAGIC_OFFSET"), (2, u "ZIP_HEADER_BYTES"), (8, u "isContainer"), (0, u "()Z")] 7

def k6c0 : Code := { maxStack := 2, maxLocals := 1, code := prog_37_method_4_code, exceptionTable := #[], attributes := #[] }
def k6m0 : Method := { name := "isContainer", desc := "()Z", sig := { parameters := [], returnType := some .boolean }, accessFlags := 1, code := some k6c0 }
/-- com/example/depositum/depositum/format/FileFormat -/
def k6 : Class := { plain "com/example/depositum/depositum/format/FileFormat" (some 5) with
  accessFlags := 16433
  interfaces := #[]
  cf := some (fileOf pool6 1 #[] #[{ accessFlags := 1, nameIndex := 169, descriptorIndex := 170, attributes := #[] }] 16433 41 #[] #[{ accessFlags := 16409, nameIndex := 5, descriptorIndex := 6, attributes := #[] }, { accessFlags := 16409, nameIndex := 9, descriptorIndex := 6, attributes := #[] }, { accessFlags := 16409, nameIndex := 12, descriptorIndex := 6, attributes := #[] }, { accessFlags := 16409, nameIndex := 15, descriptorIndex := 6, attributes := #[] }, { accessFlags := 16409, nameIndex := 18, descriptorIndex := 6, attributes := #[] }, { accessFlags := 16409, nameIndex := 21, descriptorIndex := 6, attributes := #[] }, { accessFlags := 16409, nameIndex := 24, descriptorIndex := 6, attributes := #[] }, { accessFlags := 16409, nameIndex := 27, descriptorIndex := 6, attributes := #[] }, { accessFlags := 16409, nameIndex := 30, descriptorIndex := 6, attributes := #[] }, { accessFlags := 26, nameIndex := 56, descriptorIndex := 57, attributes := #[] }, { accessFlags := 26, nameIndex := 64, descriptorIndex := 57, attributes := #[] }, { accessFlags := 26, nameIndex := 71, descriptorIndex := 57, attributes := #[] }, { accessFlags := 26, nameIndex := 74, descriptorIndex := 57, attributes := #[] }, { accessFlags := 26, nameIndex := 77, descriptorIndex := 57, attributes := #[] }, { accessFlags := 26, nameIndex := 80, descriptorIndex := 57, attributes := #[] }, { accessFlags := 26, nameIndex := 83, descriptorIndex := 57, attributes := #[] }, { accessFlags := 26, nameIndex := 89, descriptorIndex := 57, attributes := #[] }, { accessFlags := 26, nameIndex := 157, descriptorIndex := 156, attributes := #[] }, { accessFlags := 26, nameIndex := 160, descriptorIndex := 156, attributes := #[] }, { accessFlags := 26, nameIndex := 103, descriptorIndex := 57, attributes := #[] }, { accessFlags := 26, nameIndex := 100, descriptorIndex := 57, attributes := #[] }, { accessFlags := 25, nameIndex := 155, descriptorIndex := 156, attributes := #[] }, { accessFlags := 4122, nameIndex := 33, descriptorIndex := 34, attributes := #[] }])
  fields := #[{ name := "PDF", type := (.object "com/example/depositum/depositum/format/FileFormat"), accessFlags := 16409, slot := 0, constantValue := 0 }, { name := "EPUB", type := (.object "com/example/depositum/depositum/format/FileFormat"), accessFlags := 16409, slot := 1, constantValue := 0 }, { name := "TIFF", type := (.object "com/example/depositum/depositum/format/FileFormat"), accessFlags := 16409, slot := 2, constantValue := 0 }, { name := "JPEG", type := (.object "com/example/depositum/depositum/format/FileFormat"), accessFlags := 16409, slot := 3, constantValue := 0 }, { name := "POSTSCRIPT", type := (.object "com/example/depositum/depositum/format/FileFormat"), accessFlags := 16409, slot := 4, constantValue := 0 }, { name := "MP3", type := (.object "com/example/depositum/depositum/format/FileFormat"), accessFlags := 16409, slot := 5, constantValue := 0 }, { name := "ZIP", type := (.object "com/example/depositum/depositum/format/FileFormat"), accessFlags := 16409, slot := 6, constantValue := 0 }, { name := "TAR", type := (.object "com/example/depositum/depositum/format/FileFormat"), accessFlags := 16409, slot := 7, constantValue := 0 }, { name := "OTHER", type := (.object "com/example/depositum/depositum/format/FileFormat"), accessFlags := 16409, slot := 8, constantValue := 0 }, { name := "PDF_START", type := (.array .byte), accessFlags := 26, slot := 9, constantValue := 0 }, { name := "ZIP_START", type := (.array .byte), accessFlags := 26, slot := 10, constantValue := 0 }, { name := "TIFF_LITTLE_ENDIAN_START", type := (.array .byte), accessFlags := 26, slot := 11, constantValue := 0 }, { name := "TIFF_BIG_ENDIAN_START", type := (.array .byte), accessFlags := 26, slot := 12, constantValue := 0 }, { name := "JPEG_START", type := (.array .byte), accessFlags := 26, slot := 13, constantValue := 0 }, { name := "POSTSCRIPT_START", type := (.array .byte), accessFlags := 26, slot := 14, constantValue := 0 }, { name := "ID3_START", type := (.array .byte), accessFlags := 26, slot := 15, constantValue := 0 }, { name := "TAR_MAGIC", type := (.array .byte), accessFlags := 26, slot := 16, constantValue := 0 }, { name := "TAR_MAGIC_OFFSET", type := .int, accessFlags := 26, slot := 17, constantValue := 0 }, { name := "ZIP_HEADER_BYTES", type := .int, accessFlags := 26, slot := 18, constantValue := 0 }, { name := "EPUB_NAME", type := (.array .byte), accessFlags := 26, slot := 19, constantValue := 0 }, { name := "EPUB_MEDIA_TYPE", type := (.array .byte), accessFlags := 26, slot := 20, constantValue := 0 }, { name := "LEADING_BYTES", type := .int, accessFlags := 25, slot := 21, constantValue := 0 }, { name := "$VALUES", type := (.array (.object "com/example/depositum/depositum/format/FileFormat")), accessFlags := 4122, slot := 22, constantValue := 0 }]
  methods := #[k6m0]
  instanceTypes := #[(.object "java/lang/String"), .int, .int]
  staticTypes := #[(.object "com/example/depositum/depositum/format/FileFormat"), (.object "com/example/depositum/depositum/format/FileFormat"), (.object "com/example/depositum/depositum/format/FileFormat"), (.object "com/example/depositum/depositum/format/FileFormat"), (.object "com/example/depositum/depositum/format/FileFormat"), (.object "com/example/depositum/depositum/format/FileFormat"), (.object "com/example/depositum/depositum/format/FileFormat"), (.object "com/example/depositum/depositum/format/FileFormat"), (.object "com/example/depositum/depositum/format/FileFormat"), (.array .byte), (.array .byte), (.array .byte), (.array .byte), (.array .byte), (.array .byte), (.array .byte), (.array .byte), .int, .int, (.array .byte), (.array .byte), .int, (.array (.object "com/example/depositum/depositum/format/FileFormat"))]
  resolved := Array.replicate 178 none
  statics := some 0 }

def pool7 : Array CpInfo := pool [(1, u "java/lang/Cloneable"), (0, .class_ 1), (0, u "java/lang/Object"), (0, .class_ 3)] 3

/-- java/lang/Cloneable -/
def k7 : Class := { plain "java/lang/Cloneable" (some 0) with
  accessFlags := 1537
  interfaces := #[]
  cf := some (fileOf pool7 2 #[] #[] 1537 4 #[] #[])
  fields := #[]
  methods := #[]
  instanceTypes := #[]
  staticTypes := #[]
  resolved := Array.replicate 8 none
  statics := none }

/-- the primitive byte -/
def k8 : Class := { plain "byte" none with kind := .primitive 'B', accessFlags := 0x411 }
/-- [B -/
def k9 : Class := { plain "[B" (some 0) with kind := .array 8 .byte, interfaces := #[7, 4], accessFlags := 1041 }

/-- the primitive int -/
def k10 : Class := { plain "int" none with kind := .primitive 'I', accessFlags := 0x411 }
/-- [I -/
def k11 : Class := { plain "[I" (some 0) with kind := .array 10 .int, interfaces := #[7, 4], accessFlags := 1041 }

def heap : Heap := #[{ cls := 6, slots := #[.ref 1, .ref 2, .ref 3, .ref 4, .ref 5, .ref 6, .ref 7, .ref 8, .ref 9, .null, .null, .null, .null, .null, .null, .null, .null, .int 0, .int 0, .null, .null, .int 0, .null], vm := .statics 6 },
  { cls := 6, slots := #[.null, .int 0, .int 0], vm := .none },
  { cls := 6, slots := #[.null, .int 1, .int 0], vm := .none },
  { cls := 6, slots := #[.null, .int 2, .int 0], vm := .none },
  { cls := 6, slots := #[.null, .int 3, .int 0], vm := .none },
  { cls := 6, slots := #[.null, .int 4, .int 0], vm := .none },
  { cls := 6, slots := #[.null, .int 5, .int 0], vm := .none },
  { cls := 6, slots := #[.null, .int 6, .int 0], vm := .none },
  { cls := 6, slots := #[.null, .int 7, .int 0], vm := .none },
  { cls := 6, slots := #[.null, .int 8, .int 0], vm := .none }]
def classes : Array Class := #[k0, k1, k2, k3, k4, k5, k6, k7, k8, k9, k10, k11]
def interned : List (Array UInt16 × Addr) := []
def slotsUsed : Nat := 50
def theMethod : MethodId := ⟨1, 1⟩
def args0 : Array Value := #[.int 5]
def aboutOver (below : List Frame) : State where
  vm := { classes := classes, interned := interned.toArray }
  heap := heap
  slotsUsed := slotsUsed
  threads := #[{ frames := .invoking theMethod args0 :: below }]
def below0 : List Frame := [.native { method := ⟨0, 0⟩, args := #[] }]
def about1 : State := aboutOver below0
def p0 : Program := .bare "" "" ""
def e0 : Env := launch0.env 0 0 0
theorem w_frames : about1.frames = Frame.invoking theMethod args0 :: below0 := rfl
set_option maxRecDepth 65536 in
theorem w_args : argsFit about1.vm theMethod args0 = true := by decide +kernel
set_option maxRecDepth 65536 in
theorem w_heap : heapFits about1 = true := by decide +kernel
set_option maxRecDepth 65536 in
theorem w_runnable : about1.curStatus? = some .runnable := by decide +kernel
set_option maxRecDepth 65536 in
theorem w_alone : about1.alone = true := by decide +kernel
set_option maxRecDepth 65536 in
theorem w_named : about1.methodNamed? x = some theMethod := by decide +kernel
set_option maxRecDepth 65536 in
theorem w_hears : about1.hears theMethod below0 = true := by decide +kernel
set_option maxRecDepth 65536 in
theorem w_ripe : about1.ripe theMethod args0 below0 = true := by decide +kernel
theorem w_running : about1.status = .running := rfl
set_option maxRecDepth 65536 in
theorem w_room : about1.hasRoom e0.platform room_1 = true :=
  launch0.hasRoom_least _ room_1 (by decide +kernel) (by decide +kernel) (by decide +kernel) (by decide +kernel) (by decide +kernel) (by decide +kernel)
theorem allAtoms_all (ts : List Jvm.Cond) (a : Array Jvm.Value) (st : Jvm.State) : (allAtoms ts).before a st = ts.all (fun c => c.before a st) := by
  induction ts with
  | nil => rfl
  | cons c t ih =>
    show (Jvm.Cond.and c (allAtoms t)).before a st = _
    rw [Jvm.Cond.before_and, ih, List.all_cons]
def words1 : List Jvm.Cond := Jvm.Cond.code x code maxLocals ret :: tables_1
/-- a 'code' word, met by the world's own term for the bytes: nothing is compared byte by byte -/
theorem code_word {y : MethodName} {bytes : ByteArray} {mx : Nat} {rt : Option FieldType} {a : Array Value} {s : State} {m : MethodId} {meth : Method} {c : Code} (h1 : s.methodNamed? y = some m) (h2 : s.vm.method? m = some meth) (h3 : meth.code = some c) (h4 : c.code = bytes)
    (h5 : (c.maxLocals == mx && c.exceptionTable.isEmpty && decide (c.maxStack ≤ mostOperands) && decide (meth.sig.returnType = rt) && !meth.locks && decide (parseMethodDescriptor y.desc = some meth.sig)) = true) : (Jvm.Cond.code y bytes mx rt).before a s = true := by
  simp only [Bool.and_eq_true, beq_iff_eq, Bool.not_eq_true', decide_eq_true_eq] at h5
  obtain ⟨⟨⟨⟨⟨g1, g2⟩, g3⟩, g4⟩, g5⟩, g6⟩ := h5
  simp [Cond.before, Cond.holds, Cond.value, h1, h2, h3, h4, g1, g2, g3, g4, g5, g6]
def isCode : Jvm.Cond → Bool
  | .code _ _ _ _ => true
  | _ => false
theorem all_split {L : List Jvm.Cond} {P : Jvm.Cond → Bool} (h1 : L.all (fun c => isCode c || P c) = true) (h2 : ∀ c ∈ L.filter isCode, P c = true) : L.all P = true := by
  refine List.all_eq_true.mpr fun c hc => ?_
  have h := List.all_eq_true.mp h1 c hc
  rcases Bool.eq_false_or_eq_true (isCode c) with hi | hi
  · exact h2 c (List.mem_filter.mpr ⟨hc, hi⟩)
  · simpa [hi] using h
set_option maxRecDepth 65536 in
theorem w_c0 : (Jvm.Cond.code x code maxLocals ret).before args0 about1 = true := code_word (m := ⟨1, 1⟩) (meth := k1m1) (c := k1c1) (by decide +kernel) rfl rfl rfl (by decide +kernel)
set_option maxRecDepth 65536 in
theorem w_c1 : (Jvm.Cond.code ({ cls := "com/example/depositum/depositum/format/FileFormatIsContainerPinLaw", name := "pick", desc := "(I)Lcom/example/depositum/depositum/format/FileFormat;" } : Jvm.MethodName) method_3_code (1 : Nat) (Option.some (Jvm.ClassFile.FieldType.object "com/example/depositum/depositum/format/FileFormat"))).before args0 about1 = true := code_word (m := ⟨1, 2⟩) (meth := k1m2) (c := k1c2) (by decide +kernel) rfl rfl rfl (by decide +kernel)
set_option maxRecDepth 65536 in
theorem w_c2 : (Jvm.Cond.code ({ cls := "com/example/depositum/depositum/format/FileFormat", name := "isContainer", desc := "()Z" } : Jvm.MethodName) prog_37_method_4_code (1 : Nat) (Option.some Jvm.ClassFile.FieldType.boolean)).before args0 about1 = true := code_word (m := ⟨6, 0⟩) (meth := k6m0) (c := k6c0) (by decide +kernel) rfl rfl rfl (by decide +kernel)
def codes1 : List Jvm.Cond := [Jvm.Cond.code x code maxLocals ret, Jvm.Cond.code ({ cls := "com/example/depositum/depositum/format/FileFormatIsContainerPinLaw", name := "pick", desc := "(I)Lcom/example/depositum/depositum/format/FileFormat;" } : Jvm.MethodName) method_3_code (1 : Nat) (Option.some (Jvm.ClassFile.FieldType.object "com/example/depositum/depositum/format/FileFormat")), Jvm.Cond.code ({ cls := "com/example/depositum/depositum/format/FileFormat", name := "isContainer", desc := "()Z" } : Jvm.MethodName) prog_37_method_4_code (1 : Nat) (Option.some Jvm.ClassFile.FieldType.boolean)]
set_option maxRecDepth 65536 in
theorem codes_eq : words1.filter isCode = codes1 := rfl
theorem w_codes : ∀ c ∈ words1.filter isCode, c.before args0 about1 = true := by
  rw [codes_eq]
  intro c hc
  simp only [codes1, List.mem_cons, List.not_mem_nil, or_false] at hc
  rcases hc with rfl | rfl | rfl
  · exact w_c0
  · exact w_c1
  · exact w_c2
set_option maxRecDepth 65536 in
theorem w_t1 : (words1.take 24).all (fun c => isCode c || c.before args0 about1) = true := by decide +kernel
set_option maxRecDepth 65536 in
theorem w_t2 : (words1.drop 24).all (fun c => isCode c || c.before args0 about1) = true := by decide +kernel
theorem w_tables : (allAtoms (Jvm.Cond.code x code maxLocals ret :: tables_1)).before args0 about1 = true := by
  rw [allAtoms_all]
  show words1.all (fun c => c.before args0 about1) = true
  refine all_split ?_ w_codes
  rw [← List.take_append_drop 24 words1, List.all_append, w_t1, w_t2]
  rfl
set_option maxRecDepth 65536 in
theorem w_case : (Jvm.Cond.and given_1 narrow_1).before args0 about1 = true := by decide +kernel
theorem w_applies : (headSpec (Jvm.Cond.code x code maxLocals ret :: tables_1) room_1).applies x e0.platform about1 = true :=
  (Spec.applies_iff w_frames).mpr ⟨w_running, w_runnable, w_alone, w_named, w_hears, w_ripe, w_room, w_tables⟩
theorem atStart : AtStart classFile x code maxLocals ret World_1 tables_1 room_1 Calls_1 rest_1 Pre_1 launch0 p0 e0 about1 theMethod args0 below0 :=
  ⟨lists_1, trivial, launch0.admits_env _ _ _, launch0.least_env, fairChoices_fair.cas, fairChoices_fair.clock, w_frames, w_args, w_heap, w_applies, trivial, trivial, w_case⟩
end start1
theorem witness_1 : WitnessClaimed_1 := ⟨start1.p0, start1.e0, start1.about1, start1.theMethod, start1.args0, start1.below0, start1.atStart⟩
end Jvm.Pilot.@@N@@
