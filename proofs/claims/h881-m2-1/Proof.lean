import JvmDerived
import JvmDerived.Pilot.@@N@@Statement
import JvmDerived.Pilot.@@N@@Code
set_option linter.unusedVariables false
set_option linter.unusedSimpArgs false
namespace Jvm.RoadKit
open Sem ClassFile Op Lib Jvm.Stand Jvm.Free Jvm.LawKit
section Own
variable {p : Program} {l : Launch} {e : Env} {R : Room} {s : State} {m : MethodId} {args : Array Value} {below : List Frame} {meth : Method} {c : Code} {T T' : State} {locs : List Loc} {cells slots : Nat} {Z : State} {a0 : Array Value} {h h' h0 : Heap} {K : State → Outcome → Prop} {pc : Nat} {Ls : Array Slot} {rest : List Value} {Q : Option Value → Heap → List Loc → Prop} {k n : Nat} {a b : Addr} {ws : List Addr} {sl : Nat} {v : Value}
/-- from T the run comes to its end, and K holds there -/
def Go (p : Program) (e : Env) (below : List Frame) (K : State → Outcome → Prop) (T : State) : Prop := ∃ U o, Steps p.tables e below T U ∧ U.status = .running ∧ Ended U below o ∧ K U o
theorem Go.by (st : ∀ t, Steps p.tables e below T' t → Steps p.tables e below T t) (g : Go p e below K T') : Go p e below K T := by
  obtain ⟨U, o, q, r⟩ := g; exact ⟨U, o, st _ q, r⟩
theorem Go.on (st : Steps p.tables e below T T') (g : Go p e below K T') : Go p e below K T := by
  obtain ⟨U, o, q, r⟩ := g; exact ⟨U, o, st.trans q, r⟩
theorem Go.cast {T'' : State} (q : T = T'') (g : Go p e below K T'') : Go p e below K T := q ▸ g
def KK (s : State) (Q : Option Value → Heap → List Loc → Prop) (k n : Nat) : State → Outcome → Prop := fun U o => ∃ v L, o = .returned v ∧ Q v U.heap L ∧ FrameEnd s o U L k n
abbrev Ctr (l : Launch) (Z : State) (h0 : Heap) (y : MethodName) (bytes : ByteArray) (maxL : Nat) (ret : Option FieldType) (ws : List Cond) (rm : Room) (as' : Array Value) (Q : Option Value → Heap → List Loc → Prop) : Prop :=
  MetFree l y (head1 (Cond.code y bytes maxL ret :: ws) rm) (fun a U => a = as' ∧ Z.Warmed39 U.vm ∧ U.heap = h0) (fun _ _ _ _ _ => True) (fun _ U o U' => ∃ v L, o = .returned v ∧ Q v U'.heap L ∧ FrameEnd U o U' L rm.cells rm.slots)
theorem enter {y : MethodName} {bytes : ByteArray} {maxL : Nat} {ret : Option FieldType} {ws : List Cond} {rm : Room} {as' : Array Value} (hp : plainFor y = true)
    (H : ∀ (p : Program) (e : Env) (s : State) (m : MethodId) (below : List Frame) (meth : Method) (c : Code) (s₁ : State), p.tables.exec = Jvm.exec → c.code = bytes → c.maxLocals = maxL → Z.Warmed39 s.vm → s.vm.findClass y.cls = some m.cls → meth.name = y.name → meth.sig.returnType = ret → meth.locks = false →
      Stand p l e rm s m as' below meth c s₁ [] 0 0 → s₁.heap = h0 → s.heap = h0 → Go p e below (KK s Q rm.cells rm.slots) (s₁.setTop (entryFrame m as' maxL))) : Ctr l Z h0 y bytes maxL ret ws rm as' Q := by
  refine MetFree.of_bodySF hp hisR ?_
  intro p e s m args below meth c s₁ Bd hml0 hP hK
  obtain ⟨rfl, hZ, hh⟩ := hP
  exact H p e s m below meth c s₁ Bd.exec Bd.bytes hml0 hZ (findClass_of_methodNamed Bd.named) (name_of_methodNamed Bd.named Bd.method).1 Bd.returns Bd.notSynchronized (Stand.of_body Bd) (by rw [← hh, Bd.state]; rfl) hh
/-! returns -/
theorem Go.ret {w : Value} {t : FieldType} {i : Instr} (X : Stand p l e R s m args below meth c T locs cells slots) (hx : p.tables.exec = Jvm.exec) (hret : meth.sig.returnType = some t) (hlk : meth.locks = false) (hn : narrow t w = w)
    (hi : (i = .ireturn ∧ (t = .int ∨ t = .boolean ∨ t = .byte ∨ t = .char ∨ t = .short) ∧ ∃ z, w = .int z) ∨ (i = .lreturn ∧ t = .long ∧ ∃ z, w = .long z) ∨ (i = .dreturn ∧ t = .double ∧ ∃ z, w = .double z) ∨ (i = .freturn ∧ t = .float ∧ ∃ z, w = .float z) ∨ (i = .areturn ∧ t.isReference = true ∧ w.isRef = true))
    (hd : decode c.code pc = .ok (i, 1)) (eT : T.heap = h) (hk : cells ≤ k) (hs : slots ≤ n) (hQ : Q (some w) h locs) : Go p e below (KK s Q k n) (T.setTop (mkF m pc Ls (w :: rest))) := by
  obtain ⟨fs, hr, hrun, hended, hW, hsame⟩ := X.leave (v := some w) (fun h => by rw [hret] at h; cases h) hlk
  subst eT
  exact ⟨_, _, retOut X hx hret hn hi hd hr, hrun, hended, _, _, rfl, hQ, ⟨_, rfl⟩, hW, hsame.mono hk hs⟩
theorem Go.retI {z : Int32} {t : FieldType} (X : Stand p l e R s m args below meth c T locs cells slots) (hx : p.tables.exec = Jvm.exec) (hret : meth.sig.returnType = some t) (hlk : meth.locks = false) (ht : t = .int ∨ t = .boolean ∨ t = .byte ∨ t = .char ∨ t = .short) (hn : narrow t (.int z) = .int z)
    (hd : decode c.code pc = .ok (.ireturn, 1)) (eT : T.heap = h) (hk : cells ≤ k) (hs : slots ≤ n) (hQ : Q (some (.int z)) h locs) : Go p e below (KK s Q k n) (T.setTop (mkF m pc Ls (.int z :: rest))) :=
  Go.ret X hx hret hlk hn (Or.inl ⟨rfl, ht, z, rfl⟩) hd eT hk hs hQ
theorem Go.retJ {z : Int64} (X : Stand p l e R s m args below meth c T locs cells slots) (hx : p.tables.exec = Jvm.exec) (hret : meth.sig.returnType = some .long) (hlk : meth.locks = false)
    (hd : decode c.code pc = .ok (.lreturn, 1)) (eT : T.heap = h) (hk : cells ≤ k) (hs : slots ≤ n) (hQ : Q (some (.long z)) h locs) : Go p e below (KK s Q k n) (T.setTop (mkF m pc Ls (.long z :: rest))) :=
  Go.ret X hx hret hlk rfl (Or.inr (Or.inl ⟨rfl, rfl, z, rfl⟩)) hd eT hk hs hQ
theorem nar_ref {t : FieldType} {w : Value} (hw : w.isRef = true) : narrow t w = w := by cases w <;> first | (simp [Value.isRef] at hw; done) | (cases t <;> rfl)
theorem fits_any {C : String} {w : Value} (hw : w.isRef = true) : fits (.object C) w = true := by cases w <;> first | (simp [Value.isRef] at hw; done) | rfl
theorem Go.retA {w : Value} {t : FieldType} (X : Stand p l e R s m args below meth c T locs cells slots) (hx : p.tables.exec = Jvm.exec) (hret : meth.sig.returnType = some t) (hlk : meth.locks = false) (ht : t.isReference = true) (hw : w.isRef = true)
    (hd : decode c.code pc = .ok (.areturn, 1)) (eT : T.heap = h) (hk : cells ≤ k) (hs : slots ≤ n) (hQ : Q (some w) h locs) : Go p e below (KK s Q k n) (T.setTop (mkF m pc Ls (w :: rest))) :=
  Go.ret X hx hret hlk (nar_ref hw) (Or.inr (Or.inr (Or.inr (Or.inr ⟨rfl, ht, hw⟩)))) hd eT hk hs hQ
theorem Go.retV (X : Stand p l e R s m args below meth c T locs cells slots) (hx : p.tables.exec = Jvm.exec) (hret : meth.sig.returnType = none) (hlk : meth.locks = false)
    (hd : decode c.code pc = .ok (.return_, 1)) (eT : T.heap = h) (hk : cells ≤ k) (hs : slots ≤ n) (hQ : Q none h locs) : Go p e below (KK s Q k n) (T.setTop (mkF m pc Ls [])) := by
  obtain ⟨fs, hr, hrun, hended, hW, hsame⟩ := X.leave (v := none) (fun _ => rfl) hlk
  subst eT
  exact ⟨_, _, X.returnOut hx hret hd hr, hrun, hended, _, _, rfl, hQ, ⟨_, rfl⟩, hW, hsame.mono hk hs⟩
/-! the old cells -/
theorem ext_trans {h1 h2 h3 : Heap} (E : Ext h1 h2) (F : Ext h2 h3) : Ext h1 h3 := ⟨Nat.le_trans E.1 F.1, fun a c q => F.2 a c (E.2 a c q)⟩
theorem ext_wr {h1 h2 h3 : Heap} (E : Ext h1 h2) (W : Wr h2 h3 a sl v) (g : h1.size ≤ a) : Ext h1 h3 := by
  obtain ⟨cell, q1, q2, q3, rfl⟩ := W
  refine ⟨by simpa using E.1, fun x c q => ?_⟩
  have hx : x < h1.size := (Array.getElem?_eq_some_iff.mp q).1
  rw [Array.getElem?_setIfInBounds_ne (Nat.ne_of_gt (Nat.lt_of_lt_of_le hx g))]
  exact E.2 x c q
theorem ext_keep {h1 h2 h3 : Heap} (E : Ext h1 h2) (F : Keep h2 h3 ws) (g : ∀ x ∈ ws, h1.size ≤ x) : Ext h1 h3 := by
  refine ⟨Nat.le_trans E.1 F.1, fun x c q => F.2.1 x c (E.2 x c q) fun z => ?_⟩
  exact absurd (Array.getElem?_eq_some_iff.mp q).1 (Nat.not_lt.mpr (g x z))
theorem ne_new (q : a < h.size) (r : h.size ≤ b) : a ≠ b := Nat.ne_of_lt (Nat.lt_of_lt_of_le q r)
/-! calls -/
theorem Go.callS {own : String} {index : Nat} {y : MethodName} {bytes : ByteArray} {maxL : Nat} {ret : Option FieldType} {rm : Room} {as' : Array Value} {argsL S : List Value} (X : Stand p l e R s m args below meth c T locs cells slots) (hx : p.tables.exec = Jvm.exec) (hZ : Z.Warmed39 s.vm) (hown : s.vm.findClass own = some m.cls)
    (w1 : (Cond.methodLink own index y).before a0 Z = true) (w2 : (Cond.static y).before a0 Z = true) (w3 : (Cond.initialized y.cls).before a0 Z = true) (w4 : (Cond.code y bytes maxL ret).before a0 Z = true)
    (hy : y.cls ≠ "java/lang/invoke/MethodHandle" ∧ y.cls ≠ "java/lang/invoke/VarHandle") {Q : Option Value → Heap → List Loc → Prop} (hM : Ctr l Z h y bytes maxL ret [] rm as' Q) (eT : T.heap = h) (hsz : Ls.size = c.maxLocals)
    (hd : decode c.code pc = .ok (.invokestatic index, 3)) (hlen : ∀ sig, parseMethodDescriptor y.desc = some sig → argsL.length = sig.parameters.length) (hst : S = argsL.reverse ++ rest) (has : argsL.toArray = as')
    {W : Nat} (hW : 2 * 0 + (rest.map fun v => v.category).sum ≤ W) (hf : rm.frames + 1 ≤ R.frames) (hl : W + (maxL + 11) + rm.locals ≤ R.locals) (hc : cells + rm.cells ≤ R.cells) (hs : slots + rm.slots ≤ R.slots)
    (g : ∀ (v : Option Value) (T' : State) (L : List Loc), Stand p l e R s m args below meth c T' (locs ++ L) (cells + rm.cells) (slots + rm.slots) → Q v T'.heap L → Go p e below K (T'.setTop (mkF m (pc + 3) Ls (v.toList ++ rest)))) : Go p e below K (T.setTop (mkF m pc Ls S)) := by
  obtain ⟨v, _, ⟨T', L', k', n'⟩, -, X', ⟨Lc, hQ, l', y', z'⟩, st⟩ := Jvm.LawKit.callS X hx (y := y) hown (mvT hZ w1) (mvT hZ w2) (mvT hZ w3) (mvT hZ w4) hy (backOf (W := W) hM hZ w4 w3 hf hl) (g := mkF m pc Ls S) rfl hsz (argsL := argsL) (rest := rest) hlen hst hW hd (fun _ _ => ⟨has, eT, hc, hs⟩)
  dsimp only [Pt.U, Pt.locs, Pt.cells, Pt.slots] at X' l' y' z' st hQ
  subst l' y' z'
  exact Go.by st (g v T' Lc X' hQ)
theorem Go.init {own : String} {index : Nat} {y : MethodName} {bytes : ByteArray} {maxL : Nat} {rm : Room} {as' : Array Value} {argsL S : List Value} (X : Stand p l e R s m args below meth c T locs cells slots) (hx : p.tables.exec = Jvm.exec) (hZ : Z.Warmed39 s.vm) (hown : s.vm.findClass own = some m.cls) (hy1 : y.name = "<init>")
    (w1 : (Cond.methodLink own index y).before a0 Z = true) (w2 : (Cond.instanceMethod y).before a0 Z = true) (w3 : (Cond.initialized y.cls).before a0 Z = true) (w4 : (Cond.code y bytes maxL none).before a0 Z = true)
    (hy : y.cls ≠ "java/lang/invoke/MethodHandle" ∧ y.cls ≠ "java/lang/invoke/VarHandle") {Q : Option Value → Heap → List Loc → Prop} (hM : Ctr l Z h y bytes maxL none [] rm as' Q) (eT : T.heap = h) (hsz : Ls.size = c.maxLocals)
    (hd : decode c.code pc = .ok (.invokespecial index, 3)) (hlen : ∀ sig, parseMethodDescriptor y.desc = some sig → argsL.length = sig.parameters.length) (hst : S = argsL.reverse ++ .ref a :: rest) (has : (Value.ref a :: argsL).toArray = as')
    {W : Nat} (hW : 2 * 0 + (rest.map fun v => v.category).sum ≤ W) (hf : rm.frames + 1 ≤ R.frames) (hl : W + (maxL + 11) + rm.locals ≤ R.locals) (hc : cells + rm.cells ≤ R.cells) (hs : slots + rm.slots ≤ R.slots)
    (g : ∀ (v : Option Value) (T' : State) (L : List Loc), Stand p l e R s m args below meth c T' (locs ++ L) (cells + rm.cells) (slots + rm.slots) → Q v T'.heap L → Go p e below K (T'.setTop (mkF m (pc + 3) Ls (v.toList ++ rest)))) : Go p e below K (T.setTop (mkF m pc Ls S)) := by
  obtain ⟨v, _, ⟨T', L', k', n'⟩, -, X', ⟨Lc, hQ, l', y', z'⟩, st⟩ := X.specialBack hx (y := y) hy1 hown (mvT hZ w1) (mvT hZ w2) (mvT hZ w4) hy (backOf (W := W) hM hZ w4 w3 hf hl) (g := mkF m pc Ls S) rfl hsz (Steps.refl _) (a := a) (argsL := argsL) (rest := rest) hlen hst hW hd (fun _ _ => ⟨has, eT, hc, hs⟩)
  dsimp only [Pt.U, Pt.locs, Pt.cells, Pt.slots] at X' l' y' z' st hQ
  subst l' y' z'
  exact Go.on st (g v T' Lc X' hQ)
theorem Go.virt {own C : String} {index : Nat} {y z : MethodName} {bytes : ByteArray} {maxL : Nat} {ret : Option FieldType} {rm : Room} {as' : Array Value} {argsL S : List Value} (X : Stand p l e R s m args below meth c T locs cells slots) (hx : p.tables.exec = Jvm.exec) (hZ : Z.Warmed39 s.vm) (hown : s.vm.findClass own = some m.cls)
    (w1 : (Cond.methodLink own index y).before a0 Z = true) (w2 : (Cond.declares y).before a0 Z = true) (hnf : NotFace s y) (w5 : (Cond.selects C y z).before a0 Z = true) (w6 : (Cond.instanceMethod z).before a0 Z = true) (w3 : (Cond.initialized z.cls).before a0 Z = true) (w4 : (Cond.code z bytes maxL ret).before a0 Z = true)
    (hy : y.cls ≠ "java/lang/invoke/MethodHandle" ∧ y.cls ≠ "java/lang/invoke/VarHandle") {Q : Option Value → Heap → List Loc → Prop} (hM : Ctr l Z h z bytes maxL ret [] rm as' Q) (eT : T.heap = h) (E : Exa Z h a C) (hsz : Ls.size = c.maxLocals)
    (hd : decode c.code pc = .ok (.invokevirtual index, 3)) (hlen : ∀ sig, parseMethodDescriptor y.desc = some sig → argsL.length = sig.parameters.length) (hst : S = argsL.reverse ++ .ref a :: rest) (has : (Value.ref a :: argsL).toArray = as')
    {W : Nat} (hW : 2 * 0 + (rest.map fun v => v.category).sum ≤ W) (hf : rm.frames + 1 ≤ R.frames) (hl : W + (maxL + 11) + rm.locals ≤ R.locals) (hc : cells + rm.cells ≤ R.cells) (hs : slots + rm.slots ≤ R.slots)
    (g : ∀ (v : Option Value) (T' : State) (L : List Loc), Stand p l e R s m args below meth c T' (locs ++ L) (cells + rm.cells) (slots + rm.slots) → Q v T'.heap L → Go p e below K (T'.setTop (mkF m (pc + 3) Ls (v.toList ++ rest)))) : Go p e below K (T.setTop (mkF m pc Ls S)) := by
  obtain ⟨cq, kq, q1, q2, q3⟩ := isOf hZ eT E
  obtain ⟨v, _, ⟨T', L', k', n'⟩, -, X', ⟨Lc, hQ, l', y', z'⟩, st⟩ := X.virtualBack hx (y := y) (z := z) hown (mvT hZ w1) (mvT hZ w2) hnf (mvT hZ w5) (mvT hZ w6) hy (backOf (W := W) hM hZ w4 w3 hf hl) q1 q3 (g := mkF m pc Ls S) rfl hsz (Steps.refl _) (argsL := argsL) (rest := rest) hlen hst hW hd (fun _ _ => ⟨has, eT, hc, hs⟩)
  dsimp only [Pt.U, Pt.locs, Pt.cells, Pt.slots] at X' l' y' z' st hQ
  subst l' y' z'
  exact Go.on st (g v T' Lc X' hQ)
theorem Go.face {own C : String} {index count : Nat} {y z : MethodName} {bytes : ByteArray} {maxL : Nat} {ret : Option FieldType} {rm : Room} {as' : Array Value} {argsL S : List Value} (X : Stand p l e R s m args below meth c T locs cells slots) (hx : p.tables.exec = Jvm.exec) (hZ : Z.Warmed39 s.vm) (hown : s.vm.findClass own = some m.cls)
    (w1 : (Cond.methodLink own index y).before a0 Z = true) (w2 : (Cond.declares y).before a0 Z = true) (w7 : (Cond.interfaceMethod y.cls y.cls y.name y.desc).before a0 Z = true) (w5 : (Cond.selects C y z).before a0 Z = true) (w6 : (Cond.instanceMethod z).before a0 Z = true) (w8 : (Cond.publicMethod z).before a0 Z = true) (w9 : (Cond.unhidden C y.name y.desc).before a0 Z = true) (w10 : (Cond.castable C y.cls).before a0 Z = true) (w3 : (Cond.initialized z.cls).before a0 Z = true) (w4 : (Cond.code z bytes maxL ret).before a0 Z = true)
    (hy : y.cls ≠ "java/lang/invoke/MethodHandle" ∧ y.cls ≠ "java/lang/invoke/VarHandle") {Q : Option Value → Heap → List Loc → Prop} (hM : Ctr l Z h z bytes maxL ret [] rm as' Q) (eT : T.heap = h) (E : Exa Z h a C) (hsz : Ls.size = c.maxLocals)
    (hd : decode c.code pc = .ok (.invokeinterface index count, 5)) (hlen : ∀ sig, parseMethodDescriptor y.desc = some sig → argsL.length = sig.parameters.length) (hst : S = argsL.reverse ++ .ref a :: rest) (has : (Value.ref a :: argsL).toArray = as')
    {W : Nat} (hW : 2 * 0 + (rest.map fun v => v.category).sum ≤ W) (hf : rm.frames + 1 ≤ R.frames) (hl : W + (maxL + 11) + rm.locals ≤ R.locals) (hc : cells + rm.cells ≤ R.cells) (hs : slots + rm.slots ≤ R.slots)
    (g : ∀ (v : Option Value) (T' : State) (L : List Loc), Stand p l e R s m args below meth c T' (locs ++ L) (cells + rm.cells) (slots + rm.slots) → Q v T'.heap L → Go p e below K (T'.setTop (mkF m (pc + 5) Ls (v.toList ++ rest)))) : Go p e below K (T.setTop (mkF m pc Ls S)) := by
  obtain ⟨cq, kq, q1, q2, q3⟩ := isOf hZ eT E
  obtain ⟨v, _, ⟨T', L', k', n'⟩, -, X', ⟨Lc, hQ, l', y', z'⟩, st⟩ := X.interfaceBack hx (xi := y) (y := z) hown (mvT hZ w1) (mvT hZ w2) (mvT hZ w7 (by simp [Cond.onTables, Cond.keepsFace, Cond.keeps, Cond.steady, Cond.faceAtom]; exact hy)) (mvT hZ w5) (mvT hZ w6) (mvT hZ w8) (mvT hZ w9) (mvT hZ w10) hy (backOf (W := W) (len := 5) hM hZ w4 w3 hf hl) q1 q2 q3 (g := mkF m pc Ls S) rfl hsz (Steps.refl _) (argsL := argsL) (rest := rest) hlen hst hW hd (fun _ _ => ⟨has, eT, hc, hs⟩)
  dsimp only [Pt.U, Pt.locs, Pt.cells, Pt.slots] at X' l' y' z' st hQ
  subst l' y' z'
  exact Go.on st (g v T' Lc X' hQ)
theorem Go.priv {own : String} {index : Nat} {y : MethodName} {bytes : ByteArray} {maxL : Nat} {ret : Option FieldType} {rm : Room} {as' : Array Value} {argsL S : List Value} {C : String} (X : Stand p l e R s m args below meth c T locs cells slots) (hx : p.tables.exec = Jvm.exec) (hZ : Z.Warmed39 s.vm) (hown : s.vm.findClass own = some m.cls)
    (w1 : (Cond.methodLink own index y).before a0 Z = true) (w6 : (Cond.instanceMethod y).before a0 Z = true) (w5 : (Cond.selects y.cls y y).before a0 Z = true) (w7 : (Cond.privateMethod y).before a0 Z = true) (w3 : (Cond.initialized y.cls).before a0 Z = true) (w4 : (Cond.code y bytes maxL ret).before a0 Z = true)
    (hy : y.cls ≠ "java/lang/invoke/MethodHandle" ∧ y.cls ≠ "java/lang/invoke/VarHandle") {Q : Option Value → Heap → List Loc → Prop} (hM : Ctr l Z h y bytes maxL ret [] rm as' Q) (eT : T.heap = h) (E : Exa Z h a C) (hsz : Ls.size = c.maxLocals)
    (hd : decode c.code pc = .ok (.invokevirtual index, 3)) (hlen : ∀ sig, parseMethodDescriptor y.desc = some sig → argsL.length = sig.parameters.length) (hst : S = argsL.reverse ++ .ref a :: rest) (has : (Value.ref a :: argsL).toArray = as')
    {W : Nat} (hW : 2 * 0 + (rest.map fun v => v.category).sum ≤ W) (hf : rm.frames + 1 ≤ R.frames) (hl : W + (maxL + 11) + rm.locals ≤ R.locals) (hc : cells + rm.cells ≤ R.cells) (hs : slots + rm.slots ≤ R.slots)
    (g : ∀ (v : Option Value) (T' : State) (L : List Loc), Stand p l e R s m args below meth c T' (locs ++ L) (cells + rm.cells) (slots + rm.slots) → Q v T'.heap L → Go p e below K (T'.setTop (mkF m (pc + 3) Ls (v.toList ++ rest)))) : Go p e below K (T.setTop (mkF m pc Ls S)) := by
  obtain ⟨cq, q1, q2⟩ := E.cell
  subst eT
  obtain ⟨v, _, ⟨T', L', k', n'⟩, -, X', ⟨Lc, hQ, l', y', z'⟩, st⟩ := X.privateBack hx (y := y) hown (mvT hZ w1) (mvT hZ w6) (mvT hZ w5) (Cond.privateMethod_at (mvP hZ w7 (args := #[]))) (mvT hZ w4) hy (backOf (W := W) hM hZ w4 w3 hf hl) (g := mkF m pc Ls S) rfl hsz (Steps.refl _) (a := a) q1 q2 (argsL := argsL) (rest := rest) hlen hst hW hd (fun _ _ => ⟨has, rfl, hc, hs⟩)
  dsimp only [Pt.U, Pt.locs, Pt.cells, Pt.slots] at X' l' y' z' st hQ
  subst l' y' z'
  exact Go.on st (g v T' Lc X' hQ)
theorem Go.sup {own C : String} {index : Nat} {y : MethodName} {bytes : ByteArray} {maxL : Nat} {ret : Option FieldType} {rm : Room} {as' : Array Value} {argsL S : List Value} (X : Stand p l e R s m args below meth c T locs cells slots) (hx : p.tables.exec = Jvm.exec) (hZ : Z.Warmed39 s.vm) (hown : s.vm.findClass own = some m.cls)
    (w1 : (Cond.methodLink own index y).before a0 Z = true) (w2 : (Cond.sameMethod y.cls y.cls y.name y.desc).before a0 Z = true) (w6 : (Cond.instanceMethod y).before a0 Z = true) (w5 : (Cond.superclass own y.cls).before a0 Z = true) (hn : y.name ≠ "<init>") (w3 : (Cond.initialized y.cls).before a0 Z = true) (w4 : (Cond.code y bytes maxL ret).before a0 Z = true)
    {Q : Option Value → Heap → List Loc → Prop} (hM : Ctr l Z h y bytes maxL ret [] rm as' Q) (eT : T.heap = h) (E : Exa Z h a C) (hsz : Ls.size = c.maxLocals)
    (hd : decode c.code pc = .ok (.invokespecial index, 3)) (hlen : ∀ sig, parseMethodDescriptor y.desc = some sig → argsL.length = sig.parameters.length) (hst : S = argsL.reverse ++ .ref a :: rest) (has : (Value.ref a :: argsL).toArray = as')
    {W : Nat} (hW : 2 * 0 + (rest.map fun v => v.category).sum ≤ W) (hf : rm.frames + 1 ≤ R.frames) (hl : W + (maxL + 11) + rm.locals ≤ R.locals) (hc : cells + rm.cells ≤ R.cells) (hs : slots + rm.slots ≤ R.slots)
    (g : ∀ (v : Option Value) (T' : State) (L : List Loc), Stand p l e R s m args below meth c T' (locs ++ L) (cells + rm.cells) (slots + rm.slots) → Q v T'.heap L → Go p e below K (T'.setTop (mkF m (pc + 3) Ls (v.toList ++ rest)))) : Go p e below K (T.setTop (mkF m pc Ls S)) := by
  obtain ⟨v, _, ⟨T', L', k', n'⟩, -, X', ⟨Lc, hQ, l', y', z'⟩, st⟩ := superBack X hx hZ (y := y) hown w1 w2 w6 w5 hn (backOf (W := W) hM hZ w4 w3 hf hl) eT (Ins.self E) (g := mkF m pc Ls S) rfl hsz w4 (argsL := argsL) (rest := rest) hlen hst hW hd (fun _ _ => ⟨has, eT, hc, hs⟩)
  dsimp only [Pt.U, Pt.locs, Pt.cells, Pt.slots] at X' l' y' z' st hQ
  subst l' y' z'
  exact Go.on st (g v T' Lc X' hQ)
/-! arrays whose components are known -/
variable {cA : ClassId} {ty : FieldType} {z j : Int32} {vs : List Value} {dv : Value}
theorem Go.alen (X : Stand p l e R s m args below meth c T locs cells slots) (hx : p.tables.exec = Jvm.exec) (hZ : Z.Warmed39 s.vm) (eT : T.heap = h) (V : Arv Z h a cA ty z vs dv) (hd : decode c.code pc = .ok (.arraylength, 1))
    (g : Go p e below K (T.setTop (mkF m (pc + 1) Ls (.int z :: rest)))) : Go p e below K (T.setTop (mkF m pc Ls (.ref a :: rest))) := by
  obtain ⟨cl, A, -, S, N, -, -⟩ := V
  subst eT
  refine Go.by (fun t q => X.arraylength hx A.1 (State.isArrayOf_alike hZ.alike A.2.1) (g := mkF m pc Ls (.ref a :: rest)) rfl rfl hd _ q) ?_
  rw [len_of S N]
  exact g
/-- an array of which the length alone is known -/
def Lng (Z : State) (h : Heap) (a : Addr) (n : Int32) : Prop := ∃ (cl : Cell) (ty : FieldType), Arr Z h a cl ty ∧ cl.slots.size = n.toNatClampNeg ∧ ¬ n < 0
theorem Lng.ext (L : Lng Z h a z) (E : Ext h h') : Lng Z h' a z := by obtain ⟨cl, ty, A, r⟩ := L; exact ⟨cl, ty, A.ext E, r⟩
theorem Lng.lt (L : Lng Z h a z) : a < h.size := by obtain ⟨cl, ty, A, r⟩ := L; exact A.lt
theorem Lng.of {cl : Cell} (A : Arr Z h a cl ty) (q : cl.slots.size < 2 ^ 31) (e : cl.slots.size.toInt32 = z) (hz : ¬ z < 0) : Lng Z h a z := by
  refine ⟨cl, ty, A, ?_, hz⟩
  rw [← e]; simp only [Int32.toNatClampNeg, len_toInt q]; rfl
theorem Go.aln (X : Stand p l e R s m args below meth c T locs cells slots) (hx : p.tables.exec = Jvm.exec) (hZ : Z.Warmed39 s.vm) (eT : T.heap = h) (V : Lng Z h a z) (hd : decode c.code pc = .ok (.arraylength, 1))
    (g : Go p e below K (T.setTop (mkF m (pc + 1) Ls (.int z :: rest)))) : Go p e below K (T.setTop (mkF m pc Ls (.ref a :: rest))) := by
  obtain ⟨cl, ty, A, S, N⟩ := V
  subst eT
  refine Go.by (fun t q => X.arraylength hx A.1 (State.isArrayOf_alike hZ.alike A.2.1) (g := mkF m pc Ls (.ref a :: rest)) rfl rfl hd _ q) ?_
  rw [len_of S N]
  exact g
theorem bb (x : Int32) : x.toInt8.toInt32.toInt8.toInt32 = x.toInt8.toInt32 := by simp
theorem Go.bal {v : Value} (X : Stand p l e R s m args below meth c T locs cells slots) (hx : p.tables.exec = Jvm.exec) (hZ : Z.Warmed39 s.vm) (eT : T.heap = h) (V : Arv Z h a cA .byte z vs dv) (hj : ¬ j < 0 ∧ j < z) (hv : vs.getD j.toNatClampNeg dv = v) (hd : decode c.code pc = .ok (.baload, 1))
    (g : Go p e below K (T.setTop (mkF m (pc + 1) Ls (v :: rest)))) : Go p e below K (T.setTop (mkF m pc Ls (.int j :: .ref a :: rest))) := by
  obtain ⟨cl, A, -, S, N, H, -⟩ := V
  subst eT
  have hin := inb_of S hj
  exact Go.by (fun t q => X.baloadBytes hx (j := j) (v := v) A.1 (State.isArrayOf_alike hZ.alike A.2.1) A.2.2 hin (H.at hin hv) (g := mkF m pc Ls (.int j :: .ref a :: rest)) rfl rfl hd _ q) g
theorem Go.cal {v : Value} (X : Stand p l e R s m args below meth c T locs cells slots) (hx : p.tables.exec = Jvm.exec) (hZ : Z.Warmed39 s.vm) (eT : T.heap = h) (V : Arv Z h a cA .char z vs dv) (hj : ¬ j < 0 ∧ j < z) (hv : vs.getD j.toNatClampNeg dv = v) (hd : decode c.code pc = .ok (.caload, 1))
    (g : Go p e below K (T.setTop (mkF m (pc + 1) Ls (v :: rest)))) : Go p e below K (T.setTop (mkF m pc Ls (.int j :: .ref a :: rest))) := by
  obtain ⟨cl, A, -, S, N, H, -⟩ := V
  subst eT
  have hin := inb_of S hj
  exact Go.by (fun t q => X.caload hx (j := j) (v := v) A.1 (State.isArrayOf_alike hZ.alike A.2.1) A.2.2 hin (H.at hin hv) (g := mkF m pc Ls (.int j :: .ref a :: rest)) rfl rfl hd _ q) g
theorem Go.ial {v : Value} (X : Stand p l e R s m args below meth c T locs cells slots) (hx : p.tables.exec = Jvm.exec) (hZ : Z.Warmed39 s.vm) (eT : T.heap = h) (V : Arv Z h a cA .int z vs dv) (hj : ¬ j < 0 ∧ j < z) (hv : vs.getD j.toNatClampNeg dv = v) (hd : decode c.code pc = .ok (.iaload, 1))
    (g : Go p e below K (T.setTop (mkF m (pc + 1) Ls (v :: rest)))) : Go p e below K (T.setTop (mkF m pc Ls (.int j :: .ref a :: rest))) := by
  obtain ⟨cl, A, -, S, N, H, -⟩ := V
  subst eT
  have hin := inb_of S hj
  exact Go.by (fun t q => X.iaload hx (j := j) (v := v) A.1 (State.isArrayOf_alike hZ.alike A.2.1) A.2.2 hin (H.at hin hv) (g := mkF m pc Ls (.int j :: .ref a :: rest)) rfl rfl hd _ q) g
theorem Go.aal {v : Value} (X : Stand p l e R s m args below meth c T locs cells slots) (hx : p.tables.exec = Jvm.exec) (hZ : Z.Warmed39 s.vm) (eT : T.heap = h) (V : Arv Z h a cA ty z vs dv) (hty : ty.isReference = true) (hj : ¬ j < 0 ∧ j < z) (hv : vs.getD j.toNatClampNeg dv = v) (hd : decode c.code pc = .ok (.aaload, 1))
    (g : Go p e below K (T.setTop (mkF m (pc + 1) Ls (v :: rest)))) : Go p e below K (T.setTop (mkF m pc Ls (.int j :: .ref a :: rest))) := by
  obtain ⟨cl, A, -, S, N, H, -⟩ := V
  subst eT
  have hin := inb_of S hj
  exact Go.by (fun t q => X.aaload hx (j := j) (v := v) A.1 (State.isArrayOf_alike hZ.alike A.2.1) hty A.2.2 hin (H.at hin hv) (g := mkF m pc Ls (.int j :: .ref a :: rest)) rfl rfl hd _ q) g
theorem Go.bst {x : Int32} {i : Nat} (X : Stand p l e R s m args below meth c T locs cells slots) (hx : p.tables.exec = Jvm.exec) (hZ : Z.Warmed39 s.vm) (eT : T.heap = h) (V : Arv Z h a cA .byte z vs dv) (hj : ¬ j < 0 ∧ j < z) (hi : j.toNatClampNeg = i) (hl : i < vs.length) (hd : decode c.code pc = .ok (.bastore, 1))
    (g : ∀ (T' : State) (h' : Heap), Stand p l e R s m args below meth c T' (locs ++ [⟨a, j.toNatClampNeg⟩]) cells slots → T'.heap = h' → Wr h h' a j.toNatClampNeg (.int x.toInt8.toInt32) → Arv Z h' a cA .byte z (vs.set i (.int x.toInt8.toInt32)) dv → Go p e below K (T'.setTop (mkF m (pc + 1) Ls rest))) : Go p e below K (T.setTop (mkF m pc Ls (.int x :: .int j :: .ref a :: rest))) := by
  obtain ⟨cl, A, q1, S, N, H, G⟩ := V
  obtain ⟨T', h', X', e', W, st⟩ := stB X hx hZ eT A (j := j) (x := x) (inb_of S hj) (g := mkF m pc Ls (.int x :: .int j :: .ref a :: rest)) rfl rfl hd
  exact Go.by st (g T' h' X' e' W (Arv.set A q1 S N H G (fits_nar_byte _) W i hi hl))
theorem Go.cst {x : Int32} {i : Nat} (X : Stand p l e R s m args below meth c T locs cells slots) (hx : p.tables.exec = Jvm.exec) (hZ : Z.Warmed39 s.vm) (eT : T.heap = h) (V : Arv Z h a cA .char z vs dv) (hj : ¬ j < 0 ∧ j < z) (hi : j.toNatClampNeg = i) (hl : i < vs.length) (hd : decode c.code pc = .ok (.castore, 1))
    (g : ∀ (T' : State) (h' : Heap), Stand p l e R s m args below meth c T' (locs ++ [⟨a, j.toNatClampNeg⟩]) cells slots → T'.heap = h' → Wr h h' a j.toNatClampNeg (.int (nar .char x)) → Arv Z h' a cA .char z (vs.set i (.int (nar .char x))) dv → Go p e below K (T'.setTop (mkF m (pc + 1) Ls rest))) : Go p e below K (T.setTop (mkF m pc Ls (.int x :: .int j :: .ref a :: rest))) := by
  obtain ⟨cl, A, q1, S, N, H, G⟩ := V
  obtain ⟨T', h', X', e', W, st⟩ := stC X hx hZ eT A (j := j) (x := x) (inb_of S hj) (g := mkF m pc Ls (.int x :: .int j :: .ref a :: rest)) rfl rfl hd
  exact Go.by st (g T' h' X' e' W (Arv.set A q1 S N H G (fits_nar_char _) W i hi hl))
theorem Go.ist {x : Int32} {i : Nat} (X : Stand p l e R s m args below meth c T locs cells slots) (hx : p.tables.exec = Jvm.exec) (hZ : Z.Warmed39 s.vm) (eT : T.heap = h) (V : Arv Z h a cA .int z vs dv) (hj : ¬ j < 0 ∧ j < z) (hi : j.toNatClampNeg = i) (hl : i < vs.length) (hd : decode c.code pc = .ok (.iastore, 1))
    (g : ∀ (T' : State) (h' : Heap), Stand p l e R s m args below meth c T' (locs ++ [⟨a, j.toNatClampNeg⟩]) cells slots → T'.heap = h' → Wr h h' a j.toNatClampNeg (.int x) → Arv Z h' a cA .int z (vs.set i (.int x)) dv → Go p e below K (T'.setTop (mkF m (pc + 1) Ls rest))) : Go p e below K (T.setTop (mkF m pc Ls (.int x :: .int j :: .ref a :: rest))) := by
  obtain ⟨cl, A, q1, S, N, H, G⟩ := V
  obtain ⟨T', h', X', e', W, st⟩ := stI X hx hZ eT A (j := j) (x := x) (inb_of S hj) (g := mkF m pc Ls (.int x :: .int j :: .ref a :: rest)) rfl rfl hd
  exact Go.by st (g T' h' X' e' W (Arv.set A q1 S N H G rfl W i hi hl))
/-! from the case's words -/
theorem sta_exa {C f d K : String} (hx : (Cond.exactly (Term.static C f d) K).value args s none s [] = some true) (w1 : (Cond.initialized C).before args s = true) (w2 : (Cond.laysStatic C f d).before args s = true) : ∃ a, (Term.static C f d).eval args s none [] s = some (.ref a) ∧ Sta s s.heap C f d (.ref a) ∧ Exa s s.heap a K := by
  obtain ⟨a, ev⟩ := exa_v hx
  exact ⟨a, ev, Sta.start ev (Or.inr ⟨w1, w2⟩), Exa.start ev hx⟩
theorem fld_int {t : Term} {C f d : String} {z : Int32} (ev : t.eval args s none [] s = some (.ref a)) (hx : (Cond.eq (Term.field t C f d) (Term.int z)).value args s none s [] = some true) : Fld s s.heap a C f d (.int z) := by
  obtain ⟨x, y, e1, e2, k1, k2⟩ := cmp_v (Or.inl hx)
  have e3 : y = .int z := by rw [Term.int_eval] at e2; exact (Option.some.inj e2).symm
  subst e3
  obtain ⟨q, rfl⟩ : ∃ q, x = .int q := k2
  have e4 : q = z := by simpa [Cond.value, e1, e2] using hx
  subst e4
  rw [fld_at ev] at e1
  exact Fld.start e1
theorem eq_int {t : Term} {x z : Int32} (ev : t.eval args s none [] s = some (.int x)) (h : (Cond.eq t (Term.int z)).before args s = true) : x = z := by
  have q := Cond.before_iff.mp h
  simpa [Cond.value, ev, Term.int_eval] using q
theorem fld_ref {t : Term} {C f d : String} (ev : t.eval args s none [] s = some (.ref a)) (ev2 : (Term.field t C f d).eval args s none [] s = some (.ref b)) : Fld s s.heap a C f d (.ref b) := by
  rw [fld_at ev] at ev2; exact Fld.start ev2
theorem fld_null {t : Term} {C f d : String} (ev : t.eval args s none [] s = some (.ref a)) (hx : (Cond.eq (Term.field t C f d) Term.null).value args s none s [] = some true) : Fld s s.heap a C f d .null := by
  have q := null_v hx
  rw [fld_at ev] at q; exact Fld.start q
theorem fld_same {t u : Term} {C f d : String} (ev : t.eval args s none [] s = some (.ref a)) (ev2 : u.eval args s none [] s = some (.ref b)) (hx : (Cond.eq (Term.field t C f d) u).value args s none s [] = some true) : Fld s s.heap a C f d (.ref b) := by
  obtain ⟨x, y, e1, e2, k1, k2⟩ := cmp_v (Or.inl hx)
  cases ev2.symm.trans e2
  have hr : x.isRef = true := by
    have := k2
    simp [Kin] at this
    exact this.2
  rw [eq_R e1 e2 hr rfl] at hx
  have e3 : x = .ref b := by simpa using hx
  subst e3
  exact fld_ref ev e1
theorem elem_int {t : Term} {i v : Int32} {cl : Cell} {ty : FieldType} (ev : t.eval args s none [] s = some (.ref a)) (A : Arr s s.heap a cl ty) (hx : (Cond.eq (Term.elem t (Term.int i)) (Term.int v)).value args s none s [] = some true) : cl.slots[i.toNatClampNeg]? = some (.int v) := by
  obtain ⟨x, y, e1, e2, k1, k2⟩ := cmp_v (Or.inl hx)
  have e3 : y = .int v := by rw [Term.int_eval] at e2; exact (Option.some.inj e2).symm
  subst e3
  obtain ⟨q, rfl⟩ : ∃ q, x = .int q := k2
  have e4 : q = v := eq_int e1 (Cond.before_iff.mpr hx)
  subst e4
  exact (elem_in e1 ev (Term.int_eval _) A.1).2
theorem sta_int {C f d : String} (h0 : (Cond.initializedFor C f d).before args s = true) (h1 : (Cond.isInt (Term.static C f d)).before args s = true) : ∃ x, (Term.static C f d).eval args s none [] s = some (.int x) ∧ Sta s s.heap C f d (.int x) := by
  obtain ⟨x, ev⟩ := is_v (Cond.before_iff.mp h1)
  exact ⟨x, ev, Sta.start ev (Or.inl h0)⟩
theorem sta_ref {C f d : String} (h0 : (Cond.initializedFor C f d).before args s = true) (h1 : (Cond.isRef (Term.static C f d)).before args s = true) : ∃ x, (Term.static C f d).eval args s none [] s = some x ∧ x.isRef = true ∧ Sta s s.heap C f d x := by
  obtain ⟨x, ev, hr⟩ := isR_v (Cond.before_iff.mp h1)
  exact ⟨x, ev, hr, Sta.start ev (Or.inl h0)⟩
theorem ne_int {t : Term} {x z : Int32} (ev : t.eval args s none [] s = some (.int x)) (h : (Cond.not (Cond.eq t (Term.int z))).before args s = true) : ¬ x = z := by
  have q := not_v (Cond.before_iff.mp h)
  intro e; subst e
  rw [eq_i ev (Term.int_eval _) rfl] at q
  cases q
/-! a class whose superclasses are named is not one that can be instantiated and isn't among them -/
theorem ns_root {O D : String} {nn : Nat} (w : (Cond.noSuperclass O).before a0 Z = true) (wk : (Cond.instantiable D nn).before a0 Z = true) (hn : O ≠ D) : NS Z O D := by
  obtain ⟨c1, k1, q1, q2, q3, -, -⟩ := Cond.noSuperclass_spec w
  obtain ⟨t, -, g1, -⟩ := Cond.instantiable_spec wk
  refine ⟨c1, t, q1, g1, fun fuel => ?_⟩
  have ne := ids_ne q1 g1 hn
  cases fuel <;> simp [Vm.isSubclassAux, ne, q2, q3]
theorem ns_no {C S D : String} {nn : Nat} (w : (Cond.superclass C S).before a0 Z = true) (wk : (Cond.instantiable D nn).before a0 Z = true) (n : NS Z C D) (hn : C ≠ D) : ∃ c t, Z.vm.findClass C = some c ∧ Z.vm.findClass D = some t ∧ Z.vm.assignable c t = false := by
  obtain ⟨c1, t, q0, g0, n3⟩ := n
  obtain ⟨p1, k1, kp, q1, q2, q3, q4, q5, -, q7⟩ := Cond.superclass_spec q0 w
  obtain ⟨t', k2, g1, g2, g3, g4, -⟩ := Cond.instantiable_spec wk
  cases g0.symm.trans g1
  have ne := ids_ne q0 g0 hn
  have g5 : k2.isInterface = false := by simpa using (Bool.or_eq_false_iff.mp g4).1
  refine ⟨c1, t, q0, g0, ?_⟩
  show Z.vm.assignableAux (255 + 1) c1 t = false
  simp [Vm.assignableAux, ne, q2, g2, q5, g3, g5, Vm.isSubclass, n3]
end Own
end Jvm.RoadKit
namespace Jvm.RoadKit
open Sem ClassFile Op Lib Jvm.Stand Jvm.Free Jvm.LawKit
section OwnSteps
variable {p : Program} {l : Launch} {e : Env} {R : Room} {s : State} {m : MethodId} {args : Array Value} {below : List Frame} {meth : Method} {c : Code} {T : State} {locs : List Loc} {cells slots : Nat} {K : State → Outcome → Prop} {pc q : Nat} {Ls l' : Array Slot} {S : List Value}
theorem Go.iloadN {k : Fin 4} {v : Int32} (X : Stand p l e R s m args below meth c T locs cells slots) (hx : p.tables.exec = Jvm.exec) (hd : decode c.code pc = .ok (.iload_n k, 1)) (hl : Ls[k.val]? = some (.val (.int v))) (hp : pc + 1 = q) (g : Go p e below K (T.setTop (mkF m q Ls (.int v :: S)))) : Go p e below K (T.setTop (mkF m pc Ls S)) := by
  subst hp
  exact Go.by (fun t z => XS.iloadN X.here hx rfl hd hl z) g
theorem Go.iload {k : Nat} {v : Int32} (X : Stand p l e R s m args below meth c T locs cells slots) (hx : p.tables.exec = Jvm.exec) (hd : decode c.code pc = .ok (.iload k, 2)) (hl : Ls[k]? = some (.val (.int v))) (hp : pc + 2 = q) (g : Go p e below K (T.setTop (mkF m q Ls (.int v :: S)))) : Go p e below K (T.setTop (mkF m pc Ls S)) := by
  subst hp
  exact Go.by (fun t z => XS.iload X.here hx rfl hd hl z) g
theorem Go.istoreN {k : Fin 4} {v : Int32} (X : Stand p l e R s m args below meth c T locs cells slots) (hx : p.tables.exec = Jvm.exec) (hd : decode c.code pc = .ok (.istore_n k, 1)) (hl : storeLocals Ls k.val (.int v) = some l') (hp : pc + 1 = q) (g : Go p e below K (T.setTop (mkF m q l' S))) : Go p e below K (T.setTop (mkF m pc Ls (.int v :: S))) := by
  subst hp
  exact Go.by (fun t z => XS.istoreN X.here hx rfl hd rfl hl z) g
theorem Go.istore {k : Nat} {v : Int32} (X : Stand p l e R s m args below meth c T locs cells slots) (hx : p.tables.exec = Jvm.exec) (hd : decode c.code pc = .ok (.istore k, 2)) (hl : storeLocals Ls k (.int v) = some l') (hp : pc + 2 = q) (g : Go p e below K (T.setTop (mkF m q l' S))) : Go p e below K (T.setTop (mkF m pc Ls (.int v :: S))) := by
  subst hp
  exact Go.by (fun t z => XS.istore X.here hx rfl hd rfl hl z) g
theorem Go.lloadN {k : Fin 4} {v : Int64} (X : Stand p l e R s m args below meth c T locs cells slots) (hx : p.tables.exec = Jvm.exec) (hd : decode c.code pc = .ok (.lload_n k, 1)) (hl : Ls[k.val]? = some (.val (.long v))) (hp : pc + 1 = q) (g : Go p e below K (T.setTop (mkF m q Ls (.long v :: S)))) : Go p e below K (T.setTop (mkF m pc Ls S)) := by
  subst hp
  exact Go.by (fun t z => XS.lloadN X.here hx rfl hd hl z) g
theorem Go.lload {k : Nat} {v : Int64} (X : Stand p l e R s m args below meth c T locs cells slots) (hx : p.tables.exec = Jvm.exec) (hd : decode c.code pc = .ok (.lload k, 2)) (hl : Ls[k]? = some (.val (.long v))) (hp : pc + 2 = q) (g : Go p e below K (T.setTop (mkF m q Ls (.long v :: S)))) : Go p e below K (T.setTop (mkF m pc Ls S)) := by
  subst hp
  exact Go.by (fun t z => XS.lload X.here hx rfl hd hl z) g
theorem Go.lstoreN {k : Fin 4} {v : Int64} (X : Stand p l e R s m args below meth c T locs cells slots) (hx : p.tables.exec = Jvm.exec) (hd : decode c.code pc = .ok (.lstore_n k, 1)) (hl : storeLocals Ls k.val (.long v) = some l') (hp : pc + 1 = q) (g : Go p e below K (T.setTop (mkF m q l' S))) : Go p e below K (T.setTop (mkF m pc Ls (.long v :: S))) := by
  subst hp
  exact Go.by (fun t z => XS.lstoreN X.here hx rfl hd rfl hl z) g
theorem Go.lstore {k : Nat} {v : Int64} (X : Stand p l e R s m args below meth c T locs cells slots) (hx : p.tables.exec = Jvm.exec) (hd : decode c.code pc = .ok (.lstore k, 2)) (hl : storeLocals Ls k (.long v) = some l') (hp : pc + 2 = q) (g : Go p e below K (T.setTop (mkF m q l' S))) : Go p e below K (T.setTop (mkF m pc Ls (.long v :: S))) := by
  subst hp
  exact Go.by (fun t z => XS.lstore X.here hx rfl hd rfl hl z) g
theorem Go.aloadN {k : Fin 4} {v : Value} (X : Stand p l e R s m args below meth c T locs cells slots) (hx : p.tables.exec = Jvm.exec) (hd : decode c.code pc = .ok (.aload_n k, 1)) (hl : Ls[k.val]? = some (.val v)) (hv : v.isRef = true) (hp : pc + 1 = q) (g : Go p e below K (T.setTop (mkF m q Ls (v :: S)))) : Go p e below K (T.setTop (mkF m pc Ls S)) := by
  subst hp
  exact Go.by (fun t z => XS.aloadN X.here hx rfl hd hl hv z) g
theorem Go.aload {k : Nat} {v : Value} (X : Stand p l e R s m args below meth c T locs cells slots) (hx : p.tables.exec = Jvm.exec) (hd : decode c.code pc = .ok (.aload k, 2)) (hl : Ls[k]? = some (.val v)) (hv : v.isRef = true) (hp : pc + 2 = q) (g : Go p e below K (T.setTop (mkF m q Ls (v :: S)))) : Go p e below K (T.setTop (mkF m pc Ls S)) := by
  subst hp
  exact Go.by (fun t z => XS.aload X.here hx rfl hd hl hv z) g
theorem Go.astoreN {k : Fin 4} {v : Value} (X : Stand p l e R s m args below meth c T locs cells slots) (hx : p.tables.exec = Jvm.exec) (hd : decode c.code pc = .ok (.astore_n k, 1)) (hv : v.isRef = true) (hl : storeLocals Ls k.val v = some l') (hp : pc + 1 = q) (g : Go p e below K (T.setTop (mkF m q l' S))) : Go p e below K (T.setTop (mkF m pc Ls (v :: S))) := by
  subst hp
  exact Go.by (fun t z => XS.astoreN X.here hx rfl hd rfl hv hl z) g
theorem Go.astore {k : Nat} {v : Value} (X : Stand p l e R s m args below meth c T locs cells slots) (hx : p.tables.exec = Jvm.exec) (hd : decode c.code pc = .ok (.astore k, 2)) (hv : v.isRef = true) (hl : storeLocals Ls k v = some l') (hp : pc + 2 = q) (g : Go p e below K (T.setTop (mkF m q l' S))) : Go p e below K (T.setTop (mkF m pc Ls (v :: S))) := by
  subst hp
  exact Go.by (fun t z => XS.astore X.here hx rfl hd rfl hv hl z) g
theorem Go.iconst {i : Int} {r : Int32} (X : Stand p l e R s m args below meth c T locs cells slots) (hx : p.tables.exec = Jvm.exec) (hd : decode c.code pc = .ok (.iconst i, 1)) (hr : Int32.ofInt i = r) (hp : pc + 1 = q) (g : Go p e below K (T.setTop (mkF m q Ls (.int r :: S)))) : Go p e below K (T.setTop (mkF m pc Ls S)) := by
  subst hp hr
  exact Go.by (fun t z => XS.iconst X.here hx rfl hd z) g
theorem Go.bipush {i : Int} {r : Int32} (X : Stand p l e R s m args below meth c T locs cells slots) (hx : p.tables.exec = Jvm.exec) (hd : decode c.code pc = .ok (.bipush i, 2)) (hr : (Int8.ofInt i).toInt32 = r) (hp : pc + 2 = q) (g : Go p e below K (T.setTop (mkF m q Ls (.int r :: S)))) : Go p e below K (T.setTop (mkF m pc Ls S)) := by
  subst hp hr
  exact Go.by (fun t z => XS.bipush X.here hx rfl hd z) g
theorem Go.sipush {i : Int} {r : Int32} (X : Stand p l e R s m args below meth c T locs cells slots) (hx : p.tables.exec = Jvm.exec) (hd : decode c.code pc = .ok (.sipush i, 3)) (hr : (Int16.ofInt i).toInt32 = r) (hp : pc + 3 = q) (g : Go p e below K (T.setTop (mkF m q Ls (.int r :: S)))) : Go p e below K (T.setTop (mkF m pc Ls S)) := by
  subst hp hr
  exact Go.by (fun t z => XS.sipush X.here hx rfl hd z) g
theorem Go.lconst {k : Fin 2} {r : Int64} (X : Stand p l e R s m args below meth c T locs cells slots) (hx : p.tables.exec = Jvm.exec) (hd : decode c.code pc = .ok (.lconst k, 1)) (hr : Int64.ofNat k = r) (hp : pc + 1 = q) (g : Go p e below K (T.setTop (mkF m q Ls (.long r :: S)))) : Go p e below K (T.setTop (mkF m pc Ls S)) := by
  subst hp hr
  exact Go.by (fun t z => XS.lconst X.here hx rfl hd z) g
theorem Go.aconst_null  (X : Stand p l e R s m args below meth c T locs cells slots) (hx : p.tables.exec = Jvm.exec) (hd : decode c.code pc = .ok (.aconst_null, 1)) (hp : pc + 1 = q) (g : Go p e below K (T.setTop (mkF m q Ls (.null :: S)))) : Go p e below K (T.setTop (mkF m pc Ls S)) := by
  subst hp
  exact Go.by (fun t z => XS.aconstNull X.here hx rfl hd z) g
theorem Go.iadd {x y r : Int32} (X : Stand p l e R s m args below meth c T locs cells slots) (hx : p.tables.exec = Jvm.exec) (hd : decode c.code pc = .ok (.iadd, 1)) (hr : x + y = r) (hp : pc + 1 = q) (g : Go p e below K (T.setTop (mkF m q Ls (.int r :: S)))) : Go p e below K (T.setTop (mkF m pc Ls (.int y :: .int x :: S))) := by
  subst hp hr
  exact Go.by (fun t z => XS.iadd X.here hx rfl hd rfl z) g
theorem Go.ladd {x y r : Int64} (X : Stand p l e R s m args below meth c T locs cells slots) (hx : p.tables.exec = Jvm.exec) (hd : decode c.code pc = .ok (.ladd, 1)) (hr : x + y = r) (hp : pc + 1 = q) (g : Go p e below K (T.setTop (mkF m q Ls (.long r :: S)))) : Go p e below K (T.setTop (mkF m pc Ls (.long y :: .long x :: S))) := by
  subst hp hr
  exact Go.by (fun t z => XS.ladd X.here hx rfl hd rfl z) g
theorem Go.isub {x y r : Int32} (X : Stand p l e R s m args below meth c T locs cells slots) (hx : p.tables.exec = Jvm.exec) (hd : decode c.code pc = .ok (.isub, 1)) (hr : x - y = r) (hp : pc + 1 = q) (g : Go p e below K (T.setTop (mkF m q Ls (.int r :: S)))) : Go p e below K (T.setTop (mkF m pc Ls (.int y :: .int x :: S))) := by
  subst hp hr
  exact Go.by (fun t z => XS.isub X.here hx rfl hd rfl z) g
theorem Go.lsub {x y r : Int64} (X : Stand p l e R s m args below meth c T locs cells slots) (hx : p.tables.exec = Jvm.exec) (hd : decode c.code pc = .ok (.lsub, 1)) (hr : x - y = r) (hp : pc + 1 = q) (g : Go p e below K (T.setTop (mkF m q Ls (.long r :: S)))) : Go p e below K (T.setTop (mkF m pc Ls (.long y :: .long x :: S))) := by
  subst hp hr
  exact Go.by (fun t z => XS.lsub X.here hx rfl hd rfl z) g
theorem Go.imul {x y r : Int32} (X : Stand p l e R s m args below meth c T locs cells slots) (hx : p.tables.exec = Jvm.exec) (hd : decode c.code pc = .ok (.imul, 1)) (hr : x * y = r) (hp : pc + 1 = q) (g : Go p e below K (T.setTop (mkF m q Ls (.int r :: S)))) : Go p e below K (T.setTop (mkF m pc Ls (.int y :: .int x :: S))) := by
  subst hp hr
  exact Go.by (fun t z => XS.imul X.here hx rfl hd rfl z) g
theorem Go.lmul {x y r : Int64} (X : Stand p l e R s m args below meth c T locs cells slots) (hx : p.tables.exec = Jvm.exec) (hd : decode c.code pc = .ok (.lmul, 1)) (hr : x * y = r) (hp : pc + 1 = q) (g : Go p e below K (T.setTop (mkF m q Ls (.long r :: S)))) : Go p e below K (T.setTop (mkF m pc Ls (.long y :: .long x :: S))) := by
  subst hp hr
  exact Go.by (fun t z => XS.lmul X.here hx rfl hd rfl z) g
theorem Go.iand {x y r : Int32} (X : Stand p l e R s m args below meth c T locs cells slots) (hx : p.tables.exec = Jvm.exec) (hd : decode c.code pc = .ok (.iand, 1)) (hr : x &&& y = r) (hp : pc + 1 = q) (g : Go p e below K (T.setTop (mkF m q Ls (.int r :: S)))) : Go p e below K (T.setTop (mkF m pc Ls (.int y :: .int x :: S))) := by
  subst hp hr
  exact Go.by (fun t z => XS.iand X.here hx rfl hd rfl z) g
theorem Go.land {x y r : Int64} (X : Stand p l e R s m args below meth c T locs cells slots) (hx : p.tables.exec = Jvm.exec) (hd : decode c.code pc = .ok (.land, 1)) (hr : x &&& y = r) (hp : pc + 1 = q) (g : Go p e below K (T.setTop (mkF m q Ls (.long r :: S)))) : Go p e below K (T.setTop (mkF m pc Ls (.long y :: .long x :: S))) := by
  subst hp hr
  exact Go.by (fun t z => XS.land X.here hx rfl hd rfl z) g
theorem Go.ior {x y r : Int32} (X : Stand p l e R s m args below meth c T locs cells slots) (hx : p.tables.exec = Jvm.exec) (hd : decode c.code pc = .ok (.ior, 1)) (hr : x ||| y = r) (hp : pc + 1 = q) (g : Go p e below K (T.setTop (mkF m q Ls (.int r :: S)))) : Go p e below K (T.setTop (mkF m pc Ls (.int y :: .int x :: S))) := by
  subst hp hr
  exact Go.by (fun t z => XS.ior X.here hx rfl hd rfl z) g
theorem Go.lor {x y r : Int64} (X : Stand p l e R s m args below meth c T locs cells slots) (hx : p.tables.exec = Jvm.exec) (hd : decode c.code pc = .ok (.lor, 1)) (hr : x ||| y = r) (hp : pc + 1 = q) (g : Go p e below K (T.setTop (mkF m q Ls (.long r :: S)))) : Go p e below K (T.setTop (mkF m pc Ls (.long y :: .long x :: S))) := by
  subst hp hr
  exact Go.by (fun t z => XS.lor X.here hx rfl hd rfl z) g
theorem Go.ixor {x y r : Int32} (X : Stand p l e R s m args below meth c T locs cells slots) (hx : p.tables.exec = Jvm.exec) (hd : decode c.code pc = .ok (.ixor, 1)) (hr : x ^^^ y = r) (hp : pc + 1 = q) (g : Go p e below K (T.setTop (mkF m q Ls (.int r :: S)))) : Go p e below K (T.setTop (mkF m pc Ls (.int y :: .int x :: S))) := by
  subst hp hr
  exact Go.by (fun t z => XS.ixor X.here hx rfl hd rfl z) g
theorem Go.lxor {x y r : Int64} (X : Stand p l e R s m args below meth c T locs cells slots) (hx : p.tables.exec = Jvm.exec) (hd : decode c.code pc = .ok (.lxor, 1)) (hr : x ^^^ y = r) (hp : pc + 1 = q) (g : Go p e below K (T.setTop (mkF m q Ls (.long r :: S)))) : Go p e below K (T.setTop (mkF m pc Ls (.long y :: .long x :: S))) := by
  subst hp hr
  exact Go.by (fun t z => XS.lxor X.here hx rfl hd rfl z) g
theorem Go.idiv {x y r : Int32} (X : Stand p l e R s m args below meth c T locs cells slots) (hx : p.tables.exec = Jvm.exec) (hd : decode c.code pc = .ok (.idiv, 1)) (hy : y ≠ 0) (hr : x / y = r) (hp : pc + 1 = q) (g : Go p e below K (T.setTop (mkF m q Ls (.int r :: S)))) : Go p e below K (T.setTop (mkF m pc Ls (.int y :: .int x :: S))) := by
  subst hp hr
  exact Go.by (fun t z => XS.idiv X.here hx rfl hd rfl hy z) g
theorem Go.ineg {x r : Int32} (X : Stand p l e R s m args below meth c T locs cells slots) (hx : p.tables.exec = Jvm.exec) (hd : decode c.code pc = .ok (.ineg, 1)) (hr : -x = r) (hp : pc + 1 = q) (g : Go p e below K (T.setTop (mkF m q Ls (.int r :: S)))) : Go p e below K (T.setTop (mkF m pc Ls (.int x :: S))) := by
  subst hp hr
  exact Go.by (fun t z => XS.ineg X.here hx rfl hd rfl z) g
theorem Go.ldiv {x y r : Int64} (X : Stand p l e R s m args below meth c T locs cells slots) (hx : p.tables.exec = Jvm.exec) (hd : decode c.code pc = .ok (.ldiv, 1)) (hy : y ≠ 0) (hr : x / y = r) (hp : pc + 1 = q) (g : Go p e below K (T.setTop (mkF m q Ls (.long r :: S)))) : Go p e below K (T.setTop (mkF m pc Ls (.long y :: .long x :: S))) := by
  subst hp hr
  exact Go.by (fun t z => XS.ldiv X.here hx rfl hd rfl hy z) g
theorem Go.lneg {x r : Int64} (X : Stand p l e R s m args below meth c T locs cells slots) (hx : p.tables.exec = Jvm.exec) (hd : decode c.code pc = .ok (.lneg, 1)) (hr : -x = r) (hp : pc + 1 = q) (g : Go p e below K (T.setTop (mkF m q Ls (.long r :: S)))) : Go p e below K (T.setTop (mkF m pc Ls (.long x :: S))) := by
  subst hp hr
  exact Go.by (fun t z => XS.lneg X.here hx rfl hd rfl z) g
theorem Go.irem {x y r : Int32} (X : Stand p l e R s m args below meth c T locs cells slots) (hx : p.tables.exec = Jvm.exec) (hd : decode c.code pc = .ok (.irem, 1)) (hy : y ≠ 0) (hr : x % y = r) (hp : pc + 1 = q) (g : Go p e below K (T.setTop (mkF m q Ls (.int r :: S)))) : Go p e below K (T.setTop (mkF m pc Ls (.int y :: .int x :: S))) := by
  subst hp hr
  exact Go.by (fun t z => iremM X hx (g := mkF m pc Ls (.int y :: .int x :: S)) rfl hd rfl hy z) g
theorem Go.lrem {x y r : Int64} (X : Stand p l e R s m args below meth c T locs cells slots) (hx : p.tables.exec = Jvm.exec) (hd : decode c.code pc = .ok (.lrem, 1)) (hy : y ≠ 0) (hr : x - (x / y) * y = r) (hp : pc + 1 = q) (g : Go p e below K (T.setTop (mkF m q Ls (.long r :: S)))) : Go p e below K (T.setTop (mkF m pc Ls (.long y :: .long x :: S))) := by
  subst hp hr
  exact Go.by (fun t z => XS.lrem X.here hx rfl hd rfl hy z) g
theorem Go.ishl {x y r : Int32} (X : Stand p l e R s m args below meth c T locs cells slots) (hx : p.tables.exec = Jvm.exec) (hd : decode c.code pc = .ok (.ishl, 1)) (hr : x <<< (y &&& 31) = r) (hp : pc + 1 = q) (g : Go p e below K (T.setTop (mkF m q Ls (.int r :: S)))) : Go p e below K (T.setTop (mkF m pc Ls (.int y :: .int x :: S))) := by
  subst hp hr
  exact Go.by (fun t z => XS.ishl X.here hx rfl hd rfl z) g
theorem Go.ishr {x y r : Int32} (X : Stand p l e R s m args below meth c T locs cells slots) (hx : p.tables.exec = Jvm.exec) (hd : decode c.code pc = .ok (.ishr, 1)) (hr : x >>> (y &&& 31) = r) (hp : pc + 1 = q) (g : Go p e below K (T.setTop (mkF m q Ls (.int r :: S)))) : Go p e below K (T.setTop (mkF m pc Ls (.int y :: .int x :: S))) := by
  subst hp hr
  exact Go.by (fun t z => XS.ishr X.here hx rfl hd rfl z) g
theorem Go.iushr {x y r : Int32} (X : Stand p l e R s m args below meth c T locs cells slots) (hx : p.tables.exec = Jvm.exec) (hd : decode c.code pc = .ok (.iushr, 1)) (hr : (x.toUInt32 >>> (y &&& 31).toUInt32).toInt32 = r) (hp : pc + 1 = q) (g : Go p e below K (T.setTop (mkF m q Ls (.int r :: S)))) : Go p e below K (T.setTop (mkF m pc Ls (.int y :: .int x :: S))) := by
  subst hp hr
  exact Go.by (fun t z => XS.iushr X.here hx rfl hd rfl z) g
theorem Go.lshl {x : Int64} {y : Int32} {r : Int64} (X : Stand p l e R s m args below meth c T locs cells slots) (hx : p.tables.exec = Jvm.exec) (hd : decode c.code pc = .ok (.lshl, 1)) (hr : x <<< (y &&& 0x3f).toInt64 = r) (hp : pc + 1 = q) (g : Go p e below K (T.setTop (mkF m q Ls (.long r :: S)))) : Go p e below K (T.setTop (mkF m pc Ls (.int y :: .long x :: S))) := by
  subst hp hr
  exact Go.by (fun t z => XS.lshl X.here hx rfl hd rfl z) g
theorem Go.lshr {x : Int64} {y : Int32} {r : Int64} (X : Stand p l e R s m args below meth c T locs cells slots) (hx : p.tables.exec = Jvm.exec) (hd : decode c.code pc = .ok (.lshr, 1)) (hr : x >>> (y &&& 0x3f).toInt64 = r) (hp : pc + 1 = q) (g : Go p e below K (T.setTop (mkF m q Ls (.long r :: S)))) : Go p e below K (T.setTop (mkF m pc Ls (.int y :: .long x :: S))) := by
  subst hp hr
  exact Go.by (fun t z => XS.lshr X.here hx rfl hd rfl z) g
theorem Go.lushr {x : Int64} {y : Int32} {r : Int64} (X : Stand p l e R s m args below meth c T locs cells slots) (hx : p.tables.exec = Jvm.exec) (hd : decode c.code pc = .ok (.lushr, 1)) (hr : (x.toUInt64 >>> (y &&& 0x3f).toInt64.toUInt64).toInt64 = r) (hp : pc + 1 = q) (g : Go p e below K (T.setTop (mkF m q Ls (.long r :: S)))) : Go p e below K (T.setTop (mkF m pc Ls (.int y :: .long x :: S))) := by
  subst hp hr
  exact Go.by (fun t z => XS.lushr X.here hx rfl hd rfl z) g
theorem Go.i2b {x : Int32} {r : Int32} (X : Stand p l e R s m args below meth c T locs cells slots) (hx : p.tables.exec = Jvm.exec) (hd : decode c.code pc = .ok (.i2b, 1)) (hr : x.toInt8.toInt32 = r) (hp : pc + 1 = q) (g : Go p e below K (T.setTop (mkF m q Ls (.int r :: S)))) : Go p e below K (T.setTop (mkF m pc Ls (.int x :: S))) := by
  subst hp hr
  exact Go.by (fun t z => XS.i2b X.here hx rfl hd rfl z) g
theorem Go.i2c {x : Int32} {r : Int32} (X : Stand p l e R s m args below meth c T locs cells slots) (hx : p.tables.exec = Jvm.exec) (hd : decode c.code pc = .ok (.i2c, 1)) (hr : x.toUInt32.toUInt16.toUInt32.toInt32 = r) (hp : pc + 1 = q) (g : Go p e below K (T.setTop (mkF m q Ls (.int r :: S)))) : Go p e below K (T.setTop (mkF m pc Ls (.int x :: S))) := by
  subst hp hr
  exact Go.by (fun t z => XS.i2c X.here hx rfl hd rfl z) g
theorem Go.i2s {x : Int32} {r : Int32} (X : Stand p l e R s m args below meth c T locs cells slots) (hx : p.tables.exec = Jvm.exec) (hd : decode c.code pc = .ok (.i2s, 1)) (hr : x.toInt16.toInt32 = r) (hp : pc + 1 = q) (g : Go p e below K (T.setTop (mkF m q Ls (.int r :: S)))) : Go p e below K (T.setTop (mkF m pc Ls (.int x :: S))) := by
  subst hp hr
  exact Go.by (fun t z => XS.i2s X.here hx rfl hd rfl z) g
theorem Go.i2l {x : Int32} {r : Int64} (X : Stand p l e R s m args below meth c T locs cells slots) (hx : p.tables.exec = Jvm.exec) (hd : decode c.code pc = .ok (.i2l, 1)) (hr : x.toInt64 = r) (hp : pc + 1 = q) (g : Go p e below K (T.setTop (mkF m q Ls (.long r :: S)))) : Go p e below K (T.setTop (mkF m pc Ls (.int x :: S))) := by
  subst hp hr
  exact Go.by (fun t z => XS.i2l X.here hx rfl hd rfl z) g
theorem Go.l2i {x : Int64} {r : Int32} (X : Stand p l e R s m args below meth c T locs cells slots) (hx : p.tables.exec = Jvm.exec) (hd : decode c.code pc = .ok (.l2i, 1)) (hr : x.toInt32 = r) (hp : pc + 1 = q) (g : Go p e below K (T.setTop (mkF m q Ls (.int r :: S)))) : Go p e below K (T.setTop (mkF m pc Ls (.long x :: S))) := by
  subst hp hr
  exact Go.by (fun t z => XS.l2i X.here hx rfl hd rfl z) g
theorem Go.lcmp {x y : Int64} {r : Int32} (X : Stand p l e R s m args below meth c T locs cells slots) (hx : p.tables.exec = Jvm.exec) (hd : decode c.code pc = .ok (.lcmp, 1)) (hr : Jvm.Free.XT.cmpL x y = r) (hp : pc + 1 = q) (g : Go p e below K (T.setTop (mkF m q Ls (.int r :: S)))) : Go p e below K (T.setTop (mkF m pc Ls (.long y :: .long x :: S))) := by
  subst hp hr
  exact Go.by (fun t z => XS.lcmp X.here hx rfl hd rfl z) g
theorem Go.iinc {k : Nat} {cst : Int} {x r : Int32} (X : Stand p l e R s m args below meth c T locs cells slots) (hx : p.tables.exec = Jvm.exec) (hd : decode c.code pc = .ok (.iinc k cst, 3)) (hl : Ls[k]? = some (.val (.int x))) (hr : x + Int32.ofInt cst = r) (hl' : storeLocals Ls k (.int r) = some l') (hp : pc + 3 = q) (g : Go p e below K (T.setTop (mkF m q l' S))) : Go p e below K (T.setTop (mkF m pc Ls S)) := by
  subst hp hr
  exact Go.by (fun t z => XS.iinc X.here hx rfl hd hl hl' z) g
theorem Go.dup {x : Value} (X : Stand p l e R s m args below meth c T locs cells slots) (hx : p.tables.exec = Jvm.exec) (hd : decode c.code pc = .ok (.dup, 1)) (hc : x.category = 1) (hp : pc + 1 = q) (g : Go p e below K (T.setTop (mkF m q Ls (x :: x :: S)))) : Go p e below K (T.setTop (mkF m pc Ls (x :: S))) := by
  subst hp
  exact Go.by (fun t z => XS.dup X.here hx rfl hd rfl hc z) g
theorem Go.dup_x1 {x y : Value} (X : Stand p l e R s m args below meth c T locs cells slots) (hx : p.tables.exec = Jvm.exec) (hd : decode c.code pc = .ok (.dup_x1, 1)) (hc : x.category = 1) (hc2 : y.category = 1) (hp : pc + 1 = q) (g : Go p e below K (T.setTop (mkF m q Ls (x :: y :: x :: S)))) : Go p e below K (T.setTop (mkF m pc Ls (x :: y :: S))) := by
  subst hp
  exact Go.by (fun t z => XS.dupX1 X.here hx rfl hd rfl hc hc2 z) g
theorem Go.swap {x y : Value} (X : Stand p l e R s m args below meth c T locs cells slots) (hx : p.tables.exec = Jvm.exec) (hd : decode c.code pc = .ok (.swap, 1)) (hc : x.category = 1) (hc2 : y.category = 1) (hp : pc + 1 = q) (g : Go p e below K (T.setTop (mkF m q Ls (y :: x :: S)))) : Go p e below K (T.setTop (mkF m pc Ls (x :: y :: S))) := by
  subst hp
  exact Go.by (fun t z => XS.swap X.here hx rfl hd rfl hc hc2 z) g
theorem Go.pop {x : Value} (X : Stand p l e R s m args below meth c T locs cells slots) (hx : p.tables.exec = Jvm.exec) (hd : decode c.code pc = .ok (.pop, 1)) (hc : x.category = 1) (hp : pc + 1 = q) (g : Go p e below K (T.setTop (mkF m q Ls S))) : Go p e below K (T.setTop (mkF m pc Ls (x :: S))) := by
  subst hp
  exact Go.by (fun t z => XS.pop X.here hx rfl hd rfl hc z) g
theorem Go.goto  {o : Int} (X : Stand p l e R s m args below meth c T locs cells slots) (hx : p.tables.exec = Jvm.exec) (hd : decode c.code pc = .ok (.goto o, 3)) (ho : 0 ≤ (pc : Int) + o) (hp : ((pc : Int) + o).toNat = q) (g : Go p e below K (T.setTop (mkF m q Ls S))) : Go p e below K (T.setTop (mkF m pc Ls S)) :=
  Go.by (fun t z => XS.goto X.here hx rfl (pc0 := pc) rfl hd ho hp z) g
theorem Go.ifYes {cd : ClassFile.Cond} {x : Int32} {o : Int} (X : Stand p l e R s m args below meth c T locs cells slots) (hx : p.tables.exec = Jvm.exec) (hd : decode c.code pc = .ok (.ifCond cd o, 3)) (hc : ifCond.holds cd x = true) (ho : 0 ≤ (pc : Int) + o) (hp : ((pc : Int) + o).toNat = q) (g : Go p e below K (T.setTop (mkF m q Ls S))) : Go p e below K (T.setTop (mkF m pc Ls (.int x :: S))) :=
  Go.by (fun t z => XS.ifYes X.here hx rfl (pc0 := pc) rfl hd rfl hc ho hp z) g
theorem Go.icmpYes {cd : ClassFile.Cond} {x y : Int32} {o : Int} (X : Stand p l e R s m args below meth c T locs cells slots) (hx : p.tables.exec = Jvm.exec) (hd : decode c.code pc = .ok (.if_icmp cd o, 3)) (hc : if_icmp.holds cd x y = true) (ho : 0 ≤ (pc : Int) + o) (hp : ((pc : Int) + o).toNat = q) (g : Go p e below K (T.setTop (mkF m q Ls S))) : Go p e below K (T.setTop (mkF m pc Ls (.int y :: .int x :: S))) :=
  Go.by (fun t z => XS.icmpYes X.here hx rfl (pc0 := pc) rfl hd rfl hc ho hp z) g
theorem Go.ifnullYes  {o : Int} (X : Stand p l e R s m args below meth c T locs cells slots) (hx : p.tables.exec = Jvm.exec) (hd : decode c.code pc = .ok (.ifnull o, 3)) (ho : 0 ≤ (pc : Int) + o) (hp : ((pc : Int) + o).toNat = q) (g : Go p e below K (T.setTop (mkF m q Ls S))) : Go p e below K (T.setTop (mkF m pc Ls (.null :: S))) :=
  Go.by (fun t z => XS.ifnullYes X.here hx rfl (pc0 := pc) rfl hd rfl ho hp z) g
theorem Go.ifnonnullYes {b : Addr} {o : Int} (X : Stand p l e R s m args below meth c T locs cells slots) (hx : p.tables.exec = Jvm.exec) (hd : decode c.code pc = .ok (.ifnonnull o, 3)) (ho : 0 ≤ (pc : Int) + o) (hp : ((pc : Int) + o).toNat = q) (g : Go p e below K (T.setTop (mkF m q Ls S))) : Go p e below K (T.setTop (mkF m pc Ls (.ref b :: S))) :=
  Go.by (fun t z => XS.ifnonnullYes X.here hx rfl (pc0 := pc) rfl hd rfl ho hp z) g
theorem Go.ifNo {cd : ClassFile.Cond} {x : Int32} {o : Int} (X : Stand p l e R s m args below meth c T locs cells slots) (hx : p.tables.exec = Jvm.exec) (hd : decode c.code pc = .ok (.ifCond cd o, 3)) (hc : ifCond.holds cd x = false) (hp : pc + 3 = q) (g : Go p e below K (T.setTop (mkF m q Ls S))) : Go p e below K (T.setTop (mkF m pc Ls (.int x :: S))) := by
  subst hp
  exact Go.by (fun t z => XS.ifNo X.here hx rfl hd rfl hc z) g
theorem Go.icmpNo {cd : ClassFile.Cond} {x y : Int32} {o : Int} (X : Stand p l e R s m args below meth c T locs cells slots) (hx : p.tables.exec = Jvm.exec) (hd : decode c.code pc = .ok (.if_icmp cd o, 3)) (hc : if_icmp.holds cd x y = false) (hp : pc + 3 = q) (g : Go p e below K (T.setTop (mkF m q Ls S))) : Go p e below K (T.setTop (mkF m pc Ls (.int y :: .int x :: S))) := by
  subst hp
  exact Go.by (fun t z => XS.icmpNo X.here hx rfl hd rfl hc z) g
theorem Go.ifnullNo {b : Addr} {o : Int} (X : Stand p l e R s m args below meth c T locs cells slots) (hx : p.tables.exec = Jvm.exec) (hd : decode c.code pc = .ok (.ifnull o, 3)) (hp : pc + 3 = q) (g : Go p e below K (T.setTop (mkF m q Ls S))) : Go p e below K (T.setTop (mkF m pc Ls (.ref b :: S))) := by
  subst hp
  exact Go.by (fun t z => XS.ifnullNo X.here hx rfl hd rfl z) g
theorem Go.ifnonnullNo {o : Int} (X : Stand p l e R s m args below meth c T locs cells slots) (hx : p.tables.exec = Jvm.exec) (hd : decode c.code pc = .ok (.ifnonnull o, 3)) (hp : pc + 3 = q) (g : Go p e below K (T.setTop (mkF m q Ls S))) : Go p e below K (T.setTop (mkF m pc Ls (.null :: S))) := by
  subst hp
  exact Go.by (fun t z => XS.ifnonnullNo X.here hx rfl hd rfl z) g
theorem Go.acmp {cd : ACond} {x y : Value} {o : Int} {same : Bool} (X : Stand p l e R s m args below meth c T locs cells slots) (hx : p.tables.exec = Jvm.exec) (h1 : x.isRef = true) (h2 : y.isRef = true) (hd : decode c.code pc = .ok (.if_acmp cd o, 3)) (hq : decide (x = y) = same) (ho : 0 ≤ (pc : Int) + o) (hp : q = if acV cd same = true then ((pc : Int) + o).toNat else pc + 3) (g : Go p e below K (T.setTop (mkF m q Ls S))) : Go p e below K (T.setTop (mkF m pc Ls (y :: x :: S))) :=
  Go.by (fun t z => Jvm.RoadKit.acmp (g := mkF m pc Ls (y :: x :: S)) X hx rfl h1 h2 (pc0 := pc) (same := same) rfl hd rfl hq ho hp z) g
variable {Z : State} {a0 : Array Value} {h : Heap} {own R0 O n d host C : String} {index kk : Nat} {a : Addr} {v v' old : Value} {ty : FieldType}
theorem Go.getF (X : Stand p l e R s m args below meth c T locs cells slots) (hx : p.tables.exec = Jvm.exec) (hZ : Z.Warmed39 s.vm) (hown : s.vm.findClass own = some m.cls) (w : (Cond.fieldLink own index R0 n d).before a0 Z = true ∨ (Cond.fieldLinkNest own index R0 n d host).before a0 Z = true) (via : Via Z R0 O n d) (eT : T.heap = h) (F : Fld Z h a O n d v) (hd : decode c.code pc = .ok (.getfield index, 3)) (hp : pc + 3 = q)
    (g : ∀ T', Stand p l e R s m args below meth c T' locs cells slots → T'.heap = h → Go p e below K (T'.setTop (mkF m q Ls (v :: S)))) : Go p e below K (T.setTop (mkF m pc Ls (.ref a :: S))) := by
  subst hp
  obtain ⟨T', X', e', st⟩ := Jvm.RoadKit.getF X hx hZ hown w via eT F (g := mkF m pc Ls (.ref a :: S)) rfl rfl hd
  exact Go.by st (g T' X' e')
theorem Go.getS (X : Stand p l e R s m args below meth c T locs cells slots) (hx : p.tables.exec = Jvm.exec) (hZ : Z.Warmed39 s.vm) (hown : s.vm.findClass own = some m.cls) (w : (Cond.fieldLink own index R0 n d).before a0 Z = true ∨ (Cond.fieldLinkNest own index R0 n d host).before a0 Z = true) (via : Via Z R0 O n d) (eT : T.heap = h) (F : Sta Z h O n d v) (hd : decode c.code pc = .ok (.getstatic index, 3)) (hp : pc + 3 = q)
    (g : ∀ T', Stand p l e R s m args below meth c T' locs cells slots → T'.heap = h → Go p e below K (T'.setTop (mkF m q Ls (v :: S)))) : Go p e below K (T.setTop (mkF m pc Ls S)) := by
  subst hp
  obtain ⟨T', X', e', st⟩ := Jvm.RoadKit.getS2 X hx hZ hown w via eT F (g := mkF m pc Ls S) rfl hd
  exact Go.by st (g T' X' e')
theorem Go.putF (X : Stand p l e R s m args below meth c T locs cells slots) (hx : p.tables.exec = Jvm.exec) (hZ : Z.Warmed39 s.vm) (hown : s.vm.findClass own = some m.cls) (w : (Cond.fieldLink own index R0 n d).before a0 Z = true ∨ (Cond.fieldLinkNest own index R0 n d host).before a0 Z = true) (via : Via Z R0 O n d) (eT : T.heap = h) (F : Fld Z h a O n d old) (E : Exa Z h a C)
    (L : (Cond.lays C O n d).before a0 Z = true ∨ ((Cond.laysFinal C O n d).before a0 Z = true ∧ own = O ∧ meth.name = "<init>")) (wi : (Cond.instantiable C kk).before a0 Z = true) (hty : parseFieldDescriptor d = some ty) (hn : narrow ty v = v) (hf : fits ty v = true) (hd : decode c.code pc = .ok (.putfield index, 3)) (hp : pc + 3 = q)
    (g : ∀ T' h', Stand p l e R s m args below meth c T' (locs ++ [⟨a, slotOf Z O n d⟩]) cells slots → T'.heap = h' → Wr h h' a (slotOf Z O n d) v → Fld Z h' a O n d v → Go p e below K (T'.setTop (mkF m q Ls S))) : Go p e below K (T.setTop (mkF m pc Ls (v :: .ref a :: S))) := by
  subst hp
  obtain ⟨T', h', X', e', W, st⟩ := Jvm.RoadKit.putF X hx hZ hown w via eT F E L wi hty hn hf (g := mkF m pc Ls (v :: .ref a :: S)) rfl rfl hd
  exact Go.by st (g T' h' X' e' W (F.same W))
theorem Go.putFN (X : Stand p l e R s m args below meth c T locs cells slots) (hx : p.tables.exec = Jvm.exec) (hZ : Z.Warmed39 s.vm) (hown : s.vm.findClass own = some m.cls) (w : (Cond.fieldLink own index R0 n d).before a0 Z = true) (via : Via Z R0 O n d) (eT : T.heap = h) (F : Fld Z h a O n d old) (E : Exa Z h a C)
    (L : (Cond.lays C O n d).before a0 Z = true ∨ ((Cond.laysFinal C O n d).before a0 Z = true ∧ own = O ∧ meth.name = "<init>")) (wi : (Cond.instantiable C kk).before a0 Z = true) (hty : parseFieldDescriptor d = some ty) (hn : narrow ty v = v') (hf : fits ty v' = true) (hd : decode c.code pc = .ok (.putfield index, 3)) (hp : pc + 3 = q)
    (g : ∀ T' h', Stand p l e R s m args below meth c T' (locs ++ [⟨a, slotOf Z O n d⟩]) cells slots → T'.heap = h' → Wr h h' a (slotOf Z O n d) v' → Fld Z h' a O n d v' → Go p e below K (T'.setTop (mkF m q Ls S))) : Go p e below K (T.setTop (mkF m pc Ls (v :: .ref a :: S))) := by
  subst hp
  obtain ⟨T', h', X', e', W, st⟩ := Jvm.RoadKit.putFN X hx hZ hown w via eT F E L wi hty hn hf (g := mkF m pc Ls (v :: .ref a :: S)) rfl rfl hd
  exact Go.by st (g T' h' X' e' W (F.same W))
theorem Go.newO {nn : Nat} (X : Stand p l e R s m args below meth c T locs cells slots) (hx : p.tables.exec = Jvm.exec) (hZ : Z.Warmed39 s.vm) (hown : s.vm.findClass own = some m.cls) (w : (Cond.classLink own index C).before a0 Z = true) (wi : (Cond.instantiable C nn).before a0 Z = true) (wz : (Cond.initialized C).before a0 Z = true) (eT : T.heap = h) (hd : decode c.code pc = .ok (.new index, 3)) (hc : cells + 1 ≤ R.cells) (hl : slots + nn ≤ R.slots) (hp : pc + 3 = q)
    (g : ∀ (b : Addr) T' h', Stand p l e R s m args below meth c T' locs (cells + 1) (slots + nn) → T'.heap = h' → h.size = b → Ext h h' → Exa Z h' b C → (∀ {O nm d : String} {ty : FieldType}, Laid Z a0 C O nm d → parseFieldDescriptor d = some ty → Fld Z h' b O nm d (defaultValue ty)) → Unt h' b → Go p e below K (T'.setTop (mkF m q Ls (.ref b :: S)))) : Go p e below K (T.setTop (mkF m pc Ls S)) := by
  subst hp
  obtain ⟨T', h', X', e', E, A, D, U, st⟩ := Jvm.RoadKit.newO X hx hZ hown w wi wz eT (g := mkF m pc Ls S) rfl hd hc hl
  exact Go.by st (g _ T' h' X' e' rfl E A D U)
theorem Go.newP {aty : ArrayType} {z : Int32} {ad : String} {cap : Nat} (X : Stand p l e R s m args below meth c T locs cells slots) (hx : p.tables.exec = Jvm.exec) (hZ : Z.Warmed39 s.vm) (hd : decode c.code pc = .ok (.newarray aty, 2)) (w : (Cond.arrayClass (newarray.typeOf aty)).before a0 Z = true) (eT : T.heap = h) (hn : ¬ z < 0) (hcap : z.toNatClampNeg ≤ cap) (hb : cap * 8 ≤ 536870912) (hc : cells + 1 ≤ R.cells) (hl : slots + cap ≤ R.slots) (had : "[" ++ (newarray.typeOf aty).toString = ad) (hp : pc + 2 = q)
    (g : ∀ (b : Addr) T' h' cA, Stand p l e R s m args below meth c T' locs (cells + 1) (slots + cap) → T'.heap = h' → h.size = b → Ext h h' → Arv Z h' b cA (newarray.typeOf aty) z [] (defaultValue (newarray.typeOf aty)) → Exa Z h' b ad → Go p e below K (T'.setTop (mkF m q Ls (.ref b :: S)))) : Go p e below K (T.setTop (mkF m pc Ls (.int z :: S))) := by
  subst hp
  obtain ⟨T', h', cA, X', e', E, A, B, st⟩ := Jvm.RoadKit.newPE X hx hZ w eT (g := mkF m pc Ls (.int z :: S)) rfl hd rfl hn hcap hb hc hl had
  exact Go.by st (g _ T' h' cA X' e' rfl E (Arv.new A hn) B)
theorem Go.initO (X : Stand p l e R s m args below meth c T locs cells slots) (hx : p.tables.exec = Jvm.exec) (hZ : Z.Warmed39 s.vm) (hown : s.vm.findClass own = some m.cls) (w1 : (Cond.methodLink own index Lib.objectInit).before a0 Z = true) (w2 : (Cond.instanceMethod Lib.objectInit).before a0 Z = true) (w3 : (Cond.code Lib.objectInit ⟨#[0xb1]⟩ 1 none).before a0 Z = true) (eT : T.heap = h) (hsz : Ls.size = c.maxLocals) (hd : decode c.code pc = .ok (.invokespecial index, 3)) (hf : 1 ≤ R.frames) {W : Nat} (hW : 2 * 0 + (S.map fun v => v.category).sum ≤ W) (hl : W + 12 ≤ R.locals) (hp : pc + 3 = q)
    (g : ∀ T', Stand p l e R s m args below meth c T' locs cells slots → T'.heap = h → Go p e below K (T'.setTop (mkF m q Ls S))) : Go p e below K (T.setTop (mkF m pc Ls (.ref a :: S))) := by
  subst hp
  obtain ⟨T', X', e', st⟩ := Jvm.RoadKit.initO X hx hZ hown w1 w2 w3 eT (g := mkF m pc Ls (.ref a :: S)) rfl hsz rfl hd hf hW hl
  exact Go.by st (g T' X' e')
theorem Go.castY {D : String} (X : Stand p l e R s m args below meth c T locs cells slots) (hx : p.tables.exec = Jvm.exec) (hZ : Z.Warmed39 s.vm) (hown : s.vm.findClass own = some m.cls) (w : (Cond.classLink own index D).before a0 Z = true) (eT : T.heap = h) (F : Ins Z h a D true) (hd : decode c.code pc = .ok (.checkcast index, 3)) (hp : pc + 3 = q)
    (g : ∀ T', Stand p l e R s m args below meth c T' locs cells slots → T'.heap = h → Go p e below K (T'.setTop (mkF m q Ls (.ref a :: S)))) : Go p e below K (T.setTop (mkF m pc Ls (.ref a :: S))) := by
  subst hp
  obtain ⟨T', X', e', st⟩ := Jvm.RoadKit.castY X hx hZ hown w eT F (g := mkF m pc Ls (.ref a :: S)) rfl rfl hd
  exact Go.by st (g T' X' e')
theorem Go.instY {D : String} (X : Stand p l e R s m args below meth c T locs cells slots) (hx : p.tables.exec = Jvm.exec) (hZ : Z.Warmed39 s.vm) (hown : s.vm.findClass own = some m.cls) (w : (Cond.classLink own index D).before a0 Z = true) (eT : T.heap = h) (F : Ins Z h a D true) (hd : decode c.code pc = .ok (.instanceof index, 3)) (hp : pc + 3 = q)
    (g : ∀ T', Stand p l e R s m args below meth c T' locs cells slots → T'.heap = h → Go p e below K (T'.setTop (mkF m q Ls (.int 1 :: S)))) : Go p e below K (T.setTop (mkF m pc Ls (.ref a :: S))) := by
  subst hp
  obtain ⟨T', X', e', st⟩ := Jvm.RoadKit.instY X hx hZ hown w eT F (g := mkF m pc Ls (.ref a :: S)) rfl rfl hd
  exact Go.by st (g T' X' e')
theorem Go.instNo {D : String} (X : Stand p l e R s m args below meth c T locs cells slots) (hx : p.tables.exec = Jvm.exec) (hZ : Z.Warmed39 s.vm) (hown : s.vm.findClass own = some m.cls) (w : (Cond.classLink own index D).before a0 Z = true) (eT : T.heap = h) (E : Exa Z h a C) (F : ∃ c t, Z.vm.findClass C = some c ∧ Z.vm.findClass D = some t ∧ Z.vm.assignable c t = false) (hd : decode c.code pc = .ok (.instanceof index, 3)) (hp : pc + 3 = q)
    (g : ∀ T', Stand p l e R s m args below meth c T' locs cells slots → T'.heap = h → Go p e below K (T'.setTop (mkF m q Ls (.int 0 :: S)))) : Go p e below K (T.setTop (mkF m pc Ls (.ref a :: S))) := by
  subst hp
  obtain ⟨T', X', e', st⟩ := Jvm.RoadKit.instNo X hx hZ hown w eT E F (g := mkF m pc Ls (.ref a :: S)) rfl rfl hd
  exact Go.by st (g T' X' e')
theorem Go.ldcI {z : Int32} (X : Stand p l e R s m args below meth c T locs cells slots) (hx : p.tables.exec = Jvm.exec) (hZ : Z.Warmed39 s.vm) (hown : s.vm.findClass own = some m.cls) (w : (Cond.constant own index z).before a0 Z = true) (hd : decode c.code pc = .ok (.ldc index, 2)) (hp : pc + 2 = q) (g : Go p e below K (T.setTop (mkF m q Ls (.int z :: S)))) : Go p e below K (T.setTop (mkF m pc Ls S)) := by
  subst hp
  exact Go.by (X.ldcInt hx hown (mvT hZ w) (g := mkF m pc Ls S) rfl hd) g
theorem Go.ldcwI {z : Int32} (X : Stand p l e R s m args below meth c T locs cells slots) (hx : p.tables.exec = Jvm.exec) (hZ : Z.Warmed39 s.vm) (hown : s.vm.findClass own = some m.cls) (w : (Cond.constant own index z).before a0 Z = true) (hd : decode c.code pc = .ok (.ldc_w index, 3)) (hp : pc + 3 = q) (g : Go p e below K (T.setTop (mkF m q Ls (.int z :: S)))) : Go p e below K (T.setTop (mkF m pc Ls S)) := by
  subst hp
  exact Go.by (X.ldcwInt hx hown (mvT hZ w) (g := mkF m pc Ls S) rfl hd) g
theorem Go.ldc2 {z : Int64} (X : Stand p l e R s m args below meth c T locs cells slots) (hx : p.tables.exec = Jvm.exec) (hZ : Z.Warmed39 s.vm) (hown : s.vm.findClass own = some m.cls) (w : (Cond.constantLong own index z).before a0 Z = true) (hd : decode c.code pc = .ok (.ldc2_w index, 3)) (hp : pc + 3 = q) (g : Go p e below K (T.setTop (mkF m q Ls (.long z :: S)))) : Go p e below K (T.setTop (mkF m pc Ls S)) := by
  subst hp
  exact Go.by (X.ldc2Long hx hown (mvT hZ w) (g := mkF m pc Ls S) rfl hd) g

end OwnSteps
end Jvm.RoadKit
namespace Jvm.Pilot.@@N@@
open Jvm Jvm.ClassFile Sem Op Lib Jvm.Free Jvm.Stand Jvm.LawKit Jvm.RoadKit Bundle Jvm.Pilot.@@N@@.Jvm.D
theorem wd0 {Z : State} {a0 : Array Value} (hw : ∀ d ∈ tables_1, d.before a0 Z = true) : (Jvm.Cond.constant "com/example/depositum/depositum/report/PrintableTextIsUtf8PinLaw" (7 : Nat) (2147483647 : Int32)).before a0 Z = true := hw _ (List.mem_of_getElem? (i := 0) rfl)
theorem wd1 {Z : State} {a0 : Array Value} (hw : ∀ d ∈ tables_1, d.before a0 Z = true) : (Jvm.Cond.arrayClass Jvm.ClassFile.FieldType.int).before a0 Z = true := hw _ (List.mem_of_getElem? (i := 1) rfl)
theorem wd2 {Z : State} {a0 : Array Value} (hw : ∀ d ∈ tables_1, d.before a0 Z = true) : (Jvm.Cond.constantLong "com/example/depositum/depositum/report/PrintableTextIsUtf8PinLaw" (8 : Nat) (255 : Int64)).before a0 Z = true := hw _ (List.mem_of_getElem? (i := 2) rfl)
theorem wd3 {Z : State} {a0 : Array Value} (hw : ∀ d ∈ tables_1, d.before a0 Z = true) : (Jvm.Cond.arrayClass Jvm.ClassFile.FieldType.byte).before a0 Z = true := hw _ (List.mem_of_getElem? (i := 3) rfl)
theorem wd4 {Z : State} {a0 : Array Value} (hw : ∀ d ∈ tables_1, d.before a0 Z = true) : (Jvm.Cond.methodLink "com/example/depositum/depositum/report/PrintableTextIsUtf8PinLaw" (10 : Nat) ({ cls := "com/example/depositum/depositum/report/PrintableText", name := "isUtf8", desc := "([B)Z" } : Jvm.MethodName)).before a0 Z = true := hw _ (List.mem_of_getElem? (i := 4) rfl)
theorem wd5 {Z : State} {a0 : Array Value} (hw : ∀ d ∈ tables_1, d.before a0 Z = true) : (Jvm.Cond.static ({ cls := "com/example/depositum/depositum/report/PrintableText", name := "isUtf8", desc := "([B)Z" } : Jvm.MethodName)).before a0 Z = true := hw _ (List.mem_of_getElem? (i := 5) rfl)
theorem wd6 {Z : State} {a0 : Array Value} (hw : ∀ d ∈ tables_1, d.before a0 Z = true) : (Jvm.Cond.initialized "com/example/depositum/depositum/report/PrintableText").before a0 Z = true := hw _ (List.mem_of_getElem? (i := 6) rfl)
theorem wd7 {Z : State} {a0 : Array Value} (hw : ∀ d ∈ tables_1, d.before a0 Z = true) : (Jvm.Cond.code ({ cls := "com/example/depositum/depositum/report/PrintableText", name := "isUtf8", desc := "([B)Z" } : Jvm.MethodName) prog_45_method_4_code (3 : Nat) (Option.some Jvm.ClassFile.FieldType.boolean)).before a0 Z = true := hw _ (List.mem_of_getElem? (i := 7) rfl)
theorem wd8 {Z : State} {a0 : Array Value} (hw : ∀ d ∈ tables_1, d.before a0 Z = true) : (Jvm.Cond.methodLink "com/example/depositum/depositum/report/PrintableText" (30 : Nat) ({ cls := "com/example/depositum/depositum/report/PrintableText", name := "sequenceLength", desc := "([BI)I" } : Jvm.MethodName)).before a0 Z = true := hw _ (List.mem_of_getElem? (i := 8) rfl)
theorem wd9 {Z : State} {a0 : Array Value} (hw : ∀ d ∈ tables_1, d.before a0 Z = true) : (Jvm.Cond.static ({ cls := "com/example/depositum/depositum/report/PrintableText", name := "sequenceLength", desc := "([BI)I" } : Jvm.MethodName)).before a0 Z = true := hw _ (List.mem_of_getElem? (i := 9) rfl)
theorem wd10 {Z : State} {a0 : Array Value} (hw : ∀ d ∈ tables_1, d.before a0 Z = true) : (Jvm.Cond.code ({ cls := "com/example/depositum/depositum/report/PrintableText", name := "sequenceLength", desc := "([BI)I" } : Jvm.MethodName) prog_45_method_5_code (9 : Nat) (Option.some Jvm.ClassFile.FieldType.int)).before a0 Z = true := hw _ (List.mem_of_getElem? (i := 10) rfl)
theorem wd11 {Z : State} {a0 : Array Value} (hw : ∀ d ∈ tables_1, d.before a0 Z = true) : (Jvm.Cond.methodLink "com/example/depositum/depositum/report/PrintableTextIsUtf8PinLaw" (16 : Nat) ({ cls := "com/example/depositum/depositum/report/PrintableTextIsUtf8PinLaw", name := "reference", desc := "([II)Z" } : Jvm.MethodName)).before a0 Z = true := hw _ (List.mem_of_getElem? (i := 11) rfl)
theorem wd12 {Z : State} {a0 : Array Value} (hw : ∀ d ∈ tables_1, d.before a0 Z = true) : (Jvm.Cond.static ({ cls := "com/example/depositum/depositum/report/PrintableTextIsUtf8PinLaw", name := "reference", desc := "([II)Z" } : Jvm.MethodName)).before a0 Z = true := hw _ (List.mem_of_getElem? (i := 12) rfl)
theorem wd13 {Z : State} {a0 : Array Value} (hw : ∀ d ∈ tables_1, d.before a0 Z = true) : (Jvm.Cond.initialized "com/example/depositum/depositum/report/PrintableTextIsUtf8PinLaw").before a0 Z = true := hw _ (List.mem_of_getElem? (i := 13) rfl)
theorem wd14 {Z : State} {a0 : Array Value} (hw : ∀ d ∈ tables_1, d.before a0 Z = true) : (Jvm.Cond.code ({ cls := "com/example/depositum/depositum/report/PrintableTextIsUtf8PinLaw", name := "reference", desc := "([II)Z" } : Jvm.MethodName) method_3_code (4 : Nat) (Option.some Jvm.ClassFile.FieldType.boolean)).before a0 Z = true := hw _ (List.mem_of_getElem? (i := 14) rfl)
theorem wd15 {Z : State} {a0 : Array Value} (hw : ∀ d ∈ tables_1, d.before a0 Z = true) : (Jvm.Cond.methodLink "com/example/depositum/depositum/report/PrintableTextIsUtf8PinLaw" (22 : Nat) ({ cls := "com/example/depositum/depositum/report/PrintableTextIsUtf8PinLaw", name := "seq", desc := "([III)I" } : Jvm.MethodName)).before a0 Z = true := hw _ (List.mem_of_getElem? (i := 15) rfl)
theorem wd16 {Z : State} {a0 : Array Value} (hw : ∀ d ∈ tables_1, d.before a0 Z = true) : (Jvm.Cond.static ({ cls := "com/example/depositum/depositum/report/PrintableTextIsUtf8PinLaw", name := "seq", desc := "([III)I" } : Jvm.MethodName)).before a0 Z = true := hw _ (List.mem_of_getElem? (i := 16) rfl)
theorem wd17 {Z : State} {a0 : Array Value} (hw : ∀ d ∈ tables_1, d.before a0 Z = true) : (Jvm.Cond.code ({ cls := "com/example/depositum/depositum/report/PrintableTextIsUtf8PinLaw", name := "seq", desc := "([III)I" } : Jvm.MethodName) method_4_code (7 : Nat) (Option.some Jvm.ClassFile.FieldType.int)).before a0 Z = true := hw _ (List.mem_of_getElem? (i := 17) rfl)
theorem wd18 {Z : State} {a0 : Array Value} (hw : ∀ d ∈ tables_1, d.before a0 Z = true) : (Jvm.Cond.constant "com/example/depositum/depositum/report/PrintableTextIsUtf8PinLaw" (27 : Nat) (1114111 : Int32)).before a0 Z = true := hw _ (List.mem_of_getElem? (i := 18) rfl)
theorem wd19 {Z : State} {a0 : Array Value} (hw : ∀ d ∈ tables_1, d.before a0 Z = true) : (Jvm.Cond.constant "com/example/depositum/depositum/report/PrintableTextIsUtf8PinLaw" (28 : Nat) (55296 : Int32)).before a0 Z = true := hw _ (List.mem_of_getElem? (i := 19) rfl)
theorem wd20 {Z : State} {a0 : Array Value} (hw : ∀ d ∈ tables_1, d.before a0 Z = true) : (Jvm.Cond.constant "com/example/depositum/depositum/report/PrintableTextIsUtf8PinLaw" (26 : Nat) (65536 : Int32)).before a0 Z = true := hw _ (List.mem_of_getElem? (i := 20) rfl)
theorem wd21 {Z : State} {a0 : Array Value} (hw : ∀ d ∈ tables_1, d.before a0 Z = true) : (Jvm.Cond.constant "com/example/depositum/depositum/report/PrintableTextIsUtf8PinLaw" (29 : Nat) (57343 : Int32)).before a0 Z = true := hw _ (List.mem_of_getElem? (i := 21) rfl)
theorem d1_0 : decode prog_45_method_4_code 0 = .ok (.iconst 0, 1) := by decide +kernel
theorem d1_1 : decode prog_45_method_4_code 1 = .ok (.istore_n 1, 1) := by decide +kernel
theorem d1_2 : decode prog_45_method_4_code 2 = .ok (.iload_n 1, 1) := by decide +kernel
theorem d1_3 : decode prog_45_method_4_code 3 = .ok (.aload_n 0, 1) := by decide +kernel
theorem d1_4 : decode prog_45_method_4_code 4 = .ok (.arraylength, 1) := by decide +kernel
theorem d1_5 : decode prog_45_method_4_code 5 = .ok (.if_icmp .ge 22, 3) := by decide +kernel
theorem d1_8 : decode prog_45_method_4_code 8 = .ok (.aload_n 0, 1) := by decide +kernel
theorem d1_9 : decode prog_45_method_4_code 9 = .ok (.iload_n 1, 1) := by decide +kernel
theorem d1_10 : decode prog_45_method_4_code 10 = .ok (.invokestatic 30, 3) := by decide +kernel
theorem d1_13 : decode prog_45_method_4_code 13 = .ok (.istore_n 2, 1) := by decide +kernel
theorem d1_14 : decode prog_45_method_4_code 14 = .ok (.iload_n 2, 1) := by decide +kernel
theorem d1_15 : decode prog_45_method_4_code 15 = .ok (.ifCond .ne 5, 3) := by decide +kernel
theorem d1_18 : decode prog_45_method_4_code 18 = .ok (.iconst 0, 1) := by decide +kernel
theorem d1_19 : decode prog_45_method_4_code 19 = .ok (.ireturn, 1) := by decide +kernel
theorem d1_20 : decode prog_45_method_4_code 20 = .ok (.iload_n 1, 1) := by decide +kernel
theorem d1_21 : decode prog_45_method_4_code 21 = .ok (.iload_n 2, 1) := by decide +kernel
theorem d1_22 : decode prog_45_method_4_code 22 = .ok (.iadd, 1) := by decide +kernel
theorem d1_23 : decode prog_45_method_4_code 23 = .ok (.istore_n 1, 1) := by decide +kernel
theorem d1_24 : decode prog_45_method_4_code 24 = .ok (.goto (-22), 3) := by decide +kernel
theorem d1_27 : decode prog_45_method_4_code 27 = .ok (.iconst 1, 1) := by decide +kernel
theorem d1_28 : decode prog_45_method_4_code 28 = .ok (.ireturn, 1) := by decide +kernel
theorem d2_0 : decode prog_45_method_5_code 0 = .ok (.aload_n 0, 1) := by decide +kernel
theorem d2_1 : decode prog_45_method_5_code 1 = .ok (.iload_n 1, 1) := by decide +kernel
theorem d2_2 : decode prog_45_method_5_code 2 = .ok (.baload, 1) := by decide +kernel
theorem d2_3 : decode prog_45_method_5_code 3 = .ok (.sipush 255, 3) := by decide +kernel
theorem d2_6 : decode prog_45_method_5_code 6 = .ok (.iand, 1) := by decide +kernel
theorem d2_7 : decode prog_45_method_5_code 7 = .ok (.istore_n 2, 1) := by decide +kernel
theorem d2_8 : decode prog_45_method_5_code 8 = .ok (.iload_n 2, 1) := by decide +kernel
theorem d2_9 : decode prog_45_method_5_code 9 = .ok (.sipush 128, 3) := by decide +kernel
theorem d2_12 : decode prog_45_method_5_code 12 = .ok (.if_icmp .ge 5, 3) := by decide +kernel
theorem d2_15 : decode prog_45_method_5_code 15 = .ok (.iconst 1, 1) := by decide +kernel
theorem d2_16 : decode prog_45_method_5_code 16 = .ok (.ireturn, 1) := by decide +kernel
theorem d2_17 : decode prog_45_method_5_code 17 = .ok (.sipush 128, 3) := by decide +kernel
theorem d2_20 : decode prog_45_method_5_code 20 = .ok (.istore 4, 2) := by decide +kernel
theorem d2_22 : decode prog_45_method_5_code 22 = .ok (.sipush 191, 3) := by decide +kernel
theorem d2_25 : decode prog_45_method_5_code 25 = .ok (.istore 5, 2) := by decide +kernel
theorem d2_27 : decode prog_45_method_5_code 27 = .ok (.iload_n 2, 1) := by decide +kernel
theorem d2_28 : decode prog_45_method_5_code 28 = .ok (.sipush 194, 3) := by decide +kernel
theorem d2_31 : decode prog_45_method_5_code 31 = .ok (.if_icmp .lt 15, 3) := by decide +kernel
theorem d2_34 : decode prog_45_method_5_code 34 = .ok (.iload_n 2, 1) := by decide +kernel
theorem d2_35 : decode prog_45_method_5_code 35 = .ok (.sipush 223, 3) := by decide +kernel
theorem d2_38 : decode prog_45_method_5_code 38 = .ok (.if_icmp .gt 8, 3) := by decide +kernel
theorem d2_41 : decode prog_45_method_5_code 41 = .ok (.iconst 2, 1) := by decide +kernel
theorem d2_42 : decode prog_45_method_5_code 42 = .ok (.istore_n 3, 1) := by decide +kernel
theorem d2_43 : decode prog_45_method_5_code 43 = .ok (.goto 97, 3) := by decide +kernel
theorem d2_46 : decode prog_45_method_5_code 46 = .ok (.iload_n 2, 1) := by decide +kernel
theorem d2_47 : decode prog_45_method_5_code 47 = .ok (.sipush 224, 3) := by decide +kernel
theorem d2_50 : decode prog_45_method_5_code 50 = .ok (.if_icmp .lt 42, 3) := by decide +kernel
theorem d2_53 : decode prog_45_method_5_code 53 = .ok (.iload_n 2, 1) := by decide +kernel
theorem d2_54 : decode prog_45_method_5_code 54 = .ok (.sipush 239, 3) := by decide +kernel
theorem d2_57 : decode prog_45_method_5_code 57 = .ok (.if_icmp .gt 35, 3) := by decide +kernel
theorem d2_60 : decode prog_45_method_5_code 60 = .ok (.iconst 3, 1) := by decide +kernel
theorem d2_61 : decode prog_45_method_5_code 61 = .ok (.istore_n 3, 1) := by decide +kernel
theorem d2_62 : decode prog_45_method_5_code 62 = .ok (.iload_n 2, 1) := by decide +kernel
theorem d2_63 : decode prog_45_method_5_code 63 = .ok (.sipush 224, 3) := by decide +kernel
theorem d2_66 : decode prog_45_method_5_code 66 = .ok (.if_icmp .ne 11, 3) := by decide +kernel
theorem d2_69 : decode prog_45_method_5_code 69 = .ok (.sipush 160, 3) := by decide +kernel
theorem d2_72 : decode prog_45_method_5_code 72 = .ok (.istore 4, 2) := by decide +kernel
theorem d2_74 : decode prog_45_method_5_code 74 = .ok (.goto 66, 3) := by decide +kernel
theorem d2_77 : decode prog_45_method_5_code 77 = .ok (.iload_n 2, 1) := by decide +kernel
theorem d2_78 : decode prog_45_method_5_code 78 = .ok (.sipush 237, 3) := by decide +kernel
theorem d2_81 : decode prog_45_method_5_code 81 = .ok (.if_icmp .ne 59, 3) := by decide +kernel
theorem d2_84 : decode prog_45_method_5_code 84 = .ok (.sipush 159, 3) := by decide +kernel
theorem d2_87 : decode prog_45_method_5_code 87 = .ok (.istore 5, 2) := by decide +kernel
theorem d2_89 : decode prog_45_method_5_code 89 = .ok (.goto 51, 3) := by decide +kernel
theorem d2_92 : decode prog_45_method_5_code 92 = .ok (.iload_n 2, 1) := by decide +kernel
theorem d2_93 : decode prog_45_method_5_code 93 = .ok (.sipush 240, 3) := by decide +kernel
theorem d2_96 : decode prog_45_method_5_code 96 = .ok (.if_icmp .lt 42, 3) := by decide +kernel
theorem d2_99 : decode prog_45_method_5_code 99 = .ok (.iload_n 2, 1) := by decide +kernel
theorem d2_100 : decode prog_45_method_5_code 100 = .ok (.sipush 244, 3) := by decide +kernel
theorem d2_103 : decode prog_45_method_5_code 103 = .ok (.if_icmp .gt 35, 3) := by decide +kernel
theorem d2_106 : decode prog_45_method_5_code 106 = .ok (.iconst 4, 1) := by decide +kernel
theorem d2_107 : decode prog_45_method_5_code 107 = .ok (.istore_n 3, 1) := by decide +kernel
theorem d2_108 : decode prog_45_method_5_code 108 = .ok (.iload_n 2, 1) := by decide +kernel
theorem d2_109 : decode prog_45_method_5_code 109 = .ok (.sipush 240, 3) := by decide +kernel
theorem d2_112 : decode prog_45_method_5_code 112 = .ok (.if_icmp .ne 11, 3) := by decide +kernel
theorem d2_115 : decode prog_45_method_5_code 115 = .ok (.sipush 144, 3) := by decide +kernel
theorem d2_118 : decode prog_45_method_5_code 118 = .ok (.istore 4, 2) := by decide +kernel
theorem d2_120 : decode prog_45_method_5_code 120 = .ok (.goto 20, 3) := by decide +kernel
theorem d2_123 : decode prog_45_method_5_code 123 = .ok (.iload_n 2, 1) := by decide +kernel
theorem d2_124 : decode prog_45_method_5_code 124 = .ok (.sipush 244, 3) := by decide +kernel
theorem d2_127 : decode prog_45_method_5_code 127 = .ok (.if_icmp .ne 13, 3) := by decide +kernel
theorem d2_130 : decode prog_45_method_5_code 130 = .ok (.sipush 143, 3) := by decide +kernel
theorem d2_133 : decode prog_45_method_5_code 133 = .ok (.istore 5, 2) := by decide +kernel
theorem d2_135 : decode prog_45_method_5_code 135 = .ok (.goto 5, 3) := by decide +kernel
theorem d2_138 : decode prog_45_method_5_code 138 = .ok (.iconst 0, 1) := by decide +kernel
theorem d2_139 : decode prog_45_method_5_code 139 = .ok (.ireturn, 1) := by decide +kernel
theorem d2_140 : decode prog_45_method_5_code 140 = .ok (.iload_n 1, 1) := by decide +kernel
theorem d2_141 : decode prog_45_method_5_code 141 = .ok (.iload_n 3, 1) := by decide +kernel
theorem d2_142 : decode prog_45_method_5_code 142 = .ok (.iadd, 1) := by decide +kernel
theorem d2_143 : decode prog_45_method_5_code 143 = .ok (.aload_n 0, 1) := by decide +kernel
theorem d2_144 : decode prog_45_method_5_code 144 = .ok (.arraylength, 1) := by decide +kernel
theorem d2_145 : decode prog_45_method_5_code 145 = .ok (.if_icmp .le 5, 3) := by decide +kernel
theorem d2_148 : decode prog_45_method_5_code 148 = .ok (.iconst 0, 1) := by decide +kernel
theorem d2_149 : decode prog_45_method_5_code 149 = .ok (.ireturn, 1) := by decide +kernel
theorem d2_150 : decode prog_45_method_5_code 150 = .ok (.aload_n 0, 1) := by decide +kernel
theorem d2_151 : decode prog_45_method_5_code 151 = .ok (.iload_n 1, 1) := by decide +kernel
theorem d2_152 : decode prog_45_method_5_code 152 = .ok (.iconst 1, 1) := by decide +kernel
theorem d2_153 : decode prog_45_method_5_code 153 = .ok (.iadd, 1) := by decide +kernel
theorem d2_154 : decode prog_45_method_5_code 154 = .ok (.baload, 1) := by decide +kernel
theorem d2_155 : decode prog_45_method_5_code 155 = .ok (.sipush 255, 3) := by decide +kernel
theorem d2_158 : decode prog_45_method_5_code 158 = .ok (.iand, 1) := by decide +kernel
theorem d2_159 : decode prog_45_method_5_code 159 = .ok (.istore 6, 2) := by decide +kernel
theorem d2_161 : decode prog_45_method_5_code 161 = .ok (.iload 6, 2) := by decide +kernel
theorem d2_163 : decode prog_45_method_5_code 163 = .ok (.iload 4, 2) := by decide +kernel
theorem d2_165 : decode prog_45_method_5_code 165 = .ok (.if_icmp .lt 10, 3) := by decide +kernel
theorem d2_168 : decode prog_45_method_5_code 168 = .ok (.iload 6, 2) := by decide +kernel
theorem d2_170 : decode prog_45_method_5_code 170 = .ok (.iload 5, 2) := by decide +kernel
theorem d2_172 : decode prog_45_method_5_code 172 = .ok (.if_icmp .le 5, 3) := by decide +kernel
theorem d2_175 : decode prog_45_method_5_code 175 = .ok (.iconst 0, 1) := by decide +kernel
theorem d2_176 : decode prog_45_method_5_code 176 = .ok (.ireturn, 1) := by decide +kernel
theorem d2_177 : decode prog_45_method_5_code 177 = .ok (.iload_n 1, 1) := by decide +kernel
theorem d2_178 : decode prog_45_method_5_code 178 = .ok (.iconst 2, 1) := by decide +kernel
theorem d2_179 : decode prog_45_method_5_code 179 = .ok (.iadd, 1) := by decide +kernel
theorem d2_180 : decode prog_45_method_5_code 180 = .ok (.istore 7, 2) := by decide +kernel
theorem d2_182 : decode prog_45_method_5_code 182 = .ok (.iload 7, 2) := by decide +kernel
theorem d2_184 : decode prog_45_method_5_code 184 = .ok (.iload_n 1, 1) := by decide +kernel
theorem d2_185 : decode prog_45_method_5_code 185 = .ok (.iload_n 3, 1) := by decide +kernel
theorem d2_186 : decode prog_45_method_5_code 186 = .ok (.iadd, 1) := by decide +kernel
theorem d2_187 : decode prog_45_method_5_code 187 = .ok (.if_icmp .ge 37, 3) := by decide +kernel
theorem d2_190 : decode prog_45_method_5_code 190 = .ok (.aload_n 0, 1) := by decide +kernel
theorem d2_191 : decode prog_45_method_5_code 191 = .ok (.iload 7, 2) := by decide +kernel
theorem d2_193 : decode prog_45_method_5_code 193 = .ok (.baload, 1) := by decide +kernel
theorem d2_194 : decode prog_45_method_5_code 194 = .ok (.sipush 255, 3) := by decide +kernel
theorem d2_197 : decode prog_45_method_5_code 197 = .ok (.iand, 1) := by decide +kernel
theorem d2_198 : decode prog_45_method_5_code 198 = .ok (.istore 8, 2) := by decide +kernel
theorem d2_200 : decode prog_45_method_5_code 200 = .ok (.iload 8, 2) := by decide +kernel
theorem d2_202 : decode prog_45_method_5_code 202 = .ok (.sipush 128, 3) := by decide +kernel
theorem d2_205 : decode prog_45_method_5_code 205 = .ok (.if_icmp .lt 11, 3) := by decide +kernel
theorem d2_208 : decode prog_45_method_5_code 208 = .ok (.iload 8, 2) := by decide +kernel
theorem d2_210 : decode prog_45_method_5_code 210 = .ok (.sipush 191, 3) := by decide +kernel
theorem d2_213 : decode prog_45_method_5_code 213 = .ok (.if_icmp .le 5, 3) := by decide +kernel
theorem d2_216 : decode prog_45_method_5_code 216 = .ok (.iconst 0, 1) := by decide +kernel
theorem d2_217 : decode prog_45_method_5_code 217 = .ok (.ireturn, 1) := by decide +kernel
theorem d2_218 : decode prog_45_method_5_code 218 = .ok (.iinc 7 1, 3) := by decide +kernel
theorem d2_221 : decode prog_45_method_5_code 221 = .ok (.goto (-39), 3) := by decide +kernel
theorem d2_224 : decode prog_45_method_5_code 224 = .ok (.iload_n 3, 1) := by decide +kernel
theorem d2_225 : decode prog_45_method_5_code 225 = .ok (.ireturn, 1) := by decide +kernel
theorem d3_0 : decode method_3_code 0 = .ok (.iconst 0, 1) := by decide +kernel
theorem d3_1 : decode method_3_code 1 = .ok (.istore_n 2, 1) := by decide +kernel
theorem d3_2 : decode method_3_code 2 = .ok (.iload_n 2, 1) := by decide +kernel
theorem d3_3 : decode method_3_code 3 = .ok (.iload_n 1, 1) := by decide +kernel
theorem d3_4 : decode method_3_code 4 = .ok (.if_icmp .ge 20, 3) := by decide +kernel
theorem d3_7 : decode method_3_code 7 = .ok (.aload_n 0, 1) := by decide +kernel
theorem d3_8 : decode method_3_code 8 = .ok (.iload_n 1, 1) := by decide +kernel
theorem d3_9 : decode method_3_code 9 = .ok (.iload_n 2, 1) := by decide +kernel
theorem d3_10 : decode method_3_code 10 = .ok (.invokestatic 22, 3) := by decide +kernel
theorem d3_13 : decode method_3_code 13 = .ok (.istore_n 3, 1) := by decide +kernel
theorem d3_14 : decode method_3_code 14 = .ok (.iload_n 3, 1) := by decide +kernel
theorem d3_15 : decode method_3_code 15 = .ok (.ifCond .ne 5, 3) := by decide +kernel
theorem d3_18 : decode method_3_code 18 = .ok (.iconst 0, 1) := by decide +kernel
theorem d3_19 : decode method_3_code 19 = .ok (.ireturn, 1) := by decide +kernel
theorem d3_20 : decode method_3_code 20 = .ok (.iload_n 2, 1) := by decide +kernel
theorem d3_21 : decode method_3_code 21 = .ok (.iload_n 3, 1) := by decide +kernel
theorem d3_22 : decode method_3_code 22 = .ok (.iadd, 1) := by decide +kernel
theorem d3_23 : decode method_3_code 23 = .ok (.istore_n 2, 1) := by decide +kernel
theorem d3_24 : decode method_3_code 24 = .ok (.iload_n 2, 1) := by decide +kernel
theorem d3_25 : decode method_3_code 25 = .ok (.iload_n 1, 1) := by decide +kernel
theorem d3_26 : decode method_3_code 26 = .ok (.if_icmp .ge 20, 3) := by decide +kernel
theorem d3_29 : decode method_3_code 29 = .ok (.aload_n 0, 1) := by decide +kernel
theorem d3_30 : decode method_3_code 30 = .ok (.iload_n 1, 1) := by decide +kernel
theorem d3_31 : decode method_3_code 31 = .ok (.iload_n 2, 1) := by decide +kernel
theorem d3_32 : decode method_3_code 32 = .ok (.invokestatic 22, 3) := by decide +kernel
theorem d3_35 : decode method_3_code 35 = .ok (.istore_n 3, 1) := by decide +kernel
theorem d3_36 : decode method_3_code 36 = .ok (.iload_n 3, 1) := by decide +kernel
theorem d3_37 : decode method_3_code 37 = .ok (.ifCond .ne 5, 3) := by decide +kernel
theorem d3_40 : decode method_3_code 40 = .ok (.iconst 0, 1) := by decide +kernel
theorem d3_41 : decode method_3_code 41 = .ok (.ireturn, 1) := by decide +kernel
theorem d3_42 : decode method_3_code 42 = .ok (.iload_n 2, 1) := by decide +kernel
theorem d3_43 : decode method_3_code 43 = .ok (.iload_n 3, 1) := by decide +kernel
theorem d3_44 : decode method_3_code 44 = .ok (.iadd, 1) := by decide +kernel
theorem d3_45 : decode method_3_code 45 = .ok (.istore_n 2, 1) := by decide +kernel
theorem d3_46 : decode method_3_code 46 = .ok (.iload_n 2, 1) := by decide +kernel
theorem d3_47 : decode method_3_code 47 = .ok (.iload_n 1, 1) := by decide +kernel
theorem d3_48 : decode method_3_code 48 = .ok (.if_icmp .ge 20, 3) := by decide +kernel
theorem d3_51 : decode method_3_code 51 = .ok (.aload_n 0, 1) := by decide +kernel
theorem d3_52 : decode method_3_code 52 = .ok (.iload_n 1, 1) := by decide +kernel
theorem d3_53 : decode method_3_code 53 = .ok (.iload_n 2, 1) := by decide +kernel
theorem d3_54 : decode method_3_code 54 = .ok (.invokestatic 22, 3) := by decide +kernel
theorem d3_57 : decode method_3_code 57 = .ok (.istore_n 3, 1) := by decide +kernel
theorem d3_58 : decode method_3_code 58 = .ok (.iload_n 3, 1) := by decide +kernel
theorem d3_59 : decode method_3_code 59 = .ok (.ifCond .ne 5, 3) := by decide +kernel
theorem d3_62 : decode method_3_code 62 = .ok (.iconst 0, 1) := by decide +kernel
theorem d3_63 : decode method_3_code 63 = .ok (.ireturn, 1) := by decide +kernel
theorem d3_64 : decode method_3_code 64 = .ok (.iload_n 2, 1) := by decide +kernel
theorem d3_65 : decode method_3_code 65 = .ok (.iload_n 3, 1) := by decide +kernel
theorem d3_66 : decode method_3_code 66 = .ok (.iadd, 1) := by decide +kernel
theorem d3_67 : decode method_3_code 67 = .ok (.istore_n 2, 1) := by decide +kernel
theorem d3_68 : decode method_3_code 68 = .ok (.iload_n 2, 1) := by decide +kernel
theorem d3_69 : decode method_3_code 69 = .ok (.iload_n 1, 1) := by decide +kernel
theorem d3_70 : decode method_3_code 70 = .ok (.if_icmp .ge 20, 3) := by decide +kernel
theorem d3_73 : decode method_3_code 73 = .ok (.aload_n 0, 1) := by decide +kernel
theorem d3_74 : decode method_3_code 74 = .ok (.iload_n 1, 1) := by decide +kernel
theorem d3_75 : decode method_3_code 75 = .ok (.iload_n 2, 1) := by decide +kernel
theorem d3_76 : decode method_3_code 76 = .ok (.invokestatic 22, 3) := by decide +kernel
theorem d3_79 : decode method_3_code 79 = .ok (.istore_n 3, 1) := by decide +kernel
theorem d3_80 : decode method_3_code 80 = .ok (.iload_n 3, 1) := by decide +kernel
theorem d3_81 : decode method_3_code 81 = .ok (.ifCond .ne 5, 3) := by decide +kernel
theorem d3_84 : decode method_3_code 84 = .ok (.iconst 0, 1) := by decide +kernel
theorem d3_85 : decode method_3_code 85 = .ok (.ireturn, 1) := by decide +kernel
theorem d3_86 : decode method_3_code 86 = .ok (.iload_n 2, 1) := by decide +kernel
theorem d3_87 : decode method_3_code 87 = .ok (.iload_n 3, 1) := by decide +kernel
theorem d3_88 : decode method_3_code 88 = .ok (.iadd, 1) := by decide +kernel
theorem d3_89 : decode method_3_code 89 = .ok (.istore_n 2, 1) := by decide +kernel
theorem d3_90 : decode method_3_code 90 = .ok (.iload_n 2, 1) := by decide +kernel
theorem d3_91 : decode method_3_code 91 = .ok (.iload_n 1, 1) := by decide +kernel
theorem d3_92 : decode method_3_code 92 = .ok (.if_icmp .ge 20, 3) := by decide +kernel
theorem d3_95 : decode method_3_code 95 = .ok (.aload_n 0, 1) := by decide +kernel
theorem d3_96 : decode method_3_code 96 = .ok (.iload_n 1, 1) := by decide +kernel
theorem d3_97 : decode method_3_code 97 = .ok (.iload_n 2, 1) := by decide +kernel
theorem d3_98 : decode method_3_code 98 = .ok (.invokestatic 22, 3) := by decide +kernel
theorem d3_101 : decode method_3_code 101 = .ok (.istore_n 3, 1) := by decide +kernel
theorem d3_102 : decode method_3_code 102 = .ok (.iload_n 3, 1) := by decide +kernel
theorem d3_103 : decode method_3_code 103 = .ok (.ifCond .ne 5, 3) := by decide +kernel
theorem d3_106 : decode method_3_code 106 = .ok (.iconst 0, 1) := by decide +kernel
theorem d3_107 : decode method_3_code 107 = .ok (.ireturn, 1) := by decide +kernel
theorem d3_108 : decode method_3_code 108 = .ok (.iload_n 2, 1) := by decide +kernel
theorem d3_109 : decode method_3_code 109 = .ok (.iload_n 3, 1) := by decide +kernel
theorem d3_110 : decode method_3_code 110 = .ok (.iadd, 1) := by decide +kernel
theorem d3_111 : decode method_3_code 111 = .ok (.istore_n 2, 1) := by decide +kernel
theorem d3_112 : decode method_3_code 112 = .ok (.iload_n 2, 1) := by decide +kernel
theorem d3_113 : decode method_3_code 113 = .ok (.iload_n 1, 1) := by decide +kernel
theorem d3_114 : decode method_3_code 114 = .ok (.if_icmp .ge 20, 3) := by decide +kernel
theorem d3_117 : decode method_3_code 117 = .ok (.aload_n 0, 1) := by decide +kernel
theorem d3_118 : decode method_3_code 118 = .ok (.iload_n 1, 1) := by decide +kernel
theorem d3_119 : decode method_3_code 119 = .ok (.iload_n 2, 1) := by decide +kernel
theorem d3_120 : decode method_3_code 120 = .ok (.invokestatic 22, 3) := by decide +kernel
theorem d3_123 : decode method_3_code 123 = .ok (.istore_n 3, 1) := by decide +kernel
theorem d3_124 : decode method_3_code 124 = .ok (.iload_n 3, 1) := by decide +kernel
theorem d3_125 : decode method_3_code 125 = .ok (.ifCond .ne 5, 3) := by decide +kernel
theorem d3_128 : decode method_3_code 128 = .ok (.iconst 0, 1) := by decide +kernel
theorem d3_129 : decode method_3_code 129 = .ok (.ireturn, 1) := by decide +kernel
theorem d3_130 : decode method_3_code 130 = .ok (.iload_n 2, 1) := by decide +kernel
theorem d3_131 : decode method_3_code 131 = .ok (.iload_n 3, 1) := by decide +kernel
theorem d3_132 : decode method_3_code 132 = .ok (.iadd, 1) := by decide +kernel
theorem d3_133 : decode method_3_code 133 = .ok (.istore_n 2, 1) := by decide +kernel
theorem d3_134 : decode method_3_code 134 = .ok (.iload_n 2, 1) := by decide +kernel
theorem d3_135 : decode method_3_code 135 = .ok (.iload_n 1, 1) := by decide +kernel
theorem d3_136 : decode method_3_code 136 = .ok (.if_icmp .ge 20, 3) := by decide +kernel
theorem d3_139 : decode method_3_code 139 = .ok (.aload_n 0, 1) := by decide +kernel
theorem d3_140 : decode method_3_code 140 = .ok (.iload_n 1, 1) := by decide +kernel
theorem d3_141 : decode method_3_code 141 = .ok (.iload_n 2, 1) := by decide +kernel
theorem d3_142 : decode method_3_code 142 = .ok (.invokestatic 22, 3) := by decide +kernel
theorem d3_145 : decode method_3_code 145 = .ok (.istore_n 3, 1) := by decide +kernel
theorem d3_146 : decode method_3_code 146 = .ok (.iload_n 3, 1) := by decide +kernel
theorem d3_147 : decode method_3_code 147 = .ok (.ifCond .ne 5, 3) := by decide +kernel
theorem d3_150 : decode method_3_code 150 = .ok (.iconst 0, 1) := by decide +kernel
theorem d3_151 : decode method_3_code 151 = .ok (.ireturn, 1) := by decide +kernel
theorem d3_152 : decode method_3_code 152 = .ok (.iload_n 2, 1) := by decide +kernel
theorem d3_153 : decode method_3_code 153 = .ok (.iload_n 3, 1) := by decide +kernel
theorem d3_154 : decode method_3_code 154 = .ok (.iadd, 1) := by decide +kernel
theorem d3_155 : decode method_3_code 155 = .ok (.istore_n 2, 1) := by decide +kernel
theorem d3_156 : decode method_3_code 156 = .ok (.iload_n 2, 1) := by decide +kernel
theorem d3_157 : decode method_3_code 157 = .ok (.iload_n 1, 1) := by decide +kernel
theorem d3_158 : decode method_3_code 158 = .ok (.if_icmp .ge 20, 3) := by decide +kernel
theorem d3_161 : decode method_3_code 161 = .ok (.aload_n 0, 1) := by decide +kernel
theorem d3_162 : decode method_3_code 162 = .ok (.iload_n 1, 1) := by decide +kernel
theorem d3_163 : decode method_3_code 163 = .ok (.iload_n 2, 1) := by decide +kernel
theorem d3_164 : decode method_3_code 164 = .ok (.invokestatic 22, 3) := by decide +kernel
theorem d3_167 : decode method_3_code 167 = .ok (.istore_n 3, 1) := by decide +kernel
theorem d3_168 : decode method_3_code 168 = .ok (.iload_n 3, 1) := by decide +kernel
theorem d3_169 : decode method_3_code 169 = .ok (.ifCond .ne 5, 3) := by decide +kernel
theorem d3_172 : decode method_3_code 172 = .ok (.iconst 0, 1) := by decide +kernel
theorem d3_173 : decode method_3_code 173 = .ok (.ireturn, 1) := by decide +kernel
theorem d3_174 : decode method_3_code 174 = .ok (.iload_n 2, 1) := by decide +kernel
theorem d3_175 : decode method_3_code 175 = .ok (.iload_n 3, 1) := by decide +kernel
theorem d3_176 : decode method_3_code 176 = .ok (.iadd, 1) := by decide +kernel
theorem d3_177 : decode method_3_code 177 = .ok (.istore_n 2, 1) := by decide +kernel
theorem d3_178 : decode method_3_code 178 = .ok (.iconst 1, 1) := by decide +kernel
theorem d3_179 : decode method_3_code 179 = .ok (.ireturn, 1) := by decide +kernel
theorem d4_0 : decode method_4_code 0 = .ok (.aload_n 0, 1) := by decide +kernel
theorem d4_1 : decode method_4_code 1 = .ok (.iload_n 2, 1) := by decide +kernel
theorem d4_2 : decode method_4_code 2 = .ok (.iaload, 1) := by decide +kernel
theorem d4_3 : decode method_4_code 3 = .ok (.istore_n 3, 1) := by decide +kernel
theorem d4_4 : decode method_4_code 4 = .ok (.iload_n 3, 1) := by decide +kernel
theorem d4_5 : decode method_4_code 5 = .ok (.sipush 128, 3) := by decide +kernel
theorem d4_8 : decode method_4_code 8 = .ok (.if_icmp .ge 5, 3) := by decide +kernel
theorem d4_11 : decode method_4_code 11 = .ok (.iconst 1, 1) := by decide +kernel
theorem d4_12 : decode method_4_code 12 = .ok (.ireturn, 1) := by decide +kernel
theorem d4_13 : decode method_4_code 13 = .ok (.iload_n 3, 1) := by decide +kernel
theorem d4_14 : decode method_4_code 14 = .ok (.sipush 224, 3) := by decide +kernel
theorem d4_17 : decode method_4_code 17 = .ok (.iand, 1) := by decide +kernel
theorem d4_18 : decode method_4_code 18 = .ok (.sipush 192, 3) := by decide +kernel
theorem d4_21 : decode method_4_code 21 = .ok (.if_icmp .ne 20, 3) := by decide +kernel
theorem d4_24 : decode method_4_code 24 = .ok (.iconst 2, 1) := by decide +kernel
theorem d4_25 : decode method_4_code 25 = .ok (.istore 4, 2) := by decide +kernel
theorem d4_27 : decode method_4_code 27 = .ok (.iload_n 3, 1) := by decide +kernel
theorem d4_28 : decode method_4_code 28 = .ok (.bipush 31, 2) := by decide +kernel
theorem d4_30 : decode method_4_code 30 = .ok (.iand, 1) := by decide +kernel
theorem d4_31 : decode method_4_code 31 = .ok (.istore 5, 2) := by decide +kernel
theorem d4_33 : decode method_4_code 33 = .ok (.sipush 128, 3) := by decide +kernel
theorem d4_36 : decode method_4_code 36 = .ok (.istore 6, 2) := by decide +kernel
theorem d4_38 : decode method_4_code 38 = .ok (.goto 60, 3) := by decide +kernel
theorem d4_41 : decode method_4_code 41 = .ok (.iload_n 3, 1) := by decide +kernel
theorem d4_42 : decode method_4_code 42 = .ok (.sipush 240, 3) := by decide +kernel
theorem d4_45 : decode method_4_code 45 = .ok (.iand, 1) := by decide +kernel
theorem d4_46 : decode method_4_code 46 = .ok (.sipush 224, 3) := by decide +kernel
theorem d4_49 : decode method_4_code 49 = .ok (.if_icmp .ne 20, 3) := by decide +kernel
theorem d4_52 : decode method_4_code 52 = .ok (.iconst 3, 1) := by decide +kernel
theorem d4_53 : decode method_4_code 53 = .ok (.istore 4, 2) := by decide +kernel
theorem d4_55 : decode method_4_code 55 = .ok (.iload_n 3, 1) := by decide +kernel
theorem d4_56 : decode method_4_code 56 = .ok (.bipush 15, 2) := by decide +kernel
theorem d4_58 : decode method_4_code 58 = .ok (.iand, 1) := by decide +kernel
theorem d4_59 : decode method_4_code 59 = .ok (.istore 5, 2) := by decide +kernel
theorem d4_61 : decode method_4_code 61 = .ok (.sipush 2048, 3) := by decide +kernel
theorem d4_64 : decode method_4_code 64 = .ok (.istore 6, 2) := by decide +kernel
theorem d4_66 : decode method_4_code 66 = .ok (.goto 32, 3) := by decide +kernel
theorem d4_69 : decode method_4_code 69 = .ok (.iload_n 3, 1) := by decide +kernel
theorem d4_70 : decode method_4_code 70 = .ok (.sipush 248, 3) := by decide +kernel
theorem d4_73 : decode method_4_code 73 = .ok (.iand, 1) := by decide +kernel
theorem d4_74 : decode method_4_code 74 = .ok (.sipush 240, 3) := by decide +kernel
theorem d4_77 : decode method_4_code 77 = .ok (.if_icmp .ne 19, 3) := by decide +kernel
theorem d4_80 : decode method_4_code 80 = .ok (.iconst 4, 1) := by decide +kernel
theorem d4_81 : decode method_4_code 81 = .ok (.istore 4, 2) := by decide +kernel
theorem d4_83 : decode method_4_code 83 = .ok (.iload_n 3, 1) := by decide +kernel
theorem d4_84 : decode method_4_code 84 = .ok (.bipush 7, 2) := by decide +kernel
theorem d4_86 : decode method_4_code 86 = .ok (.iand, 1) := by decide +kernel
theorem d4_87 : decode method_4_code 87 = .ok (.istore 5, 2) := by decide +kernel
theorem d4_89 : decode method_4_code 89 = .ok (.ldc 26, 2) := by decide +kernel
theorem d4_91 : decode method_4_code 91 = .ok (.istore 6, 2) := by decide +kernel
theorem d4_93 : decode method_4_code 93 = .ok (.goto 5, 3) := by decide +kernel
theorem d4_96 : decode method_4_code 96 = .ok (.iconst 0, 1) := by decide +kernel
theorem d4_97 : decode method_4_code 97 = .ok (.ireturn, 1) := by decide +kernel
theorem d4_98 : decode method_4_code 98 = .ok (.iload_n 2, 1) := by decide +kernel
theorem d4_99 : decode method_4_code 99 = .ok (.iload 4, 2) := by decide +kernel
theorem d4_101 : decode method_4_code 101 = .ok (.iadd, 1) := by decide +kernel
theorem d4_102 : decode method_4_code 102 = .ok (.iload_n 1, 1) := by decide +kernel
theorem d4_103 : decode method_4_code 103 = .ok (.if_icmp .le 5, 3) := by decide +kernel
theorem d4_106 : decode method_4_code 106 = .ok (.iconst 0, 1) := by decide +kernel
theorem d4_107 : decode method_4_code 107 = .ok (.ireturn, 1) := by decide +kernel
theorem d4_108 : decode method_4_code 108 = .ok (.aload_n 0, 1) := by decide +kernel
theorem d4_109 : decode method_4_code 109 = .ok (.iload_n 2, 1) := by decide +kernel
theorem d4_110 : decode method_4_code 110 = .ok (.iconst 1, 1) := by decide +kernel
theorem d4_111 : decode method_4_code 111 = .ok (.iadd, 1) := by decide +kernel
theorem d4_112 : decode method_4_code 112 = .ok (.iaload, 1) := by decide +kernel
theorem d4_113 : decode method_4_code 113 = .ok (.sipush 192, 3) := by decide +kernel
theorem d4_116 : decode method_4_code 116 = .ok (.iand, 1) := by decide +kernel
theorem d4_117 : decode method_4_code 117 = .ok (.sipush 128, 3) := by decide +kernel
theorem d4_120 : decode method_4_code 120 = .ok (.if_icmp .eq 5, 3) := by decide +kernel
theorem d4_123 : decode method_4_code 123 = .ok (.iconst 0, 1) := by decide +kernel
theorem d4_124 : decode method_4_code 124 = .ok (.ireturn, 1) := by decide +kernel
theorem d4_125 : decode method_4_code 125 = .ok (.iload 5, 2) := by decide +kernel
theorem d4_127 : decode method_4_code 127 = .ok (.bipush 6, 2) := by decide +kernel
theorem d4_129 : decode method_4_code 129 = .ok (.ishl, 1) := by decide +kernel
theorem d4_130 : decode method_4_code 130 = .ok (.aload_n 0, 1) := by decide +kernel
theorem d4_131 : decode method_4_code 131 = .ok (.iload_n 2, 1) := by decide +kernel
theorem d4_132 : decode method_4_code 132 = .ok (.iconst 1, 1) := by decide +kernel
theorem d4_133 : decode method_4_code 133 = .ok (.iadd, 1) := by decide +kernel
theorem d4_134 : decode method_4_code 134 = .ok (.iaload, 1) := by decide +kernel
theorem d4_135 : decode method_4_code 135 = .ok (.bipush 63, 2) := by decide +kernel
theorem d4_137 : decode method_4_code 137 = .ok (.iand, 1) := by decide +kernel
theorem d4_138 : decode method_4_code 138 = .ok (.ior, 1) := by decide +kernel
theorem d4_139 : decode method_4_code 139 = .ok (.istore 5, 2) := by decide +kernel
theorem d4_141 : decode method_4_code 141 = .ok (.iload 4, 2) := by decide +kernel
theorem d4_143 : decode method_4_code 143 = .ok (.iconst 3, 1) := by decide +kernel
theorem d4_144 : decode method_4_code 144 = .ok (.if_icmp .lt 36, 3) := by decide +kernel
theorem d4_147 : decode method_4_code 147 = .ok (.aload_n 0, 1) := by decide +kernel
theorem d4_148 : decode method_4_code 148 = .ok (.iload_n 2, 1) := by decide +kernel
theorem d4_149 : decode method_4_code 149 = .ok (.iconst 2, 1) := by decide +kernel
theorem d4_150 : decode method_4_code 150 = .ok (.iadd, 1) := by decide +kernel
theorem d4_151 : decode method_4_code 151 = .ok (.iaload, 1) := by decide +kernel
theorem d4_152 : decode method_4_code 152 = .ok (.sipush 192, 3) := by decide +kernel
theorem d4_155 : decode method_4_code 155 = .ok (.iand, 1) := by decide +kernel
theorem d4_156 : decode method_4_code 156 = .ok (.sipush 128, 3) := by decide +kernel
theorem d4_159 : decode method_4_code 159 = .ok (.if_icmp .eq 5, 3) := by decide +kernel
theorem d4_162 : decode method_4_code 162 = .ok (.iconst 0, 1) := by decide +kernel
theorem d4_163 : decode method_4_code 163 = .ok (.ireturn, 1) := by decide +kernel
theorem d4_164 : decode method_4_code 164 = .ok (.iload 5, 2) := by decide +kernel
theorem d4_166 : decode method_4_code 166 = .ok (.bipush 6, 2) := by decide +kernel
theorem d4_168 : decode method_4_code 168 = .ok (.ishl, 1) := by decide +kernel
theorem d4_169 : decode method_4_code 169 = .ok (.aload_n 0, 1) := by decide +kernel
theorem d4_170 : decode method_4_code 170 = .ok (.iload_n 2, 1) := by decide +kernel
theorem d4_171 : decode method_4_code 171 = .ok (.iconst 2, 1) := by decide +kernel
theorem d4_172 : decode method_4_code 172 = .ok (.iadd, 1) := by decide +kernel
theorem d4_173 : decode method_4_code 173 = .ok (.iaload, 1) := by decide +kernel
theorem d4_174 : decode method_4_code 174 = .ok (.bipush 63, 2) := by decide +kernel
theorem d4_176 : decode method_4_code 176 = .ok (.iand, 1) := by decide +kernel
theorem d4_177 : decode method_4_code 177 = .ok (.ior, 1) := by decide +kernel
theorem d4_178 : decode method_4_code 178 = .ok (.istore 5, 2) := by decide +kernel
theorem d4_180 : decode method_4_code 180 = .ok (.iload 4, 2) := by decide +kernel
theorem d4_182 : decode method_4_code 182 = .ok (.iconst 4, 1) := by decide +kernel
theorem d4_183 : decode method_4_code 183 = .ok (.if_icmp .ne 36, 3) := by decide +kernel
theorem d4_186 : decode method_4_code 186 = .ok (.aload_n 0, 1) := by decide +kernel
theorem d4_187 : decode method_4_code 187 = .ok (.iload_n 2, 1) := by decide +kernel
theorem d4_188 : decode method_4_code 188 = .ok (.iconst 3, 1) := by decide +kernel
theorem d4_189 : decode method_4_code 189 = .ok (.iadd, 1) := by decide +kernel
theorem d4_190 : decode method_4_code 190 = .ok (.iaload, 1) := by decide +kernel
theorem d4_191 : decode method_4_code 191 = .ok (.sipush 192, 3) := by decide +kernel
theorem d4_194 : decode method_4_code 194 = .ok (.iand, 1) := by decide +kernel
theorem d4_195 : decode method_4_code 195 = .ok (.sipush 128, 3) := by decide +kernel
theorem d4_198 : decode method_4_code 198 = .ok (.if_icmp .eq 5, 3) := by decide +kernel
theorem d4_201 : decode method_4_code 201 = .ok (.iconst 0, 1) := by decide +kernel
theorem d4_202 : decode method_4_code 202 = .ok (.ireturn, 1) := by decide +kernel
theorem d4_203 : decode method_4_code 203 = .ok (.iload 5, 2) := by decide +kernel
theorem d4_205 : decode method_4_code 205 = .ok (.bipush 6, 2) := by decide +kernel
theorem d4_207 : decode method_4_code 207 = .ok (.ishl, 1) := by decide +kernel
theorem d4_208 : decode method_4_code 208 = .ok (.aload_n 0, 1) := by decide +kernel
theorem d4_209 : decode method_4_code 209 = .ok (.iload_n 2, 1) := by decide +kernel
theorem d4_210 : decode method_4_code 210 = .ok (.iconst 3, 1) := by decide +kernel
theorem d4_211 : decode method_4_code 211 = .ok (.iadd, 1) := by decide +kernel
theorem d4_212 : decode method_4_code 212 = .ok (.iaload, 1) := by decide +kernel
theorem d4_213 : decode method_4_code 213 = .ok (.bipush 63, 2) := by decide +kernel
theorem d4_215 : decode method_4_code 215 = .ok (.iand, 1) := by decide +kernel
theorem d4_216 : decode method_4_code 216 = .ok (.ior, 1) := by decide +kernel
theorem d4_217 : decode method_4_code 217 = .ok (.istore 5, 2) := by decide +kernel
theorem d4_219 : decode method_4_code 219 = .ok (.iload 5, 2) := by decide +kernel
theorem d4_221 : decode method_4_code 221 = .ok (.iload 6, 2) := by decide +kernel
theorem d4_223 : decode method_4_code 223 = .ok (.if_icmp .lt 10, 3) := by decide +kernel
theorem d4_226 : decode method_4_code 226 = .ok (.iload 5, 2) := by decide +kernel
theorem d4_228 : decode method_4_code 228 = .ok (.ldc 27, 2) := by decide +kernel
theorem d4_230 : decode method_4_code 230 = .ok (.if_icmp .le 5, 3) := by decide +kernel
theorem d4_233 : decode method_4_code 233 = .ok (.iconst 0, 1) := by decide +kernel
theorem d4_234 : decode method_4_code 234 = .ok (.ireturn, 1) := by decide +kernel
theorem d4_235 : decode method_4_code 235 = .ok (.iload 5, 2) := by decide +kernel
theorem d4_237 : decode method_4_code 237 = .ok (.ldc 28, 2) := by decide +kernel
theorem d4_239 : decode method_4_code 239 = .ok (.if_icmp .lt 12, 3) := by decide +kernel
theorem d4_242 : decode method_4_code 242 = .ok (.iload 5, 2) := by decide +kernel
theorem d4_244 : decode method_4_code 244 = .ok (.ldc 29, 2) := by decide +kernel
theorem d4_246 : decode method_4_code 246 = .ok (.if_icmp .gt 5, 3) := by decide +kernel
theorem d4_249 : decode method_4_code 249 = .ok (.iconst 0, 1) := by decide +kernel
theorem d4_250 : decode method_4_code 250 = .ok (.ireturn, 1) := by decide +kernel
theorem d4_251 : decode method_4_code 251 = .ok (.iload 4, 2) := by decide +kernel
theorem d4_253 : decode method_4_code 253 = .ok (.ireturn, 1) := by decide +kernel
theorem pd0 : parseMethodDescriptor "([BI)I" = some ⟨[(.array .byte), .int], some .int⟩ := by decide +kernel
theorem pd1 : parseMethodDescriptor "([III)I" = some ⟨[(.array .int), .int, .int], some .int⟩ := by decide +kernel
theorem pd2 : parseMethodDescriptor "([B)Z" = some ⟨[(.array .byte)], some .boolean⟩ := by decide +kernel
theorem pd3 : parseMethodDescriptor "([II)Z" = some ⟨[(.array .int), .int], some .boolean⟩ := by decide +kernel
theorem pn0 : plainName "com/example/depositum/depositum/report/PrintableText" = true := by first | (simp [plainName, overriddenIn]; done) | decide +kernel
theorem pn1 : plainName "com/example/depositum/depositum/report/PrintableTextIsUtf8PinLaw" = true := by first | (simp [plainName, overriddenIn]; done) | decide +kernel
theorem ef_cseq (m : MethodId) (x0 : Addr) (x1 : Int32) : entryFrame m #[(.ref x0), (.int x1)] 9 = mkF m 0 #[.val (.ref x0), .val (.int x1), .unset, .unset, .unset, .unset, .unset, .unset, .unset] [] := by first | (simp [entryFrame, mkF, argsToLocals, Value.category, maxLocals]; done) | rfl
theorem ef_crseq (m : MethodId) (x0 : Addr) (x1 : Int32) (x2 : Int32) : entryFrame m #[(.ref x0), (.int x1), (.int x2)] 7 = mkF m 0 #[.val (.ref x0), .val (.int x1), .val (.int x2), .unset, .unset, .unset, .unset] [] := by first | (simp [entryFrame, mkF, argsToLocals, Value.category, maxLocals]; done) | rfl
theorem ef_cisu (m : MethodId) (x0 : Addr) : entryFrame m #[(.ref x0)] 3 = mkF m 0 #[.val (.ref x0), .unset, .unset] [] := by first | (simp [entryFrame, mkF, argsToLocals, Value.category, maxLocals]; done) | rfl
theorem ef_cref (m : MethodId) (x0 : Addr) (x1 : Int32) : entryFrame m #[(.ref x0), (.int x1)] 4 = mkF m 0 #[.val (.ref x0), .val (.int x1), .unset, .unset] [] := by first | (simp [entryFrame, mkF, argsToLocals, Value.category, maxLocals]; done) | rfl
theorem ef_law0 (m : MethodId) (x0 : Int64) (x1 : Int32) : entryFrame m #[(.long x0), (.int x1)] maxLocals = mkF m 0 #[.val (.long x0), .second, .val (.int x1), .unset, .unset, .unset] [] := by first | (simp [entryFrame, mkF, argsToLocals, Value.category, maxLocals]; done) | rfl
theorem own_rem9 (x : Int32) : (x &&& (2147483647 : Int32)) % (9 : Int32) = 0 ∨ (x &&& (2147483647 : Int32)) % (9 : Int32) = 1 ∨ (x &&& (2147483647 : Int32)) % (9 : Int32) = 2 ∨ (x &&& (2147483647 : Int32)) % (9 : Int32) = 3 ∨ (x &&& (2147483647 : Int32)) % (9 : Int32) = 4 ∨ (x &&& (2147483647 : Int32)) % (9 : Int32) = 5 ∨ (x &&& (2147483647 : Int32)) % (9 : Int32) = 6 ∨ (x &&& (2147483647 : Int32)) % (9 : Int32) = 7 ∨ (x &&& (2147483647 : Int32)) % (9 : Int32) = 8 := by
  have h0 : 0 ≤ (x &&& (2147483647 : Int32)).toInt := by
    have : ¬ (x &&& (2147483647 : Int32)) < 0 := by rw [Jvm.Free.XT.and_neg32]; exact fun q => absurd q.2 (by decide)
    rw [Jvm.Free.XT.negI32] at this; omega
  generalize x &&& (2147483647 : Int32) = y at h0 ⊢
  have h1 : (y % 9).toInt = y.toInt.tmod 9 := Int32.toInt_mod y 9
  rw [Int.tmod_eq_emod_of_nonneg h0] at h1
  have h2 := Int.emod_nonneg y.toInt (by decide : (9 : Int) ≠ 0)
  have h3 := Int.emod_lt_of_pos y.toInt (by decide : (0 : Int) < 9)
  simp only [← Int32.toInt_inj]
  have e0 : (0 : Int32).toInt = 0 := rfl
  have e1 : (1 : Int32).toInt = 1 := rfl
  have e2 : (2 : Int32).toInt = 2 := rfl
  have e3 : (3 : Int32).toInt = 3 := rfl
  have e4 : (4 : Int32).toInt = 4 := rfl
  have e5 : (5 : Int32).toInt = 5 := rfl
  have e6 : (6 : Int32).toInt = 6 := rfl
  have e7 : (7 : Int32).toInt = 7 := rfl
  have e8 : (8 : Int32).toInt = 8 := rfl
  omega
/-- what a sequence that begins with a, b, c, d takes of the k bytes that are left: its length, or 0 -/
def own_T (a b c d k : Int) : Int32 :=
  if a < 128 then 1
  else if 194 ≤ a ∧ a ≤ 223 then (if 2 ≤ k ∧ 128 ≤ b ∧ b ≤ 191 then 2 else 0)
  else if a = 224 then (if 3 ≤ k ∧ 160 ≤ b ∧ b ≤ 191 ∧ 128 ≤ c ∧ c ≤ 191 then 3 else 0)
  else if a = 237 then (if 3 ≤ k ∧ 128 ≤ b ∧ b ≤ 159 ∧ 128 ≤ c ∧ c ≤ 191 then 3 else 0)
  else if 225 ≤ a ∧ a ≤ 239 then (if 3 ≤ k ∧ 128 ≤ b ∧ b ≤ 191 ∧ 128 ≤ c ∧ c ≤ 191 then 3 else 0)
  else if a = 240 then (if 4 ≤ k ∧ 144 ≤ b ∧ b ≤ 191 ∧ 128 ≤ c ∧ c ≤ 191 ∧ 128 ≤ d ∧ d ≤ 191 then 4 else 0)
  else if a = 244 then (if 4 ≤ k ∧ 128 ≤ b ∧ b ≤ 143 ∧ 128 ≤ c ∧ c ≤ 191 ∧ 128 ≤ d ∧ d ≤ 191 then 4 else 0)
  else if 241 ≤ a ∧ a ≤ 243 then (if 4 ≤ k ∧ 128 ≤ b ∧ b ≤ 191 ∧ 128 ≤ c ∧ c ≤ 191 ∧ 128 ≤ d ∧ d ≤ 191 then 4 else 0)
  else 0
def own_Y (ys : List Int32) (i : Int32) : Int32 := ys.getD i.toNatClampNeg 0
def own_S (ys : List Int32) (n p : Int32) : Int32 := own_T (own_Y ys p).toInt (own_Y ys (p + (1 : Int32))).toInt (own_Y ys (p + (2 : Int32))).toInt (own_Y ys (p + (3 : Int32))).toInt (n.toInt - p.toInt)
def own_U (ys : List Int32) (n : Int32) : Nat → Int32 → Int32
  | 0, _ => 1
  | k + 1, p => if p < n then (if own_S ys n p = 0 then 0 else own_U ys n k (p + own_S ys n p)) else 1
section
variable {ys : List Int32} {n p : Int32}
theorem own_U_ge (h : ¬ p < n) (k : Nat) : own_U ys n k p = 1 := by cases k with | zero => rfl | succ k => simp [own_U, h]
theorem own_U_no {k : Nat} (h : p < n) (z : own_S ys n p = 0) : own_U ys n (k + 1) p = 0 := by simp [own_U, h, z]
theorem own_U_go {k : Nat} (h : p < n) (z : ¬ own_S ys n p = 0) : own_U ys n (k + 1) p = own_U ys n k (p + own_S ys n p) := by simp [own_U, h, z]
theorem own_T_rng (a b c d k : Int) : own_T a b c d k = 0 ∨ own_T a b c d k = 1 ∨ own_T a b c d k = 2 ∨ own_T a b c d k = 3 ∨ own_T a b c d k = 4 := by
  unfold own_T
  (repeat' split) <;> simp
section
variable {a b c d k : Int}
theorem own_T1 (h : a < 128) : own_T a b c d k = 1 := by simp [own_T, h]
theorem own_T2 (h : 194 ≤ a ∧ a ≤ 223 ∧ 2 ≤ k ∧ 128 ≤ b ∧ b ≤ 191) : own_T a b c d k = 2 := by
  unfold own_T
  rw [if_neg (by omega), if_pos (by omega), if_pos (by omega)]
theorem own_T3 (h : 224 ≤ a ∧ a ≤ 239 ∧ 3 ≤ k ∧ 128 ≤ b ∧ b ≤ 191 ∧ 128 ≤ c ∧ c ≤ 191 ∧ (a = 224 → 160 ≤ b) ∧ (a = 237 → b ≤ 159)) : own_T a b c d k = 3 := by
  unfold own_T
  (repeat' split) <;> first | rfl | (exfalso; omega)
theorem own_T4 (h : 240 ≤ a ∧ a ≤ 244 ∧ 4 ≤ k ∧ 128 ≤ b ∧ b ≤ 191 ∧ 128 ≤ c ∧ c ≤ 191 ∧ 128 ≤ d ∧ d ≤ 191 ∧ (a = 240 → 144 ≤ b) ∧ (a = 244 → b ≤ 143)) : own_T a b c d k = 4 := by
  unfold own_T
  (repeat' split) <;> first | rfl | (exfalso; omega)
theorem own_T0 (h : 128 ≤ a ∧ (194 ≤ a ∧ a ≤ 223 → ¬ (2 ≤ k ∧ 128 ≤ b ∧ b ≤ 191)) ∧ (224 ≤ a ∧ a ≤ 239 → ¬ (3 ≤ k ∧ 128 ≤ b ∧ b ≤ 191 ∧ 128 ≤ c ∧ c ≤ 191 ∧ (a = 224 → 160 ≤ b) ∧ (a = 237 → b ≤ 159))) ∧ (240 ≤ a ∧ a ≤ 244 → ¬ (4 ≤ k ∧ 128 ≤ b ∧ b ≤ 191 ∧ 128 ≤ c ∧ c ≤ 191 ∧ 128 ≤ d ∧ d ≤ 191 ∧ (a = 240 → 144 ≤ b) ∧ (a = 244 → b ≤ 143)))) : own_T a b c d k = 0 := by
  unfold own_T
  (repeat' split) <;> first | rfl | (exfalso; omega)
end
theorem own_lt {x y : Int32} (h : x < y) : x.toInt < y.toInt := Int32.lt_iff_toInt_lt.mp h
theorem own_ltn {x y : Int32} (h : ¬ x < y) : ¬ x.toInt < y.toInt := fun q => h (Int32.lt_iff_toInt_lt.mpr q)
theorem own_nlt {x y : Int32} (h : ¬ x.toInt < y.toInt) : ¬ x < y := fun q => h (Int32.lt_iff_toInt_lt.mp q)
theorem own_eq {x y : Int32} (h : x = y) : x.toInt = y.toInt := congrArg _ h
theorem own_eqn {x y : Int32} (h : ¬ x = y) : ¬ x.toInt = y.toInt := fun q => h (Int32.toInt_inj.mp q)
theorem own_add {x y : Int32} (h1 : -2147483648 ≤ x.toInt + y.toInt) (h2 : x.toInt + y.toInt < 2147483648) : (x + y).toInt = x.toInt + y.toInt := by
  rw [Int32.toInt_add, Int.bmod_eq_of_le (by omega) (by omega)]
theorem own_pa (hn : n.toInt ≤ 8) (hp0 : ¬ p < (0 : Int32)) (hp1 : p < n) (i : Int32) (h0 : 0 ≤ i.toInt) (h8 : i.toInt ≤ 8) : (p + i).toInt = p.toInt + i.toInt := by
  have e0 : (0 : Int32).toInt = 0 := rfl
  have a1 := own_ltn hp0; have a2 := own_lt hp1
  exact own_add (by omega) (by omega)
theorem own_in (hn : n.toInt ≤ 8) (hp0 : ¬ p < (0 : Int32)) (hp1 : p < n) (i : Int32) (h0 : 0 ≤ i.toInt) (h8 : i.toInt ≤ 8) (h : p.toInt + i.toInt < n.toInt) : ¬ (p + i) < 0 ∧ (p + i) < n := by
  have e0 : (0 : Int32).toInt = 0 := rfl
  have a1 := own_ltn hp0; have a2 := own_pa hn hp0 hp1 i h0 h8
  exact ⟨own_nlt (by omega), Int32.lt_iff_toInt_lt.mpr (by omega)⟩
theorem own_in8 (hn : n.toInt ≤ 8) (hp0 : ¬ p < (0 : Int32)) (hp1 : p < n) (i : Int32) (h0 : 0 ≤ i.toInt) (h8 : i.toInt ≤ 8) (h : p.toInt + i.toInt < n.toInt) : ¬ (p + i) < 0 ∧ (p + i) < 8 := by
  have e8 : (8 : Int32).toInt = 8 := rfl
  have a2 := own_pa hn hp0 hp1 i h0 h8
  exact ⟨(own_in hn hp0 hp1 i h0 h8 h).1, Int32.lt_iff_toInt_lt.mpr (by omega)⟩
theorem own_i8 (hn : n.toInt ≤ 8) (hp0 : ¬ p < (0 : Int32)) (hp1 : p < n) : ¬ p < 0 ∧ p < 8 := by
  have e8 : (8 : Int32).toInt = 8 := rfl
  have a2 := own_lt hp1
  exact ⟨hp0, Int32.lt_iff_toInt_lt.mpr (by omega)⟩
theorem own_plt {i j : Int32} (hi : (p + i).toInt = p.toInt + i.toInt) (hj : (p + j).toInt = p.toInt + j.toInt) (h : i.toInt < j.toInt) : (p + i) < (p + j) := Int32.lt_iff_toInt_lt.mpr (by omega)
theorem own_pnl {i j : Int32} (hi : (p + i).toInt = p.toInt + i.toInt) (hj : (p + j).toInt = p.toInt + j.toInt) (h : ¬ i.toInt < j.toInt) : ¬ (p + i) < (p + j) := own_nlt (by omega)
theorem own_pp (p i j r : Int32) (h : i + j = r) : (p + i) + j = p + r := by rw [Int32.add_assoc, h]
theorem own_fin {P : Int32 → Prop} (h : ∀ k : Fin 256, P (Int32.ofNat k)) {y : Int32} (b : 0 ≤ y.toInt ∧ y.toInt < 256) : P y := by
  have e : y = Int32.ofNat y.toInt.toNat := by
    apply Int32.toInt_inj.mp
    rw [Int32.toInt_ofNat_small (by omega)]
    omega
  rw [e]
  exact h ⟨y.toInt.toNat, by omega⟩
theorem own_toInt (k : Fin 256) : (Int32.ofNat k).toInt = k := Int32.toInt_ofNat_small (by omega)
theorem own_bd (hys : ∀ i : Nat, 0 ≤ (ys.getD i 0).toInt ∧ (ys.getD i 0).toInt < 256) (i : Int32) : 0 ≤ (own_Y ys i).toInt ∧ (own_Y ys i).toInt < 256 := hys _
theorem own_b255 (hys : ∀ i : Nat, 0 ≤ (ys.getD i 0).toInt ∧ (ys.getD i 0).toInt < 256) (i : Int32) : ((own_Y ys i).toInt8.toInt32 &&& (255 : Int32)) = own_Y ys i :=
  own_fin (P := fun y => (y.toInt8.toInt32 &&& (255 : Int32)) = y) (by decide +kernel) (own_bd hys i)
theorem own_gb (ys : List Int32) (i : Int32) : (ys.map fun y => Value.int y.toInt8.toInt32).getD i.toNatClampNeg (.int (0 : Int32)) = (.int ((own_Y ys i).toInt8.toInt32)) := by
  unfold own_Y
  simp only [List.getD_eq_getElem?_getD, List.getElem?_map]
  cases ys[i.toNatClampNeg]? <;> rfl
theorem own_gi (ys : List Int32) (i : Int32) : (ys.map Value.int).getD i.toNatClampNeg (.int (0 : Int32)) = (.int (own_Y ys i)) := by
  unfold own_Y
  simp only [List.getD_eq_getElem?_getD, List.getElem?_map]
  cases ys[i.toNatClampNeg]? <;> rfl
theorem own_m224 {x : Int32} (b : 0 ≤ x.toInt ∧ x.toInt < 256) : (x &&& (224 : Int32)) = (192 : Int32) ↔ 192 ≤ x.toInt ∧ x.toInt ≤ 223 :=
  own_fin (P := fun x => (x &&& (224 : Int32)) = (192 : Int32) ↔ 192 ≤ x.toInt ∧ x.toInt ≤ 223) (by decide +kernel) b
theorem own_m240 {x : Int32} (b : 0 ≤ x.toInt ∧ x.toInt < 256) : (x &&& (240 : Int32)) = (224 : Int32) ↔ 224 ≤ x.toInt ∧ x.toInt ≤ 239 :=
  own_fin (P := fun x => (x &&& (240 : Int32)) = (224 : Int32) ↔ 224 ≤ x.toInt ∧ x.toInt ≤ 239) (by decide +kernel) b
theorem own_m248 {x : Int32} (b : 0 ≤ x.toInt ∧ x.toInt < 256) : (x &&& (248 : Int32)) = (240 : Int32) ↔ 240 ≤ x.toInt ∧ x.toInt ≤ 247 :=
  own_fin (P := fun x => (x &&& (248 : Int32)) = (240 : Int32) ↔ 240 ≤ x.toInt ∧ x.toInt ≤ 247) (by decide +kernel) b
theorem own_m192 {x : Int32} (b : 0 ≤ x.toInt ∧ x.toInt < 256) : (x &&& (192 : Int32)) = (128 : Int32) ↔ 128 ≤ x.toInt ∧ x.toInt ≤ 191 :=
  own_fin (P := fun x => (x &&& (192 : Int32)) = (128 : Int32) ↔ 128 ≤ x.toInt ∧ x.toInt ≤ 191) (by decide +kernel) b
theorem own_nat {x : Int32} (h : 0 ≤ x.toInt) : x.toInt = (x.toBitVec.toNat : Int) := by
  have h1 : x.toInt = x.toBitVec.toInt := rfl
  rw [h1] at h ⊢
  rw [BitVec.toInt_eq_toNat_cond] at h ⊢
  split
  · rfl
  · rename_i q; rw [if_neg q] at h; have := x.toBitVec.isLt; omega
theorem own_or6 (e c : Int32) (h0 : 0 ≤ e.toInt) (h1 : e.toInt < 1048576) (hc : 0 ≤ c.toInt) : ((e <<< ((6 : Int32) &&& 31)) ||| (c &&& (63 : Int32))).toInt = e.toInt * 64 + c.toInt % 64 := by
  have a1 := c_ishl e 6 6 (by decide)
  have a2 := rng32 (e <<< ((6 : Int32) &&& 31))
  have e6 : ((2 ^ 6 : Nat) : Int) = 64 := rfl
  rw [e6] at a1
  have a3 : (e <<< ((6 : Int32) &&& 31)).toInt = e.toInt * 64 := by omega
  have a4 := c_mask c (63 : Int32) 6 (by decide) (by decide)
  rw [e6] at a4
  have a5 : 0 ≤ (c &&& (63 : Int32)).toInt ∧ (c &&& (63 : Int32)).toInt < 64 := by omega
  generalize (e <<< ((6 : Int32) &&& 31)) = x at a3 ⊢
  generalize (c &&& (63 : Int32)) = y at a4 a5 ⊢
  have b1 := own_nat (x := x) (by omega)
  have b2 := own_nat (x := y) (by omega)
  have b3 : (x ||| y).toBitVec.toNat = x.toBitVec.toNat + y.toBitVec.toNat := by
    have q : (x ||| y).toBitVec = x.toBitVec ||| y.toBitVec := rfl
    rw [q, BitVec.toNat_or]
    obtain ⟨k, hk⟩ : ∃ k : Nat, x.toBitVec.toNat = k <<< 6 := ⟨e.toInt.toNat, by rw [Nat.shiftLeft_eq]; omega⟩
    rw [hk, ← Nat.shiftLeft_add_eq_or_of_lt (by omega)]
  have b4 : (x ||| y).toInt = ((x ||| y).toBitVec.toNat : Int) := by
    have h1 : (x ||| y).toInt = (x ||| y).toBitVec.toInt := rfl
    rw [h1, BitVec.toInt_eq_toNat_cond, if_pos (by rw [b3]; omega)]
  rw [b4, b3]
  omega
theorem own_next (ys : List Int32) (hp0 : ¬ p < (0 : Int32)) (hp1 : p < n) (hz : ¬ own_S ys n p = 0) (hn : n.toInt ≤ 8) : ¬ (p + own_S ys n p) < (0 : Int32) ∧ (p + own_S ys n p).toInt ≤ 12 ∧ p.toInt + 1 ≤ (p + own_S ys n p).toInt := by
  have e0 : (0 : Int32).toInt = 0 := rfl
  have a1 := own_ltn hp0; have a2 := own_lt hp1
  have r : 1 ≤ (own_S ys n p).toInt ∧ (own_S ys n p).toInt ≤ 4 := by
    have q := own_T_rng (own_Y ys p).toInt (own_Y ys (p + (1 : Int32))).toInt (own_Y ys (p + (2 : Int32))).toInt (own_Y ys (p + (3 : Int32))).toInt (n.toInt - p.toInt)
    change own_S ys n p = 0 ∨ own_S ys n p = 1 ∨ own_S ys n p = 2 ∨ own_S ys n p = 3 ∨ own_S ys n p = 4 at q
    rcases q with q | q | q | q | q
    · exact absurd q hz
    all_goals (rw [q]; decide)
  have a3 : (p + own_S ys n p).toInt = p.toInt + (own_S ys n p).toInt := own_add (by omega) (by omega)
  exact ⟨own_nlt (by omega), by omega, by omega⟩
end
theorem own_l255 (x : Int64) : 0 ≤ ((x &&& (255 : Int64)).toInt32).toInt ∧ ((x &&& (255 : Int64)).toInt32).toInt < 256 := by
  have a1 := c_maskL x (255 : Int64) 8 (by decide) (by decide)
  have e8 : ((2 ^ 8 : Nat) : Int) = 256 := rfl
  rw [e8] at a1
  have a2 := c_l2i (x &&& (255 : Int64))
  have a3 := rng32 ((x &&& (255 : Int64)).toInt32)
  omega
theorem own_widen {Z : State} {h : Heap} {a : Addr} {k : ClassId} {ty : FieldType} {z : Int32} {vs vs' : List Value} {dv : Value} (V : Arv Z h a k ty z vs dv) (q : ∀ i, i < z.toNatClampNeg → vs'.getD i dv = vs.getD i dv) : Arv Z h a k ty z vs' dv := by
  obtain ⟨c, A, r1, r2, r3, H, G⟩ := V
  exact ⟨c, A, r1, r2, r3, fun i hi => by rw [q i (r2 ▸ hi)]; exact H i hi, fun i hi => by rw [q i (r2 ▸ hi)]; exact G i hi⟩
def Q_cseq (Z : State) (a : Addr) (ka : ClassId) (n : Int32) (ys : List Int32) (p : Int32) (h0 : Heap) (vR : Option Value) (hR : Heap) (LR : List Loc) : Prop := vR = some (.int (own_S ys n p)) ∧ Fr Z.heap.size LR ∧ hR = h0
set_option maxRecDepth 65536 in
set_option maxHeartbeats 40000000 in
theorem cseq (l : Launch) (Z : State) (a0 : Array Value) (hw : ∀ d ∈ tables_1, d.before a0 Z = true) (a : Addr) (ka : ClassId) (n : Int32) (ys : List Int32) (p : Int32) (h0 : Heap) (O0 : Ext Z.heap h0) (Va : Arv Z h0 a ka .byte n (ys.map fun y => Value.int y.toInt8.toInt32) (.int (0 : Int32))) (hys : ∀ i : Nat, 0 ≤ (ys.getD i 0).toInt ∧ (ys.getD i 0).toInt < 256) (hn : n.toInt ≤ 8) (hp0 : ¬ (p < (0 : Int32))) (hp1 : p < n) :
    Ctr l Z h0 (⟨"com/example/depositum/depositum/report/PrintableText", "sequenceLength", "([BI)I"⟩ : MethodName) prog_45_method_5_code 9 (some .int) [] ({ frames := 0, cells := 0, slots := 0, locals := 0 } : Room) #[(.ref a), (.int p)] (Q_cseq Z a ka n ys p h0) := by
  refine enter (plainFor_of_name pn0) ?_
  intro pp ee ss mm below meth cc s₁ hx hby hml hZ hown hnm hret hlk X0 e0 hs0
  replace hown : ss.vm.findClass "com/example/depositum/depositum/report/PrintableText" = some mm.cls := hown
  refine Go.cast (congrArg s₁.setTop (ef_cseq mm a p)) ?_
  have N0 := Fr.nil Z.heap.size
  show Go pp ee below _ (s₁.setTop (mkF mm 0 #[.val (.ref a), .val (.int p), .unset, .unset, .unset, .unset, .unset, .unset, .unset] []))
  have kp1 : (p + (1 : Int32)).toInt = p.toInt + 1 := own_pa hn hp0 hp1 (1 : Int32) (by decide) (by decide)
  have kp2 : (p + (2 : Int32)).toInt = p.toInt + 2 := own_pa hn hp0 hp1 (2 : Int32) (by decide) (by decide)
  have kp3 : (p + (3 : Int32)).toInt = p.toInt + 3 := own_pa hn hp0 hp1 (3 : Int32) (by decide) (by decide)
  have kp4 : (p + (4 : Int32)).toInt = p.toInt + 4 := own_pa hn hp0 hp1 (4 : Int32) (by decide) (by decide)
  have kp0 : ¬ p.toInt < 0 := own_ltn hp0
  have kpn := own_lt hp1
  refine Go.aloadN X0 hx (hb hby d2_0) rfl rfl (q := 1) rfl ?_
  refine Go.iloadN X0 hx (hb hby d2_1) rfl (q := 2) rfl ?_
  refine Go.bal X0 hx hZ e0 Va ⟨hp0, hp1⟩ (v := (.int ((own_Y ys p).toInt8.toInt32))) (own_gb ys _) (hb hby d2_2) ?_
  refine Go.sipush X0 hx (hb hby d2_3) (r := (255 : Int32)) rfl (q := 6) rfl ?_
  refine Go.iand X0 hx (hb hby d2_6) rfl (q := 7) rfl ?_
  rw [own_b255 hys p]
  have bA := own_bd hys p
  generalize hA : (own_Y ys p) = A at bA ⊢
  show Go pp ee below _ (s₁.setTop (mkF mm 7 #[.val (.ref a), .val (.int p), .unset, .unset, .unset, .unset, .unset, .unset, .unset] [(.int A)]))
  refine Go.istoreN X0 hx (hb hby d2_7) (l' := #[.val (.ref a), .val (.int p), .val (.int A), .unset, .unset, .unset, .unset, .unset, .unset]) rfl (q := 8) rfl ?_
  refine Go.iloadN X0 hx (hb hby d2_8) rfl (q := 9) rfl ?_
  refine Go.sipush X0 hx (hb hby d2_9) (r := (128 : Int32)) rfl (q := 12) rfl ?_
  by_cases hc101 : A < (128 : Int32)
  · have tc101 := (show (A).toInt < 128 from own_lt hc101)
    refine Go.icmpNo X0 hx (hb hby d2_12) (Jvm.Free.XT.ii_ge_f hc101) (q := 15) rfl ?_
    refine Go.iconst X0 hx (hb hby d2_15) (r := (1 : Int32)) rfl (q := 16) rfl ?_
    exact Go.retI X0 hx hret hlk (Or.inl rfl) rfl (hb hby d2_16) e0 (by decide) (by decide) ⟨by rw [show own_S ys n p = (1 : Int32) from by (simp only [own_S, hA]); exact own_T1 (by omega)], N0, rfl⟩
  · have tc101 := (show ¬ (A).toInt < 128 from own_ltn hc101)
    refine Go.icmpYes X0 hx (hb hby d2_12) (Jvm.Free.XT.ii_ge_t hc101) (q := 17) (by decide) (by decide) ?_
    refine Go.sipush X0 hx (hb hby d2_17) (r := (128 : Int32)) rfl (q := 20) rfl ?_
    refine Go.istore X0 hx (hb hby d2_20) (l' := #[.val (.ref a), .val (.int p), .val (.int A), .unset, .val (.int (128 : Int32)), .unset, .unset, .unset, .unset]) rfl (q := 22) rfl ?_
    refine Go.sipush X0 hx (hb hby d2_22) (r := (191 : Int32)) rfl (q := 25) rfl ?_
    refine Go.istore X0 hx (hb hby d2_25) (l' := #[.val (.ref a), .val (.int p), .val (.int A), .unset, .val (.int (128 : Int32)), .val (.int (191 : Int32)), .unset, .unset, .unset]) rfl (q := 27) rfl ?_
    refine Go.iloadN X0 hx (hb hby d2_27) rfl (q := 28) rfl ?_
    refine Go.sipush X0 hx (hb hby d2_28) (r := (194 : Int32)) rfl (q := 31) rfl ?_
    by_cases hc102 : A < (194 : Int32)
    · have tc102 := (show (A).toInt < 194 from own_lt hc102)
      refine Go.icmpYes X0 hx (hb hby d2_31) (Jvm.Free.XT.ii_lt_t hc102) (q := 46) (by decide) (by decide) ?_
      refine Go.iloadN X0 hx (hb hby d2_46) rfl (q := 47) rfl ?_
      refine Go.sipush X0 hx (hb hby d2_47) (r := (224 : Int32)) rfl (q := 50) rfl ?_
      by_cases hc103 : A < (224 : Int32)
      · have tc103 := (show (A).toInt < 224 from own_lt hc103)
        refine Go.icmpYes X0 hx (hb hby d2_50) (Jvm.Free.XT.ii_lt_t hc103) (q := 92) (by decide) (by decide) ?_
        refine Go.iloadN X0 hx (hb hby d2_92) rfl (q := 93) rfl ?_
        refine Go.sipush X0 hx (hb hby d2_93) (r := (240 : Int32)) rfl (q := 96) rfl ?_
        by_cases hc104 : A < (240 : Int32)
        · have tc104 := (show (A).toInt < 240 from own_lt hc104)
          refine Go.icmpYes X0 hx (hb hby d2_96) (Jvm.Free.XT.ii_lt_t hc104) (q := 138) (by decide) (by decide) ?_
          refine Go.iconst X0 hx (hb hby d2_138) (r := (0 : Int32)) rfl (q := 139) rfl ?_
          exact Go.retI X0 hx hret hlk (Or.inl rfl) rfl (hb hby d2_139) e0 (by decide) (by decide) ⟨by rw [show own_S ys n p = (0 : Int32) from by (simp only [own_S, hA]); exact own_T0 (by omega)], N0, rfl⟩
        · have tc104 := (show ¬ (A).toInt < 240 from own_ltn hc104)
          refine Go.icmpNo X0 hx (hb hby d2_96) (Jvm.Free.XT.ii_lt_f hc104) (q := 99) rfl ?_
          refine Go.iloadN X0 hx (hb hby d2_99) rfl (q := 100) rfl ?_
          refine Go.sipush X0 hx (hb hby d2_100) (r := (244 : Int32)) rfl (q := 103) rfl ?_
          by_cases hc105 : (244 : Int32) < A
          · have tc105 := (show 244 < (A).toInt from own_lt hc105)
            refine Go.icmpYes X0 hx (hb hby d2_103) (Jvm.Free.XT.ii_gt_t hc105) (q := 138) (by decide) (by decide) ?_
            refine Go.iconst X0 hx (hb hby d2_138) (r := (0 : Int32)) rfl (q := 139) rfl ?_
            exact Go.retI X0 hx hret hlk (Or.inl rfl) rfl (hb hby d2_139) e0 (by decide) (by decide) ⟨by rw [show own_S ys n p = (0 : Int32) from by (simp only [own_S, hA]); exact own_T0 (by omega)], N0, rfl⟩
          · have tc105 := (show ¬ 244 < (A).toInt from own_ltn hc105)
            refine Go.icmpNo X0 hx (hb hby d2_103) (Jvm.Free.XT.ii_gt_f hc105) (q := 106) rfl ?_
            refine Go.iconst X0 hx (hb hby d2_106) (r := (4 : Int32)) rfl (q := 107) rfl ?_
            refine Go.istoreN X0 hx (hb hby d2_107) (l' := #[.val (.ref a), .val (.int p), .val (.int A), .val (.int (4 : Int32)), .val (.int (128 : Int32)), .val (.int (191 : Int32)), .unset, .unset, .unset]) rfl (q := 108) rfl ?_
            refine Go.iloadN X0 hx (hb hby d2_108) rfl (q := 109) rfl ?_
            refine Go.sipush X0 hx (hb hby d2_109) (r := (240 : Int32)) rfl (q := 112) rfl ?_
            by_cases hc106 : A = (240 : Int32)
            · have tc106 := (show (A).toInt = 240 from own_eq hc106)
              refine Go.icmpNo X0 hx (hb hby d2_112) (Jvm.Free.XT.ii_ne_f hc106) (q := 115) rfl ?_
              refine Go.sipush X0 hx (hb hby d2_115) (r := (144 : Int32)) rfl (q := 118) rfl ?_
              refine Go.istore X0 hx (hb hby d2_118) (l' := #[.val (.ref a), .val (.int p), .val (.int A), .val (.int (4 : Int32)), .val (.int (144 : Int32)), .val (.int (191 : Int32)), .unset, .unset, .unset]) rfl (q := 120) rfl ?_
              refine Go.goto X0 hx (hb hby d2_120) (q := 140) (by decide) (by decide) ?_
              refine Go.iloadN X0 hx (hb hby d2_140) rfl (q := 141) rfl ?_
              refine Go.iloadN X0 hx (hb hby d2_141) rfl (q := 142) rfl ?_
              refine Go.iadd X0 hx (hb hby d2_142) rfl (q := 143) rfl ?_
              refine Go.aloadN X0 hx (hb hby d2_143) rfl rfl (q := 144) rfl ?_
              refine Go.alen X0 hx hZ e0 Va (hb hby d2_144) ?_
              by_cases hc107 : n < (p + (4 : Int32))
              · have tc107 := (show (n).toInt < ((p + (4 : Int32))).toInt from own_lt hc107)
                refine Go.icmpNo X0 hx (hb hby d2_145) (Jvm.Free.XT.ii_le_f hc107) (q := 148) rfl ?_
                refine Go.iconst X0 hx (hb hby d2_148) (r := (0 : Int32)) rfl (q := 149) rfl ?_
                exact Go.retI X0 hx hret hlk (Or.inl rfl) rfl (hb hby d2_149) e0 (by decide) (by decide) ⟨by rw [show own_S ys n p = (0 : Int32) from by (simp only [own_S, hA]); exact own_T0 (by omega)], N0, rfl⟩
              · have tc107 := (show ¬ (n).toInt < ((p + (4 : Int32))).toInt from own_ltn hc107)
                refine Go.icmpYes X0 hx (hb hby d2_145) (Jvm.Free.XT.ii_le_t hc107) (q := 150) (by decide) (by decide) ?_
                refine Go.aloadN X0 hx (hb hby d2_150) rfl rfl (q := 151) rfl ?_
                refine Go.iloadN X0 hx (hb hby d2_151) rfl (q := 152) rfl ?_
                refine Go.iconst X0 hx (hb hby d2_152) (r := (1 : Int32)) rfl (q := 153) rfl ?_
                refine Go.iadd X0 hx (hb hby d2_153) rfl (q := 154) rfl ?_
                refine Go.bal X0 hx hZ e0 Va (own_in hn hp0 hp1 (1 : Int32) (by decide) (by decide) (show p.toInt + 1 < n.toInt by omega)) (v := (.int ((own_Y ys (p + (1 : Int32))).toInt8.toInt32))) (own_gb ys _) (hb hby d2_154) ?_
                refine Go.sipush X0 hx (hb hby d2_155) (r := (255 : Int32)) rfl (q := 158) rfl ?_
                refine Go.iand X0 hx (hb hby d2_158) rfl (q := 159) rfl ?_
                rw [own_b255 hys (p + (1 : Int32))]
                have bB := own_bd hys (p + (1 : Int32))
                generalize hB : (own_Y ys (p + (1 : Int32))) = B at bB ⊢
                show Go pp ee below _ (s₁.setTop (mkF mm 159 #[.val (.ref a), .val (.int p), .val (.int A), .val (.int (4 : Int32)), .val (.int (144 : Int32)), .val (.int (191 : Int32)), .unset, .unset, .unset] [(.int B)]))
                refine Go.istore X0 hx (hb hby d2_159) (l' := #[.val (.ref a), .val (.int p), .val (.int A), .val (.int (4 : Int32)), .val (.int (144 : Int32)), .val (.int (191 : Int32)), .val (.int B), .unset, .unset]) rfl (q := 161) rfl ?_
                refine Go.iload X0 hx (hb hby d2_161) rfl (q := 163) rfl ?_
                refine Go.iload X0 hx (hb hby d2_163) rfl (q := 165) rfl ?_
                by_cases hc108 : B < (144 : Int32)
                · have tc108 := (show (B).toInt < 144 from own_lt hc108)
                  refine Go.icmpYes X0 hx (hb hby d2_165) (Jvm.Free.XT.ii_lt_t hc108) (q := 175) (by decide) (by decide) ?_
                  refine Go.iconst X0 hx (hb hby d2_175) (r := (0 : Int32)) rfl (q := 176) rfl ?_
                  exact Go.retI X0 hx hret hlk (Or.inl rfl) rfl (hb hby d2_176) e0 (by decide) (by decide) ⟨by rw [show own_S ys n p = (0 : Int32) from by (simp only [own_S, hA, hB]); exact own_T0 (by omega)], N0, rfl⟩
                · have tc108 := (show ¬ (B).toInt < 144 from own_ltn hc108)
                  refine Go.icmpNo X0 hx (hb hby d2_165) (Jvm.Free.XT.ii_lt_f hc108) (q := 168) rfl ?_
                  refine Go.iload X0 hx (hb hby d2_168) rfl (q := 170) rfl ?_
                  refine Go.iload X0 hx (hb hby d2_170) rfl (q := 172) rfl ?_
                  by_cases hc109 : (191 : Int32) < B
                  · have tc109 := (show 191 < (B).toInt from own_lt hc109)
                    refine Go.icmpNo X0 hx (hb hby d2_172) (Jvm.Free.XT.ii_le_f hc109) (q := 175) rfl ?_
                    refine Go.iconst X0 hx (hb hby d2_175) (r := (0 : Int32)) rfl (q := 176) rfl ?_
                    exact Go.retI X0 hx hret hlk (Or.inl rfl) rfl (hb hby d2_176) e0 (by decide) (by decide) ⟨by rw [show own_S ys n p = (0 : Int32) from by (simp only [own_S, hA, hB]); exact own_T0 (by omega)], N0, rfl⟩
                  · have tc109 := (show ¬ 191 < (B).toInt from own_ltn hc109)
                    refine Go.icmpYes X0 hx (hb hby d2_172) (Jvm.Free.XT.ii_le_t hc109) (q := 177) (by decide) (by decide) ?_
                    refine Go.iloadN X0 hx (hb hby d2_177) rfl (q := 178) rfl ?_
                    refine Go.iconst X0 hx (hb hby d2_178) (r := (2 : Int32)) rfl (q := 179) rfl ?_
                    refine Go.iadd X0 hx (hb hby d2_179) rfl (q := 180) rfl ?_
                    refine Go.istore X0 hx (hb hby d2_180) (l' := #[.val (.ref a), .val (.int p), .val (.int A), .val (.int (4 : Int32)), .val (.int (144 : Int32)), .val (.int (191 : Int32)), .val (.int B), .val (.int (p + (2 : Int32))), .unset]) rfl (q := 182) rfl ?_
                    refine Go.iload X0 hx (hb hby d2_182) rfl (q := 184) rfl ?_
                    refine Go.iloadN X0 hx (hb hby d2_184) rfl (q := 185) rfl ?_
                    refine Go.iloadN X0 hx (hb hby d2_185) rfl (q := 186) rfl ?_
                    refine Go.iadd X0 hx (hb hby d2_186) rfl (q := 187) rfl ?_
                    refine Go.icmpNo X0 hx (hb hby d2_187) (Jvm.Free.XT.ii_ge_f (own_plt kp2 kp4 (by decide))) (q := 190) rfl ?_
                    refine Go.aloadN X0 hx (hb hby d2_190) rfl rfl (q := 191) rfl ?_
                    refine Go.iload X0 hx (hb hby d2_191) rfl (q := 193) rfl ?_
                    refine Go.bal X0 hx hZ e0 Va (own_in hn hp0 hp1 (2 : Int32) (by decide) (by decide) (show p.toInt + 2 < n.toInt by omega)) (v := (.int ((own_Y ys (p + (2 : Int32))).toInt8.toInt32))) (own_gb ys _) (hb hby d2_193) ?_
                    refine Go.sipush X0 hx (hb hby d2_194) (r := (255 : Int32)) rfl (q := 197) rfl ?_
                    refine Go.iand X0 hx (hb hby d2_197) rfl (q := 198) rfl ?_
                    rw [own_b255 hys (p + (2 : Int32))]
                    have bC := own_bd hys (p + (2 : Int32))
                    generalize hC : (own_Y ys (p + (2 : Int32))) = C at bC ⊢
                    show Go pp ee below _ (s₁.setTop (mkF mm 198 #[.val (.ref a), .val (.int p), .val (.int A), .val (.int (4 : Int32)), .val (.int (144 : Int32)), .val (.int (191 : Int32)), .val (.int B), .val (.int (p + (2 : Int32))), .unset] [(.int C)]))
                    refine Go.istore X0 hx (hb hby d2_198) (l' := #[.val (.ref a), .val (.int p), .val (.int A), .val (.int (4 : Int32)), .val (.int (144 : Int32)), .val (.int (191 : Int32)), .val (.int B), .val (.int (p + (2 : Int32))), .val (.int C)]) rfl (q := 200) rfl ?_
                    refine Go.iload X0 hx (hb hby d2_200) rfl (q := 202) rfl ?_
                    refine Go.sipush X0 hx (hb hby d2_202) (r := (128 : Int32)) rfl (q := 205) rfl ?_
                    by_cases hc110 : C < (128 : Int32)
                    · have tc110 := (show (C).toInt < 128 from own_lt hc110)
                      refine Go.icmpYes X0 hx (hb hby d2_205) (Jvm.Free.XT.ii_lt_t hc110) (q := 216) (by decide) (by decide) ?_
                      refine Go.iconst X0 hx (hb hby d2_216) (r := (0 : Int32)) rfl (q := 217) rfl ?_
                      exact Go.retI X0 hx hret hlk (Or.inl rfl) rfl (hb hby d2_217) e0 (by decide) (by decide) ⟨by rw [show own_S ys n p = (0 : Int32) from by (simp only [own_S, hA, hB, hC]); exact own_T0 (by omega)], N0, rfl⟩
                    · have tc110 := (show ¬ (C).toInt < 128 from own_ltn hc110)
                      refine Go.icmpNo X0 hx (hb hby d2_205) (Jvm.Free.XT.ii_lt_f hc110) (q := 208) rfl ?_
                      refine Go.iload X0 hx (hb hby d2_208) rfl (q := 210) rfl ?_
                      refine Go.sipush X0 hx (hb hby d2_210) (r := (191 : Int32)) rfl (q := 213) rfl ?_
                      by_cases hc111 : (191 : Int32) < C
                      · have tc111 := (show 191 < (C).toInt from own_lt hc111)
                        refine Go.icmpNo X0 hx (hb hby d2_213) (Jvm.Free.XT.ii_le_f hc111) (q := 216) rfl ?_
                        refine Go.iconst X0 hx (hb hby d2_216) (r := (0 : Int32)) rfl (q := 217) rfl ?_
                        exact Go.retI X0 hx hret hlk (Or.inl rfl) rfl (hb hby d2_217) e0 (by decide) (by decide) ⟨by rw [show own_S ys n p = (0 : Int32) from by (simp only [own_S, hA, hB, hC]); exact own_T0 (by omega)], N0, rfl⟩
                      · have tc111 := (show ¬ 191 < (C).toInt from own_ltn hc111)
                        refine Go.icmpYes X0 hx (hb hby d2_213) (Jvm.Free.XT.ii_le_t hc111) (q := 218) (by decide) (by decide) ?_
                        refine Go.iinc X0 hx (hb hby d2_218) rfl (r := ((p + (2 : Int32)) + (1 : Int32))) rfl (l' := #[.val (.ref a), .val (.int p), .val (.int A), .val (.int (4 : Int32)), .val (.int (144 : Int32)), .val (.int (191 : Int32)), .val (.int B), .val (.int ((p + (2 : Int32)) + (1 : Int32))), .val (.int C)]) rfl (q := 221) rfl ?_
                        refine Go.goto X0 hx (hb hby d2_221) (q := 182) (by decide) (by decide) ?_
                        rw [own_pp p (2 : Int32) (1 : Int32) (3 : Int32) rfl]
                        show Go pp ee below _ (s₁.setTop (mkF mm 182 #[.val (.ref a), .val (.int p), .val (.int A), .val (.int (4 : Int32)), .val (.int (144 : Int32)), .val (.int (191 : Int32)), .val (.int B), .val (.int (p + (3 : Int32))), .val (.int C)] []))
                        refine Go.iload X0 hx (hb hby d2_182) rfl (q := 184) rfl ?_
                        refine Go.iloadN X0 hx (hb hby d2_184) rfl (q := 185) rfl ?_
                        refine Go.iloadN X0 hx (hb hby d2_185) rfl (q := 186) rfl ?_
                        refine Go.iadd X0 hx (hb hby d2_186) rfl (q := 187) rfl ?_
                        refine Go.icmpNo X0 hx (hb hby d2_187) (Jvm.Free.XT.ii_ge_f (own_plt kp3 kp4 (by decide))) (q := 190) rfl ?_
                        refine Go.aloadN X0 hx (hb hby d2_190) rfl rfl (q := 191) rfl ?_
                        refine Go.iload X0 hx (hb hby d2_191) rfl (q := 193) rfl ?_
                        refine Go.bal X0 hx hZ e0 Va (own_in hn hp0 hp1 (3 : Int32) (by decide) (by decide) (show p.toInt + 3 < n.toInt by omega)) (v := (.int ((own_Y ys (p + (3 : Int32))).toInt8.toInt32))) (own_gb ys _) (hb hby d2_193) ?_
                        refine Go.sipush X0 hx (hb hby d2_194) (r := (255 : Int32)) rfl (q := 197) rfl ?_
                        refine Go.iand X0 hx (hb hby d2_197) rfl (q := 198) rfl ?_
                        rw [own_b255 hys (p + (3 : Int32))]
                        have bD := own_bd hys (p + (3 : Int32))
                        generalize hD : (own_Y ys (p + (3 : Int32))) = D at bD ⊢
                        show Go pp ee below _ (s₁.setTop (mkF mm 198 #[.val (.ref a), .val (.int p), .val (.int A), .val (.int (4 : Int32)), .val (.int (144 : Int32)), .val (.int (191 : Int32)), .val (.int B), .val (.int (p + (3 : Int32))), .val (.int C)] [(.int D)]))
                        refine Go.istore X0 hx (hb hby d2_198) (l' := #[.val (.ref a), .val (.int p), .val (.int A), .val (.int (4 : Int32)), .val (.int (144 : Int32)), .val (.int (191 : Int32)), .val (.int B), .val (.int (p + (3 : Int32))), .val (.int D)]) rfl (q := 200) rfl ?_
                        refine Go.iload X0 hx (hb hby d2_200) rfl (q := 202) rfl ?_
                        refine Go.sipush X0 hx (hb hby d2_202) (r := (128 : Int32)) rfl (q := 205) rfl ?_
                        by_cases hc112 : D < (128 : Int32)
                        · have tc112 := (show (D).toInt < 128 from own_lt hc112)
                          refine Go.icmpYes X0 hx (hb hby d2_205) (Jvm.Free.XT.ii_lt_t hc112) (q := 216) (by decide) (by decide) ?_
                          refine Go.iconst X0 hx (hb hby d2_216) (r := (0 : Int32)) rfl (q := 217) rfl ?_
                          exact Go.retI X0 hx hret hlk (Or.inl rfl) rfl (hb hby d2_217) e0 (by decide) (by decide) ⟨by rw [show own_S ys n p = (0 : Int32) from by (simp only [own_S, hA, hB, hC, hD]); exact own_T0 (by omega)], N0, rfl⟩
                        · have tc112 := (show ¬ (D).toInt < 128 from own_ltn hc112)
                          refine Go.icmpNo X0 hx (hb hby d2_205) (Jvm.Free.XT.ii_lt_f hc112) (q := 208) rfl ?_
                          refine Go.iload X0 hx (hb hby d2_208) rfl (q := 210) rfl ?_
                          refine Go.sipush X0 hx (hb hby d2_210) (r := (191 : Int32)) rfl (q := 213) rfl ?_
                          by_cases hc113 : (191 : Int32) < D
                          · have tc113 := (show 191 < (D).toInt from own_lt hc113)
                            refine Go.icmpNo X0 hx (hb hby d2_213) (Jvm.Free.XT.ii_le_f hc113) (q := 216) rfl ?_
                            refine Go.iconst X0 hx (hb hby d2_216) (r := (0 : Int32)) rfl (q := 217) rfl ?_
                            exact Go.retI X0 hx hret hlk (Or.inl rfl) rfl (hb hby d2_217) e0 (by decide) (by decide) ⟨by rw [show own_S ys n p = (0 : Int32) from by (simp only [own_S, hA, hB, hC, hD]); exact own_T0 (by omega)], N0, rfl⟩
                          · have tc113 := (show ¬ 191 < (D).toInt from own_ltn hc113)
                            refine Go.icmpYes X0 hx (hb hby d2_213) (Jvm.Free.XT.ii_le_t hc113) (q := 218) (by decide) (by decide) ?_
                            refine Go.iinc X0 hx (hb hby d2_218) rfl (r := ((p + (3 : Int32)) + (1 : Int32))) rfl (l' := #[.val (.ref a), .val (.int p), .val (.int A), .val (.int (4 : Int32)), .val (.int (144 : Int32)), .val (.int (191 : Int32)), .val (.int B), .val (.int ((p + (3 : Int32)) + (1 : Int32))), .val (.int D)]) rfl (q := 221) rfl ?_
                            refine Go.goto X0 hx (hb hby d2_221) (q := 182) (by decide) (by decide) ?_
                            rw [own_pp p (3 : Int32) (1 : Int32) (4 : Int32) rfl]
                            show Go pp ee below _ (s₁.setTop (mkF mm 182 #[.val (.ref a), .val (.int p), .val (.int A), .val (.int (4 : Int32)), .val (.int (144 : Int32)), .val (.int (191 : Int32)), .val (.int B), .val (.int (p + (4 : Int32))), .val (.int D)] []))
                            refine Go.iload X0 hx (hb hby d2_182) rfl (q := 184) rfl ?_
                            refine Go.iloadN X0 hx (hb hby d2_184) rfl (q := 185) rfl ?_
                            refine Go.iloadN X0 hx (hb hby d2_185) rfl (q := 186) rfl ?_
                            refine Go.iadd X0 hx (hb hby d2_186) rfl (q := 187) rfl ?_
                            refine Go.icmpYes X0 hx (hb hby d2_187) (Jvm.Free.XT.ii_ge_t (own_pnl kp4 kp4 (by decide))) (q := 224) (by decide) (by decide) ?_
                            refine Go.iloadN X0 hx (hb hby d2_224) rfl (q := 225) rfl ?_
                            exact Go.retI X0 hx hret hlk (Or.inl rfl) rfl (hb hby d2_225) e0 (by decide) (by decide) ⟨by rw [show own_S ys n p = (4 : Int32) from by (simp only [own_S, hA, hB, hC, hD]); exact own_T4 (by omega)], N0, rfl⟩
            · have tc106 := (show ¬ (A).toInt = 240 from own_eqn hc106)
              refine Go.icmpYes X0 hx (hb hby d2_112) (Jvm.Free.XT.ii_ne_t hc106) (q := 123) (by decide) (by decide) ?_
              refine Go.iloadN X0 hx (hb hby d2_123) rfl (q := 124) rfl ?_
              refine Go.sipush X0 hx (hb hby d2_124) (r := (244 : Int32)) rfl (q := 127) rfl ?_
              by_cases hc114 : A = (244 : Int32)
              · have tc114 := (show (A).toInt = 244 from own_eq hc114)
                refine Go.icmpNo X0 hx (hb hby d2_127) (Jvm.Free.XT.ii_ne_f hc114) (q := 130) rfl ?_
                refine Go.sipush X0 hx (hb hby d2_130) (r := (143 : Int32)) rfl (q := 133) rfl ?_
                refine Go.istore X0 hx (hb hby d2_133) (l' := #[.val (.ref a), .val (.int p), .val (.int A), .val (.int (4 : Int32)), .val (.int (128 : Int32)), .val (.int (143 : Int32)), .unset, .unset, .unset]) rfl (q := 135) rfl ?_
                refine Go.goto X0 hx (hb hby d2_135) (q := 140) (by decide) (by decide) ?_
                refine Go.iloadN X0 hx (hb hby d2_140) rfl (q := 141) rfl ?_
                refine Go.iloadN X0 hx (hb hby d2_141) rfl (q := 142) rfl ?_
                refine Go.iadd X0 hx (hb hby d2_142) rfl (q := 143) rfl ?_
                refine Go.aloadN X0 hx (hb hby d2_143) rfl rfl (q := 144) rfl ?_
                refine Go.alen X0 hx hZ e0 Va (hb hby d2_144) ?_
                by_cases hc115 : n < (p + (4 : Int32))
                · have tc115 := (show (n).toInt < ((p + (4 : Int32))).toInt from own_lt hc115)
                  refine Go.icmpNo X0 hx (hb hby d2_145) (Jvm.Free.XT.ii_le_f hc115) (q := 148) rfl ?_
                  refine Go.iconst X0 hx (hb hby d2_148) (r := (0 : Int32)) rfl (q := 149) rfl ?_
                  exact Go.retI X0 hx hret hlk (Or.inl rfl) rfl (hb hby d2_149) e0 (by decide) (by decide) ⟨by rw [show own_S ys n p = (0 : Int32) from by (simp only [own_S, hA]); exact own_T0 (by omega)], N0, rfl⟩
                · have tc115 := (show ¬ (n).toInt < ((p + (4 : Int32))).toInt from own_ltn hc115)
                  refine Go.icmpYes X0 hx (hb hby d2_145) (Jvm.Free.XT.ii_le_t hc115) (q := 150) (by decide) (by decide) ?_
                  refine Go.aloadN X0 hx (hb hby d2_150) rfl rfl (q := 151) rfl ?_
                  refine Go.iloadN X0 hx (hb hby d2_151) rfl (q := 152) rfl ?_
                  refine Go.iconst X0 hx (hb hby d2_152) (r := (1 : Int32)) rfl (q := 153) rfl ?_
                  refine Go.iadd X0 hx (hb hby d2_153) rfl (q := 154) rfl ?_
                  refine Go.bal X0 hx hZ e0 Va (own_in hn hp0 hp1 (1 : Int32) (by decide) (by decide) (show p.toInt + 1 < n.toInt by omega)) (v := (.int ((own_Y ys (p + (1 : Int32))).toInt8.toInt32))) (own_gb ys _) (hb hby d2_154) ?_
                  refine Go.sipush X0 hx (hb hby d2_155) (r := (255 : Int32)) rfl (q := 158) rfl ?_
                  refine Go.iand X0 hx (hb hby d2_158) rfl (q := 159) rfl ?_
                  rw [own_b255 hys (p + (1 : Int32))]
                  have bB := own_bd hys (p + (1 : Int32))
                  generalize hB : (own_Y ys (p + (1 : Int32))) = B at bB ⊢
                  show Go pp ee below _ (s₁.setTop (mkF mm 159 #[.val (.ref a), .val (.int p), .val (.int A), .val (.int (4 : Int32)), .val (.int (128 : Int32)), .val (.int (143 : Int32)), .unset, .unset, .unset] [(.int B)]))
                  refine Go.istore X0 hx (hb hby d2_159) (l' := #[.val (.ref a), .val (.int p), .val (.int A), .val (.int (4 : Int32)), .val (.int (128 : Int32)), .val (.int (143 : Int32)), .val (.int B), .unset, .unset]) rfl (q := 161) rfl ?_
                  refine Go.iload X0 hx (hb hby d2_161) rfl (q := 163) rfl ?_
                  refine Go.iload X0 hx (hb hby d2_163) rfl (q := 165) rfl ?_
                  by_cases hc116 : B < (128 : Int32)
                  · have tc116 := (show (B).toInt < 128 from own_lt hc116)
                    refine Go.icmpYes X0 hx (hb hby d2_165) (Jvm.Free.XT.ii_lt_t hc116) (q := 175) (by decide) (by decide) ?_
                    refine Go.iconst X0 hx (hb hby d2_175) (r := (0 : Int32)) rfl (q := 176) rfl ?_
                    exact Go.retI X0 hx hret hlk (Or.inl rfl) rfl (hb hby d2_176) e0 (by decide) (by decide) ⟨by rw [show own_S ys n p = (0 : Int32) from by (simp only [own_S, hA, hB]); exact own_T0 (by omega)], N0, rfl⟩
                  · have tc116 := (show ¬ (B).toInt < 128 from own_ltn hc116)
                    refine Go.icmpNo X0 hx (hb hby d2_165) (Jvm.Free.XT.ii_lt_f hc116) (q := 168) rfl ?_
                    refine Go.iload X0 hx (hb hby d2_168) rfl (q := 170) rfl ?_
                    refine Go.iload X0 hx (hb hby d2_170) rfl (q := 172) rfl ?_
                    by_cases hc117 : (143 : Int32) < B
                    · have tc117 := (show 143 < (B).toInt from own_lt hc117)
                      refine Go.icmpNo X0 hx (hb hby d2_172) (Jvm.Free.XT.ii_le_f hc117) (q := 175) rfl ?_
                      refine Go.iconst X0 hx (hb hby d2_175) (r := (0 : Int32)) rfl (q := 176) rfl ?_
                      exact Go.retI X0 hx hret hlk (Or.inl rfl) rfl (hb hby d2_176) e0 (by decide) (by decide) ⟨by rw [show own_S ys n p = (0 : Int32) from by (simp only [own_S, hA, hB]); exact own_T0 (by omega)], N0, rfl⟩
                    · have tc117 := (show ¬ 143 < (B).toInt from own_ltn hc117)
                      refine Go.icmpYes X0 hx (hb hby d2_172) (Jvm.Free.XT.ii_le_t hc117) (q := 177) (by decide) (by decide) ?_
                      refine Go.iloadN X0 hx (hb hby d2_177) rfl (q := 178) rfl ?_
                      refine Go.iconst X0 hx (hb hby d2_178) (r := (2 : Int32)) rfl (q := 179) rfl ?_
                      refine Go.iadd X0 hx (hb hby d2_179) rfl (q := 180) rfl ?_
                      refine Go.istore X0 hx (hb hby d2_180) (l' := #[.val (.ref a), .val (.int p), .val (.int A), .val (.int (4 : Int32)), .val (.int (128 : Int32)), .val (.int (143 : Int32)), .val (.int B), .val (.int (p + (2 : Int32))), .unset]) rfl (q := 182) rfl ?_
                      refine Go.iload X0 hx (hb hby d2_182) rfl (q := 184) rfl ?_
                      refine Go.iloadN X0 hx (hb hby d2_184) rfl (q := 185) rfl ?_
                      refine Go.iloadN X0 hx (hb hby d2_185) rfl (q := 186) rfl ?_
                      refine Go.iadd X0 hx (hb hby d2_186) rfl (q := 187) rfl ?_
                      refine Go.icmpNo X0 hx (hb hby d2_187) (Jvm.Free.XT.ii_ge_f (own_plt kp2 kp4 (by decide))) (q := 190) rfl ?_
                      refine Go.aloadN X0 hx (hb hby d2_190) rfl rfl (q := 191) rfl ?_
                      refine Go.iload X0 hx (hb hby d2_191) rfl (q := 193) rfl ?_
                      refine Go.bal X0 hx hZ e0 Va (own_in hn hp0 hp1 (2 : Int32) (by decide) (by decide) (show p.toInt + 2 < n.toInt by omega)) (v := (.int ((own_Y ys (p + (2 : Int32))).toInt8.toInt32))) (own_gb ys _) (hb hby d2_193) ?_
                      refine Go.sipush X0 hx (hb hby d2_194) (r := (255 : Int32)) rfl (q := 197) rfl ?_
                      refine Go.iand X0 hx (hb hby d2_197) rfl (q := 198) rfl ?_
                      rw [own_b255 hys (p + (2 : Int32))]
                      have bC := own_bd hys (p + (2 : Int32))
                      generalize hC : (own_Y ys (p + (2 : Int32))) = C at bC ⊢
                      show Go pp ee below _ (s₁.setTop (mkF mm 198 #[.val (.ref a), .val (.int p), .val (.int A), .val (.int (4 : Int32)), .val (.int (128 : Int32)), .val (.int (143 : Int32)), .val (.int B), .val (.int (p + (2 : Int32))), .unset] [(.int C)]))
                      refine Go.istore X0 hx (hb hby d2_198) (l' := #[.val (.ref a), .val (.int p), .val (.int A), .val (.int (4 : Int32)), .val (.int (128 : Int32)), .val (.int (143 : Int32)), .val (.int B), .val (.int (p + (2 : Int32))), .val (.int C)]) rfl (q := 200) rfl ?_
                      refine Go.iload X0 hx (hb hby d2_200) rfl (q := 202) rfl ?_
                      refine Go.sipush X0 hx (hb hby d2_202) (r := (128 : Int32)) rfl (q := 205) rfl ?_
                      by_cases hc118 : C < (128 : Int32)
                      · have tc118 := (show (C).toInt < 128 from own_lt hc118)
                        refine Go.icmpYes X0 hx (hb hby d2_205) (Jvm.Free.XT.ii_lt_t hc118) (q := 216) (by decide) (by decide) ?_
                        refine Go.iconst X0 hx (hb hby d2_216) (r := (0 : Int32)) rfl (q := 217) rfl ?_
                        exact Go.retI X0 hx hret hlk (Or.inl rfl) rfl (hb hby d2_217) e0 (by decide) (by decide) ⟨by rw [show own_S ys n p = (0 : Int32) from by (simp only [own_S, hA, hB, hC]); exact own_T0 (by omega)], N0, rfl⟩
                      · have tc118 := (show ¬ (C).toInt < 128 from own_ltn hc118)
                        refine Go.icmpNo X0 hx (hb hby d2_205) (Jvm.Free.XT.ii_lt_f hc118) (q := 208) rfl ?_
                        refine Go.iload X0 hx (hb hby d2_208) rfl (q := 210) rfl ?_
                        refine Go.sipush X0 hx (hb hby d2_210) (r := (191 : Int32)) rfl (q := 213) rfl ?_
                        by_cases hc119 : (191 : Int32) < C
                        · have tc119 := (show 191 < (C).toInt from own_lt hc119)
                          refine Go.icmpNo X0 hx (hb hby d2_213) (Jvm.Free.XT.ii_le_f hc119) (q := 216) rfl ?_
                          refine Go.iconst X0 hx (hb hby d2_216) (r := (0 : Int32)) rfl (q := 217) rfl ?_
                          exact Go.retI X0 hx hret hlk (Or.inl rfl) rfl (hb hby d2_217) e0 (by decide) (by decide) ⟨by rw [show own_S ys n p = (0 : Int32) from by (simp only [own_S, hA, hB, hC]); exact own_T0 (by omega)], N0, rfl⟩
                        · have tc119 := (show ¬ 191 < (C).toInt from own_ltn hc119)
                          refine Go.icmpYes X0 hx (hb hby d2_213) (Jvm.Free.XT.ii_le_t hc119) (q := 218) (by decide) (by decide) ?_
                          refine Go.iinc X0 hx (hb hby d2_218) rfl (r := ((p + (2 : Int32)) + (1 : Int32))) rfl (l' := #[.val (.ref a), .val (.int p), .val (.int A), .val (.int (4 : Int32)), .val (.int (128 : Int32)), .val (.int (143 : Int32)), .val (.int B), .val (.int ((p + (2 : Int32)) + (1 : Int32))), .val (.int C)]) rfl (q := 221) rfl ?_
                          refine Go.goto X0 hx (hb hby d2_221) (q := 182) (by decide) (by decide) ?_
                          rw [own_pp p (2 : Int32) (1 : Int32) (3 : Int32) rfl]
                          show Go pp ee below _ (s₁.setTop (mkF mm 182 #[.val (.ref a), .val (.int p), .val (.int A), .val (.int (4 : Int32)), .val (.int (128 : Int32)), .val (.int (143 : Int32)), .val (.int B), .val (.int (p + (3 : Int32))), .val (.int C)] []))
                          refine Go.iload X0 hx (hb hby d2_182) rfl (q := 184) rfl ?_
                          refine Go.iloadN X0 hx (hb hby d2_184) rfl (q := 185) rfl ?_
                          refine Go.iloadN X0 hx (hb hby d2_185) rfl (q := 186) rfl ?_
                          refine Go.iadd X0 hx (hb hby d2_186) rfl (q := 187) rfl ?_
                          refine Go.icmpNo X0 hx (hb hby d2_187) (Jvm.Free.XT.ii_ge_f (own_plt kp3 kp4 (by decide))) (q := 190) rfl ?_
                          refine Go.aloadN X0 hx (hb hby d2_190) rfl rfl (q := 191) rfl ?_
                          refine Go.iload X0 hx (hb hby d2_191) rfl (q := 193) rfl ?_
                          refine Go.bal X0 hx hZ e0 Va (own_in hn hp0 hp1 (3 : Int32) (by decide) (by decide) (show p.toInt + 3 < n.toInt by omega)) (v := (.int ((own_Y ys (p + (3 : Int32))).toInt8.toInt32))) (own_gb ys _) (hb hby d2_193) ?_
                          refine Go.sipush X0 hx (hb hby d2_194) (r := (255 : Int32)) rfl (q := 197) rfl ?_
                          refine Go.iand X0 hx (hb hby d2_197) rfl (q := 198) rfl ?_
                          rw [own_b255 hys (p + (3 : Int32))]
                          have bD := own_bd hys (p + (3 : Int32))
                          generalize hD : (own_Y ys (p + (3 : Int32))) = D at bD ⊢
                          show Go pp ee below _ (s₁.setTop (mkF mm 198 #[.val (.ref a), .val (.int p), .val (.int A), .val (.int (4 : Int32)), .val (.int (128 : Int32)), .val (.int (143 : Int32)), .val (.int B), .val (.int (p + (3 : Int32))), .val (.int C)] [(.int D)]))
                          refine Go.istore X0 hx (hb hby d2_198) (l' := #[.val (.ref a), .val (.int p), .val (.int A), .val (.int (4 : Int32)), .val (.int (128 : Int32)), .val (.int (143 : Int32)), .val (.int B), .val (.int (p + (3 : Int32))), .val (.int D)]) rfl (q := 200) rfl ?_
                          refine Go.iload X0 hx (hb hby d2_200) rfl (q := 202) rfl ?_
                          refine Go.sipush X0 hx (hb hby d2_202) (r := (128 : Int32)) rfl (q := 205) rfl ?_
                          by_cases hc120 : D < (128 : Int32)
                          · have tc120 := (show (D).toInt < 128 from own_lt hc120)
                            refine Go.icmpYes X0 hx (hb hby d2_205) (Jvm.Free.XT.ii_lt_t hc120) (q := 216) (by decide) (by decide) ?_
                            refine Go.iconst X0 hx (hb hby d2_216) (r := (0 : Int32)) rfl (q := 217) rfl ?_
                            exact Go.retI X0 hx hret hlk (Or.inl rfl) rfl (hb hby d2_217) e0 (by decide) (by decide) ⟨by rw [show own_S ys n p = (0 : Int32) from by (simp only [own_S, hA, hB, hC, hD]); exact own_T0 (by omega)], N0, rfl⟩
                          · have tc120 := (show ¬ (D).toInt < 128 from own_ltn hc120)
                            refine Go.icmpNo X0 hx (hb hby d2_205) (Jvm.Free.XT.ii_lt_f hc120) (q := 208) rfl ?_
                            refine Go.iload X0 hx (hb hby d2_208) rfl (q := 210) rfl ?_
                            refine Go.sipush X0 hx (hb hby d2_210) (r := (191 : Int32)) rfl (q := 213) rfl ?_
                            by_cases hc121 : (191 : Int32) < D
                            · have tc121 := (show 191 < (D).toInt from own_lt hc121)
                              refine Go.icmpNo X0 hx (hb hby d2_213) (Jvm.Free.XT.ii_le_f hc121) (q := 216) rfl ?_
                              refine Go.iconst X0 hx (hb hby d2_216) (r := (0 : Int32)) rfl (q := 217) rfl ?_
                              exact Go.retI X0 hx hret hlk (Or.inl rfl) rfl (hb hby d2_217) e0 (by decide) (by decide) ⟨by rw [show own_S ys n p = (0 : Int32) from by (simp only [own_S, hA, hB, hC, hD]); exact own_T0 (by omega)], N0, rfl⟩
                            · have tc121 := (show ¬ 191 < (D).toInt from own_ltn hc121)
                              refine Go.icmpYes X0 hx (hb hby d2_213) (Jvm.Free.XT.ii_le_t hc121) (q := 218) (by decide) (by decide) ?_
                              refine Go.iinc X0 hx (hb hby d2_218) rfl (r := ((p + (3 : Int32)) + (1 : Int32))) rfl (l' := #[.val (.ref a), .val (.int p), .val (.int A), .val (.int (4 : Int32)), .val (.int (128 : Int32)), .val (.int (143 : Int32)), .val (.int B), .val (.int ((p + (3 : Int32)) + (1 : Int32))), .val (.int D)]) rfl (q := 221) rfl ?_
                              refine Go.goto X0 hx (hb hby d2_221) (q := 182) (by decide) (by decide) ?_
                              rw [own_pp p (3 : Int32) (1 : Int32) (4 : Int32) rfl]
                              show Go pp ee below _ (s₁.setTop (mkF mm 182 #[.val (.ref a), .val (.int p), .val (.int A), .val (.int (4 : Int32)), .val (.int (128 : Int32)), .val (.int (143 : Int32)), .val (.int B), .val (.int (p + (4 : Int32))), .val (.int D)] []))
                              refine Go.iload X0 hx (hb hby d2_182) rfl (q := 184) rfl ?_
                              refine Go.iloadN X0 hx (hb hby d2_184) rfl (q := 185) rfl ?_
                              refine Go.iloadN X0 hx (hb hby d2_185) rfl (q := 186) rfl ?_
                              refine Go.iadd X0 hx (hb hby d2_186) rfl (q := 187) rfl ?_
                              refine Go.icmpYes X0 hx (hb hby d2_187) (Jvm.Free.XT.ii_ge_t (own_pnl kp4 kp4 (by decide))) (q := 224) (by decide) (by decide) ?_
                              refine Go.iloadN X0 hx (hb hby d2_224) rfl (q := 225) rfl ?_
                              exact Go.retI X0 hx hret hlk (Or.inl rfl) rfl (hb hby d2_225) e0 (by decide) (by decide) ⟨by rw [show own_S ys n p = (4 : Int32) from by (simp only [own_S, hA, hB, hC, hD]); exact own_T4 (by omega)], N0, rfl⟩
              · have tc114 := (show ¬ (A).toInt = 244 from own_eqn hc114)
                refine Go.icmpYes X0 hx (hb hby d2_127) (Jvm.Free.XT.ii_ne_t hc114) (q := 140) (by decide) (by decide) ?_
                refine Go.iloadN X0 hx (hb hby d2_140) rfl (q := 141) rfl ?_
                refine Go.iloadN X0 hx (hb hby d2_141) rfl (q := 142) rfl ?_
                refine Go.iadd X0 hx (hb hby d2_142) rfl (q := 143) rfl ?_
                refine Go.aloadN X0 hx (hb hby d2_143) rfl rfl (q := 144) rfl ?_
                refine Go.alen X0 hx hZ e0 Va (hb hby d2_144) ?_
                by_cases hc122 : n < (p + (4 : Int32))
                · have tc122 := (show (n).toInt < ((p + (4 : Int32))).toInt from own_lt hc122)
                  refine Go.icmpNo X0 hx (hb hby d2_145) (Jvm.Free.XT.ii_le_f hc122) (q := 148) rfl ?_
                  refine Go.iconst X0 hx (hb hby d2_148) (r := (0 : Int32)) rfl (q := 149) rfl ?_
                  exact Go.retI X0 hx hret hlk (Or.inl rfl) rfl (hb hby d2_149) e0 (by decide) (by decide) ⟨by rw [show own_S ys n p = (0 : Int32) from by (simp only [own_S, hA]); exact own_T0 (by omega)], N0, rfl⟩
                · have tc122 := (show ¬ (n).toInt < ((p + (4 : Int32))).toInt from own_ltn hc122)
                  refine Go.icmpYes X0 hx (hb hby d2_145) (Jvm.Free.XT.ii_le_t hc122) (q := 150) (by decide) (by decide) ?_
                  refine Go.aloadN X0 hx (hb hby d2_150) rfl rfl (q := 151) rfl ?_
                  refine Go.iloadN X0 hx (hb hby d2_151) rfl (q := 152) rfl ?_
                  refine Go.iconst X0 hx (hb hby d2_152) (r := (1 : Int32)) rfl (q := 153) rfl ?_
                  refine Go.iadd X0 hx (hb hby d2_153) rfl (q := 154) rfl ?_
                  refine Go.bal X0 hx hZ e0 Va (own_in hn hp0 hp1 (1 : Int32) (by decide) (by decide) (show p.toInt + 1 < n.toInt by omega)) (v := (.int ((own_Y ys (p + (1 : Int32))).toInt8.toInt32))) (own_gb ys _) (hb hby d2_154) ?_
                  refine Go.sipush X0 hx (hb hby d2_155) (r := (255 : Int32)) rfl (q := 158) rfl ?_
                  refine Go.iand X0 hx (hb hby d2_158) rfl (q := 159) rfl ?_
                  rw [own_b255 hys (p + (1 : Int32))]
                  have bB := own_bd hys (p + (1 : Int32))
                  generalize hB : (own_Y ys (p + (1 : Int32))) = B at bB ⊢
                  show Go pp ee below _ (s₁.setTop (mkF mm 159 #[.val (.ref a), .val (.int p), .val (.int A), .val (.int (4 : Int32)), .val (.int (128 : Int32)), .val (.int (191 : Int32)), .unset, .unset, .unset] [(.int B)]))
                  refine Go.istore X0 hx (hb hby d2_159) (l' := #[.val (.ref a), .val (.int p), .val (.int A), .val (.int (4 : Int32)), .val (.int (128 : Int32)), .val (.int (191 : Int32)), .val (.int B), .unset, .unset]) rfl (q := 161) rfl ?_
                  refine Go.iload X0 hx (hb hby d2_161) rfl (q := 163) rfl ?_
                  refine Go.iload X0 hx (hb hby d2_163) rfl (q := 165) rfl ?_
                  by_cases hc123 : B < (128 : Int32)
                  · have tc123 := (show (B).toInt < 128 from own_lt hc123)
                    refine Go.icmpYes X0 hx (hb hby d2_165) (Jvm.Free.XT.ii_lt_t hc123) (q := 175) (by decide) (by decide) ?_
                    refine Go.iconst X0 hx (hb hby d2_175) (r := (0 : Int32)) rfl (q := 176) rfl ?_
                    exact Go.retI X0 hx hret hlk (Or.inl rfl) rfl (hb hby d2_176) e0 (by decide) (by decide) ⟨by rw [show own_S ys n p = (0 : Int32) from by (simp only [own_S, hA, hB]); exact own_T0 (by omega)], N0, rfl⟩
                  · have tc123 := (show ¬ (B).toInt < 128 from own_ltn hc123)
                    refine Go.icmpNo X0 hx (hb hby d2_165) (Jvm.Free.XT.ii_lt_f hc123) (q := 168) rfl ?_
                    refine Go.iload X0 hx (hb hby d2_168) rfl (q := 170) rfl ?_
                    refine Go.iload X0 hx (hb hby d2_170) rfl (q := 172) rfl ?_
                    by_cases hc124 : (191 : Int32) < B
                    · have tc124 := (show 191 < (B).toInt from own_lt hc124)
                      refine Go.icmpNo X0 hx (hb hby d2_172) (Jvm.Free.XT.ii_le_f hc124) (q := 175) rfl ?_
                      refine Go.iconst X0 hx (hb hby d2_175) (r := (0 : Int32)) rfl (q := 176) rfl ?_
                      exact Go.retI X0 hx hret hlk (Or.inl rfl) rfl (hb hby d2_176) e0 (by decide) (by decide) ⟨by rw [show own_S ys n p = (0 : Int32) from by (simp only [own_S, hA, hB]); exact own_T0 (by omega)], N0, rfl⟩
                    · have tc124 := (show ¬ 191 < (B).toInt from own_ltn hc124)
                      refine Go.icmpYes X0 hx (hb hby d2_172) (Jvm.Free.XT.ii_le_t hc124) (q := 177) (by decide) (by decide) ?_
                      refine Go.iloadN X0 hx (hb hby d2_177) rfl (q := 178) rfl ?_
                      refine Go.iconst X0 hx (hb hby d2_178) (r := (2 : Int32)) rfl (q := 179) rfl ?_
                      refine Go.iadd X0 hx (hb hby d2_179) rfl (q := 180) rfl ?_
                      refine Go.istore X0 hx (hb hby d2_180) (l' := #[.val (.ref a), .val (.int p), .val (.int A), .val (.int (4 : Int32)), .val (.int (128 : Int32)), .val (.int (191 : Int32)), .val (.int B), .val (.int (p + (2 : Int32))), .unset]) rfl (q := 182) rfl ?_
                      refine Go.iload X0 hx (hb hby d2_182) rfl (q := 184) rfl ?_
                      refine Go.iloadN X0 hx (hb hby d2_184) rfl (q := 185) rfl ?_
                      refine Go.iloadN X0 hx (hb hby d2_185) rfl (q := 186) rfl ?_
                      refine Go.iadd X0 hx (hb hby d2_186) rfl (q := 187) rfl ?_
                      refine Go.icmpNo X0 hx (hb hby d2_187) (Jvm.Free.XT.ii_ge_f (own_plt kp2 kp4 (by decide))) (q := 190) rfl ?_
                      refine Go.aloadN X0 hx (hb hby d2_190) rfl rfl (q := 191) rfl ?_
                      refine Go.iload X0 hx (hb hby d2_191) rfl (q := 193) rfl ?_
                      refine Go.bal X0 hx hZ e0 Va (own_in hn hp0 hp1 (2 : Int32) (by decide) (by decide) (show p.toInt + 2 < n.toInt by omega)) (v := (.int ((own_Y ys (p + (2 : Int32))).toInt8.toInt32))) (own_gb ys _) (hb hby d2_193) ?_
                      refine Go.sipush X0 hx (hb hby d2_194) (r := (255 : Int32)) rfl (q := 197) rfl ?_
                      refine Go.iand X0 hx (hb hby d2_197) rfl (q := 198) rfl ?_
                      rw [own_b255 hys (p + (2 : Int32))]
                      have bC := own_bd hys (p + (2 : Int32))
                      generalize hC : (own_Y ys (p + (2 : Int32))) = C at bC ⊢
                      show Go pp ee below _ (s₁.setTop (mkF mm 198 #[.val (.ref a), .val (.int p), .val (.int A), .val (.int (4 : Int32)), .val (.int (128 : Int32)), .val (.int (191 : Int32)), .val (.int B), .val (.int (p + (2 : Int32))), .unset] [(.int C)]))
                      refine Go.istore X0 hx (hb hby d2_198) (l' := #[.val (.ref a), .val (.int p), .val (.int A), .val (.int (4 : Int32)), .val (.int (128 : Int32)), .val (.int (191 : Int32)), .val (.int B), .val (.int (p + (2 : Int32))), .val (.int C)]) rfl (q := 200) rfl ?_
                      refine Go.iload X0 hx (hb hby d2_200) rfl (q := 202) rfl ?_
                      refine Go.sipush X0 hx (hb hby d2_202) (r := (128 : Int32)) rfl (q := 205) rfl ?_
                      by_cases hc125 : C < (128 : Int32)
                      · have tc125 := (show (C).toInt < 128 from own_lt hc125)
                        refine Go.icmpYes X0 hx (hb hby d2_205) (Jvm.Free.XT.ii_lt_t hc125) (q := 216) (by decide) (by decide) ?_
                        refine Go.iconst X0 hx (hb hby d2_216) (r := (0 : Int32)) rfl (q := 217) rfl ?_
                        exact Go.retI X0 hx hret hlk (Or.inl rfl) rfl (hb hby d2_217) e0 (by decide) (by decide) ⟨by rw [show own_S ys n p = (0 : Int32) from by (simp only [own_S, hA, hB, hC]); exact own_T0 (by omega)], N0, rfl⟩
                      · have tc125 := (show ¬ (C).toInt < 128 from own_ltn hc125)
                        refine Go.icmpNo X0 hx (hb hby d2_205) (Jvm.Free.XT.ii_lt_f hc125) (q := 208) rfl ?_
                        refine Go.iload X0 hx (hb hby d2_208) rfl (q := 210) rfl ?_
                        refine Go.sipush X0 hx (hb hby d2_210) (r := (191 : Int32)) rfl (q := 213) rfl ?_
                        by_cases hc126 : (191 : Int32) < C
                        · have tc126 := (show 191 < (C).toInt from own_lt hc126)
                          refine Go.icmpNo X0 hx (hb hby d2_213) (Jvm.Free.XT.ii_le_f hc126) (q := 216) rfl ?_
                          refine Go.iconst X0 hx (hb hby d2_216) (r := (0 : Int32)) rfl (q := 217) rfl ?_
                          exact Go.retI X0 hx hret hlk (Or.inl rfl) rfl (hb hby d2_217) e0 (by decide) (by decide) ⟨by rw [show own_S ys n p = (0 : Int32) from by (simp only [own_S, hA, hB, hC]); exact own_T0 (by omega)], N0, rfl⟩
                        · have tc126 := (show ¬ 191 < (C).toInt from own_ltn hc126)
                          refine Go.icmpYes X0 hx (hb hby d2_213) (Jvm.Free.XT.ii_le_t hc126) (q := 218) (by decide) (by decide) ?_
                          refine Go.iinc X0 hx (hb hby d2_218) rfl (r := ((p + (2 : Int32)) + (1 : Int32))) rfl (l' := #[.val (.ref a), .val (.int p), .val (.int A), .val (.int (4 : Int32)), .val (.int (128 : Int32)), .val (.int (191 : Int32)), .val (.int B), .val (.int ((p + (2 : Int32)) + (1 : Int32))), .val (.int C)]) rfl (q := 221) rfl ?_
                          refine Go.goto X0 hx (hb hby d2_221) (q := 182) (by decide) (by decide) ?_
                          rw [own_pp p (2 : Int32) (1 : Int32) (3 : Int32) rfl]
                          show Go pp ee below _ (s₁.setTop (mkF mm 182 #[.val (.ref a), .val (.int p), .val (.int A), .val (.int (4 : Int32)), .val (.int (128 : Int32)), .val (.int (191 : Int32)), .val (.int B), .val (.int (p + (3 : Int32))), .val (.int C)] []))
                          refine Go.iload X0 hx (hb hby d2_182) rfl (q := 184) rfl ?_
                          refine Go.iloadN X0 hx (hb hby d2_184) rfl (q := 185) rfl ?_
                          refine Go.iloadN X0 hx (hb hby d2_185) rfl (q := 186) rfl ?_
                          refine Go.iadd X0 hx (hb hby d2_186) rfl (q := 187) rfl ?_
                          refine Go.icmpNo X0 hx (hb hby d2_187) (Jvm.Free.XT.ii_ge_f (own_plt kp3 kp4 (by decide))) (q := 190) rfl ?_
                          refine Go.aloadN X0 hx (hb hby d2_190) rfl rfl (q := 191) rfl ?_
                          refine Go.iload X0 hx (hb hby d2_191) rfl (q := 193) rfl ?_
                          refine Go.bal X0 hx hZ e0 Va (own_in hn hp0 hp1 (3 : Int32) (by decide) (by decide) (show p.toInt + 3 < n.toInt by omega)) (v := (.int ((own_Y ys (p + (3 : Int32))).toInt8.toInt32))) (own_gb ys _) (hb hby d2_193) ?_
                          refine Go.sipush X0 hx (hb hby d2_194) (r := (255 : Int32)) rfl (q := 197) rfl ?_
                          refine Go.iand X0 hx (hb hby d2_197) rfl (q := 198) rfl ?_
                          rw [own_b255 hys (p + (3 : Int32))]
                          have bD := own_bd hys (p + (3 : Int32))
                          generalize hD : (own_Y ys (p + (3 : Int32))) = D at bD ⊢
                          show Go pp ee below _ (s₁.setTop (mkF mm 198 #[.val (.ref a), .val (.int p), .val (.int A), .val (.int (4 : Int32)), .val (.int (128 : Int32)), .val (.int (191 : Int32)), .val (.int B), .val (.int (p + (3 : Int32))), .val (.int C)] [(.int D)]))
                          refine Go.istore X0 hx (hb hby d2_198) (l' := #[.val (.ref a), .val (.int p), .val (.int A), .val (.int (4 : Int32)), .val (.int (128 : Int32)), .val (.int (191 : Int32)), .val (.int B), .val (.int (p + (3 : Int32))), .val (.int D)]) rfl (q := 200) rfl ?_
                          refine Go.iload X0 hx (hb hby d2_200) rfl (q := 202) rfl ?_
                          refine Go.sipush X0 hx (hb hby d2_202) (r := (128 : Int32)) rfl (q := 205) rfl ?_
                          by_cases hc127 : D < (128 : Int32)
                          · have tc127 := (show (D).toInt < 128 from own_lt hc127)
                            refine Go.icmpYes X0 hx (hb hby d2_205) (Jvm.Free.XT.ii_lt_t hc127) (q := 216) (by decide) (by decide) ?_
                            refine Go.iconst X0 hx (hb hby d2_216) (r := (0 : Int32)) rfl (q := 217) rfl ?_
                            exact Go.retI X0 hx hret hlk (Or.inl rfl) rfl (hb hby d2_217) e0 (by decide) (by decide) ⟨by rw [show own_S ys n p = (0 : Int32) from by (simp only [own_S, hA, hB, hC, hD]); exact own_T0 (by omega)], N0, rfl⟩
                          · have tc127 := (show ¬ (D).toInt < 128 from own_ltn hc127)
                            refine Go.icmpNo X0 hx (hb hby d2_205) (Jvm.Free.XT.ii_lt_f hc127) (q := 208) rfl ?_
                            refine Go.iload X0 hx (hb hby d2_208) rfl (q := 210) rfl ?_
                            refine Go.sipush X0 hx (hb hby d2_210) (r := (191 : Int32)) rfl (q := 213) rfl ?_
                            by_cases hc128 : (191 : Int32) < D
                            · have tc128 := (show 191 < (D).toInt from own_lt hc128)
                              refine Go.icmpNo X0 hx (hb hby d2_213) (Jvm.Free.XT.ii_le_f hc128) (q := 216) rfl ?_
                              refine Go.iconst X0 hx (hb hby d2_216) (r := (0 : Int32)) rfl (q := 217) rfl ?_
                              exact Go.retI X0 hx hret hlk (Or.inl rfl) rfl (hb hby d2_217) e0 (by decide) (by decide) ⟨by rw [show own_S ys n p = (0 : Int32) from by (simp only [own_S, hA, hB, hC, hD]); exact own_T0 (by omega)], N0, rfl⟩
                            · have tc128 := (show ¬ 191 < (D).toInt from own_ltn hc128)
                              refine Go.icmpYes X0 hx (hb hby d2_213) (Jvm.Free.XT.ii_le_t hc128) (q := 218) (by decide) (by decide) ?_
                              refine Go.iinc X0 hx (hb hby d2_218) rfl (r := ((p + (3 : Int32)) + (1 : Int32))) rfl (l' := #[.val (.ref a), .val (.int p), .val (.int A), .val (.int (4 : Int32)), .val (.int (128 : Int32)), .val (.int (191 : Int32)), .val (.int B), .val (.int ((p + (3 : Int32)) + (1 : Int32))), .val (.int D)]) rfl (q := 221) rfl ?_
                              refine Go.goto X0 hx (hb hby d2_221) (q := 182) (by decide) (by decide) ?_
                              rw [own_pp p (3 : Int32) (1 : Int32) (4 : Int32) rfl]
                              show Go pp ee below _ (s₁.setTop (mkF mm 182 #[.val (.ref a), .val (.int p), .val (.int A), .val (.int (4 : Int32)), .val (.int (128 : Int32)), .val (.int (191 : Int32)), .val (.int B), .val (.int (p + (4 : Int32))), .val (.int D)] []))
                              refine Go.iload X0 hx (hb hby d2_182) rfl (q := 184) rfl ?_
                              refine Go.iloadN X0 hx (hb hby d2_184) rfl (q := 185) rfl ?_
                              refine Go.iloadN X0 hx (hb hby d2_185) rfl (q := 186) rfl ?_
                              refine Go.iadd X0 hx (hb hby d2_186) rfl (q := 187) rfl ?_
                              refine Go.icmpYes X0 hx (hb hby d2_187) (Jvm.Free.XT.ii_ge_t (own_pnl kp4 kp4 (by decide))) (q := 224) (by decide) (by decide) ?_
                              refine Go.iloadN X0 hx (hb hby d2_224) rfl (q := 225) rfl ?_
                              exact Go.retI X0 hx hret hlk (Or.inl rfl) rfl (hb hby d2_225) e0 (by decide) (by decide) ⟨by rw [show own_S ys n p = (4 : Int32) from by (simp only [own_S, hA, hB, hC, hD]); exact own_T4 (by omega)], N0, rfl⟩
      · have tc103 := (show ¬ (A).toInt < 224 from own_ltn hc103)
        refine Go.icmpNo X0 hx (hb hby d2_50) (Jvm.Free.XT.ii_lt_f hc103) (q := 53) rfl ?_
        refine Go.iloadN X0 hx (hb hby d2_53) rfl (q := 54) rfl ?_
        refine Go.sipush X0 hx (hb hby d2_54) (r := (239 : Int32)) rfl (q := 57) rfl ?_
        by_cases hc129 : (239 : Int32) < A
        · have tc129 := (show 239 < (A).toInt from own_lt hc129)
          refine Go.icmpYes X0 hx (hb hby d2_57) (Jvm.Free.XT.ii_gt_t hc129) (q := 92) (by decide) (by decide) ?_
          refine Go.iloadN X0 hx (hb hby d2_92) rfl (q := 93) rfl ?_
          refine Go.sipush X0 hx (hb hby d2_93) (r := (240 : Int32)) rfl (q := 96) rfl ?_
          by_cases hc130 : A < (240 : Int32)
          · have tc130 := (show (A).toInt < 240 from own_lt hc130)
            refine Go.icmpYes X0 hx (hb hby d2_96) (Jvm.Free.XT.ii_lt_t hc130) (q := 138) (by decide) (by decide) ?_
            refine Go.iconst X0 hx (hb hby d2_138) (r := (0 : Int32)) rfl (q := 139) rfl ?_
            exact Go.retI X0 hx hret hlk (Or.inl rfl) rfl (hb hby d2_139) e0 (by decide) (by decide) ⟨by rw [show own_S ys n p = (0 : Int32) from by (simp only [own_S, hA]); exact own_T0 (by omega)], N0, rfl⟩
          · have tc130 := (show ¬ (A).toInt < 240 from own_ltn hc130)
            refine Go.icmpNo X0 hx (hb hby d2_96) (Jvm.Free.XT.ii_lt_f hc130) (q := 99) rfl ?_
            refine Go.iloadN X0 hx (hb hby d2_99) rfl (q := 100) rfl ?_
            refine Go.sipush X0 hx (hb hby d2_100) (r := (244 : Int32)) rfl (q := 103) rfl ?_
            by_cases hc131 : (244 : Int32) < A
            · have tc131 := (show 244 < (A).toInt from own_lt hc131)
              refine Go.icmpYes X0 hx (hb hby d2_103) (Jvm.Free.XT.ii_gt_t hc131) (q := 138) (by decide) (by decide) ?_
              refine Go.iconst X0 hx (hb hby d2_138) (r := (0 : Int32)) rfl (q := 139) rfl ?_
              exact Go.retI X0 hx hret hlk (Or.inl rfl) rfl (hb hby d2_139) e0 (by decide) (by decide) ⟨by rw [show own_S ys n p = (0 : Int32) from by (simp only [own_S, hA]); exact own_T0 (by omega)], N0, rfl⟩
            · have tc131 := (show ¬ 244 < (A).toInt from own_ltn hc131)
              refine Go.icmpNo X0 hx (hb hby d2_103) (Jvm.Free.XT.ii_gt_f hc131) (q := 106) rfl ?_
              refine Go.iconst X0 hx (hb hby d2_106) (r := (4 : Int32)) rfl (q := 107) rfl ?_
              refine Go.istoreN X0 hx (hb hby d2_107) (l' := #[.val (.ref a), .val (.int p), .val (.int A), .val (.int (4 : Int32)), .val (.int (128 : Int32)), .val (.int (191 : Int32)), .unset, .unset, .unset]) rfl (q := 108) rfl ?_
              refine Go.iloadN X0 hx (hb hby d2_108) rfl (q := 109) rfl ?_
              refine Go.sipush X0 hx (hb hby d2_109) (r := (240 : Int32)) rfl (q := 112) rfl ?_
              by_cases hc132 : A = (240 : Int32)
              · have tc132 := (show (A).toInt = 240 from own_eq hc132)
                refine Go.icmpNo X0 hx (hb hby d2_112) (Jvm.Free.XT.ii_ne_f hc132) (q := 115) rfl ?_
                refine Go.sipush X0 hx (hb hby d2_115) (r := (144 : Int32)) rfl (q := 118) rfl ?_
                refine Go.istore X0 hx (hb hby d2_118) (l' := #[.val (.ref a), .val (.int p), .val (.int A), .val (.int (4 : Int32)), .val (.int (144 : Int32)), .val (.int (191 : Int32)), .unset, .unset, .unset]) rfl (q := 120) rfl ?_
                refine Go.goto X0 hx (hb hby d2_120) (q := 140) (by decide) (by decide) ?_
                refine Go.iloadN X0 hx (hb hby d2_140) rfl (q := 141) rfl ?_
                refine Go.iloadN X0 hx (hb hby d2_141) rfl (q := 142) rfl ?_
                refine Go.iadd X0 hx (hb hby d2_142) rfl (q := 143) rfl ?_
                refine Go.aloadN X0 hx (hb hby d2_143) rfl rfl (q := 144) rfl ?_
                refine Go.alen X0 hx hZ e0 Va (hb hby d2_144) ?_
                by_cases hc133 : n < (p + (4 : Int32))
                · have tc133 := (show (n).toInt < ((p + (4 : Int32))).toInt from own_lt hc133)
                  refine Go.icmpNo X0 hx (hb hby d2_145) (Jvm.Free.XT.ii_le_f hc133) (q := 148) rfl ?_
                  refine Go.iconst X0 hx (hb hby d2_148) (r := (0 : Int32)) rfl (q := 149) rfl ?_
                  exact Go.retI X0 hx hret hlk (Or.inl rfl) rfl (hb hby d2_149) e0 (by decide) (by decide) ⟨by rw [show own_S ys n p = (0 : Int32) from by (simp only [own_S, hA]); exact own_T0 (by omega)], N0, rfl⟩
                · have tc133 := (show ¬ (n).toInt < ((p + (4 : Int32))).toInt from own_ltn hc133)
                  refine Go.icmpYes X0 hx (hb hby d2_145) (Jvm.Free.XT.ii_le_t hc133) (q := 150) (by decide) (by decide) ?_
                  refine Go.aloadN X0 hx (hb hby d2_150) rfl rfl (q := 151) rfl ?_
                  refine Go.iloadN X0 hx (hb hby d2_151) rfl (q := 152) rfl ?_
                  refine Go.iconst X0 hx (hb hby d2_152) (r := (1 : Int32)) rfl (q := 153) rfl ?_
                  refine Go.iadd X0 hx (hb hby d2_153) rfl (q := 154) rfl ?_
                  refine Go.bal X0 hx hZ e0 Va (own_in hn hp0 hp1 (1 : Int32) (by decide) (by decide) (show p.toInt + 1 < n.toInt by omega)) (v := (.int ((own_Y ys (p + (1 : Int32))).toInt8.toInt32))) (own_gb ys _) (hb hby d2_154) ?_
                  refine Go.sipush X0 hx (hb hby d2_155) (r := (255 : Int32)) rfl (q := 158) rfl ?_
                  refine Go.iand X0 hx (hb hby d2_158) rfl (q := 159) rfl ?_
                  rw [own_b255 hys (p + (1 : Int32))]
                  have bB := own_bd hys (p + (1 : Int32))
                  generalize hB : (own_Y ys (p + (1 : Int32))) = B at bB ⊢
                  show Go pp ee below _ (s₁.setTop (mkF mm 159 #[.val (.ref a), .val (.int p), .val (.int A), .val (.int (4 : Int32)), .val (.int (144 : Int32)), .val (.int (191 : Int32)), .unset, .unset, .unset] [(.int B)]))
                  refine Go.istore X0 hx (hb hby d2_159) (l' := #[.val (.ref a), .val (.int p), .val (.int A), .val (.int (4 : Int32)), .val (.int (144 : Int32)), .val (.int (191 : Int32)), .val (.int B), .unset, .unset]) rfl (q := 161) rfl ?_
                  refine Go.iload X0 hx (hb hby d2_161) rfl (q := 163) rfl ?_
                  refine Go.iload X0 hx (hb hby d2_163) rfl (q := 165) rfl ?_
                  by_cases hc134 : B < (144 : Int32)
                  · have tc134 := (show (B).toInt < 144 from own_lt hc134)
                    refine Go.icmpYes X0 hx (hb hby d2_165) (Jvm.Free.XT.ii_lt_t hc134) (q := 175) (by decide) (by decide) ?_
                    refine Go.iconst X0 hx (hb hby d2_175) (r := (0 : Int32)) rfl (q := 176) rfl ?_
                    exact Go.retI X0 hx hret hlk (Or.inl rfl) rfl (hb hby d2_176) e0 (by decide) (by decide) ⟨by rw [show own_S ys n p = (0 : Int32) from by (simp only [own_S, hA, hB]); exact own_T0 (by omega)], N0, rfl⟩
                  · have tc134 := (show ¬ (B).toInt < 144 from own_ltn hc134)
                    refine Go.icmpNo X0 hx (hb hby d2_165) (Jvm.Free.XT.ii_lt_f hc134) (q := 168) rfl ?_
                    refine Go.iload X0 hx (hb hby d2_168) rfl (q := 170) rfl ?_
                    refine Go.iload X0 hx (hb hby d2_170) rfl (q := 172) rfl ?_
                    by_cases hc135 : (191 : Int32) < B
                    · have tc135 := (show 191 < (B).toInt from own_lt hc135)
                      refine Go.icmpNo X0 hx (hb hby d2_172) (Jvm.Free.XT.ii_le_f hc135) (q := 175) rfl ?_
                      refine Go.iconst X0 hx (hb hby d2_175) (r := (0 : Int32)) rfl (q := 176) rfl ?_
                      exact Go.retI X0 hx hret hlk (Or.inl rfl) rfl (hb hby d2_176) e0 (by decide) (by decide) ⟨by rw [show own_S ys n p = (0 : Int32) from by (simp only [own_S, hA, hB]); exact own_T0 (by omega)], N0, rfl⟩
                    · have tc135 := (show ¬ 191 < (B).toInt from own_ltn hc135)
                      refine Go.icmpYes X0 hx (hb hby d2_172) (Jvm.Free.XT.ii_le_t hc135) (q := 177) (by decide) (by decide) ?_
                      refine Go.iloadN X0 hx (hb hby d2_177) rfl (q := 178) rfl ?_
                      refine Go.iconst X0 hx (hb hby d2_178) (r := (2 : Int32)) rfl (q := 179) rfl ?_
                      refine Go.iadd X0 hx (hb hby d2_179) rfl (q := 180) rfl ?_
                      refine Go.istore X0 hx (hb hby d2_180) (l' := #[.val (.ref a), .val (.int p), .val (.int A), .val (.int (4 : Int32)), .val (.int (144 : Int32)), .val (.int (191 : Int32)), .val (.int B), .val (.int (p + (2 : Int32))), .unset]) rfl (q := 182) rfl ?_
                      refine Go.iload X0 hx (hb hby d2_182) rfl (q := 184) rfl ?_
                      refine Go.iloadN X0 hx (hb hby d2_184) rfl (q := 185) rfl ?_
                      refine Go.iloadN X0 hx (hb hby d2_185) rfl (q := 186) rfl ?_
                      refine Go.iadd X0 hx (hb hby d2_186) rfl (q := 187) rfl ?_
                      refine Go.icmpNo X0 hx (hb hby d2_187) (Jvm.Free.XT.ii_ge_f (own_plt kp2 kp4 (by decide))) (q := 190) rfl ?_
                      refine Go.aloadN X0 hx (hb hby d2_190) rfl rfl (q := 191) rfl ?_
                      refine Go.iload X0 hx (hb hby d2_191) rfl (q := 193) rfl ?_
                      refine Go.bal X0 hx hZ e0 Va (own_in hn hp0 hp1 (2 : Int32) (by decide) (by decide) (show p.toInt + 2 < n.toInt by omega)) (v := (.int ((own_Y ys (p + (2 : Int32))).toInt8.toInt32))) (own_gb ys _) (hb hby d2_193) ?_
                      refine Go.sipush X0 hx (hb hby d2_194) (r := (255 : Int32)) rfl (q := 197) rfl ?_
                      refine Go.iand X0 hx (hb hby d2_197) rfl (q := 198) rfl ?_
                      rw [own_b255 hys (p + (2 : Int32))]
                      have bC := own_bd hys (p + (2 : Int32))
                      generalize hC : (own_Y ys (p + (2 : Int32))) = C at bC ⊢
                      show Go pp ee below _ (s₁.setTop (mkF mm 198 #[.val (.ref a), .val (.int p), .val (.int A), .val (.int (4 : Int32)), .val (.int (144 : Int32)), .val (.int (191 : Int32)), .val (.int B), .val (.int (p + (2 : Int32))), .unset] [(.int C)]))
                      refine Go.istore X0 hx (hb hby d2_198) (l' := #[.val (.ref a), .val (.int p), .val (.int A), .val (.int (4 : Int32)), .val (.int (144 : Int32)), .val (.int (191 : Int32)), .val (.int B), .val (.int (p + (2 : Int32))), .val (.int C)]) rfl (q := 200) rfl ?_
                      refine Go.iload X0 hx (hb hby d2_200) rfl (q := 202) rfl ?_
                      refine Go.sipush X0 hx (hb hby d2_202) (r := (128 : Int32)) rfl (q := 205) rfl ?_
                      by_cases hc136 : C < (128 : Int32)
                      · have tc136 := (show (C).toInt < 128 from own_lt hc136)
                        refine Go.icmpYes X0 hx (hb hby d2_205) (Jvm.Free.XT.ii_lt_t hc136) (q := 216) (by decide) (by decide) ?_
                        refine Go.iconst X0 hx (hb hby d2_216) (r := (0 : Int32)) rfl (q := 217) rfl ?_
                        exact Go.retI X0 hx hret hlk (Or.inl rfl) rfl (hb hby d2_217) e0 (by decide) (by decide) ⟨by rw [show own_S ys n p = (0 : Int32) from by (simp only [own_S, hA, hB, hC]); exact own_T0 (by omega)], N0, rfl⟩
                      · have tc136 := (show ¬ (C).toInt < 128 from own_ltn hc136)
                        refine Go.icmpNo X0 hx (hb hby d2_205) (Jvm.Free.XT.ii_lt_f hc136) (q := 208) rfl ?_
                        refine Go.iload X0 hx (hb hby d2_208) rfl (q := 210) rfl ?_
                        refine Go.sipush X0 hx (hb hby d2_210) (r := (191 : Int32)) rfl (q := 213) rfl ?_
                        by_cases hc137 : (191 : Int32) < C
                        · have tc137 := (show 191 < (C).toInt from own_lt hc137)
                          refine Go.icmpNo X0 hx (hb hby d2_213) (Jvm.Free.XT.ii_le_f hc137) (q := 216) rfl ?_
                          refine Go.iconst X0 hx (hb hby d2_216) (r := (0 : Int32)) rfl (q := 217) rfl ?_
                          exact Go.retI X0 hx hret hlk (Or.inl rfl) rfl (hb hby d2_217) e0 (by decide) (by decide) ⟨by rw [show own_S ys n p = (0 : Int32) from by (simp only [own_S, hA, hB, hC]); exact own_T0 (by omega)], N0, rfl⟩
                        · have tc137 := (show ¬ 191 < (C).toInt from own_ltn hc137)
                          refine Go.icmpYes X0 hx (hb hby d2_213) (Jvm.Free.XT.ii_le_t hc137) (q := 218) (by decide) (by decide) ?_
                          refine Go.iinc X0 hx (hb hby d2_218) rfl (r := ((p + (2 : Int32)) + (1 : Int32))) rfl (l' := #[.val (.ref a), .val (.int p), .val (.int A), .val (.int (4 : Int32)), .val (.int (144 : Int32)), .val (.int (191 : Int32)), .val (.int B), .val (.int ((p + (2 : Int32)) + (1 : Int32))), .val (.int C)]) rfl (q := 221) rfl ?_
                          refine Go.goto X0 hx (hb hby d2_221) (q := 182) (by decide) (by decide) ?_
                          rw [own_pp p (2 : Int32) (1 : Int32) (3 : Int32) rfl]
                          show Go pp ee below _ (s₁.setTop (mkF mm 182 #[.val (.ref a), .val (.int p), .val (.int A), .val (.int (4 : Int32)), .val (.int (144 : Int32)), .val (.int (191 : Int32)), .val (.int B), .val (.int (p + (3 : Int32))), .val (.int C)] []))
                          refine Go.iload X0 hx (hb hby d2_182) rfl (q := 184) rfl ?_
                          refine Go.iloadN X0 hx (hb hby d2_184) rfl (q := 185) rfl ?_
                          refine Go.iloadN X0 hx (hb hby d2_185) rfl (q := 186) rfl ?_
                          refine Go.iadd X0 hx (hb hby d2_186) rfl (q := 187) rfl ?_
                          refine Go.icmpNo X0 hx (hb hby d2_187) (Jvm.Free.XT.ii_ge_f (own_plt kp3 kp4 (by decide))) (q := 190) rfl ?_
                          refine Go.aloadN X0 hx (hb hby d2_190) rfl rfl (q := 191) rfl ?_
                          refine Go.iload X0 hx (hb hby d2_191) rfl (q := 193) rfl ?_
                          refine Go.bal X0 hx hZ e0 Va (own_in hn hp0 hp1 (3 : Int32) (by decide) (by decide) (show p.toInt + 3 < n.toInt by omega)) (v := (.int ((own_Y ys (p + (3 : Int32))).toInt8.toInt32))) (own_gb ys _) (hb hby d2_193) ?_
                          refine Go.sipush X0 hx (hb hby d2_194) (r := (255 : Int32)) rfl (q := 197) rfl ?_
                          refine Go.iand X0 hx (hb hby d2_197) rfl (q := 198) rfl ?_
                          rw [own_b255 hys (p + (3 : Int32))]
                          have bD := own_bd hys (p + (3 : Int32))
                          generalize hD : (own_Y ys (p + (3 : Int32))) = D at bD ⊢
                          show Go pp ee below _ (s₁.setTop (mkF mm 198 #[.val (.ref a), .val (.int p), .val (.int A), .val (.int (4 : Int32)), .val (.int (144 : Int32)), .val (.int (191 : Int32)), .val (.int B), .val (.int (p + (3 : Int32))), .val (.int C)] [(.int D)]))
                          refine Go.istore X0 hx (hb hby d2_198) (l' := #[.val (.ref a), .val (.int p), .val (.int A), .val (.int (4 : Int32)), .val (.int (144 : Int32)), .val (.int (191 : Int32)), .val (.int B), .val (.int (p + (3 : Int32))), .val (.int D)]) rfl (q := 200) rfl ?_
                          refine Go.iload X0 hx (hb hby d2_200) rfl (q := 202) rfl ?_
                          refine Go.sipush X0 hx (hb hby d2_202) (r := (128 : Int32)) rfl (q := 205) rfl ?_
                          by_cases hc138 : D < (128 : Int32)
                          · have tc138 := (show (D).toInt < 128 from own_lt hc138)
                            refine Go.icmpYes X0 hx (hb hby d2_205) (Jvm.Free.XT.ii_lt_t hc138) (q := 216) (by decide) (by decide) ?_
                            refine Go.iconst X0 hx (hb hby d2_216) (r := (0 : Int32)) rfl (q := 217) rfl ?_
                            exact Go.retI X0 hx hret hlk (Or.inl rfl) rfl (hb hby d2_217) e0 (by decide) (by decide) ⟨by rw [show own_S ys n p = (0 : Int32) from by (simp only [own_S, hA, hB, hC, hD]); exact own_T0 (by omega)], N0, rfl⟩
                          · have tc138 := (show ¬ (D).toInt < 128 from own_ltn hc138)
                            refine Go.icmpNo X0 hx (hb hby d2_205) (Jvm.Free.XT.ii_lt_f hc138) (q := 208) rfl ?_
                            refine Go.iload X0 hx (hb hby d2_208) rfl (q := 210) rfl ?_
                            refine Go.sipush X0 hx (hb hby d2_210) (r := (191 : Int32)) rfl (q := 213) rfl ?_
                            by_cases hc139 : (191 : Int32) < D
                            · have tc139 := (show 191 < (D).toInt from own_lt hc139)
                              refine Go.icmpNo X0 hx (hb hby d2_213) (Jvm.Free.XT.ii_le_f hc139) (q := 216) rfl ?_
                              refine Go.iconst X0 hx (hb hby d2_216) (r := (0 : Int32)) rfl (q := 217) rfl ?_
                              exact Go.retI X0 hx hret hlk (Or.inl rfl) rfl (hb hby d2_217) e0 (by decide) (by decide) ⟨by rw [show own_S ys n p = (0 : Int32) from by (simp only [own_S, hA, hB, hC, hD]); exact own_T0 (by omega)], N0, rfl⟩
                            · have tc139 := (show ¬ 191 < (D).toInt from own_ltn hc139)
                              refine Go.icmpYes X0 hx (hb hby d2_213) (Jvm.Free.XT.ii_le_t hc139) (q := 218) (by decide) (by decide) ?_
                              refine Go.iinc X0 hx (hb hby d2_218) rfl (r := ((p + (3 : Int32)) + (1 : Int32))) rfl (l' := #[.val (.ref a), .val (.int p), .val (.int A), .val (.int (4 : Int32)), .val (.int (144 : Int32)), .val (.int (191 : Int32)), .val (.int B), .val (.int ((p + (3 : Int32)) + (1 : Int32))), .val (.int D)]) rfl (q := 221) rfl ?_
                              refine Go.goto X0 hx (hb hby d2_221) (q := 182) (by decide) (by decide) ?_
                              rw [own_pp p (3 : Int32) (1 : Int32) (4 : Int32) rfl]
                              show Go pp ee below _ (s₁.setTop (mkF mm 182 #[.val (.ref a), .val (.int p), .val (.int A), .val (.int (4 : Int32)), .val (.int (144 : Int32)), .val (.int (191 : Int32)), .val (.int B), .val (.int (p + (4 : Int32))), .val (.int D)] []))
                              refine Go.iload X0 hx (hb hby d2_182) rfl (q := 184) rfl ?_
                              refine Go.iloadN X0 hx (hb hby d2_184) rfl (q := 185) rfl ?_
                              refine Go.iloadN X0 hx (hb hby d2_185) rfl (q := 186) rfl ?_
                              refine Go.iadd X0 hx (hb hby d2_186) rfl (q := 187) rfl ?_
                              refine Go.icmpYes X0 hx (hb hby d2_187) (Jvm.Free.XT.ii_ge_t (own_pnl kp4 kp4 (by decide))) (q := 224) (by decide) (by decide) ?_
                              refine Go.iloadN X0 hx (hb hby d2_224) rfl (q := 225) rfl ?_
                              exact Go.retI X0 hx hret hlk (Or.inl rfl) rfl (hb hby d2_225) e0 (by decide) (by decide) ⟨by rw [show own_S ys n p = (4 : Int32) from by (simp only [own_S, hA, hB, hC, hD]); exact own_T4 (by omega)], N0, rfl⟩
              · have tc132 := (show ¬ (A).toInt = 240 from own_eqn hc132)
                refine Go.icmpYes X0 hx (hb hby d2_112) (Jvm.Free.XT.ii_ne_t hc132) (q := 123) (by decide) (by decide) ?_
                refine Go.iloadN X0 hx (hb hby d2_123) rfl (q := 124) rfl ?_
                refine Go.sipush X0 hx (hb hby d2_124) (r := (244 : Int32)) rfl (q := 127) rfl ?_
                by_cases hc140 : A = (244 : Int32)
                · have tc140 := (show (A).toInt = 244 from own_eq hc140)
                  refine Go.icmpNo X0 hx (hb hby d2_127) (Jvm.Free.XT.ii_ne_f hc140) (q := 130) rfl ?_
                  refine Go.sipush X0 hx (hb hby d2_130) (r := (143 : Int32)) rfl (q := 133) rfl ?_
                  refine Go.istore X0 hx (hb hby d2_133) (l' := #[.val (.ref a), .val (.int p), .val (.int A), .val (.int (4 : Int32)), .val (.int (128 : Int32)), .val (.int (143 : Int32)), .unset, .unset, .unset]) rfl (q := 135) rfl ?_
                  refine Go.goto X0 hx (hb hby d2_135) (q := 140) (by decide) (by decide) ?_
                  refine Go.iloadN X0 hx (hb hby d2_140) rfl (q := 141) rfl ?_
                  refine Go.iloadN X0 hx (hb hby d2_141) rfl (q := 142) rfl ?_
                  refine Go.iadd X0 hx (hb hby d2_142) rfl (q := 143) rfl ?_
                  refine Go.aloadN X0 hx (hb hby d2_143) rfl rfl (q := 144) rfl ?_
                  refine Go.alen X0 hx hZ e0 Va (hb hby d2_144) ?_
                  by_cases hc141 : n < (p + (4 : Int32))
                  · have tc141 := (show (n).toInt < ((p + (4 : Int32))).toInt from own_lt hc141)
                    refine Go.icmpNo X0 hx (hb hby d2_145) (Jvm.Free.XT.ii_le_f hc141) (q := 148) rfl ?_
                    refine Go.iconst X0 hx (hb hby d2_148) (r := (0 : Int32)) rfl (q := 149) rfl ?_
                    exact Go.retI X0 hx hret hlk (Or.inl rfl) rfl (hb hby d2_149) e0 (by decide) (by decide) ⟨by rw [show own_S ys n p = (0 : Int32) from by (simp only [own_S, hA]); exact own_T0 (by omega)], N0, rfl⟩
                  · have tc141 := (show ¬ (n).toInt < ((p + (4 : Int32))).toInt from own_ltn hc141)
                    refine Go.icmpYes X0 hx (hb hby d2_145) (Jvm.Free.XT.ii_le_t hc141) (q := 150) (by decide) (by decide) ?_
                    refine Go.aloadN X0 hx (hb hby d2_150) rfl rfl (q := 151) rfl ?_
                    refine Go.iloadN X0 hx (hb hby d2_151) rfl (q := 152) rfl ?_
                    refine Go.iconst X0 hx (hb hby d2_152) (r := (1 : Int32)) rfl (q := 153) rfl ?_
                    refine Go.iadd X0 hx (hb hby d2_153) rfl (q := 154) rfl ?_
                    refine Go.bal X0 hx hZ e0 Va (own_in hn hp0 hp1 (1 : Int32) (by decide) (by decide) (show p.toInt + 1 < n.toInt by omega)) (v := (.int ((own_Y ys (p + (1 : Int32))).toInt8.toInt32))) (own_gb ys _) (hb hby d2_154) ?_
                    refine Go.sipush X0 hx (hb hby d2_155) (r := (255 : Int32)) rfl (q := 158) rfl ?_
                    refine Go.iand X0 hx (hb hby d2_158) rfl (q := 159) rfl ?_
                    rw [own_b255 hys (p + (1 : Int32))]
                    have bB := own_bd hys (p + (1 : Int32))
                    generalize hB : (own_Y ys (p + (1 : Int32))) = B at bB ⊢
                    show Go pp ee below _ (s₁.setTop (mkF mm 159 #[.val (.ref a), .val (.int p), .val (.int A), .val (.int (4 : Int32)), .val (.int (128 : Int32)), .val (.int (143 : Int32)), .unset, .unset, .unset] [(.int B)]))
                    refine Go.istore X0 hx (hb hby d2_159) (l' := #[.val (.ref a), .val (.int p), .val (.int A), .val (.int (4 : Int32)), .val (.int (128 : Int32)), .val (.int (143 : Int32)), .val (.int B), .unset, .unset]) rfl (q := 161) rfl ?_
                    refine Go.iload X0 hx (hb hby d2_161) rfl (q := 163) rfl ?_
                    refine Go.iload X0 hx (hb hby d2_163) rfl (q := 165) rfl ?_
                    by_cases hc142 : B < (128 : Int32)
                    · have tc142 := (show (B).toInt < 128 from own_lt hc142)
                      refine Go.icmpYes X0 hx (hb hby d2_165) (Jvm.Free.XT.ii_lt_t hc142) (q := 175) (by decide) (by decide) ?_
                      refine Go.iconst X0 hx (hb hby d2_175) (r := (0 : Int32)) rfl (q := 176) rfl ?_
                      exact Go.retI X0 hx hret hlk (Or.inl rfl) rfl (hb hby d2_176) e0 (by decide) (by decide) ⟨by rw [show own_S ys n p = (0 : Int32) from by (simp only [own_S, hA, hB]); exact own_T0 (by omega)], N0, rfl⟩
                    · have tc142 := (show ¬ (B).toInt < 128 from own_ltn hc142)
                      refine Go.icmpNo X0 hx (hb hby d2_165) (Jvm.Free.XT.ii_lt_f hc142) (q := 168) rfl ?_
                      refine Go.iload X0 hx (hb hby d2_168) rfl (q := 170) rfl ?_
                      refine Go.iload X0 hx (hb hby d2_170) rfl (q := 172) rfl ?_
                      by_cases hc143 : (143 : Int32) < B
                      · have tc143 := (show 143 < (B).toInt from own_lt hc143)
                        refine Go.icmpNo X0 hx (hb hby d2_172) (Jvm.Free.XT.ii_le_f hc143) (q := 175) rfl ?_
                        refine Go.iconst X0 hx (hb hby d2_175) (r := (0 : Int32)) rfl (q := 176) rfl ?_
                        exact Go.retI X0 hx hret hlk (Or.inl rfl) rfl (hb hby d2_176) e0 (by decide) (by decide) ⟨by rw [show own_S ys n p = (0 : Int32) from by (simp only [own_S, hA, hB]); exact own_T0 (by omega)], N0, rfl⟩
                      · have tc143 := (show ¬ 143 < (B).toInt from own_ltn hc143)
                        refine Go.icmpYes X0 hx (hb hby d2_172) (Jvm.Free.XT.ii_le_t hc143) (q := 177) (by decide) (by decide) ?_
                        refine Go.iloadN X0 hx (hb hby d2_177) rfl (q := 178) rfl ?_
                        refine Go.iconst X0 hx (hb hby d2_178) (r := (2 : Int32)) rfl (q := 179) rfl ?_
                        refine Go.iadd X0 hx (hb hby d2_179) rfl (q := 180) rfl ?_
                        refine Go.istore X0 hx (hb hby d2_180) (l' := #[.val (.ref a), .val (.int p), .val (.int A), .val (.int (4 : Int32)), .val (.int (128 : Int32)), .val (.int (143 : Int32)), .val (.int B), .val (.int (p + (2 : Int32))), .unset]) rfl (q := 182) rfl ?_
                        refine Go.iload X0 hx (hb hby d2_182) rfl (q := 184) rfl ?_
                        refine Go.iloadN X0 hx (hb hby d2_184) rfl (q := 185) rfl ?_
                        refine Go.iloadN X0 hx (hb hby d2_185) rfl (q := 186) rfl ?_
                        refine Go.iadd X0 hx (hb hby d2_186) rfl (q := 187) rfl ?_
                        refine Go.icmpNo X0 hx (hb hby d2_187) (Jvm.Free.XT.ii_ge_f (own_plt kp2 kp4 (by decide))) (q := 190) rfl ?_
                        refine Go.aloadN X0 hx (hb hby d2_190) rfl rfl (q := 191) rfl ?_
                        refine Go.iload X0 hx (hb hby d2_191) rfl (q := 193) rfl ?_
                        refine Go.bal X0 hx hZ e0 Va (own_in hn hp0 hp1 (2 : Int32) (by decide) (by decide) (show p.toInt + 2 < n.toInt by omega)) (v := (.int ((own_Y ys (p + (2 : Int32))).toInt8.toInt32))) (own_gb ys _) (hb hby d2_193) ?_
                        refine Go.sipush X0 hx (hb hby d2_194) (r := (255 : Int32)) rfl (q := 197) rfl ?_
                        refine Go.iand X0 hx (hb hby d2_197) rfl (q := 198) rfl ?_
                        rw [own_b255 hys (p + (2 : Int32))]
                        have bC := own_bd hys (p + (2 : Int32))
                        generalize hC : (own_Y ys (p + (2 : Int32))) = C at bC ⊢
                        show Go pp ee below _ (s₁.setTop (mkF mm 198 #[.val (.ref a), .val (.int p), .val (.int A), .val (.int (4 : Int32)), .val (.int (128 : Int32)), .val (.int (143 : Int32)), .val (.int B), .val (.int (p + (2 : Int32))), .unset] [(.int C)]))
                        refine Go.istore X0 hx (hb hby d2_198) (l' := #[.val (.ref a), .val (.int p), .val (.int A), .val (.int (4 : Int32)), .val (.int (128 : Int32)), .val (.int (143 : Int32)), .val (.int B), .val (.int (p + (2 : Int32))), .val (.int C)]) rfl (q := 200) rfl ?_
                        refine Go.iload X0 hx (hb hby d2_200) rfl (q := 202) rfl ?_
                        refine Go.sipush X0 hx (hb hby d2_202) (r := (128 : Int32)) rfl (q := 205) rfl ?_
                        by_cases hc144 : C < (128 : Int32)
                        · have tc144 := (show (C).toInt < 128 from own_lt hc144)
                          refine Go.icmpYes X0 hx (hb hby d2_205) (Jvm.Free.XT.ii_lt_t hc144) (q := 216) (by decide) (by decide) ?_
                          refine Go.iconst X0 hx (hb hby d2_216) (r := (0 : Int32)) rfl (q := 217) rfl ?_
                          exact Go.retI X0 hx hret hlk (Or.inl rfl) rfl (hb hby d2_217) e0 (by decide) (by decide) ⟨by rw [show own_S ys n p = (0 : Int32) from by (simp only [own_S, hA, hB, hC]); exact own_T0 (by omega)], N0, rfl⟩
                        · have tc144 := (show ¬ (C).toInt < 128 from own_ltn hc144)
                          refine Go.icmpNo X0 hx (hb hby d2_205) (Jvm.Free.XT.ii_lt_f hc144) (q := 208) rfl ?_
                          refine Go.iload X0 hx (hb hby d2_208) rfl (q := 210) rfl ?_
                          refine Go.sipush X0 hx (hb hby d2_210) (r := (191 : Int32)) rfl (q := 213) rfl ?_
                          by_cases hc145 : (191 : Int32) < C
                          · have tc145 := (show 191 < (C).toInt from own_lt hc145)
                            refine Go.icmpNo X0 hx (hb hby d2_213) (Jvm.Free.XT.ii_le_f hc145) (q := 216) rfl ?_
                            refine Go.iconst X0 hx (hb hby d2_216) (r := (0 : Int32)) rfl (q := 217) rfl ?_
                            exact Go.retI X0 hx hret hlk (Or.inl rfl) rfl (hb hby d2_217) e0 (by decide) (by decide) ⟨by rw [show own_S ys n p = (0 : Int32) from by (simp only [own_S, hA, hB, hC]); exact own_T0 (by omega)], N0, rfl⟩
                          · have tc145 := (show ¬ 191 < (C).toInt from own_ltn hc145)
                            refine Go.icmpYes X0 hx (hb hby d2_213) (Jvm.Free.XT.ii_le_t hc145) (q := 218) (by decide) (by decide) ?_
                            refine Go.iinc X0 hx (hb hby d2_218) rfl (r := ((p + (2 : Int32)) + (1 : Int32))) rfl (l' := #[.val (.ref a), .val (.int p), .val (.int A), .val (.int (4 : Int32)), .val (.int (128 : Int32)), .val (.int (143 : Int32)), .val (.int B), .val (.int ((p + (2 : Int32)) + (1 : Int32))), .val (.int C)]) rfl (q := 221) rfl ?_
                            refine Go.goto X0 hx (hb hby d2_221) (q := 182) (by decide) (by decide) ?_
                            rw [own_pp p (2 : Int32) (1 : Int32) (3 : Int32) rfl]
                            show Go pp ee below _ (s₁.setTop (mkF mm 182 #[.val (.ref a), .val (.int p), .val (.int A), .val (.int (4 : Int32)), .val (.int (128 : Int32)), .val (.int (143 : Int32)), .val (.int B), .val (.int (p + (3 : Int32))), .val (.int C)] []))
                            refine Go.iload X0 hx (hb hby d2_182) rfl (q := 184) rfl ?_
                            refine Go.iloadN X0 hx (hb hby d2_184) rfl (q := 185) rfl ?_
                            refine Go.iloadN X0 hx (hb hby d2_185) rfl (q := 186) rfl ?_
                            refine Go.iadd X0 hx (hb hby d2_186) rfl (q := 187) rfl ?_
                            refine Go.icmpNo X0 hx (hb hby d2_187) (Jvm.Free.XT.ii_ge_f (own_plt kp3 kp4 (by decide))) (q := 190) rfl ?_
                            refine Go.aloadN X0 hx (hb hby d2_190) rfl rfl (q := 191) rfl ?_
                            refine Go.iload X0 hx (hb hby d2_191) rfl (q := 193) rfl ?_
                            refine Go.bal X0 hx hZ e0 Va (own_in hn hp0 hp1 (3 : Int32) (by decide) (by decide) (show p.toInt + 3 < n.toInt by omega)) (v := (.int ((own_Y ys (p + (3 : Int32))).toInt8.toInt32))) (own_gb ys _) (hb hby d2_193) ?_
                            refine Go.sipush X0 hx (hb hby d2_194) (r := (255 : Int32)) rfl (q := 197) rfl ?_
                            refine Go.iand X0 hx (hb hby d2_197) rfl (q := 198) rfl ?_
                            rw [own_b255 hys (p + (3 : Int32))]
                            have bD := own_bd hys (p + (3 : Int32))
                            generalize hD : (own_Y ys (p + (3 : Int32))) = D at bD ⊢
                            show Go pp ee below _ (s₁.setTop (mkF mm 198 #[.val (.ref a), .val (.int p), .val (.int A), .val (.int (4 : Int32)), .val (.int (128 : Int32)), .val (.int (143 : Int32)), .val (.int B), .val (.int (p + (3 : Int32))), .val (.int C)] [(.int D)]))
                            refine Go.istore X0 hx (hb hby d2_198) (l' := #[.val (.ref a), .val (.int p), .val (.int A), .val (.int (4 : Int32)), .val (.int (128 : Int32)), .val (.int (143 : Int32)), .val (.int B), .val (.int (p + (3 : Int32))), .val (.int D)]) rfl (q := 200) rfl ?_
                            refine Go.iload X0 hx (hb hby d2_200) rfl (q := 202) rfl ?_
                            refine Go.sipush X0 hx (hb hby d2_202) (r := (128 : Int32)) rfl (q := 205) rfl ?_
                            by_cases hc146 : D < (128 : Int32)
                            · have tc146 := (show (D).toInt < 128 from own_lt hc146)
                              refine Go.icmpYes X0 hx (hb hby d2_205) (Jvm.Free.XT.ii_lt_t hc146) (q := 216) (by decide) (by decide) ?_
                              refine Go.iconst X0 hx (hb hby d2_216) (r := (0 : Int32)) rfl (q := 217) rfl ?_
                              exact Go.retI X0 hx hret hlk (Or.inl rfl) rfl (hb hby d2_217) e0 (by decide) (by decide) ⟨by rw [show own_S ys n p = (0 : Int32) from by (simp only [own_S, hA, hB, hC, hD]); exact own_T0 (by omega)], N0, rfl⟩
                            · have tc146 := (show ¬ (D).toInt < 128 from own_ltn hc146)
                              refine Go.icmpNo X0 hx (hb hby d2_205) (Jvm.Free.XT.ii_lt_f hc146) (q := 208) rfl ?_
                              refine Go.iload X0 hx (hb hby d2_208) rfl (q := 210) rfl ?_
                              refine Go.sipush X0 hx (hb hby d2_210) (r := (191 : Int32)) rfl (q := 213) rfl ?_
                              by_cases hc147 : (191 : Int32) < D
                              · have tc147 := (show 191 < (D).toInt from own_lt hc147)
                                refine Go.icmpNo X0 hx (hb hby d2_213) (Jvm.Free.XT.ii_le_f hc147) (q := 216) rfl ?_
                                refine Go.iconst X0 hx (hb hby d2_216) (r := (0 : Int32)) rfl (q := 217) rfl ?_
                                exact Go.retI X0 hx hret hlk (Or.inl rfl) rfl (hb hby d2_217) e0 (by decide) (by decide) ⟨by rw [show own_S ys n p = (0 : Int32) from by (simp only [own_S, hA, hB, hC, hD]); exact own_T0 (by omega)], N0, rfl⟩
                              · have tc147 := (show ¬ 191 < (D).toInt from own_ltn hc147)
                                refine Go.icmpYes X0 hx (hb hby d2_213) (Jvm.Free.XT.ii_le_t hc147) (q := 218) (by decide) (by decide) ?_
                                refine Go.iinc X0 hx (hb hby d2_218) rfl (r := ((p + (3 : Int32)) + (1 : Int32))) rfl (l' := #[.val (.ref a), .val (.int p), .val (.int A), .val (.int (4 : Int32)), .val (.int (128 : Int32)), .val (.int (143 : Int32)), .val (.int B), .val (.int ((p + (3 : Int32)) + (1 : Int32))), .val (.int D)]) rfl (q := 221) rfl ?_
                                refine Go.goto X0 hx (hb hby d2_221) (q := 182) (by decide) (by decide) ?_
                                rw [own_pp p (3 : Int32) (1 : Int32) (4 : Int32) rfl]
                                show Go pp ee below _ (s₁.setTop (mkF mm 182 #[.val (.ref a), .val (.int p), .val (.int A), .val (.int (4 : Int32)), .val (.int (128 : Int32)), .val (.int (143 : Int32)), .val (.int B), .val (.int (p + (4 : Int32))), .val (.int D)] []))
                                refine Go.iload X0 hx (hb hby d2_182) rfl (q := 184) rfl ?_
                                refine Go.iloadN X0 hx (hb hby d2_184) rfl (q := 185) rfl ?_
                                refine Go.iloadN X0 hx (hb hby d2_185) rfl (q := 186) rfl ?_
                                refine Go.iadd X0 hx (hb hby d2_186) rfl (q := 187) rfl ?_
                                refine Go.icmpYes X0 hx (hb hby d2_187) (Jvm.Free.XT.ii_ge_t (own_pnl kp4 kp4 (by decide))) (q := 224) (by decide) (by decide) ?_
                                refine Go.iloadN X0 hx (hb hby d2_224) rfl (q := 225) rfl ?_
                                exact Go.retI X0 hx hret hlk (Or.inl rfl) rfl (hb hby d2_225) e0 (by decide) (by decide) ⟨by rw [show own_S ys n p = (4 : Int32) from by (simp only [own_S, hA, hB, hC, hD]); exact own_T4 (by omega)], N0, rfl⟩
                · have tc140 := (show ¬ (A).toInt = 244 from own_eqn hc140)
                  refine Go.icmpYes X0 hx (hb hby d2_127) (Jvm.Free.XT.ii_ne_t hc140) (q := 140) (by decide) (by decide) ?_
                  refine Go.iloadN X0 hx (hb hby d2_140) rfl (q := 141) rfl ?_
                  refine Go.iloadN X0 hx (hb hby d2_141) rfl (q := 142) rfl ?_
                  refine Go.iadd X0 hx (hb hby d2_142) rfl (q := 143) rfl ?_
                  refine Go.aloadN X0 hx (hb hby d2_143) rfl rfl (q := 144) rfl ?_
                  refine Go.alen X0 hx hZ e0 Va (hb hby d2_144) ?_
                  by_cases hc148 : n < (p + (4 : Int32))
                  · have tc148 := (show (n).toInt < ((p + (4 : Int32))).toInt from own_lt hc148)
                    refine Go.icmpNo X0 hx (hb hby d2_145) (Jvm.Free.XT.ii_le_f hc148) (q := 148) rfl ?_
                    refine Go.iconst X0 hx (hb hby d2_148) (r := (0 : Int32)) rfl (q := 149) rfl ?_
                    exact Go.retI X0 hx hret hlk (Or.inl rfl) rfl (hb hby d2_149) e0 (by decide) (by decide) ⟨by rw [show own_S ys n p = (0 : Int32) from by (simp only [own_S, hA]); exact own_T0 (by omega)], N0, rfl⟩
                  · have tc148 := (show ¬ (n).toInt < ((p + (4 : Int32))).toInt from own_ltn hc148)
                    refine Go.icmpYes X0 hx (hb hby d2_145) (Jvm.Free.XT.ii_le_t hc148) (q := 150) (by decide) (by decide) ?_
                    refine Go.aloadN X0 hx (hb hby d2_150) rfl rfl (q := 151) rfl ?_
                    refine Go.iloadN X0 hx (hb hby d2_151) rfl (q := 152) rfl ?_
                    refine Go.iconst X0 hx (hb hby d2_152) (r := (1 : Int32)) rfl (q := 153) rfl ?_
                    refine Go.iadd X0 hx (hb hby d2_153) rfl (q := 154) rfl ?_
                    refine Go.bal X0 hx hZ e0 Va (own_in hn hp0 hp1 (1 : Int32) (by decide) (by decide) (show p.toInt + 1 < n.toInt by omega)) (v := (.int ((own_Y ys (p + (1 : Int32))).toInt8.toInt32))) (own_gb ys _) (hb hby d2_154) ?_
                    refine Go.sipush X0 hx (hb hby d2_155) (r := (255 : Int32)) rfl (q := 158) rfl ?_
                    refine Go.iand X0 hx (hb hby d2_158) rfl (q := 159) rfl ?_
                    rw [own_b255 hys (p + (1 : Int32))]
                    have bB := own_bd hys (p + (1 : Int32))
                    generalize hB : (own_Y ys (p + (1 : Int32))) = B at bB ⊢
                    show Go pp ee below _ (s₁.setTop (mkF mm 159 #[.val (.ref a), .val (.int p), .val (.int A), .val (.int (4 : Int32)), .val (.int (128 : Int32)), .val (.int (191 : Int32)), .unset, .unset, .unset] [(.int B)]))
                    refine Go.istore X0 hx (hb hby d2_159) (l' := #[.val (.ref a), .val (.int p), .val (.int A), .val (.int (4 : Int32)), .val (.int (128 : Int32)), .val (.int (191 : Int32)), .val (.int B), .unset, .unset]) rfl (q := 161) rfl ?_
                    refine Go.iload X0 hx (hb hby d2_161) rfl (q := 163) rfl ?_
                    refine Go.iload X0 hx (hb hby d2_163) rfl (q := 165) rfl ?_
                    by_cases hc149 : B < (128 : Int32)
                    · have tc149 := (show (B).toInt < 128 from own_lt hc149)
                      refine Go.icmpYes X0 hx (hb hby d2_165) (Jvm.Free.XT.ii_lt_t hc149) (q := 175) (by decide) (by decide) ?_
                      refine Go.iconst X0 hx (hb hby d2_175) (r := (0 : Int32)) rfl (q := 176) rfl ?_
                      exact Go.retI X0 hx hret hlk (Or.inl rfl) rfl (hb hby d2_176) e0 (by decide) (by decide) ⟨by rw [show own_S ys n p = (0 : Int32) from by (simp only [own_S, hA, hB]); exact own_T0 (by omega)], N0, rfl⟩
                    · have tc149 := (show ¬ (B).toInt < 128 from own_ltn hc149)
                      refine Go.icmpNo X0 hx (hb hby d2_165) (Jvm.Free.XT.ii_lt_f hc149) (q := 168) rfl ?_
                      refine Go.iload X0 hx (hb hby d2_168) rfl (q := 170) rfl ?_
                      refine Go.iload X0 hx (hb hby d2_170) rfl (q := 172) rfl ?_
                      by_cases hc150 : (191 : Int32) < B
                      · have tc150 := (show 191 < (B).toInt from own_lt hc150)
                        refine Go.icmpNo X0 hx (hb hby d2_172) (Jvm.Free.XT.ii_le_f hc150) (q := 175) rfl ?_
                        refine Go.iconst X0 hx (hb hby d2_175) (r := (0 : Int32)) rfl (q := 176) rfl ?_
                        exact Go.retI X0 hx hret hlk (Or.inl rfl) rfl (hb hby d2_176) e0 (by decide) (by decide) ⟨by rw [show own_S ys n p = (0 : Int32) from by (simp only [own_S, hA, hB]); exact own_T0 (by omega)], N0, rfl⟩
                      · have tc150 := (show ¬ 191 < (B).toInt from own_ltn hc150)
                        refine Go.icmpYes X0 hx (hb hby d2_172) (Jvm.Free.XT.ii_le_t hc150) (q := 177) (by decide) (by decide) ?_
                        refine Go.iloadN X0 hx (hb hby d2_177) rfl (q := 178) rfl ?_
                        refine Go.iconst X0 hx (hb hby d2_178) (r := (2 : Int32)) rfl (q := 179) rfl ?_
                        refine Go.iadd X0 hx (hb hby d2_179) rfl (q := 180) rfl ?_
                        refine Go.istore X0 hx (hb hby d2_180) (l' := #[.val (.ref a), .val (.int p), .val (.int A), .val (.int (4 : Int32)), .val (.int (128 : Int32)), .val (.int (191 : Int32)), .val (.int B), .val (.int (p + (2 : Int32))), .unset]) rfl (q := 182) rfl ?_
                        refine Go.iload X0 hx (hb hby d2_182) rfl (q := 184) rfl ?_
                        refine Go.iloadN X0 hx (hb hby d2_184) rfl (q := 185) rfl ?_
                        refine Go.iloadN X0 hx (hb hby d2_185) rfl (q := 186) rfl ?_
                        refine Go.iadd X0 hx (hb hby d2_186) rfl (q := 187) rfl ?_
                        refine Go.icmpNo X0 hx (hb hby d2_187) (Jvm.Free.XT.ii_ge_f (own_plt kp2 kp4 (by decide))) (q := 190) rfl ?_
                        refine Go.aloadN X0 hx (hb hby d2_190) rfl rfl (q := 191) rfl ?_
                        refine Go.iload X0 hx (hb hby d2_191) rfl (q := 193) rfl ?_
                        refine Go.bal X0 hx hZ e0 Va (own_in hn hp0 hp1 (2 : Int32) (by decide) (by decide) (show p.toInt + 2 < n.toInt by omega)) (v := (.int ((own_Y ys (p + (2 : Int32))).toInt8.toInt32))) (own_gb ys _) (hb hby d2_193) ?_
                        refine Go.sipush X0 hx (hb hby d2_194) (r := (255 : Int32)) rfl (q := 197) rfl ?_
                        refine Go.iand X0 hx (hb hby d2_197) rfl (q := 198) rfl ?_
                        rw [own_b255 hys (p + (2 : Int32))]
                        have bC := own_bd hys (p + (2 : Int32))
                        generalize hC : (own_Y ys (p + (2 : Int32))) = C at bC ⊢
                        show Go pp ee below _ (s₁.setTop (mkF mm 198 #[.val (.ref a), .val (.int p), .val (.int A), .val (.int (4 : Int32)), .val (.int (128 : Int32)), .val (.int (191 : Int32)), .val (.int B), .val (.int (p + (2 : Int32))), .unset] [(.int C)]))
                        refine Go.istore X0 hx (hb hby d2_198) (l' := #[.val (.ref a), .val (.int p), .val (.int A), .val (.int (4 : Int32)), .val (.int (128 : Int32)), .val (.int (191 : Int32)), .val (.int B), .val (.int (p + (2 : Int32))), .val (.int C)]) rfl (q := 200) rfl ?_
                        refine Go.iload X0 hx (hb hby d2_200) rfl (q := 202) rfl ?_
                        refine Go.sipush X0 hx (hb hby d2_202) (r := (128 : Int32)) rfl (q := 205) rfl ?_
                        by_cases hc151 : C < (128 : Int32)
                        · have tc151 := (show (C).toInt < 128 from own_lt hc151)
                          refine Go.icmpYes X0 hx (hb hby d2_205) (Jvm.Free.XT.ii_lt_t hc151) (q := 216) (by decide) (by decide) ?_
                          refine Go.iconst X0 hx (hb hby d2_216) (r := (0 : Int32)) rfl (q := 217) rfl ?_
                          exact Go.retI X0 hx hret hlk (Or.inl rfl) rfl (hb hby d2_217) e0 (by decide) (by decide) ⟨by rw [show own_S ys n p = (0 : Int32) from by (simp only [own_S, hA, hB, hC]); exact own_T0 (by omega)], N0, rfl⟩
                        · have tc151 := (show ¬ (C).toInt < 128 from own_ltn hc151)
                          refine Go.icmpNo X0 hx (hb hby d2_205) (Jvm.Free.XT.ii_lt_f hc151) (q := 208) rfl ?_
                          refine Go.iload X0 hx (hb hby d2_208) rfl (q := 210) rfl ?_
                          refine Go.sipush X0 hx (hb hby d2_210) (r := (191 : Int32)) rfl (q := 213) rfl ?_
                          by_cases hc152 : (191 : Int32) < C
                          · have tc152 := (show 191 < (C).toInt from own_lt hc152)
                            refine Go.icmpNo X0 hx (hb hby d2_213) (Jvm.Free.XT.ii_le_f hc152) (q := 216) rfl ?_
                            refine Go.iconst X0 hx (hb hby d2_216) (r := (0 : Int32)) rfl (q := 217) rfl ?_
                            exact Go.retI X0 hx hret hlk (Or.inl rfl) rfl (hb hby d2_217) e0 (by decide) (by decide) ⟨by rw [show own_S ys n p = (0 : Int32) from by (simp only [own_S, hA, hB, hC]); exact own_T0 (by omega)], N0, rfl⟩
                          · have tc152 := (show ¬ 191 < (C).toInt from own_ltn hc152)
                            refine Go.icmpYes X0 hx (hb hby d2_213) (Jvm.Free.XT.ii_le_t hc152) (q := 218) (by decide) (by decide) ?_
                            refine Go.iinc X0 hx (hb hby d2_218) rfl (r := ((p + (2 : Int32)) + (1 : Int32))) rfl (l' := #[.val (.ref a), .val (.int p), .val (.int A), .val (.int (4 : Int32)), .val (.int (128 : Int32)), .val (.int (191 : Int32)), .val (.int B), .val (.int ((p + (2 : Int32)) + (1 : Int32))), .val (.int C)]) rfl (q := 221) rfl ?_
                            refine Go.goto X0 hx (hb hby d2_221) (q := 182) (by decide) (by decide) ?_
                            rw [own_pp p (2 : Int32) (1 : Int32) (3 : Int32) rfl]
                            show Go pp ee below _ (s₁.setTop (mkF mm 182 #[.val (.ref a), .val (.int p), .val (.int A), .val (.int (4 : Int32)), .val (.int (128 : Int32)), .val (.int (191 : Int32)), .val (.int B), .val (.int (p + (3 : Int32))), .val (.int C)] []))
                            refine Go.iload X0 hx (hb hby d2_182) rfl (q := 184) rfl ?_
                            refine Go.iloadN X0 hx (hb hby d2_184) rfl (q := 185) rfl ?_
                            refine Go.iloadN X0 hx (hb hby d2_185) rfl (q := 186) rfl ?_
                            refine Go.iadd X0 hx (hb hby d2_186) rfl (q := 187) rfl ?_
                            refine Go.icmpNo X0 hx (hb hby d2_187) (Jvm.Free.XT.ii_ge_f (own_plt kp3 kp4 (by decide))) (q := 190) rfl ?_
                            refine Go.aloadN X0 hx (hb hby d2_190) rfl rfl (q := 191) rfl ?_
                            refine Go.iload X0 hx (hb hby d2_191) rfl (q := 193) rfl ?_
                            refine Go.bal X0 hx hZ e0 Va (own_in hn hp0 hp1 (3 : Int32) (by decide) (by decide) (show p.toInt + 3 < n.toInt by omega)) (v := (.int ((own_Y ys (p + (3 : Int32))).toInt8.toInt32))) (own_gb ys _) (hb hby d2_193) ?_
                            refine Go.sipush X0 hx (hb hby d2_194) (r := (255 : Int32)) rfl (q := 197) rfl ?_
                            refine Go.iand X0 hx (hb hby d2_197) rfl (q := 198) rfl ?_
                            rw [own_b255 hys (p + (3 : Int32))]
                            have bD := own_bd hys (p + (3 : Int32))
                            generalize hD : (own_Y ys (p + (3 : Int32))) = D at bD ⊢
                            show Go pp ee below _ (s₁.setTop (mkF mm 198 #[.val (.ref a), .val (.int p), .val (.int A), .val (.int (4 : Int32)), .val (.int (128 : Int32)), .val (.int (191 : Int32)), .val (.int B), .val (.int (p + (3 : Int32))), .val (.int C)] [(.int D)]))
                            refine Go.istore X0 hx (hb hby d2_198) (l' := #[.val (.ref a), .val (.int p), .val (.int A), .val (.int (4 : Int32)), .val (.int (128 : Int32)), .val (.int (191 : Int32)), .val (.int B), .val (.int (p + (3 : Int32))), .val (.int D)]) rfl (q := 200) rfl ?_
                            refine Go.iload X0 hx (hb hby d2_200) rfl (q := 202) rfl ?_
                            refine Go.sipush X0 hx (hb hby d2_202) (r := (128 : Int32)) rfl (q := 205) rfl ?_
                            by_cases hc153 : D < (128 : Int32)
                            · have tc153 := (show (D).toInt < 128 from own_lt hc153)
                              refine Go.icmpYes X0 hx (hb hby d2_205) (Jvm.Free.XT.ii_lt_t hc153) (q := 216) (by decide) (by decide) ?_
                              refine Go.iconst X0 hx (hb hby d2_216) (r := (0 : Int32)) rfl (q := 217) rfl ?_
                              exact Go.retI X0 hx hret hlk (Or.inl rfl) rfl (hb hby d2_217) e0 (by decide) (by decide) ⟨by rw [show own_S ys n p = (0 : Int32) from by (simp only [own_S, hA, hB, hC, hD]); exact own_T0 (by omega)], N0, rfl⟩
                            · have tc153 := (show ¬ (D).toInt < 128 from own_ltn hc153)
                              refine Go.icmpNo X0 hx (hb hby d2_205) (Jvm.Free.XT.ii_lt_f hc153) (q := 208) rfl ?_
                              refine Go.iload X0 hx (hb hby d2_208) rfl (q := 210) rfl ?_
                              refine Go.sipush X0 hx (hb hby d2_210) (r := (191 : Int32)) rfl (q := 213) rfl ?_
                              by_cases hc154 : (191 : Int32) < D
                              · have tc154 := (show 191 < (D).toInt from own_lt hc154)
                                refine Go.icmpNo X0 hx (hb hby d2_213) (Jvm.Free.XT.ii_le_f hc154) (q := 216) rfl ?_
                                refine Go.iconst X0 hx (hb hby d2_216) (r := (0 : Int32)) rfl (q := 217) rfl ?_
                                exact Go.retI X0 hx hret hlk (Or.inl rfl) rfl (hb hby d2_217) e0 (by decide) (by decide) ⟨by rw [show own_S ys n p = (0 : Int32) from by (simp only [own_S, hA, hB, hC, hD]); exact own_T0 (by omega)], N0, rfl⟩
                              · have tc154 := (show ¬ 191 < (D).toInt from own_ltn hc154)
                                refine Go.icmpYes X0 hx (hb hby d2_213) (Jvm.Free.XT.ii_le_t hc154) (q := 218) (by decide) (by decide) ?_
                                refine Go.iinc X0 hx (hb hby d2_218) rfl (r := ((p + (3 : Int32)) + (1 : Int32))) rfl (l' := #[.val (.ref a), .val (.int p), .val (.int A), .val (.int (4 : Int32)), .val (.int (128 : Int32)), .val (.int (191 : Int32)), .val (.int B), .val (.int ((p + (3 : Int32)) + (1 : Int32))), .val (.int D)]) rfl (q := 221) rfl ?_
                                refine Go.goto X0 hx (hb hby d2_221) (q := 182) (by decide) (by decide) ?_
                                rw [own_pp p (3 : Int32) (1 : Int32) (4 : Int32) rfl]
                                show Go pp ee below _ (s₁.setTop (mkF mm 182 #[.val (.ref a), .val (.int p), .val (.int A), .val (.int (4 : Int32)), .val (.int (128 : Int32)), .val (.int (191 : Int32)), .val (.int B), .val (.int (p + (4 : Int32))), .val (.int D)] []))
                                refine Go.iload X0 hx (hb hby d2_182) rfl (q := 184) rfl ?_
                                refine Go.iloadN X0 hx (hb hby d2_184) rfl (q := 185) rfl ?_
                                refine Go.iloadN X0 hx (hb hby d2_185) rfl (q := 186) rfl ?_
                                refine Go.iadd X0 hx (hb hby d2_186) rfl (q := 187) rfl ?_
                                refine Go.icmpYes X0 hx (hb hby d2_187) (Jvm.Free.XT.ii_ge_t (own_pnl kp4 kp4 (by decide))) (q := 224) (by decide) (by decide) ?_
                                refine Go.iloadN X0 hx (hb hby d2_224) rfl (q := 225) rfl ?_
                                exact Go.retI X0 hx hret hlk (Or.inl rfl) rfl (hb hby d2_225) e0 (by decide) (by decide) ⟨by rw [show own_S ys n p = (4 : Int32) from by (simp only [own_S, hA, hB, hC, hD]); exact own_T4 (by omega)], N0, rfl⟩
        · have tc129 := (show ¬ 239 < (A).toInt from own_ltn hc129)
          refine Go.icmpNo X0 hx (hb hby d2_57) (Jvm.Free.XT.ii_gt_f hc129) (q := 60) rfl ?_
          refine Go.iconst X0 hx (hb hby d2_60) (r := (3 : Int32)) rfl (q := 61) rfl ?_
          refine Go.istoreN X0 hx (hb hby d2_61) (l' := #[.val (.ref a), .val (.int p), .val (.int A), .val (.int (3 : Int32)), .val (.int (128 : Int32)), .val (.int (191 : Int32)), .unset, .unset, .unset]) rfl (q := 62) rfl ?_
          refine Go.iloadN X0 hx (hb hby d2_62) rfl (q := 63) rfl ?_
          refine Go.sipush X0 hx (hb hby d2_63) (r := (224 : Int32)) rfl (q := 66) rfl ?_
          by_cases hc155 : A = (224 : Int32)
          · have tc155 := (show (A).toInt = 224 from own_eq hc155)
            refine Go.icmpNo X0 hx (hb hby d2_66) (Jvm.Free.XT.ii_ne_f hc155) (q := 69) rfl ?_
            refine Go.sipush X0 hx (hb hby d2_69) (r := (160 : Int32)) rfl (q := 72) rfl ?_
            refine Go.istore X0 hx (hb hby d2_72) (l' := #[.val (.ref a), .val (.int p), .val (.int A), .val (.int (3 : Int32)), .val (.int (160 : Int32)), .val (.int (191 : Int32)), .unset, .unset, .unset]) rfl (q := 74) rfl ?_
            refine Go.goto X0 hx (hb hby d2_74) (q := 140) (by decide) (by decide) ?_
            refine Go.iloadN X0 hx (hb hby d2_140) rfl (q := 141) rfl ?_
            refine Go.iloadN X0 hx (hb hby d2_141) rfl (q := 142) rfl ?_
            refine Go.iadd X0 hx (hb hby d2_142) rfl (q := 143) rfl ?_
            refine Go.aloadN X0 hx (hb hby d2_143) rfl rfl (q := 144) rfl ?_
            refine Go.alen X0 hx hZ e0 Va (hb hby d2_144) ?_
            by_cases hc156 : n < (p + (3 : Int32))
            · have tc156 := (show (n).toInt < ((p + (3 : Int32))).toInt from own_lt hc156)
              refine Go.icmpNo X0 hx (hb hby d2_145) (Jvm.Free.XT.ii_le_f hc156) (q := 148) rfl ?_
              refine Go.iconst X0 hx (hb hby d2_148) (r := (0 : Int32)) rfl (q := 149) rfl ?_
              exact Go.retI X0 hx hret hlk (Or.inl rfl) rfl (hb hby d2_149) e0 (by decide) (by decide) ⟨by rw [show own_S ys n p = (0 : Int32) from by (simp only [own_S, hA]); exact own_T0 (by omega)], N0, rfl⟩
            · have tc156 := (show ¬ (n).toInt < ((p + (3 : Int32))).toInt from own_ltn hc156)
              refine Go.icmpYes X0 hx (hb hby d2_145) (Jvm.Free.XT.ii_le_t hc156) (q := 150) (by decide) (by decide) ?_
              refine Go.aloadN X0 hx (hb hby d2_150) rfl rfl (q := 151) rfl ?_
              refine Go.iloadN X0 hx (hb hby d2_151) rfl (q := 152) rfl ?_
              refine Go.iconst X0 hx (hb hby d2_152) (r := (1 : Int32)) rfl (q := 153) rfl ?_
              refine Go.iadd X0 hx (hb hby d2_153) rfl (q := 154) rfl ?_
              refine Go.bal X0 hx hZ e0 Va (own_in hn hp0 hp1 (1 : Int32) (by decide) (by decide) (show p.toInt + 1 < n.toInt by omega)) (v := (.int ((own_Y ys (p + (1 : Int32))).toInt8.toInt32))) (own_gb ys _) (hb hby d2_154) ?_
              refine Go.sipush X0 hx (hb hby d2_155) (r := (255 : Int32)) rfl (q := 158) rfl ?_
              refine Go.iand X0 hx (hb hby d2_158) rfl (q := 159) rfl ?_
              rw [own_b255 hys (p + (1 : Int32))]
              have bB := own_bd hys (p + (1 : Int32))
              generalize hB : (own_Y ys (p + (1 : Int32))) = B at bB ⊢
              show Go pp ee below _ (s₁.setTop (mkF mm 159 #[.val (.ref a), .val (.int p), .val (.int A), .val (.int (3 : Int32)), .val (.int (160 : Int32)), .val (.int (191 : Int32)), .unset, .unset, .unset] [(.int B)]))
              refine Go.istore X0 hx (hb hby d2_159) (l' := #[.val (.ref a), .val (.int p), .val (.int A), .val (.int (3 : Int32)), .val (.int (160 : Int32)), .val (.int (191 : Int32)), .val (.int B), .unset, .unset]) rfl (q := 161) rfl ?_
              refine Go.iload X0 hx (hb hby d2_161) rfl (q := 163) rfl ?_
              refine Go.iload X0 hx (hb hby d2_163) rfl (q := 165) rfl ?_
              by_cases hc157 : B < (160 : Int32)
              · have tc157 := (show (B).toInt < 160 from own_lt hc157)
                refine Go.icmpYes X0 hx (hb hby d2_165) (Jvm.Free.XT.ii_lt_t hc157) (q := 175) (by decide) (by decide) ?_
                refine Go.iconst X0 hx (hb hby d2_175) (r := (0 : Int32)) rfl (q := 176) rfl ?_
                exact Go.retI X0 hx hret hlk (Or.inl rfl) rfl (hb hby d2_176) e0 (by decide) (by decide) ⟨by rw [show own_S ys n p = (0 : Int32) from by (simp only [own_S, hA, hB]); exact own_T0 (by omega)], N0, rfl⟩
              · have tc157 := (show ¬ (B).toInt < 160 from own_ltn hc157)
                refine Go.icmpNo X0 hx (hb hby d2_165) (Jvm.Free.XT.ii_lt_f hc157) (q := 168) rfl ?_
                refine Go.iload X0 hx (hb hby d2_168) rfl (q := 170) rfl ?_
                refine Go.iload X0 hx (hb hby d2_170) rfl (q := 172) rfl ?_
                by_cases hc158 : (191 : Int32) < B
                · have tc158 := (show 191 < (B).toInt from own_lt hc158)
                  refine Go.icmpNo X0 hx (hb hby d2_172) (Jvm.Free.XT.ii_le_f hc158) (q := 175) rfl ?_
                  refine Go.iconst X0 hx (hb hby d2_175) (r := (0 : Int32)) rfl (q := 176) rfl ?_
                  exact Go.retI X0 hx hret hlk (Or.inl rfl) rfl (hb hby d2_176) e0 (by decide) (by decide) ⟨by rw [show own_S ys n p = (0 : Int32) from by (simp only [own_S, hA, hB]); exact own_T0 (by omega)], N0, rfl⟩
                · have tc158 := (show ¬ 191 < (B).toInt from own_ltn hc158)
                  refine Go.icmpYes X0 hx (hb hby d2_172) (Jvm.Free.XT.ii_le_t hc158) (q := 177) (by decide) (by decide) ?_
                  refine Go.iloadN X0 hx (hb hby d2_177) rfl (q := 178) rfl ?_
                  refine Go.iconst X0 hx (hb hby d2_178) (r := (2 : Int32)) rfl (q := 179) rfl ?_
                  refine Go.iadd X0 hx (hb hby d2_179) rfl (q := 180) rfl ?_
                  refine Go.istore X0 hx (hb hby d2_180) (l' := #[.val (.ref a), .val (.int p), .val (.int A), .val (.int (3 : Int32)), .val (.int (160 : Int32)), .val (.int (191 : Int32)), .val (.int B), .val (.int (p + (2 : Int32))), .unset]) rfl (q := 182) rfl ?_
                  refine Go.iload X0 hx (hb hby d2_182) rfl (q := 184) rfl ?_
                  refine Go.iloadN X0 hx (hb hby d2_184) rfl (q := 185) rfl ?_
                  refine Go.iloadN X0 hx (hb hby d2_185) rfl (q := 186) rfl ?_
                  refine Go.iadd X0 hx (hb hby d2_186) rfl (q := 187) rfl ?_
                  refine Go.icmpNo X0 hx (hb hby d2_187) (Jvm.Free.XT.ii_ge_f (own_plt kp2 kp3 (by decide))) (q := 190) rfl ?_
                  refine Go.aloadN X0 hx (hb hby d2_190) rfl rfl (q := 191) rfl ?_
                  refine Go.iload X0 hx (hb hby d2_191) rfl (q := 193) rfl ?_
                  refine Go.bal X0 hx hZ e0 Va (own_in hn hp0 hp1 (2 : Int32) (by decide) (by decide) (show p.toInt + 2 < n.toInt by omega)) (v := (.int ((own_Y ys (p + (2 : Int32))).toInt8.toInt32))) (own_gb ys _) (hb hby d2_193) ?_
                  refine Go.sipush X0 hx (hb hby d2_194) (r := (255 : Int32)) rfl (q := 197) rfl ?_
                  refine Go.iand X0 hx (hb hby d2_197) rfl (q := 198) rfl ?_
                  rw [own_b255 hys (p + (2 : Int32))]
                  have bC := own_bd hys (p + (2 : Int32))
                  generalize hC : (own_Y ys (p + (2 : Int32))) = C at bC ⊢
                  show Go pp ee below _ (s₁.setTop (mkF mm 198 #[.val (.ref a), .val (.int p), .val (.int A), .val (.int (3 : Int32)), .val (.int (160 : Int32)), .val (.int (191 : Int32)), .val (.int B), .val (.int (p + (2 : Int32))), .unset] [(.int C)]))
                  refine Go.istore X0 hx (hb hby d2_198) (l' := #[.val (.ref a), .val (.int p), .val (.int A), .val (.int (3 : Int32)), .val (.int (160 : Int32)), .val (.int (191 : Int32)), .val (.int B), .val (.int (p + (2 : Int32))), .val (.int C)]) rfl (q := 200) rfl ?_
                  refine Go.iload X0 hx (hb hby d2_200) rfl (q := 202) rfl ?_
                  refine Go.sipush X0 hx (hb hby d2_202) (r := (128 : Int32)) rfl (q := 205) rfl ?_
                  by_cases hc159 : C < (128 : Int32)
                  · have tc159 := (show (C).toInt < 128 from own_lt hc159)
                    refine Go.icmpYes X0 hx (hb hby d2_205) (Jvm.Free.XT.ii_lt_t hc159) (q := 216) (by decide) (by decide) ?_
                    refine Go.iconst X0 hx (hb hby d2_216) (r := (0 : Int32)) rfl (q := 217) rfl ?_
                    exact Go.retI X0 hx hret hlk (Or.inl rfl) rfl (hb hby d2_217) e0 (by decide) (by decide) ⟨by rw [show own_S ys n p = (0 : Int32) from by (simp only [own_S, hA, hB, hC]); exact own_T0 (by omega)], N0, rfl⟩
                  · have tc159 := (show ¬ (C).toInt < 128 from own_ltn hc159)
                    refine Go.icmpNo X0 hx (hb hby d2_205) (Jvm.Free.XT.ii_lt_f hc159) (q := 208) rfl ?_
                    refine Go.iload X0 hx (hb hby d2_208) rfl (q := 210) rfl ?_
                    refine Go.sipush X0 hx (hb hby d2_210) (r := (191 : Int32)) rfl (q := 213) rfl ?_
                    by_cases hc160 : (191 : Int32) < C
                    · have tc160 := (show 191 < (C).toInt from own_lt hc160)
                      refine Go.icmpNo X0 hx (hb hby d2_213) (Jvm.Free.XT.ii_le_f hc160) (q := 216) rfl ?_
                      refine Go.iconst X0 hx (hb hby d2_216) (r := (0 : Int32)) rfl (q := 217) rfl ?_
                      exact Go.retI X0 hx hret hlk (Or.inl rfl) rfl (hb hby d2_217) e0 (by decide) (by decide) ⟨by rw [show own_S ys n p = (0 : Int32) from by (simp only [own_S, hA, hB, hC]); exact own_T0 (by omega)], N0, rfl⟩
                    · have tc160 := (show ¬ 191 < (C).toInt from own_ltn hc160)
                      refine Go.icmpYes X0 hx (hb hby d2_213) (Jvm.Free.XT.ii_le_t hc160) (q := 218) (by decide) (by decide) ?_
                      refine Go.iinc X0 hx (hb hby d2_218) rfl (r := ((p + (2 : Int32)) + (1 : Int32))) rfl (l' := #[.val (.ref a), .val (.int p), .val (.int A), .val (.int (3 : Int32)), .val (.int (160 : Int32)), .val (.int (191 : Int32)), .val (.int B), .val (.int ((p + (2 : Int32)) + (1 : Int32))), .val (.int C)]) rfl (q := 221) rfl ?_
                      refine Go.goto X0 hx (hb hby d2_221) (q := 182) (by decide) (by decide) ?_
                      rw [own_pp p (2 : Int32) (1 : Int32) (3 : Int32) rfl]
                      show Go pp ee below _ (s₁.setTop (mkF mm 182 #[.val (.ref a), .val (.int p), .val (.int A), .val (.int (3 : Int32)), .val (.int (160 : Int32)), .val (.int (191 : Int32)), .val (.int B), .val (.int (p + (3 : Int32))), .val (.int C)] []))
                      refine Go.iload X0 hx (hb hby d2_182) rfl (q := 184) rfl ?_
                      refine Go.iloadN X0 hx (hb hby d2_184) rfl (q := 185) rfl ?_
                      refine Go.iloadN X0 hx (hb hby d2_185) rfl (q := 186) rfl ?_
                      refine Go.iadd X0 hx (hb hby d2_186) rfl (q := 187) rfl ?_
                      refine Go.icmpYes X0 hx (hb hby d2_187) (Jvm.Free.XT.ii_ge_t (own_pnl kp3 kp3 (by decide))) (q := 224) (by decide) (by decide) ?_
                      refine Go.iloadN X0 hx (hb hby d2_224) rfl (q := 225) rfl ?_
                      exact Go.retI X0 hx hret hlk (Or.inl rfl) rfl (hb hby d2_225) e0 (by decide) (by decide) ⟨by rw [show own_S ys n p = (3 : Int32) from by (simp only [own_S, hA, hB, hC]); exact own_T3 (by omega)], N0, rfl⟩
          · have tc155 := (show ¬ (A).toInt = 224 from own_eqn hc155)
            refine Go.icmpYes X0 hx (hb hby d2_66) (Jvm.Free.XT.ii_ne_t hc155) (q := 77) (by decide) (by decide) ?_
            refine Go.iloadN X0 hx (hb hby d2_77) rfl (q := 78) rfl ?_
            refine Go.sipush X0 hx (hb hby d2_78) (r := (237 : Int32)) rfl (q := 81) rfl ?_
            by_cases hc161 : A = (237 : Int32)
            · have tc161 := (show (A).toInt = 237 from own_eq hc161)
              refine Go.icmpNo X0 hx (hb hby d2_81) (Jvm.Free.XT.ii_ne_f hc161) (q := 84) rfl ?_
              refine Go.sipush X0 hx (hb hby d2_84) (r := (159 : Int32)) rfl (q := 87) rfl ?_
              refine Go.istore X0 hx (hb hby d2_87) (l' := #[.val (.ref a), .val (.int p), .val (.int A), .val (.int (3 : Int32)), .val (.int (128 : Int32)), .val (.int (159 : Int32)), .unset, .unset, .unset]) rfl (q := 89) rfl ?_
              refine Go.goto X0 hx (hb hby d2_89) (q := 140) (by decide) (by decide) ?_
              refine Go.iloadN X0 hx (hb hby d2_140) rfl (q := 141) rfl ?_
              refine Go.iloadN X0 hx (hb hby d2_141) rfl (q := 142) rfl ?_
              refine Go.iadd X0 hx (hb hby d2_142) rfl (q := 143) rfl ?_
              refine Go.aloadN X0 hx (hb hby d2_143) rfl rfl (q := 144) rfl ?_
              refine Go.alen X0 hx hZ e0 Va (hb hby d2_144) ?_
              by_cases hc162 : n < (p + (3 : Int32))
              · have tc162 := (show (n).toInt < ((p + (3 : Int32))).toInt from own_lt hc162)
                refine Go.icmpNo X0 hx (hb hby d2_145) (Jvm.Free.XT.ii_le_f hc162) (q := 148) rfl ?_
                refine Go.iconst X0 hx (hb hby d2_148) (r := (0 : Int32)) rfl (q := 149) rfl ?_
                exact Go.retI X0 hx hret hlk (Or.inl rfl) rfl (hb hby d2_149) e0 (by decide) (by decide) ⟨by rw [show own_S ys n p = (0 : Int32) from by (simp only [own_S, hA]); exact own_T0 (by omega)], N0, rfl⟩
              · have tc162 := (show ¬ (n).toInt < ((p + (3 : Int32))).toInt from own_ltn hc162)
                refine Go.icmpYes X0 hx (hb hby d2_145) (Jvm.Free.XT.ii_le_t hc162) (q := 150) (by decide) (by decide) ?_
                refine Go.aloadN X0 hx (hb hby d2_150) rfl rfl (q := 151) rfl ?_
                refine Go.iloadN X0 hx (hb hby d2_151) rfl (q := 152) rfl ?_
                refine Go.iconst X0 hx (hb hby d2_152) (r := (1 : Int32)) rfl (q := 153) rfl ?_
                refine Go.iadd X0 hx (hb hby d2_153) rfl (q := 154) rfl ?_
                refine Go.bal X0 hx hZ e0 Va (own_in hn hp0 hp1 (1 : Int32) (by decide) (by decide) (show p.toInt + 1 < n.toInt by omega)) (v := (.int ((own_Y ys (p + (1 : Int32))).toInt8.toInt32))) (own_gb ys _) (hb hby d2_154) ?_
                refine Go.sipush X0 hx (hb hby d2_155) (r := (255 : Int32)) rfl (q := 158) rfl ?_
                refine Go.iand X0 hx (hb hby d2_158) rfl (q := 159) rfl ?_
                rw [own_b255 hys (p + (1 : Int32))]
                have bB := own_bd hys (p + (1 : Int32))
                generalize hB : (own_Y ys (p + (1 : Int32))) = B at bB ⊢
                show Go pp ee below _ (s₁.setTop (mkF mm 159 #[.val (.ref a), .val (.int p), .val (.int A), .val (.int (3 : Int32)), .val (.int (128 : Int32)), .val (.int (159 : Int32)), .unset, .unset, .unset] [(.int B)]))
                refine Go.istore X0 hx (hb hby d2_159) (l' := #[.val (.ref a), .val (.int p), .val (.int A), .val (.int (3 : Int32)), .val (.int (128 : Int32)), .val (.int (159 : Int32)), .val (.int B), .unset, .unset]) rfl (q := 161) rfl ?_
                refine Go.iload X0 hx (hb hby d2_161) rfl (q := 163) rfl ?_
                refine Go.iload X0 hx (hb hby d2_163) rfl (q := 165) rfl ?_
                by_cases hc163 : B < (128 : Int32)
                · have tc163 := (show (B).toInt < 128 from own_lt hc163)
                  refine Go.icmpYes X0 hx (hb hby d2_165) (Jvm.Free.XT.ii_lt_t hc163) (q := 175) (by decide) (by decide) ?_
                  refine Go.iconst X0 hx (hb hby d2_175) (r := (0 : Int32)) rfl (q := 176) rfl ?_
                  exact Go.retI X0 hx hret hlk (Or.inl rfl) rfl (hb hby d2_176) e0 (by decide) (by decide) ⟨by rw [show own_S ys n p = (0 : Int32) from by (simp only [own_S, hA, hB]); exact own_T0 (by omega)], N0, rfl⟩
                · have tc163 := (show ¬ (B).toInt < 128 from own_ltn hc163)
                  refine Go.icmpNo X0 hx (hb hby d2_165) (Jvm.Free.XT.ii_lt_f hc163) (q := 168) rfl ?_
                  refine Go.iload X0 hx (hb hby d2_168) rfl (q := 170) rfl ?_
                  refine Go.iload X0 hx (hb hby d2_170) rfl (q := 172) rfl ?_
                  by_cases hc164 : (159 : Int32) < B
                  · have tc164 := (show 159 < (B).toInt from own_lt hc164)
                    refine Go.icmpNo X0 hx (hb hby d2_172) (Jvm.Free.XT.ii_le_f hc164) (q := 175) rfl ?_
                    refine Go.iconst X0 hx (hb hby d2_175) (r := (0 : Int32)) rfl (q := 176) rfl ?_
                    exact Go.retI X0 hx hret hlk (Or.inl rfl) rfl (hb hby d2_176) e0 (by decide) (by decide) ⟨by rw [show own_S ys n p = (0 : Int32) from by (simp only [own_S, hA, hB]); exact own_T0 (by omega)], N0, rfl⟩
                  · have tc164 := (show ¬ 159 < (B).toInt from own_ltn hc164)
                    refine Go.icmpYes X0 hx (hb hby d2_172) (Jvm.Free.XT.ii_le_t hc164) (q := 177) (by decide) (by decide) ?_
                    refine Go.iloadN X0 hx (hb hby d2_177) rfl (q := 178) rfl ?_
                    refine Go.iconst X0 hx (hb hby d2_178) (r := (2 : Int32)) rfl (q := 179) rfl ?_
                    refine Go.iadd X0 hx (hb hby d2_179) rfl (q := 180) rfl ?_
                    refine Go.istore X0 hx (hb hby d2_180) (l' := #[.val (.ref a), .val (.int p), .val (.int A), .val (.int (3 : Int32)), .val (.int (128 : Int32)), .val (.int (159 : Int32)), .val (.int B), .val (.int (p + (2 : Int32))), .unset]) rfl (q := 182) rfl ?_
                    refine Go.iload X0 hx (hb hby d2_182) rfl (q := 184) rfl ?_
                    refine Go.iloadN X0 hx (hb hby d2_184) rfl (q := 185) rfl ?_
                    refine Go.iloadN X0 hx (hb hby d2_185) rfl (q := 186) rfl ?_
                    refine Go.iadd X0 hx (hb hby d2_186) rfl (q := 187) rfl ?_
                    refine Go.icmpNo X0 hx (hb hby d2_187) (Jvm.Free.XT.ii_ge_f (own_plt kp2 kp3 (by decide))) (q := 190) rfl ?_
                    refine Go.aloadN X0 hx (hb hby d2_190) rfl rfl (q := 191) rfl ?_
                    refine Go.iload X0 hx (hb hby d2_191) rfl (q := 193) rfl ?_
                    refine Go.bal X0 hx hZ e0 Va (own_in hn hp0 hp1 (2 : Int32) (by decide) (by decide) (show p.toInt + 2 < n.toInt by omega)) (v := (.int ((own_Y ys (p + (2 : Int32))).toInt8.toInt32))) (own_gb ys _) (hb hby d2_193) ?_
                    refine Go.sipush X0 hx (hb hby d2_194) (r := (255 : Int32)) rfl (q := 197) rfl ?_
                    refine Go.iand X0 hx (hb hby d2_197) rfl (q := 198) rfl ?_
                    rw [own_b255 hys (p + (2 : Int32))]
                    have bC := own_bd hys (p + (2 : Int32))
                    generalize hC : (own_Y ys (p + (2 : Int32))) = C at bC ⊢
                    show Go pp ee below _ (s₁.setTop (mkF mm 198 #[.val (.ref a), .val (.int p), .val (.int A), .val (.int (3 : Int32)), .val (.int (128 : Int32)), .val (.int (159 : Int32)), .val (.int B), .val (.int (p + (2 : Int32))), .unset] [(.int C)]))
                    refine Go.istore X0 hx (hb hby d2_198) (l' := #[.val (.ref a), .val (.int p), .val (.int A), .val (.int (3 : Int32)), .val (.int (128 : Int32)), .val (.int (159 : Int32)), .val (.int B), .val (.int (p + (2 : Int32))), .val (.int C)]) rfl (q := 200) rfl ?_
                    refine Go.iload X0 hx (hb hby d2_200) rfl (q := 202) rfl ?_
                    refine Go.sipush X0 hx (hb hby d2_202) (r := (128 : Int32)) rfl (q := 205) rfl ?_
                    by_cases hc165 : C < (128 : Int32)
                    · have tc165 := (show (C).toInt < 128 from own_lt hc165)
                      refine Go.icmpYes X0 hx (hb hby d2_205) (Jvm.Free.XT.ii_lt_t hc165) (q := 216) (by decide) (by decide) ?_
                      refine Go.iconst X0 hx (hb hby d2_216) (r := (0 : Int32)) rfl (q := 217) rfl ?_
                      exact Go.retI X0 hx hret hlk (Or.inl rfl) rfl (hb hby d2_217) e0 (by decide) (by decide) ⟨by rw [show own_S ys n p = (0 : Int32) from by (simp only [own_S, hA, hB, hC]); exact own_T0 (by omega)], N0, rfl⟩
                    · have tc165 := (show ¬ (C).toInt < 128 from own_ltn hc165)
                      refine Go.icmpNo X0 hx (hb hby d2_205) (Jvm.Free.XT.ii_lt_f hc165) (q := 208) rfl ?_
                      refine Go.iload X0 hx (hb hby d2_208) rfl (q := 210) rfl ?_
                      refine Go.sipush X0 hx (hb hby d2_210) (r := (191 : Int32)) rfl (q := 213) rfl ?_
                      by_cases hc166 : (191 : Int32) < C
                      · have tc166 := (show 191 < (C).toInt from own_lt hc166)
                        refine Go.icmpNo X0 hx (hb hby d2_213) (Jvm.Free.XT.ii_le_f hc166) (q := 216) rfl ?_
                        refine Go.iconst X0 hx (hb hby d2_216) (r := (0 : Int32)) rfl (q := 217) rfl ?_
                        exact Go.retI X0 hx hret hlk (Or.inl rfl) rfl (hb hby d2_217) e0 (by decide) (by decide) ⟨by rw [show own_S ys n p = (0 : Int32) from by (simp only [own_S, hA, hB, hC]); exact own_T0 (by omega)], N0, rfl⟩
                      · have tc166 := (show ¬ 191 < (C).toInt from own_ltn hc166)
                        refine Go.icmpYes X0 hx (hb hby d2_213) (Jvm.Free.XT.ii_le_t hc166) (q := 218) (by decide) (by decide) ?_
                        refine Go.iinc X0 hx (hb hby d2_218) rfl (r := ((p + (2 : Int32)) + (1 : Int32))) rfl (l' := #[.val (.ref a), .val (.int p), .val (.int A), .val (.int (3 : Int32)), .val (.int (128 : Int32)), .val (.int (159 : Int32)), .val (.int B), .val (.int ((p + (2 : Int32)) + (1 : Int32))), .val (.int C)]) rfl (q := 221) rfl ?_
                        refine Go.goto X0 hx (hb hby d2_221) (q := 182) (by decide) (by decide) ?_
                        rw [own_pp p (2 : Int32) (1 : Int32) (3 : Int32) rfl]
                        show Go pp ee below _ (s₁.setTop (mkF mm 182 #[.val (.ref a), .val (.int p), .val (.int A), .val (.int (3 : Int32)), .val (.int (128 : Int32)), .val (.int (159 : Int32)), .val (.int B), .val (.int (p + (3 : Int32))), .val (.int C)] []))
                        refine Go.iload X0 hx (hb hby d2_182) rfl (q := 184) rfl ?_
                        refine Go.iloadN X0 hx (hb hby d2_184) rfl (q := 185) rfl ?_
                        refine Go.iloadN X0 hx (hb hby d2_185) rfl (q := 186) rfl ?_
                        refine Go.iadd X0 hx (hb hby d2_186) rfl (q := 187) rfl ?_
                        refine Go.icmpYes X0 hx (hb hby d2_187) (Jvm.Free.XT.ii_ge_t (own_pnl kp3 kp3 (by decide))) (q := 224) (by decide) (by decide) ?_
                        refine Go.iloadN X0 hx (hb hby d2_224) rfl (q := 225) rfl ?_
                        exact Go.retI X0 hx hret hlk (Or.inl rfl) rfl (hb hby d2_225) e0 (by decide) (by decide) ⟨by rw [show own_S ys n p = (3 : Int32) from by (simp only [own_S, hA, hB, hC]); exact own_T3 (by omega)], N0, rfl⟩
            · have tc161 := (show ¬ (A).toInt = 237 from own_eqn hc161)
              refine Go.icmpYes X0 hx (hb hby d2_81) (Jvm.Free.XT.ii_ne_t hc161) (q := 140) (by decide) (by decide) ?_
              refine Go.iloadN X0 hx (hb hby d2_140) rfl (q := 141) rfl ?_
              refine Go.iloadN X0 hx (hb hby d2_141) rfl (q := 142) rfl ?_
              refine Go.iadd X0 hx (hb hby d2_142) rfl (q := 143) rfl ?_
              refine Go.aloadN X0 hx (hb hby d2_143) rfl rfl (q := 144) rfl ?_
              refine Go.alen X0 hx hZ e0 Va (hb hby d2_144) ?_
              by_cases hc167 : n < (p + (3 : Int32))
              · have tc167 := (show (n).toInt < ((p + (3 : Int32))).toInt from own_lt hc167)
                refine Go.icmpNo X0 hx (hb hby d2_145) (Jvm.Free.XT.ii_le_f hc167) (q := 148) rfl ?_
                refine Go.iconst X0 hx (hb hby d2_148) (r := (0 : Int32)) rfl (q := 149) rfl ?_
                exact Go.retI X0 hx hret hlk (Or.inl rfl) rfl (hb hby d2_149) e0 (by decide) (by decide) ⟨by rw [show own_S ys n p = (0 : Int32) from by (simp only [own_S, hA]); exact own_T0 (by omega)], N0, rfl⟩
              · have tc167 := (show ¬ (n).toInt < ((p + (3 : Int32))).toInt from own_ltn hc167)
                refine Go.icmpYes X0 hx (hb hby d2_145) (Jvm.Free.XT.ii_le_t hc167) (q := 150) (by decide) (by decide) ?_
                refine Go.aloadN X0 hx (hb hby d2_150) rfl rfl (q := 151) rfl ?_
                refine Go.iloadN X0 hx (hb hby d2_151) rfl (q := 152) rfl ?_
                refine Go.iconst X0 hx (hb hby d2_152) (r := (1 : Int32)) rfl (q := 153) rfl ?_
                refine Go.iadd X0 hx (hb hby d2_153) rfl (q := 154) rfl ?_
                refine Go.bal X0 hx hZ e0 Va (own_in hn hp0 hp1 (1 : Int32) (by decide) (by decide) (show p.toInt + 1 < n.toInt by omega)) (v := (.int ((own_Y ys (p + (1 : Int32))).toInt8.toInt32))) (own_gb ys _) (hb hby d2_154) ?_
                refine Go.sipush X0 hx (hb hby d2_155) (r := (255 : Int32)) rfl (q := 158) rfl ?_
                refine Go.iand X0 hx (hb hby d2_158) rfl (q := 159) rfl ?_
                rw [own_b255 hys (p + (1 : Int32))]
                have bB := own_bd hys (p + (1 : Int32))
                generalize hB : (own_Y ys (p + (1 : Int32))) = B at bB ⊢
                show Go pp ee below _ (s₁.setTop (mkF mm 159 #[.val (.ref a), .val (.int p), .val (.int A), .val (.int (3 : Int32)), .val (.int (128 : Int32)), .val (.int (191 : Int32)), .unset, .unset, .unset] [(.int B)]))
                refine Go.istore X0 hx (hb hby d2_159) (l' := #[.val (.ref a), .val (.int p), .val (.int A), .val (.int (3 : Int32)), .val (.int (128 : Int32)), .val (.int (191 : Int32)), .val (.int B), .unset, .unset]) rfl (q := 161) rfl ?_
                refine Go.iload X0 hx (hb hby d2_161) rfl (q := 163) rfl ?_
                refine Go.iload X0 hx (hb hby d2_163) rfl (q := 165) rfl ?_
                by_cases hc168 : B < (128 : Int32)
                · have tc168 := (show (B).toInt < 128 from own_lt hc168)
                  refine Go.icmpYes X0 hx (hb hby d2_165) (Jvm.Free.XT.ii_lt_t hc168) (q := 175) (by decide) (by decide) ?_
                  refine Go.iconst X0 hx (hb hby d2_175) (r := (0 : Int32)) rfl (q := 176) rfl ?_
                  exact Go.retI X0 hx hret hlk (Or.inl rfl) rfl (hb hby d2_176) e0 (by decide) (by decide) ⟨by rw [show own_S ys n p = (0 : Int32) from by (simp only [own_S, hA, hB]); exact own_T0 (by omega)], N0, rfl⟩
                · have tc168 := (show ¬ (B).toInt < 128 from own_ltn hc168)
                  refine Go.icmpNo X0 hx (hb hby d2_165) (Jvm.Free.XT.ii_lt_f hc168) (q := 168) rfl ?_
                  refine Go.iload X0 hx (hb hby d2_168) rfl (q := 170) rfl ?_
                  refine Go.iload X0 hx (hb hby d2_170) rfl (q := 172) rfl ?_
                  by_cases hc169 : (191 : Int32) < B
                  · have tc169 := (show 191 < (B).toInt from own_lt hc169)
                    refine Go.icmpNo X0 hx (hb hby d2_172) (Jvm.Free.XT.ii_le_f hc169) (q := 175) rfl ?_
                    refine Go.iconst X0 hx (hb hby d2_175) (r := (0 : Int32)) rfl (q := 176) rfl ?_
                    exact Go.retI X0 hx hret hlk (Or.inl rfl) rfl (hb hby d2_176) e0 (by decide) (by decide) ⟨by rw [show own_S ys n p = (0 : Int32) from by (simp only [own_S, hA, hB]); exact own_T0 (by omega)], N0, rfl⟩
                  · have tc169 := (show ¬ 191 < (B).toInt from own_ltn hc169)
                    refine Go.icmpYes X0 hx (hb hby d2_172) (Jvm.Free.XT.ii_le_t hc169) (q := 177) (by decide) (by decide) ?_
                    refine Go.iloadN X0 hx (hb hby d2_177) rfl (q := 178) rfl ?_
                    refine Go.iconst X0 hx (hb hby d2_178) (r := (2 : Int32)) rfl (q := 179) rfl ?_
                    refine Go.iadd X0 hx (hb hby d2_179) rfl (q := 180) rfl ?_
                    refine Go.istore X0 hx (hb hby d2_180) (l' := #[.val (.ref a), .val (.int p), .val (.int A), .val (.int (3 : Int32)), .val (.int (128 : Int32)), .val (.int (191 : Int32)), .val (.int B), .val (.int (p + (2 : Int32))), .unset]) rfl (q := 182) rfl ?_
                    refine Go.iload X0 hx (hb hby d2_182) rfl (q := 184) rfl ?_
                    refine Go.iloadN X0 hx (hb hby d2_184) rfl (q := 185) rfl ?_
                    refine Go.iloadN X0 hx (hb hby d2_185) rfl (q := 186) rfl ?_
                    refine Go.iadd X0 hx (hb hby d2_186) rfl (q := 187) rfl ?_
                    refine Go.icmpNo X0 hx (hb hby d2_187) (Jvm.Free.XT.ii_ge_f (own_plt kp2 kp3 (by decide))) (q := 190) rfl ?_
                    refine Go.aloadN X0 hx (hb hby d2_190) rfl rfl (q := 191) rfl ?_
                    refine Go.iload X0 hx (hb hby d2_191) rfl (q := 193) rfl ?_
                    refine Go.bal X0 hx hZ e0 Va (own_in hn hp0 hp1 (2 : Int32) (by decide) (by decide) (show p.toInt + 2 < n.toInt by omega)) (v := (.int ((own_Y ys (p + (2 : Int32))).toInt8.toInt32))) (own_gb ys _) (hb hby d2_193) ?_
                    refine Go.sipush X0 hx (hb hby d2_194) (r := (255 : Int32)) rfl (q := 197) rfl ?_
                    refine Go.iand X0 hx (hb hby d2_197) rfl (q := 198) rfl ?_
                    rw [own_b255 hys (p + (2 : Int32))]
                    have bC := own_bd hys (p + (2 : Int32))
                    generalize hC : (own_Y ys (p + (2 : Int32))) = C at bC ⊢
                    show Go pp ee below _ (s₁.setTop (mkF mm 198 #[.val (.ref a), .val (.int p), .val (.int A), .val (.int (3 : Int32)), .val (.int (128 : Int32)), .val (.int (191 : Int32)), .val (.int B), .val (.int (p + (2 : Int32))), .unset] [(.int C)]))
                    refine Go.istore X0 hx (hb hby d2_198) (l' := #[.val (.ref a), .val (.int p), .val (.int A), .val (.int (3 : Int32)), .val (.int (128 : Int32)), .val (.int (191 : Int32)), .val (.int B), .val (.int (p + (2 : Int32))), .val (.int C)]) rfl (q := 200) rfl ?_
                    refine Go.iload X0 hx (hb hby d2_200) rfl (q := 202) rfl ?_
                    refine Go.sipush X0 hx (hb hby d2_202) (r := (128 : Int32)) rfl (q := 205) rfl ?_
                    by_cases hc170 : C < (128 : Int32)
                    · have tc170 := (show (C).toInt < 128 from own_lt hc170)
                      refine Go.icmpYes X0 hx (hb hby d2_205) (Jvm.Free.XT.ii_lt_t hc170) (q := 216) (by decide) (by decide) ?_
                      refine Go.iconst X0 hx (hb hby d2_216) (r := (0 : Int32)) rfl (q := 217) rfl ?_
                      exact Go.retI X0 hx hret hlk (Or.inl rfl) rfl (hb hby d2_217) e0 (by decide) (by decide) ⟨by rw [show own_S ys n p = (0 : Int32) from by (simp only [own_S, hA, hB, hC]); exact own_T0 (by omega)], N0, rfl⟩
                    · have tc170 := (show ¬ (C).toInt < 128 from own_ltn hc170)
                      refine Go.icmpNo X0 hx (hb hby d2_205) (Jvm.Free.XT.ii_lt_f hc170) (q := 208) rfl ?_
                      refine Go.iload X0 hx (hb hby d2_208) rfl (q := 210) rfl ?_
                      refine Go.sipush X0 hx (hb hby d2_210) (r := (191 : Int32)) rfl (q := 213) rfl ?_
                      by_cases hc171 : (191 : Int32) < C
                      · have tc171 := (show 191 < (C).toInt from own_lt hc171)
                        refine Go.icmpNo X0 hx (hb hby d2_213) (Jvm.Free.XT.ii_le_f hc171) (q := 216) rfl ?_
                        refine Go.iconst X0 hx (hb hby d2_216) (r := (0 : Int32)) rfl (q := 217) rfl ?_
                        exact Go.retI X0 hx hret hlk (Or.inl rfl) rfl (hb hby d2_217) e0 (by decide) (by decide) ⟨by rw [show own_S ys n p = (0 : Int32) from by (simp only [own_S, hA, hB, hC]); exact own_T0 (by omega)], N0, rfl⟩
                      · have tc171 := (show ¬ 191 < (C).toInt from own_ltn hc171)
                        refine Go.icmpYes X0 hx (hb hby d2_213) (Jvm.Free.XT.ii_le_t hc171) (q := 218) (by decide) (by decide) ?_
                        refine Go.iinc X0 hx (hb hby d2_218) rfl (r := ((p + (2 : Int32)) + (1 : Int32))) rfl (l' := #[.val (.ref a), .val (.int p), .val (.int A), .val (.int (3 : Int32)), .val (.int (128 : Int32)), .val (.int (191 : Int32)), .val (.int B), .val (.int ((p + (2 : Int32)) + (1 : Int32))), .val (.int C)]) rfl (q := 221) rfl ?_
                        refine Go.goto X0 hx (hb hby d2_221) (q := 182) (by decide) (by decide) ?_
                        rw [own_pp p (2 : Int32) (1 : Int32) (3 : Int32) rfl]
                        show Go pp ee below _ (s₁.setTop (mkF mm 182 #[.val (.ref a), .val (.int p), .val (.int A), .val (.int (3 : Int32)), .val (.int (128 : Int32)), .val (.int (191 : Int32)), .val (.int B), .val (.int (p + (3 : Int32))), .val (.int C)] []))
                        refine Go.iload X0 hx (hb hby d2_182) rfl (q := 184) rfl ?_
                        refine Go.iloadN X0 hx (hb hby d2_184) rfl (q := 185) rfl ?_
                        refine Go.iloadN X0 hx (hb hby d2_185) rfl (q := 186) rfl ?_
                        refine Go.iadd X0 hx (hb hby d2_186) rfl (q := 187) rfl ?_
                        refine Go.icmpYes X0 hx (hb hby d2_187) (Jvm.Free.XT.ii_ge_t (own_pnl kp3 kp3 (by decide))) (q := 224) (by decide) (by decide) ?_
                        refine Go.iloadN X0 hx (hb hby d2_224) rfl (q := 225) rfl ?_
                        exact Go.retI X0 hx hret hlk (Or.inl rfl) rfl (hb hby d2_225) e0 (by decide) (by decide) ⟨by rw [show own_S ys n p = (3 : Int32) from by (simp only [own_S, hA, hB, hC]); exact own_T3 (by omega)], N0, rfl⟩
    · have tc102 := (show ¬ (A).toInt < 194 from own_ltn hc102)
      refine Go.icmpNo X0 hx (hb hby d2_31) (Jvm.Free.XT.ii_lt_f hc102) (q := 34) rfl ?_
      refine Go.iloadN X0 hx (hb hby d2_34) rfl (q := 35) rfl ?_
      refine Go.sipush X0 hx (hb hby d2_35) (r := (223 : Int32)) rfl (q := 38) rfl ?_
      by_cases hc172 : (223 : Int32) < A
      · have tc172 := (show 223 < (A).toInt from own_lt hc172)
        refine Go.icmpYes X0 hx (hb hby d2_38) (Jvm.Free.XT.ii_gt_t hc172) (q := 46) (by decide) (by decide) ?_
        refine Go.iloadN X0 hx (hb hby d2_46) rfl (q := 47) rfl ?_
        refine Go.sipush X0 hx (hb hby d2_47) (r := (224 : Int32)) rfl (q := 50) rfl ?_
        by_cases hc173 : A < (224 : Int32)
        · have tc173 := (show (A).toInt < 224 from own_lt hc173)
          refine Go.icmpYes X0 hx (hb hby d2_50) (Jvm.Free.XT.ii_lt_t hc173) (q := 92) (by decide) (by decide) ?_
          refine Go.iloadN X0 hx (hb hby d2_92) rfl (q := 93) rfl ?_
          refine Go.sipush X0 hx (hb hby d2_93) (r := (240 : Int32)) rfl (q := 96) rfl ?_
          by_cases hc174 : A < (240 : Int32)
          · have tc174 := (show (A).toInt < 240 from own_lt hc174)
            refine Go.icmpYes X0 hx (hb hby d2_96) (Jvm.Free.XT.ii_lt_t hc174) (q := 138) (by decide) (by decide) ?_
            refine Go.iconst X0 hx (hb hby d2_138) (r := (0 : Int32)) rfl (q := 139) rfl ?_
            exact Go.retI X0 hx hret hlk (Or.inl rfl) rfl (hb hby d2_139) e0 (by decide) (by decide) ⟨by rw [show own_S ys n p = (0 : Int32) from by (simp only [own_S, hA]); exact own_T0 (by omega)], N0, rfl⟩
          · have tc174 := (show ¬ (A).toInt < 240 from own_ltn hc174)
            refine Go.icmpNo X0 hx (hb hby d2_96) (Jvm.Free.XT.ii_lt_f hc174) (q := 99) rfl ?_
            refine Go.iloadN X0 hx (hb hby d2_99) rfl (q := 100) rfl ?_
            refine Go.sipush X0 hx (hb hby d2_100) (r := (244 : Int32)) rfl (q := 103) rfl ?_
            by_cases hc175 : (244 : Int32) < A
            · have tc175 := (show 244 < (A).toInt from own_lt hc175)
              refine Go.icmpYes X0 hx (hb hby d2_103) (Jvm.Free.XT.ii_gt_t hc175) (q := 138) (by decide) (by decide) ?_
              refine Go.iconst X0 hx (hb hby d2_138) (r := (0 : Int32)) rfl (q := 139) rfl ?_
              exact Go.retI X0 hx hret hlk (Or.inl rfl) rfl (hb hby d2_139) e0 (by decide) (by decide) ⟨by rw [show own_S ys n p = (0 : Int32) from by (simp only [own_S, hA]); exact own_T0 (by omega)], N0, rfl⟩
            · have tc175 := (show ¬ 244 < (A).toInt from own_ltn hc175)
              refine Go.icmpNo X0 hx (hb hby d2_103) (Jvm.Free.XT.ii_gt_f hc175) (q := 106) rfl ?_
              refine Go.iconst X0 hx (hb hby d2_106) (r := (4 : Int32)) rfl (q := 107) rfl ?_
              refine Go.istoreN X0 hx (hb hby d2_107) (l' := #[.val (.ref a), .val (.int p), .val (.int A), .val (.int (4 : Int32)), .val (.int (128 : Int32)), .val (.int (191 : Int32)), .unset, .unset, .unset]) rfl (q := 108) rfl ?_
              refine Go.iloadN X0 hx (hb hby d2_108) rfl (q := 109) rfl ?_
              refine Go.sipush X0 hx (hb hby d2_109) (r := (240 : Int32)) rfl (q := 112) rfl ?_
              by_cases hc176 : A = (240 : Int32)
              · have tc176 := (show (A).toInt = 240 from own_eq hc176)
                refine Go.icmpNo X0 hx (hb hby d2_112) (Jvm.Free.XT.ii_ne_f hc176) (q := 115) rfl ?_
                refine Go.sipush X0 hx (hb hby d2_115) (r := (144 : Int32)) rfl (q := 118) rfl ?_
                refine Go.istore X0 hx (hb hby d2_118) (l' := #[.val (.ref a), .val (.int p), .val (.int A), .val (.int (4 : Int32)), .val (.int (144 : Int32)), .val (.int (191 : Int32)), .unset, .unset, .unset]) rfl (q := 120) rfl ?_
                refine Go.goto X0 hx (hb hby d2_120) (q := 140) (by decide) (by decide) ?_
                refine Go.iloadN X0 hx (hb hby d2_140) rfl (q := 141) rfl ?_
                refine Go.iloadN X0 hx (hb hby d2_141) rfl (q := 142) rfl ?_
                refine Go.iadd X0 hx (hb hby d2_142) rfl (q := 143) rfl ?_
                refine Go.aloadN X0 hx (hb hby d2_143) rfl rfl (q := 144) rfl ?_
                refine Go.alen X0 hx hZ e0 Va (hb hby d2_144) ?_
                by_cases hc177 : n < (p + (4 : Int32))
                · have tc177 := (show (n).toInt < ((p + (4 : Int32))).toInt from own_lt hc177)
                  refine Go.icmpNo X0 hx (hb hby d2_145) (Jvm.Free.XT.ii_le_f hc177) (q := 148) rfl ?_
                  refine Go.iconst X0 hx (hb hby d2_148) (r := (0 : Int32)) rfl (q := 149) rfl ?_
                  exact Go.retI X0 hx hret hlk (Or.inl rfl) rfl (hb hby d2_149) e0 (by decide) (by decide) ⟨by rw [show own_S ys n p = (0 : Int32) from by (simp only [own_S, hA]); exact own_T0 (by omega)], N0, rfl⟩
                · have tc177 := (show ¬ (n).toInt < ((p + (4 : Int32))).toInt from own_ltn hc177)
                  refine Go.icmpYes X0 hx (hb hby d2_145) (Jvm.Free.XT.ii_le_t hc177) (q := 150) (by decide) (by decide) ?_
                  refine Go.aloadN X0 hx (hb hby d2_150) rfl rfl (q := 151) rfl ?_
                  refine Go.iloadN X0 hx (hb hby d2_151) rfl (q := 152) rfl ?_
                  refine Go.iconst X0 hx (hb hby d2_152) (r := (1 : Int32)) rfl (q := 153) rfl ?_
                  refine Go.iadd X0 hx (hb hby d2_153) rfl (q := 154) rfl ?_
                  refine Go.bal X0 hx hZ e0 Va (own_in hn hp0 hp1 (1 : Int32) (by decide) (by decide) (show p.toInt + 1 < n.toInt by omega)) (v := (.int ((own_Y ys (p + (1 : Int32))).toInt8.toInt32))) (own_gb ys _) (hb hby d2_154) ?_
                  refine Go.sipush X0 hx (hb hby d2_155) (r := (255 : Int32)) rfl (q := 158) rfl ?_
                  refine Go.iand X0 hx (hb hby d2_158) rfl (q := 159) rfl ?_
                  rw [own_b255 hys (p + (1 : Int32))]
                  have bB := own_bd hys (p + (1 : Int32))
                  generalize hB : (own_Y ys (p + (1 : Int32))) = B at bB ⊢
                  show Go pp ee below _ (s₁.setTop (mkF mm 159 #[.val (.ref a), .val (.int p), .val (.int A), .val (.int (4 : Int32)), .val (.int (144 : Int32)), .val (.int (191 : Int32)), .unset, .unset, .unset] [(.int B)]))
                  refine Go.istore X0 hx (hb hby d2_159) (l' := #[.val (.ref a), .val (.int p), .val (.int A), .val (.int (4 : Int32)), .val (.int (144 : Int32)), .val (.int (191 : Int32)), .val (.int B), .unset, .unset]) rfl (q := 161) rfl ?_
                  refine Go.iload X0 hx (hb hby d2_161) rfl (q := 163) rfl ?_
                  refine Go.iload X0 hx (hb hby d2_163) rfl (q := 165) rfl ?_
                  by_cases hc178 : B < (144 : Int32)
                  · have tc178 := (show (B).toInt < 144 from own_lt hc178)
                    refine Go.icmpYes X0 hx (hb hby d2_165) (Jvm.Free.XT.ii_lt_t hc178) (q := 175) (by decide) (by decide) ?_
                    refine Go.iconst X0 hx (hb hby d2_175) (r := (0 : Int32)) rfl (q := 176) rfl ?_
                    exact Go.retI X0 hx hret hlk (Or.inl rfl) rfl (hb hby d2_176) e0 (by decide) (by decide) ⟨by rw [show own_S ys n p = (0 : Int32) from by (simp only [own_S, hA, hB]); exact own_T0 (by omega)], N0, rfl⟩
                  · have tc178 := (show ¬ (B).toInt < 144 from own_ltn hc178)
                    refine Go.icmpNo X0 hx (hb hby d2_165) (Jvm.Free.XT.ii_lt_f hc178) (q := 168) rfl ?_
                    refine Go.iload X0 hx (hb hby d2_168) rfl (q := 170) rfl ?_
                    refine Go.iload X0 hx (hb hby d2_170) rfl (q := 172) rfl ?_
                    by_cases hc179 : (191 : Int32) < B
                    · have tc179 := (show 191 < (B).toInt from own_lt hc179)
                      refine Go.icmpNo X0 hx (hb hby d2_172) (Jvm.Free.XT.ii_le_f hc179) (q := 175) rfl ?_
                      refine Go.iconst X0 hx (hb hby d2_175) (r := (0 : Int32)) rfl (q := 176) rfl ?_
                      exact Go.retI X0 hx hret hlk (Or.inl rfl) rfl (hb hby d2_176) e0 (by decide) (by decide) ⟨by rw [show own_S ys n p = (0 : Int32) from by (simp only [own_S, hA, hB]); exact own_T0 (by omega)], N0, rfl⟩
                    · have tc179 := (show ¬ 191 < (B).toInt from own_ltn hc179)
                      refine Go.icmpYes X0 hx (hb hby d2_172) (Jvm.Free.XT.ii_le_t hc179) (q := 177) (by decide) (by decide) ?_
                      refine Go.iloadN X0 hx (hb hby d2_177) rfl (q := 178) rfl ?_
                      refine Go.iconst X0 hx (hb hby d2_178) (r := (2 : Int32)) rfl (q := 179) rfl ?_
                      refine Go.iadd X0 hx (hb hby d2_179) rfl (q := 180) rfl ?_
                      refine Go.istore X0 hx (hb hby d2_180) (l' := #[.val (.ref a), .val (.int p), .val (.int A), .val (.int (4 : Int32)), .val (.int (144 : Int32)), .val (.int (191 : Int32)), .val (.int B), .val (.int (p + (2 : Int32))), .unset]) rfl (q := 182) rfl ?_
                      refine Go.iload X0 hx (hb hby d2_182) rfl (q := 184) rfl ?_
                      refine Go.iloadN X0 hx (hb hby d2_184) rfl (q := 185) rfl ?_
                      refine Go.iloadN X0 hx (hb hby d2_185) rfl (q := 186) rfl ?_
                      refine Go.iadd X0 hx (hb hby d2_186) rfl (q := 187) rfl ?_
                      refine Go.icmpNo X0 hx (hb hby d2_187) (Jvm.Free.XT.ii_ge_f (own_plt kp2 kp4 (by decide))) (q := 190) rfl ?_
                      refine Go.aloadN X0 hx (hb hby d2_190) rfl rfl (q := 191) rfl ?_
                      refine Go.iload X0 hx (hb hby d2_191) rfl (q := 193) rfl ?_
                      refine Go.bal X0 hx hZ e0 Va (own_in hn hp0 hp1 (2 : Int32) (by decide) (by decide) (show p.toInt + 2 < n.toInt by omega)) (v := (.int ((own_Y ys (p + (2 : Int32))).toInt8.toInt32))) (own_gb ys _) (hb hby d2_193) ?_
                      refine Go.sipush X0 hx (hb hby d2_194) (r := (255 : Int32)) rfl (q := 197) rfl ?_
                      refine Go.iand X0 hx (hb hby d2_197) rfl (q := 198) rfl ?_
                      rw [own_b255 hys (p + (2 : Int32))]
                      have bC := own_bd hys (p + (2 : Int32))
                      generalize hC : (own_Y ys (p + (2 : Int32))) = C at bC ⊢
                      show Go pp ee below _ (s₁.setTop (mkF mm 198 #[.val (.ref a), .val (.int p), .val (.int A), .val (.int (4 : Int32)), .val (.int (144 : Int32)), .val (.int (191 : Int32)), .val (.int B), .val (.int (p + (2 : Int32))), .unset] [(.int C)]))
                      refine Go.istore X0 hx (hb hby d2_198) (l' := #[.val (.ref a), .val (.int p), .val (.int A), .val (.int (4 : Int32)), .val (.int (144 : Int32)), .val (.int (191 : Int32)), .val (.int B), .val (.int (p + (2 : Int32))), .val (.int C)]) rfl (q := 200) rfl ?_
                      refine Go.iload X0 hx (hb hby d2_200) rfl (q := 202) rfl ?_
                      refine Go.sipush X0 hx (hb hby d2_202) (r := (128 : Int32)) rfl (q := 205) rfl ?_
                      by_cases hc180 : C < (128 : Int32)
                      · have tc180 := (show (C).toInt < 128 from own_lt hc180)
                        refine Go.icmpYes X0 hx (hb hby d2_205) (Jvm.Free.XT.ii_lt_t hc180) (q := 216) (by decide) (by decide) ?_
                        refine Go.iconst X0 hx (hb hby d2_216) (r := (0 : Int32)) rfl (q := 217) rfl ?_
                        exact Go.retI X0 hx hret hlk (Or.inl rfl) rfl (hb hby d2_217) e0 (by decide) (by decide) ⟨by rw [show own_S ys n p = (0 : Int32) from by (simp only [own_S, hA, hB, hC]); exact own_T0 (by omega)], N0, rfl⟩
                      · have tc180 := (show ¬ (C).toInt < 128 from own_ltn hc180)
                        refine Go.icmpNo X0 hx (hb hby d2_205) (Jvm.Free.XT.ii_lt_f hc180) (q := 208) rfl ?_
                        refine Go.iload X0 hx (hb hby d2_208) rfl (q := 210) rfl ?_
                        refine Go.sipush X0 hx (hb hby d2_210) (r := (191 : Int32)) rfl (q := 213) rfl ?_
                        by_cases hc181 : (191 : Int32) < C
                        · have tc181 := (show 191 < (C).toInt from own_lt hc181)
                          refine Go.icmpNo X0 hx (hb hby d2_213) (Jvm.Free.XT.ii_le_f hc181) (q := 216) rfl ?_
                          refine Go.iconst X0 hx (hb hby d2_216) (r := (0 : Int32)) rfl (q := 217) rfl ?_
                          exact Go.retI X0 hx hret hlk (Or.inl rfl) rfl (hb hby d2_217) e0 (by decide) (by decide) ⟨by rw [show own_S ys n p = (0 : Int32) from by (simp only [own_S, hA, hB, hC]); exact own_T0 (by omega)], N0, rfl⟩
                        · have tc181 := (show ¬ 191 < (C).toInt from own_ltn hc181)
                          refine Go.icmpYes X0 hx (hb hby d2_213) (Jvm.Free.XT.ii_le_t hc181) (q := 218) (by decide) (by decide) ?_
                          refine Go.iinc X0 hx (hb hby d2_218) rfl (r := ((p + (2 : Int32)) + (1 : Int32))) rfl (l' := #[.val (.ref a), .val (.int p), .val (.int A), .val (.int (4 : Int32)), .val (.int (144 : Int32)), .val (.int (191 : Int32)), .val (.int B), .val (.int ((p + (2 : Int32)) + (1 : Int32))), .val (.int C)]) rfl (q := 221) rfl ?_
                          refine Go.goto X0 hx (hb hby d2_221) (q := 182) (by decide) (by decide) ?_
                          rw [own_pp p (2 : Int32) (1 : Int32) (3 : Int32) rfl]
                          show Go pp ee below _ (s₁.setTop (mkF mm 182 #[.val (.ref a), .val (.int p), .val (.int A), .val (.int (4 : Int32)), .val (.int (144 : Int32)), .val (.int (191 : Int32)), .val (.int B), .val (.int (p + (3 : Int32))), .val (.int C)] []))
                          refine Go.iload X0 hx (hb hby d2_182) rfl (q := 184) rfl ?_
                          refine Go.iloadN X0 hx (hb hby d2_184) rfl (q := 185) rfl ?_
                          refine Go.iloadN X0 hx (hb hby d2_185) rfl (q := 186) rfl ?_
                          refine Go.iadd X0 hx (hb hby d2_186) rfl (q := 187) rfl ?_
                          refine Go.icmpNo X0 hx (hb hby d2_187) (Jvm.Free.XT.ii_ge_f (own_plt kp3 kp4 (by decide))) (q := 190) rfl ?_
                          refine Go.aloadN X0 hx (hb hby d2_190) rfl rfl (q := 191) rfl ?_
                          refine Go.iload X0 hx (hb hby d2_191) rfl (q := 193) rfl ?_
                          refine Go.bal X0 hx hZ e0 Va (own_in hn hp0 hp1 (3 : Int32) (by decide) (by decide) (show p.toInt + 3 < n.toInt by omega)) (v := (.int ((own_Y ys (p + (3 : Int32))).toInt8.toInt32))) (own_gb ys _) (hb hby d2_193) ?_
                          refine Go.sipush X0 hx (hb hby d2_194) (r := (255 : Int32)) rfl (q := 197) rfl ?_
                          refine Go.iand X0 hx (hb hby d2_197) rfl (q := 198) rfl ?_
                          rw [own_b255 hys (p + (3 : Int32))]
                          have bD := own_bd hys (p + (3 : Int32))
                          generalize hD : (own_Y ys (p + (3 : Int32))) = D at bD ⊢
                          show Go pp ee below _ (s₁.setTop (mkF mm 198 #[.val (.ref a), .val (.int p), .val (.int A), .val (.int (4 : Int32)), .val (.int (144 : Int32)), .val (.int (191 : Int32)), .val (.int B), .val (.int (p + (3 : Int32))), .val (.int C)] [(.int D)]))
                          refine Go.istore X0 hx (hb hby d2_198) (l' := #[.val (.ref a), .val (.int p), .val (.int A), .val (.int (4 : Int32)), .val (.int (144 : Int32)), .val (.int (191 : Int32)), .val (.int B), .val (.int (p + (3 : Int32))), .val (.int D)]) rfl (q := 200) rfl ?_
                          refine Go.iload X0 hx (hb hby d2_200) rfl (q := 202) rfl ?_
                          refine Go.sipush X0 hx (hb hby d2_202) (r := (128 : Int32)) rfl (q := 205) rfl ?_
                          by_cases hc182 : D < (128 : Int32)
                          · have tc182 := (show (D).toInt < 128 from own_lt hc182)
                            refine Go.icmpYes X0 hx (hb hby d2_205) (Jvm.Free.XT.ii_lt_t hc182) (q := 216) (by decide) (by decide) ?_
                            refine Go.iconst X0 hx (hb hby d2_216) (r := (0 : Int32)) rfl (q := 217) rfl ?_
                            exact Go.retI X0 hx hret hlk (Or.inl rfl) rfl (hb hby d2_217) e0 (by decide) (by decide) ⟨by rw [show own_S ys n p = (0 : Int32) from by (simp only [own_S, hA, hB, hC, hD]); exact own_T0 (by omega)], N0, rfl⟩
                          · have tc182 := (show ¬ (D).toInt < 128 from own_ltn hc182)
                            refine Go.icmpNo X0 hx (hb hby d2_205) (Jvm.Free.XT.ii_lt_f hc182) (q := 208) rfl ?_
                            refine Go.iload X0 hx (hb hby d2_208) rfl (q := 210) rfl ?_
                            refine Go.sipush X0 hx (hb hby d2_210) (r := (191 : Int32)) rfl (q := 213) rfl ?_
                            by_cases hc183 : (191 : Int32) < D
                            · have tc183 := (show 191 < (D).toInt from own_lt hc183)
                              refine Go.icmpNo X0 hx (hb hby d2_213) (Jvm.Free.XT.ii_le_f hc183) (q := 216) rfl ?_
                              refine Go.iconst X0 hx (hb hby d2_216) (r := (0 : Int32)) rfl (q := 217) rfl ?_
                              exact Go.retI X0 hx hret hlk (Or.inl rfl) rfl (hb hby d2_217) e0 (by decide) (by decide) ⟨by rw [show own_S ys n p = (0 : Int32) from by (simp only [own_S, hA, hB, hC, hD]); exact own_T0 (by omega)], N0, rfl⟩
                            · have tc183 := (show ¬ 191 < (D).toInt from own_ltn hc183)
                              refine Go.icmpYes X0 hx (hb hby d2_213) (Jvm.Free.XT.ii_le_t hc183) (q := 218) (by decide) (by decide) ?_
                              refine Go.iinc X0 hx (hb hby d2_218) rfl (r := ((p + (3 : Int32)) + (1 : Int32))) rfl (l' := #[.val (.ref a), .val (.int p), .val (.int A), .val (.int (4 : Int32)), .val (.int (144 : Int32)), .val (.int (191 : Int32)), .val (.int B), .val (.int ((p + (3 : Int32)) + (1 : Int32))), .val (.int D)]) rfl (q := 221) rfl ?_
                              refine Go.goto X0 hx (hb hby d2_221) (q := 182) (by decide) (by decide) ?_
                              rw [own_pp p (3 : Int32) (1 : Int32) (4 : Int32) rfl]
                              show Go pp ee below _ (s₁.setTop (mkF mm 182 #[.val (.ref a), .val (.int p), .val (.int A), .val (.int (4 : Int32)), .val (.int (144 : Int32)), .val (.int (191 : Int32)), .val (.int B), .val (.int (p + (4 : Int32))), .val (.int D)] []))
                              refine Go.iload X0 hx (hb hby d2_182) rfl (q := 184) rfl ?_
                              refine Go.iloadN X0 hx (hb hby d2_184) rfl (q := 185) rfl ?_
                              refine Go.iloadN X0 hx (hb hby d2_185) rfl (q := 186) rfl ?_
                              refine Go.iadd X0 hx (hb hby d2_186) rfl (q := 187) rfl ?_
                              refine Go.icmpYes X0 hx (hb hby d2_187) (Jvm.Free.XT.ii_ge_t (own_pnl kp4 kp4 (by decide))) (q := 224) (by decide) (by decide) ?_
                              refine Go.iloadN X0 hx (hb hby d2_224) rfl (q := 225) rfl ?_
                              exact Go.retI X0 hx hret hlk (Or.inl rfl) rfl (hb hby d2_225) e0 (by decide) (by decide) ⟨by rw [show own_S ys n p = (4 : Int32) from by (simp only [own_S, hA, hB, hC, hD]); exact own_T4 (by omega)], N0, rfl⟩
              · have tc176 := (show ¬ (A).toInt = 240 from own_eqn hc176)
                refine Go.icmpYes X0 hx (hb hby d2_112) (Jvm.Free.XT.ii_ne_t hc176) (q := 123) (by decide) (by decide) ?_
                refine Go.iloadN X0 hx (hb hby d2_123) rfl (q := 124) rfl ?_
                refine Go.sipush X0 hx (hb hby d2_124) (r := (244 : Int32)) rfl (q := 127) rfl ?_
                by_cases hc184 : A = (244 : Int32)
                · have tc184 := (show (A).toInt = 244 from own_eq hc184)
                  refine Go.icmpNo X0 hx (hb hby d2_127) (Jvm.Free.XT.ii_ne_f hc184) (q := 130) rfl ?_
                  refine Go.sipush X0 hx (hb hby d2_130) (r := (143 : Int32)) rfl (q := 133) rfl ?_
                  refine Go.istore X0 hx (hb hby d2_133) (l' := #[.val (.ref a), .val (.int p), .val (.int A), .val (.int (4 : Int32)), .val (.int (128 : Int32)), .val (.int (143 : Int32)), .unset, .unset, .unset]) rfl (q := 135) rfl ?_
                  refine Go.goto X0 hx (hb hby d2_135) (q := 140) (by decide) (by decide) ?_
                  refine Go.iloadN X0 hx (hb hby d2_140) rfl (q := 141) rfl ?_
                  refine Go.iloadN X0 hx (hb hby d2_141) rfl (q := 142) rfl ?_
                  refine Go.iadd X0 hx (hb hby d2_142) rfl (q := 143) rfl ?_
                  refine Go.aloadN X0 hx (hb hby d2_143) rfl rfl (q := 144) rfl ?_
                  refine Go.alen X0 hx hZ e0 Va (hb hby d2_144) ?_
                  by_cases hc185 : n < (p + (4 : Int32))
                  · have tc185 := (show (n).toInt < ((p + (4 : Int32))).toInt from own_lt hc185)
                    refine Go.icmpNo X0 hx (hb hby d2_145) (Jvm.Free.XT.ii_le_f hc185) (q := 148) rfl ?_
                    refine Go.iconst X0 hx (hb hby d2_148) (r := (0 : Int32)) rfl (q := 149) rfl ?_
                    exact Go.retI X0 hx hret hlk (Or.inl rfl) rfl (hb hby d2_149) e0 (by decide) (by decide) ⟨by rw [show own_S ys n p = (0 : Int32) from by (simp only [own_S, hA]); exact own_T0 (by omega)], N0, rfl⟩
                  · have tc185 := (show ¬ (n).toInt < ((p + (4 : Int32))).toInt from own_ltn hc185)
                    refine Go.icmpYes X0 hx (hb hby d2_145) (Jvm.Free.XT.ii_le_t hc185) (q := 150) (by decide) (by decide) ?_
                    refine Go.aloadN X0 hx (hb hby d2_150) rfl rfl (q := 151) rfl ?_
                    refine Go.iloadN X0 hx (hb hby d2_151) rfl (q := 152) rfl ?_
                    refine Go.iconst X0 hx (hb hby d2_152) (r := (1 : Int32)) rfl (q := 153) rfl ?_
                    refine Go.iadd X0 hx (hb hby d2_153) rfl (q := 154) rfl ?_
                    refine Go.bal X0 hx hZ e0 Va (own_in hn hp0 hp1 (1 : Int32) (by decide) (by decide) (show p.toInt + 1 < n.toInt by omega)) (v := (.int ((own_Y ys (p + (1 : Int32))).toInt8.toInt32))) (own_gb ys _) (hb hby d2_154) ?_
                    refine Go.sipush X0 hx (hb hby d2_155) (r := (255 : Int32)) rfl (q := 158) rfl ?_
                    refine Go.iand X0 hx (hb hby d2_158) rfl (q := 159) rfl ?_
                    rw [own_b255 hys (p + (1 : Int32))]
                    have bB := own_bd hys (p + (1 : Int32))
                    generalize hB : (own_Y ys (p + (1 : Int32))) = B at bB ⊢
                    show Go pp ee below _ (s₁.setTop (mkF mm 159 #[.val (.ref a), .val (.int p), .val (.int A), .val (.int (4 : Int32)), .val (.int (128 : Int32)), .val (.int (143 : Int32)), .unset, .unset, .unset] [(.int B)]))
                    refine Go.istore X0 hx (hb hby d2_159) (l' := #[.val (.ref a), .val (.int p), .val (.int A), .val (.int (4 : Int32)), .val (.int (128 : Int32)), .val (.int (143 : Int32)), .val (.int B), .unset, .unset]) rfl (q := 161) rfl ?_
                    refine Go.iload X0 hx (hb hby d2_161) rfl (q := 163) rfl ?_
                    refine Go.iload X0 hx (hb hby d2_163) rfl (q := 165) rfl ?_
                    by_cases hc186 : B < (128 : Int32)
                    · have tc186 := (show (B).toInt < 128 from own_lt hc186)
                      refine Go.icmpYes X0 hx (hb hby d2_165) (Jvm.Free.XT.ii_lt_t hc186) (q := 175) (by decide) (by decide) ?_
                      refine Go.iconst X0 hx (hb hby d2_175) (r := (0 : Int32)) rfl (q := 176) rfl ?_
                      exact Go.retI X0 hx hret hlk (Or.inl rfl) rfl (hb hby d2_176) e0 (by decide) (by decide) ⟨by rw [show own_S ys n p = (0 : Int32) from by (simp only [own_S, hA, hB]); exact own_T0 (by omega)], N0, rfl⟩
                    · have tc186 := (show ¬ (B).toInt < 128 from own_ltn hc186)
                      refine Go.icmpNo X0 hx (hb hby d2_165) (Jvm.Free.XT.ii_lt_f hc186) (q := 168) rfl ?_
                      refine Go.iload X0 hx (hb hby d2_168) rfl (q := 170) rfl ?_
                      refine Go.iload X0 hx (hb hby d2_170) rfl (q := 172) rfl ?_
                      by_cases hc187 : (143 : Int32) < B
                      · have tc187 := (show 143 < (B).toInt from own_lt hc187)
                        refine Go.icmpNo X0 hx (hb hby d2_172) (Jvm.Free.XT.ii_le_f hc187) (q := 175) rfl ?_
                        refine Go.iconst X0 hx (hb hby d2_175) (r := (0 : Int32)) rfl (q := 176) rfl ?_
                        exact Go.retI X0 hx hret hlk (Or.inl rfl) rfl (hb hby d2_176) e0 (by decide) (by decide) ⟨by rw [show own_S ys n p = (0 : Int32) from by (simp only [own_S, hA, hB]); exact own_T0 (by omega)], N0, rfl⟩
                      · have tc187 := (show ¬ 143 < (B).toInt from own_ltn hc187)
                        refine Go.icmpYes X0 hx (hb hby d2_172) (Jvm.Free.XT.ii_le_t hc187) (q := 177) (by decide) (by decide) ?_
                        refine Go.iloadN X0 hx (hb hby d2_177) rfl (q := 178) rfl ?_
                        refine Go.iconst X0 hx (hb hby d2_178) (r := (2 : Int32)) rfl (q := 179) rfl ?_
                        refine Go.iadd X0 hx (hb hby d2_179) rfl (q := 180) rfl ?_
                        refine Go.istore X0 hx (hb hby d2_180) (l' := #[.val (.ref a), .val (.int p), .val (.int A), .val (.int (4 : Int32)), .val (.int (128 : Int32)), .val (.int (143 : Int32)), .val (.int B), .val (.int (p + (2 : Int32))), .unset]) rfl (q := 182) rfl ?_
                        refine Go.iload X0 hx (hb hby d2_182) rfl (q := 184) rfl ?_
                        refine Go.iloadN X0 hx (hb hby d2_184) rfl (q := 185) rfl ?_
                        refine Go.iloadN X0 hx (hb hby d2_185) rfl (q := 186) rfl ?_
                        refine Go.iadd X0 hx (hb hby d2_186) rfl (q := 187) rfl ?_
                        refine Go.icmpNo X0 hx (hb hby d2_187) (Jvm.Free.XT.ii_ge_f (own_plt kp2 kp4 (by decide))) (q := 190) rfl ?_
                        refine Go.aloadN X0 hx (hb hby d2_190) rfl rfl (q := 191) rfl ?_
                        refine Go.iload X0 hx (hb hby d2_191) rfl (q := 193) rfl ?_
                        refine Go.bal X0 hx hZ e0 Va (own_in hn hp0 hp1 (2 : Int32) (by decide) (by decide) (show p.toInt + 2 < n.toInt by omega)) (v := (.int ((own_Y ys (p + (2 : Int32))).toInt8.toInt32))) (own_gb ys _) (hb hby d2_193) ?_
                        refine Go.sipush X0 hx (hb hby d2_194) (r := (255 : Int32)) rfl (q := 197) rfl ?_
                        refine Go.iand X0 hx (hb hby d2_197) rfl (q := 198) rfl ?_
                        rw [own_b255 hys (p + (2 : Int32))]
                        have bC := own_bd hys (p + (2 : Int32))
                        generalize hC : (own_Y ys (p + (2 : Int32))) = C at bC ⊢
                        show Go pp ee below _ (s₁.setTop (mkF mm 198 #[.val (.ref a), .val (.int p), .val (.int A), .val (.int (4 : Int32)), .val (.int (128 : Int32)), .val (.int (143 : Int32)), .val (.int B), .val (.int (p + (2 : Int32))), .unset] [(.int C)]))
                        refine Go.istore X0 hx (hb hby d2_198) (l' := #[.val (.ref a), .val (.int p), .val (.int A), .val (.int (4 : Int32)), .val (.int (128 : Int32)), .val (.int (143 : Int32)), .val (.int B), .val (.int (p + (2 : Int32))), .val (.int C)]) rfl (q := 200) rfl ?_
                        refine Go.iload X0 hx (hb hby d2_200) rfl (q := 202) rfl ?_
                        refine Go.sipush X0 hx (hb hby d2_202) (r := (128 : Int32)) rfl (q := 205) rfl ?_
                        by_cases hc188 : C < (128 : Int32)
                        · have tc188 := (show (C).toInt < 128 from own_lt hc188)
                          refine Go.icmpYes X0 hx (hb hby d2_205) (Jvm.Free.XT.ii_lt_t hc188) (q := 216) (by decide) (by decide) ?_
                          refine Go.iconst X0 hx (hb hby d2_216) (r := (0 : Int32)) rfl (q := 217) rfl ?_
                          exact Go.retI X0 hx hret hlk (Or.inl rfl) rfl (hb hby d2_217) e0 (by decide) (by decide) ⟨by rw [show own_S ys n p = (0 : Int32) from by (simp only [own_S, hA, hB, hC]); exact own_T0 (by omega)], N0, rfl⟩
                        · have tc188 := (show ¬ (C).toInt < 128 from own_ltn hc188)
                          refine Go.icmpNo X0 hx (hb hby d2_205) (Jvm.Free.XT.ii_lt_f hc188) (q := 208) rfl ?_
                          refine Go.iload X0 hx (hb hby d2_208) rfl (q := 210) rfl ?_
                          refine Go.sipush X0 hx (hb hby d2_210) (r := (191 : Int32)) rfl (q := 213) rfl ?_
                          by_cases hc189 : (191 : Int32) < C
                          · have tc189 := (show 191 < (C).toInt from own_lt hc189)
                            refine Go.icmpNo X0 hx (hb hby d2_213) (Jvm.Free.XT.ii_le_f hc189) (q := 216) rfl ?_
                            refine Go.iconst X0 hx (hb hby d2_216) (r := (0 : Int32)) rfl (q := 217) rfl ?_
                            exact Go.retI X0 hx hret hlk (Or.inl rfl) rfl (hb hby d2_217) e0 (by decide) (by decide) ⟨by rw [show own_S ys n p = (0 : Int32) from by (simp only [own_S, hA, hB, hC]); exact own_T0 (by omega)], N0, rfl⟩
                          · have tc189 := (show ¬ 191 < (C).toInt from own_ltn hc189)
                            refine Go.icmpYes X0 hx (hb hby d2_213) (Jvm.Free.XT.ii_le_t hc189) (q := 218) (by decide) (by decide) ?_
                            refine Go.iinc X0 hx (hb hby d2_218) rfl (r := ((p + (2 : Int32)) + (1 : Int32))) rfl (l' := #[.val (.ref a), .val (.int p), .val (.int A), .val (.int (4 : Int32)), .val (.int (128 : Int32)), .val (.int (143 : Int32)), .val (.int B), .val (.int ((p + (2 : Int32)) + (1 : Int32))), .val (.int C)]) rfl (q := 221) rfl ?_
                            refine Go.goto X0 hx (hb hby d2_221) (q := 182) (by decide) (by decide) ?_
                            rw [own_pp p (2 : Int32) (1 : Int32) (3 : Int32) rfl]
                            show Go pp ee below _ (s₁.setTop (mkF mm 182 #[.val (.ref a), .val (.int p), .val (.int A), .val (.int (4 : Int32)), .val (.int (128 : Int32)), .val (.int (143 : Int32)), .val (.int B), .val (.int (p + (3 : Int32))), .val (.int C)] []))
                            refine Go.iload X0 hx (hb hby d2_182) rfl (q := 184) rfl ?_
                            refine Go.iloadN X0 hx (hb hby d2_184) rfl (q := 185) rfl ?_
                            refine Go.iloadN X0 hx (hb hby d2_185) rfl (q := 186) rfl ?_
                            refine Go.iadd X0 hx (hb hby d2_186) rfl (q := 187) rfl ?_
                            refine Go.icmpNo X0 hx (hb hby d2_187) (Jvm.Free.XT.ii_ge_f (own_plt kp3 kp4 (by decide))) (q := 190) rfl ?_
                            refine Go.aloadN X0 hx (hb hby d2_190) rfl rfl (q := 191) rfl ?_
                            refine Go.iload X0 hx (hb hby d2_191) rfl (q := 193) rfl ?_
                            refine Go.bal X0 hx hZ e0 Va (own_in hn hp0 hp1 (3 : Int32) (by decide) (by decide) (show p.toInt + 3 < n.toInt by omega)) (v := (.int ((own_Y ys (p + (3 : Int32))).toInt8.toInt32))) (own_gb ys _) (hb hby d2_193) ?_
                            refine Go.sipush X0 hx (hb hby d2_194) (r := (255 : Int32)) rfl (q := 197) rfl ?_
                            refine Go.iand X0 hx (hb hby d2_197) rfl (q := 198) rfl ?_
                            rw [own_b255 hys (p + (3 : Int32))]
                            have bD := own_bd hys (p + (3 : Int32))
                            generalize hD : (own_Y ys (p + (3 : Int32))) = D at bD ⊢
                            show Go pp ee below _ (s₁.setTop (mkF mm 198 #[.val (.ref a), .val (.int p), .val (.int A), .val (.int (4 : Int32)), .val (.int (128 : Int32)), .val (.int (143 : Int32)), .val (.int B), .val (.int (p + (3 : Int32))), .val (.int C)] [(.int D)]))
                            refine Go.istore X0 hx (hb hby d2_198) (l' := #[.val (.ref a), .val (.int p), .val (.int A), .val (.int (4 : Int32)), .val (.int (128 : Int32)), .val (.int (143 : Int32)), .val (.int B), .val (.int (p + (3 : Int32))), .val (.int D)]) rfl (q := 200) rfl ?_
                            refine Go.iload X0 hx (hb hby d2_200) rfl (q := 202) rfl ?_
                            refine Go.sipush X0 hx (hb hby d2_202) (r := (128 : Int32)) rfl (q := 205) rfl ?_
                            by_cases hc190 : D < (128 : Int32)
                            · have tc190 := (show (D).toInt < 128 from own_lt hc190)
                              refine Go.icmpYes X0 hx (hb hby d2_205) (Jvm.Free.XT.ii_lt_t hc190) (q := 216) (by decide) (by decide) ?_
                              refine Go.iconst X0 hx (hb hby d2_216) (r := (0 : Int32)) rfl (q := 217) rfl ?_
                              exact Go.retI X0 hx hret hlk (Or.inl rfl) rfl (hb hby d2_217) e0 (by decide) (by decide) ⟨by rw [show own_S ys n p = (0 : Int32) from by (simp only [own_S, hA, hB, hC, hD]); exact own_T0 (by omega)], N0, rfl⟩
                            · have tc190 := (show ¬ (D).toInt < 128 from own_ltn hc190)
                              refine Go.icmpNo X0 hx (hb hby d2_205) (Jvm.Free.XT.ii_lt_f hc190) (q := 208) rfl ?_
                              refine Go.iload X0 hx (hb hby d2_208) rfl (q := 210) rfl ?_
                              refine Go.sipush X0 hx (hb hby d2_210) (r := (191 : Int32)) rfl (q := 213) rfl ?_
                              by_cases hc191 : (191 : Int32) < D
                              · have tc191 := (show 191 < (D).toInt from own_lt hc191)
                                refine Go.icmpNo X0 hx (hb hby d2_213) (Jvm.Free.XT.ii_le_f hc191) (q := 216) rfl ?_
                                refine Go.iconst X0 hx (hb hby d2_216) (r := (0 : Int32)) rfl (q := 217) rfl ?_
                                exact Go.retI X0 hx hret hlk (Or.inl rfl) rfl (hb hby d2_217) e0 (by decide) (by decide) ⟨by rw [show own_S ys n p = (0 : Int32) from by (simp only [own_S, hA, hB, hC, hD]); exact own_T0 (by omega)], N0, rfl⟩
                              · have tc191 := (show ¬ 191 < (D).toInt from own_ltn hc191)
                                refine Go.icmpYes X0 hx (hb hby d2_213) (Jvm.Free.XT.ii_le_t hc191) (q := 218) (by decide) (by decide) ?_
                                refine Go.iinc X0 hx (hb hby d2_218) rfl (r := ((p + (3 : Int32)) + (1 : Int32))) rfl (l' := #[.val (.ref a), .val (.int p), .val (.int A), .val (.int (4 : Int32)), .val (.int (128 : Int32)), .val (.int (143 : Int32)), .val (.int B), .val (.int ((p + (3 : Int32)) + (1 : Int32))), .val (.int D)]) rfl (q := 221) rfl ?_
                                refine Go.goto X0 hx (hb hby d2_221) (q := 182) (by decide) (by decide) ?_
                                rw [own_pp p (3 : Int32) (1 : Int32) (4 : Int32) rfl]
                                show Go pp ee below _ (s₁.setTop (mkF mm 182 #[.val (.ref a), .val (.int p), .val (.int A), .val (.int (4 : Int32)), .val (.int (128 : Int32)), .val (.int (143 : Int32)), .val (.int B), .val (.int (p + (4 : Int32))), .val (.int D)] []))
                                refine Go.iload X0 hx (hb hby d2_182) rfl (q := 184) rfl ?_
                                refine Go.iloadN X0 hx (hb hby d2_184) rfl (q := 185) rfl ?_
                                refine Go.iloadN X0 hx (hb hby d2_185) rfl (q := 186) rfl ?_
                                refine Go.iadd X0 hx (hb hby d2_186) rfl (q := 187) rfl ?_
                                refine Go.icmpYes X0 hx (hb hby d2_187) (Jvm.Free.XT.ii_ge_t (own_pnl kp4 kp4 (by decide))) (q := 224) (by decide) (by decide) ?_
                                refine Go.iloadN X0 hx (hb hby d2_224) rfl (q := 225) rfl ?_
                                exact Go.retI X0 hx hret hlk (Or.inl rfl) rfl (hb hby d2_225) e0 (by decide) (by decide) ⟨by rw [show own_S ys n p = (4 : Int32) from by (simp only [own_S, hA, hB, hC, hD]); exact own_T4 (by omega)], N0, rfl⟩
                · have tc184 := (show ¬ (A).toInt = 244 from own_eqn hc184)
                  refine Go.icmpYes X0 hx (hb hby d2_127) (Jvm.Free.XT.ii_ne_t hc184) (q := 140) (by decide) (by decide) ?_
                  refine Go.iloadN X0 hx (hb hby d2_140) rfl (q := 141) rfl ?_
                  refine Go.iloadN X0 hx (hb hby d2_141) rfl (q := 142) rfl ?_
                  refine Go.iadd X0 hx (hb hby d2_142) rfl (q := 143) rfl ?_
                  refine Go.aloadN X0 hx (hb hby d2_143) rfl rfl (q := 144) rfl ?_
                  refine Go.alen X0 hx hZ e0 Va (hb hby d2_144) ?_
                  by_cases hc192 : n < (p + (4 : Int32))
                  · have tc192 := (show (n).toInt < ((p + (4 : Int32))).toInt from own_lt hc192)
                    refine Go.icmpNo X0 hx (hb hby d2_145) (Jvm.Free.XT.ii_le_f hc192) (q := 148) rfl ?_
                    refine Go.iconst X0 hx (hb hby d2_148) (r := (0 : Int32)) rfl (q := 149) rfl ?_
                    exact Go.retI X0 hx hret hlk (Or.inl rfl) rfl (hb hby d2_149) e0 (by decide) (by decide) ⟨by rw [show own_S ys n p = (0 : Int32) from by (simp only [own_S, hA]); exact own_T0 (by omega)], N0, rfl⟩
                  · have tc192 := (show ¬ (n).toInt < ((p + (4 : Int32))).toInt from own_ltn hc192)
                    refine Go.icmpYes X0 hx (hb hby d2_145) (Jvm.Free.XT.ii_le_t hc192) (q := 150) (by decide) (by decide) ?_
                    refine Go.aloadN X0 hx (hb hby d2_150) rfl rfl (q := 151) rfl ?_
                    refine Go.iloadN X0 hx (hb hby d2_151) rfl (q := 152) rfl ?_
                    refine Go.iconst X0 hx (hb hby d2_152) (r := (1 : Int32)) rfl (q := 153) rfl ?_
                    refine Go.iadd X0 hx (hb hby d2_153) rfl (q := 154) rfl ?_
                    refine Go.bal X0 hx hZ e0 Va (own_in hn hp0 hp1 (1 : Int32) (by decide) (by decide) (show p.toInt + 1 < n.toInt by omega)) (v := (.int ((own_Y ys (p + (1 : Int32))).toInt8.toInt32))) (own_gb ys _) (hb hby d2_154) ?_
                    refine Go.sipush X0 hx (hb hby d2_155) (r := (255 : Int32)) rfl (q := 158) rfl ?_
                    refine Go.iand X0 hx (hb hby d2_158) rfl (q := 159) rfl ?_
                    rw [own_b255 hys (p + (1 : Int32))]
                    have bB := own_bd hys (p + (1 : Int32))
                    generalize hB : (own_Y ys (p + (1 : Int32))) = B at bB ⊢
                    show Go pp ee below _ (s₁.setTop (mkF mm 159 #[.val (.ref a), .val (.int p), .val (.int A), .val (.int (4 : Int32)), .val (.int (128 : Int32)), .val (.int (191 : Int32)), .unset, .unset, .unset] [(.int B)]))
                    refine Go.istore X0 hx (hb hby d2_159) (l' := #[.val (.ref a), .val (.int p), .val (.int A), .val (.int (4 : Int32)), .val (.int (128 : Int32)), .val (.int (191 : Int32)), .val (.int B), .unset, .unset]) rfl (q := 161) rfl ?_
                    refine Go.iload X0 hx (hb hby d2_161) rfl (q := 163) rfl ?_
                    refine Go.iload X0 hx (hb hby d2_163) rfl (q := 165) rfl ?_
                    by_cases hc193 : B < (128 : Int32)
                    · have tc193 := (show (B).toInt < 128 from own_lt hc193)
                      refine Go.icmpYes X0 hx (hb hby d2_165) (Jvm.Free.XT.ii_lt_t hc193) (q := 175) (by decide) (by decide) ?_
                      refine Go.iconst X0 hx (hb hby d2_175) (r := (0 : Int32)) rfl (q := 176) rfl ?_
                      exact Go.retI X0 hx hret hlk (Or.inl rfl) rfl (hb hby d2_176) e0 (by decide) (by decide) ⟨by rw [show own_S ys n p = (0 : Int32) from by (simp only [own_S, hA, hB]); exact own_T0 (by omega)], N0, rfl⟩
                    · have tc193 := (show ¬ (B).toInt < 128 from own_ltn hc193)
                      refine Go.icmpNo X0 hx (hb hby d2_165) (Jvm.Free.XT.ii_lt_f hc193) (q := 168) rfl ?_
                      refine Go.iload X0 hx (hb hby d2_168) rfl (q := 170) rfl ?_
                      refine Go.iload X0 hx (hb hby d2_170) rfl (q := 172) rfl ?_
                      by_cases hc194 : (191 : Int32) < B
                      · have tc194 := (show 191 < (B).toInt from own_lt hc194)
                        refine Go.icmpNo X0 hx (hb hby d2_172) (Jvm.Free.XT.ii_le_f hc194) (q := 175) rfl ?_
                        refine Go.iconst X0 hx (hb hby d2_175) (r := (0 : Int32)) rfl (q := 176) rfl ?_
                        exact Go.retI X0 hx hret hlk (Or.inl rfl) rfl (hb hby d2_176) e0 (by decide) (by decide) ⟨by rw [show own_S ys n p = (0 : Int32) from by (simp only [own_S, hA, hB]); exact own_T0 (by omega)], N0, rfl⟩
                      · have tc194 := (show ¬ 191 < (B).toInt from own_ltn hc194)
                        refine Go.icmpYes X0 hx (hb hby d2_172) (Jvm.Free.XT.ii_le_t hc194) (q := 177) (by decide) (by decide) ?_
                        refine Go.iloadN X0 hx (hb hby d2_177) rfl (q := 178) rfl ?_
                        refine Go.iconst X0 hx (hb hby d2_178) (r := (2 : Int32)) rfl (q := 179) rfl ?_
                        refine Go.iadd X0 hx (hb hby d2_179) rfl (q := 180) rfl ?_
                        refine Go.istore X0 hx (hb hby d2_180) (l' := #[.val (.ref a), .val (.int p), .val (.int A), .val (.int (4 : Int32)), .val (.int (128 : Int32)), .val (.int (191 : Int32)), .val (.int B), .val (.int (p + (2 : Int32))), .unset]) rfl (q := 182) rfl ?_
                        refine Go.iload X0 hx (hb hby d2_182) rfl (q := 184) rfl ?_
                        refine Go.iloadN X0 hx (hb hby d2_184) rfl (q := 185) rfl ?_
                        refine Go.iloadN X0 hx (hb hby d2_185) rfl (q := 186) rfl ?_
                        refine Go.iadd X0 hx (hb hby d2_186) rfl (q := 187) rfl ?_
                        refine Go.icmpNo X0 hx (hb hby d2_187) (Jvm.Free.XT.ii_ge_f (own_plt kp2 kp4 (by decide))) (q := 190) rfl ?_
                        refine Go.aloadN X0 hx (hb hby d2_190) rfl rfl (q := 191) rfl ?_
                        refine Go.iload X0 hx (hb hby d2_191) rfl (q := 193) rfl ?_
                        refine Go.bal X0 hx hZ e0 Va (own_in hn hp0 hp1 (2 : Int32) (by decide) (by decide) (show p.toInt + 2 < n.toInt by omega)) (v := (.int ((own_Y ys (p + (2 : Int32))).toInt8.toInt32))) (own_gb ys _) (hb hby d2_193) ?_
                        refine Go.sipush X0 hx (hb hby d2_194) (r := (255 : Int32)) rfl (q := 197) rfl ?_
                        refine Go.iand X0 hx (hb hby d2_197) rfl (q := 198) rfl ?_
                        rw [own_b255 hys (p + (2 : Int32))]
                        have bC := own_bd hys (p + (2 : Int32))
                        generalize hC : (own_Y ys (p + (2 : Int32))) = C at bC ⊢
                        show Go pp ee below _ (s₁.setTop (mkF mm 198 #[.val (.ref a), .val (.int p), .val (.int A), .val (.int (4 : Int32)), .val (.int (128 : Int32)), .val (.int (191 : Int32)), .val (.int B), .val (.int (p + (2 : Int32))), .unset] [(.int C)]))
                        refine Go.istore X0 hx (hb hby d2_198) (l' := #[.val (.ref a), .val (.int p), .val (.int A), .val (.int (4 : Int32)), .val (.int (128 : Int32)), .val (.int (191 : Int32)), .val (.int B), .val (.int (p + (2 : Int32))), .val (.int C)]) rfl (q := 200) rfl ?_
                        refine Go.iload X0 hx (hb hby d2_200) rfl (q := 202) rfl ?_
                        refine Go.sipush X0 hx (hb hby d2_202) (r := (128 : Int32)) rfl (q := 205) rfl ?_
                        by_cases hc195 : C < (128 : Int32)
                        · have tc195 := (show (C).toInt < 128 from own_lt hc195)
                          refine Go.icmpYes X0 hx (hb hby d2_205) (Jvm.Free.XT.ii_lt_t hc195) (q := 216) (by decide) (by decide) ?_
                          refine Go.iconst X0 hx (hb hby d2_216) (r := (0 : Int32)) rfl (q := 217) rfl ?_
                          exact Go.retI X0 hx hret hlk (Or.inl rfl) rfl (hb hby d2_217) e0 (by decide) (by decide) ⟨by rw [show own_S ys n p = (0 : Int32) from by (simp only [own_S, hA, hB, hC]); exact own_T0 (by omega)], N0, rfl⟩
                        · have tc195 := (show ¬ (C).toInt < 128 from own_ltn hc195)
                          refine Go.icmpNo X0 hx (hb hby d2_205) (Jvm.Free.XT.ii_lt_f hc195) (q := 208) rfl ?_
                          refine Go.iload X0 hx (hb hby d2_208) rfl (q := 210) rfl ?_
                          refine Go.sipush X0 hx (hb hby d2_210) (r := (191 : Int32)) rfl (q := 213) rfl ?_
                          by_cases hc196 : (191 : Int32) < C
                          · have tc196 := (show 191 < (C).toInt from own_lt hc196)
                            refine Go.icmpNo X0 hx (hb hby d2_213) (Jvm.Free.XT.ii_le_f hc196) (q := 216) rfl ?_
                            refine Go.iconst X0 hx (hb hby d2_216) (r := (0 : Int32)) rfl (q := 217) rfl ?_
                            exact Go.retI X0 hx hret hlk (Or.inl rfl) rfl (hb hby d2_217) e0 (by decide) (by decide) ⟨by rw [show own_S ys n p = (0 : Int32) from by (simp only [own_S, hA, hB, hC]); exact own_T0 (by omega)], N0, rfl⟩
                          · have tc196 := (show ¬ 191 < (C).toInt from own_ltn hc196)
                            refine Go.icmpYes X0 hx (hb hby d2_213) (Jvm.Free.XT.ii_le_t hc196) (q := 218) (by decide) (by decide) ?_
                            refine Go.iinc X0 hx (hb hby d2_218) rfl (r := ((p + (2 : Int32)) + (1 : Int32))) rfl (l' := #[.val (.ref a), .val (.int p), .val (.int A), .val (.int (4 : Int32)), .val (.int (128 : Int32)), .val (.int (191 : Int32)), .val (.int B), .val (.int ((p + (2 : Int32)) + (1 : Int32))), .val (.int C)]) rfl (q := 221) rfl ?_
                            refine Go.goto X0 hx (hb hby d2_221) (q := 182) (by decide) (by decide) ?_
                            rw [own_pp p (2 : Int32) (1 : Int32) (3 : Int32) rfl]
                            show Go pp ee below _ (s₁.setTop (mkF mm 182 #[.val (.ref a), .val (.int p), .val (.int A), .val (.int (4 : Int32)), .val (.int (128 : Int32)), .val (.int (191 : Int32)), .val (.int B), .val (.int (p + (3 : Int32))), .val (.int C)] []))
                            refine Go.iload X0 hx (hb hby d2_182) rfl (q := 184) rfl ?_
                            refine Go.iloadN X0 hx (hb hby d2_184) rfl (q := 185) rfl ?_
                            refine Go.iloadN X0 hx (hb hby d2_185) rfl (q := 186) rfl ?_
                            refine Go.iadd X0 hx (hb hby d2_186) rfl (q := 187) rfl ?_
                            refine Go.icmpNo X0 hx (hb hby d2_187) (Jvm.Free.XT.ii_ge_f (own_plt kp3 kp4 (by decide))) (q := 190) rfl ?_
                            refine Go.aloadN X0 hx (hb hby d2_190) rfl rfl (q := 191) rfl ?_
                            refine Go.iload X0 hx (hb hby d2_191) rfl (q := 193) rfl ?_
                            refine Go.bal X0 hx hZ e0 Va (own_in hn hp0 hp1 (3 : Int32) (by decide) (by decide) (show p.toInt + 3 < n.toInt by omega)) (v := (.int ((own_Y ys (p + (3 : Int32))).toInt8.toInt32))) (own_gb ys _) (hb hby d2_193) ?_
                            refine Go.sipush X0 hx (hb hby d2_194) (r := (255 : Int32)) rfl (q := 197) rfl ?_
                            refine Go.iand X0 hx (hb hby d2_197) rfl (q := 198) rfl ?_
                            rw [own_b255 hys (p + (3 : Int32))]
                            have bD := own_bd hys (p + (3 : Int32))
                            generalize hD : (own_Y ys (p + (3 : Int32))) = D at bD ⊢
                            show Go pp ee below _ (s₁.setTop (mkF mm 198 #[.val (.ref a), .val (.int p), .val (.int A), .val (.int (4 : Int32)), .val (.int (128 : Int32)), .val (.int (191 : Int32)), .val (.int B), .val (.int (p + (3 : Int32))), .val (.int C)] [(.int D)]))
                            refine Go.istore X0 hx (hb hby d2_198) (l' := #[.val (.ref a), .val (.int p), .val (.int A), .val (.int (4 : Int32)), .val (.int (128 : Int32)), .val (.int (191 : Int32)), .val (.int B), .val (.int (p + (3 : Int32))), .val (.int D)]) rfl (q := 200) rfl ?_
                            refine Go.iload X0 hx (hb hby d2_200) rfl (q := 202) rfl ?_
                            refine Go.sipush X0 hx (hb hby d2_202) (r := (128 : Int32)) rfl (q := 205) rfl ?_
                            by_cases hc197 : D < (128 : Int32)
                            · have tc197 := (show (D).toInt < 128 from own_lt hc197)
                              refine Go.icmpYes X0 hx (hb hby d2_205) (Jvm.Free.XT.ii_lt_t hc197) (q := 216) (by decide) (by decide) ?_
                              refine Go.iconst X0 hx (hb hby d2_216) (r := (0 : Int32)) rfl (q := 217) rfl ?_
                              exact Go.retI X0 hx hret hlk (Or.inl rfl) rfl (hb hby d2_217) e0 (by decide) (by decide) ⟨by rw [show own_S ys n p = (0 : Int32) from by (simp only [own_S, hA, hB, hC, hD]); exact own_T0 (by omega)], N0, rfl⟩
                            · have tc197 := (show ¬ (D).toInt < 128 from own_ltn hc197)
                              refine Go.icmpNo X0 hx (hb hby d2_205) (Jvm.Free.XT.ii_lt_f hc197) (q := 208) rfl ?_
                              refine Go.iload X0 hx (hb hby d2_208) rfl (q := 210) rfl ?_
                              refine Go.sipush X0 hx (hb hby d2_210) (r := (191 : Int32)) rfl (q := 213) rfl ?_
                              by_cases hc198 : (191 : Int32) < D
                              · have tc198 := (show 191 < (D).toInt from own_lt hc198)
                                refine Go.icmpNo X0 hx (hb hby d2_213) (Jvm.Free.XT.ii_le_f hc198) (q := 216) rfl ?_
                                refine Go.iconst X0 hx (hb hby d2_216) (r := (0 : Int32)) rfl (q := 217) rfl ?_
                                exact Go.retI X0 hx hret hlk (Or.inl rfl) rfl (hb hby d2_217) e0 (by decide) (by decide) ⟨by rw [show own_S ys n p = (0 : Int32) from by (simp only [own_S, hA, hB, hC, hD]); exact own_T0 (by omega)], N0, rfl⟩
                              · have tc198 := (show ¬ 191 < (D).toInt from own_ltn hc198)
                                refine Go.icmpYes X0 hx (hb hby d2_213) (Jvm.Free.XT.ii_le_t hc198) (q := 218) (by decide) (by decide) ?_
                                refine Go.iinc X0 hx (hb hby d2_218) rfl (r := ((p + (3 : Int32)) + (1 : Int32))) rfl (l' := #[.val (.ref a), .val (.int p), .val (.int A), .val (.int (4 : Int32)), .val (.int (128 : Int32)), .val (.int (191 : Int32)), .val (.int B), .val (.int ((p + (3 : Int32)) + (1 : Int32))), .val (.int D)]) rfl (q := 221) rfl ?_
                                refine Go.goto X0 hx (hb hby d2_221) (q := 182) (by decide) (by decide) ?_
                                rw [own_pp p (3 : Int32) (1 : Int32) (4 : Int32) rfl]
                                show Go pp ee below _ (s₁.setTop (mkF mm 182 #[.val (.ref a), .val (.int p), .val (.int A), .val (.int (4 : Int32)), .val (.int (128 : Int32)), .val (.int (191 : Int32)), .val (.int B), .val (.int (p + (4 : Int32))), .val (.int D)] []))
                                refine Go.iload X0 hx (hb hby d2_182) rfl (q := 184) rfl ?_
                                refine Go.iloadN X0 hx (hb hby d2_184) rfl (q := 185) rfl ?_
                                refine Go.iloadN X0 hx (hb hby d2_185) rfl (q := 186) rfl ?_
                                refine Go.iadd X0 hx (hb hby d2_186) rfl (q := 187) rfl ?_
                                refine Go.icmpYes X0 hx (hb hby d2_187) (Jvm.Free.XT.ii_ge_t (own_pnl kp4 kp4 (by decide))) (q := 224) (by decide) (by decide) ?_
                                refine Go.iloadN X0 hx (hb hby d2_224) rfl (q := 225) rfl ?_
                                exact Go.retI X0 hx hret hlk (Or.inl rfl) rfl (hb hby d2_225) e0 (by decide) (by decide) ⟨by rw [show own_S ys n p = (4 : Int32) from by (simp only [own_S, hA, hB, hC, hD]); exact own_T4 (by omega)], N0, rfl⟩
        · have tc173 := (show ¬ (A).toInt < 224 from own_ltn hc173)
          refine Go.icmpNo X0 hx (hb hby d2_50) (Jvm.Free.XT.ii_lt_f hc173) (q := 53) rfl ?_
          refine Go.iloadN X0 hx (hb hby d2_53) rfl (q := 54) rfl ?_
          refine Go.sipush X0 hx (hb hby d2_54) (r := (239 : Int32)) rfl (q := 57) rfl ?_
          by_cases hc199 : (239 : Int32) < A
          · have tc199 := (show 239 < (A).toInt from own_lt hc199)
            refine Go.icmpYes X0 hx (hb hby d2_57) (Jvm.Free.XT.ii_gt_t hc199) (q := 92) (by decide) (by decide) ?_
            refine Go.iloadN X0 hx (hb hby d2_92) rfl (q := 93) rfl ?_
            refine Go.sipush X0 hx (hb hby d2_93) (r := (240 : Int32)) rfl (q := 96) rfl ?_
            by_cases hc200 : A < (240 : Int32)
            · have tc200 := (show (A).toInt < 240 from own_lt hc200)
              refine Go.icmpYes X0 hx (hb hby d2_96) (Jvm.Free.XT.ii_lt_t hc200) (q := 138) (by decide) (by decide) ?_
              refine Go.iconst X0 hx (hb hby d2_138) (r := (0 : Int32)) rfl (q := 139) rfl ?_
              exact Go.retI X0 hx hret hlk (Or.inl rfl) rfl (hb hby d2_139) e0 (by decide) (by decide) ⟨by rw [show own_S ys n p = (0 : Int32) from by (simp only [own_S, hA]); exact own_T0 (by omega)], N0, rfl⟩
            · have tc200 := (show ¬ (A).toInt < 240 from own_ltn hc200)
              refine Go.icmpNo X0 hx (hb hby d2_96) (Jvm.Free.XT.ii_lt_f hc200) (q := 99) rfl ?_
              refine Go.iloadN X0 hx (hb hby d2_99) rfl (q := 100) rfl ?_
              refine Go.sipush X0 hx (hb hby d2_100) (r := (244 : Int32)) rfl (q := 103) rfl ?_
              by_cases hc201 : (244 : Int32) < A
              · have tc201 := (show 244 < (A).toInt from own_lt hc201)
                refine Go.icmpYes X0 hx (hb hby d2_103) (Jvm.Free.XT.ii_gt_t hc201) (q := 138) (by decide) (by decide) ?_
                refine Go.iconst X0 hx (hb hby d2_138) (r := (0 : Int32)) rfl (q := 139) rfl ?_
                exact Go.retI X0 hx hret hlk (Or.inl rfl) rfl (hb hby d2_139) e0 (by decide) (by decide) ⟨by rw [show own_S ys n p = (0 : Int32) from by (simp only [own_S, hA]); exact own_T0 (by omega)], N0, rfl⟩
              · have tc201 := (show ¬ 244 < (A).toInt from own_ltn hc201)
                refine Go.icmpNo X0 hx (hb hby d2_103) (Jvm.Free.XT.ii_gt_f hc201) (q := 106) rfl ?_
                refine Go.iconst X0 hx (hb hby d2_106) (r := (4 : Int32)) rfl (q := 107) rfl ?_
                refine Go.istoreN X0 hx (hb hby d2_107) (l' := #[.val (.ref a), .val (.int p), .val (.int A), .val (.int (4 : Int32)), .val (.int (128 : Int32)), .val (.int (191 : Int32)), .unset, .unset, .unset]) rfl (q := 108) rfl ?_
                refine Go.iloadN X0 hx (hb hby d2_108) rfl (q := 109) rfl ?_
                refine Go.sipush X0 hx (hb hby d2_109) (r := (240 : Int32)) rfl (q := 112) rfl ?_
                by_cases hc202 : A = (240 : Int32)
                · have tc202 := (show (A).toInt = 240 from own_eq hc202)
                  refine Go.icmpNo X0 hx (hb hby d2_112) (Jvm.Free.XT.ii_ne_f hc202) (q := 115) rfl ?_
                  refine Go.sipush X0 hx (hb hby d2_115) (r := (144 : Int32)) rfl (q := 118) rfl ?_
                  refine Go.istore X0 hx (hb hby d2_118) (l' := #[.val (.ref a), .val (.int p), .val (.int A), .val (.int (4 : Int32)), .val (.int (144 : Int32)), .val (.int (191 : Int32)), .unset, .unset, .unset]) rfl (q := 120) rfl ?_
                  refine Go.goto X0 hx (hb hby d2_120) (q := 140) (by decide) (by decide) ?_
                  refine Go.iloadN X0 hx (hb hby d2_140) rfl (q := 141) rfl ?_
                  refine Go.iloadN X0 hx (hb hby d2_141) rfl (q := 142) rfl ?_
                  refine Go.iadd X0 hx (hb hby d2_142) rfl (q := 143) rfl ?_
                  refine Go.aloadN X0 hx (hb hby d2_143) rfl rfl (q := 144) rfl ?_
                  refine Go.alen X0 hx hZ e0 Va (hb hby d2_144) ?_
                  by_cases hc203 : n < (p + (4 : Int32))
                  · have tc203 := (show (n).toInt < ((p + (4 : Int32))).toInt from own_lt hc203)
                    refine Go.icmpNo X0 hx (hb hby d2_145) (Jvm.Free.XT.ii_le_f hc203) (q := 148) rfl ?_
                    refine Go.iconst X0 hx (hb hby d2_148) (r := (0 : Int32)) rfl (q := 149) rfl ?_
                    exact Go.retI X0 hx hret hlk (Or.inl rfl) rfl (hb hby d2_149) e0 (by decide) (by decide) ⟨by rw [show own_S ys n p = (0 : Int32) from by (simp only [own_S, hA]); exact own_T0 (by omega)], N0, rfl⟩
                  · have tc203 := (show ¬ (n).toInt < ((p + (4 : Int32))).toInt from own_ltn hc203)
                    refine Go.icmpYes X0 hx (hb hby d2_145) (Jvm.Free.XT.ii_le_t hc203) (q := 150) (by decide) (by decide) ?_
                    refine Go.aloadN X0 hx (hb hby d2_150) rfl rfl (q := 151) rfl ?_
                    refine Go.iloadN X0 hx (hb hby d2_151) rfl (q := 152) rfl ?_
                    refine Go.iconst X0 hx (hb hby d2_152) (r := (1 : Int32)) rfl (q := 153) rfl ?_
                    refine Go.iadd X0 hx (hb hby d2_153) rfl (q := 154) rfl ?_
                    refine Go.bal X0 hx hZ e0 Va (own_in hn hp0 hp1 (1 : Int32) (by decide) (by decide) (show p.toInt + 1 < n.toInt by omega)) (v := (.int ((own_Y ys (p + (1 : Int32))).toInt8.toInt32))) (own_gb ys _) (hb hby d2_154) ?_
                    refine Go.sipush X0 hx (hb hby d2_155) (r := (255 : Int32)) rfl (q := 158) rfl ?_
                    refine Go.iand X0 hx (hb hby d2_158) rfl (q := 159) rfl ?_
                    rw [own_b255 hys (p + (1 : Int32))]
                    have bB := own_bd hys (p + (1 : Int32))
                    generalize hB : (own_Y ys (p + (1 : Int32))) = B at bB ⊢
                    show Go pp ee below _ (s₁.setTop (mkF mm 159 #[.val (.ref a), .val (.int p), .val (.int A), .val (.int (4 : Int32)), .val (.int (144 : Int32)), .val (.int (191 : Int32)), .unset, .unset, .unset] [(.int B)]))
                    refine Go.istore X0 hx (hb hby d2_159) (l' := #[.val (.ref a), .val (.int p), .val (.int A), .val (.int (4 : Int32)), .val (.int (144 : Int32)), .val (.int (191 : Int32)), .val (.int B), .unset, .unset]) rfl (q := 161) rfl ?_
                    refine Go.iload X0 hx (hb hby d2_161) rfl (q := 163) rfl ?_
                    refine Go.iload X0 hx (hb hby d2_163) rfl (q := 165) rfl ?_
                    by_cases hc204 : B < (144 : Int32)
                    · have tc204 := (show (B).toInt < 144 from own_lt hc204)
                      refine Go.icmpYes X0 hx (hb hby d2_165) (Jvm.Free.XT.ii_lt_t hc204) (q := 175) (by decide) (by decide) ?_
                      refine Go.iconst X0 hx (hb hby d2_175) (r := (0 : Int32)) rfl (q := 176) rfl ?_
                      exact Go.retI X0 hx hret hlk (Or.inl rfl) rfl (hb hby d2_176) e0 (by decide) (by decide) ⟨by rw [show own_S ys n p = (0 : Int32) from by (simp only [own_S, hA, hB]); exact own_T0 (by omega)], N0, rfl⟩
                    · have tc204 := (show ¬ (B).toInt < 144 from own_ltn hc204)
                      refine Go.icmpNo X0 hx (hb hby d2_165) (Jvm.Free.XT.ii_lt_f hc204) (q := 168) rfl ?_
                      refine Go.iload X0 hx (hb hby d2_168) rfl (q := 170) rfl ?_
                      refine Go.iload X0 hx (hb hby d2_170) rfl (q := 172) rfl ?_
                      by_cases hc205 : (191 : Int32) < B
                      · have tc205 := (show 191 < (B).toInt from own_lt hc205)
                        refine Go.icmpNo X0 hx (hb hby d2_172) (Jvm.Free.XT.ii_le_f hc205) (q := 175) rfl ?_
                        refine Go.iconst X0 hx (hb hby d2_175) (r := (0 : Int32)) rfl (q := 176) rfl ?_
                        exact Go.retI X0 hx hret hlk (Or.inl rfl) rfl (hb hby d2_176) e0 (by decide) (by decide) ⟨by rw [show own_S ys n p = (0 : Int32) from by (simp only [own_S, hA, hB]); exact own_T0 (by omega)], N0, rfl⟩
                      · have tc205 := (show ¬ 191 < (B).toInt from own_ltn hc205)
                        refine Go.icmpYes X0 hx (hb hby d2_172) (Jvm.Free.XT.ii_le_t hc205) (q := 177) (by decide) (by decide) ?_
                        refine Go.iloadN X0 hx (hb hby d2_177) rfl (q := 178) rfl ?_
                        refine Go.iconst X0 hx (hb hby d2_178) (r := (2 : Int32)) rfl (q := 179) rfl ?_
                        refine Go.iadd X0 hx (hb hby d2_179) rfl (q := 180) rfl ?_
                        refine Go.istore X0 hx (hb hby d2_180) (l' := #[.val (.ref a), .val (.int p), .val (.int A), .val (.int (4 : Int32)), .val (.int (144 : Int32)), .val (.int (191 : Int32)), .val (.int B), .val (.int (p + (2 : Int32))), .unset]) rfl (q := 182) rfl ?_
                        refine Go.iload X0 hx (hb hby d2_182) rfl (q := 184) rfl ?_
                        refine Go.iloadN X0 hx (hb hby d2_184) rfl (q := 185) rfl ?_
                        refine Go.iloadN X0 hx (hb hby d2_185) rfl (q := 186) rfl ?_
                        refine Go.iadd X0 hx (hb hby d2_186) rfl (q := 187) rfl ?_
                        refine Go.icmpNo X0 hx (hb hby d2_187) (Jvm.Free.XT.ii_ge_f (own_plt kp2 kp4 (by decide))) (q := 190) rfl ?_
                        refine Go.aloadN X0 hx (hb hby d2_190) rfl rfl (q := 191) rfl ?_
                        refine Go.iload X0 hx (hb hby d2_191) rfl (q := 193) rfl ?_
                        refine Go.bal X0 hx hZ e0 Va (own_in hn hp0 hp1 (2 : Int32) (by decide) (by decide) (show p.toInt + 2 < n.toInt by omega)) (v := (.int ((own_Y ys (p + (2 : Int32))).toInt8.toInt32))) (own_gb ys _) (hb hby d2_193) ?_
                        refine Go.sipush X0 hx (hb hby d2_194) (r := (255 : Int32)) rfl (q := 197) rfl ?_
                        refine Go.iand X0 hx (hb hby d2_197) rfl (q := 198) rfl ?_
                        rw [own_b255 hys (p + (2 : Int32))]
                        have bC := own_bd hys (p + (2 : Int32))
                        generalize hC : (own_Y ys (p + (2 : Int32))) = C at bC ⊢
                        show Go pp ee below _ (s₁.setTop (mkF mm 198 #[.val (.ref a), .val (.int p), .val (.int A), .val (.int (4 : Int32)), .val (.int (144 : Int32)), .val (.int (191 : Int32)), .val (.int B), .val (.int (p + (2 : Int32))), .unset] [(.int C)]))
                        refine Go.istore X0 hx (hb hby d2_198) (l' := #[.val (.ref a), .val (.int p), .val (.int A), .val (.int (4 : Int32)), .val (.int (144 : Int32)), .val (.int (191 : Int32)), .val (.int B), .val (.int (p + (2 : Int32))), .val (.int C)]) rfl (q := 200) rfl ?_
                        refine Go.iload X0 hx (hb hby d2_200) rfl (q := 202) rfl ?_
                        refine Go.sipush X0 hx (hb hby d2_202) (r := (128 : Int32)) rfl (q := 205) rfl ?_
                        by_cases hc206 : C < (128 : Int32)
                        · have tc206 := (show (C).toInt < 128 from own_lt hc206)
                          refine Go.icmpYes X0 hx (hb hby d2_205) (Jvm.Free.XT.ii_lt_t hc206) (q := 216) (by decide) (by decide) ?_
                          refine Go.iconst X0 hx (hb hby d2_216) (r := (0 : Int32)) rfl (q := 217) rfl ?_
                          exact Go.retI X0 hx hret hlk (Or.inl rfl) rfl (hb hby d2_217) e0 (by decide) (by decide) ⟨by rw [show own_S ys n p = (0 : Int32) from by (simp only [own_S, hA, hB, hC]); exact own_T0 (by omega)], N0, rfl⟩
                        · have tc206 := (show ¬ (C).toInt < 128 from own_ltn hc206)
                          refine Go.icmpNo X0 hx (hb hby d2_205) (Jvm.Free.XT.ii_lt_f hc206) (q := 208) rfl ?_
                          refine Go.iload X0 hx (hb hby d2_208) rfl (q := 210) rfl ?_
                          refine Go.sipush X0 hx (hb hby d2_210) (r := (191 : Int32)) rfl (q := 213) rfl ?_
                          by_cases hc207 : (191 : Int32) < C
                          · have tc207 := (show 191 < (C).toInt from own_lt hc207)
                            refine Go.icmpNo X0 hx (hb hby d2_213) (Jvm.Free.XT.ii_le_f hc207) (q := 216) rfl ?_
                            refine Go.iconst X0 hx (hb hby d2_216) (r := (0 : Int32)) rfl (q := 217) rfl ?_
                            exact Go.retI X0 hx hret hlk (Or.inl rfl) rfl (hb hby d2_217) e0 (by decide) (by decide) ⟨by rw [show own_S ys n p = (0 : Int32) from by (simp only [own_S, hA, hB, hC]); exact own_T0 (by omega)], N0, rfl⟩
                          · have tc207 := (show ¬ 191 < (C).toInt from own_ltn hc207)
                            refine Go.icmpYes X0 hx (hb hby d2_213) (Jvm.Free.XT.ii_le_t hc207) (q := 218) (by decide) (by decide) ?_
                            refine Go.iinc X0 hx (hb hby d2_218) rfl (r := ((p + (2 : Int32)) + (1 : Int32))) rfl (l' := #[.val (.ref a), .val (.int p), .val (.int A), .val (.int (4 : Int32)), .val (.int (144 : Int32)), .val (.int (191 : Int32)), .val (.int B), .val (.int ((p + (2 : Int32)) + (1 : Int32))), .val (.int C)]) rfl (q := 221) rfl ?_
                            refine Go.goto X0 hx (hb hby d2_221) (q := 182) (by decide) (by decide) ?_
                            rw [own_pp p (2 : Int32) (1 : Int32) (3 : Int32) rfl]
                            show Go pp ee below _ (s₁.setTop (mkF mm 182 #[.val (.ref a), .val (.int p), .val (.int A), .val (.int (4 : Int32)), .val (.int (144 : Int32)), .val (.int (191 : Int32)), .val (.int B), .val (.int (p + (3 : Int32))), .val (.int C)] []))
                            refine Go.iload X0 hx (hb hby d2_182) rfl (q := 184) rfl ?_
                            refine Go.iloadN X0 hx (hb hby d2_184) rfl (q := 185) rfl ?_
                            refine Go.iloadN X0 hx (hb hby d2_185) rfl (q := 186) rfl ?_
                            refine Go.iadd X0 hx (hb hby d2_186) rfl (q := 187) rfl ?_
                            refine Go.icmpNo X0 hx (hb hby d2_187) (Jvm.Free.XT.ii_ge_f (own_plt kp3 kp4 (by decide))) (q := 190) rfl ?_
                            refine Go.aloadN X0 hx (hb hby d2_190) rfl rfl (q := 191) rfl ?_
                            refine Go.iload X0 hx (hb hby d2_191) rfl (q := 193) rfl ?_
                            refine Go.bal X0 hx hZ e0 Va (own_in hn hp0 hp1 (3 : Int32) (by decide) (by decide) (show p.toInt + 3 < n.toInt by omega)) (v := (.int ((own_Y ys (p + (3 : Int32))).toInt8.toInt32))) (own_gb ys _) (hb hby d2_193) ?_
                            refine Go.sipush X0 hx (hb hby d2_194) (r := (255 : Int32)) rfl (q := 197) rfl ?_
                            refine Go.iand X0 hx (hb hby d2_197) rfl (q := 198) rfl ?_
                            rw [own_b255 hys (p + (3 : Int32))]
                            have bD := own_bd hys (p + (3 : Int32))
                            generalize hD : (own_Y ys (p + (3 : Int32))) = D at bD ⊢
                            show Go pp ee below _ (s₁.setTop (mkF mm 198 #[.val (.ref a), .val (.int p), .val (.int A), .val (.int (4 : Int32)), .val (.int (144 : Int32)), .val (.int (191 : Int32)), .val (.int B), .val (.int (p + (3 : Int32))), .val (.int C)] [(.int D)]))
                            refine Go.istore X0 hx (hb hby d2_198) (l' := #[.val (.ref a), .val (.int p), .val (.int A), .val (.int (4 : Int32)), .val (.int (144 : Int32)), .val (.int (191 : Int32)), .val (.int B), .val (.int (p + (3 : Int32))), .val (.int D)]) rfl (q := 200) rfl ?_
                            refine Go.iload X0 hx (hb hby d2_200) rfl (q := 202) rfl ?_
                            refine Go.sipush X0 hx (hb hby d2_202) (r := (128 : Int32)) rfl (q := 205) rfl ?_
                            by_cases hc208 : D < (128 : Int32)
                            · have tc208 := (show (D).toInt < 128 from own_lt hc208)
                              refine Go.icmpYes X0 hx (hb hby d2_205) (Jvm.Free.XT.ii_lt_t hc208) (q := 216) (by decide) (by decide) ?_
                              refine Go.iconst X0 hx (hb hby d2_216) (r := (0 : Int32)) rfl (q := 217) rfl ?_
                              exact Go.retI X0 hx hret hlk (Or.inl rfl) rfl (hb hby d2_217) e0 (by decide) (by decide) ⟨by rw [show own_S ys n p = (0 : Int32) from by (simp only [own_S, hA, hB, hC, hD]); exact own_T0 (by omega)], N0, rfl⟩
                            · have tc208 := (show ¬ (D).toInt < 128 from own_ltn hc208)
                              refine Go.icmpNo X0 hx (hb hby d2_205) (Jvm.Free.XT.ii_lt_f hc208) (q := 208) rfl ?_
                              refine Go.iload X0 hx (hb hby d2_208) rfl (q := 210) rfl ?_
                              refine Go.sipush X0 hx (hb hby d2_210) (r := (191 : Int32)) rfl (q := 213) rfl ?_
                              by_cases hc209 : (191 : Int32) < D
                              · have tc209 := (show 191 < (D).toInt from own_lt hc209)
                                refine Go.icmpNo X0 hx (hb hby d2_213) (Jvm.Free.XT.ii_le_f hc209) (q := 216) rfl ?_
                                refine Go.iconst X0 hx (hb hby d2_216) (r := (0 : Int32)) rfl (q := 217) rfl ?_
                                exact Go.retI X0 hx hret hlk (Or.inl rfl) rfl (hb hby d2_217) e0 (by decide) (by decide) ⟨by rw [show own_S ys n p = (0 : Int32) from by (simp only [own_S, hA, hB, hC, hD]); exact own_T0 (by omega)], N0, rfl⟩
                              · have tc209 := (show ¬ 191 < (D).toInt from own_ltn hc209)
                                refine Go.icmpYes X0 hx (hb hby d2_213) (Jvm.Free.XT.ii_le_t hc209) (q := 218) (by decide) (by decide) ?_
                                refine Go.iinc X0 hx (hb hby d2_218) rfl (r := ((p + (3 : Int32)) + (1 : Int32))) rfl (l' := #[.val (.ref a), .val (.int p), .val (.int A), .val (.int (4 : Int32)), .val (.int (144 : Int32)), .val (.int (191 : Int32)), .val (.int B), .val (.int ((p + (3 : Int32)) + (1 : Int32))), .val (.int D)]) rfl (q := 221) rfl ?_
                                refine Go.goto X0 hx (hb hby d2_221) (q := 182) (by decide) (by decide) ?_
                                rw [own_pp p (3 : Int32) (1 : Int32) (4 : Int32) rfl]
                                show Go pp ee below _ (s₁.setTop (mkF mm 182 #[.val (.ref a), .val (.int p), .val (.int A), .val (.int (4 : Int32)), .val (.int (144 : Int32)), .val (.int (191 : Int32)), .val (.int B), .val (.int (p + (4 : Int32))), .val (.int D)] []))
                                refine Go.iload X0 hx (hb hby d2_182) rfl (q := 184) rfl ?_
                                refine Go.iloadN X0 hx (hb hby d2_184) rfl (q := 185) rfl ?_
                                refine Go.iloadN X0 hx (hb hby d2_185) rfl (q := 186) rfl ?_
                                refine Go.iadd X0 hx (hb hby d2_186) rfl (q := 187) rfl ?_
                                refine Go.icmpYes X0 hx (hb hby d2_187) (Jvm.Free.XT.ii_ge_t (own_pnl kp4 kp4 (by decide))) (q := 224) (by decide) (by decide) ?_
                                refine Go.iloadN X0 hx (hb hby d2_224) rfl (q := 225) rfl ?_
                                exact Go.retI X0 hx hret hlk (Or.inl rfl) rfl (hb hby d2_225) e0 (by decide) (by decide) ⟨by rw [show own_S ys n p = (4 : Int32) from by (simp only [own_S, hA, hB, hC, hD]); exact own_T4 (by omega)], N0, rfl⟩
                · have tc202 := (show ¬ (A).toInt = 240 from own_eqn hc202)
                  refine Go.icmpYes X0 hx (hb hby d2_112) (Jvm.Free.XT.ii_ne_t hc202) (q := 123) (by decide) (by decide) ?_
                  refine Go.iloadN X0 hx (hb hby d2_123) rfl (q := 124) rfl ?_
                  refine Go.sipush X0 hx (hb hby d2_124) (r := (244 : Int32)) rfl (q := 127) rfl ?_
                  by_cases hc210 : A = (244 : Int32)
                  · have tc210 := (show (A).toInt = 244 from own_eq hc210)
                    refine Go.icmpNo X0 hx (hb hby d2_127) (Jvm.Free.XT.ii_ne_f hc210) (q := 130) rfl ?_
                    refine Go.sipush X0 hx (hb hby d2_130) (r := (143 : Int32)) rfl (q := 133) rfl ?_
                    refine Go.istore X0 hx (hb hby d2_133) (l' := #[.val (.ref a), .val (.int p), .val (.int A), .val (.int (4 : Int32)), .val (.int (128 : Int32)), .val (.int (143 : Int32)), .unset, .unset, .unset]) rfl (q := 135) rfl ?_
                    refine Go.goto X0 hx (hb hby d2_135) (q := 140) (by decide) (by decide) ?_
                    refine Go.iloadN X0 hx (hb hby d2_140) rfl (q := 141) rfl ?_
                    refine Go.iloadN X0 hx (hb hby d2_141) rfl (q := 142) rfl ?_
                    refine Go.iadd X0 hx (hb hby d2_142) rfl (q := 143) rfl ?_
                    refine Go.aloadN X0 hx (hb hby d2_143) rfl rfl (q := 144) rfl ?_
                    refine Go.alen X0 hx hZ e0 Va (hb hby d2_144) ?_
                    by_cases hc211 : n < (p + (4 : Int32))
                    · have tc211 := (show (n).toInt < ((p + (4 : Int32))).toInt from own_lt hc211)
                      refine Go.icmpNo X0 hx (hb hby d2_145) (Jvm.Free.XT.ii_le_f hc211) (q := 148) rfl ?_
                      refine Go.iconst X0 hx (hb hby d2_148) (r := (0 : Int32)) rfl (q := 149) rfl ?_
                      exact Go.retI X0 hx hret hlk (Or.inl rfl) rfl (hb hby d2_149) e0 (by decide) (by decide) ⟨by rw [show own_S ys n p = (0 : Int32) from by (simp only [own_S, hA]); exact own_T0 (by omega)], N0, rfl⟩
                    · have tc211 := (show ¬ (n).toInt < ((p + (4 : Int32))).toInt from own_ltn hc211)
                      refine Go.icmpYes X0 hx (hb hby d2_145) (Jvm.Free.XT.ii_le_t hc211) (q := 150) (by decide) (by decide) ?_
                      refine Go.aloadN X0 hx (hb hby d2_150) rfl rfl (q := 151) rfl ?_
                      refine Go.iloadN X0 hx (hb hby d2_151) rfl (q := 152) rfl ?_
                      refine Go.iconst X0 hx (hb hby d2_152) (r := (1 : Int32)) rfl (q := 153) rfl ?_
                      refine Go.iadd X0 hx (hb hby d2_153) rfl (q := 154) rfl ?_
                      refine Go.bal X0 hx hZ e0 Va (own_in hn hp0 hp1 (1 : Int32) (by decide) (by decide) (show p.toInt + 1 < n.toInt by omega)) (v := (.int ((own_Y ys (p + (1 : Int32))).toInt8.toInt32))) (own_gb ys _) (hb hby d2_154) ?_
                      refine Go.sipush X0 hx (hb hby d2_155) (r := (255 : Int32)) rfl (q := 158) rfl ?_
                      refine Go.iand X0 hx (hb hby d2_158) rfl (q := 159) rfl ?_
                      rw [own_b255 hys (p + (1 : Int32))]
                      have bB := own_bd hys (p + (1 : Int32))
                      generalize hB : (own_Y ys (p + (1 : Int32))) = B at bB ⊢
                      show Go pp ee below _ (s₁.setTop (mkF mm 159 #[.val (.ref a), .val (.int p), .val (.int A), .val (.int (4 : Int32)), .val (.int (128 : Int32)), .val (.int (143 : Int32)), .unset, .unset, .unset] [(.int B)]))
                      refine Go.istore X0 hx (hb hby d2_159) (l' := #[.val (.ref a), .val (.int p), .val (.int A), .val (.int (4 : Int32)), .val (.int (128 : Int32)), .val (.int (143 : Int32)), .val (.int B), .unset, .unset]) rfl (q := 161) rfl ?_
                      refine Go.iload X0 hx (hb hby d2_161) rfl (q := 163) rfl ?_
                      refine Go.iload X0 hx (hb hby d2_163) rfl (q := 165) rfl ?_
                      by_cases hc212 : B < (128 : Int32)
                      · have tc212 := (show (B).toInt < 128 from own_lt hc212)
                        refine Go.icmpYes X0 hx (hb hby d2_165) (Jvm.Free.XT.ii_lt_t hc212) (q := 175) (by decide) (by decide) ?_
                        refine Go.iconst X0 hx (hb hby d2_175) (r := (0 : Int32)) rfl (q := 176) rfl ?_
                        exact Go.retI X0 hx hret hlk (Or.inl rfl) rfl (hb hby d2_176) e0 (by decide) (by decide) ⟨by rw [show own_S ys n p = (0 : Int32) from by (simp only [own_S, hA, hB]); exact own_T0 (by omega)], N0, rfl⟩
                      · have tc212 := (show ¬ (B).toInt < 128 from own_ltn hc212)
                        refine Go.icmpNo X0 hx (hb hby d2_165) (Jvm.Free.XT.ii_lt_f hc212) (q := 168) rfl ?_
                        refine Go.iload X0 hx (hb hby d2_168) rfl (q := 170) rfl ?_
                        refine Go.iload X0 hx (hb hby d2_170) rfl (q := 172) rfl ?_
                        by_cases hc213 : (143 : Int32) < B
                        · have tc213 := (show 143 < (B).toInt from own_lt hc213)
                          refine Go.icmpNo X0 hx (hb hby d2_172) (Jvm.Free.XT.ii_le_f hc213) (q := 175) rfl ?_
                          refine Go.iconst X0 hx (hb hby d2_175) (r := (0 : Int32)) rfl (q := 176) rfl ?_
                          exact Go.retI X0 hx hret hlk (Or.inl rfl) rfl (hb hby d2_176) e0 (by decide) (by decide) ⟨by rw [show own_S ys n p = (0 : Int32) from by (simp only [own_S, hA, hB]); exact own_T0 (by omega)], N0, rfl⟩
                        · have tc213 := (show ¬ 143 < (B).toInt from own_ltn hc213)
                          refine Go.icmpYes X0 hx (hb hby d2_172) (Jvm.Free.XT.ii_le_t hc213) (q := 177) (by decide) (by decide) ?_
                          refine Go.iloadN X0 hx (hb hby d2_177) rfl (q := 178) rfl ?_
                          refine Go.iconst X0 hx (hb hby d2_178) (r := (2 : Int32)) rfl (q := 179) rfl ?_
                          refine Go.iadd X0 hx (hb hby d2_179) rfl (q := 180) rfl ?_
                          refine Go.istore X0 hx (hb hby d2_180) (l' := #[.val (.ref a), .val (.int p), .val (.int A), .val (.int (4 : Int32)), .val (.int (128 : Int32)), .val (.int (143 : Int32)), .val (.int B), .val (.int (p + (2 : Int32))), .unset]) rfl (q := 182) rfl ?_
                          refine Go.iload X0 hx (hb hby d2_182) rfl (q := 184) rfl ?_
                          refine Go.iloadN X0 hx (hb hby d2_184) rfl (q := 185) rfl ?_
                          refine Go.iloadN X0 hx (hb hby d2_185) rfl (q := 186) rfl ?_
                          refine Go.iadd X0 hx (hb hby d2_186) rfl (q := 187) rfl ?_
                          refine Go.icmpNo X0 hx (hb hby d2_187) (Jvm.Free.XT.ii_ge_f (own_plt kp2 kp4 (by decide))) (q := 190) rfl ?_
                          refine Go.aloadN X0 hx (hb hby d2_190) rfl rfl (q := 191) rfl ?_
                          refine Go.iload X0 hx (hb hby d2_191) rfl (q := 193) rfl ?_
                          refine Go.bal X0 hx hZ e0 Va (own_in hn hp0 hp1 (2 : Int32) (by decide) (by decide) (show p.toInt + 2 < n.toInt by omega)) (v := (.int ((own_Y ys (p + (2 : Int32))).toInt8.toInt32))) (own_gb ys _) (hb hby d2_193) ?_
                          refine Go.sipush X0 hx (hb hby d2_194) (r := (255 : Int32)) rfl (q := 197) rfl ?_
                          refine Go.iand X0 hx (hb hby d2_197) rfl (q := 198) rfl ?_
                          rw [own_b255 hys (p + (2 : Int32))]
                          have bC := own_bd hys (p + (2 : Int32))
                          generalize hC : (own_Y ys (p + (2 : Int32))) = C at bC ⊢
                          show Go pp ee below _ (s₁.setTop (mkF mm 198 #[.val (.ref a), .val (.int p), .val (.int A), .val (.int (4 : Int32)), .val (.int (128 : Int32)), .val (.int (143 : Int32)), .val (.int B), .val (.int (p + (2 : Int32))), .unset] [(.int C)]))
                          refine Go.istore X0 hx (hb hby d2_198) (l' := #[.val (.ref a), .val (.int p), .val (.int A), .val (.int (4 : Int32)), .val (.int (128 : Int32)), .val (.int (143 : Int32)), .val (.int B), .val (.int (p + (2 : Int32))), .val (.int C)]) rfl (q := 200) rfl ?_
                          refine Go.iload X0 hx (hb hby d2_200) rfl (q := 202) rfl ?_
                          refine Go.sipush X0 hx (hb hby d2_202) (r := (128 : Int32)) rfl (q := 205) rfl ?_
                          by_cases hc214 : C < (128 : Int32)
                          · have tc214 := (show (C).toInt < 128 from own_lt hc214)
                            refine Go.icmpYes X0 hx (hb hby d2_205) (Jvm.Free.XT.ii_lt_t hc214) (q := 216) (by decide) (by decide) ?_
                            refine Go.iconst X0 hx (hb hby d2_216) (r := (0 : Int32)) rfl (q := 217) rfl ?_
                            exact Go.retI X0 hx hret hlk (Or.inl rfl) rfl (hb hby d2_217) e0 (by decide) (by decide) ⟨by rw [show own_S ys n p = (0 : Int32) from by (simp only [own_S, hA, hB, hC]); exact own_T0 (by omega)], N0, rfl⟩
                          · have tc214 := (show ¬ (C).toInt < 128 from own_ltn hc214)
                            refine Go.icmpNo X0 hx (hb hby d2_205) (Jvm.Free.XT.ii_lt_f hc214) (q := 208) rfl ?_
                            refine Go.iload X0 hx (hb hby d2_208) rfl (q := 210) rfl ?_
                            refine Go.sipush X0 hx (hb hby d2_210) (r := (191 : Int32)) rfl (q := 213) rfl ?_
                            by_cases hc215 : (191 : Int32) < C
                            · have tc215 := (show 191 < (C).toInt from own_lt hc215)
                              refine Go.icmpNo X0 hx (hb hby d2_213) (Jvm.Free.XT.ii_le_f hc215) (q := 216) rfl ?_
                              refine Go.iconst X0 hx (hb hby d2_216) (r := (0 : Int32)) rfl (q := 217) rfl ?_
                              exact Go.retI X0 hx hret hlk (Or.inl rfl) rfl (hb hby d2_217) e0 (by decide) (by decide) ⟨by rw [show own_S ys n p = (0 : Int32) from by (simp only [own_S, hA, hB, hC]); exact own_T0 (by omega)], N0, rfl⟩
                            · have tc215 := (show ¬ 191 < (C).toInt from own_ltn hc215)
                              refine Go.icmpYes X0 hx (hb hby d2_213) (Jvm.Free.XT.ii_le_t hc215) (q := 218) (by decide) (by decide) ?_
                              refine Go.iinc X0 hx (hb hby d2_218) rfl (r := ((p + (2 : Int32)) + (1 : Int32))) rfl (l' := #[.val (.ref a), .val (.int p), .val (.int A), .val (.int (4 : Int32)), .val (.int (128 : Int32)), .val (.int (143 : Int32)), .val (.int B), .val (.int ((p + (2 : Int32)) + (1 : Int32))), .val (.int C)]) rfl (q := 221) rfl ?_
                              refine Go.goto X0 hx (hb hby d2_221) (q := 182) (by decide) (by decide) ?_
                              rw [own_pp p (2 : Int32) (1 : Int32) (3 : Int32) rfl]
                              show Go pp ee below _ (s₁.setTop (mkF mm 182 #[.val (.ref a), .val (.int p), .val (.int A), .val (.int (4 : Int32)), .val (.int (128 : Int32)), .val (.int (143 : Int32)), .val (.int B), .val (.int (p + (3 : Int32))), .val (.int C)] []))
                              refine Go.iload X0 hx (hb hby d2_182) rfl (q := 184) rfl ?_
                              refine Go.iloadN X0 hx (hb hby d2_184) rfl (q := 185) rfl ?_
                              refine Go.iloadN X0 hx (hb hby d2_185) rfl (q := 186) rfl ?_
                              refine Go.iadd X0 hx (hb hby d2_186) rfl (q := 187) rfl ?_
                              refine Go.icmpNo X0 hx (hb hby d2_187) (Jvm.Free.XT.ii_ge_f (own_plt kp3 kp4 (by decide))) (q := 190) rfl ?_
                              refine Go.aloadN X0 hx (hb hby d2_190) rfl rfl (q := 191) rfl ?_
                              refine Go.iload X0 hx (hb hby d2_191) rfl (q := 193) rfl ?_
                              refine Go.bal X0 hx hZ e0 Va (own_in hn hp0 hp1 (3 : Int32) (by decide) (by decide) (show p.toInt + 3 < n.toInt by omega)) (v := (.int ((own_Y ys (p + (3 : Int32))).toInt8.toInt32))) (own_gb ys _) (hb hby d2_193) ?_
                              refine Go.sipush X0 hx (hb hby d2_194) (r := (255 : Int32)) rfl (q := 197) rfl ?_
                              refine Go.iand X0 hx (hb hby d2_197) rfl (q := 198) rfl ?_
                              rw [own_b255 hys (p + (3 : Int32))]
                              have bD := own_bd hys (p + (3 : Int32))
                              generalize hD : (own_Y ys (p + (3 : Int32))) = D at bD ⊢
                              show Go pp ee below _ (s₁.setTop (mkF mm 198 #[.val (.ref a), .val (.int p), .val (.int A), .val (.int (4 : Int32)), .val (.int (128 : Int32)), .val (.int (143 : Int32)), .val (.int B), .val (.int (p + (3 : Int32))), .val (.int C)] [(.int D)]))
                              refine Go.istore X0 hx (hb hby d2_198) (l' := #[.val (.ref a), .val (.int p), .val (.int A), .val (.int (4 : Int32)), .val (.int (128 : Int32)), .val (.int (143 : Int32)), .val (.int B), .val (.int (p + (3 : Int32))), .val (.int D)]) rfl (q := 200) rfl ?_
                              refine Go.iload X0 hx (hb hby d2_200) rfl (q := 202) rfl ?_
                              refine Go.sipush X0 hx (hb hby d2_202) (r := (128 : Int32)) rfl (q := 205) rfl ?_
                              by_cases hc216 : D < (128 : Int32)
                              · have tc216 := (show (D).toInt < 128 from own_lt hc216)
                                refine Go.icmpYes X0 hx (hb hby d2_205) (Jvm.Free.XT.ii_lt_t hc216) (q := 216) (by decide) (by decide) ?_
                                refine Go.iconst X0 hx (hb hby d2_216) (r := (0 : Int32)) rfl (q := 217) rfl ?_
                                exact Go.retI X0 hx hret hlk (Or.inl rfl) rfl (hb hby d2_217) e0 (by decide) (by decide) ⟨by rw [show own_S ys n p = (0 : Int32) from by (simp only [own_S, hA, hB, hC, hD]); exact own_T0 (by omega)], N0, rfl⟩
                              · have tc216 := (show ¬ (D).toInt < 128 from own_ltn hc216)
                                refine Go.icmpNo X0 hx (hb hby d2_205) (Jvm.Free.XT.ii_lt_f hc216) (q := 208) rfl ?_
                                refine Go.iload X0 hx (hb hby d2_208) rfl (q := 210) rfl ?_
                                refine Go.sipush X0 hx (hb hby d2_210) (r := (191 : Int32)) rfl (q := 213) rfl ?_
                                by_cases hc217 : (191 : Int32) < D
                                · have tc217 := (show 191 < (D).toInt from own_lt hc217)
                                  refine Go.icmpNo X0 hx (hb hby d2_213) (Jvm.Free.XT.ii_le_f hc217) (q := 216) rfl ?_
                                  refine Go.iconst X0 hx (hb hby d2_216) (r := (0 : Int32)) rfl (q := 217) rfl ?_
                                  exact Go.retI X0 hx hret hlk (Or.inl rfl) rfl (hb hby d2_217) e0 (by decide) (by decide) ⟨by rw [show own_S ys n p = (0 : Int32) from by (simp only [own_S, hA, hB, hC, hD]); exact own_T0 (by omega)], N0, rfl⟩
                                · have tc217 := (show ¬ 191 < (D).toInt from own_ltn hc217)
                                  refine Go.icmpYes X0 hx (hb hby d2_213) (Jvm.Free.XT.ii_le_t hc217) (q := 218) (by decide) (by decide) ?_
                                  refine Go.iinc X0 hx (hb hby d2_218) rfl (r := ((p + (3 : Int32)) + (1 : Int32))) rfl (l' := #[.val (.ref a), .val (.int p), .val (.int A), .val (.int (4 : Int32)), .val (.int (128 : Int32)), .val (.int (143 : Int32)), .val (.int B), .val (.int ((p + (3 : Int32)) + (1 : Int32))), .val (.int D)]) rfl (q := 221) rfl ?_
                                  refine Go.goto X0 hx (hb hby d2_221) (q := 182) (by decide) (by decide) ?_
                                  rw [own_pp p (3 : Int32) (1 : Int32) (4 : Int32) rfl]
                                  show Go pp ee below _ (s₁.setTop (mkF mm 182 #[.val (.ref a), .val (.int p), .val (.int A), .val (.int (4 : Int32)), .val (.int (128 : Int32)), .val (.int (143 : Int32)), .val (.int B), .val (.int (p + (4 : Int32))), .val (.int D)] []))
                                  refine Go.iload X0 hx (hb hby d2_182) rfl (q := 184) rfl ?_
                                  refine Go.iloadN X0 hx (hb hby d2_184) rfl (q := 185) rfl ?_
                                  refine Go.iloadN X0 hx (hb hby d2_185) rfl (q := 186) rfl ?_
                                  refine Go.iadd X0 hx (hb hby d2_186) rfl (q := 187) rfl ?_
                                  refine Go.icmpYes X0 hx (hb hby d2_187) (Jvm.Free.XT.ii_ge_t (own_pnl kp4 kp4 (by decide))) (q := 224) (by decide) (by decide) ?_
                                  refine Go.iloadN X0 hx (hb hby d2_224) rfl (q := 225) rfl ?_
                                  exact Go.retI X0 hx hret hlk (Or.inl rfl) rfl (hb hby d2_225) e0 (by decide) (by decide) ⟨by rw [show own_S ys n p = (4 : Int32) from by (simp only [own_S, hA, hB, hC, hD]); exact own_T4 (by omega)], N0, rfl⟩
                  · have tc210 := (show ¬ (A).toInt = 244 from own_eqn hc210)
                    refine Go.icmpYes X0 hx (hb hby d2_127) (Jvm.Free.XT.ii_ne_t hc210) (q := 140) (by decide) (by decide) ?_
                    refine Go.iloadN X0 hx (hb hby d2_140) rfl (q := 141) rfl ?_
                    refine Go.iloadN X0 hx (hb hby d2_141) rfl (q := 142) rfl ?_
                    refine Go.iadd X0 hx (hb hby d2_142) rfl (q := 143) rfl ?_
                    refine Go.aloadN X0 hx (hb hby d2_143) rfl rfl (q := 144) rfl ?_
                    refine Go.alen X0 hx hZ e0 Va (hb hby d2_144) ?_
                    by_cases hc218 : n < (p + (4 : Int32))
                    · have tc218 := (show (n).toInt < ((p + (4 : Int32))).toInt from own_lt hc218)
                      refine Go.icmpNo X0 hx (hb hby d2_145) (Jvm.Free.XT.ii_le_f hc218) (q := 148) rfl ?_
                      refine Go.iconst X0 hx (hb hby d2_148) (r := (0 : Int32)) rfl (q := 149) rfl ?_
                      exact Go.retI X0 hx hret hlk (Or.inl rfl) rfl (hb hby d2_149) e0 (by decide) (by decide) ⟨by rw [show own_S ys n p = (0 : Int32) from by (simp only [own_S, hA]); exact own_T0 (by omega)], N0, rfl⟩
                    · have tc218 := (show ¬ (n).toInt < ((p + (4 : Int32))).toInt from own_ltn hc218)
                      refine Go.icmpYes X0 hx (hb hby d2_145) (Jvm.Free.XT.ii_le_t hc218) (q := 150) (by decide) (by decide) ?_
                      refine Go.aloadN X0 hx (hb hby d2_150) rfl rfl (q := 151) rfl ?_
                      refine Go.iloadN X0 hx (hb hby d2_151) rfl (q := 152) rfl ?_
                      refine Go.iconst X0 hx (hb hby d2_152) (r := (1 : Int32)) rfl (q := 153) rfl ?_
                      refine Go.iadd X0 hx (hb hby d2_153) rfl (q := 154) rfl ?_
                      refine Go.bal X0 hx hZ e0 Va (own_in hn hp0 hp1 (1 : Int32) (by decide) (by decide) (show p.toInt + 1 < n.toInt by omega)) (v := (.int ((own_Y ys (p + (1 : Int32))).toInt8.toInt32))) (own_gb ys _) (hb hby d2_154) ?_
                      refine Go.sipush X0 hx (hb hby d2_155) (r := (255 : Int32)) rfl (q := 158) rfl ?_
                      refine Go.iand X0 hx (hb hby d2_158) rfl (q := 159) rfl ?_
                      rw [own_b255 hys (p + (1 : Int32))]
                      have bB := own_bd hys (p + (1 : Int32))
                      generalize hB : (own_Y ys (p + (1 : Int32))) = B at bB ⊢
                      show Go pp ee below _ (s₁.setTop (mkF mm 159 #[.val (.ref a), .val (.int p), .val (.int A), .val (.int (4 : Int32)), .val (.int (128 : Int32)), .val (.int (191 : Int32)), .unset, .unset, .unset] [(.int B)]))
                      refine Go.istore X0 hx (hb hby d2_159) (l' := #[.val (.ref a), .val (.int p), .val (.int A), .val (.int (4 : Int32)), .val (.int (128 : Int32)), .val (.int (191 : Int32)), .val (.int B), .unset, .unset]) rfl (q := 161) rfl ?_
                      refine Go.iload X0 hx (hb hby d2_161) rfl (q := 163) rfl ?_
                      refine Go.iload X0 hx (hb hby d2_163) rfl (q := 165) rfl ?_
                      by_cases hc219 : B < (128 : Int32)
                      · have tc219 := (show (B).toInt < 128 from own_lt hc219)
                        refine Go.icmpYes X0 hx (hb hby d2_165) (Jvm.Free.XT.ii_lt_t hc219) (q := 175) (by decide) (by decide) ?_
                        refine Go.iconst X0 hx (hb hby d2_175) (r := (0 : Int32)) rfl (q := 176) rfl ?_
                        exact Go.retI X0 hx hret hlk (Or.inl rfl) rfl (hb hby d2_176) e0 (by decide) (by decide) ⟨by rw [show own_S ys n p = (0 : Int32) from by (simp only [own_S, hA, hB]); exact own_T0 (by omega)], N0, rfl⟩
                      · have tc219 := (show ¬ (B).toInt < 128 from own_ltn hc219)
                        refine Go.icmpNo X0 hx (hb hby d2_165) (Jvm.Free.XT.ii_lt_f hc219) (q := 168) rfl ?_
                        refine Go.iload X0 hx (hb hby d2_168) rfl (q := 170) rfl ?_
                        refine Go.iload X0 hx (hb hby d2_170) rfl (q := 172) rfl ?_
                        by_cases hc220 : (191 : Int32) < B
                        · have tc220 := (show 191 < (B).toInt from own_lt hc220)
                          refine Go.icmpNo X0 hx (hb hby d2_172) (Jvm.Free.XT.ii_le_f hc220) (q := 175) rfl ?_
                          refine Go.iconst X0 hx (hb hby d2_175) (r := (0 : Int32)) rfl (q := 176) rfl ?_
                          exact Go.retI X0 hx hret hlk (Or.inl rfl) rfl (hb hby d2_176) e0 (by decide) (by decide) ⟨by rw [show own_S ys n p = (0 : Int32) from by (simp only [own_S, hA, hB]); exact own_T0 (by omega)], N0, rfl⟩
                        · have tc220 := (show ¬ 191 < (B).toInt from own_ltn hc220)
                          refine Go.icmpYes X0 hx (hb hby d2_172) (Jvm.Free.XT.ii_le_t hc220) (q := 177) (by decide) (by decide) ?_
                          refine Go.iloadN X0 hx (hb hby d2_177) rfl (q := 178) rfl ?_
                          refine Go.iconst X0 hx (hb hby d2_178) (r := (2 : Int32)) rfl (q := 179) rfl ?_
                          refine Go.iadd X0 hx (hb hby d2_179) rfl (q := 180) rfl ?_
                          refine Go.istore X0 hx (hb hby d2_180) (l' := #[.val (.ref a), .val (.int p), .val (.int A), .val (.int (4 : Int32)), .val (.int (128 : Int32)), .val (.int (191 : Int32)), .val (.int B), .val (.int (p + (2 : Int32))), .unset]) rfl (q := 182) rfl ?_
                          refine Go.iload X0 hx (hb hby d2_182) rfl (q := 184) rfl ?_
                          refine Go.iloadN X0 hx (hb hby d2_184) rfl (q := 185) rfl ?_
                          refine Go.iloadN X0 hx (hb hby d2_185) rfl (q := 186) rfl ?_
                          refine Go.iadd X0 hx (hb hby d2_186) rfl (q := 187) rfl ?_
                          refine Go.icmpNo X0 hx (hb hby d2_187) (Jvm.Free.XT.ii_ge_f (own_plt kp2 kp4 (by decide))) (q := 190) rfl ?_
                          refine Go.aloadN X0 hx (hb hby d2_190) rfl rfl (q := 191) rfl ?_
                          refine Go.iload X0 hx (hb hby d2_191) rfl (q := 193) rfl ?_
                          refine Go.bal X0 hx hZ e0 Va (own_in hn hp0 hp1 (2 : Int32) (by decide) (by decide) (show p.toInt + 2 < n.toInt by omega)) (v := (.int ((own_Y ys (p + (2 : Int32))).toInt8.toInt32))) (own_gb ys _) (hb hby d2_193) ?_
                          refine Go.sipush X0 hx (hb hby d2_194) (r := (255 : Int32)) rfl (q := 197) rfl ?_
                          refine Go.iand X0 hx (hb hby d2_197) rfl (q := 198) rfl ?_
                          rw [own_b255 hys (p + (2 : Int32))]
                          have bC := own_bd hys (p + (2 : Int32))
                          generalize hC : (own_Y ys (p + (2 : Int32))) = C at bC ⊢
                          show Go pp ee below _ (s₁.setTop (mkF mm 198 #[.val (.ref a), .val (.int p), .val (.int A), .val (.int (4 : Int32)), .val (.int (128 : Int32)), .val (.int (191 : Int32)), .val (.int B), .val (.int (p + (2 : Int32))), .unset] [(.int C)]))
                          refine Go.istore X0 hx (hb hby d2_198) (l' := #[.val (.ref a), .val (.int p), .val (.int A), .val (.int (4 : Int32)), .val (.int (128 : Int32)), .val (.int (191 : Int32)), .val (.int B), .val (.int (p + (2 : Int32))), .val (.int C)]) rfl (q := 200) rfl ?_
                          refine Go.iload X0 hx (hb hby d2_200) rfl (q := 202) rfl ?_
                          refine Go.sipush X0 hx (hb hby d2_202) (r := (128 : Int32)) rfl (q := 205) rfl ?_
                          by_cases hc221 : C < (128 : Int32)
                          · have tc221 := (show (C).toInt < 128 from own_lt hc221)
                            refine Go.icmpYes X0 hx (hb hby d2_205) (Jvm.Free.XT.ii_lt_t hc221) (q := 216) (by decide) (by decide) ?_
                            refine Go.iconst X0 hx (hb hby d2_216) (r := (0 : Int32)) rfl (q := 217) rfl ?_
                            exact Go.retI X0 hx hret hlk (Or.inl rfl) rfl (hb hby d2_217) e0 (by decide) (by decide) ⟨by rw [show own_S ys n p = (0 : Int32) from by (simp only [own_S, hA, hB, hC]); exact own_T0 (by omega)], N0, rfl⟩
                          · have tc221 := (show ¬ (C).toInt < 128 from own_ltn hc221)
                            refine Go.icmpNo X0 hx (hb hby d2_205) (Jvm.Free.XT.ii_lt_f hc221) (q := 208) rfl ?_
                            refine Go.iload X0 hx (hb hby d2_208) rfl (q := 210) rfl ?_
                            refine Go.sipush X0 hx (hb hby d2_210) (r := (191 : Int32)) rfl (q := 213) rfl ?_
                            by_cases hc222 : (191 : Int32) < C
                            · have tc222 := (show 191 < (C).toInt from own_lt hc222)
                              refine Go.icmpNo X0 hx (hb hby d2_213) (Jvm.Free.XT.ii_le_f hc222) (q := 216) rfl ?_
                              refine Go.iconst X0 hx (hb hby d2_216) (r := (0 : Int32)) rfl (q := 217) rfl ?_
                              exact Go.retI X0 hx hret hlk (Or.inl rfl) rfl (hb hby d2_217) e0 (by decide) (by decide) ⟨by rw [show own_S ys n p = (0 : Int32) from by (simp only [own_S, hA, hB, hC]); exact own_T0 (by omega)], N0, rfl⟩
                            · have tc222 := (show ¬ 191 < (C).toInt from own_ltn hc222)
                              refine Go.icmpYes X0 hx (hb hby d2_213) (Jvm.Free.XT.ii_le_t hc222) (q := 218) (by decide) (by decide) ?_
                              refine Go.iinc X0 hx (hb hby d2_218) rfl (r := ((p + (2 : Int32)) + (1 : Int32))) rfl (l' := #[.val (.ref a), .val (.int p), .val (.int A), .val (.int (4 : Int32)), .val (.int (128 : Int32)), .val (.int (191 : Int32)), .val (.int B), .val (.int ((p + (2 : Int32)) + (1 : Int32))), .val (.int C)]) rfl (q := 221) rfl ?_
                              refine Go.goto X0 hx (hb hby d2_221) (q := 182) (by decide) (by decide) ?_
                              rw [own_pp p (2 : Int32) (1 : Int32) (3 : Int32) rfl]
                              show Go pp ee below _ (s₁.setTop (mkF mm 182 #[.val (.ref a), .val (.int p), .val (.int A), .val (.int (4 : Int32)), .val (.int (128 : Int32)), .val (.int (191 : Int32)), .val (.int B), .val (.int (p + (3 : Int32))), .val (.int C)] []))
                              refine Go.iload X0 hx (hb hby d2_182) rfl (q := 184) rfl ?_
                              refine Go.iloadN X0 hx (hb hby d2_184) rfl (q := 185) rfl ?_
                              refine Go.iloadN X0 hx (hb hby d2_185) rfl (q := 186) rfl ?_
                              refine Go.iadd X0 hx (hb hby d2_186) rfl (q := 187) rfl ?_
                              refine Go.icmpNo X0 hx (hb hby d2_187) (Jvm.Free.XT.ii_ge_f (own_plt kp3 kp4 (by decide))) (q := 190) rfl ?_
                              refine Go.aloadN X0 hx (hb hby d2_190) rfl rfl (q := 191) rfl ?_
                              refine Go.iload X0 hx (hb hby d2_191) rfl (q := 193) rfl ?_
                              refine Go.bal X0 hx hZ e0 Va (own_in hn hp0 hp1 (3 : Int32) (by decide) (by decide) (show p.toInt + 3 < n.toInt by omega)) (v := (.int ((own_Y ys (p + (3 : Int32))).toInt8.toInt32))) (own_gb ys _) (hb hby d2_193) ?_
                              refine Go.sipush X0 hx (hb hby d2_194) (r := (255 : Int32)) rfl (q := 197) rfl ?_
                              refine Go.iand X0 hx (hb hby d2_197) rfl (q := 198) rfl ?_
                              rw [own_b255 hys (p + (3 : Int32))]
                              have bD := own_bd hys (p + (3 : Int32))
                              generalize hD : (own_Y ys (p + (3 : Int32))) = D at bD ⊢
                              show Go pp ee below _ (s₁.setTop (mkF mm 198 #[.val (.ref a), .val (.int p), .val (.int A), .val (.int (4 : Int32)), .val (.int (128 : Int32)), .val (.int (191 : Int32)), .val (.int B), .val (.int (p + (3 : Int32))), .val (.int C)] [(.int D)]))
                              refine Go.istore X0 hx (hb hby d2_198) (l' := #[.val (.ref a), .val (.int p), .val (.int A), .val (.int (4 : Int32)), .val (.int (128 : Int32)), .val (.int (191 : Int32)), .val (.int B), .val (.int (p + (3 : Int32))), .val (.int D)]) rfl (q := 200) rfl ?_
                              refine Go.iload X0 hx (hb hby d2_200) rfl (q := 202) rfl ?_
                              refine Go.sipush X0 hx (hb hby d2_202) (r := (128 : Int32)) rfl (q := 205) rfl ?_
                              by_cases hc223 : D < (128 : Int32)
                              · have tc223 := (show (D).toInt < 128 from own_lt hc223)
                                refine Go.icmpYes X0 hx (hb hby d2_205) (Jvm.Free.XT.ii_lt_t hc223) (q := 216) (by decide) (by decide) ?_
                                refine Go.iconst X0 hx (hb hby d2_216) (r := (0 : Int32)) rfl (q := 217) rfl ?_
                                exact Go.retI X0 hx hret hlk (Or.inl rfl) rfl (hb hby d2_217) e0 (by decide) (by decide) ⟨by rw [show own_S ys n p = (0 : Int32) from by (simp only [own_S, hA, hB, hC, hD]); exact own_T0 (by omega)], N0, rfl⟩
                              · have tc223 := (show ¬ (D).toInt < 128 from own_ltn hc223)
                                refine Go.icmpNo X0 hx (hb hby d2_205) (Jvm.Free.XT.ii_lt_f hc223) (q := 208) rfl ?_
                                refine Go.iload X0 hx (hb hby d2_208) rfl (q := 210) rfl ?_
                                refine Go.sipush X0 hx (hb hby d2_210) (r := (191 : Int32)) rfl (q := 213) rfl ?_
                                by_cases hc224 : (191 : Int32) < D
                                · have tc224 := (show 191 < (D).toInt from own_lt hc224)
                                  refine Go.icmpNo X0 hx (hb hby d2_213) (Jvm.Free.XT.ii_le_f hc224) (q := 216) rfl ?_
                                  refine Go.iconst X0 hx (hb hby d2_216) (r := (0 : Int32)) rfl (q := 217) rfl ?_
                                  exact Go.retI X0 hx hret hlk (Or.inl rfl) rfl (hb hby d2_217) e0 (by decide) (by decide) ⟨by rw [show own_S ys n p = (0 : Int32) from by (simp only [own_S, hA, hB, hC, hD]); exact own_T0 (by omega)], N0, rfl⟩
                                · have tc224 := (show ¬ 191 < (D).toInt from own_ltn hc224)
                                  refine Go.icmpYes X0 hx (hb hby d2_213) (Jvm.Free.XT.ii_le_t hc224) (q := 218) (by decide) (by decide) ?_
                                  refine Go.iinc X0 hx (hb hby d2_218) rfl (r := ((p + (3 : Int32)) + (1 : Int32))) rfl (l' := #[.val (.ref a), .val (.int p), .val (.int A), .val (.int (4 : Int32)), .val (.int (128 : Int32)), .val (.int (191 : Int32)), .val (.int B), .val (.int ((p + (3 : Int32)) + (1 : Int32))), .val (.int D)]) rfl (q := 221) rfl ?_
                                  refine Go.goto X0 hx (hb hby d2_221) (q := 182) (by decide) (by decide) ?_
                                  rw [own_pp p (3 : Int32) (1 : Int32) (4 : Int32) rfl]
                                  show Go pp ee below _ (s₁.setTop (mkF mm 182 #[.val (.ref a), .val (.int p), .val (.int A), .val (.int (4 : Int32)), .val (.int (128 : Int32)), .val (.int (191 : Int32)), .val (.int B), .val (.int (p + (4 : Int32))), .val (.int D)] []))
                                  refine Go.iload X0 hx (hb hby d2_182) rfl (q := 184) rfl ?_
                                  refine Go.iloadN X0 hx (hb hby d2_184) rfl (q := 185) rfl ?_
                                  refine Go.iloadN X0 hx (hb hby d2_185) rfl (q := 186) rfl ?_
                                  refine Go.iadd X0 hx (hb hby d2_186) rfl (q := 187) rfl ?_
                                  refine Go.icmpYes X0 hx (hb hby d2_187) (Jvm.Free.XT.ii_ge_t (own_pnl kp4 kp4 (by decide))) (q := 224) (by decide) (by decide) ?_
                                  refine Go.iloadN X0 hx (hb hby d2_224) rfl (q := 225) rfl ?_
                                  exact Go.retI X0 hx hret hlk (Or.inl rfl) rfl (hb hby d2_225) e0 (by decide) (by decide) ⟨by rw [show own_S ys n p = (4 : Int32) from by (simp only [own_S, hA, hB, hC, hD]); exact own_T4 (by omega)], N0, rfl⟩
          · have tc199 := (show ¬ 239 < (A).toInt from own_ltn hc199)
            refine Go.icmpNo X0 hx (hb hby d2_57) (Jvm.Free.XT.ii_gt_f hc199) (q := 60) rfl ?_
            refine Go.iconst X0 hx (hb hby d2_60) (r := (3 : Int32)) rfl (q := 61) rfl ?_
            refine Go.istoreN X0 hx (hb hby d2_61) (l' := #[.val (.ref a), .val (.int p), .val (.int A), .val (.int (3 : Int32)), .val (.int (128 : Int32)), .val (.int (191 : Int32)), .unset, .unset, .unset]) rfl (q := 62) rfl ?_
            refine Go.iloadN X0 hx (hb hby d2_62) rfl (q := 63) rfl ?_
            refine Go.sipush X0 hx (hb hby d2_63) (r := (224 : Int32)) rfl (q := 66) rfl ?_
            by_cases hc225 : A = (224 : Int32)
            · have tc225 := (show (A).toInt = 224 from own_eq hc225)
              refine Go.icmpNo X0 hx (hb hby d2_66) (Jvm.Free.XT.ii_ne_f hc225) (q := 69) rfl ?_
              refine Go.sipush X0 hx (hb hby d2_69) (r := (160 : Int32)) rfl (q := 72) rfl ?_
              refine Go.istore X0 hx (hb hby d2_72) (l' := #[.val (.ref a), .val (.int p), .val (.int A), .val (.int (3 : Int32)), .val (.int (160 : Int32)), .val (.int (191 : Int32)), .unset, .unset, .unset]) rfl (q := 74) rfl ?_
              refine Go.goto X0 hx (hb hby d2_74) (q := 140) (by decide) (by decide) ?_
              refine Go.iloadN X0 hx (hb hby d2_140) rfl (q := 141) rfl ?_
              refine Go.iloadN X0 hx (hb hby d2_141) rfl (q := 142) rfl ?_
              refine Go.iadd X0 hx (hb hby d2_142) rfl (q := 143) rfl ?_
              refine Go.aloadN X0 hx (hb hby d2_143) rfl rfl (q := 144) rfl ?_
              refine Go.alen X0 hx hZ e0 Va (hb hby d2_144) ?_
              by_cases hc226 : n < (p + (3 : Int32))
              · have tc226 := (show (n).toInt < ((p + (3 : Int32))).toInt from own_lt hc226)
                refine Go.icmpNo X0 hx (hb hby d2_145) (Jvm.Free.XT.ii_le_f hc226) (q := 148) rfl ?_
                refine Go.iconst X0 hx (hb hby d2_148) (r := (0 : Int32)) rfl (q := 149) rfl ?_
                exact Go.retI X0 hx hret hlk (Or.inl rfl) rfl (hb hby d2_149) e0 (by decide) (by decide) ⟨by rw [show own_S ys n p = (0 : Int32) from by (simp only [own_S, hA]); exact own_T0 (by omega)], N0, rfl⟩
              · have tc226 := (show ¬ (n).toInt < ((p + (3 : Int32))).toInt from own_ltn hc226)
                refine Go.icmpYes X0 hx (hb hby d2_145) (Jvm.Free.XT.ii_le_t hc226) (q := 150) (by decide) (by decide) ?_
                refine Go.aloadN X0 hx (hb hby d2_150) rfl rfl (q := 151) rfl ?_
                refine Go.iloadN X0 hx (hb hby d2_151) rfl (q := 152) rfl ?_
                refine Go.iconst X0 hx (hb hby d2_152) (r := (1 : Int32)) rfl (q := 153) rfl ?_
                refine Go.iadd X0 hx (hb hby d2_153) rfl (q := 154) rfl ?_
                refine Go.bal X0 hx hZ e0 Va (own_in hn hp0 hp1 (1 : Int32) (by decide) (by decide) (show p.toInt + 1 < n.toInt by omega)) (v := (.int ((own_Y ys (p + (1 : Int32))).toInt8.toInt32))) (own_gb ys _) (hb hby d2_154) ?_
                refine Go.sipush X0 hx (hb hby d2_155) (r := (255 : Int32)) rfl (q := 158) rfl ?_
                refine Go.iand X0 hx (hb hby d2_158) rfl (q := 159) rfl ?_
                rw [own_b255 hys (p + (1 : Int32))]
                have bB := own_bd hys (p + (1 : Int32))
                generalize hB : (own_Y ys (p + (1 : Int32))) = B at bB ⊢
                show Go pp ee below _ (s₁.setTop (mkF mm 159 #[.val (.ref a), .val (.int p), .val (.int A), .val (.int (3 : Int32)), .val (.int (160 : Int32)), .val (.int (191 : Int32)), .unset, .unset, .unset] [(.int B)]))
                refine Go.istore X0 hx (hb hby d2_159) (l' := #[.val (.ref a), .val (.int p), .val (.int A), .val (.int (3 : Int32)), .val (.int (160 : Int32)), .val (.int (191 : Int32)), .val (.int B), .unset, .unset]) rfl (q := 161) rfl ?_
                refine Go.iload X0 hx (hb hby d2_161) rfl (q := 163) rfl ?_
                refine Go.iload X0 hx (hb hby d2_163) rfl (q := 165) rfl ?_
                by_cases hc227 : B < (160 : Int32)
                · have tc227 := (show (B).toInt < 160 from own_lt hc227)
                  refine Go.icmpYes X0 hx (hb hby d2_165) (Jvm.Free.XT.ii_lt_t hc227) (q := 175) (by decide) (by decide) ?_
                  refine Go.iconst X0 hx (hb hby d2_175) (r := (0 : Int32)) rfl (q := 176) rfl ?_
                  exact Go.retI X0 hx hret hlk (Or.inl rfl) rfl (hb hby d2_176) e0 (by decide) (by decide) ⟨by rw [show own_S ys n p = (0 : Int32) from by (simp only [own_S, hA, hB]); exact own_T0 (by omega)], N0, rfl⟩
                · have tc227 := (show ¬ (B).toInt < 160 from own_ltn hc227)
                  refine Go.icmpNo X0 hx (hb hby d2_165) (Jvm.Free.XT.ii_lt_f hc227) (q := 168) rfl ?_
                  refine Go.iload X0 hx (hb hby d2_168) rfl (q := 170) rfl ?_
                  refine Go.iload X0 hx (hb hby d2_170) rfl (q := 172) rfl ?_
                  by_cases hc228 : (191 : Int32) < B
                  · have tc228 := (show 191 < (B).toInt from own_lt hc228)
                    refine Go.icmpNo X0 hx (hb hby d2_172) (Jvm.Free.XT.ii_le_f hc228) (q := 175) rfl ?_
                    refine Go.iconst X0 hx (hb hby d2_175) (r := (0 : Int32)) rfl (q := 176) rfl ?_
                    exact Go.retI X0 hx hret hlk (Or.inl rfl) rfl (hb hby d2_176) e0 (by decide) (by decide) ⟨by rw [show own_S ys n p = (0 : Int32) from by (simp only [own_S, hA, hB]); exact own_T0 (by omega)], N0, rfl⟩
                  · have tc228 := (show ¬ 191 < (B).toInt from own_ltn hc228)
                    refine Go.icmpYes X0 hx (hb hby d2_172) (Jvm.Free.XT.ii_le_t hc228) (q := 177) (by decide) (by decide) ?_
                    refine Go.iloadN X0 hx (hb hby d2_177) rfl (q := 178) rfl ?_
                    refine Go.iconst X0 hx (hb hby d2_178) (r := (2 : Int32)) rfl (q := 179) rfl ?_
                    refine Go.iadd X0 hx (hb hby d2_179) rfl (q := 180) rfl ?_
                    refine Go.istore X0 hx (hb hby d2_180) (l' := #[.val (.ref a), .val (.int p), .val (.int A), .val (.int (3 : Int32)), .val (.int (160 : Int32)), .val (.int (191 : Int32)), .val (.int B), .val (.int (p + (2 : Int32))), .unset]) rfl (q := 182) rfl ?_
                    refine Go.iload X0 hx (hb hby d2_182) rfl (q := 184) rfl ?_
                    refine Go.iloadN X0 hx (hb hby d2_184) rfl (q := 185) rfl ?_
                    refine Go.iloadN X0 hx (hb hby d2_185) rfl (q := 186) rfl ?_
                    refine Go.iadd X0 hx (hb hby d2_186) rfl (q := 187) rfl ?_
                    refine Go.icmpNo X0 hx (hb hby d2_187) (Jvm.Free.XT.ii_ge_f (own_plt kp2 kp3 (by decide))) (q := 190) rfl ?_
                    refine Go.aloadN X0 hx (hb hby d2_190) rfl rfl (q := 191) rfl ?_
                    refine Go.iload X0 hx (hb hby d2_191) rfl (q := 193) rfl ?_
                    refine Go.bal X0 hx hZ e0 Va (own_in hn hp0 hp1 (2 : Int32) (by decide) (by decide) (show p.toInt + 2 < n.toInt by omega)) (v := (.int ((own_Y ys (p + (2 : Int32))).toInt8.toInt32))) (own_gb ys _) (hb hby d2_193) ?_
                    refine Go.sipush X0 hx (hb hby d2_194) (r := (255 : Int32)) rfl (q := 197) rfl ?_
                    refine Go.iand X0 hx (hb hby d2_197) rfl (q := 198) rfl ?_
                    rw [own_b255 hys (p + (2 : Int32))]
                    have bC := own_bd hys (p + (2 : Int32))
                    generalize hC : (own_Y ys (p + (2 : Int32))) = C at bC ⊢
                    show Go pp ee below _ (s₁.setTop (mkF mm 198 #[.val (.ref a), .val (.int p), .val (.int A), .val (.int (3 : Int32)), .val (.int (160 : Int32)), .val (.int (191 : Int32)), .val (.int B), .val (.int (p + (2 : Int32))), .unset] [(.int C)]))
                    refine Go.istore X0 hx (hb hby d2_198) (l' := #[.val (.ref a), .val (.int p), .val (.int A), .val (.int (3 : Int32)), .val (.int (160 : Int32)), .val (.int (191 : Int32)), .val (.int B), .val (.int (p + (2 : Int32))), .val (.int C)]) rfl (q := 200) rfl ?_
                    refine Go.iload X0 hx (hb hby d2_200) rfl (q := 202) rfl ?_
                    refine Go.sipush X0 hx (hb hby d2_202) (r := (128 : Int32)) rfl (q := 205) rfl ?_
                    by_cases hc229 : C < (128 : Int32)
                    · have tc229 := (show (C).toInt < 128 from own_lt hc229)
                      refine Go.icmpYes X0 hx (hb hby d2_205) (Jvm.Free.XT.ii_lt_t hc229) (q := 216) (by decide) (by decide) ?_
                      refine Go.iconst X0 hx (hb hby d2_216) (r := (0 : Int32)) rfl (q := 217) rfl ?_
                      exact Go.retI X0 hx hret hlk (Or.inl rfl) rfl (hb hby d2_217) e0 (by decide) (by decide) ⟨by rw [show own_S ys n p = (0 : Int32) from by (simp only [own_S, hA, hB, hC]); exact own_T0 (by omega)], N0, rfl⟩
                    · have tc229 := (show ¬ (C).toInt < 128 from own_ltn hc229)
                      refine Go.icmpNo X0 hx (hb hby d2_205) (Jvm.Free.XT.ii_lt_f hc229) (q := 208) rfl ?_
                      refine Go.iload X0 hx (hb hby d2_208) rfl (q := 210) rfl ?_
                      refine Go.sipush X0 hx (hb hby d2_210) (r := (191 : Int32)) rfl (q := 213) rfl ?_
                      by_cases hc230 : (191 : Int32) < C
                      · have tc230 := (show 191 < (C).toInt from own_lt hc230)
                        refine Go.icmpNo X0 hx (hb hby d2_213) (Jvm.Free.XT.ii_le_f hc230) (q := 216) rfl ?_
                        refine Go.iconst X0 hx (hb hby d2_216) (r := (0 : Int32)) rfl (q := 217) rfl ?_
                        exact Go.retI X0 hx hret hlk (Or.inl rfl) rfl (hb hby d2_217) e0 (by decide) (by decide) ⟨by rw [show own_S ys n p = (0 : Int32) from by (simp only [own_S, hA, hB, hC]); exact own_T0 (by omega)], N0, rfl⟩
                      · have tc230 := (show ¬ 191 < (C).toInt from own_ltn hc230)
                        refine Go.icmpYes X0 hx (hb hby d2_213) (Jvm.Free.XT.ii_le_t hc230) (q := 218) (by decide) (by decide) ?_
                        refine Go.iinc X0 hx (hb hby d2_218) rfl (r := ((p + (2 : Int32)) + (1 : Int32))) rfl (l' := #[.val (.ref a), .val (.int p), .val (.int A), .val (.int (3 : Int32)), .val (.int (160 : Int32)), .val (.int (191 : Int32)), .val (.int B), .val (.int ((p + (2 : Int32)) + (1 : Int32))), .val (.int C)]) rfl (q := 221) rfl ?_
                        refine Go.goto X0 hx (hb hby d2_221) (q := 182) (by decide) (by decide) ?_
                        rw [own_pp p (2 : Int32) (1 : Int32) (3 : Int32) rfl]
                        show Go pp ee below _ (s₁.setTop (mkF mm 182 #[.val (.ref a), .val (.int p), .val (.int A), .val (.int (3 : Int32)), .val (.int (160 : Int32)), .val (.int (191 : Int32)), .val (.int B), .val (.int (p + (3 : Int32))), .val (.int C)] []))
                        refine Go.iload X0 hx (hb hby d2_182) rfl (q := 184) rfl ?_
                        refine Go.iloadN X0 hx (hb hby d2_184) rfl (q := 185) rfl ?_
                        refine Go.iloadN X0 hx (hb hby d2_185) rfl (q := 186) rfl ?_
                        refine Go.iadd X0 hx (hb hby d2_186) rfl (q := 187) rfl ?_
                        refine Go.icmpYes X0 hx (hb hby d2_187) (Jvm.Free.XT.ii_ge_t (own_pnl kp3 kp3 (by decide))) (q := 224) (by decide) (by decide) ?_
                        refine Go.iloadN X0 hx (hb hby d2_224) rfl (q := 225) rfl ?_
                        exact Go.retI X0 hx hret hlk (Or.inl rfl) rfl (hb hby d2_225) e0 (by decide) (by decide) ⟨by rw [show own_S ys n p = (3 : Int32) from by (simp only [own_S, hA, hB, hC]); exact own_T3 (by omega)], N0, rfl⟩
            · have tc225 := (show ¬ (A).toInt = 224 from own_eqn hc225)
              refine Go.icmpYes X0 hx (hb hby d2_66) (Jvm.Free.XT.ii_ne_t hc225) (q := 77) (by decide) (by decide) ?_
              refine Go.iloadN X0 hx (hb hby d2_77) rfl (q := 78) rfl ?_
              refine Go.sipush X0 hx (hb hby d2_78) (r := (237 : Int32)) rfl (q := 81) rfl ?_
              by_cases hc231 : A = (237 : Int32)
              · have tc231 := (show (A).toInt = 237 from own_eq hc231)
                refine Go.icmpNo X0 hx (hb hby d2_81) (Jvm.Free.XT.ii_ne_f hc231) (q := 84) rfl ?_
                refine Go.sipush X0 hx (hb hby d2_84) (r := (159 : Int32)) rfl (q := 87) rfl ?_
                refine Go.istore X0 hx (hb hby d2_87) (l' := #[.val (.ref a), .val (.int p), .val (.int A), .val (.int (3 : Int32)), .val (.int (128 : Int32)), .val (.int (159 : Int32)), .unset, .unset, .unset]) rfl (q := 89) rfl ?_
                refine Go.goto X0 hx (hb hby d2_89) (q := 140) (by decide) (by decide) ?_
                refine Go.iloadN X0 hx (hb hby d2_140) rfl (q := 141) rfl ?_
                refine Go.iloadN X0 hx (hb hby d2_141) rfl (q := 142) rfl ?_
                refine Go.iadd X0 hx (hb hby d2_142) rfl (q := 143) rfl ?_
                refine Go.aloadN X0 hx (hb hby d2_143) rfl rfl (q := 144) rfl ?_
                refine Go.alen X0 hx hZ e0 Va (hb hby d2_144) ?_
                by_cases hc232 : n < (p + (3 : Int32))
                · have tc232 := (show (n).toInt < ((p + (3 : Int32))).toInt from own_lt hc232)
                  refine Go.icmpNo X0 hx (hb hby d2_145) (Jvm.Free.XT.ii_le_f hc232) (q := 148) rfl ?_
                  refine Go.iconst X0 hx (hb hby d2_148) (r := (0 : Int32)) rfl (q := 149) rfl ?_
                  exact Go.retI X0 hx hret hlk (Or.inl rfl) rfl (hb hby d2_149) e0 (by decide) (by decide) ⟨by rw [show own_S ys n p = (0 : Int32) from by (simp only [own_S, hA]); exact own_T0 (by omega)], N0, rfl⟩
                · have tc232 := (show ¬ (n).toInt < ((p + (3 : Int32))).toInt from own_ltn hc232)
                  refine Go.icmpYes X0 hx (hb hby d2_145) (Jvm.Free.XT.ii_le_t hc232) (q := 150) (by decide) (by decide) ?_
                  refine Go.aloadN X0 hx (hb hby d2_150) rfl rfl (q := 151) rfl ?_
                  refine Go.iloadN X0 hx (hb hby d2_151) rfl (q := 152) rfl ?_
                  refine Go.iconst X0 hx (hb hby d2_152) (r := (1 : Int32)) rfl (q := 153) rfl ?_
                  refine Go.iadd X0 hx (hb hby d2_153) rfl (q := 154) rfl ?_
                  refine Go.bal X0 hx hZ e0 Va (own_in hn hp0 hp1 (1 : Int32) (by decide) (by decide) (show p.toInt + 1 < n.toInt by omega)) (v := (.int ((own_Y ys (p + (1 : Int32))).toInt8.toInt32))) (own_gb ys _) (hb hby d2_154) ?_
                  refine Go.sipush X0 hx (hb hby d2_155) (r := (255 : Int32)) rfl (q := 158) rfl ?_
                  refine Go.iand X0 hx (hb hby d2_158) rfl (q := 159) rfl ?_
                  rw [own_b255 hys (p + (1 : Int32))]
                  have bB := own_bd hys (p + (1 : Int32))
                  generalize hB : (own_Y ys (p + (1 : Int32))) = B at bB ⊢
                  show Go pp ee below _ (s₁.setTop (mkF mm 159 #[.val (.ref a), .val (.int p), .val (.int A), .val (.int (3 : Int32)), .val (.int (128 : Int32)), .val (.int (159 : Int32)), .unset, .unset, .unset] [(.int B)]))
                  refine Go.istore X0 hx (hb hby d2_159) (l' := #[.val (.ref a), .val (.int p), .val (.int A), .val (.int (3 : Int32)), .val (.int (128 : Int32)), .val (.int (159 : Int32)), .val (.int B), .unset, .unset]) rfl (q := 161) rfl ?_
                  refine Go.iload X0 hx (hb hby d2_161) rfl (q := 163) rfl ?_
                  refine Go.iload X0 hx (hb hby d2_163) rfl (q := 165) rfl ?_
                  by_cases hc233 : B < (128 : Int32)
                  · have tc233 := (show (B).toInt < 128 from own_lt hc233)
                    refine Go.icmpYes X0 hx (hb hby d2_165) (Jvm.Free.XT.ii_lt_t hc233) (q := 175) (by decide) (by decide) ?_
                    refine Go.iconst X0 hx (hb hby d2_175) (r := (0 : Int32)) rfl (q := 176) rfl ?_
                    exact Go.retI X0 hx hret hlk (Or.inl rfl) rfl (hb hby d2_176) e0 (by decide) (by decide) ⟨by rw [show own_S ys n p = (0 : Int32) from by (simp only [own_S, hA, hB]); exact own_T0 (by omega)], N0, rfl⟩
                  · have tc233 := (show ¬ (B).toInt < 128 from own_ltn hc233)
                    refine Go.icmpNo X0 hx (hb hby d2_165) (Jvm.Free.XT.ii_lt_f hc233) (q := 168) rfl ?_
                    refine Go.iload X0 hx (hb hby d2_168) rfl (q := 170) rfl ?_
                    refine Go.iload X0 hx (hb hby d2_170) rfl (q := 172) rfl ?_
                    by_cases hc234 : (159 : Int32) < B
                    · have tc234 := (show 159 < (B).toInt from own_lt hc234)
                      refine Go.icmpNo X0 hx (hb hby d2_172) (Jvm.Free.XT.ii_le_f hc234) (q := 175) rfl ?_
                      refine Go.iconst X0 hx (hb hby d2_175) (r := (0 : Int32)) rfl (q := 176) rfl ?_
                      exact Go.retI X0 hx hret hlk (Or.inl rfl) rfl (hb hby d2_176) e0 (by decide) (by decide) ⟨by rw [show own_S ys n p = (0 : Int32) from by (simp only [own_S, hA, hB]); exact own_T0 (by omega)], N0, rfl⟩
                    · have tc234 := (show ¬ 159 < (B).toInt from own_ltn hc234)
                      refine Go.icmpYes X0 hx (hb hby d2_172) (Jvm.Free.XT.ii_le_t hc234) (q := 177) (by decide) (by decide) ?_
                      refine Go.iloadN X0 hx (hb hby d2_177) rfl (q := 178) rfl ?_
                      refine Go.iconst X0 hx (hb hby d2_178) (r := (2 : Int32)) rfl (q := 179) rfl ?_
                      refine Go.iadd X0 hx (hb hby d2_179) rfl (q := 180) rfl ?_
                      refine Go.istore X0 hx (hb hby d2_180) (l' := #[.val (.ref a), .val (.int p), .val (.int A), .val (.int (3 : Int32)), .val (.int (128 : Int32)), .val (.int (159 : Int32)), .val (.int B), .val (.int (p + (2 : Int32))), .unset]) rfl (q := 182) rfl ?_
                      refine Go.iload X0 hx (hb hby d2_182) rfl (q := 184) rfl ?_
                      refine Go.iloadN X0 hx (hb hby d2_184) rfl (q := 185) rfl ?_
                      refine Go.iloadN X0 hx (hb hby d2_185) rfl (q := 186) rfl ?_
                      refine Go.iadd X0 hx (hb hby d2_186) rfl (q := 187) rfl ?_
                      refine Go.icmpNo X0 hx (hb hby d2_187) (Jvm.Free.XT.ii_ge_f (own_plt kp2 kp3 (by decide))) (q := 190) rfl ?_
                      refine Go.aloadN X0 hx (hb hby d2_190) rfl rfl (q := 191) rfl ?_
                      refine Go.iload X0 hx (hb hby d2_191) rfl (q := 193) rfl ?_
                      refine Go.bal X0 hx hZ e0 Va (own_in hn hp0 hp1 (2 : Int32) (by decide) (by decide) (show p.toInt + 2 < n.toInt by omega)) (v := (.int ((own_Y ys (p + (2 : Int32))).toInt8.toInt32))) (own_gb ys _) (hb hby d2_193) ?_
                      refine Go.sipush X0 hx (hb hby d2_194) (r := (255 : Int32)) rfl (q := 197) rfl ?_
                      refine Go.iand X0 hx (hb hby d2_197) rfl (q := 198) rfl ?_
                      rw [own_b255 hys (p + (2 : Int32))]
                      have bC := own_bd hys (p + (2 : Int32))
                      generalize hC : (own_Y ys (p + (2 : Int32))) = C at bC ⊢
                      show Go pp ee below _ (s₁.setTop (mkF mm 198 #[.val (.ref a), .val (.int p), .val (.int A), .val (.int (3 : Int32)), .val (.int (128 : Int32)), .val (.int (159 : Int32)), .val (.int B), .val (.int (p + (2 : Int32))), .unset] [(.int C)]))
                      refine Go.istore X0 hx (hb hby d2_198) (l' := #[.val (.ref a), .val (.int p), .val (.int A), .val (.int (3 : Int32)), .val (.int (128 : Int32)), .val (.int (159 : Int32)), .val (.int B), .val (.int (p + (2 : Int32))), .val (.int C)]) rfl (q := 200) rfl ?_
                      refine Go.iload X0 hx (hb hby d2_200) rfl (q := 202) rfl ?_
                      refine Go.sipush X0 hx (hb hby d2_202) (r := (128 : Int32)) rfl (q := 205) rfl ?_
                      by_cases hc235 : C < (128 : Int32)
                      · have tc235 := (show (C).toInt < 128 from own_lt hc235)
                        refine Go.icmpYes X0 hx (hb hby d2_205) (Jvm.Free.XT.ii_lt_t hc235) (q := 216) (by decide) (by decide) ?_
                        refine Go.iconst X0 hx (hb hby d2_216) (r := (0 : Int32)) rfl (q := 217) rfl ?_
                        exact Go.retI X0 hx hret hlk (Or.inl rfl) rfl (hb hby d2_217) e0 (by decide) (by decide) ⟨by rw [show own_S ys n p = (0 : Int32) from by (simp only [own_S, hA, hB, hC]); exact own_T0 (by omega)], N0, rfl⟩
                      · have tc235 := (show ¬ (C).toInt < 128 from own_ltn hc235)
                        refine Go.icmpNo X0 hx (hb hby d2_205) (Jvm.Free.XT.ii_lt_f hc235) (q := 208) rfl ?_
                        refine Go.iload X0 hx (hb hby d2_208) rfl (q := 210) rfl ?_
                        refine Go.sipush X0 hx (hb hby d2_210) (r := (191 : Int32)) rfl (q := 213) rfl ?_
                        by_cases hc236 : (191 : Int32) < C
                        · have tc236 := (show 191 < (C).toInt from own_lt hc236)
                          refine Go.icmpNo X0 hx (hb hby d2_213) (Jvm.Free.XT.ii_le_f hc236) (q := 216) rfl ?_
                          refine Go.iconst X0 hx (hb hby d2_216) (r := (0 : Int32)) rfl (q := 217) rfl ?_
                          exact Go.retI X0 hx hret hlk (Or.inl rfl) rfl (hb hby d2_217) e0 (by decide) (by decide) ⟨by rw [show own_S ys n p = (0 : Int32) from by (simp only [own_S, hA, hB, hC]); exact own_T0 (by omega)], N0, rfl⟩
                        · have tc236 := (show ¬ 191 < (C).toInt from own_ltn hc236)
                          refine Go.icmpYes X0 hx (hb hby d2_213) (Jvm.Free.XT.ii_le_t hc236) (q := 218) (by decide) (by decide) ?_
                          refine Go.iinc X0 hx (hb hby d2_218) rfl (r := ((p + (2 : Int32)) + (1 : Int32))) rfl (l' := #[.val (.ref a), .val (.int p), .val (.int A), .val (.int (3 : Int32)), .val (.int (128 : Int32)), .val (.int (159 : Int32)), .val (.int B), .val (.int ((p + (2 : Int32)) + (1 : Int32))), .val (.int C)]) rfl (q := 221) rfl ?_
                          refine Go.goto X0 hx (hb hby d2_221) (q := 182) (by decide) (by decide) ?_
                          rw [own_pp p (2 : Int32) (1 : Int32) (3 : Int32) rfl]
                          show Go pp ee below _ (s₁.setTop (mkF mm 182 #[.val (.ref a), .val (.int p), .val (.int A), .val (.int (3 : Int32)), .val (.int (128 : Int32)), .val (.int (159 : Int32)), .val (.int B), .val (.int (p + (3 : Int32))), .val (.int C)] []))
                          refine Go.iload X0 hx (hb hby d2_182) rfl (q := 184) rfl ?_
                          refine Go.iloadN X0 hx (hb hby d2_184) rfl (q := 185) rfl ?_
                          refine Go.iloadN X0 hx (hb hby d2_185) rfl (q := 186) rfl ?_
                          refine Go.iadd X0 hx (hb hby d2_186) rfl (q := 187) rfl ?_
                          refine Go.icmpYes X0 hx (hb hby d2_187) (Jvm.Free.XT.ii_ge_t (own_pnl kp3 kp3 (by decide))) (q := 224) (by decide) (by decide) ?_
                          refine Go.iloadN X0 hx (hb hby d2_224) rfl (q := 225) rfl ?_
                          exact Go.retI X0 hx hret hlk (Or.inl rfl) rfl (hb hby d2_225) e0 (by decide) (by decide) ⟨by rw [show own_S ys n p = (3 : Int32) from by (simp only [own_S, hA, hB, hC]); exact own_T3 (by omega)], N0, rfl⟩
              · have tc231 := (show ¬ (A).toInt = 237 from own_eqn hc231)
                refine Go.icmpYes X0 hx (hb hby d2_81) (Jvm.Free.XT.ii_ne_t hc231) (q := 140) (by decide) (by decide) ?_
                refine Go.iloadN X0 hx (hb hby d2_140) rfl (q := 141) rfl ?_
                refine Go.iloadN X0 hx (hb hby d2_141) rfl (q := 142) rfl ?_
                refine Go.iadd X0 hx (hb hby d2_142) rfl (q := 143) rfl ?_
                refine Go.aloadN X0 hx (hb hby d2_143) rfl rfl (q := 144) rfl ?_
                refine Go.alen X0 hx hZ e0 Va (hb hby d2_144) ?_
                by_cases hc237 : n < (p + (3 : Int32))
                · have tc237 := (show (n).toInt < ((p + (3 : Int32))).toInt from own_lt hc237)
                  refine Go.icmpNo X0 hx (hb hby d2_145) (Jvm.Free.XT.ii_le_f hc237) (q := 148) rfl ?_
                  refine Go.iconst X0 hx (hb hby d2_148) (r := (0 : Int32)) rfl (q := 149) rfl ?_
                  exact Go.retI X0 hx hret hlk (Or.inl rfl) rfl (hb hby d2_149) e0 (by decide) (by decide) ⟨by rw [show own_S ys n p = (0 : Int32) from by (simp only [own_S, hA]); exact own_T0 (by omega)], N0, rfl⟩
                · have tc237 := (show ¬ (n).toInt < ((p + (3 : Int32))).toInt from own_ltn hc237)
                  refine Go.icmpYes X0 hx (hb hby d2_145) (Jvm.Free.XT.ii_le_t hc237) (q := 150) (by decide) (by decide) ?_
                  refine Go.aloadN X0 hx (hb hby d2_150) rfl rfl (q := 151) rfl ?_
                  refine Go.iloadN X0 hx (hb hby d2_151) rfl (q := 152) rfl ?_
                  refine Go.iconst X0 hx (hb hby d2_152) (r := (1 : Int32)) rfl (q := 153) rfl ?_
                  refine Go.iadd X0 hx (hb hby d2_153) rfl (q := 154) rfl ?_
                  refine Go.bal X0 hx hZ e0 Va (own_in hn hp0 hp1 (1 : Int32) (by decide) (by decide) (show p.toInt + 1 < n.toInt by omega)) (v := (.int ((own_Y ys (p + (1 : Int32))).toInt8.toInt32))) (own_gb ys _) (hb hby d2_154) ?_
                  refine Go.sipush X0 hx (hb hby d2_155) (r := (255 : Int32)) rfl (q := 158) rfl ?_
                  refine Go.iand X0 hx (hb hby d2_158) rfl (q := 159) rfl ?_
                  rw [own_b255 hys (p + (1 : Int32))]
                  have bB := own_bd hys (p + (1 : Int32))
                  generalize hB : (own_Y ys (p + (1 : Int32))) = B at bB ⊢
                  show Go pp ee below _ (s₁.setTop (mkF mm 159 #[.val (.ref a), .val (.int p), .val (.int A), .val (.int (3 : Int32)), .val (.int (128 : Int32)), .val (.int (191 : Int32)), .unset, .unset, .unset] [(.int B)]))
                  refine Go.istore X0 hx (hb hby d2_159) (l' := #[.val (.ref a), .val (.int p), .val (.int A), .val (.int (3 : Int32)), .val (.int (128 : Int32)), .val (.int (191 : Int32)), .val (.int B), .unset, .unset]) rfl (q := 161) rfl ?_
                  refine Go.iload X0 hx (hb hby d2_161) rfl (q := 163) rfl ?_
                  refine Go.iload X0 hx (hb hby d2_163) rfl (q := 165) rfl ?_
                  by_cases hc238 : B < (128 : Int32)
                  · have tc238 := (show (B).toInt < 128 from own_lt hc238)
                    refine Go.icmpYes X0 hx (hb hby d2_165) (Jvm.Free.XT.ii_lt_t hc238) (q := 175) (by decide) (by decide) ?_
                    refine Go.iconst X0 hx (hb hby d2_175) (r := (0 : Int32)) rfl (q := 176) rfl ?_
                    exact Go.retI X0 hx hret hlk (Or.inl rfl) rfl (hb hby d2_176) e0 (by decide) (by decide) ⟨by rw [show own_S ys n p = (0 : Int32) from by (simp only [own_S, hA, hB]); exact own_T0 (by omega)], N0, rfl⟩
                  · have tc238 := (show ¬ (B).toInt < 128 from own_ltn hc238)
                    refine Go.icmpNo X0 hx (hb hby d2_165) (Jvm.Free.XT.ii_lt_f hc238) (q := 168) rfl ?_
                    refine Go.iload X0 hx (hb hby d2_168) rfl (q := 170) rfl ?_
                    refine Go.iload X0 hx (hb hby d2_170) rfl (q := 172) rfl ?_
                    by_cases hc239 : (191 : Int32) < B
                    · have tc239 := (show 191 < (B).toInt from own_lt hc239)
                      refine Go.icmpNo X0 hx (hb hby d2_172) (Jvm.Free.XT.ii_le_f hc239) (q := 175) rfl ?_
                      refine Go.iconst X0 hx (hb hby d2_175) (r := (0 : Int32)) rfl (q := 176) rfl ?_
                      exact Go.retI X0 hx hret hlk (Or.inl rfl) rfl (hb hby d2_176) e0 (by decide) (by decide) ⟨by rw [show own_S ys n p = (0 : Int32) from by (simp only [own_S, hA, hB]); exact own_T0 (by omega)], N0, rfl⟩
                    · have tc239 := (show ¬ 191 < (B).toInt from own_ltn hc239)
                      refine Go.icmpYes X0 hx (hb hby d2_172) (Jvm.Free.XT.ii_le_t hc239) (q := 177) (by decide) (by decide) ?_
                      refine Go.iloadN X0 hx (hb hby d2_177) rfl (q := 178) rfl ?_
                      refine Go.iconst X0 hx (hb hby d2_178) (r := (2 : Int32)) rfl (q := 179) rfl ?_
                      refine Go.iadd X0 hx (hb hby d2_179) rfl (q := 180) rfl ?_
                      refine Go.istore X0 hx (hb hby d2_180) (l' := #[.val (.ref a), .val (.int p), .val (.int A), .val (.int (3 : Int32)), .val (.int (128 : Int32)), .val (.int (191 : Int32)), .val (.int B), .val (.int (p + (2 : Int32))), .unset]) rfl (q := 182) rfl ?_
                      refine Go.iload X0 hx (hb hby d2_182) rfl (q := 184) rfl ?_
                      refine Go.iloadN X0 hx (hb hby d2_184) rfl (q := 185) rfl ?_
                      refine Go.iloadN X0 hx (hb hby d2_185) rfl (q := 186) rfl ?_
                      refine Go.iadd X0 hx (hb hby d2_186) rfl (q := 187) rfl ?_
                      refine Go.icmpNo X0 hx (hb hby d2_187) (Jvm.Free.XT.ii_ge_f (own_plt kp2 kp3 (by decide))) (q := 190) rfl ?_
                      refine Go.aloadN X0 hx (hb hby d2_190) rfl rfl (q := 191) rfl ?_
                      refine Go.iload X0 hx (hb hby d2_191) rfl (q := 193) rfl ?_
                      refine Go.bal X0 hx hZ e0 Va (own_in hn hp0 hp1 (2 : Int32) (by decide) (by decide) (show p.toInt + 2 < n.toInt by omega)) (v := (.int ((own_Y ys (p + (2 : Int32))).toInt8.toInt32))) (own_gb ys _) (hb hby d2_193) ?_
                      refine Go.sipush X0 hx (hb hby d2_194) (r := (255 : Int32)) rfl (q := 197) rfl ?_
                      refine Go.iand X0 hx (hb hby d2_197) rfl (q := 198) rfl ?_
                      rw [own_b255 hys (p + (2 : Int32))]
                      have bC := own_bd hys (p + (2 : Int32))
                      generalize hC : (own_Y ys (p + (2 : Int32))) = C at bC ⊢
                      show Go pp ee below _ (s₁.setTop (mkF mm 198 #[.val (.ref a), .val (.int p), .val (.int A), .val (.int (3 : Int32)), .val (.int (128 : Int32)), .val (.int (191 : Int32)), .val (.int B), .val (.int (p + (2 : Int32))), .unset] [(.int C)]))
                      refine Go.istore X0 hx (hb hby d2_198) (l' := #[.val (.ref a), .val (.int p), .val (.int A), .val (.int (3 : Int32)), .val (.int (128 : Int32)), .val (.int (191 : Int32)), .val (.int B), .val (.int (p + (2 : Int32))), .val (.int C)]) rfl (q := 200) rfl ?_
                      refine Go.iload X0 hx (hb hby d2_200) rfl (q := 202) rfl ?_
                      refine Go.sipush X0 hx (hb hby d2_202) (r := (128 : Int32)) rfl (q := 205) rfl ?_
                      by_cases hc240 : C < (128 : Int32)
                      · have tc240 := (show (C).toInt < 128 from own_lt hc240)
                        refine Go.icmpYes X0 hx (hb hby d2_205) (Jvm.Free.XT.ii_lt_t hc240) (q := 216) (by decide) (by decide) ?_
                        refine Go.iconst X0 hx (hb hby d2_216) (r := (0 : Int32)) rfl (q := 217) rfl ?_
                        exact Go.retI X0 hx hret hlk (Or.inl rfl) rfl (hb hby d2_217) e0 (by decide) (by decide) ⟨by rw [show own_S ys n p = (0 : Int32) from by (simp only [own_S, hA, hB, hC]); exact own_T0 (by omega)], N0, rfl⟩
                      · have tc240 := (show ¬ (C).toInt < 128 from own_ltn hc240)
                        refine Go.icmpNo X0 hx (hb hby d2_205) (Jvm.Free.XT.ii_lt_f hc240) (q := 208) rfl ?_
                        refine Go.iload X0 hx (hb hby d2_208) rfl (q := 210) rfl ?_
                        refine Go.sipush X0 hx (hb hby d2_210) (r := (191 : Int32)) rfl (q := 213) rfl ?_
                        by_cases hc241 : (191 : Int32) < C
                        · have tc241 := (show 191 < (C).toInt from own_lt hc241)
                          refine Go.icmpNo X0 hx (hb hby d2_213) (Jvm.Free.XT.ii_le_f hc241) (q := 216) rfl ?_
                          refine Go.iconst X0 hx (hb hby d2_216) (r := (0 : Int32)) rfl (q := 217) rfl ?_
                          exact Go.retI X0 hx hret hlk (Or.inl rfl) rfl (hb hby d2_217) e0 (by decide) (by decide) ⟨by rw [show own_S ys n p = (0 : Int32) from by (simp only [own_S, hA, hB, hC]); exact own_T0 (by omega)], N0, rfl⟩
                        · have tc241 := (show ¬ 191 < (C).toInt from own_ltn hc241)
                          refine Go.icmpYes X0 hx (hb hby d2_213) (Jvm.Free.XT.ii_le_t hc241) (q := 218) (by decide) (by decide) ?_
                          refine Go.iinc X0 hx (hb hby d2_218) rfl (r := ((p + (2 : Int32)) + (1 : Int32))) rfl (l' := #[.val (.ref a), .val (.int p), .val (.int A), .val (.int (3 : Int32)), .val (.int (128 : Int32)), .val (.int (191 : Int32)), .val (.int B), .val (.int ((p + (2 : Int32)) + (1 : Int32))), .val (.int C)]) rfl (q := 221) rfl ?_
                          refine Go.goto X0 hx (hb hby d2_221) (q := 182) (by decide) (by decide) ?_
                          rw [own_pp p (2 : Int32) (1 : Int32) (3 : Int32) rfl]
                          show Go pp ee below _ (s₁.setTop (mkF mm 182 #[.val (.ref a), .val (.int p), .val (.int A), .val (.int (3 : Int32)), .val (.int (128 : Int32)), .val (.int (191 : Int32)), .val (.int B), .val (.int (p + (3 : Int32))), .val (.int C)] []))
                          refine Go.iload X0 hx (hb hby d2_182) rfl (q := 184) rfl ?_
                          refine Go.iloadN X0 hx (hb hby d2_184) rfl (q := 185) rfl ?_
                          refine Go.iloadN X0 hx (hb hby d2_185) rfl (q := 186) rfl ?_
                          refine Go.iadd X0 hx (hb hby d2_186) rfl (q := 187) rfl ?_
                          refine Go.icmpYes X0 hx (hb hby d2_187) (Jvm.Free.XT.ii_ge_t (own_pnl kp3 kp3 (by decide))) (q := 224) (by decide) (by decide) ?_
                          refine Go.iloadN X0 hx (hb hby d2_224) rfl (q := 225) rfl ?_
                          exact Go.retI X0 hx hret hlk (Or.inl rfl) rfl (hb hby d2_225) e0 (by decide) (by decide) ⟨by rw [show own_S ys n p = (3 : Int32) from by (simp only [own_S, hA, hB, hC]); exact own_T3 (by omega)], N0, rfl⟩
      · have tc172 := (show ¬ 223 < (A).toInt from own_ltn hc172)
        refine Go.icmpNo X0 hx (hb hby d2_38) (Jvm.Free.XT.ii_gt_f hc172) (q := 41) rfl ?_
        refine Go.iconst X0 hx (hb hby d2_41) (r := (2 : Int32)) rfl (q := 42) rfl ?_
        refine Go.istoreN X0 hx (hb hby d2_42) (l' := #[.val (.ref a), .val (.int p), .val (.int A), .val (.int (2 : Int32)), .val (.int (128 : Int32)), .val (.int (191 : Int32)), .unset, .unset, .unset]) rfl (q := 43) rfl ?_
        refine Go.goto X0 hx (hb hby d2_43) (q := 140) (by decide) (by decide) ?_
        refine Go.iloadN X0 hx (hb hby d2_140) rfl (q := 141) rfl ?_
        refine Go.iloadN X0 hx (hb hby d2_141) rfl (q := 142) rfl ?_
        refine Go.iadd X0 hx (hb hby d2_142) rfl (q := 143) rfl ?_
        refine Go.aloadN X0 hx (hb hby d2_143) rfl rfl (q := 144) rfl ?_
        refine Go.alen X0 hx hZ e0 Va (hb hby d2_144) ?_
        by_cases hc242 : n < (p + (2 : Int32))
        · have tc242 := (show (n).toInt < ((p + (2 : Int32))).toInt from own_lt hc242)
          refine Go.icmpNo X0 hx (hb hby d2_145) (Jvm.Free.XT.ii_le_f hc242) (q := 148) rfl ?_
          refine Go.iconst X0 hx (hb hby d2_148) (r := (0 : Int32)) rfl (q := 149) rfl ?_
          exact Go.retI X0 hx hret hlk (Or.inl rfl) rfl (hb hby d2_149) e0 (by decide) (by decide) ⟨by rw [show own_S ys n p = (0 : Int32) from by (simp only [own_S, hA]); exact own_T0 (by omega)], N0, rfl⟩
        · have tc242 := (show ¬ (n).toInt < ((p + (2 : Int32))).toInt from own_ltn hc242)
          refine Go.icmpYes X0 hx (hb hby d2_145) (Jvm.Free.XT.ii_le_t hc242) (q := 150) (by decide) (by decide) ?_
          refine Go.aloadN X0 hx (hb hby d2_150) rfl rfl (q := 151) rfl ?_
          refine Go.iloadN X0 hx (hb hby d2_151) rfl (q := 152) rfl ?_
          refine Go.iconst X0 hx (hb hby d2_152) (r := (1 : Int32)) rfl (q := 153) rfl ?_
          refine Go.iadd X0 hx (hb hby d2_153) rfl (q := 154) rfl ?_
          refine Go.bal X0 hx hZ e0 Va (own_in hn hp0 hp1 (1 : Int32) (by decide) (by decide) (show p.toInt + 1 < n.toInt by omega)) (v := (.int ((own_Y ys (p + (1 : Int32))).toInt8.toInt32))) (own_gb ys _) (hb hby d2_154) ?_
          refine Go.sipush X0 hx (hb hby d2_155) (r := (255 : Int32)) rfl (q := 158) rfl ?_
          refine Go.iand X0 hx (hb hby d2_158) rfl (q := 159) rfl ?_
          rw [own_b255 hys (p + (1 : Int32))]
          have bB := own_bd hys (p + (1 : Int32))
          generalize hB : (own_Y ys (p + (1 : Int32))) = B at bB ⊢
          show Go pp ee below _ (s₁.setTop (mkF mm 159 #[.val (.ref a), .val (.int p), .val (.int A), .val (.int (2 : Int32)), .val (.int (128 : Int32)), .val (.int (191 : Int32)), .unset, .unset, .unset] [(.int B)]))
          refine Go.istore X0 hx (hb hby d2_159) (l' := #[.val (.ref a), .val (.int p), .val (.int A), .val (.int (2 : Int32)), .val (.int (128 : Int32)), .val (.int (191 : Int32)), .val (.int B), .unset, .unset]) rfl (q := 161) rfl ?_
          refine Go.iload X0 hx (hb hby d2_161) rfl (q := 163) rfl ?_
          refine Go.iload X0 hx (hb hby d2_163) rfl (q := 165) rfl ?_
          by_cases hc243 : B < (128 : Int32)
          · have tc243 := (show (B).toInt < 128 from own_lt hc243)
            refine Go.icmpYes X0 hx (hb hby d2_165) (Jvm.Free.XT.ii_lt_t hc243) (q := 175) (by decide) (by decide) ?_
            refine Go.iconst X0 hx (hb hby d2_175) (r := (0 : Int32)) rfl (q := 176) rfl ?_
            exact Go.retI X0 hx hret hlk (Or.inl rfl) rfl (hb hby d2_176) e0 (by decide) (by decide) ⟨by rw [show own_S ys n p = (0 : Int32) from by (simp only [own_S, hA, hB]); exact own_T0 (by omega)], N0, rfl⟩
          · have tc243 := (show ¬ (B).toInt < 128 from own_ltn hc243)
            refine Go.icmpNo X0 hx (hb hby d2_165) (Jvm.Free.XT.ii_lt_f hc243) (q := 168) rfl ?_
            refine Go.iload X0 hx (hb hby d2_168) rfl (q := 170) rfl ?_
            refine Go.iload X0 hx (hb hby d2_170) rfl (q := 172) rfl ?_
            by_cases hc244 : (191 : Int32) < B
            · have tc244 := (show 191 < (B).toInt from own_lt hc244)
              refine Go.icmpNo X0 hx (hb hby d2_172) (Jvm.Free.XT.ii_le_f hc244) (q := 175) rfl ?_
              refine Go.iconst X0 hx (hb hby d2_175) (r := (0 : Int32)) rfl (q := 176) rfl ?_
              exact Go.retI X0 hx hret hlk (Or.inl rfl) rfl (hb hby d2_176) e0 (by decide) (by decide) ⟨by rw [show own_S ys n p = (0 : Int32) from by (simp only [own_S, hA, hB]); exact own_T0 (by omega)], N0, rfl⟩
            · have tc244 := (show ¬ 191 < (B).toInt from own_ltn hc244)
              refine Go.icmpYes X0 hx (hb hby d2_172) (Jvm.Free.XT.ii_le_t hc244) (q := 177) (by decide) (by decide) ?_
              refine Go.iloadN X0 hx (hb hby d2_177) rfl (q := 178) rfl ?_
              refine Go.iconst X0 hx (hb hby d2_178) (r := (2 : Int32)) rfl (q := 179) rfl ?_
              refine Go.iadd X0 hx (hb hby d2_179) rfl (q := 180) rfl ?_
              refine Go.istore X0 hx (hb hby d2_180) (l' := #[.val (.ref a), .val (.int p), .val (.int A), .val (.int (2 : Int32)), .val (.int (128 : Int32)), .val (.int (191 : Int32)), .val (.int B), .val (.int (p + (2 : Int32))), .unset]) rfl (q := 182) rfl ?_
              refine Go.iload X0 hx (hb hby d2_182) rfl (q := 184) rfl ?_
              refine Go.iloadN X0 hx (hb hby d2_184) rfl (q := 185) rfl ?_
              refine Go.iloadN X0 hx (hb hby d2_185) rfl (q := 186) rfl ?_
              refine Go.iadd X0 hx (hb hby d2_186) rfl (q := 187) rfl ?_
              refine Go.icmpYes X0 hx (hb hby d2_187) (Jvm.Free.XT.ii_ge_t (own_pnl kp2 kp2 (by decide))) (q := 224) (by decide) (by decide) ?_
              refine Go.iloadN X0 hx (hb hby d2_224) rfl (q := 225) rfl ?_
              exact Go.retI X0 hx hret hlk (Or.inl rfl) rfl (hb hby d2_225) e0 (by decide) (by decide) ⟨by rw [show own_S ys n p = (2 : Int32) from by (simp only [own_S, hA, hB]); exact own_T2 (by omega)], N0, rfl⟩
def Q_crseq (Z : State) (a : Addr) (ka : ClassId) (n : Int32) (ys : List Int32) (p : Int32) (h0 : Heap) (vR : Option Value) (hR : Heap) (LR : List Loc) : Prop := vR = some (.int (own_S ys n p)) ∧ Fr Z.heap.size LR ∧ hR = h0
set_option maxRecDepth 65536 in
set_option maxHeartbeats 40000000 in
theorem crseq (l : Launch) (Z : State) (a0 : Array Value) (hw : ∀ d ∈ tables_1, d.before a0 Z = true) (a : Addr) (ka : ClassId) (n : Int32) (ys : List Int32) (p : Int32) (h0 : Heap) (O0 : Ext Z.heap h0) (Va : Arv Z h0 a ka .int (8 : Int32) (ys.map Value.int) (.int (0 : Int32))) (hys : ∀ i : Nat, 0 ≤ (ys.getD i 0).toInt ∧ (ys.getD i 0).toInt < 256) (hn : n.toInt ≤ 8) (hp0 : ¬ (p < (0 : Int32))) (hp1 : p < n) :
    Ctr l Z h0 (⟨"com/example/depositum/depositum/report/PrintableTextIsUtf8PinLaw", "seq", "([III)I"⟩ : MethodName) method_4_code 7 (some .int) [] ({ frames := 0, cells := 0, slots := 0, locals := 0 } : Room) #[(.ref a), (.int n), (.int p)] (Q_crseq Z a ka n ys p h0) := by
  refine enter (plainFor_of_name pn1) ?_
  intro pp ee ss mm below meth cc s₁ hx hby hml hZ hown hnm hret hlk X0 e0 hs0
  replace hown : ss.vm.findClass "com/example/depositum/depositum/report/PrintableTextIsUtf8PinLaw" = some mm.cls := hown
  refine Go.cast (congrArg s₁.setTop (ef_crseq mm a n p)) ?_
  have N0 := Fr.nil Z.heap.size
  show Go pp ee below _ (s₁.setTop (mkF mm 0 #[.val (.ref a), .val (.int n), .val (.int p), .unset, .unset, .unset, .unset] []))
  have kp1 : (p + (1 : Int32)).toInt = p.toInt + 1 := own_pa hn hp0 hp1 (1 : Int32) (by decide) (by decide)
  have kp2 : (p + (2 : Int32)).toInt = p.toInt + 2 := own_pa hn hp0 hp1 (2 : Int32) (by decide) (by decide)
  have kp3 : (p + (3 : Int32)).toInt = p.toInt + 3 := own_pa hn hp0 hp1 (3 : Int32) (by decide) (by decide)
  have kp4 : (p + (4 : Int32)).toInt = p.toInt + 4 := own_pa hn hp0 hp1 (4 : Int32) (by decide) (by decide)
  have kp0 : ¬ p.toInt < 0 := own_ltn hp0
  have kpn := own_lt hp1
  refine Go.aloadN X0 hx (hb hby d4_0) rfl rfl (q := 1) rfl ?_
  refine Go.iloadN X0 hx (hb hby d4_1) rfl (q := 2) rfl ?_
  refine Go.ial X0 hx hZ e0 Va ⟨(own_i8 hn hp0 hp1).1, (own_i8 hn hp0 hp1).2⟩ (v := (.int (own_Y ys p))) (own_gi ys _) (hb hby d4_2) ?_
  have bA := own_bd hys p
  generalize hA : (own_Y ys p) = A at bA ⊢
  show Go pp ee below _ (s₁.setTop (mkF mm 3 #[.val (.ref a), .val (.int n), .val (.int p), .unset, .unset, .unset, .unset] [(.int A)]))
  refine Go.istoreN X0 hx (hb hby d4_3) (l' := #[.val (.ref a), .val (.int n), .val (.int p), .val (.int A), .unset, .unset, .unset]) rfl (q := 4) rfl ?_
  refine Go.iloadN X0 hx (hb hby d4_4) rfl (q := 5) rfl ?_
  refine Go.sipush X0 hx (hb hby d4_5) (r := (128 : Int32)) rfl (q := 8) rfl ?_
  by_cases hc101 : A < (128 : Int32)
  · have tc101 := (show (A).toInt < 128 from own_lt hc101)
    refine Go.icmpNo X0 hx (hb hby d4_8) (Jvm.Free.XT.ii_ge_f hc101) (q := 11) rfl ?_
    refine Go.iconst X0 hx (hb hby d4_11) (r := (1 : Int32)) rfl (q := 12) rfl ?_
    exact Go.retI X0 hx hret hlk (Or.inl rfl) rfl (hb hby d4_12) e0 (by decide) (by decide) ⟨by rw [show own_S ys n p = (1 : Int32) from by (simp only [own_S, hA]); exact own_T1 (by omega)], N0, rfl⟩
  · have tc101 := (show ¬ (A).toInt < 128 from own_ltn hc101)
    refine Go.icmpYes X0 hx (hb hby d4_8) (Jvm.Free.XT.ii_ge_t hc101) (q := 13) (by decide) (by decide) ?_
    refine Go.iloadN X0 hx (hb hby d4_13) rfl (q := 14) rfl ?_
    refine Go.sipush X0 hx (hb hby d4_14) (r := (224 : Int32)) rfl (q := 17) rfl ?_
    refine Go.iand X0 hx (hb hby d4_17) rfl (q := 18) rfl ?_
    refine Go.sipush X0 hx (hb hby d4_18) (r := (192 : Int32)) rfl (q := 21) rfl ?_
    by_cases hc102 : (A &&& (224 : Int32)) = (192 : Int32)
    · have tc102 := (own_m224 bA).mp hc102
      refine Go.icmpNo X0 hx (hb hby d4_21) (Jvm.Free.XT.ii_ne_f hc102) (q := 24) rfl ?_
      refine Go.iconst X0 hx (hb hby d4_24) (r := (2 : Int32)) rfl (q := 25) rfl ?_
      refine Go.istore X0 hx (hb hby d4_25) (l' := #[.val (.ref a), .val (.int n), .val (.int p), .val (.int A), .val (.int (2 : Int32)), .unset, .unset]) rfl (q := 27) rfl ?_
      refine Go.iloadN X0 hx (hb hby d4_27) rfl (q := 28) rfl ?_
      refine Go.bipush X0 hx (hb hby d4_28) (r := (31 : Int32)) rfl (q := 30) rfl ?_
      refine Go.iand X0 hx (hb hby d4_30) rfl (q := 31) rfl ?_
      have tE0 := c_mask A (31 : Int32) 5 (by decide) (by decide)
      have kE0 : (2 ^ 5 : Nat) = 32 := rfl
      rw [kE0] at tE0
      generalize (A &&& (31 : Int32)) = E0 at tE0 ⊢
      show Go pp ee below _ (s₁.setTop (mkF mm 31 #[.val (.ref a), .val (.int n), .val (.int p), .val (.int A), .val (.int (2 : Int32)), .unset, .unset] [(.int E0)]))
      refine Go.istore X0 hx (hb hby d4_31) (l' := #[.val (.ref a), .val (.int n), .val (.int p), .val (.int A), .val (.int (2 : Int32)), .val (.int E0), .unset]) rfl (q := 33) rfl ?_
      refine Go.sipush X0 hx (hb hby d4_33) (r := (128 : Int32)) rfl (q := 36) rfl ?_
      refine Go.istore X0 hx (hb hby d4_36) (l' := #[.val (.ref a), .val (.int n), .val (.int p), .val (.int A), .val (.int (2 : Int32)), .val (.int E0), .val (.int (128 : Int32))]) rfl (q := 38) rfl ?_
      refine Go.goto X0 hx (hb hby d4_38) (q := 98) (by decide) (by decide) ?_
      refine Go.iloadN X0 hx (hb hby d4_98) rfl (q := 99) rfl ?_
      refine Go.iload X0 hx (hb hby d4_99) rfl (q := 101) rfl ?_
      refine Go.iadd X0 hx (hb hby d4_101) rfl (q := 102) rfl ?_
      refine Go.iloadN X0 hx (hb hby d4_102) rfl (q := 103) rfl ?_
      by_cases hc103 : n < (p + (2 : Int32))
      · have tc103 := (show (n).toInt < ((p + (2 : Int32))).toInt from own_lt hc103)
        refine Go.icmpNo X0 hx (hb hby d4_103) (Jvm.Free.XT.ii_le_f hc103) (q := 106) rfl ?_
        refine Go.iconst X0 hx (hb hby d4_106) (r := (0 : Int32)) rfl (q := 107) rfl ?_
        exact Go.retI X0 hx hret hlk (Or.inl rfl) rfl (hb hby d4_107) e0 (by decide) (by decide) ⟨by rw [show own_S ys n p = (0 : Int32) from by (simp only [own_S, hA]); exact own_T0 (by omega)], N0, rfl⟩
      · have tc103 := (show ¬ (n).toInt < ((p + (2 : Int32))).toInt from own_ltn hc103)
        refine Go.icmpYes X0 hx (hb hby d4_103) (Jvm.Free.XT.ii_le_t hc103) (q := 108) (by decide) (by decide) ?_
        refine Go.aloadN X0 hx (hb hby d4_108) rfl rfl (q := 109) rfl ?_
        refine Go.iloadN X0 hx (hb hby d4_109) rfl (q := 110) rfl ?_
        refine Go.iconst X0 hx (hb hby d4_110) (r := (1 : Int32)) rfl (q := 111) rfl ?_
        refine Go.iadd X0 hx (hb hby d4_111) rfl (q := 112) rfl ?_
        refine Go.ial X0 hx hZ e0 Va (own_in8 hn hp0 hp1 (1 : Int32) (by decide) (by decide) (show p.toInt + 1 < n.toInt by omega)) (v := (.int (own_Y ys (p + (1 : Int32))))) (own_gi ys _) (hb hby d4_112) ?_
        have bB := own_bd hys (p + (1 : Int32))
        generalize hB : (own_Y ys (p + (1 : Int32))) = B at bB ⊢
        show Go pp ee below _ (s₁.setTop (mkF mm 113 #[.val (.ref a), .val (.int n), .val (.int p), .val (.int A), .val (.int (2 : Int32)), .val (.int E0), .val (.int (128 : Int32))] [(.int B)]))
        refine Go.sipush X0 hx (hb hby d4_113) (r := (192 : Int32)) rfl (q := 116) rfl ?_
        refine Go.iand X0 hx (hb hby d4_116) rfl (q := 117) rfl ?_
        refine Go.sipush X0 hx (hb hby d4_117) (r := (128 : Int32)) rfl (q := 120) rfl ?_
        by_cases hc104 : (B &&& (192 : Int32)) = (128 : Int32)
        · have tc104 := (own_m192 bB).mp hc104
          refine Go.icmpYes X0 hx (hb hby d4_120) (Jvm.Free.XT.ii_eq_t hc104) (q := 125) (by decide) (by decide) ?_
          refine Go.iload X0 hx (hb hby d4_125) rfl (q := 127) rfl ?_
          refine Go.bipush X0 hx (hb hby d4_127) (r := (6 : Int32)) rfl (q := 129) rfl ?_
          refine Go.ishl X0 hx (hb hby d4_129) rfl (q := 130) rfl ?_
          refine Go.aloadN X0 hx (hb hby d4_130) rfl rfl (q := 131) rfl ?_
          refine Go.iloadN X0 hx (hb hby d4_131) rfl (q := 132) rfl ?_
          refine Go.iconst X0 hx (hb hby d4_132) (r := (1 : Int32)) rfl (q := 133) rfl ?_
          refine Go.iadd X0 hx (hb hby d4_133) rfl (q := 134) rfl ?_
          refine Go.ial X0 hx hZ e0 Va (own_in8 hn hp0 hp1 (1 : Int32) (by decide) (by decide) (show p.toInt + 1 < n.toInt by omega)) (v := (.int (own_Y ys (p + (1 : Int32))))) (own_gi ys _) (hb hby d4_134) ?_
          rw [hB]
          show Go pp ee below _ (s₁.setTop (mkF mm 135 #[.val (.ref a), .val (.int n), .val (.int p), .val (.int A), .val (.int (2 : Int32)), .val (.int E0), .val (.int (128 : Int32))] [(.int B), (.int (E0 <<< ((6 : Int32) &&& 31)))]))
          refine Go.bipush X0 hx (hb hby d4_135) (r := (63 : Int32)) rfl (q := 137) rfl ?_
          refine Go.iand X0 hx (hb hby d4_137) rfl (q := 138) rfl ?_
          refine Go.ior X0 hx (hb hby d4_138) rfl (q := 139) rfl ?_
          have tE1 := own_or6 E0 B (by omega) (by omega) (by omega)
          generalize ((E0 <<< ((6 : Int32) &&& 31)) ||| (B &&& (63 : Int32))) = E1 at tE1 ⊢
          show Go pp ee below _ (s₁.setTop (mkF mm 139 #[.val (.ref a), .val (.int n), .val (.int p), .val (.int A), .val (.int (2 : Int32)), .val (.int E0), .val (.int (128 : Int32))] [(.int E1)]))
          refine Go.istore X0 hx (hb hby d4_139) (l' := #[.val (.ref a), .val (.int n), .val (.int p), .val (.int A), .val (.int (2 : Int32)), .val (.int E1), .val (.int (128 : Int32))]) rfl (q := 141) rfl ?_
          refine Go.iload X0 hx (hb hby d4_141) rfl (q := 143) rfl ?_
          refine Go.iconst X0 hx (hb hby d4_143) (r := (3 : Int32)) rfl (q := 144) rfl ?_
          refine Go.icmpYes X0 hx (hb hby d4_144) (by decide) (q := 180) (by decide) (by decide) ?_
          refine Go.iload X0 hx (hb hby d4_180) rfl (q := 182) rfl ?_
          refine Go.iconst X0 hx (hb hby d4_182) (r := (4 : Int32)) rfl (q := 183) rfl ?_
          refine Go.icmpYes X0 hx (hb hby d4_183) (by decide) (q := 219) (by decide) (by decide) ?_
          refine Go.iload X0 hx (hb hby d4_219) rfl (q := 221) rfl ?_
          refine Go.iload X0 hx (hb hby d4_221) rfl (q := 223) rfl ?_
          by_cases hc105 : E1 < (128 : Int32)
          · have tc105 := (show (E1).toInt < 128 from own_lt hc105)
            refine Go.icmpYes X0 hx (hb hby d4_223) (Jvm.Free.XT.ii_lt_t hc105) (q := 233) (by decide) (by decide) ?_
            refine Go.iconst X0 hx (hb hby d4_233) (r := (0 : Int32)) rfl (q := 234) rfl ?_
            exact Go.retI X0 hx hret hlk (Or.inl rfl) rfl (hb hby d4_234) e0 (by decide) (by decide) ⟨by rw [show own_S ys n p = (0 : Int32) from by (simp only [own_S, hA, hB]); exact own_T0 (by omega)], N0, rfl⟩
          · have tc105 := (show ¬ (E1).toInt < 128 from own_ltn hc105)
            refine Go.icmpNo X0 hx (hb hby d4_223) (Jvm.Free.XT.ii_lt_f hc105) (q := 226) rfl ?_
            refine Go.iload X0 hx (hb hby d4_226) rfl (q := 228) rfl ?_
            refine Go.ldcI X0 hx hZ hown (wd18 hw) (hb hby d4_228) (q := 230) rfl ?_
            by_cases hc106 : (1114111 : Int32) < E1
            · have tc106 := (show 1114111 < (E1).toInt from own_lt hc106)
              refine Go.icmpNo X0 hx (hb hby d4_230) (Jvm.Free.XT.ii_le_f hc106) (q := 233) rfl ?_
              refine Go.iconst X0 hx (hb hby d4_233) (r := (0 : Int32)) rfl (q := 234) rfl ?_
              exact Go.retI X0 hx hret hlk (Or.inl rfl) rfl (hb hby d4_234) e0 (by decide) (by decide) ⟨by rw [show own_S ys n p = (0 : Int32) from by (simp only [own_S, hA, hB]); exact own_T0 (by omega)], N0, rfl⟩
            · have tc106 := (show ¬ 1114111 < (E1).toInt from own_ltn hc106)
              refine Go.icmpYes X0 hx (hb hby d4_230) (Jvm.Free.XT.ii_le_t hc106) (q := 235) (by decide) (by decide) ?_
              refine Go.iload X0 hx (hb hby d4_235) rfl (q := 237) rfl ?_
              refine Go.ldcI X0 hx hZ hown (wd19 hw) (hb hby d4_237) (q := 239) rfl ?_
              by_cases hc107 : E1 < (55296 : Int32)
              · have tc107 := (show (E1).toInt < 55296 from own_lt hc107)
                refine Go.icmpYes X0 hx (hb hby d4_239) (Jvm.Free.XT.ii_lt_t hc107) (q := 251) (by decide) (by decide) ?_
                refine Go.iload X0 hx (hb hby d4_251) rfl (q := 253) rfl ?_
                exact Go.retI X0 hx hret hlk (Or.inl rfl) rfl (hb hby d4_253) e0 (by decide) (by decide) ⟨by rw [show own_S ys n p = (2 : Int32) from by (simp only [own_S, hA, hB]); exact own_T2 (by omega)], N0, rfl⟩
              · have tc107 := (show ¬ (E1).toInt < 55296 from own_ltn hc107)
                refine Go.icmpNo X0 hx (hb hby d4_239) (Jvm.Free.XT.ii_lt_f hc107) (q := 242) rfl ?_
                refine Go.iload X0 hx (hb hby d4_242) rfl (q := 244) rfl ?_
                refine Go.ldcI X0 hx hZ hown (wd21 hw) (hb hby d4_244) (q := 246) rfl ?_
                by_cases hc108 : (57343 : Int32) < E1
                · have tc108 := (show 57343 < (E1).toInt from own_lt hc108)
                  refine Go.icmpYes X0 hx (hb hby d4_246) (Jvm.Free.XT.ii_gt_t hc108) (q := 251) (by decide) (by decide) ?_
                  refine Go.iload X0 hx (hb hby d4_251) rfl (q := 253) rfl ?_
                  exact Go.retI X0 hx hret hlk (Or.inl rfl) rfl (hb hby d4_253) e0 (by decide) (by decide) ⟨by rw [show own_S ys n p = (2 : Int32) from by (simp only [own_S, hA, hB]); exact own_T2 (by omega)], N0, rfl⟩
                · have tc108 := (show ¬ 57343 < (E1).toInt from own_ltn hc108)
                  refine Go.icmpNo X0 hx (hb hby d4_246) (Jvm.Free.XT.ii_gt_f hc108) (q := 249) rfl ?_
                  refine Go.iconst X0 hx (hb hby d4_249) (r := (0 : Int32)) rfl (q := 250) rfl ?_
                  exact Go.retI X0 hx hret hlk (Or.inl rfl) rfl (hb hby d4_250) e0 (by decide) (by decide) ⟨by rw [show own_S ys n p = (0 : Int32) from by (simp only [own_S, hA, hB]); exact own_T0 (by omega)], N0, rfl⟩
        · have tc104 := mt (own_m192 bB).mpr hc104
          refine Go.icmpNo X0 hx (hb hby d4_120) (Jvm.Free.XT.ii_eq_f hc104) (q := 123) rfl ?_
          refine Go.iconst X0 hx (hb hby d4_123) (r := (0 : Int32)) rfl (q := 124) rfl ?_
          exact Go.retI X0 hx hret hlk (Or.inl rfl) rfl (hb hby d4_124) e0 (by decide) (by decide) ⟨by rw [show own_S ys n p = (0 : Int32) from by (simp only [own_S, hA, hB]); exact own_T0 (by omega)], N0, rfl⟩
    · have tc102 := mt (own_m224 bA).mpr hc102
      refine Go.icmpYes X0 hx (hb hby d4_21) (Jvm.Free.XT.ii_ne_t hc102) (q := 41) (by decide) (by decide) ?_
      refine Go.iloadN X0 hx (hb hby d4_41) rfl (q := 42) rfl ?_
      refine Go.sipush X0 hx (hb hby d4_42) (r := (240 : Int32)) rfl (q := 45) rfl ?_
      refine Go.iand X0 hx (hb hby d4_45) rfl (q := 46) rfl ?_
      refine Go.sipush X0 hx (hb hby d4_46) (r := (224 : Int32)) rfl (q := 49) rfl ?_
      by_cases hc109 : (A &&& (240 : Int32)) = (224 : Int32)
      · have tc109 := (own_m240 bA).mp hc109
        refine Go.icmpNo X0 hx (hb hby d4_49) (Jvm.Free.XT.ii_ne_f hc109) (q := 52) rfl ?_
        refine Go.iconst X0 hx (hb hby d4_52) (r := (3 : Int32)) rfl (q := 53) rfl ?_
        refine Go.istore X0 hx (hb hby d4_53) (l' := #[.val (.ref a), .val (.int n), .val (.int p), .val (.int A), .val (.int (3 : Int32)), .unset, .unset]) rfl (q := 55) rfl ?_
        refine Go.iloadN X0 hx (hb hby d4_55) rfl (q := 56) rfl ?_
        refine Go.bipush X0 hx (hb hby d4_56) (r := (15 : Int32)) rfl (q := 58) rfl ?_
        refine Go.iand X0 hx (hb hby d4_58) rfl (q := 59) rfl ?_
        have tE0 := c_mask A (15 : Int32) 4 (by decide) (by decide)
        have kE0 : (2 ^ 4 : Nat) = 16 := rfl
        rw [kE0] at tE0
        generalize (A &&& (15 : Int32)) = E0 at tE0 ⊢
        show Go pp ee below _ (s₁.setTop (mkF mm 59 #[.val (.ref a), .val (.int n), .val (.int p), .val (.int A), .val (.int (3 : Int32)), .unset, .unset] [(.int E0)]))
        refine Go.istore X0 hx (hb hby d4_59) (l' := #[.val (.ref a), .val (.int n), .val (.int p), .val (.int A), .val (.int (3 : Int32)), .val (.int E0), .unset]) rfl (q := 61) rfl ?_
        refine Go.sipush X0 hx (hb hby d4_61) (r := (2048 : Int32)) rfl (q := 64) rfl ?_
        refine Go.istore X0 hx (hb hby d4_64) (l' := #[.val (.ref a), .val (.int n), .val (.int p), .val (.int A), .val (.int (3 : Int32)), .val (.int E0), .val (.int (2048 : Int32))]) rfl (q := 66) rfl ?_
        refine Go.goto X0 hx (hb hby d4_66) (q := 98) (by decide) (by decide) ?_
        refine Go.iloadN X0 hx (hb hby d4_98) rfl (q := 99) rfl ?_
        refine Go.iload X0 hx (hb hby d4_99) rfl (q := 101) rfl ?_
        refine Go.iadd X0 hx (hb hby d4_101) rfl (q := 102) rfl ?_
        refine Go.iloadN X0 hx (hb hby d4_102) rfl (q := 103) rfl ?_
        by_cases hc110 : n < (p + (3 : Int32))
        · have tc110 := (show (n).toInt < ((p + (3 : Int32))).toInt from own_lt hc110)
          refine Go.icmpNo X0 hx (hb hby d4_103) (Jvm.Free.XT.ii_le_f hc110) (q := 106) rfl ?_
          refine Go.iconst X0 hx (hb hby d4_106) (r := (0 : Int32)) rfl (q := 107) rfl ?_
          exact Go.retI X0 hx hret hlk (Or.inl rfl) rfl (hb hby d4_107) e0 (by decide) (by decide) ⟨by rw [show own_S ys n p = (0 : Int32) from by (simp only [own_S, hA]); exact own_T0 (by omega)], N0, rfl⟩
        · have tc110 := (show ¬ (n).toInt < ((p + (3 : Int32))).toInt from own_ltn hc110)
          refine Go.icmpYes X0 hx (hb hby d4_103) (Jvm.Free.XT.ii_le_t hc110) (q := 108) (by decide) (by decide) ?_
          refine Go.aloadN X0 hx (hb hby d4_108) rfl rfl (q := 109) rfl ?_
          refine Go.iloadN X0 hx (hb hby d4_109) rfl (q := 110) rfl ?_
          refine Go.iconst X0 hx (hb hby d4_110) (r := (1 : Int32)) rfl (q := 111) rfl ?_
          refine Go.iadd X0 hx (hb hby d4_111) rfl (q := 112) rfl ?_
          refine Go.ial X0 hx hZ e0 Va (own_in8 hn hp0 hp1 (1 : Int32) (by decide) (by decide) (show p.toInt + 1 < n.toInt by omega)) (v := (.int (own_Y ys (p + (1 : Int32))))) (own_gi ys _) (hb hby d4_112) ?_
          have bB := own_bd hys (p + (1 : Int32))
          generalize hB : (own_Y ys (p + (1 : Int32))) = B at bB ⊢
          show Go pp ee below _ (s₁.setTop (mkF mm 113 #[.val (.ref a), .val (.int n), .val (.int p), .val (.int A), .val (.int (3 : Int32)), .val (.int E0), .val (.int (2048 : Int32))] [(.int B)]))
          refine Go.sipush X0 hx (hb hby d4_113) (r := (192 : Int32)) rfl (q := 116) rfl ?_
          refine Go.iand X0 hx (hb hby d4_116) rfl (q := 117) rfl ?_
          refine Go.sipush X0 hx (hb hby d4_117) (r := (128 : Int32)) rfl (q := 120) rfl ?_
          by_cases hc111 : (B &&& (192 : Int32)) = (128 : Int32)
          · have tc111 := (own_m192 bB).mp hc111
            refine Go.icmpYes X0 hx (hb hby d4_120) (Jvm.Free.XT.ii_eq_t hc111) (q := 125) (by decide) (by decide) ?_
            refine Go.iload X0 hx (hb hby d4_125) rfl (q := 127) rfl ?_
            refine Go.bipush X0 hx (hb hby d4_127) (r := (6 : Int32)) rfl (q := 129) rfl ?_
            refine Go.ishl X0 hx (hb hby d4_129) rfl (q := 130) rfl ?_
            refine Go.aloadN X0 hx (hb hby d4_130) rfl rfl (q := 131) rfl ?_
            refine Go.iloadN X0 hx (hb hby d4_131) rfl (q := 132) rfl ?_
            refine Go.iconst X0 hx (hb hby d4_132) (r := (1 : Int32)) rfl (q := 133) rfl ?_
            refine Go.iadd X0 hx (hb hby d4_133) rfl (q := 134) rfl ?_
            refine Go.ial X0 hx hZ e0 Va (own_in8 hn hp0 hp1 (1 : Int32) (by decide) (by decide) (show p.toInt + 1 < n.toInt by omega)) (v := (.int (own_Y ys (p + (1 : Int32))))) (own_gi ys _) (hb hby d4_134) ?_
            rw [hB]
            show Go pp ee below _ (s₁.setTop (mkF mm 135 #[.val (.ref a), .val (.int n), .val (.int p), .val (.int A), .val (.int (3 : Int32)), .val (.int E0), .val (.int (2048 : Int32))] [(.int B), (.int (E0 <<< ((6 : Int32) &&& 31)))]))
            refine Go.bipush X0 hx (hb hby d4_135) (r := (63 : Int32)) rfl (q := 137) rfl ?_
            refine Go.iand X0 hx (hb hby d4_137) rfl (q := 138) rfl ?_
            refine Go.ior X0 hx (hb hby d4_138) rfl (q := 139) rfl ?_
            have tE1 := own_or6 E0 B (by omega) (by omega) (by omega)
            generalize ((E0 <<< ((6 : Int32) &&& 31)) ||| (B &&& (63 : Int32))) = E1 at tE1 ⊢
            show Go pp ee below _ (s₁.setTop (mkF mm 139 #[.val (.ref a), .val (.int n), .val (.int p), .val (.int A), .val (.int (3 : Int32)), .val (.int E0), .val (.int (2048 : Int32))] [(.int E1)]))
            refine Go.istore X0 hx (hb hby d4_139) (l' := #[.val (.ref a), .val (.int n), .val (.int p), .val (.int A), .val (.int (3 : Int32)), .val (.int E1), .val (.int (2048 : Int32))]) rfl (q := 141) rfl ?_
            refine Go.iload X0 hx (hb hby d4_141) rfl (q := 143) rfl ?_
            refine Go.iconst X0 hx (hb hby d4_143) (r := (3 : Int32)) rfl (q := 144) rfl ?_
            refine Go.icmpNo X0 hx (hb hby d4_144) (by decide) (q := 147) rfl ?_
            refine Go.aloadN X0 hx (hb hby d4_147) rfl rfl (q := 148) rfl ?_
            refine Go.iloadN X0 hx (hb hby d4_148) rfl (q := 149) rfl ?_
            refine Go.iconst X0 hx (hb hby d4_149) (r := (2 : Int32)) rfl (q := 150) rfl ?_
            refine Go.iadd X0 hx (hb hby d4_150) rfl (q := 151) rfl ?_
            refine Go.ial X0 hx hZ e0 Va (own_in8 hn hp0 hp1 (2 : Int32) (by decide) (by decide) (show p.toInt + 2 < n.toInt by omega)) (v := (.int (own_Y ys (p + (2 : Int32))))) (own_gi ys _) (hb hby d4_151) ?_
            have bC := own_bd hys (p + (2 : Int32))
            generalize hC : (own_Y ys (p + (2 : Int32))) = C at bC ⊢
            show Go pp ee below _ (s₁.setTop (mkF mm 152 #[.val (.ref a), .val (.int n), .val (.int p), .val (.int A), .val (.int (3 : Int32)), .val (.int E1), .val (.int (2048 : Int32))] [(.int C)]))
            refine Go.sipush X0 hx (hb hby d4_152) (r := (192 : Int32)) rfl (q := 155) rfl ?_
            refine Go.iand X0 hx (hb hby d4_155) rfl (q := 156) rfl ?_
            refine Go.sipush X0 hx (hb hby d4_156) (r := (128 : Int32)) rfl (q := 159) rfl ?_
            by_cases hc112 : (C &&& (192 : Int32)) = (128 : Int32)
            · have tc112 := (own_m192 bC).mp hc112
              refine Go.icmpYes X0 hx (hb hby d4_159) (Jvm.Free.XT.ii_eq_t hc112) (q := 164) (by decide) (by decide) ?_
              refine Go.iload X0 hx (hb hby d4_164) rfl (q := 166) rfl ?_
              refine Go.bipush X0 hx (hb hby d4_166) (r := (6 : Int32)) rfl (q := 168) rfl ?_
              refine Go.ishl X0 hx (hb hby d4_168) rfl (q := 169) rfl ?_
              refine Go.aloadN X0 hx (hb hby d4_169) rfl rfl (q := 170) rfl ?_
              refine Go.iloadN X0 hx (hb hby d4_170) rfl (q := 171) rfl ?_
              refine Go.iconst X0 hx (hb hby d4_171) (r := (2 : Int32)) rfl (q := 172) rfl ?_
              refine Go.iadd X0 hx (hb hby d4_172) rfl (q := 173) rfl ?_
              refine Go.ial X0 hx hZ e0 Va (own_in8 hn hp0 hp1 (2 : Int32) (by decide) (by decide) (show p.toInt + 2 < n.toInt by omega)) (v := (.int (own_Y ys (p + (2 : Int32))))) (own_gi ys _) (hb hby d4_173) ?_
              rw [hC]
              show Go pp ee below _ (s₁.setTop (mkF mm 174 #[.val (.ref a), .val (.int n), .val (.int p), .val (.int A), .val (.int (3 : Int32)), .val (.int E1), .val (.int (2048 : Int32))] [(.int C), (.int (E1 <<< ((6 : Int32) &&& 31)))]))
              refine Go.bipush X0 hx (hb hby d4_174) (r := (63 : Int32)) rfl (q := 176) rfl ?_
              refine Go.iand X0 hx (hb hby d4_176) rfl (q := 177) rfl ?_
              refine Go.ior X0 hx (hb hby d4_177) rfl (q := 178) rfl ?_
              have tE2 := own_or6 E1 C (by omega) (by omega) (by omega)
              generalize ((E1 <<< ((6 : Int32) &&& 31)) ||| (C &&& (63 : Int32))) = E2 at tE2 ⊢
              show Go pp ee below _ (s₁.setTop (mkF mm 178 #[.val (.ref a), .val (.int n), .val (.int p), .val (.int A), .val (.int (3 : Int32)), .val (.int E1), .val (.int (2048 : Int32))] [(.int E2)]))
              refine Go.istore X0 hx (hb hby d4_178) (l' := #[.val (.ref a), .val (.int n), .val (.int p), .val (.int A), .val (.int (3 : Int32)), .val (.int E2), .val (.int (2048 : Int32))]) rfl (q := 180) rfl ?_
              refine Go.iload X0 hx (hb hby d4_180) rfl (q := 182) rfl ?_
              refine Go.iconst X0 hx (hb hby d4_182) (r := (4 : Int32)) rfl (q := 183) rfl ?_
              refine Go.icmpYes X0 hx (hb hby d4_183) (by decide) (q := 219) (by decide) (by decide) ?_
              refine Go.iload X0 hx (hb hby d4_219) rfl (q := 221) rfl ?_
              refine Go.iload X0 hx (hb hby d4_221) rfl (q := 223) rfl ?_
              by_cases hc113 : E2 < (2048 : Int32)
              · have tc113 := (show (E2).toInt < 2048 from own_lt hc113)
                refine Go.icmpYes X0 hx (hb hby d4_223) (Jvm.Free.XT.ii_lt_t hc113) (q := 233) (by decide) (by decide) ?_
                refine Go.iconst X0 hx (hb hby d4_233) (r := (0 : Int32)) rfl (q := 234) rfl ?_
                exact Go.retI X0 hx hret hlk (Or.inl rfl) rfl (hb hby d4_234) e0 (by decide) (by decide) ⟨by rw [show own_S ys n p = (0 : Int32) from by (simp only [own_S, hA, hB, hC]); exact own_T0 (by omega)], N0, rfl⟩
              · have tc113 := (show ¬ (E2).toInt < 2048 from own_ltn hc113)
                refine Go.icmpNo X0 hx (hb hby d4_223) (Jvm.Free.XT.ii_lt_f hc113) (q := 226) rfl ?_
                refine Go.iload X0 hx (hb hby d4_226) rfl (q := 228) rfl ?_
                refine Go.ldcI X0 hx hZ hown (wd18 hw) (hb hby d4_228) (q := 230) rfl ?_
                by_cases hc114 : (1114111 : Int32) < E2
                · have tc114 := (show 1114111 < (E2).toInt from own_lt hc114)
                  refine Go.icmpNo X0 hx (hb hby d4_230) (Jvm.Free.XT.ii_le_f hc114) (q := 233) rfl ?_
                  refine Go.iconst X0 hx (hb hby d4_233) (r := (0 : Int32)) rfl (q := 234) rfl ?_
                  exact Go.retI X0 hx hret hlk (Or.inl rfl) rfl (hb hby d4_234) e0 (by decide) (by decide) ⟨by rw [show own_S ys n p = (0 : Int32) from by (simp only [own_S, hA, hB, hC]); exact own_T0 (by omega)], N0, rfl⟩
                · have tc114 := (show ¬ 1114111 < (E2).toInt from own_ltn hc114)
                  refine Go.icmpYes X0 hx (hb hby d4_230) (Jvm.Free.XT.ii_le_t hc114) (q := 235) (by decide) (by decide) ?_
                  refine Go.iload X0 hx (hb hby d4_235) rfl (q := 237) rfl ?_
                  refine Go.ldcI X0 hx hZ hown (wd19 hw) (hb hby d4_237) (q := 239) rfl ?_
                  by_cases hc115 : E2 < (55296 : Int32)
                  · have tc115 := (show (E2).toInt < 55296 from own_lt hc115)
                    refine Go.icmpYes X0 hx (hb hby d4_239) (Jvm.Free.XT.ii_lt_t hc115) (q := 251) (by decide) (by decide) ?_
                    refine Go.iload X0 hx (hb hby d4_251) rfl (q := 253) rfl ?_
                    exact Go.retI X0 hx hret hlk (Or.inl rfl) rfl (hb hby d4_253) e0 (by decide) (by decide) ⟨by rw [show own_S ys n p = (3 : Int32) from by (simp only [own_S, hA, hB, hC]); exact own_T3 (by omega)], N0, rfl⟩
                  · have tc115 := (show ¬ (E2).toInt < 55296 from own_ltn hc115)
                    refine Go.icmpNo X0 hx (hb hby d4_239) (Jvm.Free.XT.ii_lt_f hc115) (q := 242) rfl ?_
                    refine Go.iload X0 hx (hb hby d4_242) rfl (q := 244) rfl ?_
                    refine Go.ldcI X0 hx hZ hown (wd21 hw) (hb hby d4_244) (q := 246) rfl ?_
                    by_cases hc116 : (57343 : Int32) < E2
                    · have tc116 := (show 57343 < (E2).toInt from own_lt hc116)
                      refine Go.icmpYes X0 hx (hb hby d4_246) (Jvm.Free.XT.ii_gt_t hc116) (q := 251) (by decide) (by decide) ?_
                      refine Go.iload X0 hx (hb hby d4_251) rfl (q := 253) rfl ?_
                      exact Go.retI X0 hx hret hlk (Or.inl rfl) rfl (hb hby d4_253) e0 (by decide) (by decide) ⟨by rw [show own_S ys n p = (3 : Int32) from by (simp only [own_S, hA, hB, hC]); exact own_T3 (by omega)], N0, rfl⟩
                    · have tc116 := (show ¬ 57343 < (E2).toInt from own_ltn hc116)
                      refine Go.icmpNo X0 hx (hb hby d4_246) (Jvm.Free.XT.ii_gt_f hc116) (q := 249) rfl ?_
                      refine Go.iconst X0 hx (hb hby d4_249) (r := (0 : Int32)) rfl (q := 250) rfl ?_
                      exact Go.retI X0 hx hret hlk (Or.inl rfl) rfl (hb hby d4_250) e0 (by decide) (by decide) ⟨by rw [show own_S ys n p = (0 : Int32) from by (simp only [own_S, hA, hB, hC]); exact own_T0 (by omega)], N0, rfl⟩
            · have tc112 := mt (own_m192 bC).mpr hc112
              refine Go.icmpNo X0 hx (hb hby d4_159) (Jvm.Free.XT.ii_eq_f hc112) (q := 162) rfl ?_
              refine Go.iconst X0 hx (hb hby d4_162) (r := (0 : Int32)) rfl (q := 163) rfl ?_
              exact Go.retI X0 hx hret hlk (Or.inl rfl) rfl (hb hby d4_163) e0 (by decide) (by decide) ⟨by rw [show own_S ys n p = (0 : Int32) from by (simp only [own_S, hA, hB, hC]); exact own_T0 (by omega)], N0, rfl⟩
          · have tc111 := mt (own_m192 bB).mpr hc111
            refine Go.icmpNo X0 hx (hb hby d4_120) (Jvm.Free.XT.ii_eq_f hc111) (q := 123) rfl ?_
            refine Go.iconst X0 hx (hb hby d4_123) (r := (0 : Int32)) rfl (q := 124) rfl ?_
            exact Go.retI X0 hx hret hlk (Or.inl rfl) rfl (hb hby d4_124) e0 (by decide) (by decide) ⟨by rw [show own_S ys n p = (0 : Int32) from by (simp only [own_S, hA, hB]); exact own_T0 (by omega)], N0, rfl⟩
      · have tc109 := mt (own_m240 bA).mpr hc109
        refine Go.icmpYes X0 hx (hb hby d4_49) (Jvm.Free.XT.ii_ne_t hc109) (q := 69) (by decide) (by decide) ?_
        refine Go.iloadN X0 hx (hb hby d4_69) rfl (q := 70) rfl ?_
        refine Go.sipush X0 hx (hb hby d4_70) (r := (248 : Int32)) rfl (q := 73) rfl ?_
        refine Go.iand X0 hx (hb hby d4_73) rfl (q := 74) rfl ?_
        refine Go.sipush X0 hx (hb hby d4_74) (r := (240 : Int32)) rfl (q := 77) rfl ?_
        by_cases hc117 : (A &&& (248 : Int32)) = (240 : Int32)
        · have tc117 := (own_m248 bA).mp hc117
          refine Go.icmpNo X0 hx (hb hby d4_77) (Jvm.Free.XT.ii_ne_f hc117) (q := 80) rfl ?_
          refine Go.iconst X0 hx (hb hby d4_80) (r := (4 : Int32)) rfl (q := 81) rfl ?_
          refine Go.istore X0 hx (hb hby d4_81) (l' := #[.val (.ref a), .val (.int n), .val (.int p), .val (.int A), .val (.int (4 : Int32)), .unset, .unset]) rfl (q := 83) rfl ?_
          refine Go.iloadN X0 hx (hb hby d4_83) rfl (q := 84) rfl ?_
          refine Go.bipush X0 hx (hb hby d4_84) (r := (7 : Int32)) rfl (q := 86) rfl ?_
          refine Go.iand X0 hx (hb hby d4_86) rfl (q := 87) rfl ?_
          have tE0 := c_mask A (7 : Int32) 3 (by decide) (by decide)
          have kE0 : (2 ^ 3 : Nat) = 8 := rfl
          rw [kE0] at tE0
          generalize (A &&& (7 : Int32)) = E0 at tE0 ⊢
          show Go pp ee below _ (s₁.setTop (mkF mm 87 #[.val (.ref a), .val (.int n), .val (.int p), .val (.int A), .val (.int (4 : Int32)), .unset, .unset] [(.int E0)]))
          refine Go.istore X0 hx (hb hby d4_87) (l' := #[.val (.ref a), .val (.int n), .val (.int p), .val (.int A), .val (.int (4 : Int32)), .val (.int E0), .unset]) rfl (q := 89) rfl ?_
          refine Go.ldcI X0 hx hZ hown (wd20 hw) (hb hby d4_89) (q := 91) rfl ?_
          refine Go.istore X0 hx (hb hby d4_91) (l' := #[.val (.ref a), .val (.int n), .val (.int p), .val (.int A), .val (.int (4 : Int32)), .val (.int E0), .val (.int (65536 : Int32))]) rfl (q := 93) rfl ?_
          refine Go.goto X0 hx (hb hby d4_93) (q := 98) (by decide) (by decide) ?_
          refine Go.iloadN X0 hx (hb hby d4_98) rfl (q := 99) rfl ?_
          refine Go.iload X0 hx (hb hby d4_99) rfl (q := 101) rfl ?_
          refine Go.iadd X0 hx (hb hby d4_101) rfl (q := 102) rfl ?_
          refine Go.iloadN X0 hx (hb hby d4_102) rfl (q := 103) rfl ?_
          by_cases hc118 : n < (p + (4 : Int32))
          · have tc118 := (show (n).toInt < ((p + (4 : Int32))).toInt from own_lt hc118)
            refine Go.icmpNo X0 hx (hb hby d4_103) (Jvm.Free.XT.ii_le_f hc118) (q := 106) rfl ?_
            refine Go.iconst X0 hx (hb hby d4_106) (r := (0 : Int32)) rfl (q := 107) rfl ?_
            exact Go.retI X0 hx hret hlk (Or.inl rfl) rfl (hb hby d4_107) e0 (by decide) (by decide) ⟨by rw [show own_S ys n p = (0 : Int32) from by (simp only [own_S, hA]); exact own_T0 (by omega)], N0, rfl⟩
          · have tc118 := (show ¬ (n).toInt < ((p + (4 : Int32))).toInt from own_ltn hc118)
            refine Go.icmpYes X0 hx (hb hby d4_103) (Jvm.Free.XT.ii_le_t hc118) (q := 108) (by decide) (by decide) ?_
            refine Go.aloadN X0 hx (hb hby d4_108) rfl rfl (q := 109) rfl ?_
            refine Go.iloadN X0 hx (hb hby d4_109) rfl (q := 110) rfl ?_
            refine Go.iconst X0 hx (hb hby d4_110) (r := (1 : Int32)) rfl (q := 111) rfl ?_
            refine Go.iadd X0 hx (hb hby d4_111) rfl (q := 112) rfl ?_
            refine Go.ial X0 hx hZ e0 Va (own_in8 hn hp0 hp1 (1 : Int32) (by decide) (by decide) (show p.toInt + 1 < n.toInt by omega)) (v := (.int (own_Y ys (p + (1 : Int32))))) (own_gi ys _) (hb hby d4_112) ?_
            have bB := own_bd hys (p + (1 : Int32))
            generalize hB : (own_Y ys (p + (1 : Int32))) = B at bB ⊢
            show Go pp ee below _ (s₁.setTop (mkF mm 113 #[.val (.ref a), .val (.int n), .val (.int p), .val (.int A), .val (.int (4 : Int32)), .val (.int E0), .val (.int (65536 : Int32))] [(.int B)]))
            refine Go.sipush X0 hx (hb hby d4_113) (r := (192 : Int32)) rfl (q := 116) rfl ?_
            refine Go.iand X0 hx (hb hby d4_116) rfl (q := 117) rfl ?_
            refine Go.sipush X0 hx (hb hby d4_117) (r := (128 : Int32)) rfl (q := 120) rfl ?_
            by_cases hc119 : (B &&& (192 : Int32)) = (128 : Int32)
            · have tc119 := (own_m192 bB).mp hc119
              refine Go.icmpYes X0 hx (hb hby d4_120) (Jvm.Free.XT.ii_eq_t hc119) (q := 125) (by decide) (by decide) ?_
              refine Go.iload X0 hx (hb hby d4_125) rfl (q := 127) rfl ?_
              refine Go.bipush X0 hx (hb hby d4_127) (r := (6 : Int32)) rfl (q := 129) rfl ?_
              refine Go.ishl X0 hx (hb hby d4_129) rfl (q := 130) rfl ?_
              refine Go.aloadN X0 hx (hb hby d4_130) rfl rfl (q := 131) rfl ?_
              refine Go.iloadN X0 hx (hb hby d4_131) rfl (q := 132) rfl ?_
              refine Go.iconst X0 hx (hb hby d4_132) (r := (1 : Int32)) rfl (q := 133) rfl ?_
              refine Go.iadd X0 hx (hb hby d4_133) rfl (q := 134) rfl ?_
              refine Go.ial X0 hx hZ e0 Va (own_in8 hn hp0 hp1 (1 : Int32) (by decide) (by decide) (show p.toInt + 1 < n.toInt by omega)) (v := (.int (own_Y ys (p + (1 : Int32))))) (own_gi ys _) (hb hby d4_134) ?_
              rw [hB]
              show Go pp ee below _ (s₁.setTop (mkF mm 135 #[.val (.ref a), .val (.int n), .val (.int p), .val (.int A), .val (.int (4 : Int32)), .val (.int E0), .val (.int (65536 : Int32))] [(.int B), (.int (E0 <<< ((6 : Int32) &&& 31)))]))
              refine Go.bipush X0 hx (hb hby d4_135) (r := (63 : Int32)) rfl (q := 137) rfl ?_
              refine Go.iand X0 hx (hb hby d4_137) rfl (q := 138) rfl ?_
              refine Go.ior X0 hx (hb hby d4_138) rfl (q := 139) rfl ?_
              have tE1 := own_or6 E0 B (by omega) (by omega) (by omega)
              generalize ((E0 <<< ((6 : Int32) &&& 31)) ||| (B &&& (63 : Int32))) = E1 at tE1 ⊢
              show Go pp ee below _ (s₁.setTop (mkF mm 139 #[.val (.ref a), .val (.int n), .val (.int p), .val (.int A), .val (.int (4 : Int32)), .val (.int E0), .val (.int (65536 : Int32))] [(.int E1)]))
              refine Go.istore X0 hx (hb hby d4_139) (l' := #[.val (.ref a), .val (.int n), .val (.int p), .val (.int A), .val (.int (4 : Int32)), .val (.int E1), .val (.int (65536 : Int32))]) rfl (q := 141) rfl ?_
              refine Go.iload X0 hx (hb hby d4_141) rfl (q := 143) rfl ?_
              refine Go.iconst X0 hx (hb hby d4_143) (r := (3 : Int32)) rfl (q := 144) rfl ?_
              refine Go.icmpNo X0 hx (hb hby d4_144) (by decide) (q := 147) rfl ?_
              refine Go.aloadN X0 hx (hb hby d4_147) rfl rfl (q := 148) rfl ?_
              refine Go.iloadN X0 hx (hb hby d4_148) rfl (q := 149) rfl ?_
              refine Go.iconst X0 hx (hb hby d4_149) (r := (2 : Int32)) rfl (q := 150) rfl ?_
              refine Go.iadd X0 hx (hb hby d4_150) rfl (q := 151) rfl ?_
              refine Go.ial X0 hx hZ e0 Va (own_in8 hn hp0 hp1 (2 : Int32) (by decide) (by decide) (show p.toInt + 2 < n.toInt by omega)) (v := (.int (own_Y ys (p + (2 : Int32))))) (own_gi ys _) (hb hby d4_151) ?_
              have bC := own_bd hys (p + (2 : Int32))
              generalize hC : (own_Y ys (p + (2 : Int32))) = C at bC ⊢
              show Go pp ee below _ (s₁.setTop (mkF mm 152 #[.val (.ref a), .val (.int n), .val (.int p), .val (.int A), .val (.int (4 : Int32)), .val (.int E1), .val (.int (65536 : Int32))] [(.int C)]))
              refine Go.sipush X0 hx (hb hby d4_152) (r := (192 : Int32)) rfl (q := 155) rfl ?_
              refine Go.iand X0 hx (hb hby d4_155) rfl (q := 156) rfl ?_
              refine Go.sipush X0 hx (hb hby d4_156) (r := (128 : Int32)) rfl (q := 159) rfl ?_
              by_cases hc120 : (C &&& (192 : Int32)) = (128 : Int32)
              · have tc120 := (own_m192 bC).mp hc120
                refine Go.icmpYes X0 hx (hb hby d4_159) (Jvm.Free.XT.ii_eq_t hc120) (q := 164) (by decide) (by decide) ?_
                refine Go.iload X0 hx (hb hby d4_164) rfl (q := 166) rfl ?_
                refine Go.bipush X0 hx (hb hby d4_166) (r := (6 : Int32)) rfl (q := 168) rfl ?_
                refine Go.ishl X0 hx (hb hby d4_168) rfl (q := 169) rfl ?_
                refine Go.aloadN X0 hx (hb hby d4_169) rfl rfl (q := 170) rfl ?_
                refine Go.iloadN X0 hx (hb hby d4_170) rfl (q := 171) rfl ?_
                refine Go.iconst X0 hx (hb hby d4_171) (r := (2 : Int32)) rfl (q := 172) rfl ?_
                refine Go.iadd X0 hx (hb hby d4_172) rfl (q := 173) rfl ?_
                refine Go.ial X0 hx hZ e0 Va (own_in8 hn hp0 hp1 (2 : Int32) (by decide) (by decide) (show p.toInt + 2 < n.toInt by omega)) (v := (.int (own_Y ys (p + (2 : Int32))))) (own_gi ys _) (hb hby d4_173) ?_
                rw [hC]
                show Go pp ee below _ (s₁.setTop (mkF mm 174 #[.val (.ref a), .val (.int n), .val (.int p), .val (.int A), .val (.int (4 : Int32)), .val (.int E1), .val (.int (65536 : Int32))] [(.int C), (.int (E1 <<< ((6 : Int32) &&& 31)))]))
                refine Go.bipush X0 hx (hb hby d4_174) (r := (63 : Int32)) rfl (q := 176) rfl ?_
                refine Go.iand X0 hx (hb hby d4_176) rfl (q := 177) rfl ?_
                refine Go.ior X0 hx (hb hby d4_177) rfl (q := 178) rfl ?_
                have tE2 := own_or6 E1 C (by omega) (by omega) (by omega)
                generalize ((E1 <<< ((6 : Int32) &&& 31)) ||| (C &&& (63 : Int32))) = E2 at tE2 ⊢
                show Go pp ee below _ (s₁.setTop (mkF mm 178 #[.val (.ref a), .val (.int n), .val (.int p), .val (.int A), .val (.int (4 : Int32)), .val (.int E1), .val (.int (65536 : Int32))] [(.int E2)]))
                refine Go.istore X0 hx (hb hby d4_178) (l' := #[.val (.ref a), .val (.int n), .val (.int p), .val (.int A), .val (.int (4 : Int32)), .val (.int E2), .val (.int (65536 : Int32))]) rfl (q := 180) rfl ?_
                refine Go.iload X0 hx (hb hby d4_180) rfl (q := 182) rfl ?_
                refine Go.iconst X0 hx (hb hby d4_182) (r := (4 : Int32)) rfl (q := 183) rfl ?_
                refine Go.icmpNo X0 hx (hb hby d4_183) (by decide) (q := 186) rfl ?_
                refine Go.aloadN X0 hx (hb hby d4_186) rfl rfl (q := 187) rfl ?_
                refine Go.iloadN X0 hx (hb hby d4_187) rfl (q := 188) rfl ?_
                refine Go.iconst X0 hx (hb hby d4_188) (r := (3 : Int32)) rfl (q := 189) rfl ?_
                refine Go.iadd X0 hx (hb hby d4_189) rfl (q := 190) rfl ?_
                refine Go.ial X0 hx hZ e0 Va (own_in8 hn hp0 hp1 (3 : Int32) (by decide) (by decide) (show p.toInt + 3 < n.toInt by omega)) (v := (.int (own_Y ys (p + (3 : Int32))))) (own_gi ys _) (hb hby d4_190) ?_
                have bD := own_bd hys (p + (3 : Int32))
                generalize hD : (own_Y ys (p + (3 : Int32))) = D at bD ⊢
                show Go pp ee below _ (s₁.setTop (mkF mm 191 #[.val (.ref a), .val (.int n), .val (.int p), .val (.int A), .val (.int (4 : Int32)), .val (.int E2), .val (.int (65536 : Int32))] [(.int D)]))
                refine Go.sipush X0 hx (hb hby d4_191) (r := (192 : Int32)) rfl (q := 194) rfl ?_
                refine Go.iand X0 hx (hb hby d4_194) rfl (q := 195) rfl ?_
                refine Go.sipush X0 hx (hb hby d4_195) (r := (128 : Int32)) rfl (q := 198) rfl ?_
                by_cases hc121 : (D &&& (192 : Int32)) = (128 : Int32)
                · have tc121 := (own_m192 bD).mp hc121
                  refine Go.icmpYes X0 hx (hb hby d4_198) (Jvm.Free.XT.ii_eq_t hc121) (q := 203) (by decide) (by decide) ?_
                  refine Go.iload X0 hx (hb hby d4_203) rfl (q := 205) rfl ?_
                  refine Go.bipush X0 hx (hb hby d4_205) (r := (6 : Int32)) rfl (q := 207) rfl ?_
                  refine Go.ishl X0 hx (hb hby d4_207) rfl (q := 208) rfl ?_
                  refine Go.aloadN X0 hx (hb hby d4_208) rfl rfl (q := 209) rfl ?_
                  refine Go.iloadN X0 hx (hb hby d4_209) rfl (q := 210) rfl ?_
                  refine Go.iconst X0 hx (hb hby d4_210) (r := (3 : Int32)) rfl (q := 211) rfl ?_
                  refine Go.iadd X0 hx (hb hby d4_211) rfl (q := 212) rfl ?_
                  refine Go.ial X0 hx hZ e0 Va (own_in8 hn hp0 hp1 (3 : Int32) (by decide) (by decide) (show p.toInt + 3 < n.toInt by omega)) (v := (.int (own_Y ys (p + (3 : Int32))))) (own_gi ys _) (hb hby d4_212) ?_
                  rw [hD]
                  show Go pp ee below _ (s₁.setTop (mkF mm 213 #[.val (.ref a), .val (.int n), .val (.int p), .val (.int A), .val (.int (4 : Int32)), .val (.int E2), .val (.int (65536 : Int32))] [(.int D), (.int (E2 <<< ((6 : Int32) &&& 31)))]))
                  refine Go.bipush X0 hx (hb hby d4_213) (r := (63 : Int32)) rfl (q := 215) rfl ?_
                  refine Go.iand X0 hx (hb hby d4_215) rfl (q := 216) rfl ?_
                  refine Go.ior X0 hx (hb hby d4_216) rfl (q := 217) rfl ?_
                  have tE3 := own_or6 E2 D (by omega) (by omega) (by omega)
                  generalize ((E2 <<< ((6 : Int32) &&& 31)) ||| (D &&& (63 : Int32))) = E3 at tE3 ⊢
                  show Go pp ee below _ (s₁.setTop (mkF mm 217 #[.val (.ref a), .val (.int n), .val (.int p), .val (.int A), .val (.int (4 : Int32)), .val (.int E2), .val (.int (65536 : Int32))] [(.int E3)]))
                  refine Go.istore X0 hx (hb hby d4_217) (l' := #[.val (.ref a), .val (.int n), .val (.int p), .val (.int A), .val (.int (4 : Int32)), .val (.int E3), .val (.int (65536 : Int32))]) rfl (q := 219) rfl ?_
                  refine Go.iload X0 hx (hb hby d4_219) rfl (q := 221) rfl ?_
                  refine Go.iload X0 hx (hb hby d4_221) rfl (q := 223) rfl ?_
                  by_cases hc122 : E3 < (65536 : Int32)
                  · have tc122 := (show (E3).toInt < 65536 from own_lt hc122)
                    refine Go.icmpYes X0 hx (hb hby d4_223) (Jvm.Free.XT.ii_lt_t hc122) (q := 233) (by decide) (by decide) ?_
                    refine Go.iconst X0 hx (hb hby d4_233) (r := (0 : Int32)) rfl (q := 234) rfl ?_
                    exact Go.retI X0 hx hret hlk (Or.inl rfl) rfl (hb hby d4_234) e0 (by decide) (by decide) ⟨by rw [show own_S ys n p = (0 : Int32) from by (simp only [own_S, hA, hB, hC, hD]); exact own_T0 (by omega)], N0, rfl⟩
                  · have tc122 := (show ¬ (E3).toInt < 65536 from own_ltn hc122)
                    refine Go.icmpNo X0 hx (hb hby d4_223) (Jvm.Free.XT.ii_lt_f hc122) (q := 226) rfl ?_
                    refine Go.iload X0 hx (hb hby d4_226) rfl (q := 228) rfl ?_
                    refine Go.ldcI X0 hx hZ hown (wd18 hw) (hb hby d4_228) (q := 230) rfl ?_
                    by_cases hc123 : (1114111 : Int32) < E3
                    · have tc123 := (show 1114111 < (E3).toInt from own_lt hc123)
                      refine Go.icmpNo X0 hx (hb hby d4_230) (Jvm.Free.XT.ii_le_f hc123) (q := 233) rfl ?_
                      refine Go.iconst X0 hx (hb hby d4_233) (r := (0 : Int32)) rfl (q := 234) rfl ?_
                      exact Go.retI X0 hx hret hlk (Or.inl rfl) rfl (hb hby d4_234) e0 (by decide) (by decide) ⟨by rw [show own_S ys n p = (0 : Int32) from by (simp only [own_S, hA, hB, hC, hD]); exact own_T0 (by omega)], N0, rfl⟩
                    · have tc123 := (show ¬ 1114111 < (E3).toInt from own_ltn hc123)
                      refine Go.icmpYes X0 hx (hb hby d4_230) (Jvm.Free.XT.ii_le_t hc123) (q := 235) (by decide) (by decide) ?_
                      refine Go.iload X0 hx (hb hby d4_235) rfl (q := 237) rfl ?_
                      refine Go.ldcI X0 hx hZ hown (wd19 hw) (hb hby d4_237) (q := 239) rfl ?_
                      by_cases hc124 : E3 < (55296 : Int32)
                      · have tc124 := (show (E3).toInt < 55296 from own_lt hc124)
                        refine Go.icmpYes X0 hx (hb hby d4_239) (Jvm.Free.XT.ii_lt_t hc124) (q := 251) (by decide) (by decide) ?_
                        refine Go.iload X0 hx (hb hby d4_251) rfl (q := 253) rfl ?_
                        exact Go.retI X0 hx hret hlk (Or.inl rfl) rfl (hb hby d4_253) e0 (by decide) (by decide) ⟨by rw [show own_S ys n p = (4 : Int32) from by (simp only [own_S, hA, hB, hC, hD]); exact own_T4 (by omega)], N0, rfl⟩
                      · have tc124 := (show ¬ (E3).toInt < 55296 from own_ltn hc124)
                        refine Go.icmpNo X0 hx (hb hby d4_239) (Jvm.Free.XT.ii_lt_f hc124) (q := 242) rfl ?_
                        refine Go.iload X0 hx (hb hby d4_242) rfl (q := 244) rfl ?_
                        refine Go.ldcI X0 hx hZ hown (wd21 hw) (hb hby d4_244) (q := 246) rfl ?_
                        by_cases hc125 : (57343 : Int32) < E3
                        · have tc125 := (show 57343 < (E3).toInt from own_lt hc125)
                          refine Go.icmpYes X0 hx (hb hby d4_246) (Jvm.Free.XT.ii_gt_t hc125) (q := 251) (by decide) (by decide) ?_
                          refine Go.iload X0 hx (hb hby d4_251) rfl (q := 253) rfl ?_
                          exact Go.retI X0 hx hret hlk (Or.inl rfl) rfl (hb hby d4_253) e0 (by decide) (by decide) ⟨by rw [show own_S ys n p = (4 : Int32) from by (simp only [own_S, hA, hB, hC, hD]); exact own_T4 (by omega)], N0, rfl⟩
                        · have tc125 := (show ¬ 57343 < (E3).toInt from own_ltn hc125)
                          refine Go.icmpNo X0 hx (hb hby d4_246) (Jvm.Free.XT.ii_gt_f hc125) (q := 249) rfl ?_
                          refine Go.iconst X0 hx (hb hby d4_249) (r := (0 : Int32)) rfl (q := 250) rfl ?_
                          exact Go.retI X0 hx hret hlk (Or.inl rfl) rfl (hb hby d4_250) e0 (by decide) (by decide) ⟨by rw [show own_S ys n p = (0 : Int32) from by (simp only [own_S, hA, hB, hC, hD]); exact own_T0 (by omega)], N0, rfl⟩
                · have tc121 := mt (own_m192 bD).mpr hc121
                  refine Go.icmpNo X0 hx (hb hby d4_198) (Jvm.Free.XT.ii_eq_f hc121) (q := 201) rfl ?_
                  refine Go.iconst X0 hx (hb hby d4_201) (r := (0 : Int32)) rfl (q := 202) rfl ?_
                  exact Go.retI X0 hx hret hlk (Or.inl rfl) rfl (hb hby d4_202) e0 (by decide) (by decide) ⟨by rw [show own_S ys n p = (0 : Int32) from by (simp only [own_S, hA, hB, hC, hD]); exact own_T0 (by omega)], N0, rfl⟩
              · have tc120 := mt (own_m192 bC).mpr hc120
                refine Go.icmpNo X0 hx (hb hby d4_159) (Jvm.Free.XT.ii_eq_f hc120) (q := 162) rfl ?_
                refine Go.iconst X0 hx (hb hby d4_162) (r := (0 : Int32)) rfl (q := 163) rfl ?_
                exact Go.retI X0 hx hret hlk (Or.inl rfl) rfl (hb hby d4_163) e0 (by decide) (by decide) ⟨by rw [show own_S ys n p = (0 : Int32) from by (simp only [own_S, hA, hB, hC]); exact own_T0 (by omega)], N0, rfl⟩
            · have tc119 := mt (own_m192 bB).mpr hc119
              refine Go.icmpNo X0 hx (hb hby d4_120) (Jvm.Free.XT.ii_eq_f hc119) (q := 123) rfl ?_
              refine Go.iconst X0 hx (hb hby d4_123) (r := (0 : Int32)) rfl (q := 124) rfl ?_
              exact Go.retI X0 hx hret hlk (Or.inl rfl) rfl (hb hby d4_124) e0 (by decide) (by decide) ⟨by rw [show own_S ys n p = (0 : Int32) from by (simp only [own_S, hA, hB]); exact own_T0 (by omega)], N0, rfl⟩
        · have tc117 := mt (own_m248 bA).mpr hc117
          refine Go.icmpYes X0 hx (hb hby d4_77) (Jvm.Free.XT.ii_ne_t hc117) (q := 96) (by decide) (by decide) ?_
          refine Go.iconst X0 hx (hb hby d4_96) (r := (0 : Int32)) rfl (q := 97) rfl ?_
          exact Go.retI X0 hx hret hlk (Or.inl rfl) rfl (hb hby d4_97) e0 (by decide) (by decide) ⟨by rw [show own_S ys n p = (0 : Int32) from by (simp only [own_S, hA]); exact own_T0 (by omega)], N0, rfl⟩
def Q_cisu (Z : State) (a : Addr) (ka : ClassId) (n : Int32) (ys : List Int32) (h0 : Heap) (vR : Option Value) (hR : Heap) (LR : List Loc) : Prop := vR = some (.int (own_U ys n 8 0)) ∧ Fr Z.heap.size LR ∧ hR = h0
set_option maxRecDepth 65536 in
set_option maxHeartbeats 40000000 in
theorem cisu (l : Launch) (Z : State) (a0 : Array Value) (hw : ∀ d ∈ tables_1, d.before a0 Z = true) (a : Addr) (ka : ClassId) (n : Int32) (ys : List Int32) (h0 : Heap) (O0 : Ext Z.heap h0) (Va : Arv Z h0 a ka .byte n (ys.map fun y => Value.int y.toInt8.toInt32) (.int (0 : Int32))) (hys : ∀ i : Nat, 0 ≤ (ys.getD i 0).toInt ∧ (ys.getD i 0).toInt < 256) (hn : n.toInt ≤ 8) :
    Ctr l Z h0 (⟨"com/example/depositum/depositum/report/PrintableText", "isUtf8", "([B)Z"⟩ : MethodName) prog_45_method_4_code 3 (some .boolean) [] ({ frames := 1, cells := 0, slots := 0, locals := 20 } : Room) #[(.ref a)] (Q_cisu Z a ka n ys h0) := by
  refine enter (plainFor_of_name pn0) ?_
  intro pp ee ss mm below meth cc s₁ hx hby hml hZ hown hnm hret hlk X0 e0 hs0
  replace hown : ss.vm.findClass "com/example/depositum/depositum/report/PrintableText" = some mm.cls := hown
  refine Go.cast (congrArg s₁.setTop (ef_cisu mm a)) ?_
  have N0 := Fr.nil Z.heap.size
  show Go pp ee below _ (s₁.setTop (mkF mm 0 #[.val (.ref a), .unset, .unset] []))
  refine Go.iconst X0 hx (hb hby d1_0) (r := (0 : Int32)) rfl (q := 1) rfl ?_
  refine Go.istoreN X0 hx (hb hby d1_1) (l' := #[.val (.ref a), .val (.int (0 : Int32)), .unset]) rfl (q := 2) rfl ?_
  have JL : ∀ (k : Nat) (p : Int32) (sl : Slot) (TJ : State) (LJ : List Loc), Stand pp l ee ({ frames := 1, cells := 0, slots := 0, locals := 20 } : Room) ss mm #[(.ref a)] below meth cc TJ LJ 0 0 → TJ.heap = h0 → Fr Z.heap.size LJ → One sl → n.toInt - (p).toInt ≤ k → ¬ (p < (0 : Int32)) → (p).toInt ≤ 12 → own_U ys n k p = own_U ys n 8 0 → Go pp ee below (KK ss (Q_cisu Z a ka n ys h0) ({ frames := 1, cells := 0, slots := 0, locals := 20 } : Room).cells ({ frames := 1, cells := 0, slots := 0, locals := 20 } : Room).slots) (TJ.setTop (mkF mm 2 #[.val (.ref a), .val (.int p), sl] [])) := by
    intro k
    induction k with
    | zero =>
      intro p sl TJ LJ XJ eJ NJ hsl hd hp0 hp12 hR
      have hk101 : ¬ (p < n) := own_nlt (by omega)
      refine Go.iloadN XJ hx (hb hby d1_2) rfl (q := 3) rfl ?_
      refine Go.aloadN XJ hx (hb hby d1_3) rfl rfl (q := 4) rfl ?_
      refine Go.alen XJ hx hZ eJ Va (hb hby d1_4) ?_
      refine Go.icmpYes XJ hx (hb hby d1_5) (Jvm.Free.XT.ii_ge_t hk101) (q := 27) (by decide) (by decide) ?_
      refine Go.iconst XJ hx (hb hby d1_27) (r := (1 : Int32)) rfl (q := 28) rfl ?_
      exact Go.retI XJ hx hret hlk (by simp) rfl (hb hby d1_28) eJ (by decide) (by decide) ⟨by rw [← hR, own_U_ge hk101 _], NJ, rfl⟩
    | succ k ih =>
      intro p sl TJ LJ XJ eJ NJ hsl hd hp0 hp12 hR
      refine Go.iloadN XJ hx (hb hby d1_2) rfl (q := 3) rfl ?_
      refine Go.aloadN XJ hx (hb hby d1_3) rfl rfl (q := 4) rfl ?_
      refine Go.alen XJ hx hZ eJ Va (hb hby d1_4) ?_
      by_cases hc102 : p < n
      · refine Go.icmpNo XJ hx (hb hby d1_5) (Jvm.Free.XT.ii_ge_f hc102) (q := 8) rfl ?_
        refine Go.aloadN XJ hx (hb hby d1_8) rfl rfl (q := 9) rfl ?_
        refine Go.iloadN XJ hx (hb hby d1_9) rfl (q := 10) rfl ?_
        refine Go.callS XJ hx hZ hown (wd8 hw) (wd9 hw) (wd6 hw) (wd10 hw) (by decide) (cseq l Z a0 hw a (ka) n (ys) p h0 O0 Va hys hn hp0 hc102) eJ (by rw [hml]; rfl) (hb hby d1_10) (argsL := [(.ref a), (.int p)]) (rest := []) (lenOf pd0 rfl) rfl rfl (W := 0) (by first | exact Nat.le_refl _ | decide) (by decide) (by decide) (by decide) (by decide) ?_
        intro v103 T103 L103 X103 hQ103
        obtain ⟨rfl, N103q, e103⟩ := hQ103
        have N103 := Fr.app NJ N103q
        refine Go.istoreN X103 hx (hb hby d1_13) (l' := #[.val (.ref a), .val (.int p), .val (.int (own_S ys n p))]) (XS.store1 rfl hsl rfl) (q := 14) rfl ?_
        refine Go.iloadN X103 hx (hb hby d1_14) rfl (q := 15) rfl ?_
        by_cases hc104 : (own_S ys n p) = (0 : Int32)
        · refine Go.ifNo X103 hx (hb hby d1_15) (Jvm.Free.XT.i0_ne_f hc104) (q := 18) rfl ?_
          refine Go.iconst X103 hx (hb hby d1_18) (r := (0 : Int32)) rfl (q := 19) rfl ?_
          exact Go.retI X103 hx hret hlk (by simp) rfl (hb hby d1_19) e103 (by decide) (by decide) ⟨by rw [← hR, own_U_no hc102 hc104], N103, rfl⟩
        · refine Go.ifYes X103 hx (hb hby d1_15) (Jvm.Free.XT.i0_ne_t hc104) (q := 20) (by decide) (by decide) ?_
          refine Go.iloadN X103 hx (hb hby d1_20) rfl (q := 21) rfl ?_
          refine Go.iloadN X103 hx (hb hby d1_21) rfl (q := 22) rfl ?_
          refine Go.iadd X103 hx (hb hby d1_22) rfl (q := 23) rfl ?_
          refine Go.istoreN X103 hx (hb hby d1_23) (l' := #[.val (.ref a), .val (.int (p + (own_S ys n p))), .val (.int (own_S ys n p))]) rfl (q := 24) rfl ?_
          refine Go.goto X103 hx (hb hby d1_24) (q := 2) (by decide) (by decide) ?_
          obtain ⟨u1, u2, u3⟩ := own_next ys hp0 hc102 hc104 hn
          exact ih (p + (own_S ys n p)) (.val (.int (own_S ys n p))) _ _ X103 e103 N103 (One.val rfl) (by omega) u1 u2 (by rw [← hR, own_U_go hc102 hc104])
      · refine Go.icmpYes XJ hx (hb hby d1_5) (Jvm.Free.XT.ii_ge_t hc102) (q := 27) (by decide) (by decide) ?_
        refine Go.iconst XJ hx (hb hby d1_27) (r := (1 : Int32)) rfl (q := 28) rfl ?_
        exact Go.retI XJ hx hret hlk (by simp) rfl (hb hby d1_28) eJ (by decide) (by decide) ⟨by rw [← hR, own_U_ge hc102 _], NJ, rfl⟩
  exact JL 8 0 .unset _ _ X0 e0 N0 One.u (by have k0 : (0 : Int32).toInt = 0 := rfl; omega) (by decide) (by decide) rfl
def Q_cref (Z : State) (a : Addr) (ka : ClassId) (n : Int32) (ys : List Int32) (h0 : Heap) (vR : Option Value) (hR : Heap) (LR : List Loc) : Prop := vR = some (.int (own_U ys n 8 0)) ∧ Fr Z.heap.size LR ∧ hR = h0
set_option maxRecDepth 65536 in
set_option maxHeartbeats 40000000 in
theorem cref (l : Launch) (Z : State) (a0 : Array Value) (hw : ∀ d ∈ tables_1, d.before a0 Z = true) (a : Addr) (ka : ClassId) (n : Int32) (ys : List Int32) (h0 : Heap) (O0 : Ext Z.heap h0) (Va : Arv Z h0 a ka .int (8 : Int32) (ys.map Value.int) (.int (0 : Int32))) (hys : ∀ i : Nat, 0 ≤ (ys.getD i 0).toInt ∧ (ys.getD i 0).toInt < 256) (hn : n.toInt ≤ 8) :
    Ctr l Z h0 (⟨"com/example/depositum/depositum/report/PrintableTextIsUtf8PinLaw", "reference", "([II)Z"⟩ : MethodName) method_3_code 4 (some .boolean) [] ({ frames := 1, cells := 0, slots := 0, locals := 18 } : Room) #[(.ref a), (.int n)] (Q_cref Z a ka n ys h0) := by
  refine enter (plainFor_of_name pn1) ?_
  intro pp ee ss mm below meth cc s₁ hx hby hml hZ hown hnm hret hlk X0 e0 hs0
  replace hown : ss.vm.findClass "com/example/depositum/depositum/report/PrintableTextIsUtf8PinLaw" = some mm.cls := hown
  refine Go.cast (congrArg s₁.setTop (ef_cref mm a n)) ?_
  have N0 := Fr.nil Z.heap.size
  show Go pp ee below _ (s₁.setTop (mkF mm 0 #[.val (.ref a), .val (.int n), .unset, .unset] []))
  refine Go.iconst X0 hx (hb hby d3_0) (r := (0 : Int32)) rfl (q := 1) rfl ?_
  refine Go.istoreN X0 hx (hb hby d3_1) (l' := #[.val (.ref a), .val (.int n), .val (.int (0 : Int32)), .unset]) rfl (q := 2) rfl ?_
  have J7 : ∀ (p : Int32) (sl : Slot) (TJ : State) (LJ : List Loc), Stand pp l ee ({ frames := 1, cells := 0, slots := 0, locals := 18 } : Room) ss mm #[(.ref a), (.int n)] below meth cc TJ LJ 0 0 → TJ.heap = h0 → Fr Z.heap.size LJ → One sl → n.toInt - (p).toInt ≤ 1 → ¬ (p < (0 : Int32)) → (p).toInt ≤ 12 → own_U ys n 1 p = own_U ys n 8 0 → Go pp ee below (KK ss (Q_cref Z a ka n ys h0) ({ frames := 1, cells := 0, slots := 0, locals := 18 } : Room).cells ({ frames := 1, cells := 0, slots := 0, locals := 18 } : Room).slots) (TJ.setTop (mkF mm 156 #[.val (.ref a), .val (.int n), .val (.int p), sl] [])) := by
    intro p sl TJ LJ XJ eJ NJ hsl hd hp0 hp12 hR
    refine Go.iloadN XJ hx (hb hby d3_156) rfl (q := 157) rfl ?_
    refine Go.iloadN XJ hx (hb hby d3_157) rfl (q := 158) rfl ?_
    by_cases hc101 : p < n
    · refine Go.icmpNo XJ hx (hb hby d3_158) (Jvm.Free.XT.ii_ge_f hc101) (q := 161) rfl ?_
      refine Go.aloadN XJ hx (hb hby d3_161) rfl rfl (q := 162) rfl ?_
      refine Go.iloadN XJ hx (hb hby d3_162) rfl (q := 163) rfl ?_
      refine Go.iloadN XJ hx (hb hby d3_163) rfl (q := 164) rfl ?_
      refine Go.callS XJ hx hZ hown (wd15 hw) (wd16 hw) (wd13 hw) (wd17 hw) (by decide) (crseq l Z a0 hw a (ka) n (ys) p h0 O0 Va hys hn hp0 hc101) eJ (by rw [hml]; rfl) (hb hby d3_164) (argsL := [(.ref a), (.int n), (.int p)]) (rest := []) (lenOf pd1 rfl) rfl rfl (W := 0) (by first | exact Nat.le_refl _ | decide) (by decide) (by decide) (by decide) (by decide) ?_
      intro v102 T102 L102 X102 hQ102
      obtain ⟨rfl, N102q, e102⟩ := hQ102
      have N102 := Fr.app NJ N102q
      refine Go.istoreN X102 hx (hb hby d3_167) (l' := #[.val (.ref a), .val (.int n), .val (.int p), .val (.int (own_S ys n p))]) (XS.store1 rfl hsl rfl) (q := 168) rfl ?_
      refine Go.iloadN X102 hx (hb hby d3_168) rfl (q := 169) rfl ?_
      by_cases hc103 : (own_S ys n p) = (0 : Int32)
      · refine Go.ifNo X102 hx (hb hby d3_169) (Jvm.Free.XT.i0_ne_f hc103) (q := 172) rfl ?_
        refine Go.iconst X102 hx (hb hby d3_172) (r := (0 : Int32)) rfl (q := 173) rfl ?_
        exact Go.retI X102 hx hret hlk (by simp) rfl (hb hby d3_173) e102 (by decide) (by decide) ⟨by rw [← hR, own_U_no hc101 hc103], N102, rfl⟩
      · refine Go.ifYes X102 hx (hb hby d3_169) (Jvm.Free.XT.i0_ne_t hc103) (q := 174) (by decide) (by decide) ?_
        refine Go.iloadN X102 hx (hb hby d3_174) rfl (q := 175) rfl ?_
        refine Go.iloadN X102 hx (hb hby d3_175) rfl (q := 176) rfl ?_
        refine Go.iadd X102 hx (hb hby d3_176) rfl (q := 177) rfl ?_
        refine Go.istoreN X102 hx (hb hby d3_177) (l' := #[.val (.ref a), .val (.int n), .val (.int (p + (own_S ys n p))), .val (.int (own_S ys n p))]) rfl (q := 178) rfl ?_
        refine Go.iconst X102 hx (hb hby d3_178) (r := (1 : Int32)) rfl (q := 179) rfl ?_
        exact Go.retI X102 hx hret hlk (by simp) rfl (hb hby d3_179) e102 (by decide) (by decide) ⟨by rw [← hR, own_U_go hc101 hc103]; rfl, N102, rfl⟩
    · refine Go.icmpYes XJ hx (hb hby d3_158) (Jvm.Free.XT.ii_ge_t hc101) (q := 178) (by decide) (by decide) ?_
      refine Go.iconst XJ hx (hb hby d3_178) (r := (1 : Int32)) rfl (q := 179) rfl ?_
      exact Go.retI XJ hx hret hlk (by simp) rfl (hb hby d3_179) eJ (by decide) (by decide) ⟨by rw [← hR, own_U_ge hc101 _], NJ, rfl⟩
  have J6 : ∀ (p : Int32) (sl : Slot) (TJ : State) (LJ : List Loc), Stand pp l ee ({ frames := 1, cells := 0, slots := 0, locals := 18 } : Room) ss mm #[(.ref a), (.int n)] below meth cc TJ LJ 0 0 → TJ.heap = h0 → Fr Z.heap.size LJ → One sl → n.toInt - (p).toInt ≤ 2 → ¬ (p < (0 : Int32)) → (p).toInt ≤ 12 → own_U ys n 2 p = own_U ys n 8 0 → Go pp ee below (KK ss (Q_cref Z a ka n ys h0) ({ frames := 1, cells := 0, slots := 0, locals := 18 } : Room).cells ({ frames := 1, cells := 0, slots := 0, locals := 18 } : Room).slots) (TJ.setTop (mkF mm 134 #[.val (.ref a), .val (.int n), .val (.int p), sl] [])) := by
    intro p sl TJ LJ XJ eJ NJ hsl hd hp0 hp12 hR
    refine Go.iloadN XJ hx (hb hby d3_134) rfl (q := 135) rfl ?_
    refine Go.iloadN XJ hx (hb hby d3_135) rfl (q := 136) rfl ?_
    by_cases hc104 : p < n
    · refine Go.icmpNo XJ hx (hb hby d3_136) (Jvm.Free.XT.ii_ge_f hc104) (q := 139) rfl ?_
      refine Go.aloadN XJ hx (hb hby d3_139) rfl rfl (q := 140) rfl ?_
      refine Go.iloadN XJ hx (hb hby d3_140) rfl (q := 141) rfl ?_
      refine Go.iloadN XJ hx (hb hby d3_141) rfl (q := 142) rfl ?_
      refine Go.callS XJ hx hZ hown (wd15 hw) (wd16 hw) (wd13 hw) (wd17 hw) (by decide) (crseq l Z a0 hw a (ka) n (ys) p h0 O0 Va hys hn hp0 hc104) eJ (by rw [hml]; rfl) (hb hby d3_142) (argsL := [(.ref a), (.int n), (.int p)]) (rest := []) (lenOf pd1 rfl) rfl rfl (W := 0) (by first | exact Nat.le_refl _ | decide) (by decide) (by decide) (by decide) (by decide) ?_
      intro v105 T105 L105 X105 hQ105
      obtain ⟨rfl, N105q, e105⟩ := hQ105
      have N105 := Fr.app NJ N105q
      refine Go.istoreN X105 hx (hb hby d3_145) (l' := #[.val (.ref a), .val (.int n), .val (.int p), .val (.int (own_S ys n p))]) (XS.store1 rfl hsl rfl) (q := 146) rfl ?_
      refine Go.iloadN X105 hx (hb hby d3_146) rfl (q := 147) rfl ?_
      by_cases hc106 : (own_S ys n p) = (0 : Int32)
      · refine Go.ifNo X105 hx (hb hby d3_147) (Jvm.Free.XT.i0_ne_f hc106) (q := 150) rfl ?_
        refine Go.iconst X105 hx (hb hby d3_150) (r := (0 : Int32)) rfl (q := 151) rfl ?_
        exact Go.retI X105 hx hret hlk (by simp) rfl (hb hby d3_151) e105 (by decide) (by decide) ⟨by rw [← hR, own_U_no hc104 hc106], N105, rfl⟩
      · refine Go.ifYes X105 hx (hb hby d3_147) (Jvm.Free.XT.i0_ne_t hc106) (q := 152) (by decide) (by decide) ?_
        refine Go.iloadN X105 hx (hb hby d3_152) rfl (q := 153) rfl ?_
        refine Go.iloadN X105 hx (hb hby d3_153) rfl (q := 154) rfl ?_
        refine Go.iadd X105 hx (hb hby d3_154) rfl (q := 155) rfl ?_
        refine Go.istoreN X105 hx (hb hby d3_155) (l' := #[.val (.ref a), .val (.int n), .val (.int (p + (own_S ys n p))), .val (.int (own_S ys n p))]) rfl (q := 156) rfl ?_
        obtain ⟨u1, u2, u3⟩ := own_next ys hp0 hc104 hc106 hn
        exact J7 (p + (own_S ys n p)) (.val (.int (own_S ys n p))) _ _ X105 e105 N105 (One.val rfl) (by omega) u1 u2 (by rw [← hR, own_U_go hc104 hc106])
    · refine Go.icmpYes XJ hx (hb hby d3_136) (Jvm.Free.XT.ii_ge_t hc104) (q := 156) (by decide) (by decide) ?_
      exact J7 p (sl) _ _ XJ eJ NJ hsl (by have := own_ltn hc104; omega) hp0 hp12 (by rw [← hR, own_U_ge hc104, own_U_ge hc104])
  have J5 : ∀ (p : Int32) (sl : Slot) (TJ : State) (LJ : List Loc), Stand pp l ee ({ frames := 1, cells := 0, slots := 0, locals := 18 } : Room) ss mm #[(.ref a), (.int n)] below meth cc TJ LJ 0 0 → TJ.heap = h0 → Fr Z.heap.size LJ → One sl → n.toInt - (p).toInt ≤ 3 → ¬ (p < (0 : Int32)) → (p).toInt ≤ 12 → own_U ys n 3 p = own_U ys n 8 0 → Go pp ee below (KK ss (Q_cref Z a ka n ys h0) ({ frames := 1, cells := 0, slots := 0, locals := 18 } : Room).cells ({ frames := 1, cells := 0, slots := 0, locals := 18 } : Room).slots) (TJ.setTop (mkF mm 112 #[.val (.ref a), .val (.int n), .val (.int p), sl] [])) := by
    intro p sl TJ LJ XJ eJ NJ hsl hd hp0 hp12 hR
    refine Go.iloadN XJ hx (hb hby d3_112) rfl (q := 113) rfl ?_
    refine Go.iloadN XJ hx (hb hby d3_113) rfl (q := 114) rfl ?_
    by_cases hc107 : p < n
    · refine Go.icmpNo XJ hx (hb hby d3_114) (Jvm.Free.XT.ii_ge_f hc107) (q := 117) rfl ?_
      refine Go.aloadN XJ hx (hb hby d3_117) rfl rfl (q := 118) rfl ?_
      refine Go.iloadN XJ hx (hb hby d3_118) rfl (q := 119) rfl ?_
      refine Go.iloadN XJ hx (hb hby d3_119) rfl (q := 120) rfl ?_
      refine Go.callS XJ hx hZ hown (wd15 hw) (wd16 hw) (wd13 hw) (wd17 hw) (by decide) (crseq l Z a0 hw a (ka) n (ys) p h0 O0 Va hys hn hp0 hc107) eJ (by rw [hml]; rfl) (hb hby d3_120) (argsL := [(.ref a), (.int n), (.int p)]) (rest := []) (lenOf pd1 rfl) rfl rfl (W := 0) (by first | exact Nat.le_refl _ | decide) (by decide) (by decide) (by decide) (by decide) ?_
      intro v108 T108 L108 X108 hQ108
      obtain ⟨rfl, N108q, e108⟩ := hQ108
      have N108 := Fr.app NJ N108q
      refine Go.istoreN X108 hx (hb hby d3_123) (l' := #[.val (.ref a), .val (.int n), .val (.int p), .val (.int (own_S ys n p))]) (XS.store1 rfl hsl rfl) (q := 124) rfl ?_
      refine Go.iloadN X108 hx (hb hby d3_124) rfl (q := 125) rfl ?_
      by_cases hc109 : (own_S ys n p) = (0 : Int32)
      · refine Go.ifNo X108 hx (hb hby d3_125) (Jvm.Free.XT.i0_ne_f hc109) (q := 128) rfl ?_
        refine Go.iconst X108 hx (hb hby d3_128) (r := (0 : Int32)) rfl (q := 129) rfl ?_
        exact Go.retI X108 hx hret hlk (by simp) rfl (hb hby d3_129) e108 (by decide) (by decide) ⟨by rw [← hR, own_U_no hc107 hc109], N108, rfl⟩
      · refine Go.ifYes X108 hx (hb hby d3_125) (Jvm.Free.XT.i0_ne_t hc109) (q := 130) (by decide) (by decide) ?_
        refine Go.iloadN X108 hx (hb hby d3_130) rfl (q := 131) rfl ?_
        refine Go.iloadN X108 hx (hb hby d3_131) rfl (q := 132) rfl ?_
        refine Go.iadd X108 hx (hb hby d3_132) rfl (q := 133) rfl ?_
        refine Go.istoreN X108 hx (hb hby d3_133) (l' := #[.val (.ref a), .val (.int n), .val (.int (p + (own_S ys n p))), .val (.int (own_S ys n p))]) rfl (q := 134) rfl ?_
        obtain ⟨u1, u2, u3⟩ := own_next ys hp0 hc107 hc109 hn
        exact J6 (p + (own_S ys n p)) (.val (.int (own_S ys n p))) _ _ X108 e108 N108 (One.val rfl) (by omega) u1 u2 (by rw [← hR, own_U_go hc107 hc109])
    · refine Go.icmpYes XJ hx (hb hby d3_114) (Jvm.Free.XT.ii_ge_t hc107) (q := 134) (by decide) (by decide) ?_
      exact J6 p (sl) _ _ XJ eJ NJ hsl (by have := own_ltn hc107; omega) hp0 hp12 (by rw [← hR, own_U_ge hc107, own_U_ge hc107])
  have J4 : ∀ (p : Int32) (sl : Slot) (TJ : State) (LJ : List Loc), Stand pp l ee ({ frames := 1, cells := 0, slots := 0, locals := 18 } : Room) ss mm #[(.ref a), (.int n)] below meth cc TJ LJ 0 0 → TJ.heap = h0 → Fr Z.heap.size LJ → One sl → n.toInt - (p).toInt ≤ 4 → ¬ (p < (0 : Int32)) → (p).toInt ≤ 12 → own_U ys n 4 p = own_U ys n 8 0 → Go pp ee below (KK ss (Q_cref Z a ka n ys h0) ({ frames := 1, cells := 0, slots := 0, locals := 18 } : Room).cells ({ frames := 1, cells := 0, slots := 0, locals := 18 } : Room).slots) (TJ.setTop (mkF mm 90 #[.val (.ref a), .val (.int n), .val (.int p), sl] [])) := by
    intro p sl TJ LJ XJ eJ NJ hsl hd hp0 hp12 hR
    refine Go.iloadN XJ hx (hb hby d3_90) rfl (q := 91) rfl ?_
    refine Go.iloadN XJ hx (hb hby d3_91) rfl (q := 92) rfl ?_
    by_cases hc110 : p < n
    · refine Go.icmpNo XJ hx (hb hby d3_92) (Jvm.Free.XT.ii_ge_f hc110) (q := 95) rfl ?_
      refine Go.aloadN XJ hx (hb hby d3_95) rfl rfl (q := 96) rfl ?_
      refine Go.iloadN XJ hx (hb hby d3_96) rfl (q := 97) rfl ?_
      refine Go.iloadN XJ hx (hb hby d3_97) rfl (q := 98) rfl ?_
      refine Go.callS XJ hx hZ hown (wd15 hw) (wd16 hw) (wd13 hw) (wd17 hw) (by decide) (crseq l Z a0 hw a (ka) n (ys) p h0 O0 Va hys hn hp0 hc110) eJ (by rw [hml]; rfl) (hb hby d3_98) (argsL := [(.ref a), (.int n), (.int p)]) (rest := []) (lenOf pd1 rfl) rfl rfl (W := 0) (by first | exact Nat.le_refl _ | decide) (by decide) (by decide) (by decide) (by decide) ?_
      intro v111 T111 L111 X111 hQ111
      obtain ⟨rfl, N111q, e111⟩ := hQ111
      have N111 := Fr.app NJ N111q
      refine Go.istoreN X111 hx (hb hby d3_101) (l' := #[.val (.ref a), .val (.int n), .val (.int p), .val (.int (own_S ys n p))]) (XS.store1 rfl hsl rfl) (q := 102) rfl ?_
      refine Go.iloadN X111 hx (hb hby d3_102) rfl (q := 103) rfl ?_
      by_cases hc112 : (own_S ys n p) = (0 : Int32)
      · refine Go.ifNo X111 hx (hb hby d3_103) (Jvm.Free.XT.i0_ne_f hc112) (q := 106) rfl ?_
        refine Go.iconst X111 hx (hb hby d3_106) (r := (0 : Int32)) rfl (q := 107) rfl ?_
        exact Go.retI X111 hx hret hlk (by simp) rfl (hb hby d3_107) e111 (by decide) (by decide) ⟨by rw [← hR, own_U_no hc110 hc112], N111, rfl⟩
      · refine Go.ifYes X111 hx (hb hby d3_103) (Jvm.Free.XT.i0_ne_t hc112) (q := 108) (by decide) (by decide) ?_
        refine Go.iloadN X111 hx (hb hby d3_108) rfl (q := 109) rfl ?_
        refine Go.iloadN X111 hx (hb hby d3_109) rfl (q := 110) rfl ?_
        refine Go.iadd X111 hx (hb hby d3_110) rfl (q := 111) rfl ?_
        refine Go.istoreN X111 hx (hb hby d3_111) (l' := #[.val (.ref a), .val (.int n), .val (.int (p + (own_S ys n p))), .val (.int (own_S ys n p))]) rfl (q := 112) rfl ?_
        obtain ⟨u1, u2, u3⟩ := own_next ys hp0 hc110 hc112 hn
        exact J5 (p + (own_S ys n p)) (.val (.int (own_S ys n p))) _ _ X111 e111 N111 (One.val rfl) (by omega) u1 u2 (by rw [← hR, own_U_go hc110 hc112])
    · refine Go.icmpYes XJ hx (hb hby d3_92) (Jvm.Free.XT.ii_ge_t hc110) (q := 112) (by decide) (by decide) ?_
      exact J5 p (sl) _ _ XJ eJ NJ hsl (by have := own_ltn hc110; omega) hp0 hp12 (by rw [← hR, own_U_ge hc110, own_U_ge hc110])
  have J3 : ∀ (p : Int32) (sl : Slot) (TJ : State) (LJ : List Loc), Stand pp l ee ({ frames := 1, cells := 0, slots := 0, locals := 18 } : Room) ss mm #[(.ref a), (.int n)] below meth cc TJ LJ 0 0 → TJ.heap = h0 → Fr Z.heap.size LJ → One sl → n.toInt - (p).toInt ≤ 5 → ¬ (p < (0 : Int32)) → (p).toInt ≤ 12 → own_U ys n 5 p = own_U ys n 8 0 → Go pp ee below (KK ss (Q_cref Z a ka n ys h0) ({ frames := 1, cells := 0, slots := 0, locals := 18 } : Room).cells ({ frames := 1, cells := 0, slots := 0, locals := 18 } : Room).slots) (TJ.setTop (mkF mm 68 #[.val (.ref a), .val (.int n), .val (.int p), sl] [])) := by
    intro p sl TJ LJ XJ eJ NJ hsl hd hp0 hp12 hR
    refine Go.iloadN XJ hx (hb hby d3_68) rfl (q := 69) rfl ?_
    refine Go.iloadN XJ hx (hb hby d3_69) rfl (q := 70) rfl ?_
    by_cases hc113 : p < n
    · refine Go.icmpNo XJ hx (hb hby d3_70) (Jvm.Free.XT.ii_ge_f hc113) (q := 73) rfl ?_
      refine Go.aloadN XJ hx (hb hby d3_73) rfl rfl (q := 74) rfl ?_
      refine Go.iloadN XJ hx (hb hby d3_74) rfl (q := 75) rfl ?_
      refine Go.iloadN XJ hx (hb hby d3_75) rfl (q := 76) rfl ?_
      refine Go.callS XJ hx hZ hown (wd15 hw) (wd16 hw) (wd13 hw) (wd17 hw) (by decide) (crseq l Z a0 hw a (ka) n (ys) p h0 O0 Va hys hn hp0 hc113) eJ (by rw [hml]; rfl) (hb hby d3_76) (argsL := [(.ref a), (.int n), (.int p)]) (rest := []) (lenOf pd1 rfl) rfl rfl (W := 0) (by first | exact Nat.le_refl _ | decide) (by decide) (by decide) (by decide) (by decide) ?_
      intro v114 T114 L114 X114 hQ114
      obtain ⟨rfl, N114q, e114⟩ := hQ114
      have N114 := Fr.app NJ N114q
      refine Go.istoreN X114 hx (hb hby d3_79) (l' := #[.val (.ref a), .val (.int n), .val (.int p), .val (.int (own_S ys n p))]) (XS.store1 rfl hsl rfl) (q := 80) rfl ?_
      refine Go.iloadN X114 hx (hb hby d3_80) rfl (q := 81) rfl ?_
      by_cases hc115 : (own_S ys n p) = (0 : Int32)
      · refine Go.ifNo X114 hx (hb hby d3_81) (Jvm.Free.XT.i0_ne_f hc115) (q := 84) rfl ?_
        refine Go.iconst X114 hx (hb hby d3_84) (r := (0 : Int32)) rfl (q := 85) rfl ?_
        exact Go.retI X114 hx hret hlk (by simp) rfl (hb hby d3_85) e114 (by decide) (by decide) ⟨by rw [← hR, own_U_no hc113 hc115], N114, rfl⟩
      · refine Go.ifYes X114 hx (hb hby d3_81) (Jvm.Free.XT.i0_ne_t hc115) (q := 86) (by decide) (by decide) ?_
        refine Go.iloadN X114 hx (hb hby d3_86) rfl (q := 87) rfl ?_
        refine Go.iloadN X114 hx (hb hby d3_87) rfl (q := 88) rfl ?_
        refine Go.iadd X114 hx (hb hby d3_88) rfl (q := 89) rfl ?_
        refine Go.istoreN X114 hx (hb hby d3_89) (l' := #[.val (.ref a), .val (.int n), .val (.int (p + (own_S ys n p))), .val (.int (own_S ys n p))]) rfl (q := 90) rfl ?_
        obtain ⟨u1, u2, u3⟩ := own_next ys hp0 hc113 hc115 hn
        exact J4 (p + (own_S ys n p)) (.val (.int (own_S ys n p))) _ _ X114 e114 N114 (One.val rfl) (by omega) u1 u2 (by rw [← hR, own_U_go hc113 hc115])
    · refine Go.icmpYes XJ hx (hb hby d3_70) (Jvm.Free.XT.ii_ge_t hc113) (q := 90) (by decide) (by decide) ?_
      exact J4 p (sl) _ _ XJ eJ NJ hsl (by have := own_ltn hc113; omega) hp0 hp12 (by rw [← hR, own_U_ge hc113, own_U_ge hc113])
  have J2 : ∀ (p : Int32) (sl : Slot) (TJ : State) (LJ : List Loc), Stand pp l ee ({ frames := 1, cells := 0, slots := 0, locals := 18 } : Room) ss mm #[(.ref a), (.int n)] below meth cc TJ LJ 0 0 → TJ.heap = h0 → Fr Z.heap.size LJ → One sl → n.toInt - (p).toInt ≤ 6 → ¬ (p < (0 : Int32)) → (p).toInt ≤ 12 → own_U ys n 6 p = own_U ys n 8 0 → Go pp ee below (KK ss (Q_cref Z a ka n ys h0) ({ frames := 1, cells := 0, slots := 0, locals := 18 } : Room).cells ({ frames := 1, cells := 0, slots := 0, locals := 18 } : Room).slots) (TJ.setTop (mkF mm 46 #[.val (.ref a), .val (.int n), .val (.int p), sl] [])) := by
    intro p sl TJ LJ XJ eJ NJ hsl hd hp0 hp12 hR
    refine Go.iloadN XJ hx (hb hby d3_46) rfl (q := 47) rfl ?_
    refine Go.iloadN XJ hx (hb hby d3_47) rfl (q := 48) rfl ?_
    by_cases hc116 : p < n
    · refine Go.icmpNo XJ hx (hb hby d3_48) (Jvm.Free.XT.ii_ge_f hc116) (q := 51) rfl ?_
      refine Go.aloadN XJ hx (hb hby d3_51) rfl rfl (q := 52) rfl ?_
      refine Go.iloadN XJ hx (hb hby d3_52) rfl (q := 53) rfl ?_
      refine Go.iloadN XJ hx (hb hby d3_53) rfl (q := 54) rfl ?_
      refine Go.callS XJ hx hZ hown (wd15 hw) (wd16 hw) (wd13 hw) (wd17 hw) (by decide) (crseq l Z a0 hw a (ka) n (ys) p h0 O0 Va hys hn hp0 hc116) eJ (by rw [hml]; rfl) (hb hby d3_54) (argsL := [(.ref a), (.int n), (.int p)]) (rest := []) (lenOf pd1 rfl) rfl rfl (W := 0) (by first | exact Nat.le_refl _ | decide) (by decide) (by decide) (by decide) (by decide) ?_
      intro v117 T117 L117 X117 hQ117
      obtain ⟨rfl, N117q, e117⟩ := hQ117
      have N117 := Fr.app NJ N117q
      refine Go.istoreN X117 hx (hb hby d3_57) (l' := #[.val (.ref a), .val (.int n), .val (.int p), .val (.int (own_S ys n p))]) (XS.store1 rfl hsl rfl) (q := 58) rfl ?_
      refine Go.iloadN X117 hx (hb hby d3_58) rfl (q := 59) rfl ?_
      by_cases hc118 : (own_S ys n p) = (0 : Int32)
      · refine Go.ifNo X117 hx (hb hby d3_59) (Jvm.Free.XT.i0_ne_f hc118) (q := 62) rfl ?_
        refine Go.iconst X117 hx (hb hby d3_62) (r := (0 : Int32)) rfl (q := 63) rfl ?_
        exact Go.retI X117 hx hret hlk (by simp) rfl (hb hby d3_63) e117 (by decide) (by decide) ⟨by rw [← hR, own_U_no hc116 hc118], N117, rfl⟩
      · refine Go.ifYes X117 hx (hb hby d3_59) (Jvm.Free.XT.i0_ne_t hc118) (q := 64) (by decide) (by decide) ?_
        refine Go.iloadN X117 hx (hb hby d3_64) rfl (q := 65) rfl ?_
        refine Go.iloadN X117 hx (hb hby d3_65) rfl (q := 66) rfl ?_
        refine Go.iadd X117 hx (hb hby d3_66) rfl (q := 67) rfl ?_
        refine Go.istoreN X117 hx (hb hby d3_67) (l' := #[.val (.ref a), .val (.int n), .val (.int (p + (own_S ys n p))), .val (.int (own_S ys n p))]) rfl (q := 68) rfl ?_
        obtain ⟨u1, u2, u3⟩ := own_next ys hp0 hc116 hc118 hn
        exact J3 (p + (own_S ys n p)) (.val (.int (own_S ys n p))) _ _ X117 e117 N117 (One.val rfl) (by omega) u1 u2 (by rw [← hR, own_U_go hc116 hc118])
    · refine Go.icmpYes XJ hx (hb hby d3_48) (Jvm.Free.XT.ii_ge_t hc116) (q := 68) (by decide) (by decide) ?_
      exact J3 p (sl) _ _ XJ eJ NJ hsl (by have := own_ltn hc116; omega) hp0 hp12 (by rw [← hR, own_U_ge hc116, own_U_ge hc116])
  have J1 : ∀ (p : Int32) (sl : Slot) (TJ : State) (LJ : List Loc), Stand pp l ee ({ frames := 1, cells := 0, slots := 0, locals := 18 } : Room) ss mm #[(.ref a), (.int n)] below meth cc TJ LJ 0 0 → TJ.heap = h0 → Fr Z.heap.size LJ → One sl → n.toInt - (p).toInt ≤ 7 → ¬ (p < (0 : Int32)) → (p).toInt ≤ 12 → own_U ys n 7 p = own_U ys n 8 0 → Go pp ee below (KK ss (Q_cref Z a ka n ys h0) ({ frames := 1, cells := 0, slots := 0, locals := 18 } : Room).cells ({ frames := 1, cells := 0, slots := 0, locals := 18 } : Room).slots) (TJ.setTop (mkF mm 24 #[.val (.ref a), .val (.int n), .val (.int p), sl] [])) := by
    intro p sl TJ LJ XJ eJ NJ hsl hd hp0 hp12 hR
    refine Go.iloadN XJ hx (hb hby d3_24) rfl (q := 25) rfl ?_
    refine Go.iloadN XJ hx (hb hby d3_25) rfl (q := 26) rfl ?_
    by_cases hc119 : p < n
    · refine Go.icmpNo XJ hx (hb hby d3_26) (Jvm.Free.XT.ii_ge_f hc119) (q := 29) rfl ?_
      refine Go.aloadN XJ hx (hb hby d3_29) rfl rfl (q := 30) rfl ?_
      refine Go.iloadN XJ hx (hb hby d3_30) rfl (q := 31) rfl ?_
      refine Go.iloadN XJ hx (hb hby d3_31) rfl (q := 32) rfl ?_
      refine Go.callS XJ hx hZ hown (wd15 hw) (wd16 hw) (wd13 hw) (wd17 hw) (by decide) (crseq l Z a0 hw a (ka) n (ys) p h0 O0 Va hys hn hp0 hc119) eJ (by rw [hml]; rfl) (hb hby d3_32) (argsL := [(.ref a), (.int n), (.int p)]) (rest := []) (lenOf pd1 rfl) rfl rfl (W := 0) (by first | exact Nat.le_refl _ | decide) (by decide) (by decide) (by decide) (by decide) ?_
      intro v120 T120 L120 X120 hQ120
      obtain ⟨rfl, N120q, e120⟩ := hQ120
      have N120 := Fr.app NJ N120q
      refine Go.istoreN X120 hx (hb hby d3_35) (l' := #[.val (.ref a), .val (.int n), .val (.int p), .val (.int (own_S ys n p))]) (XS.store1 rfl hsl rfl) (q := 36) rfl ?_
      refine Go.iloadN X120 hx (hb hby d3_36) rfl (q := 37) rfl ?_
      by_cases hc121 : (own_S ys n p) = (0 : Int32)
      · refine Go.ifNo X120 hx (hb hby d3_37) (Jvm.Free.XT.i0_ne_f hc121) (q := 40) rfl ?_
        refine Go.iconst X120 hx (hb hby d3_40) (r := (0 : Int32)) rfl (q := 41) rfl ?_
        exact Go.retI X120 hx hret hlk (by simp) rfl (hb hby d3_41) e120 (by decide) (by decide) ⟨by rw [← hR, own_U_no hc119 hc121], N120, rfl⟩
      · refine Go.ifYes X120 hx (hb hby d3_37) (Jvm.Free.XT.i0_ne_t hc121) (q := 42) (by decide) (by decide) ?_
        refine Go.iloadN X120 hx (hb hby d3_42) rfl (q := 43) rfl ?_
        refine Go.iloadN X120 hx (hb hby d3_43) rfl (q := 44) rfl ?_
        refine Go.iadd X120 hx (hb hby d3_44) rfl (q := 45) rfl ?_
        refine Go.istoreN X120 hx (hb hby d3_45) (l' := #[.val (.ref a), .val (.int n), .val (.int (p + (own_S ys n p))), .val (.int (own_S ys n p))]) rfl (q := 46) rfl ?_
        obtain ⟨u1, u2, u3⟩ := own_next ys hp0 hc119 hc121 hn
        exact J2 (p + (own_S ys n p)) (.val (.int (own_S ys n p))) _ _ X120 e120 N120 (One.val rfl) (by omega) u1 u2 (by rw [← hR, own_U_go hc119 hc121])
    · refine Go.icmpYes XJ hx (hb hby d3_26) (Jvm.Free.XT.ii_ge_t hc119) (q := 46) (by decide) (by decide) ?_
      exact J2 p (sl) _ _ XJ eJ NJ hsl (by have := own_ltn hc119; omega) hp0 hp12 (by rw [← hR, own_U_ge hc119, own_U_ge hc119])
  have J0 : ∀ (p : Int32) (sl : Slot) (TJ : State) (LJ : List Loc), Stand pp l ee ({ frames := 1, cells := 0, slots := 0, locals := 18 } : Room) ss mm #[(.ref a), (.int n)] below meth cc TJ LJ 0 0 → TJ.heap = h0 → Fr Z.heap.size LJ → One sl → n.toInt - (p).toInt ≤ 8 → ¬ (p < (0 : Int32)) → (p).toInt ≤ 12 → own_U ys n 8 p = own_U ys n 8 0 → Go pp ee below (KK ss (Q_cref Z a ka n ys h0) ({ frames := 1, cells := 0, slots := 0, locals := 18 } : Room).cells ({ frames := 1, cells := 0, slots := 0, locals := 18 } : Room).slots) (TJ.setTop (mkF mm 2 #[.val (.ref a), .val (.int n), .val (.int p), sl] [])) := by
    intro p sl TJ LJ XJ eJ NJ hsl hd hp0 hp12 hR
    refine Go.iloadN XJ hx (hb hby d3_2) rfl (q := 3) rfl ?_
    refine Go.iloadN XJ hx (hb hby d3_3) rfl (q := 4) rfl ?_
    by_cases hc122 : p < n
    · refine Go.icmpNo XJ hx (hb hby d3_4) (Jvm.Free.XT.ii_ge_f hc122) (q := 7) rfl ?_
      refine Go.aloadN XJ hx (hb hby d3_7) rfl rfl (q := 8) rfl ?_
      refine Go.iloadN XJ hx (hb hby d3_8) rfl (q := 9) rfl ?_
      refine Go.iloadN XJ hx (hb hby d3_9) rfl (q := 10) rfl ?_
      refine Go.callS XJ hx hZ hown (wd15 hw) (wd16 hw) (wd13 hw) (wd17 hw) (by decide) (crseq l Z a0 hw a (ka) n (ys) p h0 O0 Va hys hn hp0 hc122) eJ (by rw [hml]; rfl) (hb hby d3_10) (argsL := [(.ref a), (.int n), (.int p)]) (rest := []) (lenOf pd1 rfl) rfl rfl (W := 0) (by first | exact Nat.le_refl _ | decide) (by decide) (by decide) (by decide) (by decide) ?_
      intro v123 T123 L123 X123 hQ123
      obtain ⟨rfl, N123q, e123⟩ := hQ123
      have N123 := Fr.app NJ N123q
      refine Go.istoreN X123 hx (hb hby d3_13) (l' := #[.val (.ref a), .val (.int n), .val (.int p), .val (.int (own_S ys n p))]) (XS.store1 rfl hsl rfl) (q := 14) rfl ?_
      refine Go.iloadN X123 hx (hb hby d3_14) rfl (q := 15) rfl ?_
      by_cases hc124 : (own_S ys n p) = (0 : Int32)
      · refine Go.ifNo X123 hx (hb hby d3_15) (Jvm.Free.XT.i0_ne_f hc124) (q := 18) rfl ?_
        refine Go.iconst X123 hx (hb hby d3_18) (r := (0 : Int32)) rfl (q := 19) rfl ?_
        exact Go.retI X123 hx hret hlk (by simp) rfl (hb hby d3_19) e123 (by decide) (by decide) ⟨by rw [← hR, own_U_no hc122 hc124], N123, rfl⟩
      · refine Go.ifYes X123 hx (hb hby d3_15) (Jvm.Free.XT.i0_ne_t hc124) (q := 20) (by decide) (by decide) ?_
        refine Go.iloadN X123 hx (hb hby d3_20) rfl (q := 21) rfl ?_
        refine Go.iloadN X123 hx (hb hby d3_21) rfl (q := 22) rfl ?_
        refine Go.iadd X123 hx (hb hby d3_22) rfl (q := 23) rfl ?_
        refine Go.istoreN X123 hx (hb hby d3_23) (l' := #[.val (.ref a), .val (.int n), .val (.int (p + (own_S ys n p))), .val (.int (own_S ys n p))]) rfl (q := 24) rfl ?_
        obtain ⟨u1, u2, u3⟩ := own_next ys hp0 hc122 hc124 hn
        exact J1 (p + (own_S ys n p)) (.val (.int (own_S ys n p))) _ _ X123 e123 N123 (One.val rfl) (by omega) u1 u2 (by rw [← hR, own_U_go hc122 hc124])
    · refine Go.icmpYes XJ hx (hb hby d3_4) (Jvm.Free.XT.ii_ge_t hc122) (q := 24) (by decide) (by decide) ?_
      exact J1 p (sl) _ _ XJ eJ NJ hsl (by have := own_ltn hc122; omega) hp0 hp12 (by rw [← hR, own_U_ge hc122, own_U_ge hc122])
  exact J0 0 .unset _ _ X0 e0 N0 One.u (by have k0 : (0 : Int32).toInt = 0 := rfl; omega) (by decide) (by decide) rfl
def Q_law0 (Z : State) (px : Int64) (pm : Int32) (h0 : Heap) (vR : Option Value) (hR : Heap) (LR : List Loc) : Prop := vR = some (.int (1 : Int32)) ∧ Fr Z.heap.size LR
set_option maxRecDepth 65536 in
set_option maxHeartbeats 40000000 in
theorem law0 (l : Launch) (Z : State) (a0 : Array Value) (hw : ∀ d ∈ tables_1, d.before a0 Z = true) (px : Int64) (pm : Int32) (h0 : Heap) (O0 : Ext Z.heap h0) :
    Ctr l Z h0 x code maxLocals ret tables_1 room_1 #[(.long px), (.int pm)] (Q_law0 Z px pm h0) := by
  refine enter (plainFor_of_name pn1) ?_
  intro pp ee ss mm below meth cc s₁ hx hby hml hZ hown hnm hret hlk X0 e0 hs0
  replace hown : ss.vm.findClass "com/example/depositum/depositum/report/PrintableTextIsUtf8PinLaw" = some mm.cls := hown
  refine Go.cast (congrArg s₁.setTop (ef_law0 mm px pm)) ?_
  have N0 := Fr.nil Z.heap.size
  show Go pp ee below _ (s₁.setTop (mkF mm 0 #[.val (.long px), .second, .val (.int pm), .unset, .unset, .unset] []))
  refine Go.iloadN X0 hx (hb hby at_0) rfl (q := 1) rfl ?_
  refine Go.ldcI X0 hx hZ hown (wd0 hw) (hb hby at_1) (q := 3) rfl ?_
  refine Go.iand X0 hx (hb hby at_3) rfl (q := 4) rfl ?_
  refine Go.bipush X0 hx (hb hby at_4) (r := (9 : Int32)) rfl (q := 6) rfl ?_
  refine Go.irem X0 hx (hb hby at_6) (by decide) rfl (q := 7) rfl ?_
  have hk := own_rem9 pm
  generalize ((pm &&& (2147483647 : Int32)) % (9 : Int32)) = k at hk ⊢
  rcases hk with rfl | rfl | rfl | rfl | rfl | rfl | rfl | rfl | rfl
  · show Go pp ee below _ (s₁.setTop (mkF mm 7 #[.val (.long px), .second, .val (.int pm), .unset, .unset, .unset] [(.int (0 : Int32))]))
    refine Go.istoreN X0 hx (hb hby at_7) (l' := #[.val (.long px), .second, .val (.int pm), .val (.int (0 : Int32)), .unset, .unset]) rfl (q := 8) rfl ?_
    refine Go.bipush X0 hx (hb hby at_8) (r := (8 : Int32)) rfl (q := 10) rfl ?_
    refine Go.newP X0 hx hZ (hb hby at_10) (wd1 hw) e0 (by decide) (cap := 8) (by decide) (by decide) (by decide) (by decide) (ad := "[I") rfl (q := 12) rfl ?_
    intro b101 T101 h101 k101 X101 e101 q101 E101 V101 B101
    have g_b101 : Z.heap.size ≤ b101 := Nat.le_trans O0.1 (Nat.le_of_eq q101)
    have OE101 := ext_trans O0 E101
    replace V101 : Arv Z h101 b101 k101 .int (8 : Int32) [(.int (0 : Int32)), (.int (0 : Int32)), (.int (0 : Int32)), (.int (0 : Int32)), (.int (0 : Int32)), (.int (0 : Int32)), (.int (0 : Int32)), (.int (0 : Int32))] (.int (0 : Int32)) := V101.pad (pad_rep [] (.int (0 : Int32)) 8)
    refine Go.astore X101 hx (hb hby at_12) rfl (l' := #[.val (.long px), .second, .val (.int pm), .val (.int (0 : Int32)), .val (.ref b101), .unset]) rfl (q := 14) rfl ?_
    refine Go.aload X101 hx (hb hby at_14) rfl rfl (q := 16) rfl ?_
    refine Go.iconst X101 hx (hb hby at_16) (r := (0 : Int32)) rfl (q := 17) rfl ?_
    refine Go.lloadN X101 hx (hb hby at_17) rfl (q := 18) rfl ?_
    refine Go.ldc2 X101 hx hZ hown (wd2 hw) (hb hby at_18) (q := 21) rfl ?_
    refine Go.land X101 hx (hb hby at_21) rfl (q := 22) rfl ?_
    refine Go.l2i X101 hx (hb hby at_22) rfl (q := 23) rfl ?_
    have bY0 := own_l255 px
    generalize ((px &&& (255 : Int64)).toInt32) = Y0 at bY0 ⊢
    show Go pp ee below _ (T101.setTop (mkF mm 23 #[.val (.long px), .second, .val (.int pm), .val (.int (0 : Int32)), .val (.ref b101), .unset] [(.int Y0), (.int (0 : Int32)), (.ref b101)]))
    refine Go.ist X101 hx hZ e101 V101 ⟨by decide, by decide⟩ (i := 0) rfl (Nat.le_of_ble_eq_true rfl) (hb hby at_23) ?_
    intro T102 h102 X102 e102 W102 V102
    replace V102 : Arv Z h102 b101 k101 .int (8 : Int32) [(.int Y0), (.int (0 : Int32)), (.int (0 : Int32)), (.int (0 : Int32)), (.int (0 : Int32)), (.int (0 : Int32)), (.int (0 : Int32)), (.int (0 : Int32))] (.int (0 : Int32)) := V102
    have N102 := Fr.snoc X102 N0 g_b101
    replace B101 := B101.wr W102
    have OW102 := ext_wr OE101 W102 g_b101
    refine Go.aload X102 hx (hb hby at_24) rfl rfl (q := 26) rfl ?_
    refine Go.iconst X102 hx (hb hby at_26) (r := (1 : Int32)) rfl (q := 27) rfl ?_
    refine Go.lloadN X102 hx (hb hby at_27) rfl (q := 28) rfl ?_
    refine Go.bipush X102 hx (hb hby at_28) (r := (8 : Int32)) rfl (q := 30) rfl ?_
    refine Go.lushr X102 hx (hb hby at_30) rfl (q := 31) rfl ?_
    refine Go.ldc2 X102 hx hZ hown (wd2 hw) (hb hby at_31) (q := 34) rfl ?_
    refine Go.land X102 hx (hb hby at_34) rfl (q := 35) rfl ?_
    refine Go.l2i X102 hx (hb hby at_35) rfl (q := 36) rfl ?_
    have bY1 := own_l255 ((px.toUInt64 >>> ((8 : Int32) &&& 0x3f).toInt64.toUInt64).toInt64)
    generalize ((((px.toUInt64 >>> ((8 : Int32) &&& 0x3f).toInt64.toUInt64).toInt64) &&& (255 : Int64)).toInt32) = Y1 at bY1 ⊢
    show Go pp ee below _ (T102.setTop (mkF mm 36 #[.val (.long px), .second, .val (.int pm), .val (.int (0 : Int32)), .val (.ref b101), .unset] [(.int Y1), (.int (1 : Int32)), (.ref b101)]))
    refine Go.ist X102 hx hZ e102 V102 ⟨by decide, by decide⟩ (i := 1) rfl (Nat.le_of_ble_eq_true rfl) (hb hby at_36) ?_
    intro T103 h103 X103 e103 W103 V103
    replace V103 : Arv Z h103 b101 k101 .int (8 : Int32) [(.int Y0), (.int Y1), (.int (0 : Int32)), (.int (0 : Int32)), (.int (0 : Int32)), (.int (0 : Int32)), (.int (0 : Int32)), (.int (0 : Int32))] (.int (0 : Int32)) := V103
    have N103 := Fr.snoc X103 N102 g_b101
    replace B101 := B101.wr W103
    have OW103 := ext_wr OW102 W103 g_b101
    refine Go.aload X103 hx (hb hby at_37) rfl rfl (q := 39) rfl ?_
    refine Go.iconst X103 hx (hb hby at_39) (r := (2 : Int32)) rfl (q := 40) rfl ?_
    refine Go.lloadN X103 hx (hb hby at_40) rfl (q := 41) rfl ?_
    refine Go.bipush X103 hx (hb hby at_41) (r := (16 : Int32)) rfl (q := 43) rfl ?_
    refine Go.lushr X103 hx (hb hby at_43) rfl (q := 44) rfl ?_
    refine Go.ldc2 X103 hx hZ hown (wd2 hw) (hb hby at_44) (q := 47) rfl ?_
    refine Go.land X103 hx (hb hby at_47) rfl (q := 48) rfl ?_
    refine Go.l2i X103 hx (hb hby at_48) rfl (q := 49) rfl ?_
    have bY2 := own_l255 ((px.toUInt64 >>> ((16 : Int32) &&& 0x3f).toInt64.toUInt64).toInt64)
    generalize ((((px.toUInt64 >>> ((16 : Int32) &&& 0x3f).toInt64.toUInt64).toInt64) &&& (255 : Int64)).toInt32) = Y2 at bY2 ⊢
    show Go pp ee below _ (T103.setTop (mkF mm 49 #[.val (.long px), .second, .val (.int pm), .val (.int (0 : Int32)), .val (.ref b101), .unset] [(.int Y2), (.int (2 : Int32)), (.ref b101)]))
    refine Go.ist X103 hx hZ e103 V103 ⟨by decide, by decide⟩ (i := 2) rfl (Nat.le_of_ble_eq_true rfl) (hb hby at_49) ?_
    intro T104 h104 X104 e104 W104 V104
    replace V104 : Arv Z h104 b101 k101 .int (8 : Int32) [(.int Y0), (.int Y1), (.int Y2), (.int (0 : Int32)), (.int (0 : Int32)), (.int (0 : Int32)), (.int (0 : Int32)), (.int (0 : Int32))] (.int (0 : Int32)) := V104
    have N104 := Fr.snoc X104 N103 g_b101
    replace B101 := B101.wr W104
    have OW104 := ext_wr OW103 W104 g_b101
    refine Go.aload X104 hx (hb hby at_50) rfl rfl (q := 52) rfl ?_
    refine Go.iconst X104 hx (hb hby at_52) (r := (3 : Int32)) rfl (q := 53) rfl ?_
    refine Go.lloadN X104 hx (hb hby at_53) rfl (q := 54) rfl ?_
    refine Go.bipush X104 hx (hb hby at_54) (r := (24 : Int32)) rfl (q := 56) rfl ?_
    refine Go.lushr X104 hx (hb hby at_56) rfl (q := 57) rfl ?_
    refine Go.ldc2 X104 hx hZ hown (wd2 hw) (hb hby at_57) (q := 60) rfl ?_
    refine Go.land X104 hx (hb hby at_60) rfl (q := 61) rfl ?_
    refine Go.l2i X104 hx (hb hby at_61) rfl (q := 62) rfl ?_
    have bY3 := own_l255 ((px.toUInt64 >>> ((24 : Int32) &&& 0x3f).toInt64.toUInt64).toInt64)
    generalize ((((px.toUInt64 >>> ((24 : Int32) &&& 0x3f).toInt64.toUInt64).toInt64) &&& (255 : Int64)).toInt32) = Y3 at bY3 ⊢
    show Go pp ee below _ (T104.setTop (mkF mm 62 #[.val (.long px), .second, .val (.int pm), .val (.int (0 : Int32)), .val (.ref b101), .unset] [(.int Y3), (.int (3 : Int32)), (.ref b101)]))
    refine Go.ist X104 hx hZ e104 V104 ⟨by decide, by decide⟩ (i := 3) rfl (Nat.le_of_ble_eq_true rfl) (hb hby at_62) ?_
    intro T105 h105 X105 e105 W105 V105
    replace V105 : Arv Z h105 b101 k101 .int (8 : Int32) [(.int Y0), (.int Y1), (.int Y2), (.int Y3), (.int (0 : Int32)), (.int (0 : Int32)), (.int (0 : Int32)), (.int (0 : Int32))] (.int (0 : Int32)) := V105
    have N105 := Fr.snoc X105 N104 g_b101
    replace B101 := B101.wr W105
    have OW105 := ext_wr OW104 W105 g_b101
    refine Go.aload X105 hx (hb hby at_63) rfl rfl (q := 65) rfl ?_
    refine Go.iconst X105 hx (hb hby at_65) (r := (4 : Int32)) rfl (q := 66) rfl ?_
    refine Go.lloadN X105 hx (hb hby at_66) rfl (q := 67) rfl ?_
    refine Go.bipush X105 hx (hb hby at_67) (r := (32 : Int32)) rfl (q := 69) rfl ?_
    refine Go.lushr X105 hx (hb hby at_69) rfl (q := 70) rfl ?_
    refine Go.ldc2 X105 hx hZ hown (wd2 hw) (hb hby at_70) (q := 73) rfl ?_
    refine Go.land X105 hx (hb hby at_73) rfl (q := 74) rfl ?_
    refine Go.l2i X105 hx (hb hby at_74) rfl (q := 75) rfl ?_
    have bY4 := own_l255 ((px.toUInt64 >>> ((32 : Int32) &&& 0x3f).toInt64.toUInt64).toInt64)
    generalize ((((px.toUInt64 >>> ((32 : Int32) &&& 0x3f).toInt64.toUInt64).toInt64) &&& (255 : Int64)).toInt32) = Y4 at bY4 ⊢
    show Go pp ee below _ (T105.setTop (mkF mm 75 #[.val (.long px), .second, .val (.int pm), .val (.int (0 : Int32)), .val (.ref b101), .unset] [(.int Y4), (.int (4 : Int32)), (.ref b101)]))
    refine Go.ist X105 hx hZ e105 V105 ⟨by decide, by decide⟩ (i := 4) rfl (Nat.le_of_ble_eq_true rfl) (hb hby at_75) ?_
    intro T106 h106 X106 e106 W106 V106
    replace V106 : Arv Z h106 b101 k101 .int (8 : Int32) [(.int Y0), (.int Y1), (.int Y2), (.int Y3), (.int Y4), (.int (0 : Int32)), (.int (0 : Int32)), (.int (0 : Int32))] (.int (0 : Int32)) := V106
    have N106 := Fr.snoc X106 N105 g_b101
    replace B101 := B101.wr W106
    have OW106 := ext_wr OW105 W106 g_b101
    refine Go.aload X106 hx (hb hby at_76) rfl rfl (q := 78) rfl ?_
    refine Go.iconst X106 hx (hb hby at_78) (r := (5 : Int32)) rfl (q := 79) rfl ?_
    refine Go.lloadN X106 hx (hb hby at_79) rfl (q := 80) rfl ?_
    refine Go.bipush X106 hx (hb hby at_80) (r := (40 : Int32)) rfl (q := 82) rfl ?_
    refine Go.lushr X106 hx (hb hby at_82) rfl (q := 83) rfl ?_
    refine Go.ldc2 X106 hx hZ hown (wd2 hw) (hb hby at_83) (q := 86) rfl ?_
    refine Go.land X106 hx (hb hby at_86) rfl (q := 87) rfl ?_
    refine Go.l2i X106 hx (hb hby at_87) rfl (q := 88) rfl ?_
    have bY5 := own_l255 ((px.toUInt64 >>> ((40 : Int32) &&& 0x3f).toInt64.toUInt64).toInt64)
    generalize ((((px.toUInt64 >>> ((40 : Int32) &&& 0x3f).toInt64.toUInt64).toInt64) &&& (255 : Int64)).toInt32) = Y5 at bY5 ⊢
    show Go pp ee below _ (T106.setTop (mkF mm 88 #[.val (.long px), .second, .val (.int pm), .val (.int (0 : Int32)), .val (.ref b101), .unset] [(.int Y5), (.int (5 : Int32)), (.ref b101)]))
    refine Go.ist X106 hx hZ e106 V106 ⟨by decide, by decide⟩ (i := 5) rfl (Nat.le_of_ble_eq_true rfl) (hb hby at_88) ?_
    intro T107 h107 X107 e107 W107 V107
    replace V107 : Arv Z h107 b101 k101 .int (8 : Int32) [(.int Y0), (.int Y1), (.int Y2), (.int Y3), (.int Y4), (.int Y5), (.int (0 : Int32)), (.int (0 : Int32))] (.int (0 : Int32)) := V107
    have N107 := Fr.snoc X107 N106 g_b101
    replace B101 := B101.wr W107
    have OW107 := ext_wr OW106 W107 g_b101
    refine Go.aload X107 hx (hb hby at_89) rfl rfl (q := 91) rfl ?_
    refine Go.bipush X107 hx (hb hby at_91) (r := (6 : Int32)) rfl (q := 93) rfl ?_
    refine Go.lloadN X107 hx (hb hby at_93) rfl (q := 94) rfl ?_
    refine Go.bipush X107 hx (hb hby at_94) (r := (48 : Int32)) rfl (q := 96) rfl ?_
    refine Go.lushr X107 hx (hb hby at_96) rfl (q := 97) rfl ?_
    refine Go.ldc2 X107 hx hZ hown (wd2 hw) (hb hby at_97) (q := 100) rfl ?_
    refine Go.land X107 hx (hb hby at_100) rfl (q := 101) rfl ?_
    refine Go.l2i X107 hx (hb hby at_101) rfl (q := 102) rfl ?_
    have bY6 := own_l255 ((px.toUInt64 >>> ((48 : Int32) &&& 0x3f).toInt64.toUInt64).toInt64)
    generalize ((((px.toUInt64 >>> ((48 : Int32) &&& 0x3f).toInt64.toUInt64).toInt64) &&& (255 : Int64)).toInt32) = Y6 at bY6 ⊢
    show Go pp ee below _ (T107.setTop (mkF mm 102 #[.val (.long px), .second, .val (.int pm), .val (.int (0 : Int32)), .val (.ref b101), .unset] [(.int Y6), (.int (6 : Int32)), (.ref b101)]))
    refine Go.ist X107 hx hZ e107 V107 ⟨by decide, by decide⟩ (i := 6) rfl (Nat.le_of_ble_eq_true rfl) (hb hby at_102) ?_
    intro T108 h108 X108 e108 W108 V108
    replace V108 : Arv Z h108 b101 k101 .int (8 : Int32) [(.int Y0), (.int Y1), (.int Y2), (.int Y3), (.int Y4), (.int Y5), (.int Y6), (.int (0 : Int32))] (.int (0 : Int32)) := V108
    have N108 := Fr.snoc X108 N107 g_b101
    replace B101 := B101.wr W108
    have OW108 := ext_wr OW107 W108 g_b101
    refine Go.aload X108 hx (hb hby at_103) rfl rfl (q := 105) rfl ?_
    refine Go.bipush X108 hx (hb hby at_105) (r := (7 : Int32)) rfl (q := 107) rfl ?_
    refine Go.lloadN X108 hx (hb hby at_107) rfl (q := 108) rfl ?_
    refine Go.bipush X108 hx (hb hby at_108) (r := (56 : Int32)) rfl (q := 110) rfl ?_
    refine Go.lushr X108 hx (hb hby at_110) rfl (q := 111) rfl ?_
    refine Go.ldc2 X108 hx hZ hown (wd2 hw) (hb hby at_111) (q := 114) rfl ?_
    refine Go.land X108 hx (hb hby at_114) rfl (q := 115) rfl ?_
    refine Go.l2i X108 hx (hb hby at_115) rfl (q := 116) rfl ?_
    have bY7 := own_l255 ((px.toUInt64 >>> ((56 : Int32) &&& 0x3f).toInt64.toUInt64).toInt64)
    generalize ((((px.toUInt64 >>> ((56 : Int32) &&& 0x3f).toInt64.toUInt64).toInt64) &&& (255 : Int64)).toInt32) = Y7 at bY7 ⊢
    show Go pp ee below _ (T108.setTop (mkF mm 116 #[.val (.long px), .second, .val (.int pm), .val (.int (0 : Int32)), .val (.ref b101), .unset] [(.int Y7), (.int (7 : Int32)), (.ref b101)]))
    refine Go.ist X108 hx hZ e108 V108 ⟨by decide, by decide⟩ (i := 7) rfl (Nat.le_of_ble_eq_true rfl) (hb hby at_116) ?_
    intro T109 h109 X109 e109 W109 V109
    replace V109 : Arv Z h109 b101 k101 .int (8 : Int32) [(.int Y0), (.int Y1), (.int Y2), (.int Y3), (.int Y4), (.int Y5), (.int Y6), (.int Y7)] (.int (0 : Int32)) := V109
    have N109 := Fr.snoc X109 N108 g_b101
    replace B101 := B101.wr W109
    have OW109 := ext_wr OW108 W109 g_b101
    refine Go.iloadN X109 hx (hb hby at_117) rfl (q := 118) rfl ?_
    refine Go.newP X109 hx hZ (hb hby at_118) (wd3 hw) e109 (by decide) (cap := 0) (by decide) (by decide) (by decide) (by decide) (ad := "[B") rfl (q := 120) rfl ?_
    intro b110 T110 h110 k110 X110 e110 q110 E110 V110 B110
    have ne_b101_b110 : b101 ≠ b110 := ne_new B101.lt (Nat.le_of_eq q110)
    have g_b110 : Z.heap.size ≤ b110 := Nat.le_trans OW109.1 (Nat.le_of_eq q110)
    replace B101 := B101.ext E110
    replace V109 := V109.ext E110
    have OE110 := ext_trans OW109 E110
    replace V110 : Arv Z h110 b110 k110 .byte (0 : Int32) [] (.int (0 : Int32)) := V110
    refine Go.astore X110 hx (hb hby at_120) rfl (l' := #[.val (.long px), .second, .val (.int pm), .val (.int (0 : Int32)), .val (.ref b101), .val (.ref b110)]) rfl (q := 122) rfl ?_
    refine Go.iloadN X110 hx (hb hby at_122) rfl (q := 123) rfl ?_
    refine Go.ifYes X110 hx (hb hby at_123) (by decide) (q := 135) (by decide) (by decide) ?_
    refine Go.iloadN X110 hx (hb hby at_135) rfl (q := 136) rfl ?_
    refine Go.iconst X110 hx (hb hby at_136) (r := (1 : Int32)) rfl (q := 137) rfl ?_
    refine Go.icmpYes X110 hx (hb hby at_137) (by decide) (q := 149) (by decide) (by decide) ?_
    refine Go.iloadN X110 hx (hb hby at_149) rfl (q := 150) rfl ?_
    refine Go.iconst X110 hx (hb hby at_150) (r := (2 : Int32)) rfl (q := 151) rfl ?_
    refine Go.icmpYes X110 hx (hb hby at_151) (by decide) (q := 163) (by decide) (by decide) ?_
    refine Go.iloadN X110 hx (hb hby at_163) rfl (q := 164) rfl ?_
    refine Go.iconst X110 hx (hb hby at_164) (r := (3 : Int32)) rfl (q := 165) rfl ?_
    refine Go.icmpYes X110 hx (hb hby at_165) (by decide) (q := 177) (by decide) (by decide) ?_
    refine Go.iloadN X110 hx (hb hby at_177) rfl (q := 178) rfl ?_
    refine Go.iconst X110 hx (hb hby at_178) (r := (4 : Int32)) rfl (q := 179) rfl ?_
    refine Go.icmpYes X110 hx (hb hby at_179) (by decide) (q := 191) (by decide) (by decide) ?_
    refine Go.iloadN X110 hx (hb hby at_191) rfl (q := 192) rfl ?_
    refine Go.iconst X110 hx (hb hby at_192) (r := (5 : Int32)) rfl (q := 193) rfl ?_
    refine Go.icmpYes X110 hx (hb hby at_193) (by decide) (q := 205) (by decide) (by decide) ?_
    refine Go.iloadN X110 hx (hb hby at_205) rfl (q := 206) rfl ?_
    refine Go.bipush X110 hx (hb hby at_206) (r := (6 : Int32)) rfl (q := 208) rfl ?_
    refine Go.icmpYes X110 hx (hb hby at_208) (by decide) (q := 222) (by decide) (by decide) ?_
    refine Go.iloadN X110 hx (hb hby at_222) rfl (q := 223) rfl ?_
    refine Go.bipush X110 hx (hb hby at_223) (r := (7 : Int32)) rfl (q := 225) rfl ?_
    refine Go.icmpYes X110 hx (hb hby at_225) (by decide) (q := 239) (by decide) (by decide) ?_
    replace V110 := own_widen (vs' := ([Y0, Y1, Y2, Y3, Y4, Y5, Y6, Y7].map fun y => Value.int y.toInt8.toInt32)) V110 (by intro i hi; have hi' : i < 0 := hi; match i, hi' with  | i' + 0, h => exact absurd h (by omega))
    replace V109 : Arv Z h110 b101 k101 .int (8 : Int32) ([Y0, Y1, Y2, Y3, Y4, Y5, Y6, Y7].map Value.int) (.int (0 : Int32)) := V109
    have hys : ∀ i : Nat, 0 ≤ ([Y0, Y1, Y2, Y3, Y4, Y5, Y6, Y7].getD i 0).toInt ∧ ([Y0, Y1, Y2, Y3, Y4, Y5, Y6, Y7].getD i 0).toInt < 256 := by intro i; match i with | 0 => exact bY0 | 1 => exact bY1 | 2 => exact bY2 | 3 => exact bY3 | 4 => exact bY4 | 5 => exact bY5 | 6 => exact bY6 | 7 => exact bY7 | i' + 8 => exact ⟨(by decide : (0 : Int) ≤ (0 : Int32).toInt), (by decide : (0 : Int32).toInt < 256)⟩
    refine Go.aload X110 hx (hb hby at_239) rfl rfl (q := 241) rfl ?_
    refine Go.callS X110 hx hZ hown (wd4 hw) (wd5 hw) (wd6 hw) (wd7 hw) (by decide) (cisu l Z a0 hw b110 (k110) ((0 : Int32)) ([Y0, Y1, Y2, Y3, Y4, Y5, Y6, Y7]) h110 OE110 V110 hys (by decide)) e110 (by rw [hml]; rfl) (hb hby at_241) (argsL := [(.ref b110)]) (rest := []) (lenOf pd2 rfl) rfl rfl (W := 0) (by first | exact Nat.le_refl _ | decide) (by decide) (by decide) (by decide) (by decide) ?_
    intro v111 T111 L111 X111 hQ111
    obtain ⟨rfl, N111q, e111⟩ := hQ111
    have N111 := Fr.app N109 N111q
    refine Go.aload X111 hx (hb hby at_244) rfl rfl (q := 246) rfl ?_
    refine Go.iloadN X111 hx (hb hby at_246) rfl (q := 247) rfl ?_
    refine Go.callS X111 hx hZ hown (wd11 hw) (wd12 hw) (wd13 hw) (wd14 hw) (by decide) (cref l Z a0 hw b101 (k101) ((0 : Int32)) ([Y0, Y1, Y2, Y3, Y4, Y5, Y6, Y7]) h110 OE110 V109 hys (by decide)) e111 (by rw [hml]; rfl) (hb hby at_247) (argsL := [(.ref b101), (.int (0 : Int32))]) (rest := [(.int (own_U [Y0, Y1, Y2, Y3, Y4, Y5, Y6, Y7] (0 : Int32) 8 0))]) (lenOf pd3 rfl) rfl rfl (W := 1) (by first | exact Nat.le_refl _ | decide) (by decide) (by decide) (by decide) (by decide) ?_
    intro v112 T112 L112 X112 hQ112
    obtain ⟨rfl, N112q, e112⟩ := hQ112
    have N112 := Fr.app N111 N112q
    refine Go.icmpNo X112 hx (hb hby at_250) (Jvm.Free.XT.ii_ne_f rfl) (q := 253) rfl ?_
    refine Go.iconst X112 hx (hb hby at_253) (r := (1 : Int32)) rfl (q := 254) rfl ?_
    refine Go.goto X112 hx (hb hby at_254) (q := 258) (by decide) (by decide) ?_
    exact Go.retI X112 hx hret hlk (by simp) rfl (hb hby at_258) e112 (by decide) (by decide) ⟨rfl, N112⟩
  · show Go pp ee below _ (s₁.setTop (mkF mm 7 #[.val (.long px), .second, .val (.int pm), .unset, .unset, .unset] [(.int (1 : Int32))]))
    refine Go.istoreN X0 hx (hb hby at_7) (l' := #[.val (.long px), .second, .val (.int pm), .val (.int (1 : Int32)), .unset, .unset]) rfl (q := 8) rfl ?_
    refine Go.bipush X0 hx (hb hby at_8) (r := (8 : Int32)) rfl (q := 10) rfl ?_
    refine Go.newP X0 hx hZ (hb hby at_10) (wd1 hw) e0 (by decide) (cap := 8) (by decide) (by decide) (by decide) (by decide) (ad := "[I") rfl (q := 12) rfl ?_
    intro b113 T113 h113 k113 X113 e113 q113 E113 V113 B113
    have g_b113 : Z.heap.size ≤ b113 := Nat.le_trans O0.1 (Nat.le_of_eq q113)
    have OE113 := ext_trans O0 E113
    replace V113 : Arv Z h113 b113 k113 .int (8 : Int32) [(.int (0 : Int32)), (.int (0 : Int32)), (.int (0 : Int32)), (.int (0 : Int32)), (.int (0 : Int32)), (.int (0 : Int32)), (.int (0 : Int32)), (.int (0 : Int32))] (.int (0 : Int32)) := V113.pad (pad_rep [] (.int (0 : Int32)) 8)
    refine Go.astore X113 hx (hb hby at_12) rfl (l' := #[.val (.long px), .second, .val (.int pm), .val (.int (1 : Int32)), .val (.ref b113), .unset]) rfl (q := 14) rfl ?_
    refine Go.aload X113 hx (hb hby at_14) rfl rfl (q := 16) rfl ?_
    refine Go.iconst X113 hx (hb hby at_16) (r := (0 : Int32)) rfl (q := 17) rfl ?_
    refine Go.lloadN X113 hx (hb hby at_17) rfl (q := 18) rfl ?_
    refine Go.ldc2 X113 hx hZ hown (wd2 hw) (hb hby at_18) (q := 21) rfl ?_
    refine Go.land X113 hx (hb hby at_21) rfl (q := 22) rfl ?_
    refine Go.l2i X113 hx (hb hby at_22) rfl (q := 23) rfl ?_
    have bY0 := own_l255 px
    generalize ((px &&& (255 : Int64)).toInt32) = Y0 at bY0 ⊢
    show Go pp ee below _ (T113.setTop (mkF mm 23 #[.val (.long px), .second, .val (.int pm), .val (.int (1 : Int32)), .val (.ref b113), .unset] [(.int Y0), (.int (0 : Int32)), (.ref b113)]))
    refine Go.ist X113 hx hZ e113 V113 ⟨by decide, by decide⟩ (i := 0) rfl (Nat.le_of_ble_eq_true rfl) (hb hby at_23) ?_
    intro T114 h114 X114 e114 W114 V114
    replace V114 : Arv Z h114 b113 k113 .int (8 : Int32) [(.int Y0), (.int (0 : Int32)), (.int (0 : Int32)), (.int (0 : Int32)), (.int (0 : Int32)), (.int (0 : Int32)), (.int (0 : Int32)), (.int (0 : Int32))] (.int (0 : Int32)) := V114
    have N114 := Fr.snoc X114 N0 g_b113
    replace B113 := B113.wr W114
    have OW114 := ext_wr OE113 W114 g_b113
    refine Go.aload X114 hx (hb hby at_24) rfl rfl (q := 26) rfl ?_
    refine Go.iconst X114 hx (hb hby at_26) (r := (1 : Int32)) rfl (q := 27) rfl ?_
    refine Go.lloadN X114 hx (hb hby at_27) rfl (q := 28) rfl ?_
    refine Go.bipush X114 hx (hb hby at_28) (r := (8 : Int32)) rfl (q := 30) rfl ?_
    refine Go.lushr X114 hx (hb hby at_30) rfl (q := 31) rfl ?_
    refine Go.ldc2 X114 hx hZ hown (wd2 hw) (hb hby at_31) (q := 34) rfl ?_
    refine Go.land X114 hx (hb hby at_34) rfl (q := 35) rfl ?_
    refine Go.l2i X114 hx (hb hby at_35) rfl (q := 36) rfl ?_
    have bY1 := own_l255 ((px.toUInt64 >>> ((8 : Int32) &&& 0x3f).toInt64.toUInt64).toInt64)
    generalize ((((px.toUInt64 >>> ((8 : Int32) &&& 0x3f).toInt64.toUInt64).toInt64) &&& (255 : Int64)).toInt32) = Y1 at bY1 ⊢
    show Go pp ee below _ (T114.setTop (mkF mm 36 #[.val (.long px), .second, .val (.int pm), .val (.int (1 : Int32)), .val (.ref b113), .unset] [(.int Y1), (.int (1 : Int32)), (.ref b113)]))
    refine Go.ist X114 hx hZ e114 V114 ⟨by decide, by decide⟩ (i := 1) rfl (Nat.le_of_ble_eq_true rfl) (hb hby at_36) ?_
    intro T115 h115 X115 e115 W115 V115
    replace V115 : Arv Z h115 b113 k113 .int (8 : Int32) [(.int Y0), (.int Y1), (.int (0 : Int32)), (.int (0 : Int32)), (.int (0 : Int32)), (.int (0 : Int32)), (.int (0 : Int32)), (.int (0 : Int32))] (.int (0 : Int32)) := V115
    have N115 := Fr.snoc X115 N114 g_b113
    replace B113 := B113.wr W115
    have OW115 := ext_wr OW114 W115 g_b113
    refine Go.aload X115 hx (hb hby at_37) rfl rfl (q := 39) rfl ?_
    refine Go.iconst X115 hx (hb hby at_39) (r := (2 : Int32)) rfl (q := 40) rfl ?_
    refine Go.lloadN X115 hx (hb hby at_40) rfl (q := 41) rfl ?_
    refine Go.bipush X115 hx (hb hby at_41) (r := (16 : Int32)) rfl (q := 43) rfl ?_
    refine Go.lushr X115 hx (hb hby at_43) rfl (q := 44) rfl ?_
    refine Go.ldc2 X115 hx hZ hown (wd2 hw) (hb hby at_44) (q := 47) rfl ?_
    refine Go.land X115 hx (hb hby at_47) rfl (q := 48) rfl ?_
    refine Go.l2i X115 hx (hb hby at_48) rfl (q := 49) rfl ?_
    have bY2 := own_l255 ((px.toUInt64 >>> ((16 : Int32) &&& 0x3f).toInt64.toUInt64).toInt64)
    generalize ((((px.toUInt64 >>> ((16 : Int32) &&& 0x3f).toInt64.toUInt64).toInt64) &&& (255 : Int64)).toInt32) = Y2 at bY2 ⊢
    show Go pp ee below _ (T115.setTop (mkF mm 49 #[.val (.long px), .second, .val (.int pm), .val (.int (1 : Int32)), .val (.ref b113), .unset] [(.int Y2), (.int (2 : Int32)), (.ref b113)]))
    refine Go.ist X115 hx hZ e115 V115 ⟨by decide, by decide⟩ (i := 2) rfl (Nat.le_of_ble_eq_true rfl) (hb hby at_49) ?_
    intro T116 h116 X116 e116 W116 V116
    replace V116 : Arv Z h116 b113 k113 .int (8 : Int32) [(.int Y0), (.int Y1), (.int Y2), (.int (0 : Int32)), (.int (0 : Int32)), (.int (0 : Int32)), (.int (0 : Int32)), (.int (0 : Int32))] (.int (0 : Int32)) := V116
    have N116 := Fr.snoc X116 N115 g_b113
    replace B113 := B113.wr W116
    have OW116 := ext_wr OW115 W116 g_b113
    refine Go.aload X116 hx (hb hby at_50) rfl rfl (q := 52) rfl ?_
    refine Go.iconst X116 hx (hb hby at_52) (r := (3 : Int32)) rfl (q := 53) rfl ?_
    refine Go.lloadN X116 hx (hb hby at_53) rfl (q := 54) rfl ?_
    refine Go.bipush X116 hx (hb hby at_54) (r := (24 : Int32)) rfl (q := 56) rfl ?_
    refine Go.lushr X116 hx (hb hby at_56) rfl (q := 57) rfl ?_
    refine Go.ldc2 X116 hx hZ hown (wd2 hw) (hb hby at_57) (q := 60) rfl ?_
    refine Go.land X116 hx (hb hby at_60) rfl (q := 61) rfl ?_
    refine Go.l2i X116 hx (hb hby at_61) rfl (q := 62) rfl ?_
    have bY3 := own_l255 ((px.toUInt64 >>> ((24 : Int32) &&& 0x3f).toInt64.toUInt64).toInt64)
    generalize ((((px.toUInt64 >>> ((24 : Int32) &&& 0x3f).toInt64.toUInt64).toInt64) &&& (255 : Int64)).toInt32) = Y3 at bY3 ⊢
    show Go pp ee below _ (T116.setTop (mkF mm 62 #[.val (.long px), .second, .val (.int pm), .val (.int (1 : Int32)), .val (.ref b113), .unset] [(.int Y3), (.int (3 : Int32)), (.ref b113)]))
    refine Go.ist X116 hx hZ e116 V116 ⟨by decide, by decide⟩ (i := 3) rfl (Nat.le_of_ble_eq_true rfl) (hb hby at_62) ?_
    intro T117 h117 X117 e117 W117 V117
    replace V117 : Arv Z h117 b113 k113 .int (8 : Int32) [(.int Y0), (.int Y1), (.int Y2), (.int Y3), (.int (0 : Int32)), (.int (0 : Int32)), (.int (0 : Int32)), (.int (0 : Int32))] (.int (0 : Int32)) := V117
    have N117 := Fr.snoc X117 N116 g_b113
    replace B113 := B113.wr W117
    have OW117 := ext_wr OW116 W117 g_b113
    refine Go.aload X117 hx (hb hby at_63) rfl rfl (q := 65) rfl ?_
    refine Go.iconst X117 hx (hb hby at_65) (r := (4 : Int32)) rfl (q := 66) rfl ?_
    refine Go.lloadN X117 hx (hb hby at_66) rfl (q := 67) rfl ?_
    refine Go.bipush X117 hx (hb hby at_67) (r := (32 : Int32)) rfl (q := 69) rfl ?_
    refine Go.lushr X117 hx (hb hby at_69) rfl (q := 70) rfl ?_
    refine Go.ldc2 X117 hx hZ hown (wd2 hw) (hb hby at_70) (q := 73) rfl ?_
    refine Go.land X117 hx (hb hby at_73) rfl (q := 74) rfl ?_
    refine Go.l2i X117 hx (hb hby at_74) rfl (q := 75) rfl ?_
    have bY4 := own_l255 ((px.toUInt64 >>> ((32 : Int32) &&& 0x3f).toInt64.toUInt64).toInt64)
    generalize ((((px.toUInt64 >>> ((32 : Int32) &&& 0x3f).toInt64.toUInt64).toInt64) &&& (255 : Int64)).toInt32) = Y4 at bY4 ⊢
    show Go pp ee below _ (T117.setTop (mkF mm 75 #[.val (.long px), .second, .val (.int pm), .val (.int (1 : Int32)), .val (.ref b113), .unset] [(.int Y4), (.int (4 : Int32)), (.ref b113)]))
    refine Go.ist X117 hx hZ e117 V117 ⟨by decide, by decide⟩ (i := 4) rfl (Nat.le_of_ble_eq_true rfl) (hb hby at_75) ?_
    intro T118 h118 X118 e118 W118 V118
    replace V118 : Arv Z h118 b113 k113 .int (8 : Int32) [(.int Y0), (.int Y1), (.int Y2), (.int Y3), (.int Y4), (.int (0 : Int32)), (.int (0 : Int32)), (.int (0 : Int32))] (.int (0 : Int32)) := V118
    have N118 := Fr.snoc X118 N117 g_b113
    replace B113 := B113.wr W118
    have OW118 := ext_wr OW117 W118 g_b113
    refine Go.aload X118 hx (hb hby at_76) rfl rfl (q := 78) rfl ?_
    refine Go.iconst X118 hx (hb hby at_78) (r := (5 : Int32)) rfl (q := 79) rfl ?_
    refine Go.lloadN X118 hx (hb hby at_79) rfl (q := 80) rfl ?_
    refine Go.bipush X118 hx (hb hby at_80) (r := (40 : Int32)) rfl (q := 82) rfl ?_
    refine Go.lushr X118 hx (hb hby at_82) rfl (q := 83) rfl ?_
    refine Go.ldc2 X118 hx hZ hown (wd2 hw) (hb hby at_83) (q := 86) rfl ?_
    refine Go.land X118 hx (hb hby at_86) rfl (q := 87) rfl ?_
    refine Go.l2i X118 hx (hb hby at_87) rfl (q := 88) rfl ?_
    have bY5 := own_l255 ((px.toUInt64 >>> ((40 : Int32) &&& 0x3f).toInt64.toUInt64).toInt64)
    generalize ((((px.toUInt64 >>> ((40 : Int32) &&& 0x3f).toInt64.toUInt64).toInt64) &&& (255 : Int64)).toInt32) = Y5 at bY5 ⊢
    show Go pp ee below _ (T118.setTop (mkF mm 88 #[.val (.long px), .second, .val (.int pm), .val (.int (1 : Int32)), .val (.ref b113), .unset] [(.int Y5), (.int (5 : Int32)), (.ref b113)]))
    refine Go.ist X118 hx hZ e118 V118 ⟨by decide, by decide⟩ (i := 5) rfl (Nat.le_of_ble_eq_true rfl) (hb hby at_88) ?_
    intro T119 h119 X119 e119 W119 V119
    replace V119 : Arv Z h119 b113 k113 .int (8 : Int32) [(.int Y0), (.int Y1), (.int Y2), (.int Y3), (.int Y4), (.int Y5), (.int (0 : Int32)), (.int (0 : Int32))] (.int (0 : Int32)) := V119
    have N119 := Fr.snoc X119 N118 g_b113
    replace B113 := B113.wr W119
    have OW119 := ext_wr OW118 W119 g_b113
    refine Go.aload X119 hx (hb hby at_89) rfl rfl (q := 91) rfl ?_
    refine Go.bipush X119 hx (hb hby at_91) (r := (6 : Int32)) rfl (q := 93) rfl ?_
    refine Go.lloadN X119 hx (hb hby at_93) rfl (q := 94) rfl ?_
    refine Go.bipush X119 hx (hb hby at_94) (r := (48 : Int32)) rfl (q := 96) rfl ?_
    refine Go.lushr X119 hx (hb hby at_96) rfl (q := 97) rfl ?_
    refine Go.ldc2 X119 hx hZ hown (wd2 hw) (hb hby at_97) (q := 100) rfl ?_
    refine Go.land X119 hx (hb hby at_100) rfl (q := 101) rfl ?_
    refine Go.l2i X119 hx (hb hby at_101) rfl (q := 102) rfl ?_
    have bY6 := own_l255 ((px.toUInt64 >>> ((48 : Int32) &&& 0x3f).toInt64.toUInt64).toInt64)
    generalize ((((px.toUInt64 >>> ((48 : Int32) &&& 0x3f).toInt64.toUInt64).toInt64) &&& (255 : Int64)).toInt32) = Y6 at bY6 ⊢
    show Go pp ee below _ (T119.setTop (mkF mm 102 #[.val (.long px), .second, .val (.int pm), .val (.int (1 : Int32)), .val (.ref b113), .unset] [(.int Y6), (.int (6 : Int32)), (.ref b113)]))
    refine Go.ist X119 hx hZ e119 V119 ⟨by decide, by decide⟩ (i := 6) rfl (Nat.le_of_ble_eq_true rfl) (hb hby at_102) ?_
    intro T120 h120 X120 e120 W120 V120
    replace V120 : Arv Z h120 b113 k113 .int (8 : Int32) [(.int Y0), (.int Y1), (.int Y2), (.int Y3), (.int Y4), (.int Y5), (.int Y6), (.int (0 : Int32))] (.int (0 : Int32)) := V120
    have N120 := Fr.snoc X120 N119 g_b113
    replace B113 := B113.wr W120
    have OW120 := ext_wr OW119 W120 g_b113
    refine Go.aload X120 hx (hb hby at_103) rfl rfl (q := 105) rfl ?_
    refine Go.bipush X120 hx (hb hby at_105) (r := (7 : Int32)) rfl (q := 107) rfl ?_
    refine Go.lloadN X120 hx (hb hby at_107) rfl (q := 108) rfl ?_
    refine Go.bipush X120 hx (hb hby at_108) (r := (56 : Int32)) rfl (q := 110) rfl ?_
    refine Go.lushr X120 hx (hb hby at_110) rfl (q := 111) rfl ?_
    refine Go.ldc2 X120 hx hZ hown (wd2 hw) (hb hby at_111) (q := 114) rfl ?_
    refine Go.land X120 hx (hb hby at_114) rfl (q := 115) rfl ?_
    refine Go.l2i X120 hx (hb hby at_115) rfl (q := 116) rfl ?_
    have bY7 := own_l255 ((px.toUInt64 >>> ((56 : Int32) &&& 0x3f).toInt64.toUInt64).toInt64)
    generalize ((((px.toUInt64 >>> ((56 : Int32) &&& 0x3f).toInt64.toUInt64).toInt64) &&& (255 : Int64)).toInt32) = Y7 at bY7 ⊢
    show Go pp ee below _ (T120.setTop (mkF mm 116 #[.val (.long px), .second, .val (.int pm), .val (.int (1 : Int32)), .val (.ref b113), .unset] [(.int Y7), (.int (7 : Int32)), (.ref b113)]))
    refine Go.ist X120 hx hZ e120 V120 ⟨by decide, by decide⟩ (i := 7) rfl (Nat.le_of_ble_eq_true rfl) (hb hby at_116) ?_
    intro T121 h121 X121 e121 W121 V121
    replace V121 : Arv Z h121 b113 k113 .int (8 : Int32) [(.int Y0), (.int Y1), (.int Y2), (.int Y3), (.int Y4), (.int Y5), (.int Y6), (.int Y7)] (.int (0 : Int32)) := V121
    have N121 := Fr.snoc X121 N120 g_b113
    replace B113 := B113.wr W121
    have OW121 := ext_wr OW120 W121 g_b113
    refine Go.iloadN X121 hx (hb hby at_117) rfl (q := 118) rfl ?_
    refine Go.newP X121 hx hZ (hb hby at_118) (wd3 hw) e121 (by decide) (cap := 1) (by decide) (by decide) (by decide) (by decide) (ad := "[B") rfl (q := 120) rfl ?_
    intro b122 T122 h122 k122 X122 e122 q122 E122 V122 B122
    have ne_b113_b122 : b113 ≠ b122 := ne_new B113.lt (Nat.le_of_eq q122)
    have g_b122 : Z.heap.size ≤ b122 := Nat.le_trans OW121.1 (Nat.le_of_eq q122)
    replace B113 := B113.ext E122
    replace V121 := V121.ext E122
    have OE122 := ext_trans OW121 E122
    replace V122 : Arv Z h122 b122 k122 .byte (1 : Int32) [(.int (0 : Int32))] (.int (0 : Int32)) := V122.pad (pad_rep [] (.int (0 : Int32)) 1)
    refine Go.astore X122 hx (hb hby at_120) rfl (l' := #[.val (.long px), .second, .val (.int pm), .val (.int (1 : Int32)), .val (.ref b113), .val (.ref b122)]) rfl (q := 122) rfl ?_
    refine Go.iloadN X122 hx (hb hby at_122) rfl (q := 123) rfl ?_
    refine Go.ifNo X122 hx (hb hby at_123) (by decide) (q := 126) rfl ?_
    refine Go.aload X122 hx (hb hby at_126) rfl rfl (q := 128) rfl ?_
    refine Go.iconst X122 hx (hb hby at_128) (r := (0 : Int32)) rfl (q := 129) rfl ?_
    refine Go.aload X122 hx (hb hby at_129) rfl rfl (q := 131) rfl ?_
    refine Go.iconst X122 hx (hb hby at_131) (r := (0 : Int32)) rfl (q := 132) rfl ?_
    refine Go.ial X122 hx hZ e122 V121 ⟨by decide, by decide⟩ (v := (.int Y0)) rfl (hb hby at_132) ?_
    refine Go.i2b X122 hx (hb hby at_133) rfl (q := 134) rfl ?_
    refine Go.bst X122 hx hZ e122 V122 ⟨by decide, by decide⟩ (i := 0) rfl (Nat.le_of_ble_eq_true rfl) (hb hby at_134) ?_
    intro T123 h123 X123 e123 W123 V123
    rw [bb Y0] at V123
    replace V123 : Arv Z h123 b122 k122 .byte (1 : Int32) [(.int (Y0.toInt8.toInt32))] (.int (0 : Int32)) := V123
    have N123 := Fr.snoc X123 N121 g_b122
    replace B113 := B113.wr W123
    replace V121 := V121.other W123 ne_b113_b122
    replace B122 := B122.wr W123
    have OW123 := ext_wr OE122 W123 g_b122
    refine Go.iloadN X123 hx (hb hby at_135) rfl (q := 136) rfl ?_
    refine Go.iconst X123 hx (hb hby at_136) (r := (1 : Int32)) rfl (q := 137) rfl ?_
    refine Go.icmpYes X123 hx (hb hby at_137) (by decide) (q := 149) (by decide) (by decide) ?_
    refine Go.iloadN X123 hx (hb hby at_149) rfl (q := 150) rfl ?_
    refine Go.iconst X123 hx (hb hby at_150) (r := (2 : Int32)) rfl (q := 151) rfl ?_
    refine Go.icmpYes X123 hx (hb hby at_151) (by decide) (q := 163) (by decide) (by decide) ?_
    refine Go.iloadN X123 hx (hb hby at_163) rfl (q := 164) rfl ?_
    refine Go.iconst X123 hx (hb hby at_164) (r := (3 : Int32)) rfl (q := 165) rfl ?_
    refine Go.icmpYes X123 hx (hb hby at_165) (by decide) (q := 177) (by decide) (by decide) ?_
    refine Go.iloadN X123 hx (hb hby at_177) rfl (q := 178) rfl ?_
    refine Go.iconst X123 hx (hb hby at_178) (r := (4 : Int32)) rfl (q := 179) rfl ?_
    refine Go.icmpYes X123 hx (hb hby at_179) (by decide) (q := 191) (by decide) (by decide) ?_
    refine Go.iloadN X123 hx (hb hby at_191) rfl (q := 192) rfl ?_
    refine Go.iconst X123 hx (hb hby at_192) (r := (5 : Int32)) rfl (q := 193) rfl ?_
    refine Go.icmpYes X123 hx (hb hby at_193) (by decide) (q := 205) (by decide) (by decide) ?_
    refine Go.iloadN X123 hx (hb hby at_205) rfl (q := 206) rfl ?_
    refine Go.bipush X123 hx (hb hby at_206) (r := (6 : Int32)) rfl (q := 208) rfl ?_
    refine Go.icmpYes X123 hx (hb hby at_208) (by decide) (q := 222) (by decide) (by decide) ?_
    refine Go.iloadN X123 hx (hb hby at_222) rfl (q := 223) rfl ?_
    refine Go.bipush X123 hx (hb hby at_223) (r := (7 : Int32)) rfl (q := 225) rfl ?_
    refine Go.icmpYes X123 hx (hb hby at_225) (by decide) (q := 239) (by decide) (by decide) ?_
    replace V123 := own_widen (vs' := ([Y0, Y1, Y2, Y3, Y4, Y5, Y6, Y7].map fun y => Value.int y.toInt8.toInt32)) V123 (by intro i hi; have hi' : i < 1 := hi; match i, hi' with | 0, _ => rfl | i' + 1, h => exact absurd h (by omega))
    replace V121 : Arv Z h123 b113 k113 .int (8 : Int32) ([Y0, Y1, Y2, Y3, Y4, Y5, Y6, Y7].map Value.int) (.int (0 : Int32)) := V121
    have hys : ∀ i : Nat, 0 ≤ ([Y0, Y1, Y2, Y3, Y4, Y5, Y6, Y7].getD i 0).toInt ∧ ([Y0, Y1, Y2, Y3, Y4, Y5, Y6, Y7].getD i 0).toInt < 256 := by intro i; match i with | 0 => exact bY0 | 1 => exact bY1 | 2 => exact bY2 | 3 => exact bY3 | 4 => exact bY4 | 5 => exact bY5 | 6 => exact bY6 | 7 => exact bY7 | i' + 8 => exact ⟨(by decide : (0 : Int) ≤ (0 : Int32).toInt), (by decide : (0 : Int32).toInt < 256)⟩
    refine Go.aload X123 hx (hb hby at_239) rfl rfl (q := 241) rfl ?_
    refine Go.callS X123 hx hZ hown (wd4 hw) (wd5 hw) (wd6 hw) (wd7 hw) (by decide) (cisu l Z a0 hw b122 (k122) ((1 : Int32)) ([Y0, Y1, Y2, Y3, Y4, Y5, Y6, Y7]) h123 OW123 V123 hys (by decide)) e123 (by rw [hml]; rfl) (hb hby at_241) (argsL := [(.ref b122)]) (rest := []) (lenOf pd2 rfl) rfl rfl (W := 0) (by first | exact Nat.le_refl _ | decide) (by decide) (by decide) (by decide) (by decide) ?_
    intro v124 T124 L124 X124 hQ124
    obtain ⟨rfl, N124q, e124⟩ := hQ124
    have N124 := Fr.app N123 N124q
    refine Go.aload X124 hx (hb hby at_244) rfl rfl (q := 246) rfl ?_
    refine Go.iloadN X124 hx (hb hby at_246) rfl (q := 247) rfl ?_
    refine Go.callS X124 hx hZ hown (wd11 hw) (wd12 hw) (wd13 hw) (wd14 hw) (by decide) (cref l Z a0 hw b113 (k113) ((1 : Int32)) ([Y0, Y1, Y2, Y3, Y4, Y5, Y6, Y7]) h123 OW123 V121 hys (by decide)) e124 (by rw [hml]; rfl) (hb hby at_247) (argsL := [(.ref b113), (.int (1 : Int32))]) (rest := [(.int (own_U [Y0, Y1, Y2, Y3, Y4, Y5, Y6, Y7] (1 : Int32) 8 0))]) (lenOf pd3 rfl) rfl rfl (W := 1) (by first | exact Nat.le_refl _ | decide) (by decide) (by decide) (by decide) (by decide) ?_
    intro v125 T125 L125 X125 hQ125
    obtain ⟨rfl, N125q, e125⟩ := hQ125
    have N125 := Fr.app N124 N125q
    refine Go.icmpNo X125 hx (hb hby at_250) (Jvm.Free.XT.ii_ne_f rfl) (q := 253) rfl ?_
    refine Go.iconst X125 hx (hb hby at_253) (r := (1 : Int32)) rfl (q := 254) rfl ?_
    refine Go.goto X125 hx (hb hby at_254) (q := 258) (by decide) (by decide) ?_
    exact Go.retI X125 hx hret hlk (by simp) rfl (hb hby at_258) e125 (by decide) (by decide) ⟨rfl, N125⟩
  · show Go pp ee below _ (s₁.setTop (mkF mm 7 #[.val (.long px), .second, .val (.int pm), .unset, .unset, .unset] [(.int (2 : Int32))]))
    refine Go.istoreN X0 hx (hb hby at_7) (l' := #[.val (.long px), .second, .val (.int pm), .val (.int (2 : Int32)), .unset, .unset]) rfl (q := 8) rfl ?_
    refine Go.bipush X0 hx (hb hby at_8) (r := (8 : Int32)) rfl (q := 10) rfl ?_
    refine Go.newP X0 hx hZ (hb hby at_10) (wd1 hw) e0 (by decide) (cap := 8) (by decide) (by decide) (by decide) (by decide) (ad := "[I") rfl (q := 12) rfl ?_
    intro b126 T126 h126 k126 X126 e126 q126 E126 V126 B126
    have g_b126 : Z.heap.size ≤ b126 := Nat.le_trans O0.1 (Nat.le_of_eq q126)
    have OE126 := ext_trans O0 E126
    replace V126 : Arv Z h126 b126 k126 .int (8 : Int32) [(.int (0 : Int32)), (.int (0 : Int32)), (.int (0 : Int32)), (.int (0 : Int32)), (.int (0 : Int32)), (.int (0 : Int32)), (.int (0 : Int32)), (.int (0 : Int32))] (.int (0 : Int32)) := V126.pad (pad_rep [] (.int (0 : Int32)) 8)
    refine Go.astore X126 hx (hb hby at_12) rfl (l' := #[.val (.long px), .second, .val (.int pm), .val (.int (2 : Int32)), .val (.ref b126), .unset]) rfl (q := 14) rfl ?_
    refine Go.aload X126 hx (hb hby at_14) rfl rfl (q := 16) rfl ?_
    refine Go.iconst X126 hx (hb hby at_16) (r := (0 : Int32)) rfl (q := 17) rfl ?_
    refine Go.lloadN X126 hx (hb hby at_17) rfl (q := 18) rfl ?_
    refine Go.ldc2 X126 hx hZ hown (wd2 hw) (hb hby at_18) (q := 21) rfl ?_
    refine Go.land X126 hx (hb hby at_21) rfl (q := 22) rfl ?_
    refine Go.l2i X126 hx (hb hby at_22) rfl (q := 23) rfl ?_
    have bY0 := own_l255 px
    generalize ((px &&& (255 : Int64)).toInt32) = Y0 at bY0 ⊢
    show Go pp ee below _ (T126.setTop (mkF mm 23 #[.val (.long px), .second, .val (.int pm), .val (.int (2 : Int32)), .val (.ref b126), .unset] [(.int Y0), (.int (0 : Int32)), (.ref b126)]))
    refine Go.ist X126 hx hZ e126 V126 ⟨by decide, by decide⟩ (i := 0) rfl (Nat.le_of_ble_eq_true rfl) (hb hby at_23) ?_
    intro T127 h127 X127 e127 W127 V127
    replace V127 : Arv Z h127 b126 k126 .int (8 : Int32) [(.int Y0), (.int (0 : Int32)), (.int (0 : Int32)), (.int (0 : Int32)), (.int (0 : Int32)), (.int (0 : Int32)), (.int (0 : Int32)), (.int (0 : Int32))] (.int (0 : Int32)) := V127
    have N127 := Fr.snoc X127 N0 g_b126
    replace B126 := B126.wr W127
    have OW127 := ext_wr OE126 W127 g_b126
    refine Go.aload X127 hx (hb hby at_24) rfl rfl (q := 26) rfl ?_
    refine Go.iconst X127 hx (hb hby at_26) (r := (1 : Int32)) rfl (q := 27) rfl ?_
    refine Go.lloadN X127 hx (hb hby at_27) rfl (q := 28) rfl ?_
    refine Go.bipush X127 hx (hb hby at_28) (r := (8 : Int32)) rfl (q := 30) rfl ?_
    refine Go.lushr X127 hx (hb hby at_30) rfl (q := 31) rfl ?_
    refine Go.ldc2 X127 hx hZ hown (wd2 hw) (hb hby at_31) (q := 34) rfl ?_
    refine Go.land X127 hx (hb hby at_34) rfl (q := 35) rfl ?_
    refine Go.l2i X127 hx (hb hby at_35) rfl (q := 36) rfl ?_
    have bY1 := own_l255 ((px.toUInt64 >>> ((8 : Int32) &&& 0x3f).toInt64.toUInt64).toInt64)
    generalize ((((px.toUInt64 >>> ((8 : Int32) &&& 0x3f).toInt64.toUInt64).toInt64) &&& (255 : Int64)).toInt32) = Y1 at bY1 ⊢
    show Go pp ee below _ (T127.setTop (mkF mm 36 #[.val (.long px), .second, .val (.int pm), .val (.int (2 : Int32)), .val (.ref b126), .unset] [(.int Y1), (.int (1 : Int32)), (.ref b126)]))
    refine Go.ist X127 hx hZ e127 V127 ⟨by decide, by decide⟩ (i := 1) rfl (Nat.le_of_ble_eq_true rfl) (hb hby at_36) ?_
    intro T128 h128 X128 e128 W128 V128
    replace V128 : Arv Z h128 b126 k126 .int (8 : Int32) [(.int Y0), (.int Y1), (.int (0 : Int32)), (.int (0 : Int32)), (.int (0 : Int32)), (.int (0 : Int32)), (.int (0 : Int32)), (.int (0 : Int32))] (.int (0 : Int32)) := V128
    have N128 := Fr.snoc X128 N127 g_b126
    replace B126 := B126.wr W128
    have OW128 := ext_wr OW127 W128 g_b126
    refine Go.aload X128 hx (hb hby at_37) rfl rfl (q := 39) rfl ?_
    refine Go.iconst X128 hx (hb hby at_39) (r := (2 : Int32)) rfl (q := 40) rfl ?_
    refine Go.lloadN X128 hx (hb hby at_40) rfl (q := 41) rfl ?_
    refine Go.bipush X128 hx (hb hby at_41) (r := (16 : Int32)) rfl (q := 43) rfl ?_
    refine Go.lushr X128 hx (hb hby at_43) rfl (q := 44) rfl ?_
    refine Go.ldc2 X128 hx hZ hown (wd2 hw) (hb hby at_44) (q := 47) rfl ?_
    refine Go.land X128 hx (hb hby at_47) rfl (q := 48) rfl ?_
    refine Go.l2i X128 hx (hb hby at_48) rfl (q := 49) rfl ?_
    have bY2 := own_l255 ((px.toUInt64 >>> ((16 : Int32) &&& 0x3f).toInt64.toUInt64).toInt64)
    generalize ((((px.toUInt64 >>> ((16 : Int32) &&& 0x3f).toInt64.toUInt64).toInt64) &&& (255 : Int64)).toInt32) = Y2 at bY2 ⊢
    show Go pp ee below _ (T128.setTop (mkF mm 49 #[.val (.long px), .second, .val (.int pm), .val (.int (2 : Int32)), .val (.ref b126), .unset] [(.int Y2), (.int (2 : Int32)), (.ref b126)]))
    refine Go.ist X128 hx hZ e128 V128 ⟨by decide, by decide⟩ (i := 2) rfl (Nat.le_of_ble_eq_true rfl) (hb hby at_49) ?_
    intro T129 h129 X129 e129 W129 V129
    replace V129 : Arv Z h129 b126 k126 .int (8 : Int32) [(.int Y0), (.int Y1), (.int Y2), (.int (0 : Int32)), (.int (0 : Int32)), (.int (0 : Int32)), (.int (0 : Int32)), (.int (0 : Int32))] (.int (0 : Int32)) := V129
    have N129 := Fr.snoc X129 N128 g_b126
    replace B126 := B126.wr W129
    have OW129 := ext_wr OW128 W129 g_b126
    refine Go.aload X129 hx (hb hby at_50) rfl rfl (q := 52) rfl ?_
    refine Go.iconst X129 hx (hb hby at_52) (r := (3 : Int32)) rfl (q := 53) rfl ?_
    refine Go.lloadN X129 hx (hb hby at_53) rfl (q := 54) rfl ?_
    refine Go.bipush X129 hx (hb hby at_54) (r := (24 : Int32)) rfl (q := 56) rfl ?_
    refine Go.lushr X129 hx (hb hby at_56) rfl (q := 57) rfl ?_
    refine Go.ldc2 X129 hx hZ hown (wd2 hw) (hb hby at_57) (q := 60) rfl ?_
    refine Go.land X129 hx (hb hby at_60) rfl (q := 61) rfl ?_
    refine Go.l2i X129 hx (hb hby at_61) rfl (q := 62) rfl ?_
    have bY3 := own_l255 ((px.toUInt64 >>> ((24 : Int32) &&& 0x3f).toInt64.toUInt64).toInt64)
    generalize ((((px.toUInt64 >>> ((24 : Int32) &&& 0x3f).toInt64.toUInt64).toInt64) &&& (255 : Int64)).toInt32) = Y3 at bY3 ⊢
    show Go pp ee below _ (T129.setTop (mkF mm 62 #[.val (.long px), .second, .val (.int pm), .val (.int (2 : Int32)), .val (.ref b126), .unset] [(.int Y3), (.int (3 : Int32)), (.ref b126)]))
    refine Go.ist X129 hx hZ e129 V129 ⟨by decide, by decide⟩ (i := 3) rfl (Nat.le_of_ble_eq_true rfl) (hb hby at_62) ?_
    intro T130 h130 X130 e130 W130 V130
    replace V130 : Arv Z h130 b126 k126 .int (8 : Int32) [(.int Y0), (.int Y1), (.int Y2), (.int Y3), (.int (0 : Int32)), (.int (0 : Int32)), (.int (0 : Int32)), (.int (0 : Int32))] (.int (0 : Int32)) := V130
    have N130 := Fr.snoc X130 N129 g_b126
    replace B126 := B126.wr W130
    have OW130 := ext_wr OW129 W130 g_b126
    refine Go.aload X130 hx (hb hby at_63) rfl rfl (q := 65) rfl ?_
    refine Go.iconst X130 hx (hb hby at_65) (r := (4 : Int32)) rfl (q := 66) rfl ?_
    refine Go.lloadN X130 hx (hb hby at_66) rfl (q := 67) rfl ?_
    refine Go.bipush X130 hx (hb hby at_67) (r := (32 : Int32)) rfl (q := 69) rfl ?_
    refine Go.lushr X130 hx (hb hby at_69) rfl (q := 70) rfl ?_
    refine Go.ldc2 X130 hx hZ hown (wd2 hw) (hb hby at_70) (q := 73) rfl ?_
    refine Go.land X130 hx (hb hby at_73) rfl (q := 74) rfl ?_
    refine Go.l2i X130 hx (hb hby at_74) rfl (q := 75) rfl ?_
    have bY4 := own_l255 ((px.toUInt64 >>> ((32 : Int32) &&& 0x3f).toInt64.toUInt64).toInt64)
    generalize ((((px.toUInt64 >>> ((32 : Int32) &&& 0x3f).toInt64.toUInt64).toInt64) &&& (255 : Int64)).toInt32) = Y4 at bY4 ⊢
    show Go pp ee below _ (T130.setTop (mkF mm 75 #[.val (.long px), .second, .val (.int pm), .val (.int (2 : Int32)), .val (.ref b126), .unset] [(.int Y4), (.int (4 : Int32)), (.ref b126)]))
    refine Go.ist X130 hx hZ e130 V130 ⟨by decide, by decide⟩ (i := 4) rfl (Nat.le_of_ble_eq_true rfl) (hb hby at_75) ?_
    intro T131 h131 X131 e131 W131 V131
    replace V131 : Arv Z h131 b126 k126 .int (8 : Int32) [(.int Y0), (.int Y1), (.int Y2), (.int Y3), (.int Y4), (.int (0 : Int32)), (.int (0 : Int32)), (.int (0 : Int32))] (.int (0 : Int32)) := V131
    have N131 := Fr.snoc X131 N130 g_b126
    replace B126 := B126.wr W131
    have OW131 := ext_wr OW130 W131 g_b126
    refine Go.aload X131 hx (hb hby at_76) rfl rfl (q := 78) rfl ?_
    refine Go.iconst X131 hx (hb hby at_78) (r := (5 : Int32)) rfl (q := 79) rfl ?_
    refine Go.lloadN X131 hx (hb hby at_79) rfl (q := 80) rfl ?_
    refine Go.bipush X131 hx (hb hby at_80) (r := (40 : Int32)) rfl (q := 82) rfl ?_
    refine Go.lushr X131 hx (hb hby at_82) rfl (q := 83) rfl ?_
    refine Go.ldc2 X131 hx hZ hown (wd2 hw) (hb hby at_83) (q := 86) rfl ?_
    refine Go.land X131 hx (hb hby at_86) rfl (q := 87) rfl ?_
    refine Go.l2i X131 hx (hb hby at_87) rfl (q := 88) rfl ?_
    have bY5 := own_l255 ((px.toUInt64 >>> ((40 : Int32) &&& 0x3f).toInt64.toUInt64).toInt64)
    generalize ((((px.toUInt64 >>> ((40 : Int32) &&& 0x3f).toInt64.toUInt64).toInt64) &&& (255 : Int64)).toInt32) = Y5 at bY5 ⊢
    show Go pp ee below _ (T131.setTop (mkF mm 88 #[.val (.long px), .second, .val (.int pm), .val (.int (2 : Int32)), .val (.ref b126), .unset] [(.int Y5), (.int (5 : Int32)), (.ref b126)]))
    refine Go.ist X131 hx hZ e131 V131 ⟨by decide, by decide⟩ (i := 5) rfl (Nat.le_of_ble_eq_true rfl) (hb hby at_88) ?_
    intro T132 h132 X132 e132 W132 V132
    replace V132 : Arv Z h132 b126 k126 .int (8 : Int32) [(.int Y0), (.int Y1), (.int Y2), (.int Y3), (.int Y4), (.int Y5), (.int (0 : Int32)), (.int (0 : Int32))] (.int (0 : Int32)) := V132
    have N132 := Fr.snoc X132 N131 g_b126
    replace B126 := B126.wr W132
    have OW132 := ext_wr OW131 W132 g_b126
    refine Go.aload X132 hx (hb hby at_89) rfl rfl (q := 91) rfl ?_
    refine Go.bipush X132 hx (hb hby at_91) (r := (6 : Int32)) rfl (q := 93) rfl ?_
    refine Go.lloadN X132 hx (hb hby at_93) rfl (q := 94) rfl ?_
    refine Go.bipush X132 hx (hb hby at_94) (r := (48 : Int32)) rfl (q := 96) rfl ?_
    refine Go.lushr X132 hx (hb hby at_96) rfl (q := 97) rfl ?_
    refine Go.ldc2 X132 hx hZ hown (wd2 hw) (hb hby at_97) (q := 100) rfl ?_
    refine Go.land X132 hx (hb hby at_100) rfl (q := 101) rfl ?_
    refine Go.l2i X132 hx (hb hby at_101) rfl (q := 102) rfl ?_
    have bY6 := own_l255 ((px.toUInt64 >>> ((48 : Int32) &&& 0x3f).toInt64.toUInt64).toInt64)
    generalize ((((px.toUInt64 >>> ((48 : Int32) &&& 0x3f).toInt64.toUInt64).toInt64) &&& (255 : Int64)).toInt32) = Y6 at bY6 ⊢
    show Go pp ee below _ (T132.setTop (mkF mm 102 #[.val (.long px), .second, .val (.int pm), .val (.int (2 : Int32)), .val (.ref b126), .unset] [(.int Y6), (.int (6 : Int32)), (.ref b126)]))
    refine Go.ist X132 hx hZ e132 V132 ⟨by decide, by decide⟩ (i := 6) rfl (Nat.le_of_ble_eq_true rfl) (hb hby at_102) ?_
    intro T133 h133 X133 e133 W133 V133
    replace V133 : Arv Z h133 b126 k126 .int (8 : Int32) [(.int Y0), (.int Y1), (.int Y2), (.int Y3), (.int Y4), (.int Y5), (.int Y6), (.int (0 : Int32))] (.int (0 : Int32)) := V133
    have N133 := Fr.snoc X133 N132 g_b126
    replace B126 := B126.wr W133
    have OW133 := ext_wr OW132 W133 g_b126
    refine Go.aload X133 hx (hb hby at_103) rfl rfl (q := 105) rfl ?_
    refine Go.bipush X133 hx (hb hby at_105) (r := (7 : Int32)) rfl (q := 107) rfl ?_
    refine Go.lloadN X133 hx (hb hby at_107) rfl (q := 108) rfl ?_
    refine Go.bipush X133 hx (hb hby at_108) (r := (56 : Int32)) rfl (q := 110) rfl ?_
    refine Go.lushr X133 hx (hb hby at_110) rfl (q := 111) rfl ?_
    refine Go.ldc2 X133 hx hZ hown (wd2 hw) (hb hby at_111) (q := 114) rfl ?_
    refine Go.land X133 hx (hb hby at_114) rfl (q := 115) rfl ?_
    refine Go.l2i X133 hx (hb hby at_115) rfl (q := 116) rfl ?_
    have bY7 := own_l255 ((px.toUInt64 >>> ((56 : Int32) &&& 0x3f).toInt64.toUInt64).toInt64)
    generalize ((((px.toUInt64 >>> ((56 : Int32) &&& 0x3f).toInt64.toUInt64).toInt64) &&& (255 : Int64)).toInt32) = Y7 at bY7 ⊢
    show Go pp ee below _ (T133.setTop (mkF mm 116 #[.val (.long px), .second, .val (.int pm), .val (.int (2 : Int32)), .val (.ref b126), .unset] [(.int Y7), (.int (7 : Int32)), (.ref b126)]))
    refine Go.ist X133 hx hZ e133 V133 ⟨by decide, by decide⟩ (i := 7) rfl (Nat.le_of_ble_eq_true rfl) (hb hby at_116) ?_
    intro T134 h134 X134 e134 W134 V134
    replace V134 : Arv Z h134 b126 k126 .int (8 : Int32) [(.int Y0), (.int Y1), (.int Y2), (.int Y3), (.int Y4), (.int Y5), (.int Y6), (.int Y7)] (.int (0 : Int32)) := V134
    have N134 := Fr.snoc X134 N133 g_b126
    replace B126 := B126.wr W134
    have OW134 := ext_wr OW133 W134 g_b126
    refine Go.iloadN X134 hx (hb hby at_117) rfl (q := 118) rfl ?_
    refine Go.newP X134 hx hZ (hb hby at_118) (wd3 hw) e134 (by decide) (cap := 2) (by decide) (by decide) (by decide) (by decide) (ad := "[B") rfl (q := 120) rfl ?_
    intro b135 T135 h135 k135 X135 e135 q135 E135 V135 B135
    have ne_b126_b135 : b126 ≠ b135 := ne_new B126.lt (Nat.le_of_eq q135)
    have g_b135 : Z.heap.size ≤ b135 := Nat.le_trans OW134.1 (Nat.le_of_eq q135)
    replace B126 := B126.ext E135
    replace V134 := V134.ext E135
    have OE135 := ext_trans OW134 E135
    replace V135 : Arv Z h135 b135 k135 .byte (2 : Int32) [(.int (0 : Int32)), (.int (0 : Int32))] (.int (0 : Int32)) := V135.pad (pad_rep [] (.int (0 : Int32)) 2)
    refine Go.astore X135 hx (hb hby at_120) rfl (l' := #[.val (.long px), .second, .val (.int pm), .val (.int (2 : Int32)), .val (.ref b126), .val (.ref b135)]) rfl (q := 122) rfl ?_
    refine Go.iloadN X135 hx (hb hby at_122) rfl (q := 123) rfl ?_
    refine Go.ifNo X135 hx (hb hby at_123) (by decide) (q := 126) rfl ?_
    refine Go.aload X135 hx (hb hby at_126) rfl rfl (q := 128) rfl ?_
    refine Go.iconst X135 hx (hb hby at_128) (r := (0 : Int32)) rfl (q := 129) rfl ?_
    refine Go.aload X135 hx (hb hby at_129) rfl rfl (q := 131) rfl ?_
    refine Go.iconst X135 hx (hb hby at_131) (r := (0 : Int32)) rfl (q := 132) rfl ?_
    refine Go.ial X135 hx hZ e135 V134 ⟨by decide, by decide⟩ (v := (.int Y0)) rfl (hb hby at_132) ?_
    refine Go.i2b X135 hx (hb hby at_133) rfl (q := 134) rfl ?_
    refine Go.bst X135 hx hZ e135 V135 ⟨by decide, by decide⟩ (i := 0) rfl (Nat.le_of_ble_eq_true rfl) (hb hby at_134) ?_
    intro T136 h136 X136 e136 W136 V136
    rw [bb Y0] at V136
    replace V136 : Arv Z h136 b135 k135 .byte (2 : Int32) [(.int (Y0.toInt8.toInt32)), (.int (0 : Int32))] (.int (0 : Int32)) := V136
    have N136 := Fr.snoc X136 N134 g_b135
    replace B126 := B126.wr W136
    replace V134 := V134.other W136 ne_b126_b135
    replace B135 := B135.wr W136
    have OW136 := ext_wr OE135 W136 g_b135
    refine Go.iloadN X136 hx (hb hby at_135) rfl (q := 136) rfl ?_
    refine Go.iconst X136 hx (hb hby at_136) (r := (1 : Int32)) rfl (q := 137) rfl ?_
    refine Go.icmpNo X136 hx (hb hby at_137) (by decide) (q := 140) rfl ?_
    refine Go.aload X136 hx (hb hby at_140) rfl rfl (q := 142) rfl ?_
    refine Go.iconst X136 hx (hb hby at_142) (r := (1 : Int32)) rfl (q := 143) rfl ?_
    refine Go.aload X136 hx (hb hby at_143) rfl rfl (q := 145) rfl ?_
    refine Go.iconst X136 hx (hb hby at_145) (r := (1 : Int32)) rfl (q := 146) rfl ?_
    refine Go.ial X136 hx hZ e136 V134 ⟨by decide, by decide⟩ (v := (.int Y1)) rfl (hb hby at_146) ?_
    refine Go.i2b X136 hx (hb hby at_147) rfl (q := 148) rfl ?_
    refine Go.bst X136 hx hZ e136 V136 ⟨by decide, by decide⟩ (i := 1) rfl (Nat.le_of_ble_eq_true rfl) (hb hby at_148) ?_
    intro T137 h137 X137 e137 W137 V137
    rw [bb Y1] at V137
    replace V137 : Arv Z h137 b135 k135 .byte (2 : Int32) [(.int (Y0.toInt8.toInt32)), (.int (Y1.toInt8.toInt32))] (.int (0 : Int32)) := V137
    have N137 := Fr.snoc X137 N136 g_b135
    replace B126 := B126.wr W137
    replace V134 := V134.other W137 ne_b126_b135
    replace B135 := B135.wr W137
    have OW137 := ext_wr OW136 W137 g_b135
    refine Go.iloadN X137 hx (hb hby at_149) rfl (q := 150) rfl ?_
    refine Go.iconst X137 hx (hb hby at_150) (r := (2 : Int32)) rfl (q := 151) rfl ?_
    refine Go.icmpYes X137 hx (hb hby at_151) (by decide) (q := 163) (by decide) (by decide) ?_
    refine Go.iloadN X137 hx (hb hby at_163) rfl (q := 164) rfl ?_
    refine Go.iconst X137 hx (hb hby at_164) (r := (3 : Int32)) rfl (q := 165) rfl ?_
    refine Go.icmpYes X137 hx (hb hby at_165) (by decide) (q := 177) (by decide) (by decide) ?_
    refine Go.iloadN X137 hx (hb hby at_177) rfl (q := 178) rfl ?_
    refine Go.iconst X137 hx (hb hby at_178) (r := (4 : Int32)) rfl (q := 179) rfl ?_
    refine Go.icmpYes X137 hx (hb hby at_179) (by decide) (q := 191) (by decide) (by decide) ?_
    refine Go.iloadN X137 hx (hb hby at_191) rfl (q := 192) rfl ?_
    refine Go.iconst X137 hx (hb hby at_192) (r := (5 : Int32)) rfl (q := 193) rfl ?_
    refine Go.icmpYes X137 hx (hb hby at_193) (by decide) (q := 205) (by decide) (by decide) ?_
    refine Go.iloadN X137 hx (hb hby at_205) rfl (q := 206) rfl ?_
    refine Go.bipush X137 hx (hb hby at_206) (r := (6 : Int32)) rfl (q := 208) rfl ?_
    refine Go.icmpYes X137 hx (hb hby at_208) (by decide) (q := 222) (by decide) (by decide) ?_
    refine Go.iloadN X137 hx (hb hby at_222) rfl (q := 223) rfl ?_
    refine Go.bipush X137 hx (hb hby at_223) (r := (7 : Int32)) rfl (q := 225) rfl ?_
    refine Go.icmpYes X137 hx (hb hby at_225) (by decide) (q := 239) (by decide) (by decide) ?_
    replace V137 := own_widen (vs' := ([Y0, Y1, Y2, Y3, Y4, Y5, Y6, Y7].map fun y => Value.int y.toInt8.toInt32)) V137 (by intro i hi; have hi' : i < 2 := hi; match i, hi' with | 0, _ => rfl | 1, _ => rfl | i' + 2, h => exact absurd h (by omega))
    replace V134 : Arv Z h137 b126 k126 .int (8 : Int32) ([Y0, Y1, Y2, Y3, Y4, Y5, Y6, Y7].map Value.int) (.int (0 : Int32)) := V134
    have hys : ∀ i : Nat, 0 ≤ ([Y0, Y1, Y2, Y3, Y4, Y5, Y6, Y7].getD i 0).toInt ∧ ([Y0, Y1, Y2, Y3, Y4, Y5, Y6, Y7].getD i 0).toInt < 256 := by intro i; match i with | 0 => exact bY0 | 1 => exact bY1 | 2 => exact bY2 | 3 => exact bY3 | 4 => exact bY4 | 5 => exact bY5 | 6 => exact bY6 | 7 => exact bY7 | i' + 8 => exact ⟨(by decide : (0 : Int) ≤ (0 : Int32).toInt), (by decide : (0 : Int32).toInt < 256)⟩
    refine Go.aload X137 hx (hb hby at_239) rfl rfl (q := 241) rfl ?_
    refine Go.callS X137 hx hZ hown (wd4 hw) (wd5 hw) (wd6 hw) (wd7 hw) (by decide) (cisu l Z a0 hw b135 (k135) ((2 : Int32)) ([Y0, Y1, Y2, Y3, Y4, Y5, Y6, Y7]) h137 OW137 V137 hys (by decide)) e137 (by rw [hml]; rfl) (hb hby at_241) (argsL := [(.ref b135)]) (rest := []) (lenOf pd2 rfl) rfl rfl (W := 0) (by first | exact Nat.le_refl _ | decide) (by decide) (by decide) (by decide) (by decide) ?_
    intro v138 T138 L138 X138 hQ138
    obtain ⟨rfl, N138q, e138⟩ := hQ138
    have N138 := Fr.app N137 N138q
    refine Go.aload X138 hx (hb hby at_244) rfl rfl (q := 246) rfl ?_
    refine Go.iloadN X138 hx (hb hby at_246) rfl (q := 247) rfl ?_
    refine Go.callS X138 hx hZ hown (wd11 hw) (wd12 hw) (wd13 hw) (wd14 hw) (by decide) (cref l Z a0 hw b126 (k126) ((2 : Int32)) ([Y0, Y1, Y2, Y3, Y4, Y5, Y6, Y7]) h137 OW137 V134 hys (by decide)) e138 (by rw [hml]; rfl) (hb hby at_247) (argsL := [(.ref b126), (.int (2 : Int32))]) (rest := [(.int (own_U [Y0, Y1, Y2, Y3, Y4, Y5, Y6, Y7] (2 : Int32) 8 0))]) (lenOf pd3 rfl) rfl rfl (W := 1) (by first | exact Nat.le_refl _ | decide) (by decide) (by decide) (by decide) (by decide) ?_
    intro v139 T139 L139 X139 hQ139
    obtain ⟨rfl, N139q, e139⟩ := hQ139
    have N139 := Fr.app N138 N139q
    refine Go.icmpNo X139 hx (hb hby at_250) (Jvm.Free.XT.ii_ne_f rfl) (q := 253) rfl ?_
    refine Go.iconst X139 hx (hb hby at_253) (r := (1 : Int32)) rfl (q := 254) rfl ?_
    refine Go.goto X139 hx (hb hby at_254) (q := 258) (by decide) (by decide) ?_
    exact Go.retI X139 hx hret hlk (by simp) rfl (hb hby at_258) e139 (by decide) (by decide) ⟨rfl, N139⟩
  · show Go pp ee below _ (s₁.setTop (mkF mm 7 #[.val (.long px), .second, .val (.int pm), .unset, .unset, .unset] [(.int (3 : Int32))]))
    refine Go.istoreN X0 hx (hb hby at_7) (l' := #[.val (.long px), .second, .val (.int pm), .val (.int (3 : Int32)), .unset, .unset]) rfl (q := 8) rfl ?_
    refine Go.bipush X0 hx (hb hby at_8) (r := (8 : Int32)) rfl (q := 10) rfl ?_
    refine Go.newP X0 hx hZ (hb hby at_10) (wd1 hw) e0 (by decide) (cap := 8) (by decide) (by decide) (by decide) (by decide) (ad := "[I") rfl (q := 12) rfl ?_
    intro b140 T140 h140 k140 X140 e140 q140 E140 V140 B140
    have g_b140 : Z.heap.size ≤ b140 := Nat.le_trans O0.1 (Nat.le_of_eq q140)
    have OE140 := ext_trans O0 E140
    replace V140 : Arv Z h140 b140 k140 .int (8 : Int32) [(.int (0 : Int32)), (.int (0 : Int32)), (.int (0 : Int32)), (.int (0 : Int32)), (.int (0 : Int32)), (.int (0 : Int32)), (.int (0 : Int32)), (.int (0 : Int32))] (.int (0 : Int32)) := V140.pad (pad_rep [] (.int (0 : Int32)) 8)
    refine Go.astore X140 hx (hb hby at_12) rfl (l' := #[.val (.long px), .second, .val (.int pm), .val (.int (3 : Int32)), .val (.ref b140), .unset]) rfl (q := 14) rfl ?_
    refine Go.aload X140 hx (hb hby at_14) rfl rfl (q := 16) rfl ?_
    refine Go.iconst X140 hx (hb hby at_16) (r := (0 : Int32)) rfl (q := 17) rfl ?_
    refine Go.lloadN X140 hx (hb hby at_17) rfl (q := 18) rfl ?_
    refine Go.ldc2 X140 hx hZ hown (wd2 hw) (hb hby at_18) (q := 21) rfl ?_
    refine Go.land X140 hx (hb hby at_21) rfl (q := 22) rfl ?_
    refine Go.l2i X140 hx (hb hby at_22) rfl (q := 23) rfl ?_
    have bY0 := own_l255 px
    generalize ((px &&& (255 : Int64)).toInt32) = Y0 at bY0 ⊢
    show Go pp ee below _ (T140.setTop (mkF mm 23 #[.val (.long px), .second, .val (.int pm), .val (.int (3 : Int32)), .val (.ref b140), .unset] [(.int Y0), (.int (0 : Int32)), (.ref b140)]))
    refine Go.ist X140 hx hZ e140 V140 ⟨by decide, by decide⟩ (i := 0) rfl (Nat.le_of_ble_eq_true rfl) (hb hby at_23) ?_
    intro T141 h141 X141 e141 W141 V141
    replace V141 : Arv Z h141 b140 k140 .int (8 : Int32) [(.int Y0), (.int (0 : Int32)), (.int (0 : Int32)), (.int (0 : Int32)), (.int (0 : Int32)), (.int (0 : Int32)), (.int (0 : Int32)), (.int (0 : Int32))] (.int (0 : Int32)) := V141
    have N141 := Fr.snoc X141 N0 g_b140
    replace B140 := B140.wr W141
    have OW141 := ext_wr OE140 W141 g_b140
    refine Go.aload X141 hx (hb hby at_24) rfl rfl (q := 26) rfl ?_
    refine Go.iconst X141 hx (hb hby at_26) (r := (1 : Int32)) rfl (q := 27) rfl ?_
    refine Go.lloadN X141 hx (hb hby at_27) rfl (q := 28) rfl ?_
    refine Go.bipush X141 hx (hb hby at_28) (r := (8 : Int32)) rfl (q := 30) rfl ?_
    refine Go.lushr X141 hx (hb hby at_30) rfl (q := 31) rfl ?_
    refine Go.ldc2 X141 hx hZ hown (wd2 hw) (hb hby at_31) (q := 34) rfl ?_
    refine Go.land X141 hx (hb hby at_34) rfl (q := 35) rfl ?_
    refine Go.l2i X141 hx (hb hby at_35) rfl (q := 36) rfl ?_
    have bY1 := own_l255 ((px.toUInt64 >>> ((8 : Int32) &&& 0x3f).toInt64.toUInt64).toInt64)
    generalize ((((px.toUInt64 >>> ((8 : Int32) &&& 0x3f).toInt64.toUInt64).toInt64) &&& (255 : Int64)).toInt32) = Y1 at bY1 ⊢
    show Go pp ee below _ (T141.setTop (mkF mm 36 #[.val (.long px), .second, .val (.int pm), .val (.int (3 : Int32)), .val (.ref b140), .unset] [(.int Y1), (.int (1 : Int32)), (.ref b140)]))
    refine Go.ist X141 hx hZ e141 V141 ⟨by decide, by decide⟩ (i := 1) rfl (Nat.le_of_ble_eq_true rfl) (hb hby at_36) ?_
    intro T142 h142 X142 e142 W142 V142
    replace V142 : Arv Z h142 b140 k140 .int (8 : Int32) [(.int Y0), (.int Y1), (.int (0 : Int32)), (.int (0 : Int32)), (.int (0 : Int32)), (.int (0 : Int32)), (.int (0 : Int32)), (.int (0 : Int32))] (.int (0 : Int32)) := V142
    have N142 := Fr.snoc X142 N141 g_b140
    replace B140 := B140.wr W142
    have OW142 := ext_wr OW141 W142 g_b140
    refine Go.aload X142 hx (hb hby at_37) rfl rfl (q := 39) rfl ?_
    refine Go.iconst X142 hx (hb hby at_39) (r := (2 : Int32)) rfl (q := 40) rfl ?_
    refine Go.lloadN X142 hx (hb hby at_40) rfl (q := 41) rfl ?_
    refine Go.bipush X142 hx (hb hby at_41) (r := (16 : Int32)) rfl (q := 43) rfl ?_
    refine Go.lushr X142 hx (hb hby at_43) rfl (q := 44) rfl ?_
    refine Go.ldc2 X142 hx hZ hown (wd2 hw) (hb hby at_44) (q := 47) rfl ?_
    refine Go.land X142 hx (hb hby at_47) rfl (q := 48) rfl ?_
    refine Go.l2i X142 hx (hb hby at_48) rfl (q := 49) rfl ?_
    have bY2 := own_l255 ((px.toUInt64 >>> ((16 : Int32) &&& 0x3f).toInt64.toUInt64).toInt64)
    generalize ((((px.toUInt64 >>> ((16 : Int32) &&& 0x3f).toInt64.toUInt64).toInt64) &&& (255 : Int64)).toInt32) = Y2 at bY2 ⊢
    show Go pp ee below _ (T142.setTop (mkF mm 49 #[.val (.long px), .second, .val (.int pm), .val (.int (3 : Int32)), .val (.ref b140), .unset] [(.int Y2), (.int (2 : Int32)), (.ref b140)]))
    refine Go.ist X142 hx hZ e142 V142 ⟨by decide, by decide⟩ (i := 2) rfl (Nat.le_of_ble_eq_true rfl) (hb hby at_49) ?_
    intro T143 h143 X143 e143 W143 V143
    replace V143 : Arv Z h143 b140 k140 .int (8 : Int32) [(.int Y0), (.int Y1), (.int Y2), (.int (0 : Int32)), (.int (0 : Int32)), (.int (0 : Int32)), (.int (0 : Int32)), (.int (0 : Int32))] (.int (0 : Int32)) := V143
    have N143 := Fr.snoc X143 N142 g_b140
    replace B140 := B140.wr W143
    have OW143 := ext_wr OW142 W143 g_b140
    refine Go.aload X143 hx (hb hby at_50) rfl rfl (q := 52) rfl ?_
    refine Go.iconst X143 hx (hb hby at_52) (r := (3 : Int32)) rfl (q := 53) rfl ?_
    refine Go.lloadN X143 hx (hb hby at_53) rfl (q := 54) rfl ?_
    refine Go.bipush X143 hx (hb hby at_54) (r := (24 : Int32)) rfl (q := 56) rfl ?_
    refine Go.lushr X143 hx (hb hby at_56) rfl (q := 57) rfl ?_
    refine Go.ldc2 X143 hx hZ hown (wd2 hw) (hb hby at_57) (q := 60) rfl ?_
    refine Go.land X143 hx (hb hby at_60) rfl (q := 61) rfl ?_
    refine Go.l2i X143 hx (hb hby at_61) rfl (q := 62) rfl ?_
    have bY3 := own_l255 ((px.toUInt64 >>> ((24 : Int32) &&& 0x3f).toInt64.toUInt64).toInt64)
    generalize ((((px.toUInt64 >>> ((24 : Int32) &&& 0x3f).toInt64.toUInt64).toInt64) &&& (255 : Int64)).toInt32) = Y3 at bY3 ⊢
    show Go pp ee below _ (T143.setTop (mkF mm 62 #[.val (.long px), .second, .val (.int pm), .val (.int (3 : Int32)), .val (.ref b140), .unset] [(.int Y3), (.int (3 : Int32)), (.ref b140)]))
    refine Go.ist X143 hx hZ e143 V143 ⟨by decide, by decide⟩ (i := 3) rfl (Nat.le_of_ble_eq_true rfl) (hb hby at_62) ?_
    intro T144 h144 X144 e144 W144 V144
    replace V144 : Arv Z h144 b140 k140 .int (8 : Int32) [(.int Y0), (.int Y1), (.int Y2), (.int Y3), (.int (0 : Int32)), (.int (0 : Int32)), (.int (0 : Int32)), (.int (0 : Int32))] (.int (0 : Int32)) := V144
    have N144 := Fr.snoc X144 N143 g_b140
    replace B140 := B140.wr W144
    have OW144 := ext_wr OW143 W144 g_b140
    refine Go.aload X144 hx (hb hby at_63) rfl rfl (q := 65) rfl ?_
    refine Go.iconst X144 hx (hb hby at_65) (r := (4 : Int32)) rfl (q := 66) rfl ?_
    refine Go.lloadN X144 hx (hb hby at_66) rfl (q := 67) rfl ?_
    refine Go.bipush X144 hx (hb hby at_67) (r := (32 : Int32)) rfl (q := 69) rfl ?_
    refine Go.lushr X144 hx (hb hby at_69) rfl (q := 70) rfl ?_
    refine Go.ldc2 X144 hx hZ hown (wd2 hw) (hb hby at_70) (q := 73) rfl ?_
    refine Go.land X144 hx (hb hby at_73) rfl (q := 74) rfl ?_
    refine Go.l2i X144 hx (hb hby at_74) rfl (q := 75) rfl ?_
    have bY4 := own_l255 ((px.toUInt64 >>> ((32 : Int32) &&& 0x3f).toInt64.toUInt64).toInt64)
    generalize ((((px.toUInt64 >>> ((32 : Int32) &&& 0x3f).toInt64.toUInt64).toInt64) &&& (255 : Int64)).toInt32) = Y4 at bY4 ⊢
    show Go pp ee below _ (T144.setTop (mkF mm 75 #[.val (.long px), .second, .val (.int pm), .val (.int (3 : Int32)), .val (.ref b140), .unset] [(.int Y4), (.int (4 : Int32)), (.ref b140)]))
    refine Go.ist X144 hx hZ e144 V144 ⟨by decide, by decide⟩ (i := 4) rfl (Nat.le_of_ble_eq_true rfl) (hb hby at_75) ?_
    intro T145 h145 X145 e145 W145 V145
    replace V145 : Arv Z h145 b140 k140 .int (8 : Int32) [(.int Y0), (.int Y1), (.int Y2), (.int Y3), (.int Y4), (.int (0 : Int32)), (.int (0 : Int32)), (.int (0 : Int32))] (.int (0 : Int32)) := V145
    have N145 := Fr.snoc X145 N144 g_b140
    replace B140 := B140.wr W145
    have OW145 := ext_wr OW144 W145 g_b140
    refine Go.aload X145 hx (hb hby at_76) rfl rfl (q := 78) rfl ?_
    refine Go.iconst X145 hx (hb hby at_78) (r := (5 : Int32)) rfl (q := 79) rfl ?_
    refine Go.lloadN X145 hx (hb hby at_79) rfl (q := 80) rfl ?_
    refine Go.bipush X145 hx (hb hby at_80) (r := (40 : Int32)) rfl (q := 82) rfl ?_
    refine Go.lushr X145 hx (hb hby at_82) rfl (q := 83) rfl ?_
    refine Go.ldc2 X145 hx hZ hown (wd2 hw) (hb hby at_83) (q := 86) rfl ?_
    refine Go.land X145 hx (hb hby at_86) rfl (q := 87) rfl ?_
    refine Go.l2i X145 hx (hb hby at_87) rfl (q := 88) rfl ?_
    have bY5 := own_l255 ((px.toUInt64 >>> ((40 : Int32) &&& 0x3f).toInt64.toUInt64).toInt64)
    generalize ((((px.toUInt64 >>> ((40 : Int32) &&& 0x3f).toInt64.toUInt64).toInt64) &&& (255 : Int64)).toInt32) = Y5 at bY5 ⊢
    show Go pp ee below _ (T145.setTop (mkF mm 88 #[.val (.long px), .second, .val (.int pm), .val (.int (3 : Int32)), .val (.ref b140), .unset] [(.int Y5), (.int (5 : Int32)), (.ref b140)]))
    refine Go.ist X145 hx hZ e145 V145 ⟨by decide, by decide⟩ (i := 5) rfl (Nat.le_of_ble_eq_true rfl) (hb hby at_88) ?_
    intro T146 h146 X146 e146 W146 V146
    replace V146 : Arv Z h146 b140 k140 .int (8 : Int32) [(.int Y0), (.int Y1), (.int Y2), (.int Y3), (.int Y4), (.int Y5), (.int (0 : Int32)), (.int (0 : Int32))] (.int (0 : Int32)) := V146
    have N146 := Fr.snoc X146 N145 g_b140
    replace B140 := B140.wr W146
    have OW146 := ext_wr OW145 W146 g_b140
    refine Go.aload X146 hx (hb hby at_89) rfl rfl (q := 91) rfl ?_
    refine Go.bipush X146 hx (hb hby at_91) (r := (6 : Int32)) rfl (q := 93) rfl ?_
    refine Go.lloadN X146 hx (hb hby at_93) rfl (q := 94) rfl ?_
    refine Go.bipush X146 hx (hb hby at_94) (r := (48 : Int32)) rfl (q := 96) rfl ?_
    refine Go.lushr X146 hx (hb hby at_96) rfl (q := 97) rfl ?_
    refine Go.ldc2 X146 hx hZ hown (wd2 hw) (hb hby at_97) (q := 100) rfl ?_
    refine Go.land X146 hx (hb hby at_100) rfl (q := 101) rfl ?_
    refine Go.l2i X146 hx (hb hby at_101) rfl (q := 102) rfl ?_
    have bY6 := own_l255 ((px.toUInt64 >>> ((48 : Int32) &&& 0x3f).toInt64.toUInt64).toInt64)
    generalize ((((px.toUInt64 >>> ((48 : Int32) &&& 0x3f).toInt64.toUInt64).toInt64) &&& (255 : Int64)).toInt32) = Y6 at bY6 ⊢
    show Go pp ee below _ (T146.setTop (mkF mm 102 #[.val (.long px), .second, .val (.int pm), .val (.int (3 : Int32)), .val (.ref b140), .unset] [(.int Y6), (.int (6 : Int32)), (.ref b140)]))
    refine Go.ist X146 hx hZ e146 V146 ⟨by decide, by decide⟩ (i := 6) rfl (Nat.le_of_ble_eq_true rfl) (hb hby at_102) ?_
    intro T147 h147 X147 e147 W147 V147
    replace V147 : Arv Z h147 b140 k140 .int (8 : Int32) [(.int Y0), (.int Y1), (.int Y2), (.int Y3), (.int Y4), (.int Y5), (.int Y6), (.int (0 : Int32))] (.int (0 : Int32)) := V147
    have N147 := Fr.snoc X147 N146 g_b140
    replace B140 := B140.wr W147
    have OW147 := ext_wr OW146 W147 g_b140
    refine Go.aload X147 hx (hb hby at_103) rfl rfl (q := 105) rfl ?_
    refine Go.bipush X147 hx (hb hby at_105) (r := (7 : Int32)) rfl (q := 107) rfl ?_
    refine Go.lloadN X147 hx (hb hby at_107) rfl (q := 108) rfl ?_
    refine Go.bipush X147 hx (hb hby at_108) (r := (56 : Int32)) rfl (q := 110) rfl ?_
    refine Go.lushr X147 hx (hb hby at_110) rfl (q := 111) rfl ?_
    refine Go.ldc2 X147 hx hZ hown (wd2 hw) (hb hby at_111) (q := 114) rfl ?_
    refine Go.land X147 hx (hb hby at_114) rfl (q := 115) rfl ?_
    refine Go.l2i X147 hx (hb hby at_115) rfl (q := 116) rfl ?_
    have bY7 := own_l255 ((px.toUInt64 >>> ((56 : Int32) &&& 0x3f).toInt64.toUInt64).toInt64)
    generalize ((((px.toUInt64 >>> ((56 : Int32) &&& 0x3f).toInt64.toUInt64).toInt64) &&& (255 : Int64)).toInt32) = Y7 at bY7 ⊢
    show Go pp ee below _ (T147.setTop (mkF mm 116 #[.val (.long px), .second, .val (.int pm), .val (.int (3 : Int32)), .val (.ref b140), .unset] [(.int Y7), (.int (7 : Int32)), (.ref b140)]))
    refine Go.ist X147 hx hZ e147 V147 ⟨by decide, by decide⟩ (i := 7) rfl (Nat.le_of_ble_eq_true rfl) (hb hby at_116) ?_
    intro T148 h148 X148 e148 W148 V148
    replace V148 : Arv Z h148 b140 k140 .int (8 : Int32) [(.int Y0), (.int Y1), (.int Y2), (.int Y3), (.int Y4), (.int Y5), (.int Y6), (.int Y7)] (.int (0 : Int32)) := V148
    have N148 := Fr.snoc X148 N147 g_b140
    replace B140 := B140.wr W148
    have OW148 := ext_wr OW147 W148 g_b140
    refine Go.iloadN X148 hx (hb hby at_117) rfl (q := 118) rfl ?_
    refine Go.newP X148 hx hZ (hb hby at_118) (wd3 hw) e148 (by decide) (cap := 3) (by decide) (by decide) (by decide) (by decide) (ad := "[B") rfl (q := 120) rfl ?_
    intro b149 T149 h149 k149 X149 e149 q149 E149 V149 B149
    have ne_b140_b149 : b140 ≠ b149 := ne_new B140.lt (Nat.le_of_eq q149)
    have g_b149 : Z.heap.size ≤ b149 := Nat.le_trans OW148.1 (Nat.le_of_eq q149)
    replace B140 := B140.ext E149
    replace V148 := V148.ext E149
    have OE149 := ext_trans OW148 E149
    replace V149 : Arv Z h149 b149 k149 .byte (3 : Int32) [(.int (0 : Int32)), (.int (0 : Int32)), (.int (0 : Int32))] (.int (0 : Int32)) := V149.pad (pad_rep [] (.int (0 : Int32)) 3)
    refine Go.astore X149 hx (hb hby at_120) rfl (l' := #[.val (.long px), .second, .val (.int pm), .val (.int (3 : Int32)), .val (.ref b140), .val (.ref b149)]) rfl (q := 122) rfl ?_
    refine Go.iloadN X149 hx (hb hby at_122) rfl (q := 123) rfl ?_
    refine Go.ifNo X149 hx (hb hby at_123) (by decide) (q := 126) rfl ?_
    refine Go.aload X149 hx (hb hby at_126) rfl rfl (q := 128) rfl ?_
    refine Go.iconst X149 hx (hb hby at_128) (r := (0 : Int32)) rfl (q := 129) rfl ?_
    refine Go.aload X149 hx (hb hby at_129) rfl rfl (q := 131) rfl ?_
    refine Go.iconst X149 hx (hb hby at_131) (r := (0 : Int32)) rfl (q := 132) rfl ?_
    refine Go.ial X149 hx hZ e149 V148 ⟨by decide, by decide⟩ (v := (.int Y0)) rfl (hb hby at_132) ?_
    refine Go.i2b X149 hx (hb hby at_133) rfl (q := 134) rfl ?_
    refine Go.bst X149 hx hZ e149 V149 ⟨by decide, by decide⟩ (i := 0) rfl (Nat.le_of_ble_eq_true rfl) (hb hby at_134) ?_
    intro T150 h150 X150 e150 W150 V150
    rw [bb Y0] at V150
    replace V150 : Arv Z h150 b149 k149 .byte (3 : Int32) [(.int (Y0.toInt8.toInt32)), (.int (0 : Int32)), (.int (0 : Int32))] (.int (0 : Int32)) := V150
    have N150 := Fr.snoc X150 N148 g_b149
    replace B140 := B140.wr W150
    replace V148 := V148.other W150 ne_b140_b149
    replace B149 := B149.wr W150
    have OW150 := ext_wr OE149 W150 g_b149
    refine Go.iloadN X150 hx (hb hby at_135) rfl (q := 136) rfl ?_
    refine Go.iconst X150 hx (hb hby at_136) (r := (1 : Int32)) rfl (q := 137) rfl ?_
    refine Go.icmpNo X150 hx (hb hby at_137) (by decide) (q := 140) rfl ?_
    refine Go.aload X150 hx (hb hby at_140) rfl rfl (q := 142) rfl ?_
    refine Go.iconst X150 hx (hb hby at_142) (r := (1 : Int32)) rfl (q := 143) rfl ?_
    refine Go.aload X150 hx (hb hby at_143) rfl rfl (q := 145) rfl ?_
    refine Go.iconst X150 hx (hb hby at_145) (r := (1 : Int32)) rfl (q := 146) rfl ?_
    refine Go.ial X150 hx hZ e150 V148 ⟨by decide, by decide⟩ (v := (.int Y1)) rfl (hb hby at_146) ?_
    refine Go.i2b X150 hx (hb hby at_147) rfl (q := 148) rfl ?_
    refine Go.bst X150 hx hZ e150 V150 ⟨by decide, by decide⟩ (i := 1) rfl (Nat.le_of_ble_eq_true rfl) (hb hby at_148) ?_
    intro T151 h151 X151 e151 W151 V151
    rw [bb Y1] at V151
    replace V151 : Arv Z h151 b149 k149 .byte (3 : Int32) [(.int (Y0.toInt8.toInt32)), (.int (Y1.toInt8.toInt32)), (.int (0 : Int32))] (.int (0 : Int32)) := V151
    have N151 := Fr.snoc X151 N150 g_b149
    replace B140 := B140.wr W151
    replace V148 := V148.other W151 ne_b140_b149
    replace B149 := B149.wr W151
    have OW151 := ext_wr OW150 W151 g_b149
    refine Go.iloadN X151 hx (hb hby at_149) rfl (q := 150) rfl ?_
    refine Go.iconst X151 hx (hb hby at_150) (r := (2 : Int32)) rfl (q := 151) rfl ?_
    refine Go.icmpNo X151 hx (hb hby at_151) (by decide) (q := 154) rfl ?_
    refine Go.aload X151 hx (hb hby at_154) rfl rfl (q := 156) rfl ?_
    refine Go.iconst X151 hx (hb hby at_156) (r := (2 : Int32)) rfl (q := 157) rfl ?_
    refine Go.aload X151 hx (hb hby at_157) rfl rfl (q := 159) rfl ?_
    refine Go.iconst X151 hx (hb hby at_159) (r := (2 : Int32)) rfl (q := 160) rfl ?_
    refine Go.ial X151 hx hZ e151 V148 ⟨by decide, by decide⟩ (v := (.int Y2)) rfl (hb hby at_160) ?_
    refine Go.i2b X151 hx (hb hby at_161) rfl (q := 162) rfl ?_
    refine Go.bst X151 hx hZ e151 V151 ⟨by decide, by decide⟩ (i := 2) rfl (Nat.le_of_ble_eq_true rfl) (hb hby at_162) ?_
    intro T152 h152 X152 e152 W152 V152
    rw [bb Y2] at V152
    replace V152 : Arv Z h152 b149 k149 .byte (3 : Int32) [(.int (Y0.toInt8.toInt32)), (.int (Y1.toInt8.toInt32)), (.int (Y2.toInt8.toInt32))] (.int (0 : Int32)) := V152
    have N152 := Fr.snoc X152 N151 g_b149
    replace B140 := B140.wr W152
    replace V148 := V148.other W152 ne_b140_b149
    replace B149 := B149.wr W152
    have OW152 := ext_wr OW151 W152 g_b149
    refine Go.iloadN X152 hx (hb hby at_163) rfl (q := 164) rfl ?_
    refine Go.iconst X152 hx (hb hby at_164) (r := (3 : Int32)) rfl (q := 165) rfl ?_
    refine Go.icmpYes X152 hx (hb hby at_165) (by decide) (q := 177) (by decide) (by decide) ?_
    refine Go.iloadN X152 hx (hb hby at_177) rfl (q := 178) rfl ?_
    refine Go.iconst X152 hx (hb hby at_178) (r := (4 : Int32)) rfl (q := 179) rfl ?_
    refine Go.icmpYes X152 hx (hb hby at_179) (by decide) (q := 191) (by decide) (by decide) ?_
    refine Go.iloadN X152 hx (hb hby at_191) rfl (q := 192) rfl ?_
    refine Go.iconst X152 hx (hb hby at_192) (r := (5 : Int32)) rfl (q := 193) rfl ?_
    refine Go.icmpYes X152 hx (hb hby at_193) (by decide) (q := 205) (by decide) (by decide) ?_
    refine Go.iloadN X152 hx (hb hby at_205) rfl (q := 206) rfl ?_
    refine Go.bipush X152 hx (hb hby at_206) (r := (6 : Int32)) rfl (q := 208) rfl ?_
    refine Go.icmpYes X152 hx (hb hby at_208) (by decide) (q := 222) (by decide) (by decide) ?_
    refine Go.iloadN X152 hx (hb hby at_222) rfl (q := 223) rfl ?_
    refine Go.bipush X152 hx (hb hby at_223) (r := (7 : Int32)) rfl (q := 225) rfl ?_
    refine Go.icmpYes X152 hx (hb hby at_225) (by decide) (q := 239) (by decide) (by decide) ?_
    replace V152 := own_widen (vs' := ([Y0, Y1, Y2, Y3, Y4, Y5, Y6, Y7].map fun y => Value.int y.toInt8.toInt32)) V152 (by intro i hi; have hi' : i < 3 := hi; match i, hi' with | 0, _ => rfl | 1, _ => rfl | 2, _ => rfl | i' + 3, h => exact absurd h (by omega))
    replace V148 : Arv Z h152 b140 k140 .int (8 : Int32) ([Y0, Y1, Y2, Y3, Y4, Y5, Y6, Y7].map Value.int) (.int (0 : Int32)) := V148
    have hys : ∀ i : Nat, 0 ≤ ([Y0, Y1, Y2, Y3, Y4, Y5, Y6, Y7].getD i 0).toInt ∧ ([Y0, Y1, Y2, Y3, Y4, Y5, Y6, Y7].getD i 0).toInt < 256 := by intro i; match i with | 0 => exact bY0 | 1 => exact bY1 | 2 => exact bY2 | 3 => exact bY3 | 4 => exact bY4 | 5 => exact bY5 | 6 => exact bY6 | 7 => exact bY7 | i' + 8 => exact ⟨(by decide : (0 : Int) ≤ (0 : Int32).toInt), (by decide : (0 : Int32).toInt < 256)⟩
    refine Go.aload X152 hx (hb hby at_239) rfl rfl (q := 241) rfl ?_
    refine Go.callS X152 hx hZ hown (wd4 hw) (wd5 hw) (wd6 hw) (wd7 hw) (by decide) (cisu l Z a0 hw b149 (k149) ((3 : Int32)) ([Y0, Y1, Y2, Y3, Y4, Y5, Y6, Y7]) h152 OW152 V152 hys (by decide)) e152 (by rw [hml]; rfl) (hb hby at_241) (argsL := [(.ref b149)]) (rest := []) (lenOf pd2 rfl) rfl rfl (W := 0) (by first | exact Nat.le_refl _ | decide) (by decide) (by decide) (by decide) (by decide) ?_
    intro v153 T153 L153 X153 hQ153
    obtain ⟨rfl, N153q, e153⟩ := hQ153
    have N153 := Fr.app N152 N153q
    refine Go.aload X153 hx (hb hby at_244) rfl rfl (q := 246) rfl ?_
    refine Go.iloadN X153 hx (hb hby at_246) rfl (q := 247) rfl ?_
    refine Go.callS X153 hx hZ hown (wd11 hw) (wd12 hw) (wd13 hw) (wd14 hw) (by decide) (cref l Z a0 hw b140 (k140) ((3 : Int32)) ([Y0, Y1, Y2, Y3, Y4, Y5, Y6, Y7]) h152 OW152 V148 hys (by decide)) e153 (by rw [hml]; rfl) (hb hby at_247) (argsL := [(.ref b140), (.int (3 : Int32))]) (rest := [(.int (own_U [Y0, Y1, Y2, Y3, Y4, Y5, Y6, Y7] (3 : Int32) 8 0))]) (lenOf pd3 rfl) rfl rfl (W := 1) (by first | exact Nat.le_refl _ | decide) (by decide) (by decide) (by decide) (by decide) ?_
    intro v154 T154 L154 X154 hQ154
    obtain ⟨rfl, N154q, e154⟩ := hQ154
    have N154 := Fr.app N153 N154q
    refine Go.icmpNo X154 hx (hb hby at_250) (Jvm.Free.XT.ii_ne_f rfl) (q := 253) rfl ?_
    refine Go.iconst X154 hx (hb hby at_253) (r := (1 : Int32)) rfl (q := 254) rfl ?_
    refine Go.goto X154 hx (hb hby at_254) (q := 258) (by decide) (by decide) ?_
    exact Go.retI X154 hx hret hlk (by simp) rfl (hb hby at_258) e154 (by decide) (by decide) ⟨rfl, N154⟩
  · show Go pp ee below _ (s₁.setTop (mkF mm 7 #[.val (.long px), .second, .val (.int pm), .unset, .unset, .unset] [(.int (4 : Int32))]))
    refine Go.istoreN X0 hx (hb hby at_7) (l' := #[.val (.long px), .second, .val (.int pm), .val (.int (4 : Int32)), .unset, .unset]) rfl (q := 8) rfl ?_
    refine Go.bipush X0 hx (hb hby at_8) (r := (8 : Int32)) rfl (q := 10) rfl ?_
    refine Go.newP X0 hx hZ (hb hby at_10) (wd1 hw) e0 (by decide) (cap := 8) (by decide) (by decide) (by decide) (by decide) (ad := "[I") rfl (q := 12) rfl ?_
    intro b155 T155 h155 k155 X155 e155 q155 E155 V155 B155
    have g_b155 : Z.heap.size ≤ b155 := Nat.le_trans O0.1 (Nat.le_of_eq q155)
    have OE155 := ext_trans O0 E155
    replace V155 : Arv Z h155 b155 k155 .int (8 : Int32) [(.int (0 : Int32)), (.int (0 : Int32)), (.int (0 : Int32)), (.int (0 : Int32)), (.int (0 : Int32)), (.int (0 : Int32)), (.int (0 : Int32)), (.int (0 : Int32))] (.int (0 : Int32)) := V155.pad (pad_rep [] (.int (0 : Int32)) 8)
    refine Go.astore X155 hx (hb hby at_12) rfl (l' := #[.val (.long px), .second, .val (.int pm), .val (.int (4 : Int32)), .val (.ref b155), .unset]) rfl (q := 14) rfl ?_
    refine Go.aload X155 hx (hb hby at_14) rfl rfl (q := 16) rfl ?_
    refine Go.iconst X155 hx (hb hby at_16) (r := (0 : Int32)) rfl (q := 17) rfl ?_
    refine Go.lloadN X155 hx (hb hby at_17) rfl (q := 18) rfl ?_
    refine Go.ldc2 X155 hx hZ hown (wd2 hw) (hb hby at_18) (q := 21) rfl ?_
    refine Go.land X155 hx (hb hby at_21) rfl (q := 22) rfl ?_
    refine Go.l2i X155 hx (hb hby at_22) rfl (q := 23) rfl ?_
    have bY0 := own_l255 px
    generalize ((px &&& (255 : Int64)).toInt32) = Y0 at bY0 ⊢
    show Go pp ee below _ (T155.setTop (mkF mm 23 #[.val (.long px), .second, .val (.int pm), .val (.int (4 : Int32)), .val (.ref b155), .unset] [(.int Y0), (.int (0 : Int32)), (.ref b155)]))
    refine Go.ist X155 hx hZ e155 V155 ⟨by decide, by decide⟩ (i := 0) rfl (Nat.le_of_ble_eq_true rfl) (hb hby at_23) ?_
    intro T156 h156 X156 e156 W156 V156
    replace V156 : Arv Z h156 b155 k155 .int (8 : Int32) [(.int Y0), (.int (0 : Int32)), (.int (0 : Int32)), (.int (0 : Int32)), (.int (0 : Int32)), (.int (0 : Int32)), (.int (0 : Int32)), (.int (0 : Int32))] (.int (0 : Int32)) := V156
    have N156 := Fr.snoc X156 N0 g_b155
    replace B155 := B155.wr W156
    have OW156 := ext_wr OE155 W156 g_b155
    refine Go.aload X156 hx (hb hby at_24) rfl rfl (q := 26) rfl ?_
    refine Go.iconst X156 hx (hb hby at_26) (r := (1 : Int32)) rfl (q := 27) rfl ?_
    refine Go.lloadN X156 hx (hb hby at_27) rfl (q := 28) rfl ?_
    refine Go.bipush X156 hx (hb hby at_28) (r := (8 : Int32)) rfl (q := 30) rfl ?_
    refine Go.lushr X156 hx (hb hby at_30) rfl (q := 31) rfl ?_
    refine Go.ldc2 X156 hx hZ hown (wd2 hw) (hb hby at_31) (q := 34) rfl ?_
    refine Go.land X156 hx (hb hby at_34) rfl (q := 35) rfl ?_
    refine Go.l2i X156 hx (hb hby at_35) rfl (q := 36) rfl ?_
    have bY1 := own_l255 ((px.toUInt64 >>> ((8 : Int32) &&& 0x3f).toInt64.toUInt64).toInt64)
    generalize ((((px.toUInt64 >>> ((8 : Int32) &&& 0x3f).toInt64.toUInt64).toInt64) &&& (255 : Int64)).toInt32) = Y1 at bY1 ⊢
    show Go pp ee below _ (T156.setTop (mkF mm 36 #[.val (.long px), .second, .val (.int pm), .val (.int (4 : Int32)), .val (.ref b155), .unset] [(.int Y1), (.int (1 : Int32)), (.ref b155)]))
    refine Go.ist X156 hx hZ e156 V156 ⟨by decide, by decide⟩ (i := 1) rfl (Nat.le_of_ble_eq_true rfl) (hb hby at_36) ?_
    intro T157 h157 X157 e157 W157 V157
    replace V157 : Arv Z h157 b155 k155 .int (8 : Int32) [(.int Y0), (.int Y1), (.int (0 : Int32)), (.int (0 : Int32)), (.int (0 : Int32)), (.int (0 : Int32)), (.int (0 : Int32)), (.int (0 : Int32))] (.int (0 : Int32)) := V157
    have N157 := Fr.snoc X157 N156 g_b155
    replace B155 := B155.wr W157
    have OW157 := ext_wr OW156 W157 g_b155
    refine Go.aload X157 hx (hb hby at_37) rfl rfl (q := 39) rfl ?_
    refine Go.iconst X157 hx (hb hby at_39) (r := (2 : Int32)) rfl (q := 40) rfl ?_
    refine Go.lloadN X157 hx (hb hby at_40) rfl (q := 41) rfl ?_
    refine Go.bipush X157 hx (hb hby at_41) (r := (16 : Int32)) rfl (q := 43) rfl ?_
    refine Go.lushr X157 hx (hb hby at_43) rfl (q := 44) rfl ?_
    refine Go.ldc2 X157 hx hZ hown (wd2 hw) (hb hby at_44) (q := 47) rfl ?_
    refine Go.land X157 hx (hb hby at_47) rfl (q := 48) rfl ?_
    refine Go.l2i X157 hx (hb hby at_48) rfl (q := 49) rfl ?_
    have bY2 := own_l255 ((px.toUInt64 >>> ((16 : Int32) &&& 0x3f).toInt64.toUInt64).toInt64)
    generalize ((((px.toUInt64 >>> ((16 : Int32) &&& 0x3f).toInt64.toUInt64).toInt64) &&& (255 : Int64)).toInt32) = Y2 at bY2 ⊢
    show Go pp ee below _ (T157.setTop (mkF mm 49 #[.val (.long px), .second, .val (.int pm), .val (.int (4 : Int32)), .val (.ref b155), .unset] [(.int Y2), (.int (2 : Int32)), (.ref b155)]))
    refine Go.ist X157 hx hZ e157 V157 ⟨by decide, by decide⟩ (i := 2) rfl (Nat.le_of_ble_eq_true rfl) (hb hby at_49) ?_
    intro T158 h158 X158 e158 W158 V158
    replace V158 : Arv Z h158 b155 k155 .int (8 : Int32) [(.int Y0), (.int Y1), (.int Y2), (.int (0 : Int32)), (.int (0 : Int32)), (.int (0 : Int32)), (.int (0 : Int32)), (.int (0 : Int32))] (.int (0 : Int32)) := V158
    have N158 := Fr.snoc X158 N157 g_b155
    replace B155 := B155.wr W158
    have OW158 := ext_wr OW157 W158 g_b155
    refine Go.aload X158 hx (hb hby at_50) rfl rfl (q := 52) rfl ?_
    refine Go.iconst X158 hx (hb hby at_52) (r := (3 : Int32)) rfl (q := 53) rfl ?_
    refine Go.lloadN X158 hx (hb hby at_53) rfl (q := 54) rfl ?_
    refine Go.bipush X158 hx (hb hby at_54) (r := (24 : Int32)) rfl (q := 56) rfl ?_
    refine Go.lushr X158 hx (hb hby at_56) rfl (q := 57) rfl ?_
    refine Go.ldc2 X158 hx hZ hown (wd2 hw) (hb hby at_57) (q := 60) rfl ?_
    refine Go.land X158 hx (hb hby at_60) rfl (q := 61) rfl ?_
    refine Go.l2i X158 hx (hb hby at_61) rfl (q := 62) rfl ?_
    have bY3 := own_l255 ((px.toUInt64 >>> ((24 : Int32) &&& 0x3f).toInt64.toUInt64).toInt64)
    generalize ((((px.toUInt64 >>> ((24 : Int32) &&& 0x3f).toInt64.toUInt64).toInt64) &&& (255 : Int64)).toInt32) = Y3 at bY3 ⊢
    show Go pp ee below _ (T158.setTop (mkF mm 62 #[.val (.long px), .second, .val (.int pm), .val (.int (4 : Int32)), .val (.ref b155), .unset] [(.int Y3), (.int (3 : Int32)), (.ref b155)]))
    refine Go.ist X158 hx hZ e158 V158 ⟨by decide, by decide⟩ (i := 3) rfl (Nat.le_of_ble_eq_true rfl) (hb hby at_62) ?_
    intro T159 h159 X159 e159 W159 V159
    replace V159 : Arv Z h159 b155 k155 .int (8 : Int32) [(.int Y0), (.int Y1), (.int Y2), (.int Y3), (.int (0 : Int32)), (.int (0 : Int32)), (.int (0 : Int32)), (.int (0 : Int32))] (.int (0 : Int32)) := V159
    have N159 := Fr.snoc X159 N158 g_b155
    replace B155 := B155.wr W159
    have OW159 := ext_wr OW158 W159 g_b155
    refine Go.aload X159 hx (hb hby at_63) rfl rfl (q := 65) rfl ?_
    refine Go.iconst X159 hx (hb hby at_65) (r := (4 : Int32)) rfl (q := 66) rfl ?_
    refine Go.lloadN X159 hx (hb hby at_66) rfl (q := 67) rfl ?_
    refine Go.bipush X159 hx (hb hby at_67) (r := (32 : Int32)) rfl (q := 69) rfl ?_
    refine Go.lushr X159 hx (hb hby at_69) rfl (q := 70) rfl ?_
    refine Go.ldc2 X159 hx hZ hown (wd2 hw) (hb hby at_70) (q := 73) rfl ?_
    refine Go.land X159 hx (hb hby at_73) rfl (q := 74) rfl ?_
    refine Go.l2i X159 hx (hb hby at_74) rfl (q := 75) rfl ?_
    have bY4 := own_l255 ((px.toUInt64 >>> ((32 : Int32) &&& 0x3f).toInt64.toUInt64).toInt64)
    generalize ((((px.toUInt64 >>> ((32 : Int32) &&& 0x3f).toInt64.toUInt64).toInt64) &&& (255 : Int64)).toInt32) = Y4 at bY4 ⊢
    show Go pp ee below _ (T159.setTop (mkF mm 75 #[.val (.long px), .second, .val (.int pm), .val (.int (4 : Int32)), .val (.ref b155), .unset] [(.int Y4), (.int (4 : Int32)), (.ref b155)]))
    refine Go.ist X159 hx hZ e159 V159 ⟨by decide, by decide⟩ (i := 4) rfl (Nat.le_of_ble_eq_true rfl) (hb hby at_75) ?_
    intro T160 h160 X160 e160 W160 V160
    replace V160 : Arv Z h160 b155 k155 .int (8 : Int32) [(.int Y0), (.int Y1), (.int Y2), (.int Y3), (.int Y4), (.int (0 : Int32)), (.int (0 : Int32)), (.int (0 : Int32))] (.int (0 : Int32)) := V160
    have N160 := Fr.snoc X160 N159 g_b155
    replace B155 := B155.wr W160
    have OW160 := ext_wr OW159 W160 g_b155
    refine Go.aload X160 hx (hb hby at_76) rfl rfl (q := 78) rfl ?_
    refine Go.iconst X160 hx (hb hby at_78) (r := (5 : Int32)) rfl (q := 79) rfl ?_
    refine Go.lloadN X160 hx (hb hby at_79) rfl (q := 80) rfl ?_
    refine Go.bipush X160 hx (hb hby at_80) (r := (40 : Int32)) rfl (q := 82) rfl ?_
    refine Go.lushr X160 hx (hb hby at_82) rfl (q := 83) rfl ?_
    refine Go.ldc2 X160 hx hZ hown (wd2 hw) (hb hby at_83) (q := 86) rfl ?_
    refine Go.land X160 hx (hb hby at_86) rfl (q := 87) rfl ?_
    refine Go.l2i X160 hx (hb hby at_87) rfl (q := 88) rfl ?_
    have bY5 := own_l255 ((px.toUInt64 >>> ((40 : Int32) &&& 0x3f).toInt64.toUInt64).toInt64)
    generalize ((((px.toUInt64 >>> ((40 : Int32) &&& 0x3f).toInt64.toUInt64).toInt64) &&& (255 : Int64)).toInt32) = Y5 at bY5 ⊢
    show Go pp ee below _ (T160.setTop (mkF mm 88 #[.val (.long px), .second, .val (.int pm), .val (.int (4 : Int32)), .val (.ref b155), .unset] [(.int Y5), (.int (5 : Int32)), (.ref b155)]))
    refine Go.ist X160 hx hZ e160 V160 ⟨by decide, by decide⟩ (i := 5) rfl (Nat.le_of_ble_eq_true rfl) (hb hby at_88) ?_
    intro T161 h161 X161 e161 W161 V161
    replace V161 : Arv Z h161 b155 k155 .int (8 : Int32) [(.int Y0), (.int Y1), (.int Y2), (.int Y3), (.int Y4), (.int Y5), (.int (0 : Int32)), (.int (0 : Int32))] (.int (0 : Int32)) := V161
    have N161 := Fr.snoc X161 N160 g_b155
    replace B155 := B155.wr W161
    have OW161 := ext_wr OW160 W161 g_b155
    refine Go.aload X161 hx (hb hby at_89) rfl rfl (q := 91) rfl ?_
    refine Go.bipush X161 hx (hb hby at_91) (r := (6 : Int32)) rfl (q := 93) rfl ?_
    refine Go.lloadN X161 hx (hb hby at_93) rfl (q := 94) rfl ?_
    refine Go.bipush X161 hx (hb hby at_94) (r := (48 : Int32)) rfl (q := 96) rfl ?_
    refine Go.lushr X161 hx (hb hby at_96) rfl (q := 97) rfl ?_
    refine Go.ldc2 X161 hx hZ hown (wd2 hw) (hb hby at_97) (q := 100) rfl ?_
    refine Go.land X161 hx (hb hby at_100) rfl (q := 101) rfl ?_
    refine Go.l2i X161 hx (hb hby at_101) rfl (q := 102) rfl ?_
    have bY6 := own_l255 ((px.toUInt64 >>> ((48 : Int32) &&& 0x3f).toInt64.toUInt64).toInt64)
    generalize ((((px.toUInt64 >>> ((48 : Int32) &&& 0x3f).toInt64.toUInt64).toInt64) &&& (255 : Int64)).toInt32) = Y6 at bY6 ⊢
    show Go pp ee below _ (T161.setTop (mkF mm 102 #[.val (.long px), .second, .val (.int pm), .val (.int (4 : Int32)), .val (.ref b155), .unset] [(.int Y6), (.int (6 : Int32)), (.ref b155)]))
    refine Go.ist X161 hx hZ e161 V161 ⟨by decide, by decide⟩ (i := 6) rfl (Nat.le_of_ble_eq_true rfl) (hb hby at_102) ?_
    intro T162 h162 X162 e162 W162 V162
    replace V162 : Arv Z h162 b155 k155 .int (8 : Int32) [(.int Y0), (.int Y1), (.int Y2), (.int Y3), (.int Y4), (.int Y5), (.int Y6), (.int (0 : Int32))] (.int (0 : Int32)) := V162
    have N162 := Fr.snoc X162 N161 g_b155
    replace B155 := B155.wr W162
    have OW162 := ext_wr OW161 W162 g_b155
    refine Go.aload X162 hx (hb hby at_103) rfl rfl (q := 105) rfl ?_
    refine Go.bipush X162 hx (hb hby at_105) (r := (7 : Int32)) rfl (q := 107) rfl ?_
    refine Go.lloadN X162 hx (hb hby at_107) rfl (q := 108) rfl ?_
    refine Go.bipush X162 hx (hb hby at_108) (r := (56 : Int32)) rfl (q := 110) rfl ?_
    refine Go.lushr X162 hx (hb hby at_110) rfl (q := 111) rfl ?_
    refine Go.ldc2 X162 hx hZ hown (wd2 hw) (hb hby at_111) (q := 114) rfl ?_
    refine Go.land X162 hx (hb hby at_114) rfl (q := 115) rfl ?_
    refine Go.l2i X162 hx (hb hby at_115) rfl (q := 116) rfl ?_
    have bY7 := own_l255 ((px.toUInt64 >>> ((56 : Int32) &&& 0x3f).toInt64.toUInt64).toInt64)
    generalize ((((px.toUInt64 >>> ((56 : Int32) &&& 0x3f).toInt64.toUInt64).toInt64) &&& (255 : Int64)).toInt32) = Y7 at bY7 ⊢
    show Go pp ee below _ (T162.setTop (mkF mm 116 #[.val (.long px), .second, .val (.int pm), .val (.int (4 : Int32)), .val (.ref b155), .unset] [(.int Y7), (.int (7 : Int32)), (.ref b155)]))
    refine Go.ist X162 hx hZ e162 V162 ⟨by decide, by decide⟩ (i := 7) rfl (Nat.le_of_ble_eq_true rfl) (hb hby at_116) ?_
    intro T163 h163 X163 e163 W163 V163
    replace V163 : Arv Z h163 b155 k155 .int (8 : Int32) [(.int Y0), (.int Y1), (.int Y2), (.int Y3), (.int Y4), (.int Y5), (.int Y6), (.int Y7)] (.int (0 : Int32)) := V163
    have N163 := Fr.snoc X163 N162 g_b155
    replace B155 := B155.wr W163
    have OW163 := ext_wr OW162 W163 g_b155
    refine Go.iloadN X163 hx (hb hby at_117) rfl (q := 118) rfl ?_
    refine Go.newP X163 hx hZ (hb hby at_118) (wd3 hw) e163 (by decide) (cap := 4) (by decide) (by decide) (by decide) (by decide) (ad := "[B") rfl (q := 120) rfl ?_
    intro b164 T164 h164 k164 X164 e164 q164 E164 V164 B164
    have ne_b155_b164 : b155 ≠ b164 := ne_new B155.lt (Nat.le_of_eq q164)
    have g_b164 : Z.heap.size ≤ b164 := Nat.le_trans OW163.1 (Nat.le_of_eq q164)
    replace B155 := B155.ext E164
    replace V163 := V163.ext E164
    have OE164 := ext_trans OW163 E164
    replace V164 : Arv Z h164 b164 k164 .byte (4 : Int32) [(.int (0 : Int32)), (.int (0 : Int32)), (.int (0 : Int32)), (.int (0 : Int32))] (.int (0 : Int32)) := V164.pad (pad_rep [] (.int (0 : Int32)) 4)
    refine Go.astore X164 hx (hb hby at_120) rfl (l' := #[.val (.long px), .second, .val (.int pm), .val (.int (4 : Int32)), .val (.ref b155), .val (.ref b164)]) rfl (q := 122) rfl ?_
    refine Go.iloadN X164 hx (hb hby at_122) rfl (q := 123) rfl ?_
    refine Go.ifNo X164 hx (hb hby at_123) (by decide) (q := 126) rfl ?_
    refine Go.aload X164 hx (hb hby at_126) rfl rfl (q := 128) rfl ?_
    refine Go.iconst X164 hx (hb hby at_128) (r := (0 : Int32)) rfl (q := 129) rfl ?_
    refine Go.aload X164 hx (hb hby at_129) rfl rfl (q := 131) rfl ?_
    refine Go.iconst X164 hx (hb hby at_131) (r := (0 : Int32)) rfl (q := 132) rfl ?_
    refine Go.ial X164 hx hZ e164 V163 ⟨by decide, by decide⟩ (v := (.int Y0)) rfl (hb hby at_132) ?_
    refine Go.i2b X164 hx (hb hby at_133) rfl (q := 134) rfl ?_
    refine Go.bst X164 hx hZ e164 V164 ⟨by decide, by decide⟩ (i := 0) rfl (Nat.le_of_ble_eq_true rfl) (hb hby at_134) ?_
    intro T165 h165 X165 e165 W165 V165
    rw [bb Y0] at V165
    replace V165 : Arv Z h165 b164 k164 .byte (4 : Int32) [(.int (Y0.toInt8.toInt32)), (.int (0 : Int32)), (.int (0 : Int32)), (.int (0 : Int32))] (.int (0 : Int32)) := V165
    have N165 := Fr.snoc X165 N163 g_b164
    replace B155 := B155.wr W165
    replace V163 := V163.other W165 ne_b155_b164
    replace B164 := B164.wr W165
    have OW165 := ext_wr OE164 W165 g_b164
    refine Go.iloadN X165 hx (hb hby at_135) rfl (q := 136) rfl ?_
    refine Go.iconst X165 hx (hb hby at_136) (r := (1 : Int32)) rfl (q := 137) rfl ?_
    refine Go.icmpNo X165 hx (hb hby at_137) (by decide) (q := 140) rfl ?_
    refine Go.aload X165 hx (hb hby at_140) rfl rfl (q := 142) rfl ?_
    refine Go.iconst X165 hx (hb hby at_142) (r := (1 : Int32)) rfl (q := 143) rfl ?_
    refine Go.aload X165 hx (hb hby at_143) rfl rfl (q := 145) rfl ?_
    refine Go.iconst X165 hx (hb hby at_145) (r := (1 : Int32)) rfl (q := 146) rfl ?_
    refine Go.ial X165 hx hZ e165 V163 ⟨by decide, by decide⟩ (v := (.int Y1)) rfl (hb hby at_146) ?_
    refine Go.i2b X165 hx (hb hby at_147) rfl (q := 148) rfl ?_
    refine Go.bst X165 hx hZ e165 V165 ⟨by decide, by decide⟩ (i := 1) rfl (Nat.le_of_ble_eq_true rfl) (hb hby at_148) ?_
    intro T166 h166 X166 e166 W166 V166
    rw [bb Y1] at V166
    replace V166 : Arv Z h166 b164 k164 .byte (4 : Int32) [(.int (Y0.toInt8.toInt32)), (.int (Y1.toInt8.toInt32)), (.int (0 : Int32)), (.int (0 : Int32))] (.int (0 : Int32)) := V166
    have N166 := Fr.snoc X166 N165 g_b164
    replace B155 := B155.wr W166
    replace V163 := V163.other W166 ne_b155_b164
    replace B164 := B164.wr W166
    have OW166 := ext_wr OW165 W166 g_b164
    refine Go.iloadN X166 hx (hb hby at_149) rfl (q := 150) rfl ?_
    refine Go.iconst X166 hx (hb hby at_150) (r := (2 : Int32)) rfl (q := 151) rfl ?_
    refine Go.icmpNo X166 hx (hb hby at_151) (by decide) (q := 154) rfl ?_
    refine Go.aload X166 hx (hb hby at_154) rfl rfl (q := 156) rfl ?_
    refine Go.iconst X166 hx (hb hby at_156) (r := (2 : Int32)) rfl (q := 157) rfl ?_
    refine Go.aload X166 hx (hb hby at_157) rfl rfl (q := 159) rfl ?_
    refine Go.iconst X166 hx (hb hby at_159) (r := (2 : Int32)) rfl (q := 160) rfl ?_
    refine Go.ial X166 hx hZ e166 V163 ⟨by decide, by decide⟩ (v := (.int Y2)) rfl (hb hby at_160) ?_
    refine Go.i2b X166 hx (hb hby at_161) rfl (q := 162) rfl ?_
    refine Go.bst X166 hx hZ e166 V166 ⟨by decide, by decide⟩ (i := 2) rfl (Nat.le_of_ble_eq_true rfl) (hb hby at_162) ?_
    intro T167 h167 X167 e167 W167 V167
    rw [bb Y2] at V167
    replace V167 : Arv Z h167 b164 k164 .byte (4 : Int32) [(.int (Y0.toInt8.toInt32)), (.int (Y1.toInt8.toInt32)), (.int (Y2.toInt8.toInt32)), (.int (0 : Int32))] (.int (0 : Int32)) := V167
    have N167 := Fr.snoc X167 N166 g_b164
    replace B155 := B155.wr W167
    replace V163 := V163.other W167 ne_b155_b164
    replace B164 := B164.wr W167
    have OW167 := ext_wr OW166 W167 g_b164
    refine Go.iloadN X167 hx (hb hby at_163) rfl (q := 164) rfl ?_
    refine Go.iconst X167 hx (hb hby at_164) (r := (3 : Int32)) rfl (q := 165) rfl ?_
    refine Go.icmpNo X167 hx (hb hby at_165) (by decide) (q := 168) rfl ?_
    refine Go.aload X167 hx (hb hby at_168) rfl rfl (q := 170) rfl ?_
    refine Go.iconst X167 hx (hb hby at_170) (r := (3 : Int32)) rfl (q := 171) rfl ?_
    refine Go.aload X167 hx (hb hby at_171) rfl rfl (q := 173) rfl ?_
    refine Go.iconst X167 hx (hb hby at_173) (r := (3 : Int32)) rfl (q := 174) rfl ?_
    refine Go.ial X167 hx hZ e167 V163 ⟨by decide, by decide⟩ (v := (.int Y3)) rfl (hb hby at_174) ?_
    refine Go.i2b X167 hx (hb hby at_175) rfl (q := 176) rfl ?_
    refine Go.bst X167 hx hZ e167 V167 ⟨by decide, by decide⟩ (i := 3) rfl (Nat.le_of_ble_eq_true rfl) (hb hby at_176) ?_
    intro T168 h168 X168 e168 W168 V168
    rw [bb Y3] at V168
    replace V168 : Arv Z h168 b164 k164 .byte (4 : Int32) [(.int (Y0.toInt8.toInt32)), (.int (Y1.toInt8.toInt32)), (.int (Y2.toInt8.toInt32)), (.int (Y3.toInt8.toInt32))] (.int (0 : Int32)) := V168
    have N168 := Fr.snoc X168 N167 g_b164
    replace B155 := B155.wr W168
    replace V163 := V163.other W168 ne_b155_b164
    replace B164 := B164.wr W168
    have OW168 := ext_wr OW167 W168 g_b164
    refine Go.iloadN X168 hx (hb hby at_177) rfl (q := 178) rfl ?_
    refine Go.iconst X168 hx (hb hby at_178) (r := (4 : Int32)) rfl (q := 179) rfl ?_
    refine Go.icmpYes X168 hx (hb hby at_179) (by decide) (q := 191) (by decide) (by decide) ?_
    refine Go.iloadN X168 hx (hb hby at_191) rfl (q := 192) rfl ?_
    refine Go.iconst X168 hx (hb hby at_192) (r := (5 : Int32)) rfl (q := 193) rfl ?_
    refine Go.icmpYes X168 hx (hb hby at_193) (by decide) (q := 205) (by decide) (by decide) ?_
    refine Go.iloadN X168 hx (hb hby at_205) rfl (q := 206) rfl ?_
    refine Go.bipush X168 hx (hb hby at_206) (r := (6 : Int32)) rfl (q := 208) rfl ?_
    refine Go.icmpYes X168 hx (hb hby at_208) (by decide) (q := 222) (by decide) (by decide) ?_
    refine Go.iloadN X168 hx (hb hby at_222) rfl (q := 223) rfl ?_
    refine Go.bipush X168 hx (hb hby at_223) (r := (7 : Int32)) rfl (q := 225) rfl ?_
    refine Go.icmpYes X168 hx (hb hby at_225) (by decide) (q := 239) (by decide) (by decide) ?_
    replace V168 := own_widen (vs' := ([Y0, Y1, Y2, Y3, Y4, Y5, Y6, Y7].map fun y => Value.int y.toInt8.toInt32)) V168 (by intro i hi; have hi' : i < 4 := hi; match i, hi' with | 0, _ => rfl | 1, _ => rfl | 2, _ => rfl | 3, _ => rfl | i' + 4, h => exact absurd h (by omega))
    replace V163 : Arv Z h168 b155 k155 .int (8 : Int32) ([Y0, Y1, Y2, Y3, Y4, Y5, Y6, Y7].map Value.int) (.int (0 : Int32)) := V163
    have hys : ∀ i : Nat, 0 ≤ ([Y0, Y1, Y2, Y3, Y4, Y5, Y6, Y7].getD i 0).toInt ∧ ([Y0, Y1, Y2, Y3, Y4, Y5, Y6, Y7].getD i 0).toInt < 256 := by intro i; match i with | 0 => exact bY0 | 1 => exact bY1 | 2 => exact bY2 | 3 => exact bY3 | 4 => exact bY4 | 5 => exact bY5 | 6 => exact bY6 | 7 => exact bY7 | i' + 8 => exact ⟨(by decide : (0 : Int) ≤ (0 : Int32).toInt), (by decide : (0 : Int32).toInt < 256)⟩
    refine Go.aload X168 hx (hb hby at_239) rfl rfl (q := 241) rfl ?_
    refine Go.callS X168 hx hZ hown (wd4 hw) (wd5 hw) (wd6 hw) (wd7 hw) (by decide) (cisu l Z a0 hw b164 (k164) ((4 : Int32)) ([Y0, Y1, Y2, Y3, Y4, Y5, Y6, Y7]) h168 OW168 V168 hys (by decide)) e168 (by rw [hml]; rfl) (hb hby at_241) (argsL := [(.ref b164)]) (rest := []) (lenOf pd2 rfl) rfl rfl (W := 0) (by first | exact Nat.le_refl _ | decide) (by decide) (by decide) (by decide) (by decide) ?_
    intro v169 T169 L169 X169 hQ169
    obtain ⟨rfl, N169q, e169⟩ := hQ169
    have N169 := Fr.app N168 N169q
    refine Go.aload X169 hx (hb hby at_244) rfl rfl (q := 246) rfl ?_
    refine Go.iloadN X169 hx (hb hby at_246) rfl (q := 247) rfl ?_
    refine Go.callS X169 hx hZ hown (wd11 hw) (wd12 hw) (wd13 hw) (wd14 hw) (by decide) (cref l Z a0 hw b155 (k155) ((4 : Int32)) ([Y0, Y1, Y2, Y3, Y4, Y5, Y6, Y7]) h168 OW168 V163 hys (by decide)) e169 (by rw [hml]; rfl) (hb hby at_247) (argsL := [(.ref b155), (.int (4 : Int32))]) (rest := [(.int (own_U [Y0, Y1, Y2, Y3, Y4, Y5, Y6, Y7] (4 : Int32) 8 0))]) (lenOf pd3 rfl) rfl rfl (W := 1) (by first | exact Nat.le_refl _ | decide) (by decide) (by decide) (by decide) (by decide) ?_
    intro v170 T170 L170 X170 hQ170
    obtain ⟨rfl, N170q, e170⟩ := hQ170
    have N170 := Fr.app N169 N170q
    refine Go.icmpNo X170 hx (hb hby at_250) (Jvm.Free.XT.ii_ne_f rfl) (q := 253) rfl ?_
    refine Go.iconst X170 hx (hb hby at_253) (r := (1 : Int32)) rfl (q := 254) rfl ?_
    refine Go.goto X170 hx (hb hby at_254) (q := 258) (by decide) (by decide) ?_
    exact Go.retI X170 hx hret hlk (by simp) rfl (hb hby at_258) e170 (by decide) (by decide) ⟨rfl, N170⟩
  · show Go pp ee below _ (s₁.setTop (mkF mm 7 #[.val (.long px), .second, .val (.int pm), .unset, .unset, .unset] [(.int (5 : Int32))]))
    refine Go.istoreN X0 hx (hb hby at_7) (l' := #[.val (.long px), .second, .val (.int pm), .val (.int (5 : Int32)), .unset, .unset]) rfl (q := 8) rfl ?_
    refine Go.bipush X0 hx (hb hby at_8) (r := (8 : Int32)) rfl (q := 10) rfl ?_
    refine Go.newP X0 hx hZ (hb hby at_10) (wd1 hw) e0 (by decide) (cap := 8) (by decide) (by decide) (by decide) (by decide) (ad := "[I") rfl (q := 12) rfl ?_
    intro b171 T171 h171 k171 X171 e171 q171 E171 V171 B171
    have g_b171 : Z.heap.size ≤ b171 := Nat.le_trans O0.1 (Nat.le_of_eq q171)
    have OE171 := ext_trans O0 E171
    replace V171 : Arv Z h171 b171 k171 .int (8 : Int32) [(.int (0 : Int32)), (.int (0 : Int32)), (.int (0 : Int32)), (.int (0 : Int32)), (.int (0 : Int32)), (.int (0 : Int32)), (.int (0 : Int32)), (.int (0 : Int32))] (.int (0 : Int32)) := V171.pad (pad_rep [] (.int (0 : Int32)) 8)
    refine Go.astore X171 hx (hb hby at_12) rfl (l' := #[.val (.long px), .second, .val (.int pm), .val (.int (5 : Int32)), .val (.ref b171), .unset]) rfl (q := 14) rfl ?_
    refine Go.aload X171 hx (hb hby at_14) rfl rfl (q := 16) rfl ?_
    refine Go.iconst X171 hx (hb hby at_16) (r := (0 : Int32)) rfl (q := 17) rfl ?_
    refine Go.lloadN X171 hx (hb hby at_17) rfl (q := 18) rfl ?_
    refine Go.ldc2 X171 hx hZ hown (wd2 hw) (hb hby at_18) (q := 21) rfl ?_
    refine Go.land X171 hx (hb hby at_21) rfl (q := 22) rfl ?_
    refine Go.l2i X171 hx (hb hby at_22) rfl (q := 23) rfl ?_
    have bY0 := own_l255 px
    generalize ((px &&& (255 : Int64)).toInt32) = Y0 at bY0 ⊢
    show Go pp ee below _ (T171.setTop (mkF mm 23 #[.val (.long px), .second, .val (.int pm), .val (.int (5 : Int32)), .val (.ref b171), .unset] [(.int Y0), (.int (0 : Int32)), (.ref b171)]))
    refine Go.ist X171 hx hZ e171 V171 ⟨by decide, by decide⟩ (i := 0) rfl (Nat.le_of_ble_eq_true rfl) (hb hby at_23) ?_
    intro T172 h172 X172 e172 W172 V172
    replace V172 : Arv Z h172 b171 k171 .int (8 : Int32) [(.int Y0), (.int (0 : Int32)), (.int (0 : Int32)), (.int (0 : Int32)), (.int (0 : Int32)), (.int (0 : Int32)), (.int (0 : Int32)), (.int (0 : Int32))] (.int (0 : Int32)) := V172
    have N172 := Fr.snoc X172 N0 g_b171
    replace B171 := B171.wr W172
    have OW172 := ext_wr OE171 W172 g_b171
    refine Go.aload X172 hx (hb hby at_24) rfl rfl (q := 26) rfl ?_
    refine Go.iconst X172 hx (hb hby at_26) (r := (1 : Int32)) rfl (q := 27) rfl ?_
    refine Go.lloadN X172 hx (hb hby at_27) rfl (q := 28) rfl ?_
    refine Go.bipush X172 hx (hb hby at_28) (r := (8 : Int32)) rfl (q := 30) rfl ?_
    refine Go.lushr X172 hx (hb hby at_30) rfl (q := 31) rfl ?_
    refine Go.ldc2 X172 hx hZ hown (wd2 hw) (hb hby at_31) (q := 34) rfl ?_
    refine Go.land X172 hx (hb hby at_34) rfl (q := 35) rfl ?_
    refine Go.l2i X172 hx (hb hby at_35) rfl (q := 36) rfl ?_
    have bY1 := own_l255 ((px.toUInt64 >>> ((8 : Int32) &&& 0x3f).toInt64.toUInt64).toInt64)
    generalize ((((px.toUInt64 >>> ((8 : Int32) &&& 0x3f).toInt64.toUInt64).toInt64) &&& (255 : Int64)).toInt32) = Y1 at bY1 ⊢
    show Go pp ee below _ (T172.setTop (mkF mm 36 #[.val (.long px), .second, .val (.int pm), .val (.int (5 : Int32)), .val (.ref b171), .unset] [(.int Y1), (.int (1 : Int32)), (.ref b171)]))
    refine Go.ist X172 hx hZ e172 V172 ⟨by decide, by decide⟩ (i := 1) rfl (Nat.le_of_ble_eq_true rfl) (hb hby at_36) ?_
    intro T173 h173 X173 e173 W173 V173
    replace V173 : Arv Z h173 b171 k171 .int (8 : Int32) [(.int Y0), (.int Y1), (.int (0 : Int32)), (.int (0 : Int32)), (.int (0 : Int32)), (.int (0 : Int32)), (.int (0 : Int32)), (.int (0 : Int32))] (.int (0 : Int32)) := V173
    have N173 := Fr.snoc X173 N172 g_b171
    replace B171 := B171.wr W173
    have OW173 := ext_wr OW172 W173 g_b171
    refine Go.aload X173 hx (hb hby at_37) rfl rfl (q := 39) rfl ?_
    refine Go.iconst X173 hx (hb hby at_39) (r := (2 : Int32)) rfl (q := 40) rfl ?_
    refine Go.lloadN X173 hx (hb hby at_40) rfl (q := 41) rfl ?_
    refine Go.bipush X173 hx (hb hby at_41) (r := (16 : Int32)) rfl (q := 43) rfl ?_
    refine Go.lushr X173 hx (hb hby at_43) rfl (q := 44) rfl ?_
    refine Go.ldc2 X173 hx hZ hown (wd2 hw) (hb hby at_44) (q := 47) rfl ?_
    refine Go.land X173 hx (hb hby at_47) rfl (q := 48) rfl ?_
    refine Go.l2i X173 hx (hb hby at_48) rfl (q := 49) rfl ?_
    have bY2 := own_l255 ((px.toUInt64 >>> ((16 : Int32) &&& 0x3f).toInt64.toUInt64).toInt64)
    generalize ((((px.toUInt64 >>> ((16 : Int32) &&& 0x3f).toInt64.toUInt64).toInt64) &&& (255 : Int64)).toInt32) = Y2 at bY2 ⊢
    show Go pp ee below _ (T173.setTop (mkF mm 49 #[.val (.long px), .second, .val (.int pm), .val (.int (5 : Int32)), .val (.ref b171), .unset] [(.int Y2), (.int (2 : Int32)), (.ref b171)]))
    refine Go.ist X173 hx hZ e173 V173 ⟨by decide, by decide⟩ (i := 2) rfl (Nat.le_of_ble_eq_true rfl) (hb hby at_49) ?_
    intro T174 h174 X174 e174 W174 V174
    replace V174 : Arv Z h174 b171 k171 .int (8 : Int32) [(.int Y0), (.int Y1), (.int Y2), (.int (0 : Int32)), (.int (0 : Int32)), (.int (0 : Int32)), (.int (0 : Int32)), (.int (0 : Int32))] (.int (0 : Int32)) := V174
    have N174 := Fr.snoc X174 N173 g_b171
    replace B171 := B171.wr W174
    have OW174 := ext_wr OW173 W174 g_b171
    refine Go.aload X174 hx (hb hby at_50) rfl rfl (q := 52) rfl ?_
    refine Go.iconst X174 hx (hb hby at_52) (r := (3 : Int32)) rfl (q := 53) rfl ?_
    refine Go.lloadN X174 hx (hb hby at_53) rfl (q := 54) rfl ?_
    refine Go.bipush X174 hx (hb hby at_54) (r := (24 : Int32)) rfl (q := 56) rfl ?_
    refine Go.lushr X174 hx (hb hby at_56) rfl (q := 57) rfl ?_
    refine Go.ldc2 X174 hx hZ hown (wd2 hw) (hb hby at_57) (q := 60) rfl ?_
    refine Go.land X174 hx (hb hby at_60) rfl (q := 61) rfl ?_
    refine Go.l2i X174 hx (hb hby at_61) rfl (q := 62) rfl ?_
    have bY3 := own_l255 ((px.toUInt64 >>> ((24 : Int32) &&& 0x3f).toInt64.toUInt64).toInt64)
    generalize ((((px.toUInt64 >>> ((24 : Int32) &&& 0x3f).toInt64.toUInt64).toInt64) &&& (255 : Int64)).toInt32) = Y3 at bY3 ⊢
    show Go pp ee below _ (T174.setTop (mkF mm 62 #[.val (.long px), .second, .val (.int pm), .val (.int (5 : Int32)), .val (.ref b171), .unset] [(.int Y3), (.int (3 : Int32)), (.ref b171)]))
    refine Go.ist X174 hx hZ e174 V174 ⟨by decide, by decide⟩ (i := 3) rfl (Nat.le_of_ble_eq_true rfl) (hb hby at_62) ?_
    intro T175 h175 X175 e175 W175 V175
    replace V175 : Arv Z h175 b171 k171 .int (8 : Int32) [(.int Y0), (.int Y1), (.int Y2), (.int Y3), (.int (0 : Int32)), (.int (0 : Int32)), (.int (0 : Int32)), (.int (0 : Int32))] (.int (0 : Int32)) := V175
    have N175 := Fr.snoc X175 N174 g_b171
    replace B171 := B171.wr W175
    have OW175 := ext_wr OW174 W175 g_b171
    refine Go.aload X175 hx (hb hby at_63) rfl rfl (q := 65) rfl ?_
    refine Go.iconst X175 hx (hb hby at_65) (r := (4 : Int32)) rfl (q := 66) rfl ?_
    refine Go.lloadN X175 hx (hb hby at_66) rfl (q := 67) rfl ?_
    refine Go.bipush X175 hx (hb hby at_67) (r := (32 : Int32)) rfl (q := 69) rfl ?_
    refine Go.lushr X175 hx (hb hby at_69) rfl (q := 70) rfl ?_
    refine Go.ldc2 X175 hx hZ hown (wd2 hw) (hb hby at_70) (q := 73) rfl ?_
    refine Go.land X175 hx (hb hby at_73) rfl (q := 74) rfl ?_
    refine Go.l2i X175 hx (hb hby at_74) rfl (q := 75) rfl ?_
    have bY4 := own_l255 ((px.toUInt64 >>> ((32 : Int32) &&& 0x3f).toInt64.toUInt64).toInt64)
    generalize ((((px.toUInt64 >>> ((32 : Int32) &&& 0x3f).toInt64.toUInt64).toInt64) &&& (255 : Int64)).toInt32) = Y4 at bY4 ⊢
    show Go pp ee below _ (T175.setTop (mkF mm 75 #[.val (.long px), .second, .val (.int pm), .val (.int (5 : Int32)), .val (.ref b171), .unset] [(.int Y4), (.int (4 : Int32)), (.ref b171)]))
    refine Go.ist X175 hx hZ e175 V175 ⟨by decide, by decide⟩ (i := 4) rfl (Nat.le_of_ble_eq_true rfl) (hb hby at_75) ?_
    intro T176 h176 X176 e176 W176 V176
    replace V176 : Arv Z h176 b171 k171 .int (8 : Int32) [(.int Y0), (.int Y1), (.int Y2), (.int Y3), (.int Y4), (.int (0 : Int32)), (.int (0 : Int32)), (.int (0 : Int32))] (.int (0 : Int32)) := V176
    have N176 := Fr.snoc X176 N175 g_b171
    replace B171 := B171.wr W176
    have OW176 := ext_wr OW175 W176 g_b171
    refine Go.aload X176 hx (hb hby at_76) rfl rfl (q := 78) rfl ?_
    refine Go.iconst X176 hx (hb hby at_78) (r := (5 : Int32)) rfl (q := 79) rfl ?_
    refine Go.lloadN X176 hx (hb hby at_79) rfl (q := 80) rfl ?_
    refine Go.bipush X176 hx (hb hby at_80) (r := (40 : Int32)) rfl (q := 82) rfl ?_
    refine Go.lushr X176 hx (hb hby at_82) rfl (q := 83) rfl ?_
    refine Go.ldc2 X176 hx hZ hown (wd2 hw) (hb hby at_83) (q := 86) rfl ?_
    refine Go.land X176 hx (hb hby at_86) rfl (q := 87) rfl ?_
    refine Go.l2i X176 hx (hb hby at_87) rfl (q := 88) rfl ?_
    have bY5 := own_l255 ((px.toUInt64 >>> ((40 : Int32) &&& 0x3f).toInt64.toUInt64).toInt64)
    generalize ((((px.toUInt64 >>> ((40 : Int32) &&& 0x3f).toInt64.toUInt64).toInt64) &&& (255 : Int64)).toInt32) = Y5 at bY5 ⊢
    show Go pp ee below _ (T176.setTop (mkF mm 88 #[.val (.long px), .second, .val (.int pm), .val (.int (5 : Int32)), .val (.ref b171), .unset] [(.int Y5), (.int (5 : Int32)), (.ref b171)]))
    refine Go.ist X176 hx hZ e176 V176 ⟨by decide, by decide⟩ (i := 5) rfl (Nat.le_of_ble_eq_true rfl) (hb hby at_88) ?_
    intro T177 h177 X177 e177 W177 V177
    replace V177 : Arv Z h177 b171 k171 .int (8 : Int32) [(.int Y0), (.int Y1), (.int Y2), (.int Y3), (.int Y4), (.int Y5), (.int (0 : Int32)), (.int (0 : Int32))] (.int (0 : Int32)) := V177
    have N177 := Fr.snoc X177 N176 g_b171
    replace B171 := B171.wr W177
    have OW177 := ext_wr OW176 W177 g_b171
    refine Go.aload X177 hx (hb hby at_89) rfl rfl (q := 91) rfl ?_
    refine Go.bipush X177 hx (hb hby at_91) (r := (6 : Int32)) rfl (q := 93) rfl ?_
    refine Go.lloadN X177 hx (hb hby at_93) rfl (q := 94) rfl ?_
    refine Go.bipush X177 hx (hb hby at_94) (r := (48 : Int32)) rfl (q := 96) rfl ?_
    refine Go.lushr X177 hx (hb hby at_96) rfl (q := 97) rfl ?_
    refine Go.ldc2 X177 hx hZ hown (wd2 hw) (hb hby at_97) (q := 100) rfl ?_
    refine Go.land X177 hx (hb hby at_100) rfl (q := 101) rfl ?_
    refine Go.l2i X177 hx (hb hby at_101) rfl (q := 102) rfl ?_
    have bY6 := own_l255 ((px.toUInt64 >>> ((48 : Int32) &&& 0x3f).toInt64.toUInt64).toInt64)
    generalize ((((px.toUInt64 >>> ((48 : Int32) &&& 0x3f).toInt64.toUInt64).toInt64) &&& (255 : Int64)).toInt32) = Y6 at bY6 ⊢
    show Go pp ee below _ (T177.setTop (mkF mm 102 #[.val (.long px), .second, .val (.int pm), .val (.int (5 : Int32)), .val (.ref b171), .unset] [(.int Y6), (.int (6 : Int32)), (.ref b171)]))
    refine Go.ist X177 hx hZ e177 V177 ⟨by decide, by decide⟩ (i := 6) rfl (Nat.le_of_ble_eq_true rfl) (hb hby at_102) ?_
    intro T178 h178 X178 e178 W178 V178
    replace V178 : Arv Z h178 b171 k171 .int (8 : Int32) [(.int Y0), (.int Y1), (.int Y2), (.int Y3), (.int Y4), (.int Y5), (.int Y6), (.int (0 : Int32))] (.int (0 : Int32)) := V178
    have N178 := Fr.snoc X178 N177 g_b171
    replace B171 := B171.wr W178
    have OW178 := ext_wr OW177 W178 g_b171
    refine Go.aload X178 hx (hb hby at_103) rfl rfl (q := 105) rfl ?_
    refine Go.bipush X178 hx (hb hby at_105) (r := (7 : Int32)) rfl (q := 107) rfl ?_
    refine Go.lloadN X178 hx (hb hby at_107) rfl (q := 108) rfl ?_
    refine Go.bipush X178 hx (hb hby at_108) (r := (56 : Int32)) rfl (q := 110) rfl ?_
    refine Go.lushr X178 hx (hb hby at_110) rfl (q := 111) rfl ?_
    refine Go.ldc2 X178 hx hZ hown (wd2 hw) (hb hby at_111) (q := 114) rfl ?_
    refine Go.land X178 hx (hb hby at_114) rfl (q := 115) rfl ?_
    refine Go.l2i X178 hx (hb hby at_115) rfl (q := 116) rfl ?_
    have bY7 := own_l255 ((px.toUInt64 >>> ((56 : Int32) &&& 0x3f).toInt64.toUInt64).toInt64)
    generalize ((((px.toUInt64 >>> ((56 : Int32) &&& 0x3f).toInt64.toUInt64).toInt64) &&& (255 : Int64)).toInt32) = Y7 at bY7 ⊢
    show Go pp ee below _ (T178.setTop (mkF mm 116 #[.val (.long px), .second, .val (.int pm), .val (.int (5 : Int32)), .val (.ref b171), .unset] [(.int Y7), (.int (7 : Int32)), (.ref b171)]))
    refine Go.ist X178 hx hZ e178 V178 ⟨by decide, by decide⟩ (i := 7) rfl (Nat.le_of_ble_eq_true rfl) (hb hby at_116) ?_
    intro T179 h179 X179 e179 W179 V179
    replace V179 : Arv Z h179 b171 k171 .int (8 : Int32) [(.int Y0), (.int Y1), (.int Y2), (.int Y3), (.int Y4), (.int Y5), (.int Y6), (.int Y7)] (.int (0 : Int32)) := V179
    have N179 := Fr.snoc X179 N178 g_b171
    replace B171 := B171.wr W179
    have OW179 := ext_wr OW178 W179 g_b171
    refine Go.iloadN X179 hx (hb hby at_117) rfl (q := 118) rfl ?_
    refine Go.newP X179 hx hZ (hb hby at_118) (wd3 hw) e179 (by decide) (cap := 5) (by decide) (by decide) (by decide) (by decide) (ad := "[B") rfl (q := 120) rfl ?_
    intro b180 T180 h180 k180 X180 e180 q180 E180 V180 B180
    have ne_b171_b180 : b171 ≠ b180 := ne_new B171.lt (Nat.le_of_eq q180)
    have g_b180 : Z.heap.size ≤ b180 := Nat.le_trans OW179.1 (Nat.le_of_eq q180)
    replace B171 := B171.ext E180
    replace V179 := V179.ext E180
    have OE180 := ext_trans OW179 E180
    replace V180 : Arv Z h180 b180 k180 .byte (5 : Int32) [(.int (0 : Int32)), (.int (0 : Int32)), (.int (0 : Int32)), (.int (0 : Int32)), (.int (0 : Int32))] (.int (0 : Int32)) := V180.pad (pad_rep [] (.int (0 : Int32)) 5)
    refine Go.astore X180 hx (hb hby at_120) rfl (l' := #[.val (.long px), .second, .val (.int pm), .val (.int (5 : Int32)), .val (.ref b171), .val (.ref b180)]) rfl (q := 122) rfl ?_
    refine Go.iloadN X180 hx (hb hby at_122) rfl (q := 123) rfl ?_
    refine Go.ifNo X180 hx (hb hby at_123) (by decide) (q := 126) rfl ?_
    refine Go.aload X180 hx (hb hby at_126) rfl rfl (q := 128) rfl ?_
    refine Go.iconst X180 hx (hb hby at_128) (r := (0 : Int32)) rfl (q := 129) rfl ?_
    refine Go.aload X180 hx (hb hby at_129) rfl rfl (q := 131) rfl ?_
    refine Go.iconst X180 hx (hb hby at_131) (r := (0 : Int32)) rfl (q := 132) rfl ?_
    refine Go.ial X180 hx hZ e180 V179 ⟨by decide, by decide⟩ (v := (.int Y0)) rfl (hb hby at_132) ?_
    refine Go.i2b X180 hx (hb hby at_133) rfl (q := 134) rfl ?_
    refine Go.bst X180 hx hZ e180 V180 ⟨by decide, by decide⟩ (i := 0) rfl (Nat.le_of_ble_eq_true rfl) (hb hby at_134) ?_
    intro T181 h181 X181 e181 W181 V181
    rw [bb Y0] at V181
    replace V181 : Arv Z h181 b180 k180 .byte (5 : Int32) [(.int (Y0.toInt8.toInt32)), (.int (0 : Int32)), (.int (0 : Int32)), (.int (0 : Int32)), (.int (0 : Int32))] (.int (0 : Int32)) := V181
    have N181 := Fr.snoc X181 N179 g_b180
    replace B171 := B171.wr W181
    replace V179 := V179.other W181 ne_b171_b180
    replace B180 := B180.wr W181
    have OW181 := ext_wr OE180 W181 g_b180
    refine Go.iloadN X181 hx (hb hby at_135) rfl (q := 136) rfl ?_
    refine Go.iconst X181 hx (hb hby at_136) (r := (1 : Int32)) rfl (q := 137) rfl ?_
    refine Go.icmpNo X181 hx (hb hby at_137) (by decide) (q := 140) rfl ?_
    refine Go.aload X181 hx (hb hby at_140) rfl rfl (q := 142) rfl ?_
    refine Go.iconst X181 hx (hb hby at_142) (r := (1 : Int32)) rfl (q := 143) rfl ?_
    refine Go.aload X181 hx (hb hby at_143) rfl rfl (q := 145) rfl ?_
    refine Go.iconst X181 hx (hb hby at_145) (r := (1 : Int32)) rfl (q := 146) rfl ?_
    refine Go.ial X181 hx hZ e181 V179 ⟨by decide, by decide⟩ (v := (.int Y1)) rfl (hb hby at_146) ?_
    refine Go.i2b X181 hx (hb hby at_147) rfl (q := 148) rfl ?_
    refine Go.bst X181 hx hZ e181 V181 ⟨by decide, by decide⟩ (i := 1) rfl (Nat.le_of_ble_eq_true rfl) (hb hby at_148) ?_
    intro T182 h182 X182 e182 W182 V182
    rw [bb Y1] at V182
    replace V182 : Arv Z h182 b180 k180 .byte (5 : Int32) [(.int (Y0.toInt8.toInt32)), (.int (Y1.toInt8.toInt32)), (.int (0 : Int32)), (.int (0 : Int32)), (.int (0 : Int32))] (.int (0 : Int32)) := V182
    have N182 := Fr.snoc X182 N181 g_b180
    replace B171 := B171.wr W182
    replace V179 := V179.other W182 ne_b171_b180
    replace B180 := B180.wr W182
    have OW182 := ext_wr OW181 W182 g_b180
    refine Go.iloadN X182 hx (hb hby at_149) rfl (q := 150) rfl ?_
    refine Go.iconst X182 hx (hb hby at_150) (r := (2 : Int32)) rfl (q := 151) rfl ?_
    refine Go.icmpNo X182 hx (hb hby at_151) (by decide) (q := 154) rfl ?_
    refine Go.aload X182 hx (hb hby at_154) rfl rfl (q := 156) rfl ?_
    refine Go.iconst X182 hx (hb hby at_156) (r := (2 : Int32)) rfl (q := 157) rfl ?_
    refine Go.aload X182 hx (hb hby at_157) rfl rfl (q := 159) rfl ?_
    refine Go.iconst X182 hx (hb hby at_159) (r := (2 : Int32)) rfl (q := 160) rfl ?_
    refine Go.ial X182 hx hZ e182 V179 ⟨by decide, by decide⟩ (v := (.int Y2)) rfl (hb hby at_160) ?_
    refine Go.i2b X182 hx (hb hby at_161) rfl (q := 162) rfl ?_
    refine Go.bst X182 hx hZ e182 V182 ⟨by decide, by decide⟩ (i := 2) rfl (Nat.le_of_ble_eq_true rfl) (hb hby at_162) ?_
    intro T183 h183 X183 e183 W183 V183
    rw [bb Y2] at V183
    replace V183 : Arv Z h183 b180 k180 .byte (5 : Int32) [(.int (Y0.toInt8.toInt32)), (.int (Y1.toInt8.toInt32)), (.int (Y2.toInt8.toInt32)), (.int (0 : Int32)), (.int (0 : Int32))] (.int (0 : Int32)) := V183
    have N183 := Fr.snoc X183 N182 g_b180
    replace B171 := B171.wr W183
    replace V179 := V179.other W183 ne_b171_b180
    replace B180 := B180.wr W183
    have OW183 := ext_wr OW182 W183 g_b180
    refine Go.iloadN X183 hx (hb hby at_163) rfl (q := 164) rfl ?_
    refine Go.iconst X183 hx (hb hby at_164) (r := (3 : Int32)) rfl (q := 165) rfl ?_
    refine Go.icmpNo X183 hx (hb hby at_165) (by decide) (q := 168) rfl ?_
    refine Go.aload X183 hx (hb hby at_168) rfl rfl (q := 170) rfl ?_
    refine Go.iconst X183 hx (hb hby at_170) (r := (3 : Int32)) rfl (q := 171) rfl ?_
    refine Go.aload X183 hx (hb hby at_171) rfl rfl (q := 173) rfl ?_
    refine Go.iconst X183 hx (hb hby at_173) (r := (3 : Int32)) rfl (q := 174) rfl ?_
    refine Go.ial X183 hx hZ e183 V179 ⟨by decide, by decide⟩ (v := (.int Y3)) rfl (hb hby at_174) ?_
    refine Go.i2b X183 hx (hb hby at_175) rfl (q := 176) rfl ?_
    refine Go.bst X183 hx hZ e183 V183 ⟨by decide, by decide⟩ (i := 3) rfl (Nat.le_of_ble_eq_true rfl) (hb hby at_176) ?_
    intro T184 h184 X184 e184 W184 V184
    rw [bb Y3] at V184
    replace V184 : Arv Z h184 b180 k180 .byte (5 : Int32) [(.int (Y0.toInt8.toInt32)), (.int (Y1.toInt8.toInt32)), (.int (Y2.toInt8.toInt32)), (.int (Y3.toInt8.toInt32)), (.int (0 : Int32))] (.int (0 : Int32)) := V184
    have N184 := Fr.snoc X184 N183 g_b180
    replace B171 := B171.wr W184
    replace V179 := V179.other W184 ne_b171_b180
    replace B180 := B180.wr W184
    have OW184 := ext_wr OW183 W184 g_b180
    refine Go.iloadN X184 hx (hb hby at_177) rfl (q := 178) rfl ?_
    refine Go.iconst X184 hx (hb hby at_178) (r := (4 : Int32)) rfl (q := 179) rfl ?_
    refine Go.icmpNo X184 hx (hb hby at_179) (by decide) (q := 182) rfl ?_
    refine Go.aload X184 hx (hb hby at_182) rfl rfl (q := 184) rfl ?_
    refine Go.iconst X184 hx (hb hby at_184) (r := (4 : Int32)) rfl (q := 185) rfl ?_
    refine Go.aload X184 hx (hb hby at_185) rfl rfl (q := 187) rfl ?_
    refine Go.iconst X184 hx (hb hby at_187) (r := (4 : Int32)) rfl (q := 188) rfl ?_
    refine Go.ial X184 hx hZ e184 V179 ⟨by decide, by decide⟩ (v := (.int Y4)) rfl (hb hby at_188) ?_
    refine Go.i2b X184 hx (hb hby at_189) rfl (q := 190) rfl ?_
    refine Go.bst X184 hx hZ e184 V184 ⟨by decide, by decide⟩ (i := 4) rfl (Nat.le_of_ble_eq_true rfl) (hb hby at_190) ?_
    intro T185 h185 X185 e185 W185 V185
    rw [bb Y4] at V185
    replace V185 : Arv Z h185 b180 k180 .byte (5 : Int32) [(.int (Y0.toInt8.toInt32)), (.int (Y1.toInt8.toInt32)), (.int (Y2.toInt8.toInt32)), (.int (Y3.toInt8.toInt32)), (.int (Y4.toInt8.toInt32))] (.int (0 : Int32)) := V185
    have N185 := Fr.snoc X185 N184 g_b180
    replace B171 := B171.wr W185
    replace V179 := V179.other W185 ne_b171_b180
    replace B180 := B180.wr W185
    have OW185 := ext_wr OW184 W185 g_b180
    refine Go.iloadN X185 hx (hb hby at_191) rfl (q := 192) rfl ?_
    refine Go.iconst X185 hx (hb hby at_192) (r := (5 : Int32)) rfl (q := 193) rfl ?_
    refine Go.icmpYes X185 hx (hb hby at_193) (by decide) (q := 205) (by decide) (by decide) ?_
    refine Go.iloadN X185 hx (hb hby at_205) rfl (q := 206) rfl ?_
    refine Go.bipush X185 hx (hb hby at_206) (r := (6 : Int32)) rfl (q := 208) rfl ?_
    refine Go.icmpYes X185 hx (hb hby at_208) (by decide) (q := 222) (by decide) (by decide) ?_
    refine Go.iloadN X185 hx (hb hby at_222) rfl (q := 223) rfl ?_
    refine Go.bipush X185 hx (hb hby at_223) (r := (7 : Int32)) rfl (q := 225) rfl ?_
    refine Go.icmpYes X185 hx (hb hby at_225) (by decide) (q := 239) (by decide) (by decide) ?_
    replace V185 := own_widen (vs' := ([Y0, Y1, Y2, Y3, Y4, Y5, Y6, Y7].map fun y => Value.int y.toInt8.toInt32)) V185 (by intro i hi; have hi' : i < 5 := hi; match i, hi' with | 0, _ => rfl | 1, _ => rfl | 2, _ => rfl | 3, _ => rfl | 4, _ => rfl | i' + 5, h => exact absurd h (by omega))
    replace V179 : Arv Z h185 b171 k171 .int (8 : Int32) ([Y0, Y1, Y2, Y3, Y4, Y5, Y6, Y7].map Value.int) (.int (0 : Int32)) := V179
    have hys : ∀ i : Nat, 0 ≤ ([Y0, Y1, Y2, Y3, Y4, Y5, Y6, Y7].getD i 0).toInt ∧ ([Y0, Y1, Y2, Y3, Y4, Y5, Y6, Y7].getD i 0).toInt < 256 := by intro i; match i with | 0 => exact bY0 | 1 => exact bY1 | 2 => exact bY2 | 3 => exact bY3 | 4 => exact bY4 | 5 => exact bY5 | 6 => exact bY6 | 7 => exact bY7 | i' + 8 => exact ⟨(by decide : (0 : Int) ≤ (0 : Int32).toInt), (by decide : (0 : Int32).toInt < 256)⟩
    refine Go.aload X185 hx (hb hby at_239) rfl rfl (q := 241) rfl ?_
    refine Go.callS X185 hx hZ hown (wd4 hw) (wd5 hw) (wd6 hw) (wd7 hw) (by decide) (cisu l Z a0 hw b180 (k180) ((5 : Int32)) ([Y0, Y1, Y2, Y3, Y4, Y5, Y6, Y7]) h185 OW185 V185 hys (by decide)) e185 (by rw [hml]; rfl) (hb hby at_241) (argsL := [(.ref b180)]) (rest := []) (lenOf pd2 rfl) rfl rfl (W := 0) (by first | exact Nat.le_refl _ | decide) (by decide) (by decide) (by decide) (by decide) ?_
    intro v186 T186 L186 X186 hQ186
    obtain ⟨rfl, N186q, e186⟩ := hQ186
    have N186 := Fr.app N185 N186q
    refine Go.aload X186 hx (hb hby at_244) rfl rfl (q := 246) rfl ?_
    refine Go.iloadN X186 hx (hb hby at_246) rfl (q := 247) rfl ?_
    refine Go.callS X186 hx hZ hown (wd11 hw) (wd12 hw) (wd13 hw) (wd14 hw) (by decide) (cref l Z a0 hw b171 (k171) ((5 : Int32)) ([Y0, Y1, Y2, Y3, Y4, Y5, Y6, Y7]) h185 OW185 V179 hys (by decide)) e186 (by rw [hml]; rfl) (hb hby at_247) (argsL := [(.ref b171), (.int (5 : Int32))]) (rest := [(.int (own_U [Y0, Y1, Y2, Y3, Y4, Y5, Y6, Y7] (5 : Int32) 8 0))]) (lenOf pd3 rfl) rfl rfl (W := 1) (by first | exact Nat.le_refl _ | decide) (by decide) (by decide) (by decide) (by decide) ?_
    intro v187 T187 L187 X187 hQ187
    obtain ⟨rfl, N187q, e187⟩ := hQ187
    have N187 := Fr.app N186 N187q
    refine Go.icmpNo X187 hx (hb hby at_250) (Jvm.Free.XT.ii_ne_f rfl) (q := 253) rfl ?_
    refine Go.iconst X187 hx (hb hby at_253) (r := (1 : Int32)) rfl (q := 254) rfl ?_
    refine Go.goto X187 hx (hb hby at_254) (q := 258) (by decide) (by decide) ?_
    exact Go.retI X187 hx hret hlk (by simp) rfl (hb hby at_258) e187 (by decide) (by decide) ⟨rfl, N187⟩
  · show Go pp ee below _ (s₁.setTop (mkF mm 7 #[.val (.long px), .second, .val (.int pm), .unset, .unset, .unset] [(.int (6 : Int32))]))
    refine Go.istoreN X0 hx (hb hby at_7) (l' := #[.val (.long px), .second, .val (.int pm), .val (.int (6 : Int32)), .unset, .unset]) rfl (q := 8) rfl ?_
    refine Go.bipush X0 hx (hb hby at_8) (r := (8 : Int32)) rfl (q := 10) rfl ?_
    refine Go.newP X0 hx hZ (hb hby at_10) (wd1 hw) e0 (by decide) (cap := 8) (by decide) (by decide) (by decide) (by decide) (ad := "[I") rfl (q := 12) rfl ?_
    intro b188 T188 h188 k188 X188 e188 q188 E188 V188 B188
    have g_b188 : Z.heap.size ≤ b188 := Nat.le_trans O0.1 (Nat.le_of_eq q188)
    have OE188 := ext_trans O0 E188
    replace V188 : Arv Z h188 b188 k188 .int (8 : Int32) [(.int (0 : Int32)), (.int (0 : Int32)), (.int (0 : Int32)), (.int (0 : Int32)), (.int (0 : Int32)), (.int (0 : Int32)), (.int (0 : Int32)), (.int (0 : Int32))] (.int (0 : Int32)) := V188.pad (pad_rep [] (.int (0 : Int32)) 8)
    refine Go.astore X188 hx (hb hby at_12) rfl (l' := #[.val (.long px), .second, .val (.int pm), .val (.int (6 : Int32)), .val (.ref b188), .unset]) rfl (q := 14) rfl ?_
    refine Go.aload X188 hx (hb hby at_14) rfl rfl (q := 16) rfl ?_
    refine Go.iconst X188 hx (hb hby at_16) (r := (0 : Int32)) rfl (q := 17) rfl ?_
    refine Go.lloadN X188 hx (hb hby at_17) rfl (q := 18) rfl ?_
    refine Go.ldc2 X188 hx hZ hown (wd2 hw) (hb hby at_18) (q := 21) rfl ?_
    refine Go.land X188 hx (hb hby at_21) rfl (q := 22) rfl ?_
    refine Go.l2i X188 hx (hb hby at_22) rfl (q := 23) rfl ?_
    have bY0 := own_l255 px
    generalize ((px &&& (255 : Int64)).toInt32) = Y0 at bY0 ⊢
    show Go pp ee below _ (T188.setTop (mkF mm 23 #[.val (.long px), .second, .val (.int pm), .val (.int (6 : Int32)), .val (.ref b188), .unset] [(.int Y0), (.int (0 : Int32)), (.ref b188)]))
    refine Go.ist X188 hx hZ e188 V188 ⟨by decide, by decide⟩ (i := 0) rfl (Nat.le_of_ble_eq_true rfl) (hb hby at_23) ?_
    intro T189 h189 X189 e189 W189 V189
    replace V189 : Arv Z h189 b188 k188 .int (8 : Int32) [(.int Y0), (.int (0 : Int32)), (.int (0 : Int32)), (.int (0 : Int32)), (.int (0 : Int32)), (.int (0 : Int32)), (.int (0 : Int32)), (.int (0 : Int32))] (.int (0 : Int32)) := V189
    have N189 := Fr.snoc X189 N0 g_b188
    replace B188 := B188.wr W189
    have OW189 := ext_wr OE188 W189 g_b188
    refine Go.aload X189 hx (hb hby at_24) rfl rfl (q := 26) rfl ?_
    refine Go.iconst X189 hx (hb hby at_26) (r := (1 : Int32)) rfl (q := 27) rfl ?_
    refine Go.lloadN X189 hx (hb hby at_27) rfl (q := 28) rfl ?_
    refine Go.bipush X189 hx (hb hby at_28) (r := (8 : Int32)) rfl (q := 30) rfl ?_
    refine Go.lushr X189 hx (hb hby at_30) rfl (q := 31) rfl ?_
    refine Go.ldc2 X189 hx hZ hown (wd2 hw) (hb hby at_31) (q := 34) rfl ?_
    refine Go.land X189 hx (hb hby at_34) rfl (q := 35) rfl ?_
    refine Go.l2i X189 hx (hb hby at_35) rfl (q := 36) rfl ?_
    have bY1 := own_l255 ((px.toUInt64 >>> ((8 : Int32) &&& 0x3f).toInt64.toUInt64).toInt64)
    generalize ((((px.toUInt64 >>> ((8 : Int32) &&& 0x3f).toInt64.toUInt64).toInt64) &&& (255 : Int64)).toInt32) = Y1 at bY1 ⊢
    show Go pp ee below _ (T189.setTop (mkF mm 36 #[.val (.long px), .second, .val (.int pm), .val (.int (6 : Int32)), .val (.ref b188), .unset] [(.int Y1), (.int (1 : Int32)), (.ref b188)]))
    refine Go.ist X189 hx hZ e189 V189 ⟨by decide, by decide⟩ (i := 1) rfl (Nat.le_of_ble_eq_true rfl) (hb hby at_36) ?_
    intro T190 h190 X190 e190 W190 V190
    replace V190 : Arv Z h190 b188 k188 .int (8 : Int32) [(.int Y0), (.int Y1), (.int (0 : Int32)), (.int (0 : Int32)), (.int (0 : Int32)), (.int (0 : Int32)), (.int (0 : Int32)), (.int (0 : Int32))] (.int (0 : Int32)) := V190
    have N190 := Fr.snoc X190 N189 g_b188
    replace B188 := B188.wr W190
    have OW190 := ext_wr OW189 W190 g_b188
    refine Go.aload X190 hx (hb hby at_37) rfl rfl (q := 39) rfl ?_
    refine Go.iconst X190 hx (hb hby at_39) (r := (2 : Int32)) rfl (q := 40) rfl ?_
    refine Go.lloadN X190 hx (hb hby at_40) rfl (q := 41) rfl ?_
    refine Go.bipush X190 hx (hb hby at_41) (r := (16 : Int32)) rfl (q := 43) rfl ?_
    refine Go.lushr X190 hx (hb hby at_43) rfl (q := 44) rfl ?_
    refine Go.ldc2 X190 hx hZ hown (wd2 hw) (hb hby at_44) (q := 47) rfl ?_
    refine Go.land X190 hx (hb hby at_47) rfl (q := 48) rfl ?_
    refine Go.l2i X190 hx (hb hby at_48) rfl (q := 49) rfl ?_
    have bY2 := own_l255 ((px.toUInt64 >>> ((16 : Int32) &&& 0x3f).toInt64.toUInt64).toInt64)
    generalize ((((px.toUInt64 >>> ((16 : Int32) &&& 0x3f).toInt64.toUInt64).toInt64) &&& (255 : Int64)).toInt32) = Y2 at bY2 ⊢
    show Go pp ee below _ (T190.setTop (mkF mm 49 #[.val (.long px), .second, .val (.int pm), .val (.int (6 : Int32)), .val (.ref b188), .unset] [(.int Y2), (.int (2 : Int32)), (.ref b188)]))
    refine Go.ist X190 hx hZ e190 V190 ⟨by decide, by decide⟩ (i := 2) rfl (Nat.le_of_ble_eq_true rfl) (hb hby at_49) ?_
    intro T191 h191 X191 e191 W191 V191
    replace V191 : Arv Z h191 b188 k188 .int (8 : Int32) [(.int Y0), (.int Y1), (.int Y2), (.int (0 : Int32)), (.int (0 : Int32)), (.int (0 : Int32)), (.int (0 : Int32)), (.int (0 : Int32))] (.int (0 : Int32)) := V191
    have N191 := Fr.snoc X191 N190 g_b188
    replace B188 := B188.wr W191
    have OW191 := ext_wr OW190 W191 g_b188
    refine Go.aload X191 hx (hb hby at_50) rfl rfl (q := 52) rfl ?_
    refine Go.iconst X191 hx (hb hby at_52) (r := (3 : Int32)) rfl (q := 53) rfl ?_
    refine Go.lloadN X191 hx (hb hby at_53) rfl (q := 54) rfl ?_
    refine Go.bipush X191 hx (hb hby at_54) (r := (24 : Int32)) rfl (q := 56) rfl ?_
    refine Go.lushr X191 hx (hb hby at_56) rfl (q := 57) rfl ?_
    refine Go.ldc2 X191 hx hZ hown (wd2 hw) (hb hby at_57) (q := 60) rfl ?_
    refine Go.land X191 hx (hb hby at_60) rfl (q := 61) rfl ?_
    refine Go.l2i X191 hx (hb hby at_61) rfl (q := 62) rfl ?_
    have bY3 := own_l255 ((px.toUInt64 >>> ((24 : Int32) &&& 0x3f).toInt64.toUInt64).toInt64)
    generalize ((((px.toUInt64 >>> ((24 : Int32) &&& 0x3f).toInt64.toUInt64).toInt64) &&& (255 : Int64)).toInt32) = Y3 at bY3 ⊢
    show Go pp ee below _ (T191.setTop (mkF mm 62 #[.val (.long px), .second, .val (.int pm), .val (.int (6 : Int32)), .val (.ref b188), .unset] [(.int Y3), (.int (3 : Int32)), (.ref b188)]))
    refine Go.ist X191 hx hZ e191 V191 ⟨by decide, by decide⟩ (i := 3) rfl (Nat.le_of_ble_eq_true rfl) (hb hby at_62) ?_
    intro T192 h192 X192 e192 W192 V192
    replace V192 : Arv Z h192 b188 k188 .int (8 : Int32) [(.int Y0), (.int Y1), (.int Y2), (.int Y3), (.int (0 : Int32)), (.int (0 : Int32)), (.int (0 : Int32)), (.int (0 : Int32))] (.int (0 : Int32)) := V192
    have N192 := Fr.snoc X192 N191 g_b188
    replace B188 := B188.wr W192
    have OW192 := ext_wr OW191 W192 g_b188
    refine Go.aload X192 hx (hb hby at_63) rfl rfl (q := 65) rfl ?_
    refine Go.iconst X192 hx (hb hby at_65) (r := (4 : Int32)) rfl (q := 66) rfl ?_
    refine Go.lloadN X192 hx (hb hby at_66) rfl (q := 67) rfl ?_
    refine Go.bipush X192 hx (hb hby at_67) (r := (32 : Int32)) rfl (q := 69) rfl ?_
    refine Go.lushr X192 hx (hb hby at_69) rfl (q := 70) rfl ?_
    refine Go.ldc2 X192 hx hZ hown (wd2 hw) (hb hby at_70) (q := 73) rfl ?_
    refine Go.land X192 hx (hb hby at_73) rfl (q := 74) rfl ?_
    refine Go.l2i X192 hx (hb hby at_74) rfl (q := 75) rfl ?_
    have bY4 := own_l255 ((px.toUInt64 >>> ((32 : Int32) &&& 0x3f).toInt64.toUInt64).toInt64)
    generalize ((((px.toUInt64 >>> ((32 : Int32) &&& 0x3f).toInt64.toUInt64).toInt64) &&& (255 : Int64)).toInt32) = Y4 at bY4 ⊢
    show Go pp ee below _ (T192.setTop (mkF mm 75 #[.val (.long px), .second, .val (.int pm), .val (.int (6 : Int32)), .val (.ref b188), .unset] [(.int Y4), (.int (4 : Int32)), (.ref b188)]))
    refine Go.ist X192 hx hZ e192 V192 ⟨by decide, by decide⟩ (i := 4) rfl (Nat.le_of_ble_eq_true rfl) (hb hby at_75) ?_
    intro T193 h193 X193 e193 W193 V193
    replace V193 : Arv Z h193 b188 k188 .int (8 : Int32) [(.int Y0), (.int Y1), (.int Y2), (.int Y3), (.int Y4), (.int (0 : Int32)), (.int (0 : Int32)), (.int (0 : Int32))] (.int (0 : Int32)) := V193
    have N193 := Fr.snoc X193 N192 g_b188
    replace B188 := B188.wr W193
    have OW193 := ext_wr OW192 W193 g_b188
    refine Go.aload X193 hx (hb hby at_76) rfl rfl (q := 78) rfl ?_
    refine Go.iconst X193 hx (hb hby at_78) (r := (5 : Int32)) rfl (q := 79) rfl ?_
    refine Go.lloadN X193 hx (hb hby at_79) rfl (q := 80) rfl ?_
    refine Go.bipush X193 hx (hb hby at_80) (r := (40 : Int32)) rfl (q := 82) rfl ?_
    refine Go.lushr X193 hx (hb hby at_82) rfl (q := 83) rfl ?_
    refine Go.ldc2 X193 hx hZ hown (wd2 hw) (hb hby at_83) (q := 86) rfl ?_
    refine Go.land X193 hx (hb hby at_86) rfl (q := 87) rfl ?_
    refine Go.l2i X193 hx (hb hby at_87) rfl (q := 88) rfl ?_
    have bY5 := own_l255 ((px.toUInt64 >>> ((40 : Int32) &&& 0x3f).toInt64.toUInt64).toInt64)
    generalize ((((px.toUInt64 >>> ((40 : Int32) &&& 0x3f).toInt64.toUInt64).toInt64) &&& (255 : Int64)).toInt32) = Y5 at bY5 ⊢
    show Go pp ee below _ (T193.setTop (mkF mm 88 #[.val (.long px), .second, .val (.int pm), .val (.int (6 : Int32)), .val (.ref b188), .unset] [(.int Y5), (.int (5 : Int32)), (.ref b188)]))
    refine Go.ist X193 hx hZ e193 V193 ⟨by decide, by decide⟩ (i := 5) rfl (Nat.le_of_ble_eq_true rfl) (hb hby at_88) ?_
    intro T194 h194 X194 e194 W194 V194
    replace V194 : Arv Z h194 b188 k188 .int (8 : Int32) [(.int Y0), (.int Y1), (.int Y2), (.int Y3), (.int Y4), (.int Y5), (.int (0 : Int32)), (.int (0 : Int32))] (.int (0 : Int32)) := V194
    have N194 := Fr.snoc X194 N193 g_b188
    replace B188 := B188.wr W194
    have OW194 := ext_wr OW193 W194 g_b188
    refine Go.aload X194 hx (hb hby at_89) rfl rfl (q := 91) rfl ?_
    refine Go.bipush X194 hx (hb hby at_91) (r := (6 : Int32)) rfl (q := 93) rfl ?_
    refine Go.lloadN X194 hx (hb hby at_93) rfl (q := 94) rfl ?_
    refine Go.bipush X194 hx (hb hby at_94) (r := (48 : Int32)) rfl (q := 96) rfl ?_
    refine Go.lushr X194 hx (hb hby at_96) rfl (q := 97) rfl ?_
    refine Go.ldc2 X194 hx hZ hown (wd2 hw) (hb hby at_97) (q := 100) rfl ?_
    refine Go.land X194 hx (hb hby at_100) rfl (q := 101) rfl ?_
    refine Go.l2i X194 hx (hb hby at_101) rfl (q := 102) rfl ?_
    have bY6 := own_l255 ((px.toUInt64 >>> ((48 : Int32) &&& 0x3f).toInt64.toUInt64).toInt64)
    generalize ((((px.toUInt64 >>> ((48 : Int32) &&& 0x3f).toInt64.toUInt64).toInt64) &&& (255 : Int64)).toInt32) = Y6 at bY6 ⊢
    show Go pp ee below _ (T194.setTop (mkF mm 102 #[.val (.long px), .second, .val (.int pm), .val (.int (6 : Int32)), .val (.ref b188), .unset] [(.int Y6), (.int (6 : Int32)), (.ref b188)]))
    refine Go.ist X194 hx hZ e194 V194 ⟨by decide, by decide⟩ (i := 6) rfl (Nat.le_of_ble_eq_true rfl) (hb hby at_102) ?_
    intro T195 h195 X195 e195 W195 V195
    replace V195 : Arv Z h195 b188 k188 .int (8 : Int32) [(.int Y0), (.int Y1), (.int Y2), (.int Y3), (.int Y4), (.int Y5), (.int Y6), (.int (0 : Int32))] (.int (0 : Int32)) := V195
    have N195 := Fr.snoc X195 N194 g_b188
    replace B188 := B188.wr W195
    have OW195 := ext_wr OW194 W195 g_b188
    refine Go.aload X195 hx (hb hby at_103) rfl rfl (q := 105) rfl ?_
    refine Go.bipush X195 hx (hb hby at_105) (r := (7 : Int32)) rfl (q := 107) rfl ?_
    refine Go.lloadN X195 hx (hb hby at_107) rfl (q := 108) rfl ?_
    refine Go.bipush X195 hx (hb hby at_108) (r := (56 : Int32)) rfl (q := 110) rfl ?_
    refine Go.lushr X195 hx (hb hby at_110) rfl (q := 111) rfl ?_
    refine Go.ldc2 X195 hx hZ hown (wd2 hw) (hb hby at_111) (q := 114) rfl ?_
    refine Go.land X195 hx (hb hby at_114) rfl (q := 115) rfl ?_
    refine Go.l2i X195 hx (hb hby at_115) rfl (q := 116) rfl ?_
    have bY7 := own_l255 ((px.toUInt64 >>> ((56 : Int32) &&& 0x3f).toInt64.toUInt64).toInt64)
    generalize ((((px.toUInt64 >>> ((56 : Int32) &&& 0x3f).toInt64.toUInt64).toInt64) &&& (255 : Int64)).toInt32) = Y7 at bY7 ⊢
    show Go pp ee below _ (T195.setTop (mkF mm 116 #[.val (.long px), .second, .val (.int pm), .val (.int (6 : Int32)), .val (.ref b188), .unset] [(.int Y7), (.int (7 : Int32)), (.ref b188)]))
    refine Go.ist X195 hx hZ e195 V195 ⟨by decide, by decide⟩ (i := 7) rfl (Nat.le_of_ble_eq_true rfl) (hb hby at_116) ?_
    intro T196 h196 X196 e196 W196 V196
    replace V196 : Arv Z h196 b188 k188 .int (8 : Int32) [(.int Y0), (.int Y1), (.int Y2), (.int Y3), (.int Y4), (.int Y5), (.int Y6), (.int Y7)] (.int (0 : Int32)) := V196
    have N196 := Fr.snoc X196 N195 g_b188
    replace B188 := B188.wr W196
    have OW196 := ext_wr OW195 W196 g_b188
    refine Go.iloadN X196 hx (hb hby at_117) rfl (q := 118) rfl ?_
    refine Go.newP X196 hx hZ (hb hby at_118) (wd3 hw) e196 (by decide) (cap := 6) (by decide) (by decide) (by decide) (by decide) (ad := "[B") rfl (q := 120) rfl ?_
    intro b197 T197 h197 k197 X197 e197 q197 E197 V197 B197
    have ne_b188_b197 : b188 ≠ b197 := ne_new B188.lt (Nat.le_of_eq q197)
    have g_b197 : Z.heap.size ≤ b197 := Nat.le_trans OW196.1 (Nat.le_of_eq q197)
    replace B188 := B188.ext E197
    replace V196 := V196.ext E197
    have OE197 := ext_trans OW196 E197
    replace V197 : Arv Z h197 b197 k197 .byte (6 : Int32) [(.int (0 : Int32)), (.int (0 : Int32)), (.int (0 : Int32)), (.int (0 : Int32)), (.int (0 : Int32)), (.int (0 : Int32))] (.int (0 : Int32)) := V197.pad (pad_rep [] (.int (0 : Int32)) 6)
    refine Go.astore X197 hx (hb hby at_120) rfl (l' := #[.val (.long px), .second, .val (.int pm), .val (.int (6 : Int32)), .val (.ref b188), .val (.ref b197)]) rfl (q := 122) rfl ?_
    refine Go.iloadN X197 hx (hb hby at_122) rfl (q := 123) rfl ?_
    refine Go.ifNo X197 hx (hb hby at_123) (by decide) (q := 126) rfl ?_
    refine Go.aload X197 hx (hb hby at_126) rfl rfl (q := 128) rfl ?_
    refine Go.iconst X197 hx (hb hby at_128) (r := (0 : Int32)) rfl (q := 129) rfl ?_
    refine Go.aload X197 hx (hb hby at_129) rfl rfl (q := 131) rfl ?_
    refine Go.iconst X197 hx (hb hby at_131) (r := (0 : Int32)) rfl (q := 132) rfl ?_
    refine Go.ial X197 hx hZ e197 V196 ⟨by decide, by decide⟩ (v := (.int Y0)) rfl (hb hby at_132) ?_
    refine Go.i2b X197 hx (hb hby at_133) rfl (q := 134) rfl ?_
    refine Go.bst X197 hx hZ e197 V197 ⟨by decide, by decide⟩ (i := 0) rfl (Nat.le_of_ble_eq_true rfl) (hb hby at_134) ?_
    intro T198 h198 X198 e198 W198 V198
    rw [bb Y0] at V198
    replace V198 : Arv Z h198 b197 k197 .byte (6 : Int32) [(.int (Y0.toInt8.toInt32)), (.int (0 : Int32)), (.int (0 : Int32)), (.int (0 : Int32)), (.int (0 : Int32)), (.int (0 : Int32))] (.int (0 : Int32)) := V198
    have N198 := Fr.snoc X198 N196 g_b197
    replace B188 := B188.wr W198
    replace V196 := V196.other W198 ne_b188_b197
    replace B197 := B197.wr W198
    have OW198 := ext_wr OE197 W198 g_b197
    refine Go.iloadN X198 hx (hb hby at_135) rfl (q := 136) rfl ?_
    refine Go.iconst X198 hx (hb hby at_136) (r := (1 : Int32)) rfl (q := 137) rfl ?_
    refine Go.icmpNo X198 hx (hb hby at_137) (by decide) (q := 140) rfl ?_
    refine Go.aload X198 hx (hb hby at_140) rfl rfl (q := 142) rfl ?_
    refine Go.iconst X198 hx (hb hby at_142) (r := (1 : Int32)) rfl (q := 143) rfl ?_
    refine Go.aload X198 hx (hb hby at_143) rfl rfl (q := 145) rfl ?_
    refine Go.iconst X198 hx (hb hby at_145) (r := (1 : Int32)) rfl (q := 146) rfl ?_
    refine Go.ial X198 hx hZ e198 V196 ⟨by decide, by decide⟩ (v := (.int Y1)) rfl (hb hby at_146) ?_
    refine Go.i2b X198 hx (hb hby at_147) rfl (q := 148) rfl ?_
    refine Go.bst X198 hx hZ e198 V198 ⟨by decide, by decide⟩ (i := 1) rfl (Nat.le_of_ble_eq_true rfl) (hb hby at_148) ?_
    intro T199 h199 X199 e199 W199 V199
    rw [bb Y1] at V199
    replace V199 : Arv Z h199 b197 k197 .byte (6 : Int32) [(.int (Y0.toInt8.toInt32)), (.int (Y1.toInt8.toInt32)), (.int (0 : Int32)), (.int (0 : Int32)), (.int (0 : Int32)), (.int (0 : Int32))] (.int (0 : Int32)) := V199
    have N199 := Fr.snoc X199 N198 g_b197
    replace B188 := B188.wr W199
    replace V196 := V196.other W199 ne_b188_b197
    replace B197 := B197.wr W199
    have OW199 := ext_wr OW198 W199 g_b197
    refine Go.iloadN X199 hx (hb hby at_149) rfl (q := 150) rfl ?_
    refine Go.iconst X199 hx (hb hby at_150) (r := (2 : Int32)) rfl (q := 151) rfl ?_
    refine Go.icmpNo X199 hx (hb hby at_151) (by decide) (q := 154) rfl ?_
    refine Go.aload X199 hx (hb hby at_154) rfl rfl (q := 156) rfl ?_
    refine Go.iconst X199 hx (hb hby at_156) (r := (2 : Int32)) rfl (q := 157) rfl ?_
    refine Go.aload X199 hx (hb hby at_157) rfl rfl (q := 159) rfl ?_
    refine Go.iconst X199 hx (hb hby at_159) (r := (2 : Int32)) rfl (q := 160) rfl ?_
    refine Go.ial X199 hx hZ e199 V196 ⟨by decide, by decide⟩ (v := (.int Y2)) rfl (hb hby at_160) ?_
    refine Go.i2b X199 hx (hb hby at_161) rfl (q := 162) rfl ?_
    refine Go.bst X199 hx hZ e199 V199 ⟨by decide, by decide⟩ (i := 2) rfl (Nat.le_of_ble_eq_true rfl) (hb hby at_162) ?_
    intro T200 h200 X200 e200 W200 V200
    rw [bb Y2] at V200
    replace V200 : Arv Z h200 b197 k197 .byte (6 : Int32) [(.int (Y0.toInt8.toInt32)), (.int (Y1.toInt8.toInt32)), (.int (Y2.toInt8.toInt32)), (.int (0 : Int32)), (.int (0 : Int32)), (.int (0 : Int32))] (.int (0 : Int32)) := V200
    have N200 := Fr.snoc X200 N199 g_b197
    replace B188 := B188.wr W200
    replace V196 := V196.other W200 ne_b188_b197
    replace B197 := B197.wr W200
    have OW200 := ext_wr OW199 W200 g_b197
    refine Go.iloadN X200 hx (hb hby at_163) rfl (q := 164) rfl ?_
    refine Go.iconst X200 hx (hb hby at_164) (r := (3 : Int32)) rfl (q := 165) rfl ?_
    refine Go.icmpNo X200 hx (hb hby at_165) (by decide) (q := 168) rfl ?_
    refine Go.aload X200 hx (hb hby at_168) rfl rfl (q := 170) rfl ?_
    refine Go.iconst X200 hx (hb hby at_170) (r := (3 : Int32)) rfl (q := 171) rfl ?_
    refine Go.aload X200 hx (hb hby at_171) rfl rfl (q := 173) rfl ?_
    refine Go.iconst X200 hx (hb hby at_173) (r := (3 : Int32)) rfl (q := 174) rfl ?_
    refine Go.ial X200 hx hZ e200 V196 ⟨by decide, by decide⟩ (v := (.int Y3)) rfl (hb hby at_174) ?_
    refine Go.i2b X200 hx (hb hby at_175) rfl (q := 176) rfl ?_
    refine Go.bst X200 hx hZ e200 V200 ⟨by decide, by decide⟩ (i := 3) rfl (Nat.le_of_ble_eq_true rfl) (hb hby at_176) ?_
    intro T201 h201 X201 e201 W201 V201
    rw [bb Y3] at V201
    replace V201 : Arv Z h201 b197 k197 .byte (6 : Int32) [(.int (Y0.toInt8.toInt32)), (.int (Y1.toInt8.toInt32)), (.int (Y2.toInt8.toInt32)), (.int (Y3.toInt8.toInt32)), (.int (0 : Int32)), (.int (0 : Int32))] (.int (0 : Int32)) := V201
    have N201 := Fr.snoc X201 N200 g_b197
    replace B188 := B188.wr W201
    replace V196 := V196.other W201 ne_b188_b197
    replace B197 := B197.wr W201
    have OW201 := ext_wr OW200 W201 g_b197
    refine Go.iloadN X201 hx (hb hby at_177) rfl (q := 178) rfl ?_
    refine Go.iconst X201 hx (hb hby at_178) (r := (4 : Int32)) rfl (q := 179) rfl ?_
    refine Go.icmpNo X201 hx (hb hby at_179) (by decide) (q := 182) rfl ?_
    refine Go.aload X201 hx (hb hby at_182) rfl rfl (q := 184) rfl ?_
    refine Go.iconst X201 hx (hb hby at_184) (r := (4 : Int32)) rfl (q := 185) rfl ?_
    refine Go.aload X201 hx (hb hby at_185) rfl rfl (q := 187) rfl ?_
    refine Go.iconst X201 hx (hb hby at_187) (r := (4 : Int32)) rfl (q := 188) rfl ?_
    refine Go.ial X201 hx hZ e201 V196 ⟨by decide, by decide⟩ (v := (.int Y4)) rfl (hb hby at_188) ?_
    refine Go.i2b X201 hx (hb hby at_189) rfl (q := 190) rfl ?_
    refine Go.bst X201 hx hZ e201 V201 ⟨by decide, by decide⟩ (i := 4) rfl (Nat.le_of_ble_eq_true rfl) (hb hby at_190) ?_
    intro T202 h202 X202 e202 W202 V202
    rw [bb Y4] at V202
    replace V202 : Arv Z h202 b197 k197 .byte (6 : Int32) [(.int (Y0.toInt8.toInt32)), (.int (Y1.toInt8.toInt32)), (.int (Y2.toInt8.toInt32)), (.int (Y3.toInt8.toInt32)), (.int (Y4.toInt8.toInt32)), (.int (0 : Int32))] (.int (0 : Int32)) := V202
    have N202 := Fr.snoc X202 N201 g_b197
    replace B188 := B188.wr W202
    replace V196 := V196.other W202 ne_b188_b197
    replace B197 := B197.wr W202
    have OW202 := ext_wr OW201 W202 g_b197
    refine Go.iloadN X202 hx (hb hby at_191) rfl (q := 192) rfl ?_
    refine Go.iconst X202 hx (hb hby at_192) (r := (5 : Int32)) rfl (q := 193) rfl ?_
    refine Go.icmpNo X202 hx (hb hby at_193) (by decide) (q := 196) rfl ?_
    refine Go.aload X202 hx (hb hby at_196) rfl rfl (q := 198) rfl ?_
    refine Go.iconst X202 hx (hb hby at_198) (r := (5 : Int32)) rfl (q := 199) rfl ?_
    refine Go.aload X202 hx (hb hby at_199) rfl rfl (q := 201) rfl ?_
    refine Go.iconst X202 hx (hb hby at_201) (r := (5 : Int32)) rfl (q := 202) rfl ?_
    refine Go.ial X202 hx hZ e202 V196 ⟨by decide, by decide⟩ (v := (.int Y5)) rfl (hb hby at_202) ?_
    refine Go.i2b X202 hx (hb hby at_203) rfl (q := 204) rfl ?_
    refine Go.bst X202 hx hZ e202 V202 ⟨by decide, by decide⟩ (i := 5) rfl (Nat.le_of_ble_eq_true rfl) (hb hby at_204) ?_
    intro T203 h203 X203 e203 W203 V203
    rw [bb Y5] at V203
    replace V203 : Arv Z h203 b197 k197 .byte (6 : Int32) [(.int (Y0.toInt8.toInt32)), (.int (Y1.toInt8.toInt32)), (.int (Y2.toInt8.toInt32)), (.int (Y3.toInt8.toInt32)), (.int (Y4.toInt8.toInt32)), (.int (Y5.toInt8.toInt32))] (.int (0 : Int32)) := V203
    have N203 := Fr.snoc X203 N202 g_b197
    replace B188 := B188.wr W203
    replace V196 := V196.other W203 ne_b188_b197
    replace B197 := B197.wr W203
    have OW203 := ext_wr OW202 W203 g_b197
    refine Go.iloadN X203 hx (hb hby at_205) rfl (q := 206) rfl ?_
    refine Go.bipush X203 hx (hb hby at_206) (r := (6 : Int32)) rfl (q := 208) rfl ?_
    refine Go.icmpYes X203 hx (hb hby at_208) (by decide) (q := 222) (by decide) (by decide) ?_
    refine Go.iloadN X203 hx (hb hby at_222) rfl (q := 223) rfl ?_
    refine Go.bipush X203 hx (hb hby at_223) (r := (7 : Int32)) rfl (q := 225) rfl ?_
    refine Go.icmpYes X203 hx (hb hby at_225) (by decide) (q := 239) (by decide) (by decide) ?_
    replace V203 := own_widen (vs' := ([Y0, Y1, Y2, Y3, Y4, Y5, Y6, Y7].map fun y => Value.int y.toInt8.toInt32)) V203 (by intro i hi; have hi' : i < 6 := hi; match i, hi' with | 0, _ => rfl | 1, _ => rfl | 2, _ => rfl | 3, _ => rfl | 4, _ => rfl | 5, _ => rfl | i' + 6, h => exact absurd h (by omega))
    replace V196 : Arv Z h203 b188 k188 .int (8 : Int32) ([Y0, Y1, Y2, Y3, Y4, Y5, Y6, Y7].map Value.int) (.int (0 : Int32)) := V196
    have hys : ∀ i : Nat, 0 ≤ ([Y0, Y1, Y2, Y3, Y4, Y5, Y6, Y7].getD i 0).toInt ∧ ([Y0, Y1, Y2, Y3, Y4, Y5, Y6, Y7].getD i 0).toInt < 256 := by intro i; match i with | 0 => exact bY0 | 1 => exact bY1 | 2 => exact bY2 | 3 => exact bY3 | 4 => exact bY4 | 5 => exact bY5 | 6 => exact bY6 | 7 => exact bY7 | i' + 8 => exact ⟨(by decide : (0 : Int) ≤ (0 : Int32).toInt), (by decide : (0 : Int32).toInt < 256)⟩
    refine Go.aload X203 hx (hb hby at_239) rfl rfl (q := 241) rfl ?_
    refine Go.callS X203 hx hZ hown (wd4 hw) (wd5 hw) (wd6 hw) (wd7 hw) (by decide) (cisu l Z a0 hw b197 (k197) ((6 : Int32)) ([Y0, Y1, Y2, Y3, Y4, Y5, Y6, Y7]) h203 OW203 V203 hys (by decide)) e203 (by rw [hml]; rfl) (hb hby at_241) (argsL := [(.ref b197)]) (rest := []) (lenOf pd2 rfl) rfl rfl (W := 0) (by first | exact Nat.le_refl _ | decide) (by decide) (by decide) (by decide) (by decide) ?_
    intro v204 T204 L204 X204 hQ204
    obtain ⟨rfl, N204q, e204⟩ := hQ204
    have N204 := Fr.app N203 N204q
    refine Go.aload X204 hx (hb hby at_244) rfl rfl (q := 246) rfl ?_
    refine Go.iloadN X204 hx (hb hby at_246) rfl (q := 247) rfl ?_
    refine Go.callS X204 hx hZ hown (wd11 hw) (wd12 hw) (wd13 hw) (wd14 hw) (by decide) (cref l Z a0 hw b188 (k188) ((6 : Int32)) ([Y0, Y1, Y2, Y3, Y4, Y5, Y6, Y7]) h203 OW203 V196 hys (by decide)) e204 (by rw [hml]; rfl) (hb hby at_247) (argsL := [(.ref b188), (.int (6 : Int32))]) (rest := [(.int (own_U [Y0, Y1, Y2, Y3, Y4, Y5, Y6, Y7] (6 : Int32) 8 0))]) (lenOf pd3 rfl) rfl rfl (W := 1) (by first | exact Nat.le_refl _ | decide) (by decide) (by decide) (by decide) (by decide) ?_
    intro v205 T205 L205 X205 hQ205
    obtain ⟨rfl, N205q, e205⟩ := hQ205
    have N205 := Fr.app N204 N205q
    refine Go.icmpNo X205 hx (hb hby at_250) (Jvm.Free.XT.ii_ne_f rfl) (q := 253) rfl ?_
    refine Go.iconst X205 hx (hb hby at_253) (r := (1 : Int32)) rfl (q := 254) rfl ?_
    refine Go.goto X205 hx (hb hby at_254) (q := 258) (by decide) (by decide) ?_
    exact Go.retI X205 hx hret hlk (by simp) rfl (hb hby at_258) e205 (by decide) (by decide) ⟨rfl, N205⟩
  · show Go pp ee below _ (s₁.setTop (mkF mm 7 #[.val (.long px), .second, .val (.int pm), .unset, .unset, .unset] [(.int (7 : Int32))]))
    refine Go.istoreN X0 hx (hb hby at_7) (l' := #[.val (.long px), .second, .val (.int pm), .val (.int (7 : Int32)), .unset, .unset]) rfl (q := 8) rfl ?_
    refine Go.bipush X0 hx (hb hby at_8) (r := (8 : Int32)) rfl (q := 10) rfl ?_
    refine Go.newP X0 hx hZ (hb hby at_10) (wd1 hw) e0 (by decide) (cap := 8) (by decide) (by decide) (by decide) (by decide) (ad := "[I") rfl (q := 12) rfl ?_
    intro b206 T206 h206 k206 X206 e206 q206 E206 V206 B206
    have g_b206 : Z.heap.size ≤ b206 := Nat.le_trans O0.1 (Nat.le_of_eq q206)
    have OE206 := ext_trans O0 E206
    replace V206 : Arv Z h206 b206 k206 .int (8 : Int32) [(.int (0 : Int32)), (.int (0 : Int32)), (.int (0 : Int32)), (.int (0 : Int32)), (.int (0 : Int32)), (.int (0 : Int32)), (.int (0 : Int32)), (.int (0 : Int32))] (.int (0 : Int32)) := V206.pad (pad_rep [] (.int (0 : Int32)) 8)
    refine Go.astore X206 hx (hb hby at_12) rfl (l' := #[.val (.long px), .second, .val (.int pm), .val (.int (7 : Int32)), .val (.ref b206), .unset]) rfl (q := 14) rfl ?_
    refine Go.aload X206 hx (hb hby at_14) rfl rfl (q := 16) rfl ?_
    refine Go.iconst X206 hx (hb hby at_16) (r := (0 : Int32)) rfl (q := 17) rfl ?_
    refine Go.lloadN X206 hx (hb hby at_17) rfl (q := 18) rfl ?_
    refine Go.ldc2 X206 hx hZ hown (wd2 hw) (hb hby at_18) (q := 21) rfl ?_
    refine Go.land X206 hx (hb hby at_21) rfl (q := 22) rfl ?_
    refine Go.l2i X206 hx (hb hby at_22) rfl (q := 23) rfl ?_
    have bY0 := own_l255 px
    generalize ((px &&& (255 : Int64)).toInt32) = Y0 at bY0 ⊢
    show Go pp ee below _ (T206.setTop (mkF mm 23 #[.val (.long px), .second, .val (.int pm), .val (.int (7 : Int32)), .val (.ref b206), .unset] [(.int Y0), (.int (0 : Int32)), (.ref b206)]))
    refine Go.ist X206 hx hZ e206 V206 ⟨by decide, by decide⟩ (i := 0) rfl (Nat.le_of_ble_eq_true rfl) (hb hby at_23) ?_
    intro T207 h207 X207 e207 W207 V207
    replace V207 : Arv Z h207 b206 k206 .int (8 : Int32) [(.int Y0), (.int (0 : Int32)), (.int (0 : Int32)), (.int (0 : Int32)), (.int (0 : Int32)), (.int (0 : Int32)), (.int (0 : Int32)), (.int (0 : Int32))] (.int (0 : Int32)) := V207
    have N207 := Fr.snoc X207 N0 g_b206
    replace B206 := B206.wr W207
    have OW207 := ext_wr OE206 W207 g_b206
    refine Go.aload X207 hx (hb hby at_24) rfl rfl (q := 26) rfl ?_
    refine Go.iconst X207 hx (hb hby at_26) (r := (1 : Int32)) rfl (q := 27) rfl ?_
    refine Go.lloadN X207 hx (hb hby at_27) rfl (q := 28) rfl ?_
    refine Go.bipush X207 hx (hb hby at_28) (r := (8 : Int32)) rfl (q := 30) rfl ?_
    refine Go.lushr X207 hx (hb hby at_30) rfl (q := 31) rfl ?_
    refine Go.ldc2 X207 hx hZ hown (wd2 hw) (hb hby at_31) (q := 34) rfl ?_
    refine Go.land X207 hx (hb hby at_34) rfl (q := 35) rfl ?_
    refine Go.l2i X207 hx (hb hby at_35) rfl (q := 36) rfl ?_
    have bY1 := own_l255 ((px.toUInt64 >>> ((8 : Int32) &&& 0x3f).toInt64.toUInt64).toInt64)
    generalize ((((px.toUInt64 >>> ((8 : Int32) &&& 0x3f).toInt64.toUInt64).toInt64) &&& (255 : Int64)).toInt32) = Y1 at bY1 ⊢
    show Go pp ee below _ (T207.setTop (mkF mm 36 #[.val (.long px), .second, .val (.int pm), .val (.int (7 : Int32)), .val (.ref b206), .unset] [(.int Y1), (.int (1 : Int32)), (.ref b206)]))
    refine Go.ist X207 hx hZ e207 V207 ⟨by decide, by decide⟩ (i := 1) rfl (Nat.le_of_ble_eq_true rfl) (hb hby at_36) ?_
    intro T208 h208 X208 e208 W208 V208
    replace V208 : Arv Z h208 b206 k206 .int (8 : Int32) [(.int Y0), (.int Y1), (.int (0 : Int32)), (.int (0 : Int32)), (.int (0 : Int32)), (.int (0 : Int32)), (.int (0 : Int32)), (.int (0 : Int32))] (.int (0 : Int32)) := V208
    have N208 := Fr.snoc X208 N207 g_b206
    replace B206 := B206.wr W208
    have OW208 := ext_wr OW207 W208 g_b206
    refine Go.aload X208 hx (hb hby at_37) rfl rfl (q := 39) rfl ?_
    refine Go.iconst X208 hx (hb hby at_39) (r := (2 : Int32)) rfl (q := 40) rfl ?_
    refine Go.lloadN X208 hx (hb hby at_40) rfl (q := 41) rfl ?_
    refine Go.bipush X208 hx (hb hby at_41) (r := (16 : Int32)) rfl (q := 43) rfl ?_
    refine Go.lushr X208 hx (hb hby at_43) rfl (q := 44) rfl ?_
    refine Go.ldc2 X208 hx hZ hown (wd2 hw) (hb hby at_44) (q := 47) rfl ?_
    refine Go.land X208 hx (hb hby at_47) rfl (q := 48) rfl ?_
    refine Go.l2i X208 hx (hb hby at_48) rfl (q := 49) rfl ?_
    have bY2 := own_l255 ((px.toUInt64 >>> ((16 : Int32) &&& 0x3f).toInt64.toUInt64).toInt64)
    generalize ((((px.toUInt64 >>> ((16 : Int32) &&& 0x3f).toInt64.toUInt64).toInt64) &&& (255 : Int64)).toInt32) = Y2 at bY2 ⊢
    show Go pp ee below _ (T208.setTop (mkF mm 49 #[.val (.long px), .second, .val (.int pm), .val (.int (7 : Int32)), .val (.ref b206), .unset] [(.int Y2), (.int (2 : Int32)), (.ref b206)]))
    refine Go.ist X208 hx hZ e208 V208 ⟨by decide, by decide⟩ (i := 2) rfl (Nat.le_of_ble_eq_true rfl) (hb hby at_49) ?_
    intro T209 h209 X209 e209 W209 V209
    replace V209 : Arv Z h209 b206 k206 .int (8 : Int32) [(.int Y0), (.int Y1), (.int Y2), (.int (0 : Int32)), (.int (0 : Int32)), (.int (0 : Int32)), (.int (0 : Int32)), (.int (0 : Int32))] (.int (0 : Int32)) := V209
    have N209 := Fr.snoc X209 N208 g_b206
    replace B206 := B206.wr W209
    have OW209 := ext_wr OW208 W209 g_b206
    refine Go.aload X209 hx (hb hby at_50) rfl rfl (q := 52) rfl ?_
    refine Go.iconst X209 hx (hb hby at_52) (r := (3 : Int32)) rfl (q := 53) rfl ?_
    refine Go.lloadN X209 hx (hb hby at_53) rfl (q := 54) rfl ?_
    refine Go.bipush X209 hx (hb hby at_54) (r := (24 : Int32)) rfl (q := 56) rfl ?_
    refine Go.lushr X209 hx (hb hby at_56) rfl (q := 57) rfl ?_
    refine Go.ldc2 X209 hx hZ hown (wd2 hw) (hb hby at_57) (q := 60) rfl ?_
    refine Go.land X209 hx (hb hby at_60) rfl (q := 61) rfl ?_
    refine Go.l2i X209 hx (hb hby at_61) rfl (q := 62) rfl ?_
    have bY3 := own_l255 ((px.toUInt64 >>> ((24 : Int32) &&& 0x3f).toInt64.toUInt64).toInt64)
    generalize ((((px.toUInt64 >>> ((24 : Int32) &&& 0x3f).toInt64.toUInt64).toInt64) &&& (255 : Int64)).toInt32) = Y3 at bY3 ⊢
    show Go pp ee below _ (T209.setTop (mkF mm 62 #[.val (.long px), .second, .val (.int pm), .val (.int (7 : Int32)), .val (.ref b206), .unset] [(.int Y3), (.int (3 : Int32)), (.ref b206)]))
    refine Go.ist X209 hx hZ e209 V209 ⟨by decide, by decide⟩ (i := 3) rfl (Nat.le_of_ble_eq_true rfl) (hb hby at_62) ?_
    intro T210 h210 X210 e210 W210 V210
    replace V210 : Arv Z h210 b206 k206 .int (8 : Int32) [(.int Y0), (.int Y1), (.int Y2), (.int Y3), (.int (0 : Int32)), (.int (0 : Int32)), (.int (0 : Int32)), (.int (0 : Int32))] (.int (0 : Int32)) := V210
    have N210 := Fr.snoc X210 N209 g_b206
    replace B206 := B206.wr W210
    have OW210 := ext_wr OW209 W210 g_b206
    refine Go.aload X210 hx (hb hby at_63) rfl rfl (q := 65) rfl ?_
    refine Go.iconst X210 hx (hb hby at_65) (r := (4 : Int32)) rfl (q := 66) rfl ?_
    refine Go.lloadN X210 hx (hb hby at_66) rfl (q := 67) rfl ?_
    refine Go.bipush X210 hx (hb hby at_67) (r := (32 : Int32)) rfl (q := 69) rfl ?_
    refine Go.lushr X210 hx (hb hby at_69) rfl (q := 70) rfl ?_
    refine Go.ldc2 X210 hx hZ hown (wd2 hw) (hb hby at_70) (q := 73) rfl ?_
    refine Go.land X210 hx (hb hby at_73) rfl (q := 74) rfl ?_
    refine Go.l2i X210 hx (hb hby at_74) rfl (q := 75) rfl ?_
    have bY4 := own_l255 ((px.toUInt64 >>> ((32 : Int32) &&& 0x3f).toInt64.toUInt64).toInt64)
    generalize ((((px.toUInt64 >>> ((32 : Int32) &&& 0x3f).toInt64.toUInt64).toInt64) &&& (255 : Int64)).toInt32) = Y4 at bY4 ⊢
    show Go pp ee below _ (T210.setTop (mkF mm 75 #[.val (.long px), .second, .val (.int pm), .val (.int (7 : Int32)), .val (.ref b206), .unset] [(.int Y4), (.int (4 : Int32)), (.ref b206)]))
    refine Go.ist X210 hx hZ e210 V210 ⟨by decide, by decide⟩ (i := 4) rfl (Nat.le_of_ble_eq_true rfl) (hb hby at_75) ?_
    intro T211 h211 X211 e211 W211 V211
    replace V211 : Arv Z h211 b206 k206 .int (8 : Int32) [(.int Y0), (.int Y1), (.int Y2), (.int Y3), (.int Y4), (.int (0 : Int32)), (.int (0 : Int32)), (.int (0 : Int32))] (.int (0 : Int32)) := V211
    have N211 := Fr.snoc X211 N210 g_b206
    replace B206 := B206.wr W211
    have OW211 := ext_wr OW210 W211 g_b206
    refine Go.aload X211 hx (hb hby at_76) rfl rfl (q := 78) rfl ?_
    refine Go.iconst X211 hx (hb hby at_78) (r := (5 : Int32)) rfl (q := 79) rfl ?_
    refine Go.lloadN X211 hx (hb hby at_79) rfl (q := 80) rfl ?_
    refine Go.bipush X211 hx (hb hby at_80) (r := (40 : Int32)) rfl (q := 82) rfl ?_
    refine Go.lushr X211 hx (hb hby at_82) rfl (q := 83) rfl ?_
    refine Go.ldc2 X211 hx hZ hown (wd2 hw) (hb hby at_83) (q := 86) rfl ?_
    refine Go.land X211 hx (hb hby at_86) rfl (q := 87) rfl ?_
    refine Go.l2i X211 hx (hb hby at_87) rfl (q := 88) rfl ?_
    have bY5 := own_l255 ((px.toUInt64 >>> ((40 : Int32) &&& 0x3f).toInt64.toUInt64).toInt64)
    generalize ((((px.toUInt64 >>> ((40 : Int32) &&& 0x3f).toInt64.toUInt64).toInt64) &&& (255 : Int64)).toInt32) = Y5 at bY5 ⊢
    show Go pp ee below _ (T211.setTop (mkF mm 88 #[.val (.long px), .second, .val (.int pm), .val (.int (7 : Int32)), .val (.ref b206), .unset] [(.int Y5), (.int (5 : Int32)), (.ref b206)]))
    refine Go.ist X211 hx hZ e211 V211 ⟨by decide, by decide⟩ (i := 5) rfl (Nat.le_of_ble_eq_true rfl) (hb hby at_88) ?_
    intro T212 h212 X212 e212 W212 V212
    replace V212 : Arv Z h212 b206 k206 .int (8 : Int32) [(.int Y0), (.int Y1), (.int Y2), (.int Y3), (.int Y4), (.int Y5), (.int (0 : Int32)), (.int (0 : Int32))] (.int (0 : Int32)) := V212
    have N212 := Fr.snoc X212 N211 g_b206
    replace B206 := B206.wr W212
    have OW212 := ext_wr OW211 W212 g_b206
    refine Go.aload X212 hx (hb hby at_89) rfl rfl (q := 91) rfl ?_
    refine Go.bipush X212 hx (hb hby at_91) (r := (6 : Int32)) rfl (q := 93) rfl ?_
    refine Go.lloadN X212 hx (hb hby at_93) rfl (q := 94) rfl ?_
    refine Go.bipush X212 hx (hb hby at_94) (r := (48 : Int32)) rfl (q := 96) rfl ?_
    refine Go.lushr X212 hx (hb hby at_96) rfl (q := 97) rfl ?_
    refine Go.ldc2 X212 hx hZ hown (wd2 hw) (hb hby at_97) (q := 100) rfl ?_
    refine Go.land X212 hx (hb hby at_100) rfl (q := 101) rfl ?_
    refine Go.l2i X212 hx (hb hby at_101) rfl (q := 102) rfl ?_
    have bY6 := own_l255 ((px.toUInt64 >>> ((48 : Int32) &&& 0x3f).toInt64.toUInt64).toInt64)
    generalize ((((px.toUInt64 >>> ((48 : Int32) &&& 0x3f).toInt64.toUInt64).toInt64) &&& (255 : Int64)).toInt32) = Y6 at bY6 ⊢
    show Go pp ee below _ (T212.setTop (mkF mm 102 #[.val (.long px), .second, .val (.int pm), .val (.int (7 : Int32)), .val (.ref b206), .unset] [(.int Y6), (.int (6 : Int32)), (.ref b206)]))
    refine Go.ist X212 hx hZ e212 V212 ⟨by decide, by decide⟩ (i := 6) rfl (Nat.le_of_ble_eq_true rfl) (hb hby at_102) ?_
    intro T213 h213 X213 e213 W213 V213
    replace V213 : Arv Z h213 b206 k206 .int (8 : Int32) [(.int Y0), (.int Y1), (.int Y2), (.int Y3), (.int Y4), (.int Y5), (.int Y6), (.int (0 : Int32))] (.int (0 : Int32)) := V213
    have N213 := Fr.snoc X213 N212 g_b206
    replace B206 := B206.wr W213
    have OW213 := ext_wr OW212 W213 g_b206
    refine Go.aload X213 hx (hb hby at_103) rfl rfl (q := 105) rfl ?_
    refine Go.bipush X213 hx (hb hby at_105) (r := (7 : Int32)) rfl (q := 107) rfl ?_
    refine Go.lloadN X213 hx (hb hby at_107) rfl (q := 108) rfl ?_
    refine Go.bipush X213 hx (hb hby at_108) (r := (56 : Int32)) rfl (q := 110) rfl ?_
    refine Go.lushr X213 hx (hb hby at_110) rfl (q := 111) rfl ?_
    refine Go.ldc2 X213 hx hZ hown (wd2 hw) (hb hby at_111) (q := 114) rfl ?_
    refine Go.land X213 hx (hb hby at_114) rfl (q := 115) rfl ?_
    refine Go.l2i X213 hx (hb hby at_115) rfl (q := 116) rfl ?_
    have bY7 := own_l255 ((px.toUInt64 >>> ((56 : Int32) &&& 0x3f).toInt64.toUInt64).toInt64)
    generalize ((((px.toUInt64 >>> ((56 : Int32) &&& 0x3f).toInt64.toUInt64).toInt64) &&& (255 : Int64)).toInt32) = Y7 at bY7 ⊢
    show Go pp ee below _ (T213.setTop (mkF mm 116 #[.val (.long px), .second, .val (.int pm), .val (.int (7 : Int32)), .val (.ref b206), .unset] [(.int Y7), (.int (7 : Int32)), (.ref b206)]))
    refine Go.ist X213 hx hZ e213 V213 ⟨by decide, by decide⟩ (i := 7) rfl (Nat.le_of_ble_eq_true rfl) (hb hby at_116) ?_
    intro T214 h214 X214 e214 W214 V214
    replace V214 : Arv Z h214 b206 k206 .int (8 : Int32) [(.int Y0), (.int Y1), (.int Y2), (.int Y3), (.int Y4), (.int Y5), (.int Y6), (.int Y7)] (.int (0 : Int32)) := V214
    have N214 := Fr.snoc X214 N213 g_b206
    replace B206 := B206.wr W214
    have OW214 := ext_wr OW213 W214 g_b206
    refine Go.iloadN X214 hx (hb hby at_117) rfl (q := 118) rfl ?_
    refine Go.newP X214 hx hZ (hb hby at_118) (wd3 hw) e214 (by decide) (cap := 7) (by decide) (by decide) (by decide) (by decide) (ad := "[B") rfl (q := 120) rfl ?_
    intro b215 T215 h215 k215 X215 e215 q215 E215 V215 B215
    have ne_b206_b215 : b206 ≠ b215 := ne_new B206.lt (Nat.le_of_eq q215)
    have g_b215 : Z.heap.size ≤ b215 := Nat.le_trans OW214.1 (Nat.le_of_eq q215)
    replace B206 := B206.ext E215
    replace V214 := V214.ext E215
    have OE215 := ext_trans OW214 E215
    replace V215 : Arv Z h215 b215 k215 .byte (7 : Int32) [(.int (0 : Int32)), (.int (0 : Int32)), (.int (0 : Int32)), (.int (0 : Int32)), (.int (0 : Int32)), (.int (0 : Int32)), (.int (0 : Int32))] (.int (0 : Int32)) := V215.pad (pad_rep [] (.int (0 : Int32)) 7)
    refine Go.astore X215 hx (hb hby at_120) rfl (l' := #[.val (.long px), .second, .val (.int pm), .val (.int (7 : Int32)), .val (.ref b206), .val (.ref b215)]) rfl (q := 122) rfl ?_
    refine Go.iloadN X215 hx (hb hby at_122) rfl (q := 123) rfl ?_
    refine Go.ifNo X215 hx (hb hby at_123) (by decide) (q := 126) rfl ?_
    refine Go.aload X215 hx (hb hby at_126) rfl rfl (q := 128) rfl ?_
    refine Go.iconst X215 hx (hb hby at_128) (r := (0 : Int32)) rfl (q := 129) rfl ?_
    refine Go.aload X215 hx (hb hby at_129) rfl rfl (q := 131) rfl ?_
    refine Go.iconst X215 hx (hb hby at_131) (r := (0 : Int32)) rfl (q := 132) rfl ?_
    refine Go.ial X215 hx hZ e215 V214 ⟨by decide, by decide⟩ (v := (.int Y0)) rfl (hb hby at_132) ?_
    refine Go.i2b X215 hx (hb hby at_133) rfl (q := 134) rfl ?_
    refine Go.bst X215 hx hZ e215 V215 ⟨by decide, by decide⟩ (i := 0) rfl (Nat.le_of_ble_eq_true rfl) (hb hby at_134) ?_
    intro T216 h216 X216 e216 W216 V216
    rw [bb Y0] at V216
    replace V216 : Arv Z h216 b215 k215 .byte (7 : Int32) [(.int (Y0.toInt8.toInt32)), (.int (0 : Int32)), (.int (0 : Int32)), (.int (0 : Int32)), (.int (0 : Int32)), (.int (0 : Int32)), (.int (0 : Int32))] (.int (0 : Int32)) := V216
    have N216 := Fr.snoc X216 N214 g_b215
    replace B206 := B206.wr W216
    replace V214 := V214.other W216 ne_b206_b215
    replace B215 := B215.wr W216
    have OW216 := ext_wr OE215 W216 g_b215
    refine Go.iloadN X216 hx (hb hby at_135) rfl (q := 136) rfl ?_
    refine Go.iconst X216 hx (hb hby at_136) (r := (1 : Int32)) rfl (q := 137) rfl ?_
    refine Go.icmpNo X216 hx (hb hby at_137) (by decide) (q := 140) rfl ?_
    refine Go.aload X216 hx (hb hby at_140) rfl rfl (q := 142) rfl ?_
    refine Go.iconst X216 hx (hb hby at_142) (r := (1 : Int32)) rfl (q := 143) rfl ?_
    refine Go.aload X216 hx (hb hby at_143) rfl rfl (q := 145) rfl ?_
    refine Go.iconst X216 hx (hb hby at_145) (r := (1 : Int32)) rfl (q := 146) rfl ?_
    refine Go.ial X216 hx hZ e216 V214 ⟨by decide, by decide⟩ (v := (.int Y1)) rfl (hb hby at_146) ?_
    refine Go.i2b X216 hx (hb hby at_147) rfl (q := 148) rfl ?_
    refine Go.bst X216 hx hZ e216 V216 ⟨by decide, by decide⟩ (i := 1) rfl (Nat.le_of_ble_eq_true rfl) (hb hby at_148) ?_
    intro T217 h217 X217 e217 W217 V217
    rw [bb Y1] at V217
    replace V217 : Arv Z h217 b215 k215 .byte (7 : Int32) [(.int (Y0.toInt8.toInt32)), (.int (Y1.toInt8.toInt32)), (.int (0 : Int32)), (.int (0 : Int32)), (.int (0 : Int32)), (.int (0 : Int32)), (.int (0 : Int32))] (.int (0 : Int32)) := V217
    have N217 := Fr.snoc X217 N216 g_b215
    replace B206 := B206.wr W217
    replace V214 := V214.other W217 ne_b206_b215
    replace B215 := B215.wr W217
    have OW217 := ext_wr OW216 W217 g_b215
    refine Go.iloadN X217 hx (hb hby at_149) rfl (q := 150) rfl ?_
    refine Go.iconst X217 hx (hb hby at_150) (r := (2 : Int32)) rfl (q := 151) rfl ?_
    refine Go.icmpNo X217 hx (hb hby at_151) (by decide) (q := 154) rfl ?_
    refine Go.aload X217 hx (hb hby at_154) rfl rfl (q := 156) rfl ?_
    refine Go.iconst X217 hx (hb hby at_156) (r := (2 : Int32)) rfl (q := 157) rfl ?_
    refine Go.aload X217 hx (hb hby at_157) rfl rfl (q := 159) rfl ?_
    refine Go.iconst X217 hx (hb hby at_159) (r := (2 : Int32)) rfl (q := 160) rfl ?_
    refine Go.ial X217 hx hZ e217 V214 ⟨by decide, by decide⟩ (v := (.int Y2)) rfl (hb hby at_160) ?_
    refine Go.i2b X217 hx (hb hby at_161) rfl (q := 162) rfl ?_
    refine Go.bst X217 hx hZ e217 V217 ⟨by decide, by decide⟩ (i := 2) rfl (Nat.le_of_ble_eq_true rfl) (hb hby at_162) ?_
    intro T218 h218 X218 e218 W218 V218
    rw [bb Y2] at V218
    replace V218 : Arv Z h218 b215 k215 .byte (7 : Int32) [(.int (Y0.toInt8.toInt32)), (.int (Y1.toInt8.toInt32)), (.int (Y2.toInt8.toInt32)), (.int (0 : Int32)), (.int (0 : Int32)), (.int (0 : Int32)), (.int (0 : Int32))] (.int (0 : Int32)) := V218
    have N218 := Fr.snoc X218 N217 g_b215
    replace B206 := B206.wr W218
    replace V214 := V214.other W218 ne_b206_b215
    replace B215 := B215.wr W218
    have OW218 := ext_wr OW217 W218 g_b215
    refine Go.iloadN X218 hx (hb hby at_163) rfl (q := 164) rfl ?_
    refine Go.iconst X218 hx (hb hby at_164) (r := (3 : Int32)) rfl (q := 165) rfl ?_
    refine Go.icmpNo X218 hx (hb hby at_165) (by decide) (q := 168) rfl ?_
    refine Go.aload X218 hx (hb hby at_168) rfl rfl (q := 170) rfl ?_
    refine Go.iconst X218 hx (hb hby at_170) (r := (3 : Int32)) rfl (q := 171) rfl ?_
    refine Go.aload X218 hx (hb hby at_171) rfl rfl (q := 173) rfl ?_
    refine Go.iconst X218 hx (hb hby at_173) (r := (3 : Int32)) rfl (q := 174) rfl ?_
    refine Go.ial X218 hx hZ e218 V214 ⟨by decide, by decide⟩ (v := (.int Y3)) rfl (hb hby at_174) ?_
    refine Go.i2b X218 hx (hb hby at_175) rfl (q := 176) rfl ?_
    refine Go.bst X218 hx hZ e218 V218 ⟨by decide, by decide⟩ (i := 3) rfl (Nat.le_of_ble_eq_true rfl) (hb hby at_176) ?_
    intro T219 h219 X219 e219 W219 V219
    rw [bb Y3] at V219
    replace V219 : Arv Z h219 b215 k215 .byte (7 : Int32) [(.int (Y0.toInt8.toInt32)), (.int (Y1.toInt8.toInt32)), (.int (Y2.toInt8.toInt32)), (.int (Y3.toInt8.toInt32)), (.int (0 : Int32)), (.int (0 : Int32)), (.int (0 : Int32))] (.int (0 : Int32)) := V219
    have N219 := Fr.snoc X219 N218 g_b215
    replace B206 := B206.wr W219
    replace V214 := V214.other W219 ne_b206_b215
    replace B215 := B215.wr W219
    have OW219 := ext_wr OW218 W219 g_b215
    refine Go.iloadN X219 hx (hb hby at_177) rfl (q := 178) rfl ?_
    refine Go.iconst X219 hx (hb hby at_178) (r := (4 : Int32)) rfl (q := 179) rfl ?_
    refine Go.icmpNo X219 hx (hb hby at_179) (by decide) (q := 182) rfl ?_
    refine Go.aload X219 hx (hb hby at_182) rfl rfl (q := 184) rfl ?_
    refine Go.iconst X219 hx (hb hby at_184) (r := (4 : Int32)) rfl (q := 185) rfl ?_
    refine Go.aload X219 hx (hb hby at_185) rfl rfl (q := 187) rfl ?_
    refine Go.iconst X219 hx (hb hby at_187) (r := (4 : Int32)) rfl (q := 188) rfl ?_
    refine Go.ial X219 hx hZ e219 V214 ⟨by decide, by decide⟩ (v := (.int Y4)) rfl (hb hby at_188) ?_
    refine Go.i2b X219 hx (hb hby at_189) rfl (q := 190) rfl ?_
    refine Go.bst X219 hx hZ e219 V219 ⟨by decide, by decide⟩ (i := 4) rfl (Nat.le_of_ble_eq_true rfl) (hb hby at_190) ?_
    intro T220 h220 X220 e220 W220 V220
    rw [bb Y4] at V220
    replace V220 : Arv Z h220 b215 k215 .byte (7 : Int32) [(.int (Y0.toInt8.toInt32)), (.int (Y1.toInt8.toInt32)), (.int (Y2.toInt8.toInt32)), (.int (Y3.toInt8.toInt32)), (.int (Y4.toInt8.toInt32)), (.int (0 : Int32)), (.int (0 : Int32))] (.int (0 : Int32)) := V220
    have N220 := Fr.snoc X220 N219 g_b215
    replace B206 := B206.wr W220
    replace V214 := V214.other W220 ne_b206_b215
    replace B215 := B215.wr W220
    have OW220 := ext_wr OW219 W220 g_b215
    refine Go.iloadN X220 hx (hb hby at_191) rfl (q := 192) rfl ?_
    refine Go.iconst X220 hx (hb hby at_192) (r := (5 : Int32)) rfl (q := 193) rfl ?_
    refine Go.icmpNo X220 hx (hb hby at_193) (by decide) (q := 196) rfl ?_
    refine Go.aload X220 hx (hb hby at_196) rfl rfl (q := 198) rfl ?_
    refine Go.iconst X220 hx (hb hby at_198) (r := (5 : Int32)) rfl (q := 199) rfl ?_
    refine Go.aload X220 hx (hb hby at_199) rfl rfl (q := 201) rfl ?_
    refine Go.iconst X220 hx (hb hby at_201) (r := (5 : Int32)) rfl (q := 202) rfl ?_
    refine Go.ial X220 hx hZ e220 V214 ⟨by decide, by decide⟩ (v := (.int Y5)) rfl (hb hby at_202) ?_
    refine Go.i2b X220 hx (hb hby at_203) rfl (q := 204) rfl ?_
    refine Go.bst X220 hx hZ e220 V220 ⟨by decide, by decide⟩ (i := 5) rfl (Nat.le_of_ble_eq_true rfl) (hb hby at_204) ?_
    intro T221 h221 X221 e221 W221 V221
    rw [bb Y5] at V221
    replace V221 : Arv Z h221 b215 k215 .byte (7 : Int32) [(.int (Y0.toInt8.toInt32)), (.int (Y1.toInt8.toInt32)), (.int (Y2.toInt8.toInt32)), (.int (Y3.toInt8.toInt32)), (.int (Y4.toInt8.toInt32)), (.int (Y5.toInt8.toInt32)), (.int (0 : Int32))] (.int (0 : Int32)) := V221
    have N221 := Fr.snoc X221 N220 g_b215
    replace B206 := B206.wr W221
    replace V214 := V214.other W221 ne_b206_b215
    replace B215 := B215.wr W221
    have OW221 := ext_wr OW220 W221 g_b215
    refine Go.iloadN X221 hx (hb hby at_205) rfl (q := 206) rfl ?_
    refine Go.bipush X221 hx (hb hby at_206) (r := (6 : Int32)) rfl (q := 208) rfl ?_
    refine Go.icmpNo X221 hx (hb hby at_208) (by decide) (q := 211) rfl ?_
    refine Go.aload X221 hx (hb hby at_211) rfl rfl (q := 213) rfl ?_
    refine Go.bipush X221 hx (hb hby at_213) (r := (6 : Int32)) rfl (q := 215) rfl ?_
    refine Go.aload X221 hx (hb hby at_215) rfl rfl (q := 217) rfl ?_
    refine Go.bipush X221 hx (hb hby at_217) (r := (6 : Int32)) rfl (q := 219) rfl ?_
    refine Go.ial X221 hx hZ e221 V214 ⟨by decide, by decide⟩ (v := (.int Y6)) rfl (hb hby at_219) ?_
    refine Go.i2b X221 hx (hb hby at_220) rfl (q := 221) rfl ?_
    refine Go.bst X221 hx hZ e221 V221 ⟨by decide, by decide⟩ (i := 6) rfl (Nat.le_of_ble_eq_true rfl) (hb hby at_221) ?_
    intro T222 h222 X222 e222 W222 V222
    rw [bb Y6] at V222
    replace V222 : Arv Z h222 b215 k215 .byte (7 : Int32) [(.int (Y0.toInt8.toInt32)), (.int (Y1.toInt8.toInt32)), (.int (Y2.toInt8.toInt32)), (.int (Y3.toInt8.toInt32)), (.int (Y4.toInt8.toInt32)), (.int (Y5.toInt8.toInt32)), (.int (Y6.toInt8.toInt32))] (.int (0 : Int32)) := V222
    have N222 := Fr.snoc X222 N221 g_b215
    replace B206 := B206.wr W222
    replace V214 := V214.other W222 ne_b206_b215
    replace B215 := B215.wr W222
    have OW222 := ext_wr OW221 W222 g_b215
    refine Go.iloadN X222 hx (hb hby at_222) rfl (q := 223) rfl ?_
    refine Go.bipush X222 hx (hb hby at_223) (r := (7 : Int32)) rfl (q := 225) rfl ?_
    refine Go.icmpYes X222 hx (hb hby at_225) (by decide) (q := 239) (by decide) (by decide) ?_
    replace V222 := own_widen (vs' := ([Y0, Y1, Y2, Y3, Y4, Y5, Y6, Y7].map fun y => Value.int y.toInt8.toInt32)) V222 (by intro i hi; have hi' : i < 7 := hi; match i, hi' with | 0, _ => rfl | 1, _ => rfl | 2, _ => rfl | 3, _ => rfl | 4, _ => rfl | 5, _ => rfl | 6, _ => rfl | i' + 7, h => exact absurd h (by omega))
    replace V214 : Arv Z h222 b206 k206 .int (8 : Int32) ([Y0, Y1, Y2, Y3, Y4, Y5, Y6, Y7].map Value.int) (.int (0 : Int32)) := V214
    have hys : ∀ i : Nat, 0 ≤ ([Y0, Y1, Y2, Y3, Y4, Y5, Y6, Y7].getD i 0).toInt ∧ ([Y0, Y1, Y2, Y3, Y4, Y5, Y6, Y7].getD i 0).toInt < 256 := by intro i; match i with | 0 => exact bY0 | 1 => exact bY1 | 2 => exact bY2 | 3 => exact bY3 | 4 => exact bY4 | 5 => exact bY5 | 6 => exact bY6 | 7 => exact bY7 | i' + 8 => exact ⟨(by decide : (0 : Int) ≤ (0 : Int32).toInt), (by decide : (0 : Int32).toInt < 256)⟩
    refine Go.aload X222 hx (hb hby at_239) rfl rfl (q := 241) rfl ?_
    refine Go.callS X222 hx hZ hown (wd4 hw) (wd5 hw) (wd6 hw) (wd7 hw) (by decide) (cisu l Z a0 hw b215 (k215) ((7 : Int32)) ([Y0, Y1, Y2, Y3, Y4, Y5, Y6, Y7]) h222 OW222 V222 hys (by decide)) e222 (by rw [hml]; rfl) (hb hby at_241) (argsL := [(.ref b215)]) (rest := []) (lenOf pd2 rfl) rfl rfl (W := 0) (by first | exact Nat.le_refl _ | decide) (by decide) (by decide) (by decide) (by decide) ?_
    intro v223 T223 L223 X223 hQ223
    obtain ⟨rfl, N223q, e223⟩ := hQ223
    have N223 := Fr.app N222 N223q
    refine Go.aload X223 hx (hb hby at_244) rfl rfl (q := 246) rfl ?_
    refine Go.iloadN X223 hx (hb hby at_246) rfl (q := 247) rfl ?_
    refine Go.callS X223 hx hZ hown (wd11 hw) (wd12 hw) (wd13 hw) (wd14 hw) (by decide) (cref l Z a0 hw b206 (k206) ((7 : Int32)) ([Y0, Y1, Y2, Y3, Y4, Y5, Y6, Y7]) h222 OW222 V214 hys (by decide)) e223 (by rw [hml]; rfl) (hb hby at_247) (argsL := [(.ref b206), (.int (7 : Int32))]) (rest := [(.int (own_U [Y0, Y1, Y2, Y3, Y4, Y5, Y6, Y7] (7 : Int32) 8 0))]) (lenOf pd3 rfl) rfl rfl (W := 1) (by first | exact Nat.le_refl _ | decide) (by decide) (by decide) (by decide) (by decide) ?_
    intro v224 T224 L224 X224 hQ224
    obtain ⟨rfl, N224q, e224⟩ := hQ224
    have N224 := Fr.app N223 N224q
    refine Go.icmpNo X224 hx (hb hby at_250) (Jvm.Free.XT.ii_ne_f rfl) (q := 253) rfl ?_
    refine Go.iconst X224 hx (hb hby at_253) (r := (1 : Int32)) rfl (q := 254) rfl ?_
    refine Go.goto X224 hx (hb hby at_254) (q := 258) (by decide) (by decide) ?_
    exact Go.retI X224 hx hret hlk (by simp) rfl (hb hby at_258) e224 (by decide) (by decide) ⟨rfl, N224⟩
  · show Go pp ee below _ (s₁.setTop (mkF mm 7 #[.val (.long px), .second, .val (.int pm), .unset, .unset, .unset] [(.int (8 : Int32))]))
    refine Go.istoreN X0 hx (hb hby at_7) (l' := #[.val (.long px), .second, .val (.int pm), .val (.int (8 : Int32)), .unset, .unset]) rfl (q := 8) rfl ?_
    refine Go.bipush X0 hx (hb hby at_8) (r := (8 : Int32)) rfl (q := 10) rfl ?_
    refine Go.newP X0 hx hZ (hb hby at_10) (wd1 hw) e0 (by decide) (cap := 8) (by decide) (by decide) (by decide) (by decide) (ad := "[I") rfl (q := 12) rfl ?_
    intro b225 T225 h225 k225 X225 e225 q225 E225 V225 B225
    have g_b225 : Z.heap.size ≤ b225 := Nat.le_trans O0.1 (Nat.le_of_eq q225)
    have OE225 := ext_trans O0 E225
    replace V225 : Arv Z h225 b225 k225 .int (8 : Int32) [(.int (0 : Int32)), (.int (0 : Int32)), (.int (0 : Int32)), (.int (0 : Int32)), (.int (0 : Int32)), (.int (0 : Int32)), (.int (0 : Int32)), (.int (0 : Int32))] (.int (0 : Int32)) := V225.pad (pad_rep [] (.int (0 : Int32)) 8)
    refine Go.astore X225 hx (hb hby at_12) rfl (l' := #[.val (.long px), .second, .val (.int pm), .val (.int (8 : Int32)), .val (.ref b225), .unset]) rfl (q := 14) rfl ?_
    refine Go.aload X225 hx (hb hby at_14) rfl rfl (q := 16) rfl ?_
    refine Go.iconst X225 hx (hb hby at_16) (r := (0 : Int32)) rfl (q := 17) rfl ?_
    refine Go.lloadN X225 hx (hb hby at_17) rfl (q := 18) rfl ?_
    refine Go.ldc2 X225 hx hZ hown (wd2 hw) (hb hby at_18) (q := 21) rfl ?_
    refine Go.land X225 hx (hb hby at_21) rfl (q := 22) rfl ?_
    refine Go.l2i X225 hx (hb hby at_22) rfl (q := 23) rfl ?_
    have bY0 := own_l255 px
    generalize ((px &&& (255 : Int64)).toInt32) = Y0 at bY0 ⊢
    show Go pp ee below _ (T225.setTop (mkF mm 23 #[.val (.long px), .second, .val (.int pm), .val (.int (8 : Int32)), .val (.ref b225), .unset] [(.int Y0), (.int (0 : Int32)), (.ref b225)]))
    refine Go.ist X225 hx hZ e225 V225 ⟨by decide, by decide⟩ (i := 0) rfl (Nat.le_of_ble_eq_true rfl) (hb hby at_23) ?_
    intro T226 h226 X226 e226 W226 V226
    replace V226 : Arv Z h226 b225 k225 .int (8 : Int32) [(.int Y0), (.int (0 : Int32)), (.int (0 : Int32)), (.int (0 : Int32)), (.int (0 : Int32)), (.int (0 : Int32)), (.int (0 : Int32)), (.int (0 : Int32))] (.int (0 : Int32)) := V226
    have N226 := Fr.snoc X226 N0 g_b225
    replace B225 := B225.wr W226
    have OW226 := ext_wr OE225 W226 g_b225
    refine Go.aload X226 hx (hb hby at_24) rfl rfl (q := 26) rfl ?_
    refine Go.iconst X226 hx (hb hby at_26) (r := (1 : Int32)) rfl (q := 27) rfl ?_
    refine Go.lloadN X226 hx (hb hby at_27) rfl (q := 28) rfl ?_
    refine Go.bipush X226 hx (hb hby at_28) (r := (8 : Int32)) rfl (q := 30) rfl ?_
    refine Go.lushr X226 hx (hb hby at_30) rfl (q := 31) rfl ?_
    refine Go.ldc2 X226 hx hZ hown (wd2 hw) (hb hby at_31) (q := 34) rfl ?_
    refine Go.land X226 hx (hb hby at_34) rfl (q := 35) rfl ?_
    refine Go.l2i X226 hx (hb hby at_35) rfl (q := 36) rfl ?_
    have bY1 := own_l255 ((px.toUInt64 >>> ((8 : Int32) &&& 0x3f).toInt64.toUInt64).toInt64)
    generalize ((((px.toUInt64 >>> ((8 : Int32) &&& 0x3f).toInt64.toUInt64).toInt64) &&& (255 : Int64)).toInt32) = Y1 at bY1 ⊢
    show Go pp ee below _ (T226.setTop (mkF mm 36 #[.val (.long px), .second, .val (.int pm), .val (.int (8 : Int32)), .val (.ref b225), .unset] [(.int Y1), (.int (1 : Int32)), (.ref b225)]))
    refine Go.ist X226 hx hZ e226 V226 ⟨by decide, by decide⟩ (i := 1) rfl (Nat.le_of_ble_eq_true rfl) (hb hby at_36) ?_
    intro T227 h227 X227 e227 W227 V227
    replace V227 : Arv Z h227 b225 k225 .int (8 : Int32) [(.int Y0), (.int Y1), (.int (0 : Int32)), (.int (0 : Int32)), (.int (0 : Int32)), (.int (0 : Int32)), (.int (0 : Int32)), (.int (0 : Int32))] (.int (0 : Int32)) := V227
    have N227 := Fr.snoc X227 N226 g_b225
    replace B225 := B225.wr W227
    have OW227 := ext_wr OW226 W227 g_b225
    refine Go.aload X227 hx (hb hby at_37) rfl rfl (q := 39) rfl ?_
    refine Go.iconst X227 hx (hb hby at_39) (r := (2 : Int32)) rfl (q := 40) rfl ?_
    refine Go.lloadN X227 hx (hb hby at_40) rfl (q := 41) rfl ?_
    refine Go.bipush X227 hx (hb hby at_41) (r := (16 : Int32)) rfl (q := 43) rfl ?_
    refine Go.lushr X227 hx (hb hby at_43) rfl (q := 44) rfl ?_
    refine Go.ldc2 X227 hx hZ hown (wd2 hw) (hb hby at_44) (q := 47) rfl ?_
    refine Go.land X227 hx (hb hby at_47) rfl (q := 48) rfl ?_
    refine Go.l2i X227 hx (hb hby at_48) rfl (q := 49) rfl ?_
    have bY2 := own_l255 ((px.toUInt64 >>> ((16 : Int32) &&& 0x3f).toInt64.toUInt64).toInt64)
    generalize ((((px.toUInt64 >>> ((16 : Int32) &&& 0x3f).toInt64.toUInt64).toInt64) &&& (255 : Int64)).toInt32) = Y2 at bY2 ⊢
    show Go pp ee below _ (T227.setTop (mkF mm 49 #[.val (.long px), .second, .val (.int pm), .val (.int (8 : Int32)), .val (.ref b225), .unset] [(.int Y2), (.int (2 : Int32)), (.ref b225)]))
    refine Go.ist X227 hx hZ e227 V227 ⟨by decide, by decide⟩ (i := 2) rfl (Nat.le_of_ble_eq_true rfl) (hb hby at_49) ?_
    intro T228 h228 X228 e228 W228 V228
    replace V228 : Arv Z h228 b225 k225 .int (8 : Int32) [(.int Y0), (.int Y1), (.int Y2), (.int (0 : Int32)), (.int (0 : Int32)), (.int (0 : Int32)), (.int (0 : Int32)), (.int (0 : Int32))] (.int (0 : Int32)) := V228
    have N228 := Fr.snoc X228 N227 g_b225
    replace B225 := B225.wr W228
    have OW228 := ext_wr OW227 W228 g_b225
    refine Go.aload X228 hx (hb hby at_50) rfl rfl (q := 52) rfl ?_
    refine Go.iconst X228 hx (hb hby at_52) (r := (3 : Int32)) rfl (q := 53) rfl ?_
    refine Go.lloadN X228 hx (hb hby at_53) rfl (q := 54) rfl ?_
    refine Go.bipush X228 hx (hb hby at_54) (r := (24 : Int32)) rfl (q := 56) rfl ?_
    refine Go.lushr X228 hx (hb hby at_56) rfl (q := 57) rfl ?_
    refine Go.ldc2 X228 hx hZ hown (wd2 hw) (hb hby at_57) (q := 60) rfl ?_
    refine Go.land X228 hx (hb hby at_60) rfl (q := 61) rfl ?_
    refine Go.l2i X228 hx (hb hby at_61) rfl (q := 62) rfl ?_
    have bY3 := own_l255 ((px.toUInt64 >>> ((24 : Int32) &&& 0x3f).toInt64.toUInt64).toInt64)
    generalize ((((px.toUInt64 >>> ((24 : Int32) &&& 0x3f).toInt64.toUInt64).toInt64) &&& (255 : Int64)).toInt32) = Y3 at bY3 ⊢
    show Go pp ee below _ (T228.setTop (mkF mm 62 #[.val (.long px), .second, .val (.int pm), .val (.int (8 : Int32)), .val (.ref b225), .unset] [(.int Y3), (.int (3 : Int32)), (.ref b225)]))
    refine Go.ist X228 hx hZ e228 V228 ⟨by decide, by decide⟩ (i := 3) rfl (Nat.le_of_ble_eq_true rfl) (hb hby at_62) ?_
    intro T229 h229 X229 e229 W229 V229
    replace V229 : Arv Z h229 b225 k225 .int (8 : Int32) [(.int Y0), (.int Y1), (.int Y2), (.int Y3), (.int (0 : Int32)), (.int (0 : Int32)), (.int (0 : Int32)), (.int (0 : Int32))] (.int (0 : Int32)) := V229
    have N229 := Fr.snoc X229 N228 g_b225
    replace B225 := B225.wr W229
    have OW229 := ext_wr OW228 W229 g_b225
    refine Go.aload X229 hx (hb hby at_63) rfl rfl (q := 65) rfl ?_
    refine Go.iconst X229 hx (hb hby at_65) (r := (4 : Int32)) rfl (q := 66) rfl ?_
    refine Go.lloadN X229 hx (hb hby at_66) rfl (q := 67) rfl ?_
    refine Go.bipush X229 hx (hb hby at_67) (r := (32 : Int32)) rfl (q := 69) rfl ?_
    refine Go.lushr X229 hx (hb hby at_69) rfl (q := 70) rfl ?_
    refine Go.ldc2 X229 hx hZ hown (wd2 hw) (hb hby at_70) (q := 73) rfl ?_
    refine Go.land X229 hx (hb hby at_73) rfl (q := 74) rfl ?_
    refine Go.l2i X229 hx (hb hby at_74) rfl (q := 75) rfl ?_
    have bY4 := own_l255 ((px.toUInt64 >>> ((32 : Int32) &&& 0x3f).toInt64.toUInt64).toInt64)
    generalize ((((px.toUInt64 >>> ((32 : Int32) &&& 0x3f).toInt64.toUInt64).toInt64) &&& (255 : Int64)).toInt32) = Y4 at bY4 ⊢
    show Go pp ee below _ (T229.setTop (mkF mm 75 #[.val (.long px), .second, .val (.int pm), .val (.int (8 : Int32)), .val (.ref b225), .unset] [(.int Y4), (.int (4 : Int32)), (.ref b225)]))
    refine Go.ist X229 hx hZ e229 V229 ⟨by decide, by decide⟩ (i := 4) rfl (Nat.le_of_ble_eq_true rfl) (hb hby at_75) ?_
    intro T230 h230 X230 e230 W230 V230
    replace V230 : Arv Z h230 b225 k225 .int (8 : Int32) [(.int Y0), (.int Y1), (.int Y2), (.int Y3), (.int Y4), (.int (0 : Int32)), (.int (0 : Int32)), (.int (0 : Int32))] (.int (0 : Int32)) := V230
    have N230 := Fr.snoc X230 N229 g_b225
    replace B225 := B225.wr W230
    have OW230 := ext_wr OW229 W230 g_b225
    refine Go.aload X230 hx (hb hby at_76) rfl rfl (q := 78) rfl ?_
    refine Go.iconst X230 hx (hb hby at_78) (r := (5 : Int32)) rfl (q := 79) rfl ?_
    refine Go.lloadN X230 hx (hb hby at_79) rfl (q := 80) rfl ?_
    refine Go.bipush X230 hx (hb hby at_80) (r := (40 : Int32)) rfl (q := 82) rfl ?_
    refine Go.lushr X230 hx (hb hby at_82) rfl (q := 83) rfl ?_
    refine Go.ldc2 X230 hx hZ hown (wd2 hw) (hb hby at_83) (q := 86) rfl ?_
    refine Go.land X230 hx (hb hby at_86) rfl (q := 87) rfl ?_
    refine Go.l2i X230 hx (hb hby at_87) rfl (q := 88) rfl ?_
    have bY5 := own_l255 ((px.toUInt64 >>> ((40 : Int32) &&& 0x3f).toInt64.toUInt64).toInt64)
    generalize ((((px.toUInt64 >>> ((40 : Int32) &&& 0x3f).toInt64.toUInt64).toInt64) &&& (255 : Int64)).toInt32) = Y5 at bY5 ⊢
    show Go pp ee below _ (T230.setTop (mkF mm 88 #[.val (.long px), .second, .val (.int pm), .val (.int (8 : Int32)), .val (.ref b225), .unset] [(.int Y5), (.int (5 : Int32)), (.ref b225)]))
    refine Go.ist X230 hx hZ e230 V230 ⟨by decide, by decide⟩ (i := 5) rfl (Nat.le_of_ble_eq_true rfl) (hb hby at_88) ?_
    intro T231 h231 X231 e231 W231 V231
    replace V231 : Arv Z h231 b225 k225 .int (8 : Int32) [(.int Y0), (.int Y1), (.int Y2), (.int Y3), (.int Y4), (.int Y5), (.int (0 : Int32)), (.int (0 : Int32))] (.int (0 : Int32)) := V231
    have N231 := Fr.snoc X231 N230 g_b225
    replace B225 := B225.wr W231
    have OW231 := ext_wr OW230 W231 g_b225
    refine Go.aload X231 hx (hb hby at_89) rfl rfl (q := 91) rfl ?_
    refine Go.bipush X231 hx (hb hby at_91) (r := (6 : Int32)) rfl (q := 93) rfl ?_
    refine Go.lloadN X231 hx (hb hby at_93) rfl (q := 94) rfl ?_
    refine Go.bipush X231 hx (hb hby at_94) (r := (48 : Int32)) rfl (q := 96) rfl ?_
    refine Go.lushr X231 hx (hb hby at_96) rfl (q := 97) rfl ?_
    refine Go.ldc2 X231 hx hZ hown (wd2 hw) (hb hby at_97) (q := 100) rfl ?_
    refine Go.land X231 hx (hb hby at_100) rfl (q := 101) rfl ?_
    refine Go.l2i X231 hx (hb hby at_101) rfl (q := 102) rfl ?_
    have bY6 := own_l255 ((px.toUInt64 >>> ((48 : Int32) &&& 0x3f).toInt64.toUInt64).toInt64)
    generalize ((((px.toUInt64 >>> ((48 : Int32) &&& 0x3f).toInt64.toUInt64).toInt64) &&& (255 : Int64)).toInt32) = Y6 at bY6 ⊢
    show Go pp ee below _ (T231.setTop (mkF mm 102 #[.val (.long px), .second, .val (.int pm), .val (.int (8 : Int32)), .val (.ref b225), .unset] [(.int Y6), (.int (6 : Int32)), (.ref b225)]))
    refine Go.ist X231 hx hZ e231 V231 ⟨by decide, by decide⟩ (i := 6) rfl (Nat.le_of_ble_eq_true rfl) (hb hby at_102) ?_
    intro T232 h232 X232 e232 W232 V232
    replace V232 : Arv Z h232 b225 k225 .int (8 : Int32) [(.int Y0), (.int Y1), (.int Y2), (.int Y3), (.int Y4), (.int Y5), (.int Y6), (.int (0 : Int32))] (.int (0 : Int32)) := V232
    have N232 := Fr.snoc X232 N231 g_b225
    replace B225 := B225.wr W232
    have OW232 := ext_wr OW231 W232 g_b225
    refine Go.aload X232 hx (hb hby at_103) rfl rfl (q := 105) rfl ?_
    refine Go.bipush X232 hx (hb hby at_105) (r := (7 : Int32)) rfl (q := 107) rfl ?_
    refine Go.lloadN X232 hx (hb hby at_107) rfl (q := 108) rfl ?_
    refine Go.bipush X232 hx (hb hby at_108) (r := (56 : Int32)) rfl (q := 110) rfl ?_
    refine Go.lushr X232 hx (hb hby at_110) rfl (q := 111) rfl ?_
    refine Go.ldc2 X232 hx hZ hown (wd2 hw) (hb hby at_111) (q := 114) rfl ?_
    refine Go.land X232 hx (hb hby at_114) rfl (q := 115) rfl ?_
    refine Go.l2i X232 hx (hb hby at_115) rfl (q := 116) rfl ?_
    have bY7 := own_l255 ((px.toUInt64 >>> ((56 : Int32) &&& 0x3f).toInt64.toUInt64).toInt64)
    generalize ((((px.toUInt64 >>> ((56 : Int32) &&& 0x3f).toInt64.toUInt64).toInt64) &&& (255 : Int64)).toInt32) = Y7 at bY7 ⊢
    show Go pp ee below _ (T232.setTop (mkF mm 116 #[.val (.long px), .second, .val (.int pm), .val (.int (8 : Int32)), .val (.ref b225), .unset] [(.int Y7), (.int (7 : Int32)), (.ref b225)]))
    refine Go.ist X232 hx hZ e232 V232 ⟨by decide, by decide⟩ (i := 7) rfl (Nat.le_of_ble_eq_true rfl) (hb hby at_116) ?_
    intro T233 h233 X233 e233 W233 V233
    replace V233 : Arv Z h233 b225 k225 .int (8 : Int32) [(.int Y0), (.int Y1), (.int Y2), (.int Y3), (.int Y4), (.int Y5), (.int Y6), (.int Y7)] (.int (0 : Int32)) := V233
    have N233 := Fr.snoc X233 N232 g_b225
    replace B225 := B225.wr W233
    have OW233 := ext_wr OW232 W233 g_b225
    refine Go.iloadN X233 hx (hb hby at_117) rfl (q := 118) rfl ?_
    refine Go.newP X233 hx hZ (hb hby at_118) (wd3 hw) e233 (by decide) (cap := 8) (by decide) (by decide) (by decide) (by decide) (ad := "[B") rfl (q := 120) rfl ?_
    intro b234 T234 h234 k234 X234 e234 q234 E234 V234 B234
    have ne_b225_b234 : b225 ≠ b234 := ne_new B225.lt (Nat.le_of_eq q234)
    have g_b234 : Z.heap.size ≤ b234 := Nat.le_trans OW233.1 (Nat.le_of_eq q234)
    replace B225 := B225.ext E234
    replace V233 := V233.ext E234
    have OE234 := ext_trans OW233 E234
    replace V234 : Arv Z h234 b234 k234 .byte (8 : Int32) [(.int (0 : Int32)), (.int (0 : Int32)), (.int (0 : Int32)), (.int (0 : Int32)), (.int (0 : Int32)), (.int (0 : Int32)), (.int (0 : Int32)), (.int (0 : Int32))] (.int (0 : Int32)) := V234.pad (pad_rep [] (.int (0 : Int32)) 8)
    refine Go.astore X234 hx (hb hby at_120) rfl (l' := #[.val (.long px), .second, .val (.int pm), .val (.int (8 : Int32)), .val (.ref b225), .val (.ref b234)]) rfl (q := 122) rfl ?_
    refine Go.iloadN X234 hx (hb hby at_122) rfl (q := 123) rfl ?_
    refine Go.ifNo X234 hx (hb hby at_123) (by decide) (q := 126) rfl ?_
    refine Go.aload X234 hx (hb hby at_126) rfl rfl (q := 128) rfl ?_
    refine Go.iconst X234 hx (hb hby at_128) (r := (0 : Int32)) rfl (q := 129) rfl ?_
    refine Go.aload X234 hx (hb hby at_129) rfl rfl (q := 131) rfl ?_
    refine Go.iconst X234 hx (hb hby at_131) (r := (0 : Int32)) rfl (q := 132) rfl ?_
    refine Go.ial X234 hx hZ e234 V233 ⟨by decide, by decide⟩ (v := (.int Y0)) rfl (hb hby at_132) ?_
    refine Go.i2b X234 hx (hb hby at_133) rfl (q := 134) rfl ?_
    refine Go.bst X234 hx hZ e234 V234 ⟨by decide, by decide⟩ (i := 0) rfl (Nat.le_of_ble_eq_true rfl) (hb hby at_134) ?_
    intro T235 h235 X235 e235 W235 V235
    rw [bb Y0] at V235
    replace V235 : Arv Z h235 b234 k234 .byte (8 : Int32) [(.int (Y0.toInt8.toInt32)), (.int (0 : Int32)), (.int (0 : Int32)), (.int (0 : Int32)), (.int (0 : Int32)), (.int (0 : Int32)), (.int (0 : Int32)), (.int (0 : Int32))] (.int (0 : Int32)) := V235
    have N235 := Fr.snoc X235 N233 g_b234
    replace B225 := B225.wr W235
    replace V233 := V233.other W235 ne_b225_b234
    replace B234 := B234.wr W235
    have OW235 := ext_wr OE234 W235 g_b234
    refine Go.iloadN X235 hx (hb hby at_135) rfl (q := 136) rfl ?_
    refine Go.iconst X235 hx (hb hby at_136) (r := (1 : Int32)) rfl (q := 137) rfl ?_
    refine Go.icmpNo X235 hx (hb hby at_137) (by decide) (q := 140) rfl ?_
    refine Go.aload X235 hx (hb hby at_140) rfl rfl (q := 142) rfl ?_
    refine Go.iconst X235 hx (hb hby at_142) (r := (1 : Int32)) rfl (q := 143) rfl ?_
    refine Go.aload X235 hx (hb hby at_143) rfl rfl (q := 145) rfl ?_
    refine Go.iconst X235 hx (hb hby at_145) (r := (1 : Int32)) rfl (q := 146) rfl ?_
    refine Go.ial X235 hx hZ e235 V233 ⟨by decide, by decide⟩ (v := (.int Y1)) rfl (hb hby at_146) ?_
    refine Go.i2b X235 hx (hb hby at_147) rfl (q := 148) rfl ?_
    refine Go.bst X235 hx hZ e235 V235 ⟨by decide, by decide⟩ (i := 1) rfl (Nat.le_of_ble_eq_true rfl) (hb hby at_148) ?_
    intro T236 h236 X236 e236 W236 V236
    rw [bb Y1] at V236
    replace V236 : Arv Z h236 b234 k234 .byte (8 : Int32) [(.int (Y0.toInt8.toInt32)), (.int (Y1.toInt8.toInt32)), (.int (0 : Int32)), (.int (0 : Int32)), (.int (0 : Int32)), (.int (0 : Int32)), (.int (0 : Int32)), (.int (0 : Int32))] (.int (0 : Int32)) := V236
    have N236 := Fr.snoc X236 N235 g_b234
    replace B225 := B225.wr W236
    replace V233 := V233.other W236 ne_b225_b234
    replace B234 := B234.wr W236
    have OW236 := ext_wr OW235 W236 g_b234
    refine Go.iloadN X236 hx (hb hby at_149) rfl (q := 150) rfl ?_
    refine Go.iconst X236 hx (hb hby at_150) (r := (2 : Int32)) rfl (q := 151) rfl ?_
    refine Go.icmpNo X236 hx (hb hby at_151) (by decide) (q := 154) rfl ?_
    refine Go.aload X236 hx (hb hby at_154) rfl rfl (q := 156) rfl ?_
    refine Go.iconst X236 hx (hb hby at_156) (r := (2 : Int32)) rfl (q := 157) rfl ?_
    refine Go.aload X236 hx (hb hby at_157) rfl rfl (q := 159) rfl ?_
    refine Go.iconst X236 hx (hb hby at_159) (r := (2 : Int32)) rfl (q := 160) rfl ?_
    refine Go.ial X236 hx hZ e236 V233 ⟨by decide, by decide⟩ (v := (.int Y2)) rfl (hb hby at_160) ?_
    refine Go.i2b X236 hx (hb hby at_161) rfl (q := 162) rfl ?_
    refine Go.bst X236 hx hZ e236 V236 ⟨by decide, by decide⟩ (i := 2) rfl (Nat.le_of_ble_eq_true rfl) (hb hby at_162) ?_
    intro T237 h237 X237 e237 W237 V237
    rw [bb Y2] at V237
    replace V237 : Arv Z h237 b234 k234 .byte (8 : Int32) [(.int (Y0.toInt8.toInt32)), (.int (Y1.toInt8.toInt32)), (.int (Y2.toInt8.toInt32)), (.int (0 : Int32)), (.int (0 : Int32)), (.int (0 : Int32)), (.int (0 : Int32)), (.int (0 : Int32))] (.int (0 : Int32)) := V237
    have N237 := Fr.snoc X237 N236 g_b234
    replace B225 := B225.wr W237
    replace V233 := V233.other W237 ne_b225_b234
    replace B234 := B234.wr W237
    have OW237 := ext_wr OW236 W237 g_b234
    refine Go.iloadN X237 hx (hb hby at_163) rfl (q := 164) rfl ?_
    refine Go.iconst X237 hx (hb hby at_164) (r := (3 : Int32)) rfl (q := 165) rfl ?_
    refine Go.icmpNo X237 hx (hb hby at_165) (by decide) (q := 168) rfl ?_
    refine Go.aload X237 hx (hb hby at_168) rfl rfl (q := 170) rfl ?_
    refine Go.iconst X237 hx (hb hby at_170) (r := (3 : Int32)) rfl (q := 171) rfl ?_
    refine Go.aload X237 hx (hb hby at_171) rfl rfl (q := 173) rfl ?_
    refine Go.iconst X237 hx (hb hby at_173) (r := (3 : Int32)) rfl (q := 174) rfl ?_
    refine Go.ial X237 hx hZ e237 V233 ⟨by decide, by decide⟩ (v := (.int Y3)) rfl (hb hby at_174) ?_
    refine Go.i2b X237 hx (hb hby at_175) rfl (q := 176) rfl ?_
    refine Go.bst X237 hx hZ e237 V237 ⟨by decide, by decide⟩ (i := 3) rfl (Nat.le_of_ble_eq_true rfl) (hb hby at_176) ?_
    intro T238 h238 X238 e238 W238 V238
    rw [bb Y3] at V238
    replace V238 : Arv Z h238 b234 k234 .byte (8 : Int32) [(.int (Y0.toInt8.toInt32)), (.int (Y1.toInt8.toInt32)), (.int (Y2.toInt8.toInt32)), (.int (Y3.toInt8.toInt32)), (.int (0 : Int32)), (.int (0 : Int32)), (.int (0 : Int32)), (.int (0 : Int32))] (.int (0 : Int32)) := V238
    have N238 := Fr.snoc X238 N237 g_b234
    replace B225 := B225.wr W238
    replace V233 := V233.other W238 ne_b225_b234
    replace B234 := B234.wr W238
    have OW238 := ext_wr OW237 W238 g_b234
    refine Go.iloadN X238 hx (hb hby at_177) rfl (q := 178) rfl ?_
    refine Go.iconst X238 hx (hb hby at_178) (r := (4 : Int32)) rfl (q := 179) rfl ?_
    refine Go.icmpNo X238 hx (hb hby at_179) (by decide) (q := 182) rfl ?_
    refine Go.aload X238 hx (hb hby at_182) rfl rfl (q := 184) rfl ?_
    refine Go.iconst X238 hx (hb hby at_184) (r := (4 : Int32)) rfl (q := 185) rfl ?_
    refine Go.aload X238 hx (hb hby at_185) rfl rfl (q := 187) rfl ?_
    refine Go.iconst X238 hx (hb hby at_187) (r := (4 : Int32)) rfl (q := 188) rfl ?_
    refine Go.ial X238 hx hZ e238 V233 ⟨by decide, by decide⟩ (v := (.int Y4)) rfl (hb hby at_188) ?_
    refine Go.i2b X238 hx (hb hby at_189) rfl (q := 190) rfl ?_
    refine Go.bst X238 hx hZ e238 V238 ⟨by decide, by decide⟩ (i := 4) rfl (Nat.le_of_ble_eq_true rfl) (hb hby at_190) ?_
    intro T239 h239 X239 e239 W239 V239
    rw [bb Y4] at V239
    replace V239 : Arv Z h239 b234 k234 .byte (8 : Int32) [(.int (Y0.toInt8.toInt32)), (.int (Y1.toInt8.toInt32)), (.int (Y2.toInt8.toInt32)), (.int (Y3.toInt8.toInt32)), (.int (Y4.toInt8.toInt32)), (.int (0 : Int32)), (.int (0 : Int32)), (.int (0 : Int32))] (.int (0 : Int32)) := V239
    have N239 := Fr.snoc X239 N238 g_b234
    replace B225 := B225.wr W239
    replace V233 := V233.other W239 ne_b225_b234
    replace B234 := B234.wr W239
    have OW239 := ext_wr OW238 W239 g_b234
    refine Go.iloadN X239 hx (hb hby at_191) rfl (q := 192) rfl ?_
    refine Go.iconst X239 hx (hb hby at_192) (r := (5 : Int32)) rfl (q := 193) rfl ?_
    refine Go.icmpNo X239 hx (hb hby at_193) (by decide) (q := 196) rfl ?_
    refine Go.aload X239 hx (hb hby at_196) rfl rfl (q := 198) rfl ?_
    refine Go.iconst X239 hx (hb hby at_198) (r := (5 : Int32)) rfl (q := 199) rfl ?_
    refine Go.aload X239 hx (hb hby at_199) rfl rfl (q := 201) rfl ?_
    refine Go.iconst X239 hx (hb hby at_201) (r := (5 : Int32)) rfl (q := 202) rfl ?_
    refine Go.ial X239 hx hZ e239 V233 ⟨by decide, by decide⟩ (v := (.int Y5)) rfl (hb hby at_202) ?_
    refine Go.i2b X239 hx (hb hby at_203) rfl (q := 204) rfl ?_
    refine Go.bst X239 hx hZ e239 V239 ⟨by decide, by decide⟩ (i := 5) rfl (Nat.le_of_ble_eq_true rfl) (hb hby at_204) ?_
    intro T240 h240 X240 e240 W240 V240
    rw [bb Y5] at V240
    replace V240 : Arv Z h240 b234 k234 .byte (8 : Int32) [(.int (Y0.toInt8.toInt32)), (.int (Y1.toInt8.toInt32)), (.int (Y2.toInt8.toInt32)), (.int (Y3.toInt8.toInt32)), (.int (Y4.toInt8.toInt32)), (.int (Y5.toInt8.toInt32)), (.int (0 : Int32)), (.int (0 : Int32))] (.int (0 : Int32)) := V240
    have N240 := Fr.snoc X240 N239 g_b234
    replace B225 := B225.wr W240
    replace V233 := V233.other W240 ne_b225_b234
    replace B234 := B234.wr W240
    have OW240 := ext_wr OW239 W240 g_b234
    refine Go.iloadN X240 hx (hb hby at_205) rfl (q := 206) rfl ?_
    refine Go.bipush X240 hx (hb hby at_206) (r := (6 : Int32)) rfl (q := 208) rfl ?_
    refine Go.icmpNo X240 hx (hb hby at_208) (by decide) (q := 211) rfl ?_
    refine Go.aload X240 hx (hb hby at_211) rfl rfl (q := 213) rfl ?_
    refine Go.bipush X240 hx (hb hby at_213) (r := (6 : Int32)) rfl (q := 215) rfl ?_
    refine Go.aload X240 hx (hb hby at_215) rfl rfl (q := 217) rfl ?_
    refine Go.bipush X240 hx (hb hby at_217) (r := (6 : Int32)) rfl (q := 219) rfl ?_
    refine Go.ial X240 hx hZ e240 V233 ⟨by decide, by decide⟩ (v := (.int Y6)) rfl (hb hby at_219) ?_
    refine Go.i2b X240 hx (hb hby at_220) rfl (q := 221) rfl ?_
    refine Go.bst X240 hx hZ e240 V240 ⟨by decide, by decide⟩ (i := 6) rfl (Nat.le_of_ble_eq_true rfl) (hb hby at_221) ?_
    intro T241 h241 X241 e241 W241 V241
    rw [bb Y6] at V241
    replace V241 : Arv Z h241 b234 k234 .byte (8 : Int32) [(.int (Y0.toInt8.toInt32)), (.int (Y1.toInt8.toInt32)), (.int (Y2.toInt8.toInt32)), (.int (Y3.toInt8.toInt32)), (.int (Y4.toInt8.toInt32)), (.int (Y5.toInt8.toInt32)), (.int (Y6.toInt8.toInt32)), (.int (0 : Int32))] (.int (0 : Int32)) := V241
    have N241 := Fr.snoc X241 N240 g_b234
    replace B225 := B225.wr W241
    replace V233 := V233.other W241 ne_b225_b234
    replace B234 := B234.wr W241
    have OW241 := ext_wr OW240 W241 g_b234
    refine Go.iloadN X241 hx (hb hby at_222) rfl (q := 223) rfl ?_
    refine Go.bipush X241 hx (hb hby at_223) (r := (7 : Int32)) rfl (q := 225) rfl ?_
    refine Go.icmpNo X241 hx (hb hby at_225) (by decide) (q := 228) rfl ?_
    refine Go.aload X241 hx (hb hby at_228) rfl rfl (q := 230) rfl ?_
    refine Go.bipush X241 hx (hb hby at_230) (r := (7 : Int32)) rfl (q := 232) rfl ?_
    refine Go.aload X241 hx (hb hby at_232) rfl rfl (q := 234) rfl ?_
    refine Go.bipush X241 hx (hb hby at_234) (r := (7 : Int32)) rfl (q := 236) rfl ?_
    refine Go.ial X241 hx hZ e241 V233 ⟨by decide, by decide⟩ (v := (.int Y7)) rfl (hb hby at_236) ?_
    refine Go.i2b X241 hx (hb hby at_237) rfl (q := 238) rfl ?_
    refine Go.bst X241 hx hZ e241 V241 ⟨by decide, by decide⟩ (i := 7) rfl (Nat.le_of_ble_eq_true rfl) (hb hby at_238) ?_
    intro T242 h242 X242 e242 W242 V242
    rw [bb Y7] at V242
    replace V242 : Arv Z h242 b234 k234 .byte (8 : Int32) [(.int (Y0.toInt8.toInt32)), (.int (Y1.toInt8.toInt32)), (.int (Y2.toInt8.toInt32)), (.int (Y3.toInt8.toInt32)), (.int (Y4.toInt8.toInt32)), (.int (Y5.toInt8.toInt32)), (.int (Y6.toInt8.toInt32)), (.int (Y7.toInt8.toInt32))] (.int (0 : Int32)) := V242
    have N242 := Fr.snoc X242 N241 g_b234
    replace B225 := B225.wr W242
    replace V233 := V233.other W242 ne_b225_b234
    replace B234 := B234.wr W242
    have OW242 := ext_wr OW241 W242 g_b234
    replace V242 := own_widen (vs' := ([Y0, Y1, Y2, Y3, Y4, Y5, Y6, Y7].map fun y => Value.int y.toInt8.toInt32)) V242 (by intro i hi; have hi' : i < 8 := hi; match i, hi' with | 0, _ => rfl | 1, _ => rfl | 2, _ => rfl | 3, _ => rfl | 4, _ => rfl | 5, _ => rfl | 6, _ => rfl | 7, _ => rfl | i' + 8, h => exact absurd h (by omega))
    replace V233 : Arv Z h242 b225 k225 .int (8 : Int32) ([Y0, Y1, Y2, Y3, Y4, Y5, Y6, Y7].map Value.int) (.int (0 : Int32)) := V233
    have hys : ∀ i : Nat, 0 ≤ ([Y0, Y1, Y2, Y3, Y4, Y5, Y6, Y7].getD i 0).toInt ∧ ([Y0, Y1, Y2, Y3, Y4, Y5, Y6, Y7].getD i 0).toInt < 256 := by intro i; match i with | 0 => exact bY0 | 1 => exact bY1 | 2 => exact bY2 | 3 => exact bY3 | 4 => exact bY4 | 5 => exact bY5 | 6 => exact bY6 | 7 => exact bY7 | i' + 8 => exact ⟨(by decide : (0 : Int) ≤ (0 : Int32).toInt), (by decide : (0 : Int32).toInt < 256)⟩
    refine Go.aload X242 hx (hb hby at_239) rfl rfl (q := 241) rfl ?_
    refine Go.callS X242 hx hZ hown (wd4 hw) (wd5 hw) (wd6 hw) (wd7 hw) (by decide) (cisu l Z a0 hw b234 (k234) ((8 : Int32)) ([Y0, Y1, Y2, Y3, Y4, Y5, Y6, Y7]) h242 OW242 V242 hys (by decide)) e242 (by rw [hml]; rfl) (hb hby at_241) (argsL := [(.ref b234)]) (rest := []) (lenOf pd2 rfl) rfl rfl (W := 0) (by first | exact Nat.le_refl _ | decide) (by decide) (by decide) (by decide) (by decide) ?_
    intro v243 T243 L243 X243 hQ243
    obtain ⟨rfl, N243q, e243⟩ := hQ243
    have N243 := Fr.app N242 N243q
    refine Go.aload X243 hx (hb hby at_244) rfl rfl (q := 246) rfl ?_
    refine Go.iloadN X243 hx (hb hby at_246) rfl (q := 247) rfl ?_
    refine Go.callS X243 hx hZ hown (wd11 hw) (wd12 hw) (wd13 hw) (wd14 hw) (by decide) (cref l Z a0 hw b225 (k225) ((8 : Int32)) ([Y0, Y1, Y2, Y3, Y4, Y5, Y6, Y7]) h242 OW242 V233 hys (by decide)) e243 (by rw [hml]; rfl) (hb hby at_247) (argsL := [(.ref b225), (.int (8 : Int32))]) (rest := [(.int (own_U [Y0, Y1, Y2, Y3, Y4, Y5, Y6, Y7] (8 : Int32) 8 0))]) (lenOf pd3 rfl) rfl rfl (W := 1) (by first | exact Nat.le_refl _ | decide) (by decide) (by decide) (by decide) (by decide) ?_
    intro v244 T244 L244 X244 hQ244
    obtain ⟨rfl, N244q, e244⟩ := hQ244
    have N244 := Fr.app N243 N244q
    refine Go.icmpNo X244 hx (hb hby at_250) (Jvm.Free.XT.ii_ne_f rfl) (q := 253) rfl ?_
    refine Go.iconst X244 hx (hb hby at_253) (r := (1 : Int32)) rfl (q := 254) rfl ?_
    refine Go.goto X244 hx (hb hby at_254) (q := 258) (by decide) (by decide) ?_
    exact Go.retI X244 hx hret hlk (by simp) rfl (hb hby at_258) e244 (by decide) (by decide) ⟨rfl, N244⟩
set_option maxRecDepth 65536 in
set_option maxHeartbeats 40000000 in
theorem comes_1 {Post : Tables → Env → Array Value → State → Outcome → State → Prop} (hpost : ∀ tb e args s v u, (limb_1_1.after args s (.returned v) u = true ∧ limb_1_2.after args s (.returned v) u = true ∧ True) → FrameEnd s (.returned v) u (Jvm.fieldLocs frame_1_writes args s ++ Jvm.arrayLocs frame_1_arrays args s ++ Jvm.staticLocs frame_1_statics s) 16 128 → Post tb e args s (.returned v) u) :
    ArmFor flags0 classFile x code maxLocals ret World_1 tables_1 room_1 Calls_1 rest_1 Pre_1 Post := by
  intro l hfl _ _ p e ha hc hk s m args below hf hA hF happ hP
  obtain ⟨hcalls, hrest, hpre⟩ := hP
  obtain ⟨-, -, -, hnamed, -, -, -, hat⟩ := (Spec.applies_iff hf).mp happ
  obtain ⟨hg, hn⟩ := and_e (Cond.before_iff.mp (show (Jvm.Cond.and given_1 narrow_1).before args s = true from hpre))
  obtain ⟨ga1, gb1⟩ := and_e hg
  obtain ⟨ga2, gb2⟩ := and_e gb1
  obtain ⟨w0, w1, rfl⟩ : ∃ w0 w1 : Value, args = #[w0, w1] := by
    have hs : args.size = 2 := by simpa [Cond.value, given_1] using ga1
    obtain ⟨L⟩ := args
    match L, hs with
    | [w0, w1], _ => exact ⟨w0, w1, rfl⟩
  have hw := fun d (hd : d ∈ tables_1) => atoms_spec (ws := Jvm.Cond.code x code maxLocals ret :: tables_1) hat d (List.mem_cons_of_mem _ hd)
  have hfit : Fit s := fun {y c} hc i hi => by
    obtain ⟨ha, rfl⟩ := Array.getElem?_eq_some_iff.mp hc
    have q := List.all_eq_true.mp ((Array.all_eq_true_iff_forall_mem.mp hF) _ (Array.getElem_mem ha)) i (List.mem_range.mpr hi)
    simpa [Array.getElem?_eq_getElem hi] using q
  obtain ⟨i0, ei0⟩ := isL_v ga2
  obtain rfl : w0 = (.long i0) := Option.some.inj ei0
  obtain ⟨i1, ei1⟩ := is_v gb2
  obtain rfl : w1 = (.int i1) := Option.some.inj ei1
  obtain ⟨n, o, h1, h2, h3, _, L, rfl, ⟨rfl, N⟩, hq⟩ := law0 l s _ hw i0 i1 s.heap ⟨Nat.le_refl _, fun _ _ q => q⟩ p e ha hc hk s m _ below hf ((Spec.applies_iff_loose hf).mp happ).1 ⟨rfl, State.Warmed39.refl s, rfl⟩ trivial
  refine ⟨n, _, h1, h2, h3, hpost _ _ _ _ _ _ ⟨Cond.after_iff.mpr rfl, Cond.after_iff.mpr (eq_i res_at (Term.int_eval (1)) rfl), trivial⟩ ⟨hq.1, hq.2.1, (hq.2.2.sift fun y hy => Or.inr (N y hy)).mono (by decide) (by decide)⟩⟩
theorem main_1_1 : Claimed_1_1 := comes_1 fun _ _ _ _ _ _ h hF => ⟨h.1, hF⟩
theorem main_1_2 : Claimed_1_2 := comes_1 fun _ _ _ _ _ _ h hF => ⟨h.2.1, hF⟩
end Jvm.Pilot.@@N@@
namespace Jvm.Pilot.@@N@@
open Jvm Jvm.ClassFile Sem Op Lib Jvm.Free Jvm.Stand Jvm.Pilot.@@N@@.Jvm.D
/-! MADE BY PROGRAM (witnessworld.py) out of the Statement's table words and the real class files: 9 classes; the members and pool entries that the words name. The judged class is class 1, her method 1. -/
namespace start1
open Jvm.ClassFile
def u (s : String) : CpInfo := .utf8 (stringToUtf16 s)
/-- a pool by its gaps: so many unusable entries, then the entry; so many at the end -/
def gap : Nat → List CpInfo → List CpInfo
  | 0, r => r
  | n + 1, r => .unusable :: gap n r
def poolList (es : List (Nat × CpInfo)) (last : Nat) : List CpInfo := es.foldr (fun e r => gap e.1 (e.2 :: r)) (gap last [])
def pool (es : List (Nat × CpInfo)) (last : Nat) : Array CpInfo := ⟨poolList es last⟩
def fileOf (pool : Array CpInfo) (this : Nat) (attrs : Array Attribute := #[]) (ms : Array MethodInfo := #[]) (fl : Nat := 33) (sup : Nat := 0) (ifs : Array Nat := #[]) (fds : Array FieldInfo := #[]) : ClassFile where
  minorVersion := 0
  majorVersion := 65
  constantPool := pool
  accessFlags := fl
  thisClass := this
  superClass := sup
  interfaces := ifs
  fields := fds
  methods := ms
  attributes := attrs
def plain (name : String) (sup : Option ClassId) : Class where
  name := name
  kind := .ordinary
  loader := none
  accessFlags := 33
  super := sup
  interfaces := #[]
  cf := none
  fields := #[]
  methods := #[]
  instanceTypes := #[]
  staticTypes := #[]
  resolved := #[]
  callSites := []
  init := .initialized
  statics := none
  mirror := none

def pool0 : Array CpInfo := pool [(5, u "<init>"), (0, u "()V"), (1, .class_ 10), (1, u "java/lang/Object")] 113

def k0m0 : Method := { name := "<init>", desc := "()V", sig := { parameters := [], returnType := none }, accessFlags := 1, code := none }
/-- java/lang/Object -/
def k0 : Class := { plain "java/lang/Object" none with
  accessFlags := 33
  interfaces := #[]
  cf := some (fileOf pool0 8 #[] #[{ accessFlags := 1, nameIndex := 5, descriptorIndex := 6, attributes := #[] }] 33 0 #[] #[])
  fields := #[]
  methods := #[k0m0]
  instanceTypes := #[]
  staticTypes := #[]
  resolved := Array.replicate 124 none
  statics := none }

def pool1 : Array CpInfo := pool [(2, .class_ 4), (1, u "java/lang/Object"), (0, u "<init>"), (0, u "()V"), (0, .integer 2147483647), (0, .long 255), (1, .methodref 11 12), (0, .class_ 13), (0, .nameAndType 14 15), (0, u "com/example/depositum/depositum/report/PrintableText"), (0, u "isUtf8"), (0, u "([B)Z"), (0, .methodref 17 18), (0, .class_ 19), (0, .nameAndType 20 21), (0, u "com/example/depositum/depositum/report/PrintableTextIsUtf8PinLaw"), (0, u "reference"), (0, u "([II)Z"), (0, .methodref 17 23), (0, .nameAndType 24 25), (0, u "seq"), (0, u "([III)I"), (0, .integer 65536), (0, .integer 1114111), (0, .integer 55296), (0, .integer 57343), (2, u "law"), (0, u "(JI)Z")] 7

def k1m0 : Method := { name := "<init>", desc := "()V", sig := { parameters := [], returnType := none }, accessFlags := 2, code := none }
def k1c1 : Code := { maxStack := 6, maxLocals := 6, code := code, exceptionTable := #[], attributes := #[] }
def k1m1 : Method := { name := "law", desc := "(JI)Z", sig := { parameters := [.long, .int], returnType := some .boolean }, accessFlags := 9, code := some k1c1 }
def k1c2 : Code := { maxStack := 3, maxLocals := 4, code := method_3_code, exceptionTable := #[], attributes := #[] }
def k1m2 : Method := { name := "reference", desc := "([II)Z", sig := { parameters := [(.array .int), .int], returnType := some .boolean }, accessFlags := 10, code := some k1c2 }
def k1c3 : Code := { maxStack := 4, maxLocals := 7, code := method_4_code, exceptionTable := #[], attributes := #[] }
def k1m3 : Method := { name := "seq", desc := "([III)I", sig := { parameters := [(.array .int), .int, .int], returnType := some .int }, accessFlags := 10, code := some k1c3 }
/-- com/example/depositum/depositum/report/PrintableTextIsUtf8PinLaw -/
def k1 : Class := { plain "com/example/depositum/depositum/report/PrintableTextIsUtf8PinLaw" (some 0) with
  accessFlags := 49
  interfaces := #[]
  cf := some (fileOf pool1 17 #[] #[{ accessFlags := 2, nameIndex := 5, descriptorIndex := 6, attributes := #[] }, { accessFlags := 9, nameIndex := 32, descriptorIndex := 33, attributes := #[] }, { accessFlags := 10, nameIndex := 20, descriptorIndex := 21, attributes := #[] }, { accessFlags := 10, nameIndex := 24, descriptorIndex := 25, attributes := #[] }] 49 2 #[] #[])
  fields := #[]
  methods := #[k1m0, k1m1, k1m2, k1m3]
  instanceTypes := #[]
  staticTypes := #[]
  resolved := Array.replicate 41 none
  statics := none }

def pool2 : Array CpInfo := pool [(2, .class_ 4), (1, u "java/lang/Object"), (0, u "<init>"), (0, u "()V"), (13, .class_ 22), (1, u "com/example/depositum/depositum/report/PrintableText"), (7, .methodref 20 31), (0, .nameAndType 32 33), (0, u "sequenceLength"), (0, u "([BI)I"), (20, u "HEX_DIGITS"), (0, u "[C"), (10, u "isUtf8"), (0, u "([B)Z")] 5

def k2m0 : Method := { name := "<init>", desc := "()V", sig := { parameters := [], returnType := none }, accessFlags := 2, code := none }
def k2c1 : Code := { maxStack := 2, maxLocals := 3, code := prog_45_method_4_code, exceptionTable := #[], attributes := #[] }
def k2m1 : Method := { name := "isUtf8", desc := "([B)Z", sig := { parameters := [(.array .byte)], returnType := some .boolean }, accessFlags := 9, code := some k2c1 }
def k2c2 : Code := { maxStack := 3, maxLocals := 9, code := prog_45_method_5_code, exceptionTable := #[], attributes := #[] }
def k2m2 : Method := { name := "sequenceLength", desc := "([BI)I", sig := { parameters := [(.array .byte), .int], returnType := some .int }, accessFlags := 10, code := some k2c2 }
/-- com/example/depositum/depositum/report/PrintableText -/
def k2 : Class := { plain "com/example/depositum/depositum/report/PrintableText" (some 0) with
  accessFlags := 49
  interfaces := #[]
  cf := some (fileOf pool2 20 #[] #[{ accessFlags := 2, nameIndex := 5, descriptorIndex := 6, attributes := #[] }, { accessFlags := 9, nameIndex := 66, descriptorIndex := 67, attributes := #[] }, { accessFlags := 10, nameIndex := 32, descriptorIndex := 33, attributes := #[] }] 49 2 #[] #[{ accessFlags := 26, nameIndex := 54, descriptorIndex := 55, attributes := #[] }])
  fields := #[{ name := "HEX_DIGITS", type := (.array .char), accessFlags := 26, slot := 0, constantValue := 0 }]
  methods := #[k2m0, k2m1, k2m2]
  instanceTypes := #[]
  staticTypes := #[(.array .char)]
  resolved := Array.replicate 73 none
  statics := none }

def pool3 : Array CpInfo := pool [(1, u "java/lang/Cloneable"), (0, .class_ 1), (0, u "java/lang/Object"), (0, .class_ 3)] 3

/-- java/lang/Cloneable -/
def k3 : Class := { plain "java/lang/Cloneable" (some 0) with
  accessFlags := 1537
  interfaces := #[]
  cf := some (fileOf pool3 2 #[] #[] 1537 4 #[] #[])
  fields := #[]
  methods := #[]
  instanceTypes := #[]
  staticTypes := #[]
  resolved := Array.replicate 8 none
  statics := none }

def pool4 : Array CpInfo := pool [(1, u "java/io/Serializable"), (0, .class_ 1), (0, u "java/lang/Object"), (0, .class_ 3)] 3

/-- java/io/Serializable -/
def k4 : Class := { plain "java/io/Serializable" (some 0) with
  accessFlags := 1537
  interfaces := #[]
  cf := some (fileOf pool4 2 #[] #[] 1537 4 #[] #[])
  fields := #[]
  methods := #[]
  instanceTypes := #[]
  staticTypes := #[]
  resolved := Array.replicate 8 none
  statics := none }

/-- the primitive byte -/
def k5 : Class := { plain "byte" none with kind := .primitive 'B', accessFlags := 0x411 }
/-- [B -/
def k6 : Class := { plain "[B" (some 0) with kind := .array 5 .byte, interfaces := #[3, 4], accessFlags := 1041 }

/-- the primitive int -/
def k7 : Class := { plain "int" none with kind := .primitive 'I', accessFlags := 0x411 }
/-- [I -/
def k8 : Class := { plain "[I" (some 0) with kind := .array 7 .int, interfaces := #[3, 4], accessFlags := 1041 }

def heap : Heap := #[]
def classes : Array Class := #[k0, k1, k2, k3, k4, k5, k6, k7, k8]
def interned : List (Array UInt16 × Addr) := []
def slotsUsed : Nat := 0
def theMethod : MethodId := ⟨1, 1⟩
def args0 : Array Value := #[.long 65, .int 3]
def aboutOver (below : List Frame) : State where
  vm := { classes := classes, interned := interned.toArray }
  heap := heap
  slotsUsed := slotsUsed
  threads := #[{ frames := .invoking theMethod args0 :: below }]
def below0 : List Frame := [.native { method := ⟨0, 0⟩, args := #[] }]
def about1 : State := aboutOver below0
def p0 : Program := .bare "" "" ""
def e0 : Env := launch0.env 0 0 0
theorem w_frames : about1.frames = Frame.invoking theMethod args0 :: below0 := rfl
set_option maxRecDepth 65536 in
theorem w_args : argsFit about1.vm theMethod args0 = true := by decide +kernel
set_option maxRecDepth 65536 in
theorem w_heap : heapFits about1 = true := by decide +kernel
set_option maxRecDepth 65536 in
theorem w_runnable : about1.curStatus? = some .runnable := by decide +kernel
set_option maxRecDepth 65536 in
theorem w_alone : about1.alone = true := by decide +kernel
set_option maxRecDepth 65536 in
theorem w_named : about1.methodNamed? x = some theMethod := by decide +kernel
set_option maxRecDepth 65536 in
theorem w_hears : about1.hears theMethod below0 = true := by decide +kernel
set_option maxRecDepth 65536 in
theorem w_ripe : about1.ripe theMethod args0 below0 = true := by decide +kernel
theorem w_running : about1.status = .running := rfl
set_option maxRecDepth 65536 in
theorem w_room : about1.hasRoom e0.platform room_1 = true :=
  launch0.hasRoom_least _ room_1 (by decide +kernel) (by decide +kernel) (by decide +kernel) (by decide +kernel) (by decide +kernel) (by decide +kernel)
theorem allAtoms_all (ts : List Jvm.Cond) (a : Array Jvm.Value) (st : Jvm.State) : (allAtoms ts).before a st = ts.all (fun c => c.before a st) := by
  induction ts with
  | nil => rfl
  | cons c t ih =>
    show (Jvm.Cond.and c (allAtoms t)).before a st = _
    rw [Jvm.Cond.before_and, ih, List.all_cons]
def words1 : List Jvm.Cond := Jvm.Cond.code x code maxLocals ret :: tables_1
/-- a 'code' word, met by the world's own term for the bytes: nothing is compared byte by byte -/
theorem code_word {y : MethodName} {bytes : ByteArray} {mx : Nat} {rt : Option FieldType} {a : Array Value} {s : State} {m : MethodId} {meth : Method} {c : Code} (h1 : s.methodNamed? y = some m) (h2 : s.vm.method? m = some meth) (h3 : meth.code = some c) (h4 : c.code = bytes)
    (h5 : (c.maxLocals == mx && c.exceptionTable.isEmpty && decide (c.maxStack ≤ mostOperands) && decide (meth.sig.returnType = rt) && !meth.locks && decide (parseMethodDescriptor y.desc = some meth.sig)) = true) : (Jvm.Cond.code y bytes mx rt).before a s = true := by
  simp only [Bool.and_eq_true, beq_iff_eq, Bool.not_eq_true', decide_eq_true_eq] at h5
  obtain ⟨⟨⟨⟨⟨g1, g2⟩, g3⟩, g4⟩, g5⟩, g6⟩ := h5
  simp [Cond.before, Cond.holds, Cond.value, h1, h2, h3, h4, g1, g2, g3, g4, g5, g6]
def isCode : Jvm.Cond → Bool
  | .code _ _ _ _ => true
  | _ => false
theorem all_split {L : List Jvm.Cond} {P : Jvm.Cond → Bool} (h1 : L.all (fun c => isCode c || P c) = true) (h2 : ∀ c ∈ L.filter isCode, P c = true) : L.all P = true := by
  refine List.all_eq_true.mpr fun c hc => ?_
  have h := List.all_eq_true.mp h1 c hc
  rcases Bool.eq_false_or_eq_true (isCode c) with hi | hi
  · exact h2 c (List.mem_filter.mpr ⟨hc, hi⟩)
  · simpa [hi] using h
set_option maxRecDepth 65536 in
theorem w_c0 : (Jvm.Cond.code x code maxLocals ret).before args0 about1 = true := code_word (m := ⟨1, 1⟩) (meth := k1m1) (c := k1c1) (by decide +kernel) rfl rfl rfl (by decide +kernel)
set_option maxRecDepth 65536 in
theorem w_c1 : (Jvm.Cond.code ({ cls := "com/example/depositum/depositum/report/PrintableText", name := "isUtf8", desc := "([B)Z" } : Jvm.MethodName) prog_45_method_4_code (3 : Nat) (Option.some Jvm.ClassFile.FieldType.boolean)).before args0 about1 = true := code_word (m := ⟨2, 1⟩) (meth := k2m1) (c := k2c1) (by decide +kernel) rfl rfl rfl (by decide +kernel)
set_option maxRecDepth 65536 in
theorem w_c2 : (Jvm.Cond.code ({ cls := "com/example/depositum/depositum/report/PrintableText", name := "sequenceLength", desc := "([BI)I" } : Jvm.MethodName) prog_45_method_5_code (9 : Nat) (Option.some Jvm.ClassFile.FieldType.int)).before args0 about1 = true := code_word (m := ⟨2, 2⟩) (meth := k2m2) (c := k2c2) (by decide +kernel) rfl rfl rfl (by decide +kernel)
set_option maxRecDepth 65536 in
theorem w_c3 : (Jvm.Cond.code ({ cls := "com/example/depositum/depositum/report/PrintableTextIsUtf8PinLaw", name := "reference", desc := "([II)Z" } : Jvm.MethodName) method_3_code (4 : Nat) (Option.some Jvm.ClassFile.FieldType.boolean)).before args0 about1 = true := code_word (m := ⟨1, 2⟩) (meth := k1m2) (c := k1c2) (by decide +kernel) rfl rfl rfl (by decide +kernel)
set_option maxRecDepth 65536 in
theorem w_c4 : (Jvm.Cond.code ({ cls := "com/example/depositum/depositum/report/PrintableTextIsUtf8PinLaw", name := "seq", desc := "([III)I" } : Jvm.MethodName) method_4_code (7 : Nat) (Option.some Jvm.ClassFile.FieldType.int)).before args0 about1 = true := code_word (m := ⟨1, 3⟩) (meth := k1m3) (c := k1c3) (by decide +kernel) rfl rfl rfl (by decide +kernel)
def codes1 : List Jvm.Cond := [Jvm.Cond.code x code maxLocals ret, Jvm.Cond.code ({ cls := "com/example/depositum/depositum/report/PrintableText", name := "isUtf8", desc := "([B)Z" } : Jvm.MethodName) prog_45_method_4_code (3 : Nat) (Option.some Jvm.ClassFile.FieldType.boolean), Jvm.Cond.code ({ cls := "com/example/depositum/depositum/report/PrintableText", name := "sequenceLength", desc := "([BI)I" } : Jvm.MethodName) prog_45_method_5_code (9 : Nat) (Option.some Jvm.ClassFile.FieldType.int), Jvm.Cond.code ({ cls := "com/example/depositum/depositum/report/PrintableTextIsUtf8PinLaw", name := "reference", desc := "([II)Z" } : Jvm.MethodName) method_3_code (4 : Nat) (Option.some Jvm.ClassFile.FieldType.boolean), Jvm.Cond.code ({ cls := "com/example/depositum/depositum/report/PrintableTextIsUtf8PinLaw", name := "seq", desc := "([III)I" } : Jvm.MethodName) method_4_code (7 : Nat) (Option.some Jvm.ClassFile.FieldType.int)]
set_option maxRecDepth 65536 in
theorem codes_eq : words1.filter isCode = codes1 := rfl
theorem w_codes : ∀ c ∈ words1.filter isCode, c.before args0 about1 = true := by
  rw [codes_eq]
  intro c hc
  simp only [codes1, List.mem_cons, List.not_mem_nil, or_false] at hc
  rcases hc with rfl | rfl | rfl | rfl | rfl
  · exact w_c0
  · exact w_c1
  · exact w_c2
  · exact w_c3
  · exact w_c4
set_option maxRecDepth 65536 in
theorem w_t1 : words1.all (fun c => isCode c || c.before args0 about1) = true := by decide +kernel
theorem w_tables : (allAtoms (Jvm.Cond.code x code maxLocals ret :: tables_1)).before args0 about1 = true := by
  rw [allAtoms_all]
  show words1.all (fun c => c.before args0 about1) = true
  refine all_split ?_ w_codes
  rw [w_t1]
set_option maxRecDepth 65536 in
theorem w_case : (Jvm.Cond.and given_1 narrow_1).before args0 about1 = true := by decide +kernel
theorem w_applies : (headSpec (Jvm.Cond.code x code maxLocals ret :: tables_1) room_1).applies x e0.platform about1 = true :=
  (Spec.applies_iff w_frames).mpr ⟨w_running, w_runnable, w_alone, w_named, w_hears, w_ripe, w_room, w_tables⟩
theorem atStart : AtStart classFile x code maxLocals ret World_1 tables_1 room_1 Calls_1 rest_1 Pre_1 launch0 p0 e0 about1 theMethod args0 below0 :=
  ⟨lists_1, trivial, launch0.admits_env _ _ _, launch0.least_env, fairChoices_fair.cas, fairChoices_fair.clock, w_frames, w_args, w_heap, w_applies, trivial, trivial, w_case⟩
end start1
theorem witness_1 : WitnessClaimed_1 := ⟨start1.p0, start1.e0, start1.about1, start1.theMethod, start1.args0, start1.below0, start1.atStart⟩
end Jvm.Pilot.@@N@@
