import JvmDerived
import JvmDerived.Pilot.@@N@@Statement
import JvmDerived.Pilot.@@N@@Code
set_option linter.unusedVariables false
set_option linter.unusedSimpArgs false
namespace Jvm.RoadKit
open Sem ClassFile Op Lib Jvm.Stand Jvm.Free Jvm.LawKit
section Own
variable {p : Program} {l : Launch} {e : Env} {R : Room} {s : State} {m : MethodId} {args : Array Value} {below : List Frame} {meth : Method} {c : Code} {T T' : State} {locs : List Loc} {cells slots : Nat} {Z : State} {a0 : Array Value} {h h' h0 : Heap} {K : State → Outcome → Prop} {pc : Nat} {Ls : Array Slot} {rest : List Value} {Q : Option Value → Heap → List Loc → Prop} {k n : Nat} {a b : Addr} {ws : List Addr} {sl : Nat} {v : Value}
/-- from T the run comes to its end, and K holds there -/
def Go (p : Program) (e : Env) (below : List Frame) (K : State → Outcome → Prop) (T : State) : Prop := ∃ U o, Steps p.tables e below T U ∧ U.status = .running ∧ Ended U below o ∧ K U o
theorem Go.by (st : ∀ t, Steps p.tables e below T' t → Steps p.tables e below T t) (g : Go p e below K T') : Go p e below K T := by
  obtain ⟨U, o, q, r⟩ := g; exact ⟨U, o, st _ q, r⟩
theorem Go.on (st : Steps p.tables e below T T') (g : Go p e below K T') : Go p e below K T := by
  obtain ⟨U, o, q, r⟩ := g; exact ⟨U, o, st.trans q, r⟩
theorem Go.cast {T'' : State} (q : T = T'') (g : Go p e below K T'') : Go p e below K T := q ▸ g
def KK (s : State) (Q : Option Value → Heap → List Loc → Prop) (k n : Nat) : State → Outcome → Prop := fun U o => ∃ v L, o = .returned v ∧ Q v U.heap L ∧ FrameEnd s o U L k n
abbrev Ctr (l : Launch) (Z : State) (h0 : Heap) (y : MethodName) (bytes : ByteArray) (maxL : Nat) (ret : Option FieldType) (ws : List Cond) (rm : Room) (as' : Array Value) (Q : Option Value → Heap → List Loc → Prop) : Prop :=
  MetFree l y (head1 (Cond.code y bytes maxL ret :: ws) rm) (fun a U => a = as' ∧ Z.Warmed39 U.vm ∧ U.heap = h0) (fun _ _ _ _ _ => True) (fun _ U o U' => ∃ v L, o = .returned v ∧ Q v U'.heap L ∧ FrameEnd U o U' L rm.cells rm.slots)
theorem enter {y : MethodName} {bytes : ByteArray} {maxL : Nat} {ret : Option FieldType} {ws : List Cond} {rm : Room} {as' : Array Value} (hp : plainFor y = true)
    (H : ∀ (p : Program) (e : Env) (s : State) (m : MethodId) (below : List Frame) (meth : Method) (c : Code) (s₁ : State), p.tables.exec = Jvm.exec → c.code = bytes → c.maxLocals = maxL → Z.Warmed39 s.vm → s.vm.findClass y.cls = some m.cls → meth.name = y.name → meth.sig.returnType = ret → meth.locks = false →
      Stand p l e rm s m as' below meth c s₁ [] 0 0 → s₁.heap = h0 → s.heap = h0 → Go p e below (KK s Q rm.cells rm.slots) (s₁.setTop (entryFrame m as' maxL))) : Ctr l Z h0 y bytes maxL ret ws rm as' Q := by
  refine MetFree.of_bodySF hp hisR ?_
  intro p e s m args below meth c s₁ Bd hml0 hP hK
  obtain ⟨rfl, hZ, hh⟩ := hP
  exact H p e s m below meth c s₁ Bd.exec Bd.bytes hml0 hZ (findClass_of_methodNamed Bd.named) (name_of_methodNamed Bd.named Bd.method).1 Bd.returns Bd.notSynchronized (Stand.of_body Bd) (by rw [← hh, Bd.state]; rfl) hh
/-! returns -/
theorem Go.ret {w : Value} {t : FieldType} {i : Instr} (X : Stand p l e R s m args below meth c T locs cells slots) (hx : p.tables.exec = Jvm.exec) (hret : meth.sig.returnType = some t) (hlk : meth.locks = false) (hn : narrow t w = w)
    (hi : (i = .ireturn ∧ (t = .int ∨ t = .boolean ∨ t = .byte ∨ t = .char ∨ t = .short) ∧ ∃ z, w = .int z) ∨ (i = .lreturn ∧ t = .long ∧ ∃ z, w = .long z) ∨ (i = .dreturn ∧ t = .double ∧ ∃ z, w = .double z) ∨ (i = .freturn ∧ t = .float ∧ ∃ z, w = .float z) ∨ (i = .areturn ∧ t.isReference = true ∧ w.isRef = true))
    (hd : decode c.code pc = .ok (i, 1)) (eT : T.heap = h) (hk : cells ≤ k) (hs : slots ≤ n) (hQ : Q (some w) h locs) : Go p e below (KK s Q k n) (T.setTop (mkF m pc Ls (w :: rest))) := by
  obtain ⟨fs, hr, hrun, hended, hW, hsame⟩ := X.leave (v := some w) (fun h => by rw [hret] at h; cases h) hlk
  subst eT
  exact ⟨_, _, retOut X hx hret hn hi hd hr, hrun, hended, _, _, rfl, hQ, ⟨_, rfl⟩, hW, hsame.mono hk hs⟩
theorem Go.retI {z : Int32} {t : FieldType} (X : Stand p l e R s m args below meth c T locs cells slots) (hx : p.tables.exec = Jvm.exec) (hret : meth.sig.returnType = some t) (hlk : meth.locks = false) (ht : t = .int ∨ t = .boolean ∨ t = .byte ∨ t = .char ∨ t = .short) (hn : narrow t (.int z) = .int z)
    (hd : decode c.code pc = .ok (.ireturn, 1)) (eT : T.heap = h) (hk : cells ≤ k) (hs : slots ≤ n) (hQ : Q (some (.int z)) h locs) : Go p e below (KK s Q k n) (T.setTop (mkF m pc Ls (.int z :: rest))) :=
  Go.ret X hx hret hlk hn (Or.inl ⟨rfl, ht, z, rfl⟩) hd eT hk hs hQ
theorem Go.retJ {z : Int64} (X : Stand p l e R s m args below meth c T locs cells slots) (hx : p.tables.exec = Jvm.exec) (hret : meth.sig.returnType = some .long) (hlk : meth.locks = false)
    (hd : decode c.code pc = .ok (.lreturn, 1)) (eT : T.heap = h) (hk : cells ≤ k) (hs : slots ≤ n) (hQ : Q (some (.long z)) h locs) : Go p e below (KK s Q k n) (T.setTop (mkF m pc Ls (.long z :: rest))) :=
  Go.ret X hx hret hlk rfl (Or.inr (Or.inl ⟨rfl, rfl, z, rfl⟩)) hd eT hk hs hQ
theorem nar_ref {t : FieldType} {w : Value} (hw : w.isRef = true) : narrow t w = w := by cases w <;> first | (simp [Value.isRef] at hw; done) | (cases t <;> rfl)
theorem fits_any {C : String} {w : Value} (hw : w.isRef = true) : fits (.object C) w = true := by cases w <;> first | (simp [Value.isRef] at hw; done) | rfl
theorem Go.retA {w : Value} {t : FieldType} (X : Stand p l e R s m args below meth c T locs cells slots) (hx : p.tables.exec = Jvm.exec) (hret : meth.sig.returnType = some t) (hlk : meth.locks = false) (ht : t.isReference = true) (hw : w.isRef = true)
    (hd : decode c.code pc = .ok (.areturn, 1)) (eT : T.heap = h) (hk : cells ≤ k) (hs : slots ≤ n) (hQ : Q (some w) h locs) : Go p e below (KK s Q k n) (T.setTop (mkF m pc Ls (w :: rest))) :=
  Go.ret X hx hret hlk (nar_ref hw) (Or.inr (Or.inr (Or.inr (Or.inr ⟨rfl, ht, hw⟩)))) hd eT hk hs hQ
theorem Go.retV (X : Stand p l e R s m args below meth c T locs cells slots) (hx : p.tables.exec = Jvm.exec) (hret : meth.sig.returnType = none) (hlk : meth.locks = false)
    (hd : decode c.code pc = .ok (.return_, 1)) (eT : T.heap = h) (hk : cells ≤ k) (hs : slots ≤ n) (hQ : Q none h locs) : Go p e below (KK s Q k n) (T.setTop (mkF m pc Ls [])) := by
  obtain ⟨fs, hr, hrun, hended, hW, hsame⟩ := X.leave (v := none) (fun _ => rfl) hlk
  subst eT
  exact ⟨_, _, X.returnOut hx hret hd hr, hrun, hended, _, _, rfl, hQ, ⟨_, rfl⟩, hW, hsame.mono hk hs⟩
/-! the old cells -/
theorem ext_trans {h1 h2 h3 : Heap} (E : Ext h1 h2) (F : Ext h2 h3) : Ext h1 h3 := ⟨Nat.le_trans E.1 F.1, fun a c q => F.2 a c (E.2 a c q)⟩
theorem ext_wr {h1 h2 h3 : Heap} (E : Ext h1 h2) (W : Wr h2 h3 a sl v) (g : h1.size ≤ a) : Ext h1 h3 := by
  obtain ⟨cell, q1, q2, q3, rfl⟩ := W
  refine ⟨by simpa using E.1, fun x c q => ?_⟩
  have hx : x < h1.size := (Array.getElem?_eq_some_iff.mp q).1
  rw [Array.getElem?_setIfInBounds_ne (Nat.ne_of_gt (Nat.lt_of_lt_of_le hx g))]
  exact E.2 x c q
theorem ext_keep {h1 h2 h3 : Heap} (E : Ext h1 h2) (F : Keep h2 h3 ws) (g : ∀ x ∈ ws, h1.size ≤ x) : Ext h1 h3 := by
  refine ⟨Nat.le_trans E.1 F.1, fun x c q => F.2.1 x c (E.2 x c q) fun z => ?_⟩
  exact absurd (Array.getElem?_eq_some_iff.mp q).1 (Nat.not_lt.mpr (g x z))
theorem ne_new (q : a < h.size) (r : h.size ≤ b) : a ≠ b := Nat.ne_of_lt (Nat.lt_of_lt_of_le q r)
/-! calls -/
theorem Go.callS {own : String} {index : Nat} {y : MethodName} {bytes : ByteArray} {maxL : Nat} {ret : Option FieldType} {rm : Room} {as' : Array Value} {argsL S : List Value} (X : Stand p l e R s m args below meth c T locs cells slots) (hx : p.tables.exec = Jvm.exec) (hZ : Z.Warmed39 s.vm) (hown : s.vm.findClass own = some m.cls)
    (w1 : (Cond.methodLink own index y).before a0 Z = true) (w2 : (Cond.static y).before a0 Z = true) (w3 : (Cond.initialized y.cls).before a0 Z = true) (w4 : (Cond.code y bytes maxL ret).before a0 Z = true)
    (hy : y.cls ≠ "java/lang/invoke/MethodHandle" ∧ y.cls ≠ "java/lang/invoke/VarHandle") {Q : Option Value → Heap → List Loc → Prop} (hM : Ctr l Z h y bytes maxL ret [] rm as' Q) (eT : T.heap = h) (hsz : Ls.size = c.maxLocals)
    (hd : decode c.code pc = .ok (.invokestatic index, 3)) (hlen : ∀ sig, parseMethodDescriptor y.desc = some sig → argsL.length = sig.parameters.length) (hst : S = argsL.reverse ++ rest) (has : argsL.toArray = as')
    {W : Nat} (hW : 2 * 0 + (rest.map fun v => v.category).sum ≤ W) (hf : rm.frames + 1 ≤ R.frames) (hl : W + (maxL + 11) + rm.locals ≤ R.locals) (hc : cells + rm.cells ≤ R.cells) (hs : slots + rm.slots ≤ R.slots)
    (g : ∀ (v : Option Value) (T' : State) (L : List Loc), Stand p l e R s m args below meth c T' (locs ++ L) (cells + rm.cells) (slots + rm.slots) → Q v T'.heap L → Go p e below K (T'.setTop (mkF m (pc + 3) Ls (v.toList ++ rest)))) : Go p e below K (T.setTop (mkF m pc Ls S)) := by
  obtain ⟨v, _, ⟨T', L', k', n'⟩, -, X', ⟨Lc, hQ, l', y', z'⟩, st⟩ := Jvm.LawKit.callS X hx (y := y) hown (mvT hZ w1) (mvT hZ w2) (mvT hZ w3) (mvT hZ w4) hy (backOf (W := W) hM hZ w4 w3 hf hl) (g := mkF m pc Ls S) rfl hsz (argsL := argsL) (rest := rest) hlen hst hW hd (fun _ _ => ⟨has, eT, hc, hs⟩)
  dsimp only [Pt.U, Pt.locs, Pt.cells, Pt.slots] at X' l' y' z' st hQ
  subst l' y' z'
  exact Go.by st (g v T' Lc X' hQ)
theorem Go.init {own : String} {index : Nat} {y : MethodName} {bytes : ByteArray} {maxL : Nat} {rm : Room} {as' : Array Value} {argsL S : List Value} (X : Stand p l e R s m args below meth c T locs cells slots) (hx : p.tables.exec = Jvm.exec) (hZ : Z.Warmed39 s.vm) (hown : s.vm.findClass own = some m.cls) (hy1 : y.name = "<init>")
    (w1 : (Cond.methodLink own index y).before a0 Z = true) (w2 : (Cond.instanceMethod y).before a0 Z = true) (w3 : (Cond.initialized y.cls).before a0 Z = true) (w4 : (Cond.code y bytes maxL none).before a0 Z = true)
    (hy : y.cls ≠ "java/lang/invoke/MethodHandle" ∧ y.cls ≠ "java/lang/invoke/VarHandle") {Q : Option Value → Heap → List Loc → Prop} (hM : Ctr l Z h y bytes maxL none [] rm as' Q) (eT : T.heap = h) (hsz : Ls.size = c.maxLocals)
    (hd : decode c.code pc = .ok (.invokespecial index, 3)) (hlen : ∀ sig, parseMethodDescriptor y.desc = some sig → argsL.length = sig.parameters.length) (hst : S = argsL.reverse ++ .ref a :: rest) (has : (Value.ref a :: argsL).toArray = as')
    {W : Nat} (hW : 2 * 0 + (rest.map fun v => v.category).sum ≤ W) (hf : rm.frames + 1 ≤ R.frames) (hl : W + (maxL + 11) + rm.locals ≤ R.locals) (hc : cells + rm.cells ≤ R.cells) (hs : slots + rm.slots ≤ R.slots)
    (g : ∀ (v : Option Value) (T' : State) (L : List Loc), Stand p l e R s m args below meth c T' (locs ++ L) (cells + rm.cells) (slots + rm.slots) → Q v T'.heap L → Go p e below K (T'.setTop (mkF m (pc + 3) Ls (v.toList ++ rest)))) : Go p e below K (T.setTop (mkF m pc Ls S)) := by
  obtain ⟨v, _, ⟨T', L', k', n'⟩, -, X', ⟨Lc, hQ, l', y', z'⟩, st⟩ := X.specialBack hx (y := y) hy1 hown (mvT hZ w1) (mvT hZ w2) (mvT hZ w4) hy (backOf (W := W) hM hZ w4 w3 hf hl) (g := mkF m pc Ls S) rfl hsz (Steps.refl _) (a := a) (argsL := argsL) (rest := rest) hlen hst hW hd (fun _ _ => ⟨has, eT, hc, hs⟩)
  dsimp only [Pt.U, Pt.locs, Pt.cells, Pt.slots] at X' l' y' z' st hQ
  subst l' y' z'
  exact Go.on st (g v T' Lc X' hQ)
theorem Go.virt {own C : String} {index : Nat} {y z : MethodName} {bytes : ByteArray} {maxL : Nat} {ret : Option FieldType} {rm : Room} {as' : Array Value} {argsL S : List Value} (X : Stand p l e R s m args below meth c T locs cells slots) (hx : p.tables.exec = Jvm.exec) (hZ : Z.Warmed39 s.vm) (hown : s.vm.findClass own = some m.cls)
    (w1 : (Cond.methodLink own index y).before a0 Z = true) (w2 : (Cond.declares y).before a0 Z = true) (hnf : NotFace s y) (w5 : (Cond.selects C y z).before a0 Z = true) (w6 : (Cond.instanceMethod z).before a0 Z = true) (w3 : (Cond.initialized z.cls).before a0 Z = true) (w4 : (Cond.code z bytes maxL ret).before a0 Z = true)
    (hy : y.cls ≠ "java/lang/invoke/MethodHandle" ∧ y.cls ≠ "java/lang/invoke/VarHandle") {Q : Option Value → Heap → List Loc → Prop} (hM : Ctr l Z h z bytes maxL ret [] rm as' Q) (eT : T.heap = h) (E : Exa Z h a C) (hsz : Ls.size = c.maxLocals)
    (hd : decode c.code pc = .ok (.invokevirtual index, 3)) (hlen : ∀ sig, parseMethodDescriptor y.desc = some sig → argsL.length = sig.parameters.length) (hst : S = argsL.reverse ++ .ref a :: rest) (has : (Value.ref a :: argsL).toArray = as')
    {W : Nat} (hW : 2 * 0 + (rest.map fun v => v.category).sum ≤ W) (hf : rm.frames + 1 ≤ R.frames) (hl : W + (maxL + 11) + rm.locals ≤ R.locals) (hc : cells + rm.cells ≤ R.cells) (hs : slots + rm.slots ≤ R.slots)
    (g : ∀ (v : Option Value) (T' : State) (L : List Loc), Stand p l e R s m args below meth c T' (locs ++ L) (cells + rm.cells) (slots + rm.slots) → Q v T'.heap L → Go p e below K (T'.setTop (mkF m (pc + 3) Ls (v.toList ++ rest)))) : Go p e below K (T.setTop (mkF m pc Ls S)) := by
  obtain ⟨cq, kq, q1, q2, q3⟩ := isOf hZ eT E
  obtain ⟨v, _, ⟨T', L', k', n'⟩, -, X', ⟨Lc, hQ, l', y', z'⟩, st⟩ := X.virtualBack hx (y := y) (z := z) hown (mvT hZ w1) (mvT hZ w2) hnf (mvT hZ w5) (mvT hZ w6) hy (backOf (W := W) hM hZ w4 w3 hf hl) q1 q3 (g := mkF m pc Ls S) rfl hsz (Steps.refl _) (argsL := argsL) (rest := rest) hlen hst hW hd (fun _ _ => ⟨has, eT, hc, hs⟩)
  dsimp only [Pt.U, Pt.locs, Pt.cells, Pt.slots] at X' l' y' z' st hQ
  subst l' y' z'
  exact Go.on st (g v T' Lc X' hQ)
theorem Go.face {own C : String} {index count : Nat} {y z : MethodName} {bytes : ByteArray} {maxL : Nat} {ret : Option FieldType} {rm : Room} {as' : Array Value} {argsL S : List Value} (X : Stand p l e R s m args below meth c T locs cells slots) (hx : p.tables.exec = Jvm.exec) (hZ : Z.Warmed39 s.vm) (hown : s.vm.findClass own = some m.cls)
    (w1 : (Cond.methodLink own index y).before a0 Z = true) (w2 : (Cond.declares y).before a0 Z = true) (w7 : (Cond.interfaceMethod y.cls y.cls y.name y.desc).before a0 Z = true) (w5 : (Cond.selects C y z).before a0 Z = true) (w6 : (Cond.instanceMethod z).before a0 Z = true) (w8 : (Cond.publicMethod z).before a0 Z = true) (w9 : (Cond.unhidden C y.name y.desc).before a0 Z = true) (w10 : (Cond.castable C y.cls).before a0 Z = true) (w3 : (Cond.initialized z.cls).before a0 Z = true) (w4 : (Cond.code z bytes maxL ret).before a0 Z = true)
    (hy : y.cls ≠ "java/lang/invoke/MethodHandle" ∧ y.cls ≠ "java/lang/invoke/VarHandle") {Q : Option Value → Heap → List Loc → Prop} (hM : Ctr l Z h z bytes maxL ret [] rm as' Q) (eT : T.heap = h) (E : Exa Z h a C) (hsz : Ls.size = c.maxLocals)
    (hd : decode c.code pc = .ok (.invokeinterface index count, 5)) (hlen : ∀ sig, parseMethodDescriptor y.desc = some sig → argsL.length = sig.parameters.length) (hst : S = argsL.reverse ++ .ref a :: rest) (has : (Value.ref a :: argsL).toArray = as')
    {W : Nat} (hW : 2 * 0 + (rest.map fun v => v.category).sum ≤ W) (hf : rm.frames + 1 ≤ R.frames) (hl : W + (maxL + 11) + rm.locals ≤ R.locals) (hc : cells + rm.cells ≤ R.cells) (hs : slots + rm.slots ≤ R.slots)
    (g : ∀ (v : Option Value) (T' : State) (L : List Loc), Stand p l e R s m args below meth c T' (locs ++ L) (cells + rm.cells) (slots + rm.slots) → Q v T'.heap L → Go p e below K (T'.setTop (mkF m (pc + 5) Ls (v.toList ++ rest)))) : Go p e below K (T.setTop (mkF m pc Ls S)) := by
  obtain ⟨cq, kq, q1, q2, q3⟩ := isOf hZ eT E
  obtain ⟨v, _, ⟨T', L', k', n'⟩, -, X', ⟨Lc, hQ, l', y', z'⟩, st⟩ := X.interfaceBack hx (xi := y) (y := z) hown (mvT hZ w1) (mvT hZ w2) (mvT hZ w7 (by simp [Cond.onTables, Cond.keepsFace, Cond.keeps, Cond.steady, Cond.faceAtom]; exact hy)) (mvT hZ w5) (mvT hZ w6) (mvT hZ w8) (mvT hZ w9) (mvT hZ w10) hy (backOf (W := W) (len := 5) hM hZ w4 w3 hf hl) q1 q2 q3 (g := mkF m pc Ls S) rfl hsz (Steps.refl _) (argsL := argsL) (rest := rest) hlen hst hW hd (fun _ _ => ⟨has, eT, hc, hs⟩)
  dsimp only [Pt.U, Pt.locs, Pt.cells, Pt.slots] at X' l' y' z' st hQ
  subst l' y' z'
  exact Go.on st (g v T' Lc X' hQ)
theorem Go.priv {own : String} {index : Nat} {y : MethodName} {bytes : ByteArray} {maxL : Nat} {ret : Option FieldType} {rm : Room} {as' : Array Value} {argsL S : List Value} {C : String} (X : Stand p l e R s m args below meth c T locs cells slots) (hx : p.tables.exec = Jvm.exec) (hZ : Z.Warmed39 s.vm) (hown : s.vm.findClass own = some m.cls)
    (w1 : (Cond.methodLink own index y).before a0 Z = true) (w6 : (Cond.instanceMethod y).before a0 Z = true) (w5 : (Cond.selects y.cls y y).before a0 Z = true) (w7 : (Cond.privateMethod y).before a0 Z = true) (w3 : (Cond.initialized y.cls).before a0 Z = true) (w4 : (Cond.code y bytes maxL ret).before a0 Z = true)
    (hy : y.cls ≠ "java/lang/invoke/MethodHandle" ∧ y.cls ≠ "java/lang/invoke/VarHandle") {Q : Option Value → Heap → List Loc → Prop} (hM : Ctr l Z h y bytes maxL ret [] rm as' Q) (eT : T.heap = h) (E : Exa Z h a C) (hsz : Ls.size = c.maxLocals)
    (hd : decode c.code pc = .ok (.invokevirtual index, 3)) (hlen : ∀ sig, parseMethodDescriptor y.desc = some sig → argsL.length = sig.parameters.length) (hst : S = argsL.reverse ++ .ref a :: rest) (has : (Value.ref a :: argsL).toArray = as')
    {W : Nat} (hW : 2 * 0 + (rest.map fun v => v.category).sum ≤ W) (hf : rm.frames + 1 ≤ R.frames) (hl : W + (maxL + 11) + rm.locals ≤ R.locals) (hc : cells + rm.cells ≤ R.cells) (hs : slots + rm.slots ≤ R.slots)
    (g : ∀ (v : Option Value) (T' : State) (L : List Loc), Stand p l e R s m args below meth c T' (locs ++ L) (cells + rm.cells) (slots + rm.slots) → Q v T'.heap L → Go p e below K (T'.setTop (mkF m (pc + 3) Ls (v.toList ++ rest)))) : Go p e below K (T.setTop (mkF m pc Ls S)) := by
  obtain ⟨cq, q1, q2⟩ := E.cell
  subst eT
  obtain ⟨v, _, ⟨T', L', k', n'⟩, -, X', ⟨Lc, hQ, l', y', z'⟩, st⟩ := X.privateBack hx (y := y) hown (mvT hZ w1) (mvT hZ w6) (mvT hZ w5) (Cond.privateMethod_at (mvP hZ w7 (args := #[]))) (mvT hZ w4) hy (backOf (W := W) hM hZ w4 w3 hf hl) (g := mkF m pc Ls S) rfl hsz (Steps.refl _) (a := a) q1 q2 (argsL := argsL) (rest := rest) hlen hst hW hd (fun _ _ => ⟨has, rfl, hc, hs⟩)
  dsimp only [Pt.U, Pt.locs, Pt.cells, Pt.slots] at X' l' y' z' st hQ
  subst l' y' z'
  exact Go.on st (g v T' Lc X' hQ)
theorem Go.sup {own C : String} {index : Nat} {y : MethodName} {bytes : ByteArray} {maxL : Nat} {ret : Option FieldType} {rm : Room} {as' : Array Value} {argsL S : List Value} (X : Stand p l e R s m args below meth c T locs cells slots) (hx : p.tables.exec = Jvm.exec) (hZ : Z.Warmed39 s.vm) (hown : s.vm.findClass own = some m.cls)
    (w1 : (Cond.methodLink own index y).before a0 Z = true) (w2 : (Cond.sameMethod y.cls y.cls y.name y.desc).before a0 Z = true) (w6 : (Cond.instanceMethod y).before a0 Z = true) (w5 : (Cond.superclass own y.cls).before a0 Z = true) (hn : y.name ≠ "<init>") (w3 : (Cond.initialized y.cls).before a0 Z = true) (w4 : (Cond.code y bytes maxL ret).before a0 Z = true)
    {Q : Option Value → Heap → List Loc → Prop} (hM : Ctr l Z h y bytes maxL ret [] rm as' Q) (eT : T.heap = h) (E : Exa Z h a C) (hsz : Ls.size = c.maxLocals)
    (hd : decode c.code pc = .ok (.invokespecial index, 3)) (hlen : ∀ sig, parseMethodDescriptor y.desc = some sig → argsL.length = sig.parameters.length) (hst : S = argsL.reverse ++ .ref a :: rest) (has : (Value.ref a :: argsL).toArray = as')
    {W : Nat} (hW : 2 * 0 + (rest.map fun v => v.category).sum ≤ W) (hf : rm.frames + 1 ≤ R.frames) (hl : W + (maxL + 11) + rm.locals ≤ R.locals) (hc : cells + rm.cells ≤ R.cells) (hs : slots + rm.slots ≤ R.slots)
    (g : ∀ (v : Option Value) (T' : State) (L : List Loc), Stand p l e R s m args below meth c T' (locs ++ L) (cells + rm.cells) (slots + rm.slots) → Q v T'.heap L → Go p e below K (T'.setTop (mkF m (pc + 3) Ls (v.toList ++ rest)))) : Go p e below K (T.setTop (mkF m pc Ls S)) := by
  obtain ⟨v, _, ⟨T', L', k', n'⟩, -, X', ⟨Lc, hQ, l', y', z'⟩, st⟩ := superBack X hx hZ (y := y) hown w1 w2 w6 w5 hn (backOf (W := W) hM hZ w4 w3 hf hl) eT (Ins.self E) (g := mkF m pc Ls S) rfl hsz w4 (argsL := argsL) (rest := rest) hlen hst hW hd (fun _ _ => ⟨has, eT, hc, hs⟩)
  dsimp only [Pt.U, Pt.locs, Pt.cells, Pt.slots] at X' l' y' z' st hQ
  subst l' y' z'
  exact Go.on st (g v T' Lc X' hQ)
/-! arrays whose components are known -/
variable {cA : ClassId} {ty : FieldType} {z j : Int32} {vs : List Value} {dv : Value}
theorem Go.alen (X : Stand p l e R s m args below meth c T locs cells slots) (hx : p.tables.exec = Jvm.exec) (hZ : Z.Warmed39 s.vm) (eT : T.heap = h) (V : Arv Z h a cA ty z vs dv) (hd : decode c.code pc = .ok (.arraylength, 1))
    (g : Go p e below K (T.setTop (mkF m (pc + 1) Ls (.int z :: rest)))) : Go p e below K (T.setTop (mkF m pc Ls (.ref a :: rest))) := by
  obtain ⟨cl, A, -, S, N, -, -⟩ := V
  subst eT
  refine Go.by (fun t q => X.arraylength hx A.1 (State.isArrayOf_alike hZ.alike A.2.1) (g := mkF m pc Ls (.ref a :: rest)) rfl rfl hd _ q) ?_
  rw [len_of S N]
  exact g
/-- an array of which the length alone is known -/
def Lng (Z : State) (h : Heap) (a : Addr) (n : Int32) : Prop := ∃ (cl : Cell) (ty : FieldType), Arr Z h a cl ty ∧ cl.slots.size = n.toNatClampNeg ∧ ¬ n < 0
theorem Lng.ext (L : Lng Z h a z) (E : Ext h h') : Lng Z h' a z := by obtain ⟨cl, ty, A, r⟩ := L; exact ⟨cl, ty, A.ext E, r⟩
theorem Lng.lt (L : Lng Z h a z) : a < h.size := by obtain ⟨cl, ty, A, r⟩ := L; exact A.lt
theorem Lng.of {cl : Cell} (A : Arr Z h a cl ty) (q : cl.slots.size < 2 ^ 31) (e : cl.slots.size.toInt32 = z) (hz : ¬ z < 0) : Lng Z h a z := by
  refine ⟨cl, ty, A, ?_, hz⟩
  rw [← e]; simp only [Int32.toNatClampNeg, len_toInt q]; rfl
theorem Go.aln (X : Stand p l e R s m args below meth c T locs cells slots) (hx : p.tables.exec = Jvm.exec) (hZ : Z.Warmed39 s.vm) (eT : T.heap = h) (V : Lng Z h a z) (hd : decode c.code pc = .ok (.arraylength, 1))
    (g : Go p e below K (T.setTop (mkF m (pc + 1) Ls (.int z :: rest)))) : Go p e below K (T.setTop (mkF m pc Ls (.ref a :: rest))) := by
  obtain ⟨cl, ty, A, S, N⟩ := V
  subst eT
  refine Go.by (fun t q => X.arraylength hx A.1 (State.isArrayOf_alike hZ.alike A.2.1) (g := mkF m pc Ls (.ref a :: rest)) rfl rfl hd _ q) ?_
  rw [len_of S N]
  exact g
theorem bb (x : Int32) : x.toInt8.toInt32.toInt8.toInt32 = x.toInt8.toInt32 := by simp
theorem Go.bal {v : Value} (X : Stand p l e R s m args below meth c T locs cells slots) (hx : p.tables.exec = Jvm.exec) (hZ : Z.Warmed39 s.vm) (eT : T.heap = h) (V : Arv Z h a cA .byte z vs dv) (hj : ¬ j < 0 ∧ j < z) (hv : vs.getD j.toNatClampNeg dv = v) (hd : decode c.code pc = .ok (.baload, 1))
    (g : Go p e below K (T.setTop (mkF m (pc + 1) Ls (v :: rest)))) : Go p e below K (T.setTop (mkF m pc Ls (.int j :: .ref a :: rest))) := by
  obtain ⟨cl, A, -, S, N, H, -⟩ := V
  subst eT
  have hin := inb_of S hj
  exact Go.by (fun t q => X.baloadBytes hx (j := j) (v := v) A.1 (State.isArrayOf_alike hZ.alike A.2.1) A.2.2 hin (H.at hin hv) (g := mkF m pc Ls (.int j :: .ref a :: rest)) rfl rfl hd _ q) g
theorem Go.cal {v : Value} (X : Stand p l e R s m args below meth c T locs cells slots) (hx : p.tables.exec = Jvm.exec) (hZ : Z.Warmed39 s.vm) (eT : T.heap = h) (V : Arv Z h a cA .char z vs dv) (hj : ¬ j < 0 ∧ j < z) (hv : vs.getD j.toNatClampNeg dv = v) (hd : decode c.code pc = .ok (.caload, 1))
    (g : Go p e below K (T.setTop (mkF m (pc + 1) Ls (v :: rest)))) : Go p e below K (T.setTop (mkF m pc Ls (.int j :: .ref a :: rest))) := by
  obtain ⟨cl, A, -, S, N, H, -⟩ := V
  subst eT
  have hin := inb_of S hj
  exact Go.by (fun t q => X.caload hx (j := j) (v := v) A.1 (State.isArrayOf_alike hZ.alike A.2.1) A.2.2 hin (H.at hin hv) (g := mkF m pc Ls (.int j :: .ref a :: rest)) rfl rfl hd _ q) g
theorem Go.ial {v : Value} (X : Stand p l e R s m args below meth c T locs cells slots) (hx : p.tables.exec = Jvm.exec) (hZ : Z.Warmed39 s.vm) (eT : T.heap = h) (V : Arv Z h a cA .int z vs dv) (hj : ¬ j < 0 ∧ j < z) (hv : vs.getD j.toNatClampNeg dv = v) (hd : decode c.code pc = .ok (.iaload, 1))
    (g : Go p e below K (T.setTop (mkF m (pc + 1) Ls (v :: rest)))) : Go p e below K (T.setTop (mkF m pc Ls (.int j :: .ref a :: rest))) := by
  obtain ⟨cl, A, -, S, N, H, -⟩ := V
  subst eT
  have hin := inb_of S hj
  exact Go.by (fun t q => X.iaload hx (j := j) (v := v) A.1 (State.isArrayOf_alike hZ.alike A.2.1) A.2.2 hin (H.at hin hv) (g := mkF m pc Ls (.int j :: .ref a :: rest)) rfl rfl hd _ q) g
theorem Go.aal {v : Value} (X : Stand p l e R s m args below meth c T locs cells slots) (hx : p.tables.exec = Jvm.exec) (hZ : Z.Warmed39 s.vm) (eT : T.heap = h) (V : Arv Z h a cA ty z vs dv) (hty : ty.isReference = true) (hj : ¬ j < 0 ∧ j < z) (hv : vs.getD j.toNatClampNeg dv = v) (hd : decode c.code pc = .ok (.aaload, 1))
    (g : Go p e below K (T.setTop (mkF m (pc + 1) Ls (v :: rest)))) : Go p e below K (T.setTop (mkF m pc Ls (.int j :: .ref a :: rest))) := by
  obtain ⟨cl, A, -, S, N, H, -⟩ := V
  subst eT
  have hin := inb_of S hj
  exact Go.by (fun t q => X.aaload hx (j := j) (v := v) A.1 (State.isArrayOf_alike hZ.alike A.2.1) hty A.2.2 hin (H.at hin hv) (g := mkF m pc Ls (.int j :: .ref a :: rest)) rfl rfl hd _ q) g
theorem Go.bst {x : Int32} {i : Nat} (X : Stand p l e R s m args below meth c T locs cells slots) (hx : p.tables.exec = Jvm.exec) (hZ : Z.Warmed39 s.vm) (eT : T.heap = h) (V : Arv Z h a cA .byte z vs dv) (hj : ¬ j < 0 ∧ j < z) (hi : j.toNatClampNeg = i) (hl : i < vs.length) (hd : decode c.code pc = .ok (.bastore, 1))
    (g : ∀ (T' : State) (h' : Heap), Stand p l e R s m args below meth c T' (locs ++ [⟨a, j.toNatClampNeg⟩]) cells slots → T'.heap = h' → Wr h h' a j.toNatClampNeg (.int x.toInt8.toInt32) → Arv Z h' a cA .byte z (vs.set i (.int x.toInt8.toInt32)) dv → Go p e below K (T'.setTop (mkF m (pc + 1) Ls rest))) : Go p e below K (T.setTop (mkF m pc Ls (.int x :: .int j :: .ref a :: rest))) := by
  obtain ⟨cl, A, q1, S, N, H, G⟩ := V
  obtain ⟨T', h', X', e', W, st⟩ := stB X hx hZ eT A (j := j) (x := x) (inb_of S hj) (g := mkF m pc Ls (.int x :: .int j :: .ref a :: rest)) rfl rfl hd
  exact Go.by st (g T' h' X' e' W (Arv.set A q1 S N H G (fits_nar_byte _) W i hi hl))
theorem Go.cst {x : Int32} {i : Nat} (X : Stand p l e R s m args below meth c T locs cells slots) (hx : p.tables.exec = Jvm.exec) (hZ : Z.Warmed39 s.vm) (eT : T.heap = h) (V : Arv Z h a cA .char z vs dv) (hj : ¬ j < 0 ∧ j < z) (hi : j.toNatClampNeg = i) (hl : i < vs.length) (hd : decode c.code pc = .ok (.castore, 1))
    (g : ∀ (T' : State) (h' : Heap), Stand p l e R s m args below meth c T' (locs ++ [⟨a, j.toNatClampNeg⟩]) cells slots → T'.heap = h' → Wr h h' a j.toNatClampNeg (.int (nar .char x)) → Arv Z h' a cA .char z (vs.set i (.int (nar .char x))) dv → Go p e below K (T'.setTop (mkF m (pc + 1) Ls rest))) : Go p e below K (T.setTop (mkF m pc Ls (.int x :: .int j :: .ref a :: rest))) := by
  obtain ⟨cl, A, q1, S, N, H, G⟩ := V
  obtain ⟨T', h', X', e', W, st⟩ := stC X hx hZ eT A (j := j) (x := x) (inb_of S hj) (g := mkF m pc Ls (.int x :: .int j :: .ref a :: rest)) rfl rfl hd
  exact Go.by st (g T' h' X' e' W (Arv.set A q1 S N H G (fits_nar_char _) W i hi hl))
theorem Go.ist {x : Int32} {i : Nat} (X : Stand p l e R s m args below meth c T locs cells slots) (hx : p.tables.exec = Jvm.exec) (hZ : Z.Warmed39 s.vm) (eT : T.heap = h) (V : Arv Z h a cA .int z vs dv) (hj : ¬ j < 0 ∧ j < z) (hi : j.toNatClampNeg = i) (hl : i < vs.length) (hd : decode c.code pc = .ok (.iastore, 1))
    (g : ∀ (T' : State) (h' : Heap), Stand p l e R s m args below meth c T' (locs ++ [⟨a, j.toNatClampNeg⟩]) cells slots → T'.heap = h' → Wr h h' a j.toNatClampNeg (.int x) → Arv Z h' a cA .int z (vs.set i (.int x)) dv → Go p e below K (T'.setTop (mkF m (pc + 1) Ls rest))) : Go p e below K (T.setTop (mkF m pc Ls (.int x :: .int j :: .ref a :: rest))) := by
  obtain ⟨cl, A, q1, S, N, H, G⟩ := V
  obtain ⟨T', h', X', e', W, st⟩ := stI X hx hZ eT A (j := j) (x := x) (inb_of S hj) (g := mkF m pc Ls (.int x :: .int j :: .ref a :: rest)) rfl rfl hd
  exact Go.by st (g T' h' X' e' W (Arv.set A q1 S N H G rfl W i hi hl))
/-! from the case's words -/
theorem sta_exa {C f d K : String} (hx : (Cond.exactly (Term.static C f d) K).value args s none s [] = some true) (w1 : (Cond.initialized C).before args s = true) (w2 : (Cond.laysStatic C f d).before args s = true) : ∃ a, (Term.static C f d).eval args s none [] s = some (.ref a) ∧ Sta s s.heap C f d (.ref a) ∧ Exa s s.heap a K := by
  obtain ⟨a, ev⟩ := exa_v hx
  exact ⟨a, ev, Sta.start ev (Or.inr ⟨w1, w2⟩), Exa.start ev hx⟩
theorem fld_int {t : Term} {C f d : String} {z : Int32} (ev : t.eval args s none [] s = some (.ref a)) (hx : (Cond.eq (Term.field t C f d) (Term.int z)).value args s none s [] = some true) : Fld s s.heap a C f d (.int z) := by
  obtain ⟨x, y, e1, e2, k1, k2⟩ := cmp_v (Or.inl hx)
  have e3 : y = .int z := by rw [Term.int_eval] at e2; exact (Option.some.inj e2).symm
  subst e3
  obtain ⟨q, rfl⟩ : ∃ q, x = .int q := k2
  have e4 : q = z := by simpa [Cond.value, e1, e2] using hx
  subst e4
  rw [fld_at ev] at e1
  exact Fld.start e1
theorem eq_int {t : Term} {x z : Int32} (ev : t.eval args s none [] s = some (.int x)) (h : (Cond.eq t (Term.int z)).before args s = true) : x = z := by
  have q := Cond.before_iff.mp h
  simpa [Cond.value, ev, Term.int_eval] using q
theorem fld_ref {t : Term} {C f d : String} (ev : t.eval args s none [] s = some (.ref a)) (ev2 : (Term.field t C f d).eval args s none [] s = some (.ref b)) : Fld s s.heap a C f d (.ref b) := by
  rw [fld_at ev] at ev2; exact Fld.start ev2
theorem fld_null {t : Term} {C f d : String} (ev : t.eval args s none [] s = some (.ref a)) (hx : (Cond.eq (Term.field t C f d) Term.null).value args s none s [] = some true) : Fld s s.heap a C f d .null := by
  have q := null_v hx
  rw [fld_at ev] at q; exact Fld.start q
theorem fld_same {t u : Term} {C f d : String} (ev : t.eval args s none [] s = some (.ref a)) (ev2 : u.eval args s none [] s = some (.ref b)) (hx : (Cond.eq (Term.field t C f d) u).value args s none s [] = some true) : Fld s s.heap a C f d (.ref b) := by
  obtain ⟨x, y, e1, e2, k1, k2⟩ := cmp_v (Or.inl hx)
  cases ev2.symm.trans e2
  have hr : x.isRef = true := by
    have := k2
    simp [Kin] at this
    exact this.2
  rw [eq_R e1 e2 hr rfl] at hx
  have e3 : x = .ref b := by simpa using hx
  subst e3
  exact fld_ref ev e1
theorem elem_int {t : Term} {i v : Int32} {cl : Cell} {ty : FieldType} (ev : t.eval args s none [] s = some (.ref a)) (A : Arr s s.heap a cl ty) (hx : (Cond.eq (Term.elem t (Term.int i)) (Term.int v)).value args s none s [] = some true) : cl.slots[i.toNatClampNeg]? = some (.int v) := by
  obtain ⟨x, y, e1, e2, k1, k2⟩ := cmp_v (Or.inl hx)
  have e3 : y = .int v := by rw [Term.int_eval] at e2; exact (Option.some.inj e2).symm
  subst e3
  obtain ⟨q, rfl⟩ : ∃ q, x = .int q := k2
  have e4 : q = v := eq_int e1 (Cond.before_iff.mpr hx)
  subst e4
  exact (elem_in e1 ev (Term.int_eval _) A.1).2
theorem sta_int {C f d : String} (h0 : (Cond.initializedFor C f d).before args s = true) (h1 : (Cond.isInt (Term.static C f d)).before args s = true) : ∃ x, (Term.static C f d).eval args s none [] s = some (.int x) ∧ Sta s s.heap C f d (.int x) := by
  obtain ⟨x, ev⟩ := is_v (Cond.before_iff.mp h1)
  exact ⟨x, ev, Sta.start ev (Or.inl h0)⟩
theorem sta_ref {C f d : String} (h0 : (Cond.initializedFor C f d).before args s = true) (h1 : (Cond.isRef (Term.static C f d)).before args s = true) : ∃ x, (Term.static C f d).eval args s none [] s = some x ∧ x.isRef = true ∧ Sta s s.heap C f d x := by
  obtain ⟨x, ev, hr⟩ := isR_v (Cond.before_iff.mp h1)
  exact ⟨x, ev, hr, Sta.start ev (Or.inl h0)⟩
theorem ne_int {t : Term} {x z : Int32} (ev : t.eval args s none [] s = some (.int x)) (h : (Cond.not (Cond.eq t (Term.int z))).before args s = true) : ¬ x = z := by
  have q := not_v (Cond.before_iff.mp h)
  intro e; subst e
  rw [eq_i ev (Term.int_eval _) rfl] at q
  cases q
/-! a class whose superclasses are named is not one that can be instantiated and isn't among them -/
theorem ns_root {O D : String} {nn : Nat} (w : (Cond.noSuperclass O).before a0 Z = true) (wk : (Cond.instantiable D nn).before a0 Z = true) (hn : O ≠ D) : NS Z O D := by
  obtain ⟨c1, k1, q1, q2, q3, -, -⟩ := Cond.noSuperclass_spec w
  obtain ⟨t, -, g1, -⟩ := Cond.instantiable_spec wk
  refine ⟨c1, t, q1, g1, fun fuel => ?_⟩
  have ne := ids_ne q1 g1 hn
  cases fuel <;> simp [Vm.isSubclassAux, ne, q2, q3]
theorem ns_no {C S D : String} {nn : Nat} (w : (Cond.superclass C S).before a0 Z = true) (wk : (Cond.instantiable D nn).before a0 Z = true) (n : NS Z C D) (hn : C ≠ D) : ∃ c t, Z.vm.findClass C = some c ∧ Z.vm.findClass D = some t ∧ Z.vm.assignable c t = false := by
  obtain ⟨c1, t, q0, g0, n3⟩ := n
  obtain ⟨p1, k1, kp, q1, q2, q3, q4, q5, -, q7⟩ := Cond.superclass_spec q0 w
  obtain ⟨t', k2, g1, g2, g3, g4, -⟩ := Cond.instantiable_spec wk
  cases g0.symm.trans g1
  have ne := ids_ne q0 g0 hn
  have g5 : k2.isInterface = false := by simpa using (Bool.or_eq_false_iff.mp g4).1
  refine ⟨c1, t, q0, g0, ?_⟩
  show Z.vm.assignableAux (255 + 1) c1 t = false
  simp [Vm.assignableAux, ne, q2, g2, q5, g3, g5, Vm.isSubclass, n3]
end Own
end Jvm.RoadKit
namespace Jvm.RoadKit
open Sem ClassFile Op Lib Jvm.Stand Jvm.Free Jvm.LawKit
section OwnSteps
variable {p : Program} {l : Launch} {e : Env} {R : Room} {s : State} {m : MethodId} {args : Array Value} {below : List Frame} {meth : Method} {c : Code} {T : State} {locs : List Loc} {cells slots : Nat} {K : State → Outcome → Prop} {pc q : Nat} {Ls l' : Array Slot} {S : List Value}
theorem Go.iloadN {k : Fin 4} {v : Int32} (X : Stand p l e R s m args below meth c T locs cells slots) (hx : p.tables.exec = Jvm.exec) (hd : decode c.code pc = .ok (.iload_n k, 1)) (hl : Ls[k.val]? = some (.val (.int v))) (hp : pc + 1 = q) (g : Go p e below K (T.setTop (mkF m q Ls (.int v :: S)))) : Go p e below K (T.setTop (mkF m pc Ls S)) := by
  subst hp
  exact Go.by (fun t z => XS.iloadN X.here hx rfl hd hl z) g
theorem Go.iload {k : Nat} {v : Int32} (X : Stand p l e R s m args below meth c T locs cells slots) (hx : p.tables.exec = Jvm.exec) (hd : decode c.code pc = .ok (.iload k, 2)) (hl : Ls[k]? = some (.val (.int v))) (hp : pc + 2 = q) (g : Go p e below K (T.setTop (mkF m q Ls (.int v :: S)))) : Go p e below K (T.setTop (mkF m pc Ls S)) := by
  subst hp
  exact Go.by (fun t z => XS.iload X.here hx rfl hd hl z) g
theorem Go.istoreN {k : Fin 4} {v : Int32} (X : Stand p l e R s m args below meth c T locs cells slots) (hx : p.tables.exec = Jvm.exec) (hd : decode c.code pc = .ok (.istore_n k, 1)) (hl : storeLocals Ls k.val (.int v) = some l') (hp : pc + 1 = q) (g : Go p e below K (T.setTop (mkF m q l' S))) : Go p e below K (T.setTop (mkF m pc Ls (.int v :: S))) := by
  subst hp
  exact Go.by (fun t z => XS.istoreN X.here hx rfl hd rfl hl z) g
theorem Go.istore {k : Nat} {v : Int32} (X : Stand p l e R s m args below meth c T locs cells slots) (hx : p.tables.exec = Jvm.exec) (hd : decode c.code pc = .ok (.istore k, 2)) (hl : storeLocals Ls k (.int v) = some l') (hp : pc + 2 = q) (g : Go p e below K (T.setTop (mkF m q l' S))) : Go p e below K (T.setTop (mkF m pc Ls (.int v :: S))) := by
  subst hp
  exact Go.by (fun t z => XS.istore X.here hx rfl hd rfl hl z) g
theorem Go.lloadN {k : Fin 4} {v : Int64} (X : Stand p l e R s m args below meth c T locs cells slots) (hx : p.tables.exec = Jvm.exec) (hd : decode c.code pc = .ok (.lload_n k, 1)) (hl : Ls[k.val]? = some (.val (.long v))) (hp : pc + 1 = q) (g : Go p e below K (T.setTop (mkF m q Ls (.long v :: S)))) : Go p e below K (T.setTop (mkF m pc Ls S)) := by
  subst hp
  exact Go.by (fun t z => XS.lloadN X.here hx rfl hd hl z) g
theorem Go.lload {k : Nat} {v : Int64} (X : Stand p l e R s m args below meth c T locs cells slots) (hx : p.tables.exec = Jvm.exec) (hd : decode c.code pc = .ok (.lload k, 2)) (hl : Ls[k]? = some (.val (.long v))) (hp : pc + 2 = q) (g : Go p e below K (T.setTop (mkF m q Ls (.long v :: S)))) : Go p e below K (T.setTop (mkF m pc Ls S)) := by
  subst hp
  exact Go.by (fun t z => XS.lload X.here hx rfl hd hl z) g
theorem Go.lstoreN {k : Fin 4} {v : Int64} (X : Stand p l e R s m args below meth c T locs cells slots) (hx : p.tables.exec = Jvm.exec) (hd : decode c.code pc = .ok (.lstore_n k, 1)) (hl : storeLocals Ls k.val (.long v) = some l') (hp : pc + 1 = q) (g : Go p e below K (T.setTop (mkF m q l' S))) : Go p e below K (T.setTop (mkF m pc Ls (.long v :: S))) := by
  subst hp
  exact Go.by (fun t z => XS.lstoreN X.here hx rfl hd rfl hl z) g
theorem Go.lstore {k : Nat} {v : Int64} (X : Stand p l e R s m args below meth c T locs cells slots) (hx : p.tables.exec = Jvm.exec) (hd : decode c.code pc = .ok (.lstore k, 2)) (hl : storeLocals Ls k (.long v) = some l') (hp : pc + 2 = q) (g : Go p e below K (T.setTop (mkF m q l' S))) : Go p e below K (T.setTop (mkF m pc Ls (.long v :: S))) := by
  subst hp
  exact Go.by (fun t z => XS.lstore X.here hx rfl hd rfl hl z) g
theorem Go.aloadN {k : Fin 4} {v : Value} (X : Stand p l e R s m args below meth c T locs cells slots) (hx : p.tables.exec = Jvm.exec) (hd : decode c.code pc = .ok (.aload_n k, 1)) (hl : Ls[k.val]? = some (.val v)) (hv : v.isRef = true) (hp : pc + 1 = q) (g : Go p e below K (T.setTop (mkF m q Ls (v :: S)))) : Go p e below K (T.setTop (mkF m pc Ls S)) := by
  subst hp
  exact Go.by (fun t z => XS.aloadN X.here hx rfl hd hl hv z) g
theorem Go.aload {k : Nat} {v : Value} (X : Stand p l e R s m args below meth c T locs cells slots) (hx : p.tables.exec = Jvm.exec) (hd : decode c.code pc = .ok (.aload k, 2)) (hl : Ls[k]? = some (.val v)) (hv : v.isRef = true) (hp : pc + 2 = q) (g : Go p e below K (T.setTop (mkF m q Ls (v :: S)))) : Go p e below K (T.setTop (mkF m pc Ls S)) := by
  subst hp
  exact Go.by (fun t z => XS.aload X.here hx rfl hd hl hv z) g
theorem Go.astoreN {k : Fin 4} {v : Value} (X : Stand p l e R s m args below meth c T locs cells slots) (hx : p.tables.exec = Jvm.exec) (hd : decode c.code pc = .ok (.astore_n k, 1)) (hv : v.isRef = true) (hl : storeLocals Ls k.val v = some l') (hp : pc + 1 = q) (g : Go p e below K (T.setTop (mkF m q l' S))) : Go p e below K (T.setTop (mkF m pc Ls (v :: S))) := by
  subst hp
  exact Go.by (fun t z => XS.astoreN X.here hx rfl hd rfl hv hl z) g
theorem Go.astore {k : Nat} {v : Value} (X : Stand p l e R s m args below meth c T locs cells slots) (hx : p.tables.exec = Jvm.exec) (hd : decode c.code pc = .ok (.astore k, 2)) (hv : v.isRef = true) (hl : storeLocals Ls k v = some l') (hp : pc + 2 = q) (g : Go p e below K (T.setTop (mkF m q l' S))) : Go p e below K (T.setTop (mkF m pc Ls (v :: S))) := by
  subst hp
  exact Go.by (fun t z => XS.astore X.here hx rfl hd rfl hv hl z) g
theorem Go.iconst {i : Int} {r : Int32} (X : Stand p l e R s m args below meth c T locs cells slots) (hx : p.tables.exec = Jvm.exec) (hd : decode c.code pc = .ok (.iconst i, 1)) (hr : Int32.ofInt i = r) (hp : pc + 1 = q) (g : Go p e below K (T.setTop (mkF m q Ls (.int r :: S)))) : Go p e below K (T.setTop (mkF m pc Ls S)) := by
  subst hp hr
  exact Go.by (fun t z => XS.iconst X.here hx rfl hd z) g
theorem Go.bipush {i : Int} {r : Int32} (X : Stand p l e R s m args below meth c T locs cells slots) (hx : p.tables.exec = Jvm.exec) (hd : decode c.code pc = .ok (.bipush i, 2)) (hr : (Int8.ofInt i).toInt32 = r) (hp : pc + 2 = q) (g : Go p e below K (T.setTop (mkF m q Ls (.int r :: S)))) : Go p e below K (T.setTop (mkF m pc Ls S)) := by
  subst hp hr
  exact Go.by (fun t z => XS.bipush X.here hx rfl hd z) g
theorem Go.sipush {i : Int} {r : Int32} (X : Stand p l e R s m args below meth c T locs cells slots) (hx : p.tables.exec = Jvm.exec) (hd : decode c.code pc = .ok (.sipush i, 3)) (hr : (Int16.ofInt i).toInt32 = r) (hp : pc + 3 = q) (g : Go p e below K (T.setTop (mkF m q Ls (.int r :: S)))) : Go p e below K (T.setTop (mkF m pc Ls S)) := by
  subst hp hr
  exact Go.by (fun t z => XS.sipush X.here hx rfl hd z) g
theorem Go.lconst {k : Fin 2} {r : Int64} (X : Stand p l e R s m args below meth c T locs cells slots) (hx : p.tables.exec = Jvm.exec) (hd : decode c.code pc = .ok (.lconst k, 1)) (hr : Int64.ofNat k = r) (hp : pc + 1 = q) (g : Go p e below K (T.setTop (mkF m q Ls (.long r :: S)))) : Go p e below K (T.setTop (mkF m pc Ls S)) := by
  subst hp hr
  exact Go.by (fun t z => XS.lconst X.here hx rfl hd z) g
theorem Go.aconst_null  (X : Stand p l e R s m args below meth c T locs cells slots) (hx : p.tables.exec = Jvm.exec) (hd : decode c.code pc = .ok (.aconst_null, 1)) (hp : pc + 1 = q) (g : Go p e below K (T.setTop (mkF m q Ls (.null :: S)))) : Go p e below K (T.setTop (mkF m pc Ls S)) := by
  subst hp
  exact Go.by (fun t z => XS.aconstNull X.here hx rfl hd z) g
theorem Go.iadd {x y r : Int32} (X : Stand p l e R s m args below meth c T locs cells slots) (hx : p.tables.exec = Jvm.exec) (hd : decode c.code pc = .ok (.iadd, 1)) (hr : x + y = r) (hp : pc + 1 = q) (g : Go p e below K (T.setTop (mkF m q Ls (.int r :: S)))) : Go p e below K (T.setTop (mkF m pc Ls (.int y :: .int x :: S))) := by
  subst hp hr
  exact Go.by (fun t z => XS.iadd X.here hx rfl hd rfl z) g
theorem Go.ladd {x y r : Int64} (X : Stand p l e R s m args below meth c T locs cells slots) (hx : p.tables.exec = Jvm.exec) (hd : decode c.code pc = .ok (.ladd, 1)) (hr : x + y = r) (hp : pc + 1 = q) (g : Go p e below K (T.setTop (mkF m q Ls (.long r :: S)))) : Go p e below K (T.setTop (mkF m pc Ls (.long y :: .long x :: S))) := by
  subst hp hr
  exact Go.by (fun t z => XS.ladd X.here hx rfl hd rfl z) g
theorem Go.isub {x y r : Int32} (X : Stand p l e R s m args below meth c T locs cells slots) (hx : p.tables.exec = Jvm.exec) (hd : decode c.code pc = .ok (.isub, 1)) (hr : x - y = r) (hp : pc + 1 = q) (g : Go p e below K (T.setTop (mkF m q Ls (.int r :: S)))) : Go p e below K (T.setTop (mkF m pc Ls (.int y :: .int x :: S))) := by
  subst hp hr
  exact Go.by (fun t z => XS.isub X.here hx rfl hd rfl z) g
theorem Go.lsub {x y r : Int64} (X : Stand p l e R s m args below meth c T locs cells slots) (hx : p.tables.exec = Jvm.exec) (hd : decode c.code pc = .ok (.lsub, 1)) (hr : x - y = r) (hp : pc + 1 = q) (g : Go p e below K (T.setTop (mkF m q Ls (.long r :: S)))) : Go p e below K (T.setTop (mkF m pc Ls (.long y :: .long x :: S))) := by
  subst hp hr
  exact Go.by (fun t z => XS.lsub X.here hx rfl hd rfl z) g
theorem Go.imul {x y r : Int32} (X : Stand p l e R s m args below meth c T locs cells slots) (hx : p.tables.exec = Jvm.exec) (hd : decode c.code pc = .ok (.imul, 1)) (hr : x * y = r) (hp : pc + 1 = q) (g : Go p e below K (T.setTop (mkF m q Ls (.int r :: S)))) : Go p e below K (T.setTop (mkF m pc Ls (.int y :: .int x :: S))) := by
  subst hp hr
  exact Go.by (fun t z => XS.imul X.here hx rfl hd rfl z) g
theorem Go.lmul {x y r : Int64} (X : Stand p l e R s m args below meth c T locs cells slots) (hx : p.tables.exec = Jvm.exec) (hd : decode c.code pc = .ok (.lmul, 1)) (hr : x * y = r) (hp : pc + 1 = q) (g : Go p e below K (T.setTop (mkF m q Ls (.long r :: S)))) : Go p e below K (T.setTop (mkF m pc Ls (.long y :: .long x :: S))) := by
  subst hp hr
  exact Go.by (fun t z => XS.lmul X.here hx rfl hd rfl z) g
theorem Go.iand {x y r : Int32} (X : Stand p l e R s m args below meth c T locs cells slots) (hx : p.tables.exec = Jvm.exec) (hd : decode c.code pc = .ok (.iand, 1)) (hr : x &&& y = r) (hp : pc + 1 = q) (g : Go p e below K (T.setTop (mkF m q Ls (.int r :: S)))) : Go p e below K (T.setTop (mkF m pc Ls (.int y :: .int x :: S))) := by
  subst hp hr
  exact Go.by (fun t z => XS.iand X.here hx rfl hd rfl z) g
theorem Go.land {x y r : Int64} (X : Stand p l e R s m args below meth c T locs cells slots) (hx : p.tables.exec = Jvm.exec) (hd : decode c.code pc = .ok (.land, 1)) (hr : x &&& y = r) (hp : pc + 1 = q) (g : Go p e below K (T.setTop (mkF m q Ls (.long r :: S)))) : Go p e below K (T.setTop (mkF m pc Ls (.long y :: .long x :: S))) := by
  subst hp hr
  exact Go.by (fun t z => XS.land X.here hx rfl hd rfl z) g
theorem Go.ior {x y r : Int32} (X : Stand p l e R s m args below meth c T locs cells slots) (hx : p.tables.exec = Jvm.exec) (hd : decode c.code pc = .ok (.ior, 1)) (hr : x ||| y = r) (hp : pc + 1 = q) (g : Go p e below K (T.setTop (mkF m q Ls (.int r :: S)))) : Go p e below K (T.setTop (mkF m pc Ls (.int y :: .int x :: S))) := by
  subst hp hr
  exact Go.by (fun t z => XS.ior X.here hx rfl hd rfl z) g
theorem Go.lor {x y r : Int64} (X : Stand p l e R s m args below meth c T locs cells slots) (hx : p.tables.exec = Jvm.exec) (hd : decode c.code pc = .ok (.lor, 1)) (hr : x ||| y = r) (hp : pc + 1 = q) (g : Go p e below K (T.setTop (mkF m q Ls (.long r :: S)))) : Go p e below K (T.setTop (mkF m pc Ls (.long y :: .long x :: S))) := by
  subst hp hr
  exact Go.by (fun t z => XS.lor X.here hx rfl hd rfl z) g
theorem Go.ixor {x y r : Int32} (X : Stand p l e R s m args below meth c T locs cells slots) (hx : p.tables.exec = Jvm.exec) (hd : decode c.code pc = .ok (.ixor, 1)) (hr : x ^^^ y = r) (hp : pc + 1 = q) (g : Go p e below K (T.setTop (mkF m q Ls (.int r :: S)))) : Go p e below K (T.setTop (mkF m pc Ls (.int y :: .int x :: S))) := by
  subst hp hr
  exact Go.by (fun t z => XS.ixor X.here hx rfl hd rfl z) g
theorem Go.lxor {x y r : Int64} (X : Stand p l e R s m args below meth c T locs cells slots) (hx : p.tables.exec = Jvm.exec) (hd : decode c.code pc = .ok (.lxor, 1)) (hr : x ^^^ y = r) (hp : pc + 1 = q) (g : Go p e below K (T.setTop (mkF m q Ls (.long r :: S)))) : Go p e below K (T.setTop (mkF m pc Ls (.long y :: .long x :: S))) := by
  subst hp hr
  exact Go.by (fun t z => XS.lxor X.here hx rfl hd rfl z) g
theorem Go.idiv {x y r : Int32} (X : Stand p l e R s m args below meth c T locs cells slots) (hx : p.tables.exec = Jvm.exec) (hd : decode c.code pc = .ok (.idiv, 1)) (hy : y ≠ 0) (hr : x / y = r) (hp : pc + 1 = q) (g : Go p e below K (T.setTop (mkF m q Ls (.int r :: S)))) : Go p e below K (T.setTop (mkF m pc Ls (.int y :: .int x :: S))) := by
  subst hp hr
  exact Go.by (fun t z => XS.idiv X.here hx rfl hd rfl hy z) g
theorem Go.ineg {x r : Int32} (X : Stand p l e R s m args below meth c T locs cells slots) (hx : p.tables.exec = Jvm.exec) (hd : decode c.code pc = .ok (.ineg, 1)) (hr : -x = r) (hp : pc + 1 = q) (g : Go p e below K (T.setTop (mkF m q Ls (.int r :: S)))) : Go p e below K (T.setTop (mkF m pc Ls (.int x :: S))) := by
  subst hp hr
  exact Go.by (fun t z => XS.ineg X.here hx rfl hd rfl z) g
theorem Go.ldiv {x y r : Int64} (X : Stand p l e R s m args below meth c T locs cells slots) (hx : p.tables.exec = Jvm.exec) (hd : decode c.code pc = .ok (.ldiv, 1)) (hy : y ≠ 0) (hr : x / y = r) (hp : pc + 1 = q) (g : Go p e below K (T.setTop (mkF m q Ls (.long r :: S)))) : Go p e below K (T.setTop (mkF m pc Ls (.long y :: .long x :: S))) := by
  subst hp hr
  exact Go.by (fun t z => XS.ldiv X.here hx rfl hd rfl hy z) g
theorem Go.lneg {x r : Int64} (X : Stand p l e R s m args below meth c T locs cells slots) (hx : p.tables.exec = Jvm.exec) (hd : decode c.code pc = .ok (.lneg, 1)) (hr : -x = r) (hp : pc + 1 = q) (g : Go p e below K (T.setTop (mkF m q Ls (.long r :: S)))) : Go p e below K (T.setTop (mkF m pc Ls (.long x :: S))) := by
  subst hp hr
  exact Go.by (fun t z => XS.lneg X.here hx rfl hd rfl z) g
theorem Go.irem {x y r : Int32} (X : Stand p l e R s m args below meth c T locs cells slots) (hx : p.tables.exec = Jvm.exec) (hd : decode c.code pc = .ok (.irem, 1)) (hy : y ≠ 0) (hr : x % y = r) (hp : pc + 1 = q) (g : Go p e below K (T.setTop (mkF m q Ls (.int r :: S)))) : Go p e below K (T.setTop (mkF m pc Ls (.int y :: .int x :: S))) := by
  subst hp hr
  exact Go.by (fun t z => iremM X hx (g := mkF m pc Ls (.int y :: .int x :: S)) rfl hd rfl hy z) g
theorem Go.lrem {x y r : Int64} (X : Stand p l e R s m args below meth c T locs cells slots) (hx : p.tables.exec = Jvm.exec) (hd : decode c.code pc = .ok (.lrem, 1)) (hy : y ≠ 0) (hr : x - (x / y) * y = r) (hp : pc + 1 = q) (g : Go p e below K (T.setTop (mkF m q Ls (.long r :: S)))) : Go p e below K (T.setTop (mkF m pc Ls (.long y :: .long x :: S))) := by
  subst hp hr
  exact Go.by (fun t z => XS.lrem X.here hx rfl hd rfl hy z) g
theorem Go.ishl {x y r : Int32} (X : Stand p l e R s m args below meth c T locs cells slots) (hx : p.tables.exec = Jvm.exec) (hd : decode c.code pc = .ok (.ishl, 1)) (hr : x <<< (y &&& 31) = r) (hp : pc + 1 = q) (g : Go p e below K (T.setTop (mkF m q Ls (.int r :: S)))) : Go p e below K (T.setTop (mkF m pc Ls (.int y :: .int x :: S))) := by
  subst hp hr
  exact Go.by (fun t z => XS.ishl X.here hx rfl hd rfl z) g
theorem Go.ishr {x y r : Int32} (X : Stand p l e R s m args below meth c T locs cells slots) (hx : p.tables.exec = Jvm.exec) (hd : decode c.code pc = .ok (.ishr, 1)) (hr : x >>> (y &&& 31) = r) (hp : pc + 1 = q) (g : Go p e below K (T.setTop (mkF m q Ls (.int r :: S)))) : Go p e below K (T.setTop (mkF m pc Ls (.int y :: .int x :: S))) := by
  subst hp hr
  exact Go.by (fun t z => XS.ishr X.here hx rfl hd rfl z) g
theorem Go.iushr {x y r : Int32} (X : Stand p l e R s m args below meth c T locs cells slots) (hx : p.tables.exec = Jvm.exec) (hd : decode c.code pc = .ok (.iushr, 1)) (hr : (x.toUInt32 >>> (y &&& 31).toUInt32).toInt32 = r) (hp : pc + 1 = q) (g : Go p e below K (T.setTop (mkF m q Ls (.int r :: S)))) : Go p e below K (T.setTop (mkF m pc Ls (.int y :: .int x :: S))) := by
  subst hp hr
  exact Go.by (fun t z => XS.iushr X.here hx rfl hd rfl z) g
theorem Go.lshl {x : Int64} {y : Int32} {r : Int64} (X : Stand p l e R s m args below meth c T locs cells slots) (hx : p.tables.exec = Jvm.exec) (hd : decode c.code pc = .ok (.lshl, 1)) (hr : x <<< (y &&& 0x3f).toInt64 = r) (hp : pc + 1 = q) (g : Go p e below K (T.setTop (mkF m q Ls (.long r :: S)))) : Go p e below K (T.setTop (mkF m pc Ls (.int y :: .long x :: S))) := by
  subst hp hr
  exact Go.by (fun t z => XS.lshl X.here hx rfl hd rfl z) g
theorem Go.lshr {x : Int64} {y : Int32} {r : Int64} (X : Stand p l e R s m args below meth c T locs cells slots) (hx : p.tables.exec = Jvm.exec) (hd : decode c.code pc = .ok (.lshr, 1)) (hr : x >>> (y &&& 0x3f).toInt64 = r) (hp : pc + 1 = q) (g : Go p e below K (T.setTop (mkF m q Ls (.long r :: S)))) : Go p e below K (T.setTop (mkF m pc Ls (.int y :: .long x :: S))) := by
  subst hp hr
  exact Go.by (fun t z => XS.lshr X.here hx rfl hd rfl z) g
theorem Go.lushr {x : Int64} {y : Int32} {r : Int64} (X : Stand p l e R s m args below meth c T locs cells slots) (hx : p.tables.exec = Jvm.exec) (hd : decode c.code pc = .ok (.lushr, 1)) (hr : (x.toUInt64 >>> (y &&& 0x3f).toInt64.toUInt64).toInt64 = r) (hp : pc + 1 = q) (g : Go p e below K (T.setTop (mkF m q Ls (.long r :: S)))) : Go p e below K (T.setTop (mkF m pc Ls (.int y :: .long x :: S))) := by
  subst hp hr
  exact Go.by (fun t z => XS.lushr X.here hx rfl hd rfl z) g
theorem Go.i2b {x : Int32} {r : Int32} (X : Stand p l e R s m args below meth c T locs cells slots) (hx : p.tables.exec = Jvm.exec) (hd : decode c.code pc = .ok (.i2b, 1)) (hr : x.toInt8.toInt32 = r) (hp : pc + 1 = q) (g : Go p e below K (T.setTop (mkF m q Ls (.int r :: S)))) : Go p e below K (T.setTop (mkF m pc Ls (.int x :: S))) := by
  subst hp hr
  exact Go.by (fun t z => XS.i2b X.here hx rfl hd rfl z) g
theorem Go.i2c {x : Int32} {r : Int32} (X : Stand p l e R s m args below meth c T locs cells slots) (hx : p.tables.exec = Jvm.exec) (hd : decode c.code pc = .ok (.i2c, 1)) (hr : x.toUInt32.toUInt16.toUInt32.toInt32 = r) (hp : pc + 1 = q) (g : Go p e below K (T.setTop (mkF m q Ls (.int r :: S)))) : Go p e below K (T.setTop (mkF m pc Ls (.int x :: S))) := by
  subst hp hr
  exact Go.by (fun t z => XS.i2c X.here hx rfl hd rfl z) g
theorem Go.i2s {x : Int32} {r : Int32} (X : Stand p l e R s m args below meth c T locs cells slots) (hx : p.tables.exec = Jvm.exec) (hd : decode c.code pc = .ok (.i2s, 1)) (hr : x.toInt16.toInt32 = r) (hp : pc + 1 = q) (g : Go p e below K (T.setTop (mkF m q Ls (.int r :: S)))) : Go p e below K (T.setTop (mkF m pc Ls (.int x :: S))) := by
  subst hp hr
  exact Go.by (fun t z => XS.i2s X.here hx rfl hd rfl z) g
theorem Go.i2l {x : Int32} {r : Int64} (X : Stand p l e R s m args below meth c T locs cells slots) (hx : p.tables.exec = Jvm.exec) (hd : decode c.code pc = .ok (.i2l, 1)) (hr : x.toInt64 = r) (hp : pc + 1 = q) (g : Go p e below K (T.setTop (mkF m q Ls (.long r :: S)))) : Go p e below K (T.setTop (mkF m pc Ls (.int x :: S))) := by
  subst hp hr
  exact Go.by (fun t z => XS.i2l X.here hx rfl hd rfl z) g
theorem Go.l2i {x : Int64} {r : Int32} (X : Stand p l e R s m args below meth c T locs cells slots) (hx : p.tables.exec = Jvm.exec) (hd : decode c.code pc = .ok (.l2i, 1)) (hr : x.toInt32 = r) (hp : pc + 1 = q) (g : Go p e below K (T.setTop (mkF m q Ls (.int r :: S)))) : Go p e below K (T.setTop (mkF m pc Ls (.long x :: S))) := by
  subst hp hr
  exact Go.by (fun t z => XS.l2i X.here hx rfl hd rfl z) g
theorem Go.lcmp {x y : Int64} {r : Int32} (X : Stand p l e R s m args below meth c T locs cells slots) (hx : p.tables.exec = Jvm.exec) (hd : decode c.code pc = .ok (.lcmp, 1)) (hr : Jvm.Free.XT.cmpL x y = r) (hp : pc + 1 = q) (g : Go p e below K (T.setTop (mkF m q Ls (.int r :: S)))) : Go p e below K (T.setTop (mkF m pc Ls (.long y :: .long x :: S))) := by
  subst hp hr
  exact Go.by (fun t z => XS.lcmp X.here hx rfl hd rfl z) g
theorem Go.iinc {k : Nat} {cst : Int} {x r : Int32} (X : Stand p l e R s m args below meth c T locs cells slots) (hx : p.tables.exec = Jvm.exec) (hd : decode c.code pc = .ok (.iinc k cst, 3)) (hl : Ls[k]? = some (.val (.int x))) (hr : x + Int32.ofInt cst = r) (hl' : storeLocals Ls k (.int r) = some l') (hp : pc + 3 = q) (g : Go p e below K (T.setTop (mkF m q l' S))) : Go p e below K (T.setTop (mkF m pc Ls S)) := by
  subst hp hr
  exact Go.by (fun t z => XS.iinc X.here hx rfl hd hl hl' z) g
theorem Go.dup {x : Value} (X : Stand p l e R s m args below meth c T locs cells slots) (hx : p.tables.exec = Jvm.exec) (hd : decode c.code pc = .ok (.dup, 1)) (hc : x.category = 1) (hp : pc + 1 = q) (g : Go p e below K (T.setTop (mkF m q Ls (x :: x :: S)))) : Go p e below K (T.setTop (mkF m pc Ls (x :: S))) := by
  subst hp
  exact Go.by (fun t z => XS.dup X.here hx rfl hd rfl hc z) g
theorem Go.dup_x1 {x y : Value} (X : Stand p l e R s m args below meth c T locs cells slots) (hx : p.tables.exec = Jvm.exec) (hd : decode c.code pc = .ok (.dup_x1, 1)) (hc : x.category = 1) (hc2 : y.category = 1) (hp : pc + 1 = q) (g : Go p e below K (T.setTop (mkF m q Ls (x :: y :: x :: S)))) : Go p e below K (T.setTop (mkF m pc Ls (x :: y :: S))) := by
  subst hp
  exact Go.by (fun t z => XS.dupX1 X.here hx rfl hd rfl hc hc2 z) g
theorem Go.swap {x y : Value} (X : Stand p l e R s m args below meth c T locs cells slots) (hx : p.tables.exec = Jvm.exec) (hd : decode c.code pc = .ok (.swap, 1)) (hc : x.category = 1) (hc2 : y.category = 1) (hp : pc + 1 = q) (g : Go p e below K (T.setTop (mkF m q Ls (y :: x :: S)))) : Go p e below K (T.setTop (mkF m pc Ls (x :: y :: S))) := by
  subst hp
  exact Go.by (fun t z => XS.swap X.here hx rfl hd rfl hc hc2 z) g
theorem Go.pop {x : Value} (X : Stand p l e R s m args below meth c T locs cells slots) (hx : p.tables.exec = Jvm.exec) (hd : decode c.code pc = .ok (.pop, 1)) (hc : x.category = 1) (hp : pc + 1 = q) (g : Go p e below K (T.setTop (mkF m q Ls S))) : Go p e below K (T.setTop (mkF m pc Ls (x :: S))) := by
  subst hp
  exact Go.by (fun t z => XS.pop X.here hx rfl hd rfl hc z) g
theorem Go.goto  {o : Int} (X : Stand p l e R s m args below meth c T locs cells slots) (hx : p.tables.exec = Jvm.exec) (hd : decode c.code pc = .ok (.goto o, 3)) (ho : 0 ≤ (pc : Int) + o) (hp : ((pc : Int) + o).toNat = q) (g : Go p e below K (T.setTop (mkF m q Ls S))) : Go p e below K (T.setTop (mkF m pc Ls S)) :=
  Go.by (fun t z => XS.goto X.here hx rfl (pc0 := pc) rfl hd ho hp z) g
theorem Go.ifYes {cd : ClassFile.Cond} {x : Int32} {o : Int} (X : Stand p l e R s m args below meth c T locs cells slots) (hx : p.tables.exec = Jvm.exec) (hd : decode c.code pc = .ok (.ifCond cd o, 3)) (hc : ifCond.holds cd x = true) (ho : 0 ≤ (pc : Int) + o) (hp : ((pc : Int) + o).toNat = q) (g : Go p e below K (T.setTop (mkF m q Ls S))) : Go p e below K (T.setTop (mkF m pc Ls (.int x :: S))) :=
  Go.by (fun t z => XS.ifYes X.here hx rfl (pc0 := pc) rfl hd rfl hc ho hp z) g
theorem Go.icmpYes {cd : ClassFile.Cond} {x y : Int32} {o : Int} (X : Stand p l e R s m args below meth c T locs cells slots) (hx : p.tables.exec = Jvm.exec) (hd : decode c.code pc = .ok (.if_icmp cd o, 3)) (hc : if_icmp.holds cd x y = true) (ho : 0 ≤ (pc : Int) + o) (hp : ((pc : Int) + o).toNat = q) (g : Go p e below K (T.setTop (mkF m q Ls S))) : Go p e below K (T.setTop (mkF m pc Ls (.int y :: .int x :: S))) :=
  Go.by (fun t z => XS.icmpYes X.here hx rfl (pc0 := pc) rfl hd rfl hc ho hp z) g
theorem Go.ifnullYes  {o : Int} (X : Stand p l e R s m args below meth c T locs cells slots) (hx : p.tables.exec = Jvm.exec) (hd : decode c.code pc = .ok (.ifnull o, 3)) (ho : 0 ≤ (pc : Int) + o) (hp : ((pc : Int) + o).toNat = q) (g : Go p e below K (T.setTop (mkF m q Ls S))) : Go p e below K (T.setTop (mkF m pc Ls (.null :: S))) :=
  Go.by (fun t z => XS.ifnullYes X.here hx rfl (pc0 := pc) rfl hd rfl ho hp z) g
theorem Go.ifnonnullYes {b : Addr} {o : Int} (X : Stand p l e R s m args below meth c T locs cells slots) (hx : p.tables.exec = Jvm.exec) (hd : decode c.code pc = .ok (.ifnonnull o, 3)) (ho : 0 ≤ (pc : Int) + o) (hp : ((pc : Int) + o).toNat = q) (g : Go p e below K (T.setTop (mkF m q Ls S))) : Go p e below K (T.setTop (mkF m pc Ls (.ref b :: S))) :=
  Go.by (fun t z => XS.ifnonnullYes X.here hx rfl (pc0 := pc) rfl hd rfl ho hp z) g
theorem Go.ifNo {cd : ClassFile.Cond} {x : Int32} {o : Int} (X : Stand p l e R s m args below meth c T locs cells slots) (hx : p.tables.exec = Jvm.exec) (hd : decode c.code pc = .ok (.ifCond cd o, 3)) (hc : ifCond.holds cd x = false) (hp : pc + 3 = q) (g : Go p e below K (T.setTop (mkF m q Ls S))) : Go p e below K (T.setTop (mkF m pc Ls (.int x :: S))) := by
  subst hp
  exact Go.by (fun t z => XS.ifNo X.here hx rfl hd rfl hc z) g
theorem Go.icmpNo {cd : ClassFile.Cond} {x y : Int32} {o : Int} (X : Stand p l e R s m args below meth c T locs cells slots) (hx : p.tables.exec = Jvm.exec) (hd : decode c.code pc = .ok (.if_icmp cd o, 3)) (hc : if_icmp.holds cd x y = false) (hp : pc + 3 = q) (g : Go p e below K (T.setTop (mkF m q Ls S))) : Go p e below K (T.setTop (mkF m pc Ls (.int y :: .int x :: S))) := by
  subst hp
  exact Go.by (fun t z => XS.icmpNo X.here hx rfl hd rfl hc z) g
theorem Go.ifnullNo {b : Addr} {o : Int} (X : Stand p l e R s m args below meth c T locs cells slots) (hx : p.tables.exec = Jvm.exec) (hd : decode c.code pc = .ok (.ifnull o, 3)) (hp : pc + 3 = q) (g : Go p e below K (T.setTop (mkF m q Ls S))) : Go p e below K (T.setTop (mkF m pc Ls (.ref b :: S))) := by
  subst hp
  exact Go.by (fun t z => XS.ifnullNo X.here hx rfl hd rfl z) g
theorem Go.ifnonnullNo {o : Int} (X : Stand p l e R s m args below meth c T locs cells slots) (hx : p.tables.exec = Jvm.exec) (hd : decode c.code pc = .ok (.ifnonnull o, 3)) (hp : pc + 3 = q) (g : Go p e below K (T.setTop (mkF m q Ls S))) : Go p e below K (T.setTop (mkF m pc Ls (.null :: S))) := by
  subst hp
  exact Go.by (fun t z => XS.ifnonnullNo X.here hx rfl hd rfl z) g
theorem Go.acmp {cd : ACond} {x y : Value} {o : Int} {same : Bool} (X : Stand p l e R s m args below meth c T locs cells slots) (hx : p.tables.exec = Jvm.exec) (h1 : x.isRef = true) (h2 : y.isRef = true) (hd : decode c.code pc = .ok (.if_acmp cd o, 3)) (hq : decide (x = y) = same) (ho : 0 ≤ (pc : Int) + o) (hp : q = if acV cd same = true then ((pc : Int) + o).toNat else pc + 3) (g : Go p e below K (T.setTop (mkF m q Ls S))) : Go p e below K (T.setTop (mkF m pc Ls (y :: x :: S))) :=
  Go.by (fun t z => Jvm.RoadKit.acmp (g := mkF m pc Ls (y :: x :: S)) X hx rfl h1 h2 (pc0 := pc) (same := same) rfl hd rfl hq ho hp z) g
variable {Z : State} {a0 : Array Value} {h : Heap} {own R0 O n d host C : String} {index kk : Nat} {a : Addr} {v v' old : Value} {ty : FieldType}
theorem Go.getF (X : Stand p l e R s m args below meth c T locs cells slots) (hx : p.tables.exec = Jvm.exec) (hZ : Z.Warmed39 s.vm) (hown : s.vm.findClass own = some m.cls) (w : (Cond.fieldLink own index R0 n d).before a0 Z = true ∨ (Cond.fieldLinkNest own index R0 n d host).before a0 Z = true) (via : Via Z R0 O n d) (eT : T.heap = h) (F : Fld Z h a O n d v) (hd : decode c.code pc = .ok (.getfield index, 3)) (hp : pc + 3 = q)
    (g : ∀ T', Stand p l e R s m args below meth c T' locs cells slots → T'.heap = h → Go p e below K (T'.setTop (mkF m q Ls (v :: S)))) : Go p e below K (T.setTop (mkF m pc Ls (.ref a :: S))) := by
  subst hp
  obtain ⟨T', X', e', st⟩ := Jvm.RoadKit.getF X hx hZ hown w via eT F (g := mkF m pc Ls (.ref a :: S)) rfl rfl hd
  exact Go.by st (g T' X' e')
theorem Go.getS (X : Stand p l e R s m args below meth c T locs cells slots) (hx : p.tables.exec = Jvm.exec) (hZ : Z.Warmed39 s.vm) (hown : s.vm.findClass own = some m.cls) (w : (Cond.fieldLink own index R0 n d).before a0 Z = true ∨ (Cond.fieldLinkNest own index R0 n d host).before a0 Z = true) (via : Via Z R0 O n d) (eT : T.heap = h) (F : Sta Z h O n d v) (hd : decode c.code pc = .ok (.getstatic index, 3)) (hp : pc + 3 = q)
    (g : ∀ T', Stand p l e R s m args below meth c T' locs cells slots → T'.heap = h → Go p e below K (T'.setTop (mkF m q Ls (v :: S)))) : Go p e below K (T.setTop (mkF m pc Ls S)) := by
  subst hp
  obtain ⟨T', X', e', st⟩ := Jvm.RoadKit.getS2 X hx hZ hown w via eT F (g := mkF m pc Ls S) rfl hd
  exact Go.by st (g T' X' e')
theorem Go.putF (X : Stand p l e R s m args below meth c T locs cells slots) (hx : p.tables.exec = Jvm.exec) (hZ : Z.Warmed39 s.vm) (hown : s.vm.findClass own = some m.cls) (w : (Cond.fieldLink own index R0 n d).before a0 Z = true ∨ (Cond.fieldLinkNest own index R0 n d host).before a0 Z = true) (via : Via Z R0 O n d) (eT : T.heap = h) (F : Fld Z h a O n d old) (E : Exa Z h a C)
    (L : (Cond.lays C O n d).before a0 Z = true ∨ ((Cond.laysFinal C O n d).before a0 Z = true ∧ own = O ∧ meth.name = "<init>")) (wi : (Cond.instantiable C kk).before a0 Z = true) (hty : parseFieldDescriptor d = some ty) (hn : narrow ty v = v) (hf : fits ty v = true) (hd : decode c.code pc = .ok (.putfield index, 3)) (hp : pc + 3 = q)
    (g : ∀ T' h', Stand p l e R s m args below meth c T' (locs ++ [⟨a, slotOf Z O n d⟩]) cells slots → T'.heap = h' → Wr h h' a (slotOf Z O n d) v → Fld Z h' a O n d v → Go p e below K (T'.setTop (mkF m q Ls S))) : Go p e below K (T.setTop (mkF m pc Ls (v :: .ref a :: S))) := by
  subst hp
  obtain ⟨T', h', X', e', W, st⟩ := Jvm.RoadKit.putF X hx hZ hown w via eT F E L wi hty hn hf (g := mkF m pc Ls (v :: .ref a :: S)) rfl rfl hd
  exact Go.by st (g T' h' X' e' W (F.same W))
theorem Go.putFN (X : Stand p l e R s m args below meth c T locs cells slots) (hx : p.tables.exec = Jvm.exec) (hZ : Z.Warmed39 s.vm) (hown : s.vm.findClass own = some m.cls) (w : (Cond.fieldLink own index R0 n d).before a0 Z = true) (via : Via Z R0 O n d) (eT : T.heap = h) (F : Fld Z h a O n d old) (E : Exa Z h a C)
    (L : (Cond.lays C O n d).before a0 Z = true ∨ ((Cond.laysFinal C O n d).before a0 Z = true ∧ own = O ∧ meth.name = "<init>")) (wi : (Cond.instantiable C kk).before a0 Z = true) (hty : parseFieldDescriptor d = some ty) (hn : narrow ty v = v') (hf : fits ty v' = true) (hd : decode c.code pc = .ok (.putfield index, 3)) (hp : pc + 3 = q)
    (g : ∀ T' h', Stand p l e R s m args below meth c T' (locs ++ [⟨a, slotOf Z O n d⟩]) cells slots → T'.heap = h' → Wr h h' a (slotOf Z O n d) v' → Fld Z h' a O n d v' → Go p e below K (T'.setTop (mkF m q Ls S))) : Go p e below K (T.setTop (mkF m pc Ls (v :: .ref a :: S))) := by
  subst hp
  obtain ⟨T', h', X', e', W, st⟩ := Jvm.RoadKit.putFN X hx hZ hown w via eT F E L wi hty hn hf (g := mkF m pc Ls (v :: .ref a :: S)) rfl rfl hd
  exact Go.by st (g T' h' X' e' W (F.same W))
theorem Go.newO {nn : Nat} (X : Stand p l e R s m args below meth c T locs cells slots) (hx : p.tables.exec = Jvm.exec) (hZ : Z.Warmed39 s.vm) (hown : s.vm.findClass own = some m.cls) (w : (Cond.classLink own index C).before a0 Z = true) (wi : (Cond.instantiable C nn).before a0 Z = true) (wz : (Cond.initialized C).before a0 Z = true) (eT : T.heap = h) (hd : decode c.code pc = .ok (.new index, 3)) (hc : cells + 1 ≤ R.cells) (hl : slots + nn ≤ R.slots) (hp : pc + 3 = q)
    (g : ∀ (b : Addr) T' h', Stand p l e R s m args below meth c T' locs (cells + 1) (slots + nn) → T'.heap = h' → h.size = b → Ext h h' → Exa Z h' b C → (∀ {O nm d : String} {ty : FieldType}, Laid Z a0 C O nm d → parseFieldDescriptor d = some ty → Fld Z h' b O nm d (defaultValue ty)) → Unt h' b → Go p e below K (T'.setTop (mkF m q Ls (.ref b :: S)))) : Go p e below K (T.setTop (mkF m pc Ls S)) := by
  subst hp
  obtain ⟨T', h', X', e', E, A, D, U, st⟩ := Jvm.RoadKit.newO X hx hZ hown w wi wz eT (g := mkF m pc Ls S) rfl hd hc hl
  exact Go.by st (g _ T' h' X' e' rfl E A D U)
theorem Go.newP {aty : ArrayType} {z : Int32} {ad : String} {cap : Nat} (X : Stand p l e R s m args below meth c T locs cells slots) (hx : p.tables.exec = Jvm.exec) (hZ : Z.Warmed39 s.vm) (hd : decode c.code pc = .ok (.newarray aty, 2)) (w : (Cond.arrayClass (newarray.typeOf aty)).before a0 Z = true) (eT : T.heap = h) (hn : ¬ z < 0) (hcap : z.toNatClampNeg ≤ cap) (hb : cap * 8 ≤ 536870912) (hc : cells + 1 ≤ R.cells) (hl : slots + cap ≤ R.slots) (had : "[" ++ (newarray.typeOf aty).toString = ad) (hp : pc + 2 = q)
    (g : ∀ (b : Addr) T' h' cA, Stand p l e R s m args below meth c T' locs (cells + 1) (slots + cap) → T'.heap = h' → h.size = b → Ext h h' → Arv Z h' b cA (newarray.typeOf aty) z [] (defaultValue (newarray.typeOf aty)) → Exa Z h' b ad → Go p e below K (T'.setTop (mkF m q Ls (.ref b :: S)))) : Go p e below K (T.setTop (mkF m pc Ls (.int z :: S))) := by
  subst hp
  obtain ⟨T', h', cA, X', e', E, A, B, st⟩ := Jvm.RoadKit.newPE X hx hZ w eT (g := mkF m pc Ls (.int z :: S)) rfl hd rfl hn hcap hb hc hl had
  exact Go.by st (g _ T' h' cA X' e' rfl E (Arv.new A hn) B)
theorem Go.initO (X : Stand p l e R s m args below meth c T locs cells slots) (hx : p.tables.exec = Jvm.exec) (hZ : Z.Warmed39 s.vm) (hown : s.vm.findClass own = some m.cls) (w1 : (Cond.methodLink own index Lib.objectInit).before a0 Z = true) (w2 : (Cond.instanceMethod Lib.objectInit).before a0 Z = true) (w3 : (Cond.code Lib.objectInit ⟨#[0xb1]⟩ 1 none).before a0 Z = true) (eT : T.heap = h) (hsz : Ls.size = c.maxLocals) (hd : decode c.code pc = .ok (.invokespecial index, 3)) (hf : 1 ≤ R.frames) {W : Nat} (hW : 2 * 0 + (S.map fun v => v.category).sum ≤ W) (hl : W + 12 ≤ R.locals) (hp : pc + 3 = q)
    (g : ∀ T', Stand p l e R s m args below meth c T' locs cells slots → T'.heap = h → Go p e below K (T'.setTop (mkF m q Ls S))) : Go p e below K (T.setTop (mkF m pc Ls (.ref a :: S))) := by
  subst hp
  obtain ⟨T', X', e', st⟩ := Jvm.RoadKit.initO X hx hZ hown w1 w2 w3 eT (g := mkF m pc Ls (.ref a :: S)) rfl hsz rfl hd hf hW hl
  exact Go.by st (g T' X' e')
theorem Go.castY {D : String} (X : Stand p l e R s m args below meth c T locs cells slots) (hx : p.tables.exec = Jvm.exec) (hZ : Z.Warmed39 s.vm) (hown : s.vm.findClass own = some m.cls) (w : (Cond.classLink own index D).before a0 Z = true) (eT : T.heap = h) (F : Ins Z h a D true) (hd : decode c.code pc = .ok (.checkcast index, 3)) (hp : pc + 3 = q)
    (g : ∀ T', Stand p l e R s m args below meth c T' locs cells slots → T'.heap = h → Go p e below K (T'.setTop (mkF m q Ls (.ref a :: S)))) : Go p e below K (T.setTop (mkF m pc Ls (.ref a :: S))) := by
  subst hp
  obtain ⟨T', X', e', st⟩ := Jvm.RoadKit.castY X hx hZ hown w eT F (g := mkF m pc Ls (.ref a :: S)) rfl rfl hd
  exact Go.by st (g T' X' e')
theorem Go.instY {D : String} (X : Stand p l e R s m args below meth c T locs cells slots) (hx : p.tables.exec = Jvm.exec) (hZ : Z.Warmed39 s.vm) (hown : s.vm.findClass own = some m.cls) (w : (Cond.classLink own index D).before a0 Z = true) (eT : T.heap = h) (F : Ins Z h a D true) (hd : decode c.code pc = .ok (.instanceof index, 3)) (hp : pc + 3 = q)
    (g : ∀ T', Stand p l e R s m args below meth c T' locs cells slots → T'.heap = h → Go p e below K (T'.setTop (mkF m q Ls (.int 1 :: S)))) : Go p e below K (T.setTop (mkF m pc Ls (.ref a :: S))) := by
  subst hp
  obtain ⟨T', X', e', st⟩ := Jvm.RoadKit.instY X hx hZ hown w eT F (g := mkF m pc Ls (.ref a :: S)) rfl rfl hd
  exact Go.by st (g T' X' e')
theorem Go.instNo {D : String} (X : Stand p l e R s m args below meth c T locs cells slots) (hx : p.tables.exec = Jvm.exec) (hZ : Z.Warmed39 s.vm) (hown : s.vm.findClass own = some m.cls) (w : (Cond.classLink own index D).before a0 Z = true) (eT : T.heap = h) (E : Exa Z h a C) (F : ∃ c t, Z.vm.findClass C = some c ∧ Z.vm.findClass D = some t ∧ Z.vm.assignable c t = false) (hd : decode c.code pc = .ok (.instanceof index, 3)) (hp : pc + 3 = q)
    (g : ∀ T', Stand p l e R s m args below meth c T' locs cells slots → T'.heap = h → Go p e below K (T'.setTop (mkF m q Ls (.int 0 :: S)))) : Go p e below K (T.setTop (mkF m pc Ls (.ref a :: S))) := by
  subst hp
  obtain ⟨T', X', e', st⟩ := Jvm.RoadKit.instNo X hx hZ hown w eT E F (g := mkF m pc Ls (.ref a :: S)) rfl rfl hd
  exact Go.by st (g T' X' e')
theorem Go.ldcI {z : Int32} (X : Stand p l e R s m args below meth c T locs cells slots) (hx : p.tables.exec = Jvm.exec) (hZ : Z.Warmed39 s.vm) (hown : s.vm.findClass own = some m.cls) (w : (Cond.constant own index z).before a0 Z = true) (hd : decode c.code pc = .ok (.ldc index, 2)) (hp : pc + 2 = q) (g : Go p e below K (T.setTop (mkF m q Ls (.int z :: S)))) : Go p e below K (T.setTop (mkF m pc Ls S)) := by
  subst hp
  exact Go.by (X.ldcInt hx hown (mvT hZ w) (g := mkF m pc Ls S) rfl hd) g
theorem Go.ldcwI {z : Int32} (X : Stand p l e R s m args below meth c T locs cells slots) (hx : p.tables.exec = Jvm.exec) (hZ : Z.Warmed39 s.vm) (hown : s.vm.findClass own = some m.cls) (w : (Cond.constant own index z).before a0 Z = true) (hd : decode c.code pc = .ok (.ldc_w index, 3)) (hp : pc + 3 = q) (g : Go p e below K (T.setTop (mkF m q Ls (.int z :: S)))) : Go p e below K (T.setTop (mkF m pc Ls S)) := by
  subst hp
  exact Go.by (X.ldcwInt hx hown (mvT hZ w) (g := mkF m pc Ls S) rfl hd) g
theorem Go.ldc2 {z : Int64} (X : Stand p l e R s m args below meth c T locs cells slots) (hx : p.tables.exec = Jvm.exec) (hZ : Z.Warmed39 s.vm) (hown : s.vm.findClass own = some m.cls) (w : (Cond.constantLong own index z).before a0 Z = true) (hd : decode c.code pc = .ok (.ldc2_w index, 3)) (hp : pc + 3 = q) (g : Go p e below K (T.setTop (mkF m q Ls (.long z :: S)))) : Go p e below K (T.setTop (mkF m pc Ls S)) := by
  subst hp
  exact Go.by (X.ldc2Long hx hown (mvT hZ w) (g := mkF m pc Ls S) rfl hd) g

end OwnSteps
end Jvm.RoadKit
namespace Jvm.Pilot.@@N@@
open Jvm Jvm.ClassFile Sem Op Lib Jvm.Free Jvm.Stand Jvm.LawKit Jvm.RoadKit Bundle Jvm.Pilot.@@N@@.Jvm.D
theorem wd0 {Z : State} {a0 : Array Value} (hw : ∀ d ∈ tables_1, d.before a0 Z = true) : (Jvm.Cond.fieldLink "com/example/depositum/depositum/format/ChecksumNamedPathPinLaw" (13 : Nat) "com/example/depositum/depositum/format/Checksum" "MD5" "Lcom/example/depositum/depositum/format/Checksum;").before a0 Z = true := hw _ (List.mem_of_getElem? (i := 0) rfl)
theorem wd1 {Z : State} {a0 : Array Value} (hw : ∀ d ∈ tables_1, d.before a0 Z = true) : (Jvm.Cond.initialized "com/example/depositum/depositum/format/Checksum").before a0 Z = true := hw _ (List.mem_of_getElem? (i := 1) rfl)
theorem wd2 {Z : State} {a0 : Array Value} (hw : ∀ d ∈ tables_1, d.before a0 Z = true) : (Jvm.Cond.laysStatic "com/example/depositum/depositum/format/Checksum" "MD5" "Lcom/example/depositum/depositum/format/Checksum;").before a0 Z = true := hw _ (List.mem_of_getElem? (i := 2) rfl)
theorem wd3 {Z : State} {a0 : Array Value} (hw : ∀ d ∈ tables_1, d.before a0 Z = true) : (Jvm.Cond.arrayClass Jvm.ClassFile.FieldType.byte).before a0 Z = true := hw _ (List.mem_of_getElem? (i := 3) rfl)
theorem wd4 {Z : State} {a0 : Array Value} (hw : ∀ d ∈ tables_1, d.before a0 Z = true) : (Jvm.Cond.methodLink "com/example/depositum/depositum/format/ChecksumNamedPathPinLaw" (16 : Nat) ({ cls := "com/example/depositum/depositum/format/Checksum", name := "namedPath", desc := "([B)[B" } : Jvm.MethodName)).before a0 Z = true := hw _ (List.mem_of_getElem? (i := 4) rfl)
theorem wd5 {Z : State} {a0 : Array Value} (hw : ∀ d ∈ tables_1, d.before a0 Z = true) : (Jvm.Cond.declares ({ cls := "com/example/depositum/depositum/format/Checksum", name := "namedPath", desc := "([B)[B" } : Jvm.MethodName)).before a0 Z = true := hw _ (List.mem_of_getElem? (i := 5) rfl)
theorem wd6 {Z : State} {a0 : Array Value} (hw : ∀ d ∈ tables_1, d.before a0 Z = true) : (Jvm.Cond.instanceMethod ({ cls := "com/example/depositum/depositum/format/Checksum", name := "namedPath", desc := "([B)[B" } : Jvm.MethodName)).before a0 Z = true := hw _ (List.mem_of_getElem? (i := 6) rfl)
theorem wd7 {Z : State} {a0 : Array Value} (hw : ∀ d ∈ tables_1, d.before a0 Z = true) : (Jvm.Cond.selects "com/example/depositum/depositum/format/Checksum" ({ cls := "com/example/depositum/depositum/format/Checksum", name := "namedPath", desc := "([B)[B" } : Jvm.MethodName) ({ cls := "com/example/depositum/depositum/format/Checksum", name := "namedPath", desc := "([B)[B" } : Jvm.MethodName)).before a0 Z = true := hw _ (List.mem_of_getElem? (i := 7) rfl)
theorem wd8 {Z : State} {a0 : Array Value} (hw : ∀ d ∈ tables_1, d.before a0 Z = true) : (Jvm.Cond.code ({ cls := "com/example/depositum/depositum/format/Checksum", name := "namedPath", desc := "([B)[B" } : Jvm.MethodName) prog_36_method_7_code (2 : Nat) (Option.some (Jvm.ClassFile.FieldType.array Jvm.ClassFile.FieldType.byte))).before a0 Z = true := hw _ (List.mem_of_getElem? (i := 8) rfl)
theorem wd9 {Z : State} {a0 : Array Value} (hw : ∀ d ∈ tables_1, d.before a0 Z = true) : (Jvm.Cond.fieldLink "com/example/depositum/depositum/format/Checksum" (57 : Nat) "com/example/depositum/depositum/format/Checksum" "ending" "[B").before a0 Z = true := hw _ (List.mem_of_getElem? (i := 9) rfl)
theorem wd11 {Z : State} {a0 : Array Value} (hw : ∀ d ∈ tables_1, d.before a0 Z = true) : (Jvm.Cond.methodLink "com/example/depositum/depositum/format/Checksum" (77 : Nat) ({ cls := "java/util/Arrays", name := "copyOf", desc := "([BI)[B" } : Jvm.MethodName)).before a0 Z = true := hw _ (List.mem_of_getElem? (i := 11) rfl)
theorem wd12 {Z : State} {a0 : Array Value} (hw : ∀ d ∈ tables_1, d.before a0 Z = true) : (Jvm.Cond.static ({ cls := "java/util/Arrays", name := "copyOf", desc := "([BI)[B" } : Jvm.MethodName)).before a0 Z = true := hw _ (List.mem_of_getElem? (i := 12) rfl)
theorem wd13 {Z : State} {a0 : Array Value} (hw : ∀ d ∈ tables_1, d.before a0 Z = true) : (Jvm.Cond.initialized "java/util/Arrays").before a0 Z = true := hw _ (List.mem_of_getElem? (i := 13) rfl)
theorem wd14 {Z : State} {a0 : Array Value} (hw : ∀ d ∈ tables_1, d.before a0 Z = true) : (Jvm.Cond.code ({ cls := "java/util/Arrays", name := "copyOf", desc := "([BI)[B" } : Jvm.MethodName) jdk_65_method_121_code (3 : Nat) (Option.some (Jvm.ClassFile.FieldType.array Jvm.ClassFile.FieldType.byte))).before a0 Z = true := hw _ (List.mem_of_getElem? (i := 14) rfl)
theorem wd15 {Z : State} {a0 : Array Value} (hw : ∀ d ∈ tables_1, d.before a0 Z = true) : (Jvm.Cond.methodLink "java/util/Arrays" (304 : Nat) ({ cls := "java/lang/Math", name := "min", desc := "(II)I" } : Jvm.MethodName)).before a0 Z = true := hw _ (List.mem_of_getElem? (i := 15) rfl)
theorem wd16 {Z : State} {a0 : Array Value} (hw : ∀ d ∈ tables_1, d.before a0 Z = true) : (Jvm.Cond.static ({ cls := "java/lang/Math", name := "min", desc := "(II)I" } : Jvm.MethodName)).before a0 Z = true := hw _ (List.mem_of_getElem? (i := 16) rfl)
theorem wd17 {Z : State} {a0 : Array Value} (hw : ∀ d ∈ tables_1, d.before a0 Z = true) : (Jvm.Cond.initialized "java/lang/Math").before a0 Z = true := hw _ (List.mem_of_getElem? (i := 17) rfl)
theorem wd18 {Z : State} {a0 : Array Value} (hw : ∀ d ∈ tables_1, d.before a0 Z = true) : (Jvm.Cond.code ({ cls := "java/lang/Math", name := "min", desc := "(II)I" } : Jvm.MethodName) jdk_29_method_69_code (2 : Nat) (Option.some Jvm.ClassFile.FieldType.int)).before a0 Z = true := hw _ (List.mem_of_getElem? (i := 18) rfl)
theorem wd19 {Z : State} {a0 : Array Value} (hw : ∀ d ∈ tables_1, d.before a0 Z = true) : (Jvm.Cond.methodLink "java/util/Arrays" (150 : Nat) ({ cls := "java/lang/System", name := "arraycopy", desc := "(Ljava/lang/Object;ILjava/lang/Object;II)V" } : Jvm.MethodName)).before a0 Z = true := hw _ (List.mem_of_getElem? (i := 19) rfl)
theorem wd20 {Z : State} {a0 : Array Value} (hw : ∀ d ∈ tables_1, d.before a0 Z = true) : (Jvm.Cond.static ({ cls := "java/lang/System", name := "arraycopy", desc := "(Ljava/lang/Object;ILjava/lang/Object;II)V" } : Jvm.MethodName)).before a0 Z = true := hw _ (List.mem_of_getElem? (i := 20) rfl)
theorem wd21 {Z : State} {a0 : Array Value} (hw : ∀ d ∈ tables_1, d.before a0 Z = true) : (Jvm.Cond.initialized "java/lang/System").before a0 Z = true := hw _ (List.mem_of_getElem? (i := 21) rfl)
theorem wd22 {Z : State} {a0 : Array Value} (hw : ∀ d ∈ tables_1, d.before a0 Z = true) : (Jvm.Cond.native ({ cls := "java/lang/System", name := "arraycopy", desc := "(Ljava/lang/Object;ILjava/lang/Object;II)V" } : Jvm.MethodName)).before a0 Z = true := hw _ (List.mem_of_getElem? (i := 22) rfl)
theorem wd23 {Z : State} {a0 : Array Value} (hw : ∀ d ∈ tables_1, d.before a0 Z = true) : (Jvm.Cond.fieldLink "com/example/depositum/depositum/format/ChecksumNamedPathPinLaw" (7 : Nat) "com/example/depositum/depositum/format/Checksum" "SHA1" "Lcom/example/depositum/depositum/format/Checksum;").before a0 Z = true := hw _ (List.mem_of_getElem? (i := 23) rfl)
theorem wd24 {Z : State} {a0 : Array Value} (hw : ∀ d ∈ tables_1, d.before a0 Z = true) : (Jvm.Cond.laysStatic "com/example/depositum/depositum/format/Checksum" "SHA1" "Lcom/example/depositum/depositum/format/Checksum;").before a0 Z = true := hw _ (List.mem_of_getElem? (i := 24) rfl)
theorem d1_0 : decode prog_36_method_7_code 0 = .ok (.aload_n 1, 1) := by decide +kernel
theorem d1_1 : decode prog_36_method_7_code 1 = .ok (.aload_n 1, 1) := by decide +kernel
theorem d1_2 : decode prog_36_method_7_code 2 = .ok (.arraylength, 1) := by decide +kernel
theorem d1_3 : decode prog_36_method_7_code 3 = .ok (.aload_n 0, 1) := by decide +kernel
theorem d1_4 : decode prog_36_method_7_code 4 = .ok (.getfield 57, 3) := by decide +kernel
theorem d1_7 : decode prog_36_method_7_code 7 = .ok (.arraylength, 1) := by decide +kernel
theorem d1_8 : decode prog_36_method_7_code 8 = .ok (.isub, 1) := by decide +kernel
theorem d1_9 : decode prog_36_method_7_code 9 = .ok (.invokestatic 77, 3) := by decide +kernel
theorem d1_12 : decode prog_36_method_7_code 12 = .ok (.areturn, 1) := by decide +kernel
theorem d2_0 : decode jdk_65_method_121_code 0 = .ok (.iload_n 1, 1) := by decide +kernel
theorem d2_1 : decode jdk_65_method_121_code 1 = .ok (.aload_n 0, 1) := by decide +kernel
theorem d2_2 : decode jdk_65_method_121_code 2 = .ok (.arraylength, 1) := by decide +kernel
theorem d2_3 : decode jdk_65_method_121_code 3 = .ok (.if_icmp .ne 11, 3) := by decide +kernel
theorem d2_14 : decode jdk_65_method_121_code 14 = .ok (.iload_n 1, 1) := by decide +kernel
theorem d2_15 : decode jdk_65_method_121_code 15 = .ok (.newarray .byte, 2) := by decide +kernel
theorem d2_17 : decode jdk_65_method_121_code 17 = .ok (.astore_n 2, 1) := by decide +kernel
theorem d2_18 : decode jdk_65_method_121_code 18 = .ok (.aload_n 0, 1) := by decide +kernel
theorem d2_19 : decode jdk_65_method_121_code 19 = .ok (.iconst 0, 1) := by decide +kernel
theorem d2_20 : decode jdk_65_method_121_code 20 = .ok (.aload_n 2, 1) := by decide +kernel
theorem d2_21 : decode jdk_65_method_121_code 21 = .ok (.iconst 0, 1) := by decide +kernel
theorem d2_22 : decode jdk_65_method_121_code 22 = .ok (.aload_n 0, 1) := by decide +kernel
theorem d2_23 : decode jdk_65_method_121_code 23 = .ok (.arraylength, 1) := by decide +kernel
theorem d2_24 : decode jdk_65_method_121_code 24 = .ok (.iload_n 1, 1) := by decide +kernel
theorem d2_25 : decode jdk_65_method_121_code 25 = .ok (.invokestatic 304, 3) := by decide +kernel
theorem d2_28 : decode jdk_65_method_121_code 28 = .ok (.invokestatic 150, 3) := by decide +kernel
theorem d2_31 : decode jdk_65_method_121_code 31 = .ok (.aload_n 2, 1) := by decide +kernel
theorem d2_32 : decode jdk_65_method_121_code 32 = .ok (.areturn, 1) := by decide +kernel
theorem d3_0 : decode jdk_29_method_69_code 0 = .ok (.iload_n 0, 1) := by decide +kernel
theorem d3_1 : decode jdk_29_method_69_code 1 = .ok (.iload_n 1, 1) := by decide +kernel
theorem d3_2 : decode jdk_29_method_69_code 2 = .ok (.if_icmp .gt 7, 3) := by decide +kernel
theorem d3_5 : decode jdk_29_method_69_code 5 = .ok (.iload_n 0, 1) := by decide +kernel
theorem d3_6 : decode jdk_29_method_69_code 6 = .ok (.goto 4, 3) := by decide +kernel
theorem d3_9 : decode jdk_29_method_69_code 9 = .ok (.iload_n 1, 1) := by decide +kernel
theorem d3_10 : decode jdk_29_method_69_code 10 = .ok (.ireturn, 1) := by decide +kernel
theorem pd0 : parseMethodDescriptor "(II)I" = some ⟨[.int, .int], some .int⟩ := by decide +kernel
theorem pd1 : parseMethodDescriptor "([BI)[B" = some ⟨[(.array .byte), .int], some (.array .byte)⟩ := by decide +kernel
theorem pd2 : parseMethodDescriptor "([B)[B" = some ⟨[(.array .byte)], some (.array .byte)⟩ := by decide +kernel
theorem pn0 : plainName "java/util/Arrays" = true := by first | (simp [plainName, overriddenIn]; done) | decide +kernel
theorem pn1 : plainName "com/example/depositum/depositum/format/Checksum" = true := by first | (simp [plainName, overriddenIn]; done) | decide +kernel
theorem pn2 : plainName "com/example/depositum/depositum/format/ChecksumNamedPathPinLaw" = true := by first | (simp [plainName, overriddenIn]; done) | decide +kernel
theorem ef_cmin1 (m : MethodId) (x0 : Int32) (x1 : Int32) : entryFrame m #[(.int x0), (.int x1)] 2 = mkF m 0 #[.val (.int x0), .val (.int x1)] [] := by first | (simp [entryFrame, mkF, argsToLocals, Value.category, maxLocals]; done) | rfl
theorem ef_cmin2 (m : MethodId) (x0 : Int32) (x1 : Int32) : entryFrame m #[(.int x0), (.int x1)] 2 = mkF m 0 #[.val (.int x0), .val (.int x1)] [] := by first | (simp [entryFrame, mkF, argsToLocals, Value.category, maxLocals]; done) | rfl
theorem ef_ccpy_4_0 (m : MethodId) (x0 : Addr) : entryFrame m #[(.ref x0), (.int (0 : Int32))] 3 = mkF m 0 #[.val (.ref x0), .val (.int (0 : Int32)), .unset] [] := by first | (simp [entryFrame, mkF, argsToLocals, Value.category, maxLocals]; done) | rfl
theorem ef_cnp_4_0 (m : MethodId) (x0 : Addr) (x1 : Addr) : entryFrame m #[(.ref x0), (.ref x1)] 2 = mkF m 0 #[.val (.ref x0), .val (.ref x1)] [] := by first | (simp [entryFrame, mkF, argsToLocals, Value.category, maxLocals]; done) | rfl
theorem ef_ccpy_5_1 (m : MethodId) (x0 : Addr) : entryFrame m #[(.ref x0), (.int (1 : Int32))] 3 = mkF m 0 #[.val (.ref x0), .val (.int (1 : Int32)), .unset] [] := by first | (simp [entryFrame, mkF, argsToLocals, Value.category, maxLocals]; done) | rfl
theorem ef_cnp_4_1 (m : MethodId) (x0 : Addr) (x1 : Addr) : entryFrame m #[(.ref x0), (.ref x1)] 2 = mkF m 0 #[.val (.ref x0), .val (.ref x1)] [] := by first | (simp [entryFrame, mkF, argsToLocals, Value.category, maxLocals]; done) | rfl
theorem ef_ccpy_6_2 (m : MethodId) (x0 : Addr) : entryFrame m #[(.ref x0), (.int (2 : Int32))] 3 = mkF m 0 #[.val (.ref x0), .val (.int (2 : Int32)), .unset] [] := by first | (simp [entryFrame, mkF, argsToLocals, Value.category, maxLocals]; done) | rfl
theorem ef_cnp_4_2 (m : MethodId) (x0 : Addr) (x1 : Addr) : entryFrame m #[(.ref x0), (.ref x1)] 2 = mkF m 0 #[.val (.ref x0), .val (.ref x1)] [] := by first | (simp [entryFrame, mkF, argsToLocals, Value.category, maxLocals]; done) | rfl
theorem ef_ccpy_7_3 (m : MethodId) (x0 : Addr) : entryFrame m #[(.ref x0), (.int (3 : Int32))] 3 = mkF m 0 #[.val (.ref x0), .val (.int (3 : Int32)), .unset] [] := by first | (simp [entryFrame, mkF, argsToLocals, Value.category, maxLocals]; done) | rfl
theorem ef_cnp_4_3 (m : MethodId) (x0 : Addr) (x1 : Addr) : entryFrame m #[(.ref x0), (.ref x1)] 2 = mkF m 0 #[.val (.ref x0), .val (.ref x1)] [] := by first | (simp [entryFrame, mkF, argsToLocals, Value.category, maxLocals]; done) | rfl
theorem ef_ccpy_5_0 (m : MethodId) (x0 : Addr) : entryFrame m #[(.ref x0), (.int (0 : Int32))] 3 = mkF m 0 #[.val (.ref x0), .val (.int (0 : Int32)), .unset] [] := by first | (simp [entryFrame, mkF, argsToLocals, Value.category, maxLocals]; done) | rfl
theorem ef_cnp_5_0 (m : MethodId) (x0 : Addr) (x1 : Addr) : entryFrame m #[(.ref x0), (.ref x1)] 2 = mkF m 0 #[.val (.ref x0), .val (.ref x1)] [] := by first | (simp [entryFrame, mkF, argsToLocals, Value.category, maxLocals]; done) | rfl
theorem ef_ccpy_6_1 (m : MethodId) (x0 : Addr) : entryFrame m #[(.ref x0), (.int (1 : Int32))] 3 = mkF m 0 #[.val (.ref x0), .val (.int (1 : Int32)), .unset] [] := by first | (simp [entryFrame, mkF, argsToLocals, Value.category, maxLocals]; done) | rfl
theorem ef_cnp_5_1 (m : MethodId) (x0 : Addr) (x1 : Addr) : entryFrame m #[(.ref x0), (.ref x1)] 2 = mkF m 0 #[.val (.ref x0), .val (.ref x1)] [] := by first | (simp [entryFrame, mkF, argsToLocals, Value.category, maxLocals]; done) | rfl
theorem ef_ccpy_7_2 (m : MethodId) (x0 : Addr) : entryFrame m #[(.ref x0), (.int (2 : Int32))] 3 = mkF m 0 #[.val (.ref x0), .val (.int (2 : Int32)), .unset] [] := by first | (simp [entryFrame, mkF, argsToLocals, Value.category, maxLocals]; done) | rfl
theorem ef_cnp_5_2 (m : MethodId) (x0 : Addr) (x1 : Addr) : entryFrame m #[(.ref x0), (.ref x1)] 2 = mkF m 0 #[.val (.ref x0), .val (.ref x1)] [] := by first | (simp [entryFrame, mkF, argsToLocals, Value.category, maxLocals]; done) | rfl
theorem ef_ccpy_8_3 (m : MethodId) (x0 : Addr) : entryFrame m #[(.ref x0), (.int (3 : Int32))] 3 = mkF m 0 #[.val (.ref x0), .val (.int (3 : Int32)), .unset] [] := by first | (simp [entryFrame, mkF, argsToLocals, Value.category, maxLocals]; done) | rfl
theorem ef_cnp_5_3 (m : MethodId) (x0 : Addr) (x1 : Addr) : entryFrame m #[(.ref x0), (.ref x1)] 2 = mkF m 0 #[.val (.ref x0), .val (.ref x1)] [] := by first | (simp [entryFrame, mkF, argsToLocals, Value.category, maxLocals]; done) | rfl
theorem ef_law0 (m : MethodId) (x0 : Int32) (x1 : Int32) (x2 : Int32) (x3 : Int32) : entryFrame m #[(.int x0), (.int x1), (.int x2), (.int x3)] maxLocals = mkF m 0 #[.val (.int x0), .val (.int x1), .val (.int x2), .val (.int x3), .unset, .unset, .unset, .unset, .unset, .unset, .unset, .unset, .unset] [] := by first | (simp [entryFrame, mkF, argsToLocals, Value.category, maxLocals]; done) | rfl
theorem own_and3 (x : Int32) : x &&& (3 : Int32) = 0 ∨ x &&& (3 : Int32) = 1 ∨ x &&& (3 : Int32) = 2 ∨ x &&& (3 : Int32) = 3 := by
  have h := c_and x 3 (by decide)
  have e0 : (0 : Int32).toInt = 0 := rfl
  have e1 : (1 : Int32).toInt = 1 := rfl
  have e2 : (2 : Int32).toInt = 2 := rfl
  have e3 : (3 : Int32).toInt = 3 := rfl
  simp only [← Int32.toInt_inj]
  omega
def Q_cmin1 (Z : State) (pa : Int32) (pb : Int32) (h0 : Heap) (vR : Option Value) (hR : Heap) (LR : List Loc) : Prop := vR = some (.int pa) ∧ Fr Z.heap.size LR ∧ hR = h0
set_option maxRecDepth 65536 in
set_option maxHeartbeats 40000000 in
theorem cmin1 (l : Launch) (Z : State) (a0 : Array Value) (hw : ∀ d ∈ tables_1, d.before a0 Z = true) (pa : Int32) (pb : Int32) (h0 : Heap) (O0 : Ext Z.heap h0) (h : ¬ (pb < pa)) :
    Ctr l Z h0 (⟨"java/lang/Math", "min", "(II)I"⟩ : MethodName) jdk_29_method_69_code 2 (some .int) [] ({ frames := 0, cells := 0, slots := 0, locals := 0 } : Room) #[(.int pa), (.int pb)] (Q_cmin1 Z pa pb h0) := by
  refine enter (Jvm.Free.JP.mathPlain rfl (by decide +kernel)) ?_
  intro pp ee ss mm below meth cc s₁ hx hby hml hZ hown hnm hret hlk X0 e0 hs0
  replace hown : ss.vm.findClass "java/lang/Math" = some mm.cls := hown
  refine Go.cast (congrArg s₁.setTop (ef_cmin1 mm pa pb)) ?_
  have N0 := Fr.nil Z.heap.size
  show Go pp ee below _ (s₁.setTop (mkF mm 0 #[.val (.int pa), .val (.int pb)] []))
  refine Go.iloadN X0 hx (hb hby d3_0) rfl (q := 1) rfl ?_
  refine Go.iloadN X0 hx (hb hby d3_1) rfl (q := 2) rfl ?_
  refine Go.icmpNo X0 hx (hb hby d3_2) (Jvm.Free.XT.ii_gt_f h) (q := 5) rfl ?_
  refine Go.iloadN X0 hx (hb hby d3_5) rfl (q := 6) rfl ?_
  refine Go.goto X0 hx (hb hby d3_6) (q := 10) (by decide) (by decide) ?_
  exact Go.retI X0 hx hret hlk (Or.inl rfl) rfl (hb hby d3_10) e0 (by decide) (by decide) ⟨rfl, N0, rfl⟩
def Q_cmin2 (Z : State) (pa : Int32) (pb : Int32) (h0 : Heap) (vR : Option Value) (hR : Heap) (LR : List Loc) : Prop := vR = some (.int pb) ∧ Fr Z.heap.size LR ∧ hR = h0
set_option maxRecDepth 65536 in
set_option maxHeartbeats 40000000 in
theorem cmin2 (l : Launch) (Z : State) (a0 : Array Value) (hw : ∀ d ∈ tables_1, d.before a0 Z = true) (pa : Int32) (pb : Int32) (h0 : Heap) (O0 : Ext Z.heap h0) (h : pb < pa) :
    Ctr l Z h0 (⟨"java/lang/Math", "min", "(II)I"⟩ : MethodName) jdk_29_method_69_code 2 (some .int) [] ({ frames := 0, cells := 0, slots := 0, locals := 0 } : Room) #[(.int pa), (.int pb)] (Q_cmin2 Z pa pb h0) := by
  refine enter (Jvm.Free.JP.mathPlain rfl (by decide +kernel)) ?_
  intro pp ee ss mm below meth cc s₁ hx hby hml hZ hown hnm hret hlk X0 e0 hs0
  replace hown : ss.vm.findClass "java/lang/Math" = some mm.cls := hown
  refine Go.cast (congrArg s₁.setTop (ef_cmin2 mm pa pb)) ?_
  have N0 := Fr.nil Z.heap.size
  show Go pp ee below _ (s₁.setTop (mkF mm 0 #[.val (.int pa), .val (.int pb)] []))
  refine Go.iloadN X0 hx (hb hby d3_0) rfl (q := 1) rfl ?_
  refine Go.iloadN X0 hx (hb hby d3_1) rfl (q := 2) rfl ?_
  refine Go.icmpYes X0 hx (hb hby d3_2) (Jvm.Free.XT.ii_gt_t h) (q := 9) (by decide) (by decide) ?_
  refine Go.iloadN X0 hx (hb hby d3_9) rfl (q := 10) rfl ?_
  exact Go.retI X0 hx hret hlk (Or.inl rfl) rfl (hb hby d3_10) e0 (by decide) (by decide) ⟨rfl, N0, rfl⟩
def Q_ccpy_4_0 (Z : State) (a : Addr) (ka : ClassId) (x0 : Int32) (x1 : Int32) (x2 : Int32) (x3 : Int32) (h0 : Heap) (vR : Option Value) (hR : Heap) (LR : List Loc) : Prop := ∃ b : Addr, ∃ kb : ClassId, vR = some (.ref b) ∧ Fr Z.heap.size LR ∧ Keep h0 hR [] ∧ h0.size ≤ b ∧ Arv Z hR b kb .byte (0 : Int32) [] (.int (0 : Int32))
set_option maxRecDepth 65536 in
set_option maxHeartbeats 40000000 in
theorem ccpy_4_0 (l : Launch) (Z : State) (a0 : Array Value) (hw : ∀ d ∈ tables_1, d.before a0 Z = true) (a : Addr) (ka : ClassId) (x0 : Int32) (x1 : Int32) (x2 : Int32) (x3 : Int32) (h0 : Heap) (O0 : Ext Z.heap h0) (Va : Arv Z h0 a ka .byte (4 : Int32) [(.int x0), (.int x1), (.int x2), (.int x3)] (.int (0 : Int32))) :
    Ctr l Z h0 (⟨"java/util/Arrays", "copyOf", "([BI)[B"⟩ : MethodName) jdk_65_method_121_code 3 (some (.array .byte)) [] ({ frames := 1, cells := 1, slots := 0, locals := 18 } : Room) #[(.ref a), (.int (0 : Int32))] (Q_ccpy_4_0 Z a ka x0 x1 x2 x3 h0) := by
  refine enter (plainFor_of_name pn0) ?_
  intro pp ee ss mm below meth cc s₁ hx hby hml hZ hown hnm hret hlk X0 e0 hs0
  replace hown : ss.vm.findClass "java/util/Arrays" = some mm.cls := hown
  refine Go.cast (congrArg s₁.setTop (ef_ccpy_4_0 mm a)) ?_
  have N0 := Fr.nil Z.heap.size
  have KP := Keep.refl h0 []
  show Go pp ee below _ (s₁.setTop (mkF mm 0 #[.val (.ref a), .val (.int (0 : Int32)), .unset] []))
  refine Go.iloadN X0 hx (hb hby d2_0) rfl (q := 1) rfl ?_
  refine Go.aloadN X0 hx (hb hby d2_1) rfl rfl (q := 2) rfl ?_
  refine Go.alen X0 hx hZ e0 Va (hb hby d2_2) ?_
  refine Go.icmpYes X0 hx (hb hby d2_3) (by decide) (q := 14) (by decide) (by decide) ?_
  refine Go.iloadN X0 hx (hb hby d2_14) rfl (q := 15) rfl ?_
  refine Go.newP X0 hx hZ (hb hby d2_15) (wd3 hw) e0 (by decide) (cap := 0) (by decide) (by decide) (by decide) (by decide) (ad := "[B") rfl (q := 17) rfl ?_
  intro b101 T101 h101 k101 X101 e101 q101 E101 V101 B101
  have ne_a_b101 : a ≠ b101 := ne_new Va.lt (Nat.le_of_eq q101)
  have g_b101 : Z.heap.size ≤ b101 := Nat.le_trans O0.1 (Nat.le_of_eq q101)
  have z_b101 : h0.size ≤ b101 := Nat.le_trans KP.1 (Nat.le_of_eq q101)
  replace Va := Va.ext E101
  have OE101 := ext_trans O0 E101
  replace KP := KP.ext E101
  replace V101 : Arv Z h101 b101 k101 .byte (0 : Int32) [] (.int (0 : Int32)) := V101
  refine Go.astoreN X101 hx (hb hby d2_17) rfl (l' := #[.val (.ref a), .val (.int (0 : Int32)), .val (.ref b101)]) rfl (q := 18) rfl ?_
  refine Go.aloadN X101 hx (hb hby d2_18) rfl rfl (q := 19) rfl ?_
  refine Go.iconst X101 hx (hb hby d2_19) (r := (0 : Int32)) rfl (q := 20) rfl ?_
  refine Go.aloadN X101 hx (hb hby d2_20) rfl rfl (q := 21) rfl ?_
  refine Go.iconst X101 hx (hb hby d2_21) (r := (0 : Int32)) rfl (q := 22) rfl ?_
  refine Go.aloadN X101 hx (hb hby d2_22) rfl rfl (q := 23) rfl ?_
  refine Go.alen X101 hx hZ e101 Va (hb hby d2_23) ?_
  refine Go.iloadN X101 hx (hb hby d2_24) rfl (q := 25) rfl ?_
  refine Go.callS X101 hx hZ hown (wd15 hw) (wd16 hw) (wd17 hw) (wd18 hw) (by decide) (cmin2 l Z a0 hw ((4 : Int32)) ((0 : Int32)) h101 OE101 (by decide)) e101 (by rw [hml]; rfl) (hb hby d2_25) (argsL := [(.int (4 : Int32)), (.int (0 : Int32))]) (rest := [(.int (0 : Int32)), (.ref b101), (.int (0 : Int32)), (.ref a)]) (lenOf pd0 rfl) rfl rfl (W := 4) (by first | exact Nat.le_refl _ | decide) (by decide) (by decide) (by decide) (by decide) ?_
  intro v102 T102 L102 X102 hQ102
  obtain ⟨rfl, N102q, e102⟩ := hQ102
  have N102 := Fr.app N0 N102q
  obtain ⟨T103, h103, L103, X103, e103, N103, K103, V103, st103⟩ := cpA X102 hx hZ hown (wd19 hw) (wd22 hw) (wd20 hw) (wd21 hw) e102 Va V101 (us := []) (sp := (0 : Int32)) (dp := (0 : Int32)) (nn := (0 : Int32)) (Or.inl ⟨rfl, rfl⟩) (by decide) (by decide) (by decide) (by decide) (by decide) rfl (Nat.le_of_ble_eq_true rfl) N102 g_b101 (g := (mkF mm 28 #[.val (.ref a), .val (.int (0 : Int32)), .val (.ref b101)] [(.int (0 : Int32)), (.int (0 : Int32)), (.ref b101), (.int (0 : Int32)), (.ref a)])) rfl (by rw [hml]; rfl) rfl (hb hby d2_28) (by decide) (W := 0) (by show 2 * 0 + _ ≤ _; exact Nat.le_of_eq rfl) (by decide)
  refine Go.by st103 ?_
  replace Va := Va.keep K103 (ninS ne_a_b101 nin0)
  replace B101 := B101.keep K103
  have OK103 := ext_keep OE101 K103 (allS g_b101 all0)
  replace KP := KP.trans K103 (allS (Or.inr z_b101) all0)
  replace V103 : Arv Z h103 b101 k101 .byte (0 : Int32) [] (.int (0 : Int32)) := V103
  show Go pp ee below _ (T103.setTop (mkF mm 31 #[.val (.ref a), .val (.int (0 : Int32)), .val (.ref b101)] []))
  refine Go.aloadN X103 hx (hb hby d2_31) rfl rfl (q := 32) rfl ?_
  exact Go.retA X103 hx hret hlk rfl rfl (hb hby d2_32) e103 (by decide) (by decide) ⟨b101, k101, rfl, N103, KP, z_b101, V103⟩
def Q_cnp_4_0 (Z : State) (o : Addr) (q : Addr) (a : Addr) (ka : ClassId) (x0 : Int32) (x1 : Int32) (x2 : Int32) (x3 : Int32) (h0 : Heap) (vR : Option Value) (hR : Heap) (LR : List Loc) : Prop := ∃ b : Addr, ∃ kb : ClassId, vR = some (.ref b) ∧ Fr Z.heap.size LR ∧ Keep h0 hR [] ∧ h0.size ≤ b ∧ Arv Z hR b kb .byte (0 : Int32) [] (.int (0 : Int32))
set_option maxRecDepth 65536 in
set_option maxHeartbeats 40000000 in
theorem cnp_4_0 (l : Launch) (Z : State) (a0 : Array Value) (hw : ∀ d ∈ tables_1, d.before a0 Z = true) (o : Addr) (q : Addr) (a : Addr) (ka : ClassId) (x0 : Int32) (x1 : Int32) (x2 : Int32) (x3 : Int32) (h0 : Heap) (O0 : Ext Z.heap h0) (Va : Arv Z h0 a ka .byte (4 : Int32) [(.int x0), (.int x1), (.int x2), (.int x3)] (.int (0 : Int32))) (Fe : Fld Z Z.heap o "com/example/depositum/depositum/format/Checksum" "ending" "[B" (.ref q)) (Le : Lng Z Z.heap q (4 : Int32)) :
    Ctr l Z h0 (⟨"com/example/depositum/depositum/format/Checksum", "namedPath", "([B)[B"⟩ : MethodName) prog_36_method_7_code 2 (some (.array .byte)) [] ({ frames := 2, cells := 1, slots := 0, locals := 32 } : Room) #[(.ref o), (.ref a)] (Q_cnp_4_0 Z o q a ka x0 x1 x2 x3 h0) := by
  refine enter (plainFor_of_name pn1) ?_
  intro pp ee ss mm below meth cc s₁ hx hby hml hZ hown hnm hret hlk X0 e0 hs0
  replace hown : ss.vm.findClass "com/example/depositum/depositum/format/Checksum" = some mm.cls := hown
  refine Go.cast (congrArg s₁.setTop (ef_cnp_4_0 mm o a)) ?_
  have N0 := Fr.nil Z.heap.size
  have KP := Keep.refl h0 []
  show Go pp ee below _ (s₁.setTop (mkF mm 0 #[.val (.ref o), .val (.ref a)] []))
  refine Go.aloadN X0 hx (hb hby d1_0) rfl rfl (q := 1) rfl ?_
  refine Go.aloadN X0 hx (hb hby d1_1) rfl rfl (q := 2) rfl ?_
  refine Go.alen X0 hx hZ e0 Va (hb hby d1_2) ?_
  refine Go.aloadN X0 hx (hb hby d1_3) rfl rfl (q := 4) rfl ?_
  refine Go.getF X0 hx hZ hown (host := "") (Or.inl (wd9 hw)) Via.refl e0 (Fe.ext O0) (hb hby d1_4) (q := 7) rfl ?_
  intro T101 X101 e101
  refine Go.aln X101 hx hZ e101 (Le.ext O0) (hb hby d1_7) ?_
  refine Go.isub X101 hx (hb hby d1_8) (r := (0 : Int32)) rfl (q := 9) rfl ?_
  refine Go.callS X101 hx hZ hown (wd11 hw) (wd12 hw) (wd13 hw) (wd14 hw) (by decide) (ccpy_4_0 l Z a0 hw a (ka) x0 x1 x2 x3 h0 O0 Va) e101 (by rw [hml]; rfl) (hb hby d1_9) (argsL := [(.ref a), (.int (0 : Int32))]) (rest := []) (lenOf pd1 rfl) rfl rfl (W := 0) (by first | exact Nat.le_refl _ | decide) (by decide) (by decide) (by decide) (by decide) ?_
  intro v102 T102 L102 X102 hQ102
  obtain ⟨h102, e102⟩ : ∃ z, T102.heap = z := ⟨_, rfl⟩
  rw [e102] at hQ102
  obtain ⟨b_102, kb_102, rfl, N102q, K102, fr102_b, P102_0⟩ := hQ102
  have N102 := Fr.app N0 N102q
  have ne_a_b_102 : a ≠ b_102 := ne_new Va.lt fr102_b
  have ne_o_b_102 : o ≠ b_102 := ne_new (Fe.ext O0).lt fr102_b
  have g_b_102 : Z.heap.size ≤ b_102 := Nat.le_trans O0.1 fr102_b
  have z_b_102 : h0.size ≤ b_102 := Nat.le_trans KP.1 fr102_b
  replace Va := Va.keep K102 nin0
  have OK102 := ext_keep O0 K102 all0
  replace KP := KP.trans K102 all0
  exact Go.retA X102 hx hret hlk rfl rfl (hb hby d1_12) e102 (by decide) (by decide) ⟨b_102, kb_102, rfl, N102, KP, z_b_102, P102_0⟩
def Q_ccpy_5_1 (Z : State) (a : Addr) (ka : ClassId) (x0 : Int32) (x1 : Int32) (x2 : Int32) (x3 : Int32) (x4 : Int32) (h0 : Heap) (vR : Option Value) (hR : Heap) (LR : List Loc) : Prop := ∃ b : Addr, ∃ kb : ClassId, vR = some (.ref b) ∧ Fr Z.heap.size LR ∧ Keep h0 hR [] ∧ h0.size ≤ b ∧ Arv Z hR b kb .byte (1 : Int32) [(.int x0)] (.int (0 : Int32))
set_option maxRecDepth 65536 in
set_option maxHeartbeats 40000000 in
theorem ccpy_5_1 (l : Launch) (Z : State) (a0 : Array Value) (hw : ∀ d ∈ tables_1, d.before a0 Z = true) (a : Addr) (ka : ClassId) (x0 : Int32) (x1 : Int32) (x2 : Int32) (x3 : Int32) (x4 : Int32) (h0 : Heap) (O0 : Ext Z.heap h0) (Va : Arv Z h0 a ka .byte (5 : Int32) [(.int x0), (.int x1), (.int x2), (.int x3), (.int x4)] (.int (0 : Int32))) :
    Ctr l Z h0 (⟨"java/util/Arrays", "copyOf", "([BI)[B"⟩ : MethodName) jdk_65_method_121_code 3 (some (.array .byte)) [] ({ frames := 1, cells := 1, slots := 1, locals := 18 } : Room) #[(.ref a), (.int (1 : Int32))] (Q_ccpy_5_1 Z a ka x0 x1 x2 x3 x4 h0) := by
  refine enter (plainFor_of_name pn0) ?_
  intro pp ee ss mm below meth cc s₁ hx hby hml hZ hown hnm hret hlk X0 e0 hs0
  replace hown : ss.vm.findClass "java/util/Arrays" = some mm.cls := hown
  refine Go.cast (congrArg s₁.setTop (ef_ccpy_5_1 mm a)) ?_
  have N0 := Fr.nil Z.heap.size
  have KP := Keep.refl h0 []
  show Go pp ee below _ (s₁.setTop (mkF mm 0 #[.val (.ref a), .val (.int (1 : Int32)), .unset] []))
  refine Go.iloadN X0 hx (hb hby d2_0) rfl (q := 1) rfl ?_
  refine Go.aloadN X0 hx (hb hby d2_1) rfl rfl (q := 2) rfl ?_
  refine Go.alen X0 hx hZ e0 Va (hb hby d2_2) ?_
  refine Go.icmpYes X0 hx (hb hby d2_3) (by decide) (q := 14) (by decide) (by decide) ?_
  refine Go.iloadN X0 hx (hb hby d2_14) rfl (q := 15) rfl ?_
  refine Go.newP X0 hx hZ (hb hby d2_15) (wd3 hw) e0 (by decide) (cap := 1) (by decide) (by decide) (by decide) (by decide) (ad := "[B") rfl (q := 17) rfl ?_
  intro b101 T101 h101 k101 X101 e101 q101 E101 V101 B101
  have ne_a_b101 : a ≠ b101 := ne_new Va.lt (Nat.le_of_eq q101)
  have g_b101 : Z.heap.size ≤ b101 := Nat.le_trans O0.1 (Nat.le_of_eq q101)
  have z_b101 : h0.size ≤ b101 := Nat.le_trans KP.1 (Nat.le_of_eq q101)
  replace Va := Va.ext E101
  have OE101 := ext_trans O0 E101
  replace KP := KP.ext E101
  replace V101 : Arv Z h101 b101 k101 .byte (1 : Int32) [(.int (0 : Int32))] (.int (0 : Int32)) := V101.pad (pad_rep [] (.int (0 : Int32)) 1)
  refine Go.astoreN X101 hx (hb hby d2_17) rfl (l' := #[.val (.ref a), .val (.int (1 : Int32)), .val (.ref b101)]) rfl (q := 18) rfl ?_
  refine Go.aloadN X101 hx (hb hby d2_18) rfl rfl (q := 19) rfl ?_
  refine Go.iconst X101 hx (hb hby d2_19) (r := (0 : Int32)) rfl (q := 20) rfl ?_
  refine Go.aloadN X101 hx (hb hby d2_20) rfl rfl (q := 21) rfl ?_
  refine Go.iconst X101 hx (hb hby d2_21) (r := (0 : Int32)) rfl (q := 22) rfl ?_
  refine Go.aloadN X101 hx (hb hby d2_22) rfl rfl (q := 23) rfl ?_
  refine Go.alen X101 hx hZ e101 Va (hb hby d2_23) ?_
  refine Go.iloadN X101 hx (hb hby d2_24) rfl (q := 25) rfl ?_
  refine Go.callS X101 hx hZ hown (wd15 hw) (wd16 hw) (wd17 hw) (wd18 hw) (by decide) (cmin2 l Z a0 hw ((5 : Int32)) ((1 : Int32)) h101 OE101 (by decide)) e101 (by rw [hml]; rfl) (hb hby d2_25) (argsL := [(.int (5 : Int32)), (.int (1 : Int32))]) (rest := [(.int (0 : Int32)), (.ref b101), (.int (0 : Int32)), (.ref a)]) (lenOf pd0 rfl) rfl rfl (W := 4) (by first | exact Nat.le_refl _ | decide) (by decide) (by decide) (by decide) (by decide) ?_
  intro v102 T102 L102 X102 hQ102
  obtain ⟨rfl, N102q, e102⟩ := hQ102
  have N102 := Fr.app N0 N102q
  obtain ⟨T103, h103, L103, X103, e103, N103, K103, V103, st103⟩ := cpA X102 hx hZ hown (wd19 hw) (wd22 hw) (wd20 hw) (wd21 hw) e102 Va V101 (us := [(.int x0)]) (sp := (0 : Int32)) (dp := (0 : Int32)) (nn := (1 : Int32)) (Or.inl ⟨rfl, rfl⟩) (by decide) (by decide) (by decide) (by decide) (by decide) rfl (Nat.le_of_ble_eq_true rfl) N102 g_b101 (g := (mkF mm 28 #[.val (.ref a), .val (.int (1 : Int32)), .val (.ref b101)] [(.int (1 : Int32)), (.int (0 : Int32)), (.ref b101), (.int (0 : Int32)), (.ref a)])) rfl (by rw [hml]; rfl) rfl (hb hby d2_28) (by decide) (W := 0) (by show 2 * 0 + _ ≤ _; exact Nat.le_of_eq rfl) (by decide)
  refine Go.by st103 ?_
  replace Va := Va.keep K103 (ninS ne_a_b101 nin0)
  replace B101 := B101.keep K103
  have OK103 := ext_keep OE101 K103 (allS g_b101 all0)
  replace KP := KP.trans K103 (allS (Or.inr z_b101) all0)
  replace V103 : Arv Z h103 b101 k101 .byte (1 : Int32) [(.int x0)] (.int (0 : Int32)) := V103
  show Go pp ee below _ (T103.setTop (mkF mm 31 #[.val (.ref a), .val (.int (1 : Int32)), .val (.ref b101)] []))
  refine Go.aloadN X103 hx (hb hby d2_31) rfl rfl (q := 32) rfl ?_
  exact Go.retA X103 hx hret hlk rfl rfl (hb hby d2_32) e103 (by decide) (by decide) ⟨b101, k101, rfl, N103, KP, z_b101, V103⟩
def Q_cnp_4_1 (Z : State) (o : Addr) (q : Addr) (a : Addr) (ka : ClassId) (x0 : Int32) (x1 : Int32) (x2 : Int32) (x3 : Int32) (x4 : Int32) (h0 : Heap) (vR : Option Value) (hR : Heap) (LR : List Loc) : Prop := ∃ b : Addr, ∃ kb : ClassId, vR = some (.ref b) ∧ Fr Z.heap.size LR ∧ Keep h0 hR [] ∧ h0.size ≤ b ∧ Arv Z hR b kb .byte (1 : Int32) [(.int x0)] (.int (0 : Int32))
set_option maxRecDepth 65536 in
set_option maxHeartbeats 40000000 in
theorem cnp_4_1 (l : Launch) (Z : State) (a0 : Array Value) (hw : ∀ d ∈ tables_1, d.before a0 Z = true) (o : Addr) (q : Addr) (a : Addr) (ka : ClassId) (x0 : Int32) (x1 : Int32) (x2 : Int32) (x3 : Int32) (x4 : Int32) (h0 : Heap) (O0 : Ext Z.heap h0) (Va : Arv Z h0 a ka .byte (5 : Int32) [(.int x0), (.int x1), (.int x2), (.int x3), (.int x4)] (.int (0 : Int32))) (Fe : Fld Z Z.heap o "com/example/depositum/depositum/format/Checksum" "ending" "[B" (.ref q)) (Le : Lng Z Z.heap q (4 : Int32)) :
    Ctr l Z h0 (⟨"com/example/depositum/depositum/format/Checksum", "namedPath", "([B)[B"⟩ : MethodName) prog_36_method_7_code 2 (some (.array .byte)) [] ({ frames := 2, cells := 1, slots := 1, locals := 32 } : Room) #[(.ref o), (.ref a)] (Q_cnp_4_1 Z o q a ka x0 x1 x2 x3 x4 h0) := by
  refine enter (plainFor_of_name pn1) ?_
  intro pp ee ss mm below meth cc s₁ hx hby hml hZ hown hnm hret hlk X0 e0 hs0
  replace hown : ss.vm.findClass "com/example/depositum/depositum/format/Checksum" = some mm.cls := hown
  refine Go.cast (congrArg s₁.setTop (ef_cnp_4_1 mm o a)) ?_
  have N0 := Fr.nil Z.heap.size
  have KP := Keep.refl h0 []
  show Go pp ee below _ (s₁.setTop (mkF mm 0 #[.val (.ref o), .val (.ref a)] []))
  refine Go.aloadN X0 hx (hb hby d1_0) rfl rfl (q := 1) rfl ?_
  refine Go.aloadN X0 hx (hb hby d1_1) rfl rfl (q := 2) rfl ?_
  refine Go.alen X0 hx hZ e0 Va (hb hby d1_2) ?_
  refine Go.aloadN X0 hx (hb hby d1_3) rfl rfl (q := 4) rfl ?_
  refine Go.getF X0 hx hZ hown (host := "") (Or.inl (wd9 hw)) Via.refl e0 (Fe.ext O0) (hb hby d1_4) (q := 7) rfl ?_
  intro T101 X101 e101
  refine Go.aln X101 hx hZ e101 (Le.ext O0) (hb hby d1_7) ?_
  refine Go.isub X101 hx (hb hby d1_8) (r := (1 : Int32)) rfl (q := 9) rfl ?_
  refine Go.callS X101 hx hZ hown (wd11 hw) (wd12 hw) (wd13 hw) (wd14 hw) (by decide) (ccpy_5_1 l Z a0 hw a (ka) x0 x1 x2 x3 x4 h0 O0 Va) e101 (by rw [hml]; rfl) (hb hby d1_9) (argsL := [(.ref a), (.int (1 : Int32))]) (rest := []) (lenOf pd1 rfl) rfl rfl (W := 0) (by first | exact Nat.le_refl _ | decide) (by decide) (by decide) (by decide) (by decide) ?_
  intro v102 T102 L102 X102 hQ102
  obtain ⟨h102, e102⟩ : ∃ z, T102.heap = z := ⟨_, rfl⟩
  rw [e102] at hQ102
  obtain ⟨b_102, kb_102, rfl, N102q, K102, fr102_b, P102_0⟩ := hQ102
  have N102 := Fr.app N0 N102q
  have ne_a_b_102 : a ≠ b_102 := ne_new Va.lt fr102_b
  have ne_o_b_102 : o ≠ b_102 := ne_new (Fe.ext O0).lt fr102_b
  have g_b_102 : Z.heap.size ≤ b_102 := Nat.le_trans O0.1 fr102_b
  have z_b_102 : h0.size ≤ b_102 := Nat.le_trans KP.1 fr102_b
  replace Va := Va.keep K102 nin0
  have OK102 := ext_keep O0 K102 all0
  replace KP := KP.trans K102 all0
  exact Go.retA X102 hx hret hlk rfl rfl (hb hby d1_12) e102 (by decide) (by decide) ⟨b_102, kb_102, rfl, N102, KP, z_b_102, P102_0⟩
def Q_ccpy_6_2 (Z : State) (a : Addr) (ka : ClassId) (x0 : Int32) (x1 : Int32) (x2 : Int32) (x3 : Int32) (x4 : Int32) (x5 : Int32) (h0 : Heap) (vR : Option Value) (hR : Heap) (LR : List Loc) : Prop := ∃ b : Addr, ∃ kb : ClassId, vR = some (.ref b) ∧ Fr Z.heap.size LR ∧ Keep h0 hR [] ∧ h0.size ≤ b ∧ Arv Z hR b kb .byte (2 : Int32) [(.int x0), (.int x1)] (.int (0 : Int32))
set_option maxRecDepth 65536 in
set_option maxHeartbeats 40000000 in
theorem ccpy_6_2 (l : Launch) (Z : State) (a0 : Array Value) (hw : ∀ d ∈ tables_1, d.before a0 Z = true) (a : Addr) (ka : ClassId) (x0 : Int32) (x1 : Int32) (x2 : Int32) (x3 : Int32) (x4 : Int32) (x5 : Int32) (h0 : Heap) (O0 : Ext Z.heap h0) (Va : Arv Z h0 a ka .byte (6 : Int32) [(.int x0), (.int x1), (.int x2), (.int x3), (.int x4), (.int x5)] (.int (0 : Int32))) :
    Ctr l Z h0 (⟨"java/util/Arrays", "copyOf", "([BI)[B"⟩ : MethodName) jdk_65_method_121_code 3 (some (.array .byte)) [] ({ frames := 1, cells := 1, slots := 2, locals := 18 } : Room) #[(.ref a), (.int (2 : Int32))] (Q_ccpy_6_2 Z a ka x0 x1 x2 x3 x4 x5 h0) := by
  refine enter (plainFor_of_name pn0) ?_
  intro pp ee ss mm below meth cc s₁ hx hby hml hZ hown hnm hret hlk X0 e0 hs0
  replace hown : ss.vm.findClass "java/util/Arrays" = some mm.cls := hown
  refine Go.cast (congrArg s₁.setTop (ef_ccpy_6_2 mm a)) ?_
  have N0 := Fr.nil Z.heap.size
  have KP := Keep.refl h0 []
  show Go pp ee below _ (s₁.setTop (mkF mm 0 #[.val (.ref a), .val (.int (2 : Int32)), .unset] []))
  refine Go.iloadN X0 hx (hb hby d2_0) rfl (q := 1) rfl ?_
  refine Go.aloadN X0 hx (hb hby d2_1) rfl rfl (q := 2) rfl ?_
  refine Go.alen X0 hx hZ e0 Va (hb hby d2_2) ?_
  refine Go.icmpYes X0 hx (hb hby d2_3) (by decide) (q := 14) (by decide) (by decide) ?_
  refine Go.iloadN X0 hx (hb hby d2_14) rfl (q := 15) rfl ?_
  refine Go.newP X0 hx hZ (hb hby d2_15) (wd3 hw) e0 (by decide) (cap := 2) (by decide) (by decide) (by decide) (by decide) (ad := "[B") rfl (q := 17) rfl ?_
  intro b101 T101 h101 k101 X101 e101 q101 E101 V101 B101
  have ne_a_b101 : a ≠ b101 := ne_new Va.lt (Nat.le_of_eq q101)
  have g_b101 : Z.heap.size ≤ b101 := Nat.le_trans O0.1 (Nat.le_of_eq q101)
  have z_b101 : h0.size ≤ b101 := Nat.le_trans KP.1 (Nat.le_of_eq q101)
  replace Va := Va.ext E101
  have OE101 := ext_trans O0 E101
  replace KP := KP.ext E101
  replace V101 : Arv Z h101 b101 k101 .byte (2 : Int32) [(.int (0 : Int32)), (.int (0 : Int32))] (.int (0 : Int32)) := V101.pad (pad_rep [] (.int (0 : Int32)) 2)
  refine Go.astoreN X101 hx (hb hby d2_17) rfl (l' := #[.val (.ref a), .val (.int (2 : Int32)), .val (.ref b101)]) rfl (q := 18) rfl ?_
  refine Go.aloadN X101 hx (hb hby d2_18) rfl rfl (q := 19) rfl ?_
  refine Go.iconst X101 hx (hb hby d2_19) (r := (0 : Int32)) rfl (q := 20) rfl ?_
  refine Go.aloadN X101 hx (hb hby d2_20) rfl rfl (q := 21) rfl ?_
  refine Go.iconst X101 hx (hb hby d2_21) (r := (0 : Int32)) rfl (q := 22) rfl ?_
  refine Go.aloadN X101 hx (hb hby d2_22) rfl rfl (q := 23) rfl ?_
  refine Go.alen X101 hx hZ e101 Va (hb hby d2_23) ?_
  refine Go.iloadN X101 hx (hb hby d2_24) rfl (q := 25) rfl ?_
  refine Go.callS X101 hx hZ hown (wd15 hw) (wd16 hw) (wd17 hw) (wd18 hw) (by decide) (cmin2 l Z a0 hw ((6 : Int32)) ((2 : Int32)) h101 OE101 (by decide)) e101 (by rw [hml]; rfl) (hb hby d2_25) (argsL := [(.int (6 : Int32)), (.int (2 : Int32))]) (rest := [(.int (0 : Int32)), (.ref b101), (.int (0 : Int32)), (.ref a)]) (lenOf pd0 rfl) rfl rfl (W := 4) (by first | exact Nat.le_refl _ | decide) (by decide) (by decide) (by decide) (by decide) ?_
  intro v102 T102 L102 X102 hQ102
  obtain ⟨rfl, N102q, e102⟩ := hQ102
  have N102 := Fr.app N0 N102q
  obtain ⟨T103, h103, L103, X103, e103, N103, K103, V103, st103⟩ := cpA X102 hx hZ hown (wd19 hw) (wd22 hw) (wd20 hw) (wd21 hw) e102 Va V101 (us := [(.int x0), (.int x1)]) (sp := (0 : Int32)) (dp := (0 : Int32)) (nn := (2 : Int32)) (Or.inl ⟨rfl, rfl⟩) (by decide) (by decide) (by decide) (by decide) (by decide) rfl (Nat.le_of_ble_eq_true rfl) N102 g_b101 (g := (mkF mm 28 #[.val (.ref a), .val (.int (2 : Int32)), .val (.ref b101)] [(.int (2 : Int32)), (.int (0 : Int32)), (.ref b101), (.int (0 : Int32)), (.ref a)])) rfl (by rw [hml]; rfl) rfl (hb hby d2_28) (by decide) (W := 0) (by show 2 * 0 + _ ≤ _; exact Nat.le_of_eq rfl) (by decide)
  refine Go.by st103 ?_
  replace Va := Va.keep K103 (ninS ne_a_b101 nin0)
  replace B101 := B101.keep K103
  have OK103 := ext_keep OE101 K103 (allS g_b101 all0)
  replace KP := KP.trans K103 (allS (Or.inr z_b101) all0)
  replace V103 : Arv Z h103 b101 k101 .byte (2 : Int32) [(.int x0), (.int x1)] (.int (0 : Int32)) := V103
  show Go pp ee below _ (T103.setTop (mkF mm 31 #[.val (.ref a), .val (.int (2 : Int32)), .val (.ref b101)] []))
  refine Go.aloadN X103 hx (hb hby d2_31) rfl rfl (q := 32) rfl ?_
  exact Go.retA X103 hx hret hlk rfl rfl (hb hby d2_32) e103 (by decide) (by decide) ⟨b101, k101, rfl, N103, KP, z_b101, V103⟩
def Q_cnp_4_2 (Z : State) (o : Addr) (q : Addr) (a : Addr) (ka : ClassId) (x0 : Int32) (x1 : Int32) (x2 : Int32) (x3 : Int32) (x4 : Int32) (x5 : Int32) (h0 : Heap) (vR : Option Value) (hR : Heap) (LR : List Loc) : Prop := ∃ b : Addr, ∃ kb : ClassId, vR = some (.ref b) ∧ Fr Z.heap.size LR ∧ Keep h0 hR [] ∧ h0.size ≤ b ∧ Arv Z hR b kb .byte (2 : Int32) [(.int x0), (.int x1)] (.int (0 : Int32))
set_option maxRecDepth 65536 in
set_option maxHeartbeats 40000000 in
theorem cnp_4_2 (l : Launch) (Z : State) (a0 : Array Value) (hw : ∀ d ∈ tables_1, d.before a0 Z = true) (o : Addr) (q : Addr) (a : Addr) (ka : ClassId) (x0 : Int32) (x1 : Int32) (x2 : Int32) (x3 : Int32) (x4 : Int32) (x5 : Int32) (h0 : Heap) (O0 : Ext Z.heap h0) (Va : Arv Z h0 a ka .byte (6 : Int32) [(.int x0), (.int x1), (.int x2), (.int x3), (.int x4), (.int x5)] (.int (0 : Int32))) (Fe : Fld Z Z.heap o "com/example/depositum/depositum/format/Checksum" "ending" "[B" (.ref q)) (Le : Lng Z Z.heap q (4 : Int32)) :
    Ctr l Z h0 (⟨"com/example/depositum/depositum/format/Checksum", "namedPath", "([B)[B"⟩ : MethodName) prog_36_method_7_code 2 (some (.array .byte)) [] ({ frames := 2, cells := 1, slots := 2, locals := 32 } : Room) #[(.ref o), (.ref a)] (Q_cnp_4_2 Z o q a ka x0 x1 x2 x3 x4 x5 h0) := by
  refine enter (plainFor_of_name pn1) ?_
  intro pp ee ss mm below meth cc s₁ hx hby hml hZ hown hnm hret hlk X0 e0 hs0
  replace hown : ss.vm.findClass "com/example/depositum/depositum/format/Checksum" = some mm.cls := hown
  refine Go.cast (congrArg s₁.setTop (ef_cnp_4_2 mm o a)) ?_
  have N0 := Fr.nil Z.heap.size
  have KP := Keep.refl h0 []
  show Go pp ee below _ (s₁.setTop (mkF mm 0 #[.val (.ref o), .val (.ref a)] []))
  refine Go.aloadN X0 hx (hb hby d1_0) rfl rfl (q := 1) rfl ?_
  refine Go.aloadN X0 hx (hb hby d1_1) rfl rfl (q := 2) rfl ?_
  refine Go.alen X0 hx hZ e0 Va (hb hby d1_2) ?_
  refine Go.aloadN X0 hx (hb hby d1_3) rfl rfl (q := 4) rfl ?_
  refine Go.getF X0 hx hZ hown (host := "") (Or.inl (wd9 hw)) Via.refl e0 (Fe.ext O0) (hb hby d1_4) (q := 7) rfl ?_
  intro T101 X101 e101
  refine Go.aln X101 hx hZ e101 (Le.ext O0) (hb hby d1_7) ?_
  refine Go.isub X101 hx (hb hby d1_8) (r := (2 : Int32)) rfl (q := 9) rfl ?_
  refine Go.callS X101 hx hZ hown (wd11 hw) (wd12 hw) (wd13 hw) (wd14 hw) (by decide) (ccpy_6_2 l Z a0 hw a (ka) x0 x1 x2 x3 x4 x5 h0 O0 Va) e101 (by rw [hml]; rfl) (hb hby d1_9) (argsL := [(.ref a), (.int (2 : Int32))]) (rest := []) (lenOf pd1 rfl) rfl rfl (W := 0) (by first | exact Nat.le_refl _ | decide) (by decide) (by decide) (by decide) (by decide) ?_
  intro v102 T102 L102 X102 hQ102
  obtain ⟨h102, e102⟩ : ∃ z, T102.heap = z := ⟨_, rfl⟩
  rw [e102] at hQ102
  obtain ⟨b_102, kb_102, rfl, N102q, K102, fr102_b, P102_0⟩ := hQ102
  have N102 := Fr.app N0 N102q
  have ne_a_b_102 : a ≠ b_102 := ne_new Va.lt fr102_b
  have ne_o_b_102 : o ≠ b_102 := ne_new (Fe.ext O0).lt fr102_b
  have g_b_102 : Z.heap.size ≤ b_102 := Nat.le_trans O0.1 fr102_b
  have z_b_102 : h0.size ≤ b_102 := Nat.le_trans KP.1 fr102_b
  replace Va := Va.keep K102 nin0
  have OK102 := ext_keep O0 K102 all0
  replace KP := KP.trans K102 all0
  exact Go.retA X102 hx hret hlk rfl rfl (hb hby d1_12) e102 (by decide) (by decide) ⟨b_102, kb_102, rfl, N102, KP, z_b_102, P102_0⟩
def Q_ccpy_7_3 (Z : State) (a : Addr) (ka : ClassId) (x0 : Int32) (x1 : Int32) (x2 : Int32) (x3 : Int32) (x4 : Int32) (x5 : Int32) (x6 : Int32) (h0 : Heap) (vR : Option Value) (hR : Heap) (LR : List Loc) : Prop := ∃ b : Addr, ∃ kb : ClassId, vR = some (.ref b) ∧ Fr Z.heap.size LR ∧ Keep h0 hR [] ∧ h0.size ≤ b ∧ Arv Z hR b kb .byte (3 : Int32) [(.int x0), (.int x1), (.int x2)] (.int (0 : Int32))
set_option maxRecDepth 65536 in
set_option maxHeartbeats 40000000 in
theorem ccpy_7_3 (l : Launch) (Z : State) (a0 : Array Value) (hw : ∀ d ∈ tables_1, d.before a0 Z = true) (a : Addr) (ka : ClassId) (x0 : Int32) (x1 : Int32) (x2 : Int32) (x3 : Int32) (x4 : Int32) (x5 : Int32) (x6 : Int32) (h0 : Heap) (O0 : Ext Z.heap h0) (Va : Arv Z h0 a ka .byte (7 : Int32) [(.int x0), (.int x1), (.int x2), (.int x3), (.int x4), (.int x5), (.int x6)] (.int (0 : Int32))) :
    Ctr l Z h0 (⟨"java/util/Arrays", "copyOf", "([BI)[B"⟩ : MethodName) jdk_65_method_121_code 3 (some (.array .byte)) [] ({ frames := 1, cells := 1, slots := 3, locals := 18 } : Room) #[(.ref a), (.int (3 : Int32))] (Q_ccpy_7_3 Z a ka x0 x1 x2 x3 x4 x5 x6 h0) := by
  refine enter (plainFor_of_name pn0) ?_
  intro pp ee ss mm below meth cc s₁ hx hby hml hZ hown hnm hret hlk X0 e0 hs0
  replace hown : ss.vm.findClass "java/util/Arrays" = some mm.cls := hown
  refine Go.cast (congrArg s₁.setTop (ef_ccpy_7_3 mm a)) ?_
  have N0 := Fr.nil Z.heap.size
  have KP := Keep.refl h0 []
  show Go pp ee below _ (s₁.setTop (mkF mm 0 #[.val (.ref a), .val (.int (3 : Int32)), .unset] []))
  refine Go.iloadN X0 hx (hb hby d2_0) rfl (q := 1) rfl ?_
  refine Go.aloadN X0 hx (hb hby d2_1) rfl rfl (q := 2) rfl ?_
  refine Go.alen X0 hx hZ e0 Va (hb hby d2_2) ?_
  refine Go.icmpYes X0 hx (hb hby d2_3) (by decide) (q := 14) (by decide) (by decide) ?_
  refine Go.iloadN X0 hx (hb hby d2_14) rfl (q := 15) rfl ?_
  refine Go.newP X0 hx hZ (hb hby d2_15) (wd3 hw) e0 (by decide) (cap := 3) (by decide) (by decide) (by decide) (by decide) (ad := "[B") rfl (q := 17) rfl ?_
  intro b101 T101 h101 k101 X101 e101 q101 E101 V101 B101
  have ne_a_b101 : a ≠ b101 := ne_new Va.lt (Nat.le_of_eq q101)
  have g_b101 : Z.heap.size ≤ b101 := Nat.le_trans O0.1 (Nat.le_of_eq q101)
  have z_b101 : h0.size ≤ b101 := Nat.le_trans KP.1 (Nat.le_of_eq q101)
  replace Va := Va.ext E101
  have OE101 := ext_trans O0 E101
  replace KP := KP.ext E101
  replace V101 : Arv Z h101 b101 k101 .byte (3 : Int32) [(.int (0 : Int32)), (.int (0 : Int32)), (.int (0 : Int32))] (.int (0 : Int32)) := V101.pad (pad_rep [] (.int (0 : Int32)) 3)
  refine Go.astoreN X101 hx (hb hby d2_17) rfl (l' := #[.val (.ref a), .val (.int (3 : Int32)), .val (.ref b101)]) rfl (q := 18) rfl ?_
  refine Go.aloadN X101 hx (hb hby d2_18) rfl rfl (q := 19) rfl ?_
  refine Go.iconst X101 hx (hb hby d2_19) (r := (0 : Int32)) rfl (q := 20) rfl ?_
  refine Go.aloadN X101 hx (hb hby d2_20) rfl rfl (q := 21) rfl ?_
  refine Go.iconst X101 hx (hb hby d2_21) (r := (0 : Int32)) rfl (q := 22) rfl ?_
  refine Go.aloadN X101 hx (hb hby d2_22) rfl rfl (q := 23) rfl ?_
  refine Go.alen X101 hx hZ e101 Va (hb hby d2_23) ?_
  refine Go.iloadN X101 hx (hb hby d2_24) rfl (q := 25) rfl ?_
  refine Go.callS X101 hx hZ hown (wd15 hw) (wd16 hw) (wd17 hw) (wd18 hw) (by decide) (cmin2 l Z a0 hw ((7 : Int32)) ((3 : Int32)) h101 OE101 (by decide)) e101 (by rw [hml]; rfl) (hb hby d2_25) (argsL := [(.int (7 : Int32)), (.int (3 : Int32))]) (rest := [(.int (0 : Int32)), (.ref b101), (.int (0 : Int32)), (.ref a)]) (lenOf pd0 rfl) rfl rfl (W := 4) (by first | exact Nat.le_refl _ | decide) (by decide) (by decide) (by decide) (by decide) ?_
  intro v102 T102 L102 X102 hQ102
  obtain ⟨rfl, N102q, e102⟩ := hQ102
  have N102 := Fr.app N0 N102q
  obtain ⟨T103, h103, L103, X103, e103, N103, K103, V103, st103⟩ := cpA X102 hx hZ hown (wd19 hw) (wd22 hw) (wd20 hw) (wd21 hw) e102 Va V101 (us := [(.int x0), (.int x1), (.int x2)]) (sp := (0 : Int32)) (dp := (0 : Int32)) (nn := (3 : Int32)) (Or.inl ⟨rfl, rfl⟩) (by decide) (by decide) (by decide) (by decide) (by decide) rfl (Nat.le_of_ble_eq_true rfl) N102 g_b101 (g := (mkF mm 28 #[.val (.ref a), .val (.int (3 : Int32)), .val (.ref b101)] [(.int (3 : Int32)), (.int (0 : Int32)), (.ref b101), (.int (0 : Int32)), (.ref a)])) rfl (by rw [hml]; rfl) rfl (hb hby d2_28) (by decide) (W := 0) (by show 2 * 0 + _ ≤ _; exact Nat.le_of_eq rfl) (by decide)
  refine Go.by st103 ?_
  replace Va := Va.keep K103 (ninS ne_a_b101 nin0)
  replace B101 := B101.keep K103
  have OK103 := ext_keep OE101 K103 (allS g_b101 all0)
  replace KP := KP.trans K103 (allS (Or.inr z_b101) all0)
  replace V103 : Arv Z h103 b101 k101 .byte (3 : Int32) [(.int x0), (.int x1), (.int x2)] (.int (0 : Int32)) := V103
  show Go pp ee below _ (T103.setTop (mkF mm 31 #[.val (.ref a), .val (.int (3 : Int32)), .val (.ref b101)] []))
  refine Go.aloadN X103 hx (hb hby d2_31) rfl rfl (q := 32) rfl ?_
  exact Go.retA X103 hx hret hlk rfl rfl (hb hby d2_32) e103 (by decide) (by decide) ⟨b101, k101, rfl, N103, KP, z_b101, V103⟩
def Q_cnp_4_3 (Z : State) (o : Addr) (q : Addr) (a : Addr) (ka : ClassId) (x0 : Int32) (x1 : Int32) (x2 : Int32) (x3 : Int32) (x4 : Int32) (x5 : Int32) (x6 : Int32) (h0 : Heap) (vR : Option Value) (hR : Heap) (LR : List Loc) : Prop := ∃ b : Addr, ∃ kb : ClassId, vR = some (.ref b) ∧ Fr Z.heap.size LR ∧ Keep h0 hR [] ∧ h0.size ≤ b ∧ Arv Z hR b kb .byte (3 : Int32) [(.int x0), (.int x1), (.int x2)] (.int (0 : Int32))
set_option maxRecDepth 65536 in
set_option maxHeartbeats 40000000 in
theorem cnp_4_3 (l : Launch) (Z : State) (a0 : Array Value) (hw : ∀ d ∈ tables_1, d.before a0 Z = true) (o : Addr) (q : Addr) (a : Addr) (ka : ClassId) (x0 : Int32) (x1 : Int32) (x2 : Int32) (x3 : Int32) (x4 : Int32) (x5 : Int32) (x6 : Int32) (h0 : Heap) (O0 : Ext Z.heap h0) (Va : Arv Z h0 a ka .byte (7 : Int32) [(.int x0), (.int x1), (.int x2), (.int x3), (.int x4), (.int x5), (.int x6)] (.int (0 : Int32))) (Fe : Fld Z Z.heap o "com/example/depositum/depositum/format/Checksum" "ending" "[B" (.ref q)) (Le : Lng Z Z.heap q (4 : Int32)) :
    Ctr l Z h0 (⟨"com/example/depositum/depositum/format/Checksum", "namedPath", "([B)[B"⟩ : MethodName) prog_36_method_7_code 2 (some (.array .byte)) [] ({ frames := 2, cells := 1, slots := 3, locals := 32 } : Room) #[(.ref o), (.ref a)] (Q_cnp_4_3 Z o q a ka x0 x1 x2 x3 x4 x5 x6 h0) := by
  refine enter (plainFor_of_name pn1) ?_
  intro pp ee ss mm below meth cc s₁ hx hby hml hZ hown hnm hret hlk X0 e0 hs0
  replace hown : ss.vm.findClass "com/example/depositum/depositum/format/Checksum" = some mm.cls := hown
  refine Go.cast (congrArg s₁.setTop (ef_cnp_4_3 mm o a)) ?_
  have N0 := Fr.nil Z.heap.size
  have KP := Keep.refl h0 []
  show Go pp ee below _ (s₁.setTop (mkF mm 0 #[.val (.ref o), .val (.ref a)] []))
  refine Go.aloadN X0 hx (hb hby d1_0) rfl rfl (q := 1) rfl ?_
  refine Go.aloadN X0 hx (hb hby d1_1) rfl rfl (q := 2) rfl ?_
  refine Go.alen X0 hx hZ e0 Va (hb hby d1_2) ?_
  refine Go.aloadN X0 hx (hb hby d1_3) rfl rfl (q := 4) rfl ?_
  refine Go.getF X0 hx hZ hown (host := "") (Or.inl (wd9 hw)) Via.refl e0 (Fe.ext O0) (hb hby d1_4) (q := 7) rfl ?_
  intro T101 X101 e101
  refine Go.aln X101 hx hZ e101 (Le.ext O0) (hb hby d1_7) ?_
  refine Go.isub X101 hx (hb hby d1_8) (r := (3 : Int32)) rfl (q := 9) rfl ?_
  refine Go.callS X101 hx hZ hown (wd11 hw) (wd12 hw) (wd13 hw) (wd14 hw) (by decide) (ccpy_7_3 l Z a0 hw a (ka) x0 x1 x2 x3 x4 x5 x6 h0 O0 Va) e101 (by rw [hml]; rfl) (hb hby d1_9) (argsL := [(.ref a), (.int (3 : Int32))]) (rest := []) (lenOf pd1 rfl) rfl rfl (W := 0) (by first | exact Nat.le_refl _ | decide) (by decide) (by decide) (by decide) (by decide) ?_
  intro v102 T102 L102 X102 hQ102
  obtain ⟨h102, e102⟩ : ∃ z, T102.heap = z := ⟨_, rfl⟩
  rw [e102] at hQ102
  obtain ⟨b_102, kb_102, rfl, N102q, K102, fr102_b, P102_0⟩ := hQ102
  have N102 := Fr.app N0 N102q
  have ne_a_b_102 : a ≠ b_102 := ne_new Va.lt fr102_b
  have ne_o_b_102 : o ≠ b_102 := ne_new (Fe.ext O0).lt fr102_b
  have g_b_102 : Z.heap.size ≤ b_102 := Nat.le_trans O0.1 fr102_b
  have z_b_102 : h0.size ≤ b_102 := Nat.le_trans KP.1 fr102_b
  replace Va := Va.keep K102 nin0
  have OK102 := ext_keep O0 K102 all0
  replace KP := KP.trans K102 all0
  exact Go.retA X102 hx hret hlk rfl rfl (hb hby d1_12) e102 (by decide) (by decide) ⟨b_102, kb_102, rfl, N102, KP, z_b_102, P102_0⟩
def Q_ccpy_5_0 (Z : State) (a : Addr) (ka : ClassId) (x0 : Int32) (x1 : Int32) (x2 : Int32) (x3 : Int32) (x4 : Int32) (h0 : Heap) (vR : Option Value) (hR : Heap) (LR : List Loc) : Prop := ∃ b : Addr, ∃ kb : ClassId, vR = some (.ref b) ∧ Fr Z.heap.size LR ∧ Keep h0 hR [] ∧ h0.size ≤ b ∧ Arv Z hR b kb .byte (0 : Int32) [] (.int (0 : Int32))
set_option maxRecDepth 65536 in
set_option maxHeartbeats 40000000 in
theorem ccpy_5_0 (l : Launch) (Z : State) (a0 : Array Value) (hw : ∀ d ∈ tables_1, d.before a0 Z = true) (a : Addr) (ka : ClassId) (x0 : Int32) (x1 : Int32) (x2 : Int32) (x3 : Int32) (x4 : Int32) (h0 : Heap) (O0 : Ext Z.heap h0) (Va : Arv Z h0 a ka .byte (5 : Int32) [(.int x0), (.int x1), (.int x2), (.int x3), (.int x4)] (.int (0 : Int32))) :
    Ctr l Z h0 (⟨"java/util/Arrays", "copyOf", "([BI)[B"⟩ : MethodName) jdk_65_method_121_code 3 (some (.array .byte)) [] ({ frames := 1, cells := 1, slots := 0, locals := 18 } : Room) #[(.ref a), (.int (0 : Int32))] (Q_ccpy_5_0 Z a ka x0 x1 x2 x3 x4 h0) := by
  refine enter (plainFor_of_name pn0) ?_
  intro pp ee ss mm below meth cc s₁ hx hby hml hZ hown hnm hret hlk X0 e0 hs0
  replace hown : ss.vm.findClass "java/util/Arrays" = some mm.cls := hown
  refine Go.cast (congrArg s₁.setTop (ef_ccpy_5_0 mm a)) ?_
  have N0 := Fr.nil Z.heap.size
  have KP := Keep.refl h0 []
  show Go pp ee below _ (s₁.setTop (mkF mm 0 #[.val (.ref a), .val (.int (0 : Int32)), .unset] []))
  refine Go.iloadN X0 hx (hb hby d2_0) rfl (q := 1) rfl ?_
  refine Go.aloadN X0 hx (hb hby d2_1) rfl rfl (q := 2) rfl ?_
  refine Go.alen X0 hx hZ e0 Va (hb hby d2_2) ?_
  refine Go.icmpYes X0 hx (hb hby d2_3) (by decide) (q := 14) (by decide) (by decide) ?_
  refine Go.iloadN X0 hx (hb hby d2_14) rfl (q := 15) rfl ?_
  refine Go.newP X0 hx hZ (hb hby d2_15) (wd3 hw) e0 (by decide) (cap := 0) (by decide) (by decide) (by decide) (by decide) (ad := "[B") rfl (q := 17) rfl ?_
  intro b101 T101 h101 k101 X101 e101 q101 E101 V101 B101
  have ne_a_b101 : a ≠ b101 := ne_new Va.lt (Nat.le_of_eq q101)
  have g_b101 : Z.heap.size ≤ b101 := Nat.le_trans O0.1 (Nat.le_of_eq q101)
  have z_b101 : h0.size ≤ b101 := Nat.le_trans KP.1 (Nat.le_of_eq q101)
  replace Va := Va.ext E101
  have OE101 := ext_trans O0 E101
  replace KP := KP.ext E101
  replace V101 : Arv Z h101 b101 k101 .byte (0 : Int32) [] (.int (0 : Int32)) := V101
  refine Go.astoreN X101 hx (hb hby d2_17) rfl (l' := #[.val (.ref a), .val (.int (0 : Int32)), .val (.ref b101)]) rfl (q := 18) rfl ?_
  refine Go.aloadN X101 hx (hb hby d2_18) rfl rfl (q := 19) rfl ?_
  refine Go.iconst X101 hx (hb hby d2_19) (r := (0 : Int32)) rfl (q := 20) rfl ?_
  refine Go.aloadN X101 hx (hb hby d2_20) rfl rfl (q := 21) rfl ?_
  refine Go.iconst X101 hx (hb hby d2_21) (r := (0 : Int32)) rfl (q := 22) rfl ?_
  refine Go.aloadN X101 hx (hb hby d2_22) rfl rfl (q := 23) rfl ?_
  refine Go.alen X101 hx hZ e101 Va (hb hby d2_23) ?_
  refine Go.iloadN X101 hx (hb hby d2_24) rfl (q := 25) rfl ?_
  refine Go.callS X101 hx hZ hown (wd15 hw) (wd16 hw) (wd17 hw) (wd18 hw) (by decide) (cmin2 l Z a0 hw ((5 : Int32)) ((0 : Int32)) h101 OE101 (by decide)) e101 (by rw [hml]; rfl) (hb hby d2_25) (argsL := [(.int (5 : Int32)), (.int (0 : Int32))]) (rest := [(.int (0 : Int32)), (.ref b101), (.int (0 : Int32)), (.ref a)]) (lenOf pd0 rfl) rfl rfl (W := 4) (by first | exact Nat.le_refl _ | decide) (by decide) (by decide) (by decide) (by decide) ?_
  intro v102 T102 L102 X102 hQ102
  obtain ⟨rfl, N102q, e102⟩ := hQ102
  have N102 := Fr.app N0 N102q
  obtain ⟨T103, h103, L103, X103, e103, N103, K103, V103, st103⟩ := cpA X102 hx hZ hown (wd19 hw) (wd22 hw) (wd20 hw) (wd21 hw) e102 Va V101 (us := []) (sp := (0 : Int32)) (dp := (0 : Int32)) (nn := (0 : Int32)) (Or.inl ⟨rfl, rfl⟩) (by decide) (by decide) (by decide) (by decide) (by decide) rfl (Nat.le_of_ble_eq_true rfl) N102 g_b101 (g := (mkF mm 28 #[.val (.ref a), .val (.int (0 : Int32)), .val (.ref b101)] [(.int (0 : Int32)), (.int (0 : Int32)), (.ref b101), (.int (0 : Int32)), (.ref a)])) rfl (by rw [hml]; rfl) rfl (hb hby d2_28) (by decide) (W := 0) (by show 2 * 0 + _ ≤ _; exact Nat.le_of_eq rfl) (by decide)
  refine Go.by st103 ?_
  replace Va := Va.keep K103 (ninS ne_a_b101 nin0)
  replace B101 := B101.keep K103
  have OK103 := ext_keep OE101 K103 (allS g_b101 all0)
  replace KP := KP.trans K103 (allS (Or.inr z_b101) all0)
  replace V103 : Arv Z h103 b101 k101 .byte (0 : Int32) [] (.int (0 : Int32)) := V103
  show Go pp ee below _ (T103.setTop (mkF mm 31 #[.val (.ref a), .val (.int (0 : Int32)), .val (.ref b101)] []))
  refine Go.aloadN X103 hx (hb hby d2_31) rfl rfl (q := 32) rfl ?_
  exact Go.retA X103 hx hret hlk rfl rfl (hb hby d2_32) e103 (by decide) (by decide) ⟨b101, k101, rfl, N103, KP, z_b101, V103⟩
def Q_cnp_5_0 (Z : State) (o : Addr) (q : Addr) (a : Addr) (ka : ClassId) (x0 : Int32) (x1 : Int32) (x2 : Int32) (x3 : Int32) (x4 : Int32) (h0 : Heap) (vR : Option Value) (hR : Heap) (LR : List Loc) : Prop := ∃ b : Addr, ∃ kb : ClassId, vR = some (.ref b) ∧ Fr Z.heap.size LR ∧ Keep h0 hR [] ∧ h0.size ≤ b ∧ Arv Z hR b kb .byte (0 : Int32) [] (.int (0 : Int32))
set_option maxRecDepth 65536 in
set_option maxHeartbeats 40000000 in
theorem cnp_5_0 (l : Launch) (Z : State) (a0 : Array Value) (hw : ∀ d ∈ tables_1, d.before a0 Z = true) (o : Addr) (q : Addr) (a : Addr) (ka : ClassId) (x0 : Int32) (x1 : Int32) (x2 : Int32) (x3 : Int32) (x4 : Int32) (h0 : Heap) (O0 : Ext Z.heap h0) (Va : Arv Z h0 a ka .byte (5 : Int32) [(.int x0), (.int x1), (.int x2), (.int x3), (.int x4)] (.int (0 : Int32))) (Fe : Fld Z Z.heap o "com/example/depositum/depositum/format/Checksum" "ending" "[B" (.ref q)) (Le : Lng Z Z.heap q (5 : Int32)) :
    Ctr l Z h0 (⟨"com/example/depositum/depositum/format/Checksum", "namedPath", "([B)[B"⟩ : MethodName) prog_36_method_7_code 2 (some (.array .byte)) [] ({ frames := 2, cells := 1, slots := 0, locals := 32 } : Room) #[(.ref o), (.ref a)] (Q_cnp_5_0 Z o q a ka x0 x1 x2 x3 x4 h0) := by
  refine enter (plainFor_of_name pn1) ?_
  intro pp ee ss mm below meth cc s₁ hx hby hml hZ hown hnm hret hlk X0 e0 hs0
  replace hown : ss.vm.findClass "com/example/depositum/depositum/format/Checksum" = some mm.cls := hown
  refine Go.cast (congrArg s₁.setTop (ef_cnp_5_0 mm o a)) ?_
  have N0 := Fr.nil Z.heap.size
  have KP := Keep.refl h0 []
  show Go pp ee below _ (s₁.setTop (mkF mm 0 #[.val (.ref o), .val (.ref a)] []))
  refine Go.aloadN X0 hx (hb hby d1_0) rfl rfl (q := 1) rfl ?_
  refine Go.aloadN X0 hx (hb hby d1_1) rfl rfl (q := 2) rfl ?_
  refine Go.alen X0 hx hZ e0 Va (hb hby d1_2) ?_
  refine Go.aloadN X0 hx (hb hby d1_3) rfl rfl (q := 4) rfl ?_
  refine Go.getF X0 hx hZ hown (host := "") (Or.inl (wd9 hw)) Via.refl e0 (Fe.ext O0) (hb hby d1_4) (q := 7) rfl ?_
  intro T101 X101 e101
  refine Go.aln X101 hx hZ e101 (Le.ext O0) (hb hby d1_7) ?_
  refine Go.isub X101 hx (hb hby d1_8) (r := (0 : Int32)) rfl (q := 9) rfl ?_
  refine Go.callS X101 hx hZ hown (wd11 hw) (wd12 hw) (wd13 hw) (wd14 hw) (by decide) (ccpy_5_0 l Z a0 hw a (ka) x0 x1 x2 x3 x4 h0 O0 Va) e101 (by rw [hml]; rfl) (hb hby d1_9) (argsL := [(.ref a), (.int (0 : Int32))]) (rest := []) (lenOf pd1 rfl) rfl rfl (W := 0) (by first | exact Nat.le_refl _ | decide) (by decide) (by decide) (by decide) (by decide) ?_
  intro v102 T102 L102 X102 hQ102
  obtain ⟨h102, e102⟩ : ∃ z, T102.heap = z := ⟨_, rfl⟩
  rw [e102] at hQ102
  obtain ⟨b_102, kb_102, rfl, N102q, K102, fr102_b, P102_0⟩ := hQ102
  have N102 := Fr.app N0 N102q
  have ne_a_b_102 : a ≠ b_102 := ne_new Va.lt fr102_b
  have ne_o_b_102 : o ≠ b_102 := ne_new (Fe.ext O0).lt fr102_b
  have g_b_102 : Z.heap.size ≤ b_102 := Nat.le_trans O0.1 fr102_b
  have z_b_102 : h0.size ≤ b_102 := Nat.le_trans KP.1 fr102_b
  replace Va := Va.keep K102 nin0
  have OK102 := ext_keep O0 K102 all0
  replace KP := KP.trans K102 all0
  exact Go.retA X102 hx hret hlk rfl rfl (hb hby d1_12) e102 (by decide) (by decide) ⟨b_102, kb_102, rfl, N102, KP, z_b_102, P102_0⟩
def Q_ccpy_6_1 (Z : State) (a : Addr) (ka : ClassId) (x0 : Int32) (x1 : Int32) (x2 : Int32) (x3 : Int32) (x4 : Int32) (x5 : Int32) (h0 : Heap) (vR : Option Value) (hR : Heap) (LR : List Loc) : Prop := ∃ b : Addr, ∃ kb : ClassId, vR = some (.ref b) ∧ Fr Z.heap.size LR ∧ Keep h0 hR [] ∧ h0.size ≤ b ∧ Arv Z hR b kb .byte (1 : Int32) [(.int x0)] (.int (0 : Int32))
set_option maxRecDepth 65536 in
set_option maxHeartbeats 40000000 in
theorem ccpy_6_1 (l : Launch) (Z : State) (a0 : Array Value) (hw : ∀ d ∈ tables_1, d.before a0 Z = true) (a : Addr) (ka : ClassId) (x0 : Int32) (x1 : Int32) (x2 : Int32) (x3 : Int32) (x4 : Int32) (x5 : Int32) (h0 : Heap) (O0 : Ext Z.heap h0) (Va : Arv Z h0 a ka .byte (6 : Int32) [(.int x0), (.int x1), (.int x2), (.int x3), (.int x4), (.int x5)] (.int (0 : Int32))) :
    Ctr l Z h0 (⟨"java/util/Arrays", "copyOf", "([BI)[B"⟩ : MethodName) jdk_65_method_121_code 3 (some (.array .byte)) [] ({ frames := 1, cells := 1, slots := 1, locals := 18 } : Room) #[(.ref a), (.int (1 : Int32))] (Q_ccpy_6_1 Z a ka x0 x1 x2 x3 x4 x5 h0) := by
  refine enter (plainFor_of_name pn0) ?_
  intro pp ee ss mm below meth cc s₁ hx hby hml hZ hown hnm hret hlk X0 e0 hs0
  replace hown : ss.vm.findClass "java/util/Arrays" = some mm.cls := hown
  refine Go.cast (congrArg s₁.setTop (ef_ccpy_6_1 mm a)) ?_
  have N0 := Fr.nil Z.heap.size
  have KP := Keep.refl h0 []
  show Go pp ee below _ (s₁.setTop (mkF mm 0 #[.val (.ref a), .val (.int (1 : Int32)), .unset] []))
  refine Go.iloadN X0 hx (hb hby d2_0) rfl (q := 1) rfl ?_
  refine Go.aloadN X0 hx (hb hby d2_1) rfl rfl (q := 2) rfl ?_
  refine Go.alen X0 hx hZ e0 Va (hb hby d2_2) ?_
  refine Go.icmpYes X0 hx (hb hby d2_3) (by decide) (q := 14) (by decide) (by decide) ?_
  refine Go.iloadN X0 hx (hb hby d2_14) rfl (q := 15) rfl ?_
  refine Go.newP X0 hx hZ (hb hby d2_15) (wd3 hw) e0 (by decide) (cap := 1) (by decide) (by decide) (by decide) (by decide) (ad := "[B") rfl (q := 17) rfl ?_
  intro b101 T101 h101 k101 X101 e101 q101 E101 V101 B101
  have ne_a_b101 : a ≠ b101 := ne_new Va.lt (Nat.le_of_eq q101)
  have g_b101 : Z.heap.size ≤ b101 := Nat.le_trans O0.1 (Nat.le_of_eq q101)
  have z_b101 : h0.size ≤ b101 := Nat.le_trans KP.1 (Nat.le_of_eq q101)
  replace Va := Va.ext E101
  have OE101 := ext_trans O0 E101
  replace KP := KP.ext E101
  replace V101 : Arv Z h101 b101 k101 .byte (1 : Int32) [(.int (0 : Int32))] (.int (0 : Int32)) := V101.pad (pad_rep [] (.int (0 : Int32)) 1)
  refine Go.astoreN X101 hx (hb hby d2_17) rfl (l' := #[.val (.ref a), .val (.int (1 : Int32)), .val (.ref b101)]) rfl (q := 18) rfl ?_
  refine Go.aloadN X101 hx (hb hby d2_18) rfl rfl (q := 19) rfl ?_
  refine Go.iconst X101 hx (hb hby d2_19) (r := (0 : Int32)) rfl (q := 20) rfl ?_
  refine Go.aloadN X101 hx (hb hby d2_20) rfl rfl (q := 21) rfl ?_
  refine Go.iconst X101 hx (hb hby d2_21) (r := (0 : Int32)) rfl (q := 22) rfl ?_
  refine Go.aloadN X101 hx (hb hby d2_22) rfl rfl (q := 23) rfl ?_
  refine Go.alen X101 hx hZ e101 Va (hb hby d2_23) ?_
  refine Go.iloadN X101 hx (hb hby d2_24) rfl (q := 25) rfl ?_
  refine Go.callS X101 hx hZ hown (wd15 hw) (wd16 hw) (wd17 hw) (wd18 hw) (by decide) (cmin2 l Z a0 hw ((6 : Int32)) ((1 : Int32)) h101 OE101 (by decide)) e101 (by rw [hml]; rfl) (hb hby d2_25) (argsL := [(.int (6 : Int32)), (.int (1 : Int32))]) (rest := [(.int (0 : Int32)), (.ref b101), (.int (0 : Int32)), (.ref a)]) (lenOf pd0 rfl) rfl rfl (W := 4) (by first | exact Nat.le_refl _ | decide) (by decide) (by decide) (by decide) (by decide) ?_
  intro v102 T102 L102 X102 hQ102
  obtain ⟨rfl, N102q, e102⟩ := hQ102
  have N102 := Fr.app N0 N102q
  obtain ⟨T103, h103, L103, X103, e103, N103, K103, V103, st103⟩ := cpA X102 hx hZ hown (wd19 hw) (wd22 hw) (wd20 hw) (wd21 hw) e102 Va V101 (us := [(.int x0)]) (sp := (0 : Int32)) (dp := (0 : Int32)) (nn := (1 : Int32)) (Or.inl ⟨rfl, rfl⟩) (by decide) (by decide) (by decide) (by decide) (by decide) rfl (Nat.le_of_ble_eq_true rfl) N102 g_b101 (g := (mkF mm 28 #[.val (.ref a), .val (.int (1 : Int32)), .val (.ref b101)] [(.int (1 : Int32)), (.int (0 : Int32)), (.ref b101), (.int (0 : Int32)), (.ref a)])) rfl (by rw [hml]; rfl) rfl (hb hby d2_28) (by decide) (W := 0) (by show 2 * 0 + _ ≤ _; exact Nat.le_of_eq rfl) (by decide)
  refine Go.by st103 ?_
  replace Va := Va.keep K103 (ninS ne_a_b101 nin0)
  replace B101 := B101.keep K103
  have OK103 := ext_keep OE101 K103 (allS g_b101 all0)
  replace KP := KP.trans K103 (allS (Or.inr z_b101) all0)
  replace V103 : Arv Z h103 b101 k101 .byte (1 : Int32) [(.int x0)] (.int (0 : Int32)) := V103
  show Go pp ee below _ (T103.setTop (mkF mm 31 #[.val (.ref a), .val (.int (1 : Int32)), .val (.ref b101)] []))
  refine Go.aloadN X103 hx (hb hby d2_31) rfl rfl (q := 32) rfl ?_
  exact Go.retA X103 hx hret hlk rfl rfl (hb hby d2_32) e103 (by decide) (by decide) ⟨b101, k101, rfl, N103, KP, z_b101, V103⟩
def Q_cnp_5_1 (Z : State) (o : Addr) (q : Addr) (a : Addr) (ka : ClassId) (x0 : Int32) (x1 : Int32) (x2 : Int32) (x3 : Int32) (x4 : Int32) (x5 : Int32) (h0 : Heap) (vR : Option Value) (hR : Heap) (LR : List Loc) : Prop := ∃ b : Addr, ∃ kb : ClassId, vR = some (.ref b) ∧ Fr Z.heap.size LR ∧ Keep h0 hR [] ∧ h0.size ≤ b ∧ Arv Z hR b kb .byte (1 : Int32) [(.int x0)] (.int (0 : Int32))
set_option maxRecDepth 65536 in
set_option maxHeartbeats 40000000 in
theorem cnp_5_1 (l : Launch) (Z : State) (a0 : Array Value) (hw : ∀ d ∈ tables_1, d.before a0 Z = true) (o : Addr) (q : Addr) (a : Addr) (ka : ClassId) (x0 : Int32) (x1 : Int32) (x2 : Int32) (x3 : Int32) (x4 : Int32) (x5 : Int32) (h0 : Heap) (O0 : Ext Z.heap h0) (Va : Arv Z h0 a ka .byte (6 : Int32) [(.int x0), (.int x1), (.int x2), (.int x3), (.int x4), (.int x5)] (.int (0 : Int32))) (Fe : Fld Z Z.heap o "com/example/depositum/depositum/format/Checksum" "ending" "[B" (.ref q)) (Le : Lng Z Z.heap q (5 : Int32)) :
    Ctr l Z h0 (⟨"com/example/depositum/depositum/format/Checksum", "namedPath", "([B)[B"⟩ : MethodName) prog_36_method_7_code 2 (some (.array .byte)) [] ({ frames := 2, cells := 1, slots := 1, locals := 32 } : Room) #[(.ref o), (.ref a)] (Q_cnp_5_1 Z o q a ka x0 x1 x2 x3 x4 x5 h0) := by
  refine enter (plainFor_of_name pn1) ?_
  intro pp ee ss mm below meth cc s₁ hx hby hml hZ hown hnm hret hlk X0 e0 hs0
  replace hown : ss.vm.findClass "com/example/depositum/depositum/format/Checksum" = some mm.cls := hown
  refine Go.cast (congrArg s₁.setTop (ef_cnp_5_1 mm o a)) ?_
  have N0 := Fr.nil Z.heap.size
  have KP := Keep.refl h0 []
  show Go pp ee below _ (s₁.setTop (mkF mm 0 #[.val (.ref o), .val (.ref a)] []))
  refine Go.aloadN X0 hx (hb hby d1_0) rfl rfl (q := 1) rfl ?_
  refine Go.aloadN X0 hx (hb hby d1_1) rfl rfl (q := 2) rfl ?_
  refine Go.alen X0 hx hZ e0 Va (hb hby d1_2) ?_
  refine Go.aloadN X0 hx (hb hby d1_3) rfl rfl (q := 4) rfl ?_
  refine Go.getF X0 hx hZ hown (host := "") (Or.inl (wd9 hw)) Via.refl e0 (Fe.ext O0) (hb hby d1_4) (q := 7) rfl ?_
  intro T101 X101 e101
  refine Go.aln X101 hx hZ e101 (Le.ext O0) (hb hby d1_7) ?_
  refine Go.isub X101 hx (hb hby d1_8) (r := (1 : Int32)) rfl (q := 9) rfl ?_
  refine Go.callS X101 hx hZ hown (wd11 hw) (wd12 hw) (wd13 hw) (wd14 hw) (by decide) (ccpy_6_1 l Z a0 hw a (ka) x0 x1 x2 x3 x4 x5 h0 O0 Va) e101 (by rw [hml]; rfl) (hb hby d1_9) (argsL := [(.ref a), (.int (1 : Int32))]) (rest := []) (lenOf pd1 rfl) rfl rfl (W := 0) (by first | exact Nat.le_refl _ | decide) (by decide) (by decide) (by decide) (by decide) ?_
  intro v102 T102 L102 X102 hQ102
  obtain ⟨h102, e102⟩ : ∃ z, T102.heap = z := ⟨_, rfl⟩
  rw [e102] at hQ102
  obtain ⟨b_102, kb_102, rfl, N102q, K102, fr102_b, P102_0⟩ := hQ102
  have N102 := Fr.app N0 N102q
  have ne_a_b_102 : a ≠ b_102 := ne_new Va.lt fr102_b
  have ne_o_b_102 : o ≠ b_102 := ne_new (Fe.ext O0).lt fr102_b
  have g_b_102 : Z.heap.size ≤ b_102 := Nat.le_trans O0.1 fr102_b
  have z_b_102 : h0.size ≤ b_102 := Nat.le_trans KP.1 fr102_b
  replace Va := Va.keep K102 nin0
  have OK102 := ext_keep O0 K102 all0
  replace KP := KP.trans K102 all0
  exact Go.retA X102 hx hret hlk rfl rfl (hb hby d1_12) e102 (by decide) (by decide) ⟨b_102, kb_102, rfl, N102, KP, z_b_102, P102_0⟩
def Q_ccpy_7_2 (Z : State) (a : Addr) (ka : ClassId) (x0 : Int32) (x1 : Int32) (x2 : Int32) (x3 : Int32) (x4 : Int32) (x5 : Int32) (x6 : Int32) (h0 : Heap) (vR : Option Value) (hR : Heap) (LR : List Loc) : Prop := ∃ b : Addr, ∃ kb : ClassId, vR = some (.ref b) ∧ Fr Z.heap.size LR ∧ Keep h0 hR [] ∧ h0.size ≤ b ∧ Arv Z hR b kb .byte (2 : Int32) [(.int x0), (.int x1)] (.int (0 : Int32))
set_option maxRecDepth 65536 in
set_option maxHeartbeats 40000000 in
theorem ccpy_7_2 (l : Launch) (Z : State) (a0 : Array Value) (hw : ∀ d ∈ tables_1, d.before a0 Z = true) (a : Addr) (ka : ClassId) (x0 : Int32) (x1 : Int32) (x2 : Int32) (x3 : Int32) (x4 : Int32) (x5 : Int32) (x6 : Int32) (h0 : Heap) (O0 : Ext Z.heap h0) (Va : Arv Z h0 a ka .byte (7 : Int32) [(.int x0), (.int x1), (.int x2), (.int x3), (.int x4), (.int x5), (.int x6)] (.int (0 : Int32))) :
    Ctr l Z h0 (⟨"java/util/Arrays", "copyOf", "([BI)[B"⟩ : MethodName) jdk_65_method_121_code 3 (some (.array .byte)) [] ({ frames := 1, cells := 1, slots := 2, locals := 18 } : Room) #[(.ref a), (.int (2 : Int32))] (Q_ccpy_7_2 Z a ka x0 x1 x2 x3 x4 x5 x6 h0) := by
  refine enter (plainFor_of_name pn0) ?_
  intro pp ee ss mm below meth cc s₁ hx hby hml hZ hown hnm hret hlk X0 e0 hs0
  replace hown : ss.vm.findClass "java/util/Arrays" = some mm.cls := hown
  refine Go.cast (congrArg s₁.setTop (ef_ccpy_7_2 mm a)) ?_
  have N0 := Fr.nil Z.heap.size
  have KP := Keep.refl h0 []
  show Go pp ee below _ (s₁.setTop (mkF mm 0 #[.val (.ref a), .val (.int (2 : Int32)), .unset] []))
  refine Go.iloadN X0 hx (hb hby d2_0) rfl (q := 1) rfl ?_
  refine Go.aloadN X0 hx (hb hby d2_1) rfl rfl (q := 2) rfl ?_
  refine Go.alen X0 hx hZ e0 Va (hb hby d2_2) ?_
  refine Go.icmpYes X0 hx (hb hby d2_3) (by decide) (q := 14) (by decide) (by decide) ?_
  refine Go.iloadN X0 hx (hb hby d2_14) rfl (q := 15) rfl ?_
  refine Go.newP X0 hx hZ (hb hby d2_15) (wd3 hw) e0 (by decide) (cap := 2) (by decide) (by decide) (by decide) (by decide) (ad := "[B") rfl (q := 17) rfl ?_
  intro b101 T101 h101 k101 X101 e101 q101 E101 V101 B101
  have ne_a_b101 : a ≠ b101 := ne_new Va.lt (Nat.le_of_eq q101)
  have g_b101 : Z.heap.size ≤ b101 := Nat.le_trans O0.1 (Nat.le_of_eq q101)
  have z_b101 : h0.size ≤ b101 := Nat.le_trans KP.1 (Nat.le_of_eq q101)
  replace Va := Va.ext E101
  have OE101 := ext_trans O0 E101
  replace KP := KP.ext E101
  replace V101 : Arv Z h101 b101 k101 .byte (2 : Int32) [(.int (0 : Int32)), (.int (0 : Int32))] (.int (0 : Int32)) := V101.pad (pad_rep [] (.int (0 : Int32)) 2)
  refine Go.astoreN X101 hx (hb hby d2_17) rfl (l' := #[.val (.ref a), .val (.int (2 : Int32)), .val (.ref b101)]) rfl (q := 18) rfl ?_
  refine Go.aloadN X101 hx (hb hby d2_18) rfl rfl (q := 19) rfl ?_
  refine Go.iconst X101 hx (hb hby d2_19) (r := (0 : Int32)) rfl (q := 20) rfl ?_
  refine Go.aloadN X101 hx (hb hby d2_20) rfl rfl (q := 21) rfl ?_
  refine Go.iconst X101 hx (hb hby d2_21) (r := (0 : Int32)) rfl (q := 22) rfl ?_
  refine Go.aloadN X101 hx (hb hby d2_22) rfl rfl (q := 23) rfl ?_
  refine Go.alen X101 hx hZ e101 Va (hb hby d2_23) ?_
  refine Go.iloadN X101 hx (hb hby d2_24) rfl (q := 25) rfl ?_
  refine Go.callS X101 hx hZ hown (wd15 hw) (wd16 hw) (wd17 hw) (wd18 hw) (by decide) (cmin2 l Z a0 hw ((7 : Int32)) ((2 : Int32)) h101 OE101 (by decide)) e101 (by rw [hml]; rfl) (hb hby d2_25) (argsL := [(.int (7 : Int32)), (.int (2 : Int32))]) (rest := [(.int (0 : Int32)), (.ref b101), (.int (0 : Int32)), (.ref a)]) (lenOf pd0 rfl) rfl rfl (W := 4) (by first | exact Nat.le_refl _ | decide) (by decide) (by decide) (by decide) (by decide) ?_
  intro v102 T102 L102 X102 hQ102
  obtain ⟨rfl, N102q, e102⟩ := hQ102
  have N102 := Fr.app N0 N102q
  obtain ⟨T103, h103, L103, X103, e103, N103, K103, V103, st103⟩ := cpA X102 hx hZ hown (wd19 hw) (wd22 hw) (wd20 hw) (wd21 hw) e102 Va V101 (us := [(.int x0), (.int x1)]) (sp := (0 : Int32)) (dp := (0 : Int32)) (nn := (2 : Int32)) (Or.inl ⟨rfl, rfl⟩) (by decide) (by decide) (by decide) (by decide) (by decide) rfl (Nat.le_of_ble_eq_true rfl) N102 g_b101 (g := (mkF mm 28 #[.val (.ref a), .val (.int (2 : Int32)), .val (.ref b101)] [(.int (2 : Int32)), (.int (0 : Int32)), (.ref b101), (.int (0 : Int32)), (.ref a)])) rfl (by rw [hml]; rfl) rfl (hb hby d2_28) (by decide) (W := 0) (by show 2 * 0 + _ ≤ _; exact Nat.le_of_eq rfl) (by decide)
  refine Go.by st103 ?_
  replace Va := Va.keep K103 (ninS ne_a_b101 nin0)
  replace B101 := B101.keep K103
  have OK103 := ext_keep OE101 K103 (allS g_b101 all0)
  replace KP := KP.trans K103 (allS (Or.inr z_b101) all0)
  replace V103 : Arv Z h103 b101 k101 .byte (2 : Int32) [(.int x0), (.int x1)] (.int (0 : Int32)) := V103
  show Go pp ee below _ (T103.setTop (mkF mm 31 #[.val (.ref a), .val (.int (2 : Int32)), .val (.ref b101)] []))
  refine Go.aloadN X103 hx (hb hby d2_31) rfl rfl (q := 32) rfl ?_
  exact Go.retA X103 hx hret hlk rfl rfl (hb hby d2_32) e103 (by decide) (by decide) ⟨b101, k101, rfl, N103, KP, z_b101, V103⟩
def Q_cnp_5_2 (Z : State) (o : Addr) (q : Addr) (a : Addr) (ka : ClassId) (x0 : Int32) (x1 : Int32) (x2 : Int32) (x3 : Int32) (x4 : Int32) (x5 : Int32) (x6 : Int32) (h0 : Heap) (vR : Option Value) (hR : Heap) (LR : List Loc) : Prop := ∃ b : Addr, ∃ kb : ClassId, vR = some (.ref b) ∧ Fr Z.heap.size LR ∧ Keep h0 hR [] ∧ h0.size ≤ b ∧ Arv Z hR b kb .byte (2 : Int32) [(.int x0), (.int x1)] (.int (0 : Int32))
set_option maxRecDepth 65536 in
set_option maxHeartbeats 40000000 in
theorem cnp_5_2 (l : Launch) (Z : State) (a0 : Array Value) (hw : ∀ d ∈ tables_1, d.before a0 Z = true) (o : Addr) (q : Addr) (a : Addr) (ka : ClassId) (x0 : Int32) (x1 : Int32) (x2 : Int32) (x3 : Int32) (x4 : Int32) (x5 : Int32) (x6 : Int32) (h0 : Heap) (O0 : Ext Z.heap h0) (Va : Arv Z h0 a ka .byte (7 : Int32) [(.int x0), (.int x1), (.int x2), (.int x3), (.int x4), (.int x5), (.int x6)] (.int (0 : Int32))) (Fe : Fld Z Z.heap o "com/example/depositum/depositum/format/Checksum" "ending" "[B" (.ref q)) (Le : Lng Z Z.heap q (5 : Int32)) :
    Ctr l Z h0 (⟨"com/example/depositum/depositum/format/Checksum", "namedPath", "([B)[B"⟩ : MethodName) prog_36_method_7_code 2 (some (.array .byte)) [] ({ frames := 2, cells := 1, slots := 2, locals := 32 } : Room) #[(.ref o), (.ref a)] (Q_cnp_5_2 Z o q a ka x0 x1 x2 x3 x4 x5 x6 h0) := by
  refine enter (plainFor_of_name pn1) ?_
  intro pp ee ss mm below meth cc s₁ hx hby hml hZ hown hnm hret hlk X0 e0 hs0
  replace hown : ss.vm.findClass "com/example/depositum/depositum/format/Checksum" = some mm.cls := hown
  refine Go.cast (congrArg s₁.setTop (ef_cnp_5_2 mm o a)) ?_
  have N0 := Fr.nil Z.heap.size
  have KP := Keep.refl h0 []
  show Go pp ee below _ (s₁.setTop (mkF mm 0 #[.val (.ref o), .val (.ref a)] []))
  refine Go.aloadN X0 hx (hb hby d1_0) rfl rfl (q := 1) rfl ?_
  refine Go.aloadN X0 hx (hb hby d1_1) rfl rfl (q := 2) rfl ?_
  refine Go.alen X0 hx hZ e0 Va (hb hby d1_2) ?_
  refine Go.aloadN X0 hx (hb hby d1_3) rfl rfl (q := 4) rfl ?_
  refine Go.getF X0 hx hZ hown (host := "") (Or.inl (wd9 hw)) Via.refl e0 (Fe.ext O0) (hb hby d1_4) (q := 7) rfl ?_
  intro T101 X101 e101
  refine Go.aln X101 hx hZ e101 (Le.ext O0) (hb hby d1_7) ?_
  refine Go.isub X101 hx (hb hby d1_8) (r := (2 : Int32)) rfl (q := 9) rfl ?_
  refine Go.callS X101 hx hZ hown (wd11 hw) (wd12 hw) (wd13 hw) (wd14 hw) (by decide) (ccpy_7_2 l Z a0 hw a (ka) x0 x1 x2 x3 x4 x5 x6 h0 O0 Va) e101 (by rw [hml]; rfl) (hb hby d1_9) (argsL := [(.ref a), (.int (2 : Int32))]) (rest := []) (lenOf pd1 rfl) rfl rfl (W := 0) (by first | exact Nat.le_refl _ | decide) (by decide) (by decide) (by decide) (by decide) ?_
  intro v102 T102 L102 X102 hQ102
  obtain ⟨h102, e102⟩ : ∃ z, T102.heap = z := ⟨_, rfl⟩
  rw [e102] at hQ102
  obtain ⟨b_102, kb_102, rfl, N102q, K102, fr102_b, P102_0⟩ := hQ102
  have N102 := Fr.app N0 N102q
  have ne_a_b_102 : a ≠ b_102 := ne_new Va.lt fr102_b
  have ne_o_b_102 : o ≠ b_102 := ne_new (Fe.ext O0).lt fr102_b
  have g_b_102 : Z.heap.size ≤ b_102 := Nat.le_trans O0.1 fr102_b
  have z_b_102 : h0.size ≤ b_102 := Nat.le_trans KP.1 fr102_b
  replace Va := Va.keep K102 nin0
  have OK102 := ext_keep O0 K102 all0
  replace KP := KP.trans K102 all0
  exact Go.retA X102 hx hret hlk rfl rfl (hb hby d1_12) e102 (by decide) (by decide) ⟨b_102, kb_102, rfl, N102, KP, z_b_102, P102_0⟩
def Q_ccpy_8_3 (Z : State) (a : Addr) (ka : ClassId) (x0 : Int32) (x1 : Int32) (x2 : Int32) (x3 : Int32) (x4 : Int32) (x5 : Int32) (x6 : Int32) (x7 : Int32) (h0 : Heap) (vR : Option Value) (hR : Heap) (LR : List Loc) : Prop := ∃ b : Addr, ∃ kb : ClassId, vR = some (.ref b) ∧ Fr Z.heap.size LR ∧ Keep h0 hR [] ∧ h0.size ≤ b ∧ Arv Z hR b kb .byte (3 : Int32) [(.int x0), (.int x1), (.int x2)] (.int (0 : Int32))
set_option maxRecDepth 65536 in
set_option maxHeartbeats 40000000 in
theorem ccpy_8_3 (l : Launch) (Z : State) (a0 : Array Value) (hw : ∀ d ∈ tables_1, d.before a0 Z = true) (a : Addr) (ka : ClassId) (x0 : Int32) (x1 : Int32) (x2 : Int32) (x3 : Int32) (x4 : Int32) (x5 : Int32) (x6 : Int32) (x7 : Int32) (h0 : Heap) (O0 : Ext Z.heap h0) (Va : Arv Z h0 a ka .byte (8 : Int32) [(.int x0), (.int x1), (.int x2), (.int x3), (.int x4), (.int x5), (.int x6), (.int x7)] (.int (0 : Int32))) :
    Ctr l Z h0 (⟨"java/util/Arrays", "copyOf", "([BI)[B"⟩ : MethodName) jdk_65_method_121_code 3 (some (.array .byte)) [] ({ frames := 1, cells := 1, slots := 3, locals := 18 } : Room) #[(.ref a), (.int (3 : Int32))] (Q_ccpy_8_3 Z a ka x0 x1 x2 x3 x4 x5 x6 x7 h0) := by
  refine enter (plainFor_of_name pn0) ?_
  intro pp ee ss mm below meth cc s₁ hx hby hml hZ hown hnm hret hlk X0 e0 hs0
  replace hown : ss.vm.findClass "java/util/Arrays" = some mm.cls := hown
  refine Go.cast (congrArg s₁.setTop (ef_ccpy_8_3 mm a)) ?_
  have N0 := Fr.nil Z.heap.size
  have KP := Keep.refl h0 []
  show Go pp ee below _ (s₁.setTop (mkF mm 0 #[.val (.ref a), .val (.int (3 : Int32)), .unset] []))
  refine Go.iloadN X0 hx (hb hby d2_0) rfl (q := 1) rfl ?_
  refine Go.aloadN X0 hx (hb hby d2_1) rfl rfl (q := 2) rfl ?_
  refine Go.alen X0 hx hZ e0 Va (hb hby d2_2) ?_
  refine Go.icmpYes X0 hx (hb hby d2_3) (by decide) (q := 14) (by decide) (by decide) ?_
  refine Go.iloadN X0 hx (hb hby d2_14) rfl (q := 15) rfl ?_
  refine Go.newP X0 hx hZ (hb hby d2_15) (wd3 hw) e0 (by decide) (cap := 3) (by decide) (by decide) (by decide) (by decide) (ad := "[B") rfl (q := 17) rfl ?_
  intro b101 T101 h101 k101 X101 e101 q101 E101 V101 B101
  have ne_a_b101 : a ≠ b101 := ne_new Va.lt (Nat.le_of_eq q101)
  have g_b101 : Z.heap.size ≤ b101 := Nat.le_trans O0.1 (Nat.le_of_eq q101)
  have z_b101 : h0.size ≤ b101 := Nat.le_trans KP.1 (Nat.le_of_eq q101)
  replace Va := Va.ext E101
  have OE101 := ext_trans O0 E101
  replace KP := KP.ext E101
  replace V101 : Arv Z h101 b101 k101 .byte (3 : Int32) [(.int (0 : Int32)), (.int (0 : Int32)), (.int (0 : Int32))] (.int (0 : Int32)) := V101.pad (pad_rep [] (.int (0 : Int32)) 3)
  refine Go.astoreN X101 hx (hb hby d2_17) rfl (l' := #[.val (.ref a), .val (.int (3 : Int32)), .val (.ref b101)]) rfl (q := 18) rfl ?_
  refine Go.aloadN X101 hx (hb hby d2_18) rfl rfl (q := 19) rfl ?_
  refine Go.iconst X101 hx (hb hby d2_19) (r := (0 : Int32)) rfl (q := 20) rfl ?_
  refine Go.aloadN X101 hx (hb hby d2_20) rfl rfl (q := 21) rfl ?_
  refine Go.iconst X101 hx (hb hby d2_21) (r := (0 : Int32)) rfl (q := 22) rfl ?_
  refine Go.aloadN X101 hx (hb hby d2_22) rfl rfl (q := 23) rfl ?_
  refine Go.alen X101 hx hZ e101 Va (hb hby d2_23) ?_
  refine Go.iloadN X101 hx (hb hby d2_24) rfl (q := 25) rfl ?_
  refine Go.callS X101 hx hZ hown (wd15 hw) (wd16 hw) (wd17 hw) (wd18 hw) (by decide) (cmin2 l Z a0 hw ((8 : Int32)) ((3 : Int32)) h101 OE101 (by decide)) e101 (by rw [hml]; rfl) (hb hby d2_25) (argsL := [(.int (8 : Int32)), (.int (3 : Int32))]) (rest := [(.int (0 : Int32)), (.ref b101), (.int (0 : Int32)), (.ref a)]) (lenOf pd0 rfl) rfl rfl (W := 4) (by first | exact Nat.le_refl _ | decide) (by decide) (by decide) (by decide) (by decide) ?_
  intro v102 T102 L102 X102 hQ102
  obtain ⟨rfl, N102q, e102⟩ := hQ102
  have N102 := Fr.app N0 N102q
  obtain ⟨T103, h103, L103, X103, e103, N103, K103, V103, st103⟩ := cpA X102 hx hZ hown (wd19 hw) (wd22 hw) (wd20 hw) (wd21 hw) e102 Va V101 (us := [(.int x0), (.int x1), (.int x2)]) (sp := (0 : Int32)) (dp := (0 : Int32)) (nn := (3 : Int32)) (Or.inl ⟨rfl, rfl⟩) (by decide) (by decide) (by decide) (by decide) (by decide) rfl (Nat.le_of_ble_eq_true rfl) N102 g_b101 (g := (mkF mm 28 #[.val (.ref a), .val (.int (3 : Int32)), .val (.ref b101)] [(.int (3 : Int32)), (.int (0 : Int32)), (.ref b101), (.int (0 : Int32)), (.ref a)])) rfl (by rw [hml]; rfl) rfl (hb hby d2_28) (by decide) (W := 0) (by show 2 * 0 + _ ≤ _; exact Nat.le_of_eq rfl) (by decide)
  refine Go.by st103 ?_
  replace Va := Va.keep K103 (ninS ne_a_b101 nin0)
  replace B101 := B101.keep K103
  have OK103 := ext_keep OE101 K103 (allS g_b101 all0)
  replace KP := KP.trans K103 (allS (Or.inr z_b101) all0)
  replace V103 : Arv Z h103 b101 k101 .byte (3 : Int32) [(.int x0), (.int x1), (.int x2)] (.int (0 : Int32)) := V103
  show Go pp ee below _ (T103.setTop (mkF mm 31 #[.val (.ref a), .val (.int (3 : Int32)), .val (.ref b101)] []))
  refine Go.aloadN X103 hx (hb hby d2_31) rfl rfl (q := 32) rfl ?_
  exact Go.retA X103 hx hret hlk rfl rfl (hb hby d2_32) e103 (by decide) (by decide) ⟨b101, k101, rfl, N103, KP, z_b101, V103⟩
def Q_cnp_5_3 (Z : State) (o : Addr) (q : Addr) (a : Addr) (ka : ClassId) (x0 : Int32) (x1 : Int32) (x2 : Int32) (x3 : Int32) (x4 : Int32) (x5 : Int32) (x6 : Int32) (x7 : Int32) (h0 : Heap) (vR : Option Value) (hR : Heap) (LR : List Loc) : Prop := ∃ b : Addr, ∃ kb : ClassId, vR = some (.ref b) ∧ Fr Z.heap.size LR ∧ Keep h0 hR [] ∧ h0.size ≤ b ∧ Arv Z hR b kb .byte (3 : Int32) [(.int x0), (.int x1), (.int x2)] (.int (0 : Int32))
set_option maxRecDepth 65536 in
set_option maxHeartbeats 40000000 in
theorem cnp_5_3 (l : Launch) (Z : State) (a0 : Array Value) (hw : ∀ d ∈ tables_1, d.before a0 Z = true) (o : Addr) (q : Addr) (a : Addr) (ka : ClassId) (x0 : Int32) (x1 : Int32) (x2 : Int32) (x3 : Int32) (x4 : Int32) (x5 : Int32) (x6 : Int32) (x7 : Int32) (h0 : Heap) (O0 : Ext Z.heap h0) (Va : Arv Z h0 a ka .byte (8 : Int32) [(.int x0), (.int x1), (.int x2), (.int x3), (.int x4), (.int x5), (.int x6), (.int x7)] (.int (0 : Int32))) (Fe : Fld Z Z.heap o "com/example/depositum/depositum/format/Checksum" "ending" "[B" (.ref q)) (Le : Lng Z Z.heap q (5 : Int32)) :
    Ctr l Z h0 (⟨"com/example/depositum/depositum/format/Checksum", "namedPath", "([B)[B"⟩ : MethodName) prog_36_method_7_code 2 (some (.array .byte)) [] ({ frames := 2, cells := 1, slots := 3, locals := 32 } : Room) #[(.ref o), (.ref a)] (Q_cnp_5_3 Z o q a ka x0 x1 x2 x3 x4 x5 x6 x7 h0) := by
  refine enter (plainFor_of_name pn1) ?_
  intro pp ee ss mm below meth cc s₁ hx hby hml hZ hown hnm hret hlk X0 e0 hs0
  replace hown : ss.vm.findClass "com/example/depositum/depositum/format/Checksum" = some mm.cls := hown
  refine Go.cast (congrArg s₁.setTop (ef_cnp_5_3 mm o a)) ?_
  have N0 := Fr.nil Z.heap.size
  have KP := Keep.refl h0 []
  show Go pp ee below _ (s₁.setTop (mkF mm 0 #[.val (.ref o), .val (.ref a)] []))
  refine Go.aloadN X0 hx (hb hby d1_0) rfl rfl (q := 1) rfl ?_
  refine Go.aloadN X0 hx (hb hby d1_1) rfl rfl (q := 2) rfl ?_
  refine Go.alen X0 hx hZ e0 Va (hb hby d1_2) ?_
  refine Go.aloadN X0 hx (hb hby d1_3) rfl rfl (q := 4) rfl ?_
  refine Go.getF X0 hx hZ hown (host := "") (Or.inl (wd9 hw)) Via.refl e0 (Fe.ext O0) (hb hby d1_4) (q := 7) rfl ?_
  intro T101 X101 e101
  refine Go.aln X101 hx hZ e101 (Le.ext O0) (hb hby d1_7) ?_
  refine Go.isub X101 hx (hb hby d1_8) (r := (3 : Int32)) rfl (q := 9) rfl ?_
  refine Go.callS X101 hx hZ hown (wd11 hw) (wd12 hw) (wd13 hw) (wd14 hw) (by decide) (ccpy_8_3 l Z a0 hw a (ka) x0 x1 x2 x3 x4 x5 x6 x7 h0 O0 Va) e101 (by rw [hml]; rfl) (hb hby d1_9) (argsL := [(.ref a), (.int (3 : Int32))]) (rest := []) (lenOf pd1 rfl) rfl rfl (W := 0) (by first | exact Nat.le_refl _ | decide) (by decide) (by decide) (by decide) (by decide) ?_
  intro v102 T102 L102 X102 hQ102
  obtain ⟨h102, e102⟩ : ∃ z, T102.heap = z := ⟨_, rfl⟩
  rw [e102] at hQ102
  obtain ⟨b_102, kb_102, rfl, N102q, K102, fr102_b, P102_0⟩ := hQ102
  have N102 := Fr.app N0 N102q
  have ne_a_b_102 : a ≠ b_102 := ne_new Va.lt fr102_b
  have ne_o_b_102 : o ≠ b_102 := ne_new (Fe.ext O0).lt fr102_b
  have g_b_102 : Z.heap.size ≤ b_102 := Nat.le_trans O0.1 fr102_b
  have z_b_102 : h0.size ≤ b_102 := Nat.le_trans KP.1 fr102_b
  replace Va := Va.keep K102 nin0
  have OK102 := ext_keep O0 K102 all0
  replace KP := KP.trans K102 all0
  exact Go.retA X102 hx hret hlk rfl rfl (hb hby d1_12) e102 (by decide) (by decide) ⟨b_102, kb_102, rfl, N102, KP, z_b_102, P102_0⟩
def Q_law0 (Z : State) (ps : Int32) (pa : Int32) (pb : Int32) (pz : Int32) (a_MD5 : Addr) (a_SHA1 : Addr) (a_MD5_ending : Addr) (a_SHA1_ending : Addr) (h0 : Heap) (vR : Option Value) (hR : Heap) (LR : List Loc) : Prop := vR = some (.int (1 : Int32)) ∧ Fr Z.heap.size LR
set_option maxRecDepth 65536 in
set_option maxHeartbeats 40000000 in
theorem law0 (l : Launch) (Z : State) (a0 : Array Value) (hw : ∀ d ∈ tables_1, d.before a0 Z = true) (ps : Int32) (pa : Int32) (pb : Int32) (pz : Int32) (a_MD5 : Addr) (a_SHA1 : Addr) (a_MD5_ending : Addr) (a_SHA1_ending : Addr) (h0 : Heap) (O0 : Ext Z.heap h0) (S_MD5 : Sta Z Z.heap "com/example/depositum/depositum/format/Checksum" "MD5" "Lcom/example/depositum/depositum/format/Checksum;" (.ref a_MD5)) (S_SHA1 : Sta Z Z.heap "com/example/depositum/depositum/format/Checksum" "SHA1" "Lcom/example/depositum/depositum/format/Checksum;" (.ref a_SHA1)) (E_MD5 : Exa Z Z.heap a_MD5 "com/example/depositum/depositum/format/Checksum") (E_SHA1 : Exa Z Z.heap a_SHA1 "com/example/depositum/depositum/format/Checksum") (F_MD5_ending : Fld Z Z.heap a_MD5 "com/example/depositum/depositum/format/Checksum" "ending" "[B" (.ref a_MD5_ending)) (F_SHA1_ending : Fld Z Z.heap a_SHA1 "com/example/depositum/depositum/format/Checksum" "ending" "[B" (.ref a_SHA1_ending)) (L_MD5_ending : Lng Z Z.heap a_MD5_ending (4 : Int32)) (L_SHA1_ending : Lng Z Z.heap a_SHA1_ending (5 : Int32)) :
    Ctr l Z h0 x code maxLocals ret tables_1 room_1 #[(.int ps), (.int pa), (.int pb), (.int pz)] (Q_law0 Z ps pa pb pz a_MD5 a_SHA1 a_MD5_ending a_SHA1_ending h0) := by
  refine enter (plainFor_of_name pn2) ?_
  intro pp ee ss mm below meth cc s₁ hx hby hml hZ hown hnm hret hlk X0 e0 hs0
  replace hown : ss.vm.findClass "com/example/depositum/depositum/format/ChecksumNamedPathPinLaw" = some mm.cls := hown
  refine Go.cast (congrArg s₁.setTop (ef_law0 mm ps pa pb pz)) ?_
  have N0 := Fr.nil Z.heap.size
  show Go pp ee below _ (s₁.setTop (mkF mm 0 #[.val (.int ps), .val (.int pa), .val (.int pb), .val (.int pz), .unset, .unset, .unset, .unset, .unset, .unset, .unset, .unset, .unset] []))
  refine Go.iloadN X0 hx (hb hby at_0) rfl (q := 1) rfl ?_
  refine Go.iconst X0 hx (hb hby at_1) (r := (1 : Int32)) rfl (q := 2) rfl ?_
  refine Go.iand X0 hx (hb hby at_2) rfl (q := 3) rfl ?_
  by_cases hc101 : (ps &&& (1 : Int32)) = (0 : Int32)
  · refine Go.ifYes X0 hx (hb hby at_3) (Jvm.Free.XT.i0_eq_t hc101) (q := 10) (by decide) (by decide) ?_
    refine Go.iconst X0 hx (hb hby at_10) (r := (0 : Int32)) rfl (q := 11) rfl ?_
    refine Go.istore X0 hx (hb hby at_11) (l' := #[.val (.int ps), .val (.int pa), .val (.int pb), .val (.int pz), .val (.int (0 : Int32)), .unset, .unset, .unset, .unset, .unset, .unset, .unset, .unset]) rfl (q := 13) rfl ?_
    refine Go.iload X0 hx (hb hby at_13) rfl (q := 15) rfl ?_
    refine Go.ifYes X0 hx (hb hby at_15) (by decide) (q := 24) (by decide) (by decide) ?_
    refine Go.getS X0 hx hZ hown (host := "") (Or.inl (wd0 hw)) Via.refl e0 (S_MD5.ext O0) (hb hby at_24) (q := 27) rfl ?_
    intro T102 X102 e102
    refine Go.astore X102 hx (hb hby at_27) rfl (l' := #[.val (.int ps), .val (.int pa), .val (.int pb), .val (.int pz), .val (.int (0 : Int32)), .val (.ref a_MD5), .unset, .unset, .unset, .unset, .unset, .unset, .unset]) rfl (q := 29) rfl ?_
    refine Go.iloadN X102 hx (hb hby at_29) rfl (q := 30) rfl ?_
    refine Go.iconst X102 hx (hb hby at_30) (r := (1 : Int32)) rfl (q := 31) rfl ?_
    refine Go.iushr X102 hx (hb hby at_31) rfl (q := 32) rfl ?_
    refine Go.iconst X102 hx (hb hby at_32) (r := (3 : Int32)) rfl (q := 33) rfl ?_
    refine Go.iand X102 hx (hb hby at_33) rfl (q := 34) rfl ?_
    have hk := own_and3 ((ps.toUInt32 >>> ((1 : Int32) &&& 31).toUInt32).toInt32)
    generalize (((ps.toUInt32 >>> ((1 : Int32) &&& 31).toUInt32).toInt32) &&& (3 : Int32)) = k at hk ⊢
    rcases hk with rfl | rfl | rfl | rfl
    · show Go pp ee below _ (T102.setTop (mkF mm 34 #[.val (.int ps), .val (.int pa), .val (.int pb), .val (.int pz), .val (.int (0 : Int32)), .val (.ref a_MD5), .unset, .unset, .unset, .unset, .unset, .unset, .unset] [(.int (0 : Int32))]))
      refine Go.istore X102 hx (hb hby at_34) (l' := #[.val (.int ps), .val (.int pa), .val (.int pb), .val (.int pz), .val (.int (0 : Int32)), .val (.ref a_MD5), .val (.int (0 : Int32)), .unset, .unset, .unset, .unset, .unset, .unset]) rfl (q := 36) rfl ?_
      refine Go.iload X102 hx (hb hby at_36) rfl (q := 38) rfl ?_
      refine Go.ifYes X102 hx (hb hby at_38) (by decide) (q := 45) (by decide) (by decide) ?_
      refine Go.iconst X102 hx (hb hby at_45) (r := (4 : Int32)) rfl (q := 46) rfl ?_
      refine Go.istore X102 hx (hb hby at_46) (l' := #[.val (.int ps), .val (.int pa), .val (.int pb), .val (.int pz), .val (.int (0 : Int32)), .val (.ref a_MD5), .val (.int (0 : Int32)), .val (.int (4 : Int32)), .unset, .unset, .unset, .unset, .unset]) rfl (q := 48) rfl ?_
      refine Go.iloadN X102 hx (hb hby at_48) rfl (q := 49) rfl ?_
      refine Go.i2b X102 hx (hb hby at_49) rfl (q := 50) rfl ?_
      refine Go.istore X102 hx (hb hby at_50) (l' := #[.val (.int ps), .val (.int pa), .val (.int pb), .val (.int pz), .val (.int (0 : Int32)), .val (.ref a_MD5), .val (.int (0 : Int32)), .val (.int (4 : Int32)), .val (.int (pa.toInt8.toInt32)), .unset, .unset, .unset, .unset]) rfl (q := 52) rfl ?_
      refine Go.iloadN X102 hx (hb hby at_52) rfl (q := 53) rfl ?_
      refine Go.i2b X102 hx (hb hby at_53) rfl (q := 54) rfl ?_
      refine Go.istore X102 hx (hb hby at_54) (l' := #[.val (.int ps), .val (.int pa), .val (.int pb), .val (.int pz), .val (.int (0 : Int32)), .val (.ref a_MD5), .val (.int (0 : Int32)), .val (.int (4 : Int32)), .val (.int (pa.toInt8.toInt32)), .val (.int (pb.toInt8.toInt32)), .unset, .unset, .unset]) rfl (q := 56) rfl ?_
      refine Go.iloadN X102 hx (hb hby at_56) rfl (q := 57) rfl ?_
      refine Go.i2b X102 hx (hb hby at_57) rfl (q := 58) rfl ?_
      refine Go.istore X102 hx (hb hby at_58) (l' := #[.val (.int ps), .val (.int pa), .val (.int pb), .val (.int pz), .val (.int (0 : Int32)), .val (.ref a_MD5), .val (.int (0 : Int32)), .val (.int (4 : Int32)), .val (.int (pa.toInt8.toInt32)), .val (.int (pb.toInt8.toInt32)), .val (.int (pz.toInt8.toInt32)), .unset, .unset]) rfl (q := 60) rfl ?_
      refine Go.iload X102 hx (hb hby at_60) rfl (q := 62) rfl ?_
      refine Go.iload X102 hx (hb hby at_62) rfl (q := 64) rfl ?_
      refine Go.iadd X102 hx (hb hby at_64) (r := (4 : Int32)) rfl (q := 65) rfl ?_
      refine Go.newP X102 hx hZ (hb hby at_65) (wd3 hw) e102 (by decide) (cap := 4) (by decide) (by decide) (by decide) (by decide) (ad := "[B") rfl (q := 67) rfl ?_
      intro b103 T103 h103 k103 X103 e103 q103 E103 V103 B103
      have ne_a_MD5_b103 : a_MD5 ≠ b103 := ne_new (E_MD5.ext O0).lt (Nat.le_of_eq q103)
      have ne_a_SHA1_b103 : a_SHA1 ≠ b103 := ne_new (E_SHA1.ext O0).lt (Nat.le_of_eq q103)
      have g_b103 : Z.heap.size ≤ b103 := Nat.le_trans O0.1 (Nat.le_of_eq q103)
      have OE103 := ext_trans O0 E103
      replace V103 : Arv Z h103 b103 k103 .byte (4 : Int32) [(.int (0 : Int32)), (.int (0 : Int32)), (.int (0 : Int32)), (.int (0 : Int32))] (.int (0 : Int32)) := V103.pad (pad_rep [] (.int (0 : Int32)) 4)
      refine Go.astore X103 hx (hb hby at_67) rfl (l' := #[.val (.int ps), .val (.int pa), .val (.int pb), .val (.int pz), .val (.int (0 : Int32)), .val (.ref a_MD5), .val (.int (0 : Int32)), .val (.int (4 : Int32)), .val (.int (pa.toInt8.toInt32)), .val (.int (pb.toInt8.toInt32)), .val (.int (pz.toInt8.toInt32)), .val (.ref b103), .unset]) rfl (q := 69) rfl ?_
      refine Go.iload X103 hx (hb hby at_69) rfl (q := 71) rfl ?_
      refine Go.ifYes X103 hx (hb hby at_71) (by decide) (q := 80) (by decide) (by decide) ?_
      refine Go.iload X103 hx (hb hby at_80) rfl (q := 82) rfl ?_
      refine Go.iconst X103 hx (hb hby at_82) (r := (1 : Int32)) rfl (q := 83) rfl ?_
      refine Go.icmpYes X103 hx (hb hby at_83) (by decide) (q := 92) (by decide) (by decide) ?_
      refine Go.iload X103 hx (hb hby at_92) rfl (q := 94) rfl ?_
      refine Go.iconst X103 hx (hb hby at_94) (r := (2 : Int32)) rfl (q := 95) rfl ?_
      refine Go.icmpYes X103 hx (hb hby at_95) (by decide) (q := 104) (by decide) (by decide) ?_
      refine Go.aload X103 hx (hb hby at_104) rfl rfl (q := 106) rfl ?_
      refine Go.iload X103 hx (hb hby at_106) rfl (q := 108) rfl ?_
      refine Go.bipush X103 hx (hb hby at_108) (r := (46 : Int32)) rfl (q := 110) rfl ?_
      refine Go.bst X103 hx hZ e103 V103 ⟨by decide, by decide⟩ (i := 0) rfl (Nat.le_of_ble_eq_true rfl) (hb hby at_110) ?_
      intro T104 h104 X104 e104 W104 V104
      replace V104 : Arv Z h104 b103 k103 .byte (4 : Int32) [(.int (46 : Int32)), (.int (0 : Int32)), (.int (0 : Int32)), (.int (0 : Int32))] (.int (0 : Int32)) := V104
      have N104 := Fr.snoc X104 N0 g_b103
      replace B103 := B103.wr W104
      have OW104 := ext_wr OE103 W104 g_b103
      refine Go.iload X104 hx (hb hby at_111) rfl (q := 113) rfl ?_
      refine Go.ifYes X104 hx (hb hby at_113) (by decide) (q := 155) (by decide) (by decide) ?_
      refine Go.aload X104 hx (hb hby at_155) rfl rfl (q := 157) rfl ?_
      refine Go.iload X104 hx (hb hby at_157) rfl (q := 159) rfl ?_
      refine Go.iconst X104 hx (hb hby at_159) (r := (1 : Int32)) rfl (q := 160) rfl ?_
      refine Go.iadd X104 hx (hb hby at_160) (r := (1 : Int32)) rfl (q := 161) rfl ?_
      refine Go.bipush X104 hx (hb hby at_161) (r := (109 : Int32)) rfl (q := 163) rfl ?_
      refine Go.bst X104 hx hZ e104 V104 ⟨by decide, by decide⟩ (i := 1) rfl (Nat.le_of_ble_eq_true rfl) (hb hby at_163) ?_
      intro T105 h105 X105 e105 W105 V105
      replace V105 : Arv Z h105 b103 k103 .byte (4 : Int32) [(.int (46 : Int32)), (.int (109 : Int32)), (.int (0 : Int32)), (.int (0 : Int32))] (.int (0 : Int32)) := V105
      have N105 := Fr.snoc X105 N104 g_b103
      replace B103 := B103.wr W105
      have OW105 := ext_wr OW104 W105 g_b103
      refine Go.aload X105 hx (hb hby at_164) rfl rfl (q := 166) rfl ?_
      refine Go.iload X105 hx (hb hby at_166) rfl (q := 168) rfl ?_
      refine Go.iconst X105 hx (hb hby at_168) (r := (2 : Int32)) rfl (q := 169) rfl ?_
      refine Go.iadd X105 hx (hb hby at_169) (r := (2 : Int32)) rfl (q := 170) rfl ?_
      refine Go.bipush X105 hx (hb hby at_170) (r := (100 : Int32)) rfl (q := 172) rfl ?_
      refine Go.bst X105 hx hZ e105 V105 ⟨by decide, by decide⟩ (i := 2) rfl (Nat.le_of_ble_eq_true rfl) (hb hby at_172) ?_
      intro T106 h106 X106 e106 W106 V106
      replace V106 : Arv Z h106 b103 k103 .byte (4 : Int32) [(.int (46 : Int32)), (.int (109 : Int32)), (.int (100 : Int32)), (.int (0 : Int32))] (.int (0 : Int32)) := V106
      have N106 := Fr.snoc X106 N105 g_b103
      replace B103 := B103.wr W106
      have OW106 := ext_wr OW105 W106 g_b103
      refine Go.aload X106 hx (hb hby at_173) rfl rfl (q := 175) rfl ?_
      refine Go.iload X106 hx (hb hby at_175) rfl (q := 177) rfl ?_
      refine Go.iconst X106 hx (hb hby at_177) (r := (3 : Int32)) rfl (q := 178) rfl ?_
      refine Go.iadd X106 hx (hb hby at_178) (r := (3 : Int32)) rfl (q := 179) rfl ?_
      refine Go.bipush X106 hx (hb hby at_179) (r := (53 : Int32)) rfl (q := 181) rfl ?_
      refine Go.bst X106 hx hZ e106 V106 ⟨by decide, by decide⟩ (i := 3) rfl (Nat.le_of_ble_eq_true rfl) (hb hby at_181) ?_
      intro T107 h107 X107 e107 W107 V107
      replace V107 : Arv Z h107 b103 k103 .byte (4 : Int32) [(.int (46 : Int32)), (.int (109 : Int32)), (.int (100 : Int32)), (.int (53 : Int32))] (.int (0 : Int32)) := V107
      have N107 := Fr.snoc X107 N106 g_b103
      replace B103 := B103.wr W107
      have OW107 := ext_wr OW106 W107 g_b103
      refine Go.aload X107 hx (hb hby at_182) rfl rfl (q := 184) rfl ?_
      refine Go.aload X107 hx (hb hby at_184) rfl rfl (q := 186) rfl ?_
      refine Go.virt X107 hx hZ hown (wd4 hw) (wd5 hw) (notFace_of_selects (args := #[]) (mvT hZ (wd7 hw))) (wd7 hw) (wd6 hw) (wd1 hw) (wd8 hw) (by decide) (cnp_4_0 l Z a0 hw a_MD5 a_MD5_ending b103 (k103) ((46 : Int32)) ((109 : Int32)) ((100 : Int32)) ((53 : Int32)) h107 OW107 V107 F_MD5_ending L_MD5_ending) e107 (E_MD5.ext OW107) (by rw [hml]; rfl) (hb hby at_186) (argsL := [(.ref b103)]) (rest := []) (lenOf pd2 rfl) rfl rfl (W := 0) (by first | exact Nat.le_refl _ | decide) (by decide) (by decide) (by decide) (by decide) ?_
      intro v108 T108 L108 X108 hQ108
      obtain ⟨h108, e108⟩ : ∃ z, T108.heap = z := ⟨_, rfl⟩
      rw [e108] at hQ108
      obtain ⟨b_108, kb_108, rfl, N108q, K108, fr108_b, P108_0⟩ := hQ108
      have N108 := Fr.app N107 N108q
      have ne_b103_b_108 : b103 ≠ b_108 := ne_new B103.lt fr108_b
      have ne_a_MD5_b_108 : a_MD5 ≠ b_108 := ne_new (E_MD5.ext OW107).lt fr108_b
      have ne_a_SHA1_b_108 : a_SHA1 ≠ b_108 := ne_new (E_SHA1.ext OW107).lt fr108_b
      have g_b_108 : Z.heap.size ≤ b_108 := Nat.le_trans OW107.1 fr108_b
      replace B103 := B103.keep K108
      replace V107 := V107.keep K108 nin0
      have OK108 := ext_keep OW107 K108 all0
      refine Go.astore X108 hx (hb hby at_189) rfl (l' := #[.val (.int ps), .val (.int pa), .val (.int pb), .val (.int pz), .val (.int (0 : Int32)), .val (.ref a_MD5), .val (.int (0 : Int32)), .val (.int (4 : Int32)), .val (.int (pa.toInt8.toInt32)), .val (.int (pb.toInt8.toInt32)), .val (.int (pz.toInt8.toInt32)), .val (.ref b103), .val (.ref b_108)]) rfl (q := 191) rfl ?_
      refine Go.aload X108 hx (hb hby at_191) rfl rfl (q := 193) rfl ?_
      refine Go.ifnonnullYes X108 hx (hb hby at_193) (q := 198) (by decide) (by decide) ?_
      refine Go.aload X108 hx (hb hby at_198) rfl rfl (q := 200) rfl ?_
      refine Go.alen X108 hx hZ e108 P108_0 (hb hby at_200) ?_
      refine Go.iload X108 hx (hb hby at_201) rfl (q := 203) rfl ?_
      refine Go.icmpYes X108 hx (hb hby at_203) (by decide) (q := 208) (by decide) (by decide) ?_
      refine Go.iload X108 hx (hb hby at_208) rfl (q := 210) rfl ?_
      refine Go.ifYes X108 hx (hb hby at_210) (by decide) (q := 224) (by decide) (by decide) ?_
      refine Go.iload X108 hx (hb hby at_224) rfl (q := 226) rfl ?_
      refine Go.iconst X108 hx (hb hby at_226) (r := (1 : Int32)) rfl (q := 227) rfl ?_
      refine Go.icmpYes X108 hx (hb hby at_227) (by decide) (q := 241) (by decide) (by decide) ?_
      refine Go.iload X108 hx (hb hby at_241) rfl (q := 243) rfl ?_
      refine Go.iconst X108 hx (hb hby at_243) (r := (2 : Int32)) rfl (q := 244) rfl ?_
      refine Go.icmpYes X108 hx (hb hby at_244) (by decide) (q := 258) (by decide) (by decide) ?_
      refine Go.aload X108 hx (hb hby at_258) rfl rfl (q := 260) rfl ?_
      refine Go.iload X108 hx (hb hby at_260) rfl (q := 262) rfl ?_
      refine Go.bal X108 hx hZ e108 V107 ⟨by decide, by decide⟩ (v := (.int (46 : Int32))) rfl (hb hby at_262) ?_
      refine Go.bipush X108 hx (hb hby at_263) (r := (46 : Int32)) rfl (q := 265) rfl ?_
      refine Go.icmpYes X108 hx (hb hby at_265) (by decide) (q := 270) (by decide) (by decide) ?_
      refine Go.iconst X108 hx (hb hby at_270) (r := (1 : Int32)) rfl (q := 271) rfl ?_
      exact Go.retI X108 hx hret hlk (by simp) rfl (hb hby at_271) e108 (by decide) (by decide) ⟨rfl, N108⟩
    · show Go pp ee below _ (T102.setTop (mkF mm 34 #[.val (.int ps), .val (.int pa), .val (.int pb), .val (.int pz), .val (.int (0 : Int32)), .val (.ref a_MD5), .unset, .unset, .unset, .unset, .unset, .unset, .unset] [(.int (1 : Int32))]))
      refine Go.istore X102 hx (hb hby at_34) (l' := #[.val (.int ps), .val (.int pa), .val (.int pb), .val (.int pz), .val (.int (0 : Int32)), .val (.ref a_MD5), .val (.int (1 : Int32)), .unset, .unset, .unset, .unset, .unset, .unset]) rfl (q := 36) rfl ?_
      refine Go.iload X102 hx (hb hby at_36) rfl (q := 38) rfl ?_
      refine Go.ifYes X102 hx (hb hby at_38) (by decide) (q := 45) (by decide) (by decide) ?_
      refine Go.iconst X102 hx (hb hby at_45) (r := (4 : Int32)) rfl (q := 46) rfl ?_
      refine Go.istore X102 hx (hb hby at_46) (l' := #[.val (.int ps), .val (.int pa), .val (.int pb), .val (.int pz), .val (.int (0 : Int32)), .val (.ref a_MD5), .val (.int (1 : Int32)), .val (.int (4 : Int32)), .unset, .unset, .unset, .unset, .unset]) rfl (q := 48) rfl ?_
      refine Go.iloadN X102 hx (hb hby at_48) rfl (q := 49) rfl ?_
      refine Go.i2b X102 hx (hb hby at_49) rfl (q := 50) rfl ?_
      refine Go.istore X102 hx (hb hby at_50) (l' := #[.val (.int ps), .val (.int pa), .val (.int pb), .val (.int pz), .val (.int (0 : Int32)), .val (.ref a_MD5), .val (.int (1 : Int32)), .val (.int (4 : Int32)), .val (.int (pa.toInt8.toInt32)), .unset, .unset, .unset, .unset]) rfl (q := 52) rfl ?_
      refine Go.iloadN X102 hx (hb hby at_52) rfl (q := 53) rfl ?_
      refine Go.i2b X102 hx (hb hby at_53) rfl (q := 54) rfl ?_
      refine Go.istore X102 hx (hb hby at_54) (l' := #[.val (.int ps), .val (.int pa), .val (.int pb), .val (.int pz), .val (.int (0 : Int32)), .val (.ref a_MD5), .val (.int (1 : Int32)), .val (.int (4 : Int32)), .val (.int (pa.toInt8.toInt32)), .val (.int (pb.toInt8.toInt32)), .unset, .unset, .unset]) rfl (q := 56) rfl ?_
      refine Go.iloadN X102 hx (hb hby at_56) rfl (q := 57) rfl ?_
      refine Go.i2b X102 hx (hb hby at_57) rfl (q := 58) rfl ?_
      refine Go.istore X102 hx (hb hby at_58) (l' := #[.val (.int ps), .val (.int pa), .val (.int pb), .val (.int pz), .val (.int (0 : Int32)), .val (.ref a_MD5), .val (.int (1 : Int32)), .val (.int (4 : Int32)), .val (.int (pa.toInt8.toInt32)), .val (.int (pb.toInt8.toInt32)), .val (.int (pz.toInt8.toInt32)), .unset, .unset]) rfl (q := 60) rfl ?_
      refine Go.iload X102 hx (hb hby at_60) rfl (q := 62) rfl ?_
      refine Go.iload X102 hx (hb hby at_62) rfl (q := 64) rfl ?_
      refine Go.iadd X102 hx (hb hby at_64) (r := (5 : Int32)) rfl (q := 65) rfl ?_
      refine Go.newP X102 hx hZ (hb hby at_65) (wd3 hw) e102 (by decide) (cap := 5) (by decide) (by decide) (by decide) (by decide) (ad := "[B") rfl (q := 67) rfl ?_
      intro b109 T109 h109 k109 X109 e109 q109 E109 V109 B109
      have ne_a_MD5_b109 : a_MD5 ≠ b109 := ne_new (E_MD5.ext O0).lt (Nat.le_of_eq q109)
      have ne_a_SHA1_b109 : a_SHA1 ≠ b109 := ne_new (E_SHA1.ext O0).lt (Nat.le_of_eq q109)
      have g_b109 : Z.heap.size ≤ b109 := Nat.le_trans O0.1 (Nat.le_of_eq q109)
      have OE109 := ext_trans O0 E109
      replace V109 : Arv Z h109 b109 k109 .byte (5 : Int32) [(.int (0 : Int32)), (.int (0 : Int32)), (.int (0 : Int32)), (.int (0 : Int32)), (.int (0 : Int32))] (.int (0 : Int32)) := V109.pad (pad_rep [] (.int (0 : Int32)) 5)
      refine Go.astore X109 hx (hb hby at_67) rfl (l' := #[.val (.int ps), .val (.int pa), .val (.int pb), .val (.int pz), .val (.int (0 : Int32)), .val (.ref a_MD5), .val (.int (1 : Int32)), .val (.int (4 : Int32)), .val (.int (pa.toInt8.toInt32)), .val (.int (pb.toInt8.toInt32)), .val (.int (pz.toInt8.toInt32)), .val (.ref b109), .unset]) rfl (q := 69) rfl ?_
      refine Go.iload X109 hx (hb hby at_69) rfl (q := 71) rfl ?_
      refine Go.ifNo X109 hx (hb hby at_71) (by decide) (q := 74) rfl ?_
      refine Go.aload X109 hx (hb hby at_74) rfl rfl (q := 76) rfl ?_
      refine Go.iconst X109 hx (hb hby at_76) (r := (0 : Int32)) rfl (q := 77) rfl ?_
      refine Go.iload X109 hx (hb hby at_77) rfl (q := 79) rfl ?_
      refine Go.bst X109 hx hZ e109 V109 ⟨by decide, by decide⟩ (i := 0) rfl (Nat.le_of_ble_eq_true rfl) (hb hby at_79) ?_
      intro T110 h110 X110 e110 W110 V110
      rw [bb pa] at V110
      replace V110 : Arv Z h110 b109 k109 .byte (5 : Int32) [(.int (pa.toInt8.toInt32)), (.int (0 : Int32)), (.int (0 : Int32)), (.int (0 : Int32)), (.int (0 : Int32))] (.int (0 : Int32)) := V110
      have N110 := Fr.snoc X110 N0 g_b109
      replace B109 := B109.wr W110
      have OW110 := ext_wr OE109 W110 g_b109
      refine Go.iload X110 hx (hb hby at_80) rfl (q := 82) rfl ?_
      refine Go.iconst X110 hx (hb hby at_82) (r := (1 : Int32)) rfl (q := 83) rfl ?_
      refine Go.icmpYes X110 hx (hb hby at_83) (by decide) (q := 92) (by decide) (by decide) ?_
      refine Go.iload X110 hx (hb hby at_92) rfl (q := 94) rfl ?_
      refine Go.iconst X110 hx (hb hby at_94) (r := (2 : Int32)) rfl (q := 95) rfl ?_
      refine Go.icmpYes X110 hx (hb hby at_95) (by decide) (q := 104) (by decide) (by decide) ?_
      refine Go.aload X110 hx (hb hby at_104) rfl rfl (q := 106) rfl ?_
      refine Go.iload X110 hx (hb hby at_106) rfl (q := 108) rfl ?_
      refine Go.bipush X110 hx (hb hby at_108) (r := (46 : Int32)) rfl (q := 110) rfl ?_
      refine Go.bst X110 hx hZ e110 V110 ⟨by decide, by decide⟩ (i := 1) rfl (Nat.le_of_ble_eq_true rfl) (hb hby at_110) ?_
      intro T111 h111 X111 e111 W111 V111
      replace V111 : Arv Z h111 b109 k109 .byte (5 : Int32) [(.int (pa.toInt8.toInt32)), (.int (46 : Int32)), (.int (0 : Int32)), (.int (0 : Int32)), (.int (0 : Int32))] (.int (0 : Int32)) := V111
      have N111 := Fr.snoc X111 N110 g_b109
      replace B109 := B109.wr W111
      have OW111 := ext_wr OW110 W111 g_b109
      refine Go.iload X111 hx (hb hby at_111) rfl (q := 113) rfl ?_
      refine Go.ifYes X111 hx (hb hby at_113) (by decide) (q := 155) (by decide) (by decide) ?_
      refine Go.aload X111 hx (hb hby at_155) rfl rfl (q := 157) rfl ?_
      refine Go.iload X111 hx (hb hby at_157) rfl (q := 159) rfl ?_
      refine Go.iconst X111 hx (hb hby at_159) (r := (1 : Int32)) rfl (q := 160) rfl ?_
      refine Go.iadd X111 hx (hb hby at_160) (r := (2 : Int32)) rfl (q := 161) rfl ?_
      refine Go.bipush X111 hx (hb hby at_161) (r := (109 : Int32)) rfl (q := 163) rfl ?_
      refine Go.bst X111 hx hZ e111 V111 ⟨by decide, by decide⟩ (i := 2) rfl (Nat.le_of_ble_eq_true rfl) (hb hby at_163) ?_
      intro T112 h112 X112 e112 W112 V112
      replace V112 : Arv Z h112 b109 k109 .byte (5 : Int32) [(.int (pa.toInt8.toInt32)), (.int (46 : Int32)), (.int (109 : Int32)), (.int (0 : Int32)), (.int (0 : Int32))] (.int (0 : Int32)) := V112
      have N112 := Fr.snoc X112 N111 g_b109
      replace B109 := B109.wr W112
      have OW112 := ext_wr OW111 W112 g_b109
      refine Go.aload X112 hx (hb hby at_164) rfl rfl (q := 166) rfl ?_
      refine Go.iload X112 hx (hb hby at_166) rfl (q := 168) rfl ?_
      refine Go.iconst X112 hx (hb hby at_168) (r := (2 : Int32)) rfl (q := 169) rfl ?_
      refine Go.iadd X112 hx (hb hby at_169) (r := (3 : Int32)) rfl (q := 170) rfl ?_
      refine Go.bipush X112 hx (hb hby at_170) (r := (100 : Int32)) rfl (q := 172) rfl ?_
      refine Go.bst X112 hx hZ e112 V112 ⟨by decide, by decide⟩ (i := 3) rfl (Nat.le_of_ble_eq_true rfl) (hb hby at_172) ?_
      intro T113 h113 X113 e113 W113 V113
      replace V113 : Arv Z h113 b109 k109 .byte (5 : Int32) [(.int (pa.toInt8.toInt32)), (.int (46 : Int32)), (.int (109 : Int32)), (.int (100 : Int32)), (.int (0 : Int32))] (.int (0 : Int32)) := V113
      have N113 := Fr.snoc X113 N112 g_b109
      replace B109 := B109.wr W113
      have OW113 := ext_wr OW112 W113 g_b109
      refine Go.aload X113 hx (hb hby at_173) rfl rfl (q := 175) rfl ?_
      refine Go.iload X113 hx (hb hby at_175) rfl (q := 177) rfl ?_
      refine Go.iconst X113 hx (hb hby at_177) (r := (3 : Int32)) rfl (q := 178) rfl ?_
      refine Go.iadd X113 hx (hb hby at_178) (r := (4 : Int32)) rfl (q := 179) rfl ?_
      refine Go.bipush X113 hx (hb hby at_179) (r := (53 : Int32)) rfl (q := 181) rfl ?_
      refine Go.bst X113 hx hZ e113 V113 ⟨by decide, by decide⟩ (i := 4) rfl (Nat.le_of_ble_eq_true rfl) (hb hby at_181) ?_
      intro T114 h114 X114 e114 W114 V114
      replace V114 : Arv Z h114 b109 k109 .byte (5 : Int32) [(.int (pa.toInt8.toInt32)), (.int (46 : Int32)), (.int (109 : Int32)), (.int (100 : Int32)), (.int (53 : Int32))] (.int (0 : Int32)) := V114
      have N114 := Fr.snoc X114 N113 g_b109
      replace B109 := B109.wr W114
      have OW114 := ext_wr OW113 W114 g_b109
      refine Go.aload X114 hx (hb hby at_182) rfl rfl (q := 184) rfl ?_
      refine Go.aload X114 hx (hb hby at_184) rfl rfl (q := 186) rfl ?_
      refine Go.virt X114 hx hZ hown (wd4 hw) (wd5 hw) (notFace_of_selects (args := #[]) (mvT hZ (wd7 hw))) (wd7 hw) (wd6 hw) (wd1 hw) (wd8 hw) (by decide) (cnp_4_1 l Z a0 hw a_MD5 a_MD5_ending b109 (k109) ((pa.toInt8.toInt32)) ((46 : Int32)) ((109 : Int32)) ((100 : Int32)) ((53 : Int32)) h114 OW114 V114 F_MD5_ending L_MD5_ending) e114 (E_MD5.ext OW114) (by rw [hml]; rfl) (hb hby at_186) (argsL := [(.ref b109)]) (rest := []) (lenOf pd2 rfl) rfl rfl (W := 0) (by first | exact Nat.le_refl _ | decide) (by decide) (by decide) (by decide) (by decide) ?_
      intro v115 T115 L115 X115 hQ115
      obtain ⟨h115, e115⟩ : ∃ z, T115.heap = z := ⟨_, rfl⟩
      rw [e115] at hQ115
      obtain ⟨b_115, kb_115, rfl, N115q, K115, fr115_b, P115_0⟩ := hQ115
      have N115 := Fr.app N114 N115q
      have ne_b109_b_115 : b109 ≠ b_115 := ne_new B109.lt fr115_b
      have ne_a_MD5_b_115 : a_MD5 ≠ b_115 := ne_new (E_MD5.ext OW114).lt fr115_b
      have ne_a_SHA1_b_115 : a_SHA1 ≠ b_115 := ne_new (E_SHA1.ext OW114).lt fr115_b
      have g_b_115 : Z.heap.size ≤ b_115 := Nat.le_trans OW114.1 fr115_b
      replace B109 := B109.keep K115
      replace V114 := V114.keep K115 nin0
      have OK115 := ext_keep OW114 K115 all0
      refine Go.astore X115 hx (hb hby at_189) rfl (l' := #[.val (.int ps), .val (.int pa), .val (.int pb), .val (.int pz), .val (.int (0 : Int32)), .val (.ref a_MD5), .val (.int (1 : Int32)), .val (.int (4 : Int32)), .val (.int (pa.toInt8.toInt32)), .val (.int (pb.toInt8.toInt32)), .val (.int (pz.toInt8.toInt32)), .val (.ref b109), .val (.ref b_115)]) rfl (q := 191) rfl ?_
      refine Go.aload X115 hx (hb hby at_191) rfl rfl (q := 193) rfl ?_
      refine Go.ifnonnullYes X115 hx (hb hby at_193) (q := 198) (by decide) (by decide) ?_
      refine Go.aload X115 hx (hb hby at_198) rfl rfl (q := 200) rfl ?_
      refine Go.alen X115 hx hZ e115 P115_0 (hb hby at_200) ?_
      refine Go.iload X115 hx (hb hby at_201) rfl (q := 203) rfl ?_
      refine Go.icmpYes X115 hx (hb hby at_203) (by decide) (q := 208) (by decide) (by decide) ?_
      refine Go.iload X115 hx (hb hby at_208) rfl (q := 210) rfl ?_
      refine Go.ifNo X115 hx (hb hby at_210) (by decide) (q := 213) rfl ?_
      refine Go.aload X115 hx (hb hby at_213) rfl rfl (q := 215) rfl ?_
      refine Go.iconst X115 hx (hb hby at_215) (r := (0 : Int32)) rfl (q := 216) rfl ?_
      refine Go.bal X115 hx hZ e115 P115_0 ⟨by decide, by decide⟩ (v := (.int (pa.toInt8.toInt32))) rfl (hb hby at_216) ?_
      refine Go.iload X115 hx (hb hby at_217) rfl (q := 219) rfl ?_
      refine Go.icmpYes X115 hx (hb hby at_219) (Jvm.Free.XT.ii_eq_t rfl) (q := 224) (by decide) (by decide) ?_
      refine Go.iload X115 hx (hb hby at_224) rfl (q := 226) rfl ?_
      refine Go.iconst X115 hx (hb hby at_226) (r := (1 : Int32)) rfl (q := 227) rfl ?_
      refine Go.icmpYes X115 hx (hb hby at_227) (by decide) (q := 241) (by decide) (by decide) ?_
      refine Go.iload X115 hx (hb hby at_241) rfl (q := 243) rfl ?_
      refine Go.iconst X115 hx (hb hby at_243) (r := (2 : Int32)) rfl (q := 244) rfl ?_
      refine Go.icmpYes X115 hx (hb hby at_244) (by decide) (q := 258) (by decide) (by decide) ?_
      refine Go.aload X115 hx (hb hby at_258) rfl rfl (q := 260) rfl ?_
      refine Go.iload X115 hx (hb hby at_260) rfl (q := 262) rfl ?_
      refine Go.bal X115 hx hZ e115 V114 ⟨by decide, by decide⟩ (v := (.int (46 : Int32))) rfl (hb hby at_262) ?_
      refine Go.bipush X115 hx (hb hby at_263) (r := (46 : Int32)) rfl (q := 265) rfl ?_
      refine Go.icmpYes X115 hx (hb hby at_265) (by decide) (q := 270) (by decide) (by decide) ?_
      refine Go.iconst X115 hx (hb hby at_270) (r := (1 : Int32)) rfl (q := 271) rfl ?_
      exact Go.retI X115 hx hret hlk (by simp) rfl (hb hby at_271) e115 (by decide) (by decide) ⟨rfl, N115⟩
    · show Go pp ee below _ (T102.setTop (mkF mm 34 #[.val (.int ps), .val (.int pa), .val (.int pb), .val (.int pz), .val (.int (0 : Int32)), .val (.ref a_MD5), .unset, .unset, .unset, .unset, .unset, .unset, .unset] [(.int (2 : Int32))]))
      refine Go.istore X102 hx (hb hby at_34) (l' := #[.val (.int ps), .val (.int pa), .val (.int pb), .val (.int pz), .val (.int (0 : Int32)), .val (.ref a_MD5), .val (.int (2 : Int32)), .unset, .unset, .unset, .unset, .unset, .unset]) rfl (q := 36) rfl ?_
      refine Go.iload X102 hx (hb hby at_36) rfl (q := 38) rfl ?_
      refine Go.ifYes X102 hx (hb hby at_38) (by decide) (q := 45) (by decide) (by decide) ?_
      refine Go.iconst X102 hx (hb hby at_45) (r := (4 : Int32)) rfl (q := 46) rfl ?_
      refine Go.istore X102 hx (hb hby at_46) (l' := #[.val (.int ps), .val (.int pa), .val (.int pb), .val (.int pz), .val (.int (0 : Int32)), .val (.ref a_MD5), .val (.int (2 : Int32)), .val (.int (4 : Int32)), .unset, .unset, .unset, .unset, .unset]) rfl (q := 48) rfl ?_
      refine Go.iloadN X102 hx (hb hby at_48) rfl (q := 49) rfl ?_
      refine Go.i2b X102 hx (hb hby at_49) rfl (q := 50) rfl ?_
      refine Go.istore X102 hx (hb hby at_50) (l' := #[.val (.int ps), .val (.int pa), .val (.int pb), .val (.int pz), .val (.int (0 : Int32)), .val (.ref a_MD5), .val (.int (2 : Int32)), .val (.int (4 : Int32)), .val (.int (pa.toInt8.toInt32)), .unset, .unset, .unset, .unset]) rfl (q := 52) rfl ?_
      refine Go.iloadN X102 hx (hb hby at_52) rfl (q := 53) rfl ?_
      refine Go.i2b X102 hx (hb hby at_53) rfl (q := 54) rfl ?_
      refine Go.istore X102 hx (hb hby at_54) (l' := #[.val (.int ps), .val (.int pa), .val (.int pb), .val (.int pz), .val (.int (0 : Int32)), .val (.ref a_MD5), .val (.int (2 : Int32)), .val (.int (4 : Int32)), .val (.int (pa.toInt8.toInt32)), .val (.int (pb.toInt8.toInt32)), .unset, .unset, .unset]) rfl (q := 56) rfl ?_
      refine Go.iloadN X102 hx (hb hby at_56) rfl (q := 57) rfl ?_
      refine Go.i2b X102 hx (hb hby at_57) rfl (q := 58) rfl ?_
      refine Go.istore X102 hx (hb hby at_58) (l' := #[.val (.int ps), .val (.int pa), .val (.int pb), .val (.int pz), .val (.int (0 : Int32)), .val (.ref a_MD5), .val (.int (2 : Int32)), .val (.int (4 : Int32)), .val (.int (pa.toInt8.toInt32)), .val (.int (pb.toInt8.toInt32)), .val (.int (pz.toInt8.toInt32)), .unset, .unset]) rfl (q := 60) rfl ?_
      refine Go.iload X102 hx (hb hby at_60) rfl (q := 62) rfl ?_
      refine Go.iload X102 hx (hb hby at_62) rfl (q := 64) rfl ?_
      refine Go.iadd X102 hx (hb hby at_64) (r := (6 : Int32)) rfl (q := 65) rfl ?_
      refine Go.newP X102 hx hZ (hb hby at_65) (wd3 hw) e102 (by decide) (cap := 6) (by decide) (by decide) (by decide) (by decide) (ad := "[B") rfl (q := 67) rfl ?_
      intro b116 T116 h116 k116 X116 e116 q116 E116 V116 B116
      have ne_a_MD5_b116 : a_MD5 ≠ b116 := ne_new (E_MD5.ext O0).lt (Nat.le_of_eq q116)
      have ne_a_SHA1_b116 : a_SHA1 ≠ b116 := ne_new (E_SHA1.ext O0).lt (Nat.le_of_eq q116)
      have g_b116 : Z.heap.size ≤ b116 := Nat.le_trans O0.1 (Nat.le_of_eq q116)
      have OE116 := ext_trans O0 E116
      replace V116 : Arv Z h116 b116 k116 .byte (6 : Int32) [(.int (0 : Int32)), (.int (0 : Int32)), (.int (0 : Int32)), (.int (0 : Int32)), (.int (0 : Int32)), (.int (0 : Int32))] (.int (0 : Int32)) := V116.pad (pad_rep [] (.int (0 : Int32)) 6)
      refine Go.astore X116 hx (hb hby at_67) rfl (l' := #[.val (.int ps), .val (.int pa), .val (.int pb), .val (.int pz), .val (.int (0 : Int32)), .val (.ref a_MD5), .val (.int (2 : Int32)), .val (.int (4 : Int32)), .val (.int (pa.toInt8.toInt32)), .val (.int (pb.toInt8.toInt32)), .val (.int (pz.toInt8.toInt32)), .val (.ref b116), .unset]) rfl (q := 69) rfl ?_
      refine Go.iload X116 hx (hb hby at_69) rfl (q := 71) rfl ?_
      refine Go.ifNo X116 hx (hb hby at_71) (by decide) (q := 74) rfl ?_
      refine Go.aload X116 hx (hb hby at_74) rfl rfl (q := 76) rfl ?_
      refine Go.iconst X116 hx (hb hby at_76) (r := (0 : Int32)) rfl (q := 77) rfl ?_
      refine Go.iload X116 hx (hb hby at_77) rfl (q := 79) rfl ?_
      refine Go.bst X116 hx hZ e116 V116 ⟨by decide, by decide⟩ (i := 0) rfl (Nat.le_of_ble_eq_true rfl) (hb hby at_79) ?_
      intro T117 h117 X117 e117 W117 V117
      rw [bb pa] at V117
      replace V117 : Arv Z h117 b116 k116 .byte (6 : Int32) [(.int (pa.toInt8.toInt32)), (.int (0 : Int32)), (.int (0 : Int32)), (.int (0 : Int32)), (.int (0 : Int32)), (.int (0 : Int32))] (.int (0 : Int32)) := V117
      have N117 := Fr.snoc X117 N0 g_b116
      replace B116 := B116.wr W117
      have OW117 := ext_wr OE116 W117 g_b116
      refine Go.iload X117 hx (hb hby at_80) rfl (q := 82) rfl ?_
      refine Go.iconst X117 hx (hb hby at_82) (r := (1 : Int32)) rfl (q := 83) rfl ?_
      refine Go.icmpNo X117 hx (hb hby at_83) (by decide) (q := 86) rfl ?_
      refine Go.aload X117 hx (hb hby at_86) rfl rfl (q := 88) rfl ?_
      refine Go.iconst X117 hx (hb hby at_88) (r := (1 : Int32)) rfl (q := 89) rfl ?_
      refine Go.iload X117 hx (hb hby at_89) rfl (q := 91) rfl ?_
      refine Go.bst X117 hx hZ e117 V117 ⟨by decide, by decide⟩ (i := 1) rfl (Nat.le_of_ble_eq_true rfl) (hb hby at_91) ?_
      intro T118 h118 X118 e118 W118 V118
      rw [bb pb] at V118
      replace V118 : Arv Z h118 b116 k116 .byte (6 : Int32) [(.int (pa.toInt8.toInt32)), (.int (pb.toInt8.toInt32)), (.int (0 : Int32)), (.int (0 : Int32)), (.int (0 : Int32)), (.int (0 : Int32))] (.int (0 : Int32)) := V118
      have N118 := Fr.snoc X118 N117 g_b116
      replace B116 := B116.wr W118
      have OW118 := ext_wr OW117 W118 g_b116
      refine Go.iload X118 hx (hb hby at_92) rfl (q := 94) rfl ?_
      refine Go.iconst X118 hx (hb hby at_94) (r := (2 : Int32)) rfl (q := 95) rfl ?_
      refine Go.icmpYes X118 hx (hb hby at_95) (by decide) (q := 104) (by decide) (by decide) ?_
      refine Go.aload X118 hx (hb hby at_104) rfl rfl (q := 106) rfl ?_
      refine Go.iload X118 hx (hb hby at_106) rfl (q := 108) rfl ?_
      refine Go.bipush X118 hx (hb hby at_108) (r := (46 : Int32)) rfl (q := 110) rfl ?_
      refine Go.bst X118 hx hZ e118 V118 ⟨by decide, by decide⟩ (i := 2) rfl (Nat.le_of_ble_eq_true rfl) (hb hby at_110) ?_
      intro T119 h119 X119 e119 W119 V119
      replace V119 : Arv Z h119 b116 k116 .byte (6 : Int32) [(.int (pa.toInt8.toInt32)), (.int (pb.toInt8.toInt32)), (.int (46 : Int32)), (.int (0 : Int32)), (.int (0 : Int32)), (.int (0 : Int32))] (.int (0 : Int32)) := V119
      have N119 := Fr.snoc X119 N118 g_b116
      replace B116 := B116.wr W119
      have OW119 := ext_wr OW118 W119 g_b116
      refine Go.iload X119 hx (hb hby at_111) rfl (q := 113) rfl ?_
      refine Go.ifYes X119 hx (hb hby at_113) (by decide) (q := 155) (by decide) (by decide) ?_
      refine Go.aload X119 hx (hb hby at_155) rfl rfl (q := 157) rfl ?_
      refine Go.iload X119 hx (hb hby at_157) rfl (q := 159) rfl ?_
      refine Go.iconst X119 hx (hb hby at_159) (r := (1 : Int32)) rfl (q := 160) rfl ?_
      refine Go.iadd X119 hx (hb hby at_160) (r := (3 : Int32)) rfl (q := 161) rfl ?_
      refine Go.bipush X119 hx (hb hby at_161) (r := (109 : Int32)) rfl (q := 163) rfl ?_
      refine Go.bst X119 hx hZ e119 V119 ⟨by decide, by decide⟩ (i := 3) rfl (Nat.le_of_ble_eq_true rfl) (hb hby at_163) ?_
      intro T120 h120 X120 e120 W120 V120
      replace V120 : Arv Z h120 b116 k116 .byte (6 : Int32) [(.int (pa.toInt8.toInt32)), (.int (pb.toInt8.toInt32)), (.int (46 : Int32)), (.int (109 : Int32)), (.int (0 : Int32)), (.int (0 : Int32))] (.int (0 : Int32)) := V120
      have N120 := Fr.snoc X120 N119 g_b116
      replace B116 := B116.wr W120
      have OW120 := ext_wr OW119 W120 g_b116
      refine Go.aload X120 hx (hb hby at_164) rfl rfl (q := 166) rfl ?_
      refine Go.iload X120 hx (hb hby at_166) rfl (q := 168) rfl ?_
      refine Go.iconst X120 hx (hb hby at_168) (r := (2 : Int32)) rfl (q := 169) rfl ?_
      refine Go.iadd X120 hx (hb hby at_169) (r := (4 : Int32)) rfl (q := 170) rfl ?_
      refine Go.bipush X120 hx (hb hby at_170) (r := (100 : Int32)) rfl (q := 172) rfl ?_
      refine Go.bst X120 hx hZ e120 V120 ⟨by decide, by decide⟩ (i := 4) rfl (Nat.le_of_ble_eq_true rfl) (hb hby at_172) ?_
      intro T121 h121 X121 e121 W121 V121
      replace V121 : Arv Z h121 b116 k116 .byte (6 : Int32) [(.int (pa.toInt8.toInt32)), (.int (pb.toInt8.toInt32)), (.int (46 : Int32)), (.int (109 : Int32)), (.int (100 : Int32)), (.int (0 : Int32))] (.int (0 : Int32)) := V121
      have N121 := Fr.snoc X121 N120 g_b116
      replace B116 := B116.wr W121
      have OW121 := ext_wr OW120 W121 g_b116
      refine Go.aload X121 hx (hb hby at_173) rfl rfl (q := 175) rfl ?_
      refine Go.iload X121 hx (hb hby at_175) rfl (q := 177) rfl ?_
      refine Go.iconst X121 hx (hb hby at_177) (r := (3 : Int32)) rfl (q := 178) rfl ?_
      refine Go.iadd X121 hx (hb hby at_178) (r := (5 : Int32)) rfl (q := 179) rfl ?_
      refine Go.bipush X121 hx (hb hby at_179) (r := (53 : Int32)) rfl (q := 181) rfl ?_
      refine Go.bst X121 hx hZ e121 V121 ⟨by decide, by decide⟩ (i := 5) rfl (Nat.le_of_ble_eq_true rfl) (hb hby at_181) ?_
      intro T122 h122 X122 e122 W122 V122
      replace V122 : Arv Z h122 b116 k116 .byte (6 : Int32) [(.int (pa.toInt8.toInt32)), (.int (pb.toInt8.toInt32)), (.int (46 : Int32)), (.int (109 : Int32)), (.int (100 : Int32)), (.int (53 : Int32))] (.int (0 : Int32)) := V122
      have N122 := Fr.snoc X122 N121 g_b116
      replace B116 := B116.wr W122
      have OW122 := ext_wr OW121 W122 g_b116
      refine Go.aload X122 hx (hb hby at_182) rfl rfl (q := 184) rfl ?_
      refine Go.aload X122 hx (hb hby at_184) rfl rfl (q := 186) rfl ?_
      refine Go.virt X122 hx hZ hown (wd4 hw) (wd5 hw) (notFace_of_selects (args := #[]) (mvT hZ (wd7 hw))) (wd7 hw) (wd6 hw) (wd1 hw) (wd8 hw) (by decide) (cnp_4_2 l Z a0 hw a_MD5 a_MD5_ending b116 (k116) ((pa.toInt8.toInt32)) ((pb.toInt8.toInt32)) ((46 : Int32)) ((109 : Int32)) ((100 : Int32)) ((53 : Int32)) h122 OW122 V122 F_MD5_ending L_MD5_ending) e122 (E_MD5.ext OW122) (by rw [hml]; rfl) (hb hby at_186) (argsL := [(.ref b116)]) (rest := []) (lenOf pd2 rfl) rfl rfl (W := 0) (by first | exact Nat.le_refl _ | decide) (by decide) (by decide) (by decide) (by decide) ?_
      intro v123 T123 L123 X123 hQ123
      obtain ⟨h123, e123⟩ : ∃ z, T123.heap = z := ⟨_, rfl⟩
      rw [e123] at hQ123
      obtain ⟨b_123, kb_123, rfl, N123q, K123, fr123_b, P123_0⟩ := hQ123
      have N123 := Fr.app N122 N123q
      have ne_b116_b_123 : b116 ≠ b_123 := ne_new B116.lt fr123_b
      have ne_a_MD5_b_123 : a_MD5 ≠ b_123 := ne_new (E_MD5.ext OW122).lt fr123_b
      have ne_a_SHA1_b_123 : a_SHA1 ≠ b_123 := ne_new (E_SHA1.ext OW122).lt fr123_b
      have g_b_123 : Z.heap.size ≤ b_123 := Nat.le_trans OW122.1 fr123_b
      replace B116 := B116.keep K123
      replace V122 := V122.keep K123 nin0
      have OK123 := ext_keep OW122 K123 all0
      refine Go.astore X123 hx (hb hby at_189) rfl (l' := #[.val (.int ps), .val (.int pa), .val (.int pb), .val (.int pz), .val (.int (0 : Int32)), .val (.ref a_MD5), .val (.int (2 : Int32)), .val (.int (4 : Int32)), .val (.int (pa.toInt8.toInt32)), .val (.int (pb.toInt8.toInt32)), .val (.int (pz.toInt8.toInt32)), .val (.ref b116), .val (.ref b_123)]) rfl (q := 191) rfl ?_
      refine Go.aload X123 hx (hb hby at_191) rfl rfl (q := 193) rfl ?_
      refine Go.ifnonnullYes X123 hx (hb hby at_193) (q := 198) (by decide) (by decide) ?_
      refine Go.aload X123 hx (hb hby at_198) rfl rfl (q := 200) rfl ?_
      refine Go.alen X123 hx hZ e123 P123_0 (hb hby at_200) ?_
      refine Go.iload X123 hx (hb hby at_201) rfl (q := 203) rfl ?_
      refine Go.icmpYes X123 hx (hb hby at_203) (by decide) (q := 208) (by decide) (by decide) ?_
      refine Go.iload X123 hx (hb hby at_208) rfl (q := 210) rfl ?_
      refine Go.ifNo X123 hx (hb hby at_210) (by decide) (q := 213) rfl ?_
      refine Go.aload X123 hx (hb hby at_213) rfl rfl (q := 215) rfl ?_
      refine Go.iconst X123 hx (hb hby at_215) (r := (0 : Int32)) rfl (q := 216) rfl ?_
      refine Go.bal X123 hx hZ e123 P123_0 ⟨by decide, by decide⟩ (v := (.int (pa.toInt8.toInt32))) rfl (hb hby at_216) ?_
      refine Go.iload X123 hx (hb hby at_217) rfl (q := 219) rfl ?_
      refine Go.icmpYes X123 hx (hb hby at_219) (Jvm.Free.XT.ii_eq_t rfl) (q := 224) (by decide) (by decide) ?_
      refine Go.iload X123 hx (hb hby at_224) rfl (q := 226) rfl ?_
      refine Go.iconst X123 hx (hb hby at_226) (r := (1 : Int32)) rfl (q := 227) rfl ?_
      refine Go.icmpNo X123 hx (hb hby at_227) (by decide) (q := 230) rfl ?_
      refine Go.aload X123 hx (hb hby at_230) rfl rfl (q := 232) rfl ?_
      refine Go.iconst X123 hx (hb hby at_232) (r := (1 : Int32)) rfl (q := 233) rfl ?_
      refine Go.bal X123 hx hZ e123 P123_0 ⟨by decide, by decide⟩ (v := (.int (pb.toInt8.toInt32))) rfl (hb hby at_233) ?_
      refine Go.iload X123 hx (hb hby at_234) rfl (q := 236) rfl ?_
      refine Go.icmpYes X123 hx (hb hby at_236) (Jvm.Free.XT.ii_eq_t rfl) (q := 241) (by decide) (by decide) ?_
      refine Go.iload X123 hx (hb hby at_241) rfl (q := 243) rfl ?_
      refine Go.iconst X123 hx (hb hby at_243) (r := (2 : Int32)) rfl (q := 244) rfl ?_
      refine Go.icmpYes X123 hx (hb hby at_244) (by decide) (q := 258) (by decide) (by decide) ?_
      refine Go.aload X123 hx (hb hby at_258) rfl rfl (q := 260) rfl ?_
      refine Go.iload X123 hx (hb hby at_260) rfl (q := 262) rfl ?_
      refine Go.bal X123 hx hZ e123 V122 ⟨by decide, by decide⟩ (v := (.int (46 : Int32))) rfl (hb hby at_262) ?_
      refine Go.bipush X123 hx (hb hby at_263) (r := (46 : Int32)) rfl (q := 265) rfl ?_
      refine Go.icmpYes X123 hx (hb hby at_265) (by decide) (q := 270) (by decide) (by decide) ?_
      refine Go.iconst X123 hx (hb hby at_270) (r := (1 : Int32)) rfl (q := 271) rfl ?_
      exact Go.retI X123 hx hret hlk (by simp) rfl (hb hby at_271) e123 (by decide) (by decide) ⟨rfl, N123⟩
    · show Go pp ee below _ (T102.setTop (mkF mm 34 #[.val (.int ps), .val (.int pa), .val (.int pb), .val (.int pz), .val (.int (0 : Int32)), .val (.ref a_MD5), .unset, .unset, .unset, .unset, .unset, .unset, .unset] [(.int (3 : Int32))]))
      refine Go.istore X102 hx (hb hby at_34) (l' := #[.val (.int ps), .val (.int pa), .val (.int pb), .val (.int pz), .val (.int (0 : Int32)), .val (.ref a_MD5), .val (.int (3 : Int32)), .unset, .unset, .unset, .unset, .unset, .unset]) rfl (q := 36) rfl ?_
      refine Go.iload X102 hx (hb hby at_36) rfl (q := 38) rfl ?_
      refine Go.ifYes X102 hx (hb hby at_38) (by decide) (q := 45) (by decide) (by decide) ?_
      refine Go.iconst X102 hx (hb hby at_45) (r := (4 : Int32)) rfl (q := 46) rfl ?_
      refine Go.istore X102 hx (hb hby at_46) (l' := #[.val (.int ps), .val (.int pa), .val (.int pb), .val (.int pz), .val (.int (0 : Int32)), .val (.ref a_MD5), .val (.int (3 : Int32)), .val (.int (4 : Int32)), .unset, .unset, .unset, .unset, .unset]) rfl (q := 48) rfl ?_
      refine Go.iloadN X102 hx (hb hby at_48) rfl (q := 49) rfl ?_
      refine Go.i2b X102 hx (hb hby at_49) rfl (q := 50) rfl ?_
      refine Go.istore X102 hx (hb hby at_50) (l' := #[.val (.int ps), .val (.int pa), .val (.int pb), .val (.int pz), .val (.int (0 : Int32)), .val (.ref a_MD5), .val (.int (3 : Int32)), .val (.int (4 : Int32)), .val (.int (pa.toInt8.toInt32)), .unset, .unset, .unset, .unset]) rfl (q := 52) rfl ?_
      refine Go.iloadN X102 hx (hb hby at_52) rfl (q := 53) rfl ?_
      refine Go.i2b X102 hx (hb hby at_53) rfl (q := 54) rfl ?_
      refine Go.istore X102 hx (hb hby at_54) (l' := #[.val (.int ps), .val (.int pa), .val (.int pb), .val (.int pz), .val (.int (0 : Int32)), .val (.ref a_MD5), .val (.int (3 : Int32)), .val (.int (4 : Int32)), .val (.int (pa.toInt8.toInt32)), .val (.int (pb.toInt8.toInt32)), .unset, .unset, .unset]) rfl (q := 56) rfl ?_
      refine Go.iloadN X102 hx (hb hby at_56) rfl (q := 57) rfl ?_
      refine Go.i2b X102 hx (hb hby at_57) rfl (q := 58) rfl ?_
      refine Go.istore X102 hx (hb hby at_58) (l' := #[.val (.int ps), .val (.int pa), .val (.int pb), .val (.int pz), .val (.int (0 : Int32)), .val (.ref a_MD5), .val (.int (3 : Int32)), .val (.int (4 : Int32)), .val (.int (pa.toInt8.toInt32)), .val (.int (pb.toInt8.toInt32)), .val (.int (pz.toInt8.toInt32)), .unset, .unset]) rfl (q := 60) rfl ?_
      refine Go.iload X102 hx (hb hby at_60) rfl (q := 62) rfl ?_
      refine Go.iload X102 hx (hb hby at_62) rfl (q := 64) rfl ?_
      refine Go.iadd X102 hx (hb hby at_64) (r := (7 : Int32)) rfl (q := 65) rfl ?_
      refine Go.newP X102 hx hZ (hb hby at_65) (wd3 hw) e102 (by decide) (cap := 7) (by decide) (by decide) (by decide) (by decide) (ad := "[B") rfl (q := 67) rfl ?_
      intro b124 T124 h124 k124 X124 e124 q124 E124 V124 B124
      have ne_a_MD5_b124 : a_MD5 ≠ b124 := ne_new (E_MD5.ext O0).lt (Nat.le_of_eq q124)
      have ne_a_SHA1_b124 : a_SHA1 ≠ b124 := ne_new (E_SHA1.ext O0).lt (Nat.le_of_eq q124)
      have g_b124 : Z.heap.size ≤ b124 := Nat.le_trans O0.1 (Nat.le_of_eq q124)
      have OE124 := ext_trans O0 E124
      replace V124 : Arv Z h124 b124 k124 .byte (7 : Int32) [(.int (0 : Int32)), (.int (0 : Int32)), (.int (0 : Int32)), (.int (0 : Int32)), (.int (0 : Int32)), (.int (0 : Int32)), (.int (0 : Int32))] (.int (0 : Int32)) := V124.pad (pad_rep [] (.int (0 : Int32)) 7)
      refine Go.astore X124 hx (hb hby at_67) rfl (l' := #[.val (.int ps), .val (.int pa), .val (.int pb), .val (.int pz), .val (.int (0 : Int32)), .val (.ref a_MD5), .val (.int (3 : Int32)), .val (.int (4 : Int32)), .val (.int (pa.toInt8.toInt32)), .val (.int (pb.toInt8.toInt32)), .val (.int (pz.toInt8.toInt32)), .val (.ref b124), .unset]) rfl (q := 69) rfl ?_
      refine Go.iload X124 hx (hb hby at_69) rfl (q := 71) rfl ?_
      refine Go.ifNo X124 hx (hb hby at_71) (by decide) (q := 74) rfl ?_
      refine Go.aload X124 hx (hb hby at_74) rfl rfl (q := 76) rfl ?_
      refine Go.iconst X124 hx (hb hby at_76) (r := (0 : Int32)) rfl (q := 77) rfl ?_
      refine Go.iload X124 hx (hb hby at_77) rfl (q := 79) rfl ?_
      refine Go.bst X124 hx hZ e124 V124 ⟨by decide, by decide⟩ (i := 0) rfl (Nat.le_of_ble_eq_true rfl) (hb hby at_79) ?_
      intro T125 h125 X125 e125 W125 V125
      rw [bb pa] at V125
      replace V125 : Arv Z h125 b124 k124 .byte (7 : Int32) [(.int (pa.toInt8.toInt32)), (.int (0 : Int32)), (.int (0 : Int32)), (.int (0 : Int32)), (.int (0 : Int32)), (.int (0 : Int32)), (.int (0 : Int32))] (.int (0 : Int32)) := V125
      have N125 := Fr.snoc X125 N0 g_b124
      replace B124 := B124.wr W125
      have OW125 := ext_wr OE124 W125 g_b124
      refine Go.iload X125 hx (hb hby at_80) rfl (q := 82) rfl ?_
      refine Go.iconst X125 hx (hb hby at_82) (r := (1 : Int32)) rfl (q := 83) rfl ?_
      refine Go.icmpNo X125 hx (hb hby at_83) (by decide) (q := 86) rfl ?_
      refine Go.aload X125 hx (hb hby at_86) rfl rfl (q := 88) rfl ?_
      refine Go.iconst X125 hx (hb hby at_88) (r := (1 : Int32)) rfl (q := 89) rfl ?_
      refine Go.iload X125 hx (hb hby at_89) rfl (q := 91) rfl ?_
      refine Go.bst X125 hx hZ e125 V125 ⟨by decide, by decide⟩ (i := 1) rfl (Nat.le_of_ble_eq_true rfl) (hb hby at_91) ?_
      intro T126 h126 X126 e126 W126 V126
      rw [bb pb] at V126
      replace V126 : Arv Z h126 b124 k124 .byte (7 : Int32) [(.int (pa.toInt8.toInt32)), (.int (pb.toInt8.toInt32)), (.int (0 : Int32)), (.int (0 : Int32)), (.int (0 : Int32)), (.int (0 : Int32)), (.int (0 : Int32))] (.int (0 : Int32)) := V126
      have N126 := Fr.snoc X126 N125 g_b124
      replace B124 := B124.wr W126
      have OW126 := ext_wr OW125 W126 g_b124
      refine Go.iload X126 hx (hb hby at_92) rfl (q := 94) rfl ?_
      refine Go.iconst X126 hx (hb hby at_94) (r := (2 : Int32)) rfl (q := 95) rfl ?_
      refine Go.icmpNo X126 hx (hb hby at_95) (by decide) (q := 98) rfl ?_
      refine Go.aload X126 hx (hb hby at_98) rfl rfl (q := 100) rfl ?_
      refine Go.iconst X126 hx (hb hby at_100) (r := (2 : Int32)) rfl (q := 101) rfl ?_
      refine Go.iload X126 hx (hb hby at_101) rfl (q := 103) rfl ?_
      refine Go.bst X126 hx hZ e126 V126 ⟨by decide, by decide⟩ (i := 2) rfl (Nat.le_of_ble_eq_true rfl) (hb hby at_103) ?_
      intro T127 h127 X127 e127 W127 V127
      rw [bb pz] at V127
      replace V127 : Arv Z h127 b124 k124 .byte (7 : Int32) [(.int (pa.toInt8.toInt32)), (.int (pb.toInt8.toInt32)), (.int (pz.toInt8.toInt32)), (.int (0 : Int32)), (.int (0 : Int32)), (.int (0 : Int32)), (.int (0 : Int32))] (.int (0 : Int32)) := V127
      have N127 := Fr.snoc X127 N126 g_b124
      replace B124 := B124.wr W127
      have OW127 := ext_wr OW126 W127 g_b124
      refine Go.aload X127 hx (hb hby at_104) rfl rfl (q := 106) rfl ?_
      refine Go.iload X127 hx (hb hby at_106) rfl (q := 108) rfl ?_
      refine Go.bipush X127 hx (hb hby at_108) (r := (46 : Int32)) rfl (q := 110) rfl ?_
      refine Go.bst X127 hx hZ e127 V127 ⟨by decide, by decide⟩ (i := 3) rfl (Nat.le_of_ble_eq_true rfl) (hb hby at_110) ?_
      intro T128 h128 X128 e128 W128 V128
      replace V128 : Arv Z h128 b124 k124 .byte (7 : Int32) [(.int (pa.toInt8.toInt32)), (.int (pb.toInt8.toInt32)), (.int (pz.toInt8.toInt32)), (.int (46 : Int32)), (.int (0 : Int32)), (.int (0 : Int32)), (.int (0 : Int32))] (.int (0 : Int32)) := V128
      have N128 := Fr.snoc X128 N127 g_b124
      replace B124 := B124.wr W128
      have OW128 := ext_wr OW127 W128 g_b124
      refine Go.iload X128 hx (hb hby at_111) rfl (q := 113) rfl ?_
      refine Go.ifYes X128 hx (hb hby at_113) (by decide) (q := 155) (by decide) (by decide) ?_
      refine Go.aload X128 hx (hb hby at_155) rfl rfl (q := 157) rfl ?_
      refine Go.iload X128 hx (hb hby at_157) rfl (q := 159) rfl ?_
      refine Go.iconst X128 hx (hb hby at_159) (r := (1 : Int32)) rfl (q := 160) rfl ?_
      refine Go.iadd X128 hx (hb hby at_160) (r := (4 : Int32)) rfl (q := 161) rfl ?_
      refine Go.bipush X128 hx (hb hby at_161) (r := (109 : Int32)) rfl (q := 163) rfl ?_
      refine Go.bst X128 hx hZ e128 V128 ⟨by decide, by decide⟩ (i := 4) rfl (Nat.le_of_ble_eq_true rfl) (hb hby at_163) ?_
      intro T129 h129 X129 e129 W129 V129
      replace V129 : Arv Z h129 b124 k124 .byte (7 : Int32) [(.int (pa.toInt8.toInt32)), (.int (pb.toInt8.toInt32)), (.int (pz.toInt8.toInt32)), (.int (46 : Int32)), (.int (109 : Int32)), (.int (0 : Int32)), (.int (0 : Int32))] (.int (0 : Int32)) := V129
      have N129 := Fr.snoc X129 N128 g_b124
      replace B124 := B124.wr W129
      have OW129 := ext_wr OW128 W129 g_b124
      refine Go.aload X129 hx (hb hby at_164) rfl rfl (q := 166) rfl ?_
      refine Go.iload X129 hx (hb hby at_166) rfl (q := 168) rfl ?_
      refine Go.iconst X129 hx (hb hby at_168) (r := (2 : Int32)) rfl (q := 169) rfl ?_
      refine Go.iadd X129 hx (hb hby at_169) (r := (5 : Int32)) rfl (q := 170) rfl ?_
      refine Go.bipush X129 hx (hb hby at_170) (r := (100 : Int32)) rfl (q := 172) rfl ?_
      refine Go.bst X129 hx hZ e129 V129 ⟨by decide, by decide⟩ (i := 5) rfl (Nat.le_of_ble_eq_true rfl) (hb hby at_172) ?_
      intro T130 h130 X130 e130 W130 V130
      replace V130 : Arv Z h130 b124 k124 .byte (7 : Int32) [(.int (pa.toInt8.toInt32)), (.int (pb.toInt8.toInt32)), (.int (pz.toInt8.toInt32)), (.int (46 : Int32)), (.int (109 : Int32)), (.int (100 : Int32)), (.int (0 : Int32))] (.int (0 : Int32)) := V130
      have N130 := Fr.snoc X130 N129 g_b124
      replace B124 := B124.wr W130
      have OW130 := ext_wr OW129 W130 g_b124
      refine Go.aload X130 hx (hb hby at_173) rfl rfl (q := 175) rfl ?_
      refine Go.iload X130 hx (hb hby at_175) rfl (q := 177) rfl ?_
      refine Go.iconst X130 hx (hb hby at_177) (r := (3 : Int32)) rfl (q := 178) rfl ?_
      refine Go.iadd X130 hx (hb hby at_178) (r := (6 : Int32)) rfl (q := 179) rfl ?_
      refine Go.bipush X130 hx (hb hby at_179) (r := (53 : Int32)) rfl (q := 181) rfl ?_
      refine Go.bst X130 hx hZ e130 V130 ⟨by decide, by decide⟩ (i := 6) rfl (Nat.le_of_ble_eq_true rfl) (hb hby at_181) ?_
      intro T131 h131 X131 e131 W131 V131
      replace V131 : Arv Z h131 b124 k124 .byte (7 : Int32) [(.int (pa.toInt8.toInt32)), (.int (pb.toInt8.toInt32)), (.int (pz.toInt8.toInt32)), (.int (46 : Int32)), (.int (109 : Int32)), (.int (100 : Int32)), (.int (53 : Int32))] (.int (0 : Int32)) := V131
      have N131 := Fr.snoc X131 N130 g_b124
      replace B124 := B124.wr W131
      have OW131 := ext_wr OW130 W131 g_b124
      refine Go.aload X131 hx (hb hby at_182) rfl rfl (q := 184) rfl ?_
      refine Go.aload X131 hx (hb hby at_184) rfl rfl (q := 186) rfl ?_
      refine Go.virt X131 hx hZ hown (wd4 hw) (wd5 hw) (notFace_of_selects (args := #[]) (mvT hZ (wd7 hw))) (wd7 hw) (wd6 hw) (wd1 hw) (wd8 hw) (by decide) (cnp_4_3 l Z a0 hw a_MD5 a_MD5_ending b124 (k124) ((pa.toInt8.toInt32)) ((pb.toInt8.toInt32)) ((pz.toInt8.toInt32)) ((46 : Int32)) ((109 : Int32)) ((100 : Int32)) ((53 : Int32)) h131 OW131 V131 F_MD5_ending L_MD5_ending) e131 (E_MD5.ext OW131) (by rw [hml]; rfl) (hb hby at_186) (argsL := [(.ref b124)]) (rest := []) (lenOf pd2 rfl) rfl rfl (W := 0) (by first | exact Nat.le_refl _ | decide) (by decide) (by decide) (by decide) (by decide) ?_
      intro v132 T132 L132 X132 hQ132
      obtain ⟨h132, e132⟩ : ∃ z, T132.heap = z := ⟨_, rfl⟩
      rw [e132] at hQ132
      obtain ⟨b_132, kb_132, rfl, N132q, K132, fr132_b, P132_0⟩ := hQ132
      have N132 := Fr.app N131 N132q
      have ne_b124_b_132 : b124 ≠ b_132 := ne_new B124.lt fr132_b
      have ne_a_MD5_b_132 : a_MD5 ≠ b_132 := ne_new (E_MD5.ext OW131).lt fr132_b
      have ne_a_SHA1_b_132 : a_SHA1 ≠ b_132 := ne_new (E_SHA1.ext OW131).lt fr132_b
      have g_b_132 : Z.heap.size ≤ b_132 := Nat.le_trans OW131.1 fr132_b
      replace B124 := B124.keep K132
      replace V131 := V131.keep K132 nin0
      have OK132 := ext_keep OW131 K132 all0
      refine Go.astore X132 hx (hb hby at_189) rfl (l' := #[.val (.int ps), .val (.int pa), .val (.int pb), .val (.int pz), .val (.int (0 : Int32)), .val (.ref a_MD5), .val (.int (3 : Int32)), .val (.int (4 : Int32)), .val (.int (pa.toInt8.toInt32)), .val (.int (pb.toInt8.toInt32)), .val (.int (pz.toInt8.toInt32)), .val (.ref b124), .val (.ref b_132)]) rfl (q := 191) rfl ?_
      refine Go.aload X132 hx (hb hby at_191) rfl rfl (q := 193) rfl ?_
      refine Go.ifnonnullYes X132 hx (hb hby at_193) (q := 198) (by decide) (by decide) ?_
      refine Go.aload X132 hx (hb hby at_198) rfl rfl (q := 200) rfl ?_
      refine Go.alen X132 hx hZ e132 P132_0 (hb hby at_200) ?_
      refine Go.iload X132 hx (hb hby at_201) rfl (q := 203) rfl ?_
      refine Go.icmpYes X132 hx (hb hby at_203) (by decide) (q := 208) (by decide) (by decide) ?_
      refine Go.iload X132 hx (hb hby at_208) rfl (q := 210) rfl ?_
      refine Go.ifNo X132 hx (hb hby at_210) (by decide) (q := 213) rfl ?_
      refine Go.aload X132 hx (hb hby at_213) rfl rfl (q := 215) rfl ?_
      refine Go.iconst X132 hx (hb hby at_215) (r := (0 : Int32)) rfl (q := 216) rfl ?_
      refine Go.bal X132 hx hZ e132 P132_0 ⟨by decide, by decide⟩ (v := (.int (pa.toInt8.toInt32))) rfl (hb hby at_216) ?_
      refine Go.iload X132 hx (hb hby at_217) rfl (q := 219) rfl ?_
      refine Go.icmpYes X132 hx (hb hby at_219) (Jvm.Free.XT.ii_eq_t rfl) (q := 224) (by decide) (by decide) ?_
      refine Go.iload X132 hx (hb hby at_224) rfl (q := 226) rfl ?_
      refine Go.iconst X132 hx (hb hby at_226) (r := (1 : Int32)) rfl (q := 227) rfl ?_
      refine Go.icmpNo X132 hx (hb hby at_227) (by decide) (q := 230) rfl ?_
      refine Go.aload X132 hx (hb hby at_230) rfl rfl (q := 232) rfl ?_
      refine Go.iconst X132 hx (hb hby at_232) (r := (1 : Int32)) rfl (q := 233) rfl ?_
      refine Go.bal X132 hx hZ e132 P132_0 ⟨by decide, by decide⟩ (v := (.int (pb.toInt8.toInt32))) rfl (hb hby at_233) ?_
      refine Go.iload X132 hx (hb hby at_234) rfl (q := 236) rfl ?_
      refine Go.icmpYes X132 hx (hb hby at_236) (Jvm.Free.XT.ii_eq_t rfl) (q := 241) (by decide) (by decide) ?_
      refine Go.iload X132 hx (hb hby at_241) rfl (q := 243) rfl ?_
      refine Go.iconst X132 hx (hb hby at_243) (r := (2 : Int32)) rfl (q := 244) rfl ?_
      refine Go.icmpNo X132 hx (hb hby at_244) (by decide) (q := 247) rfl ?_
      refine Go.aload X132 hx (hb hby at_247) rfl rfl (q := 249) rfl ?_
      refine Go.iconst X132 hx (hb hby at_249) (r := (2 : Int32)) rfl (q := 250) rfl ?_
      refine Go.bal X132 hx hZ e132 P132_0 ⟨by decide, by decide⟩ (v := (.int (pz.toInt8.toInt32))) rfl (hb hby at_250) ?_
      refine Go.iload X132 hx (hb hby at_251) rfl (q := 253) rfl ?_
      refine Go.icmpYes X132 hx (hb hby at_253) (Jvm.Free.XT.ii_eq_t rfl) (q := 258) (by decide) (by decide) ?_
      refine Go.aload X132 hx (hb hby at_258) rfl rfl (q := 260) rfl ?_
      refine Go.iload X132 hx (hb hby at_260) rfl (q := 262) rfl ?_
      refine Go.bal X132 hx hZ e132 V131 ⟨by decide, by decide⟩ (v := (.int (46 : Int32))) rfl (hb hby at_262) ?_
      refine Go.bipush X132 hx (hb hby at_263) (r := (46 : Int32)) rfl (q := 265) rfl ?_
      refine Go.icmpYes X132 hx (hb hby at_265) (by decide) (q := 270) (by decide) (by decide) ?_
      refine Go.iconst X132 hx (hb hby at_270) (r := (1 : Int32)) rfl (q := 271) rfl ?_
      exact Go.retI X132 hx hret hlk (by simp) rfl (hb hby at_271) e132 (by decide) (by decide) ⟨rfl, N132⟩
  · refine Go.ifNo X0 hx (hb hby at_3) (Jvm.Free.XT.i0_eq_f hc101) (q := 6) rfl ?_
    refine Go.iconst X0 hx (hb hby at_6) (r := (1 : Int32)) rfl (q := 7) rfl ?_
    refine Go.goto X0 hx (hb hby at_7) (q := 11) (by decide) (by decide) ?_
    refine Go.istore X0 hx (hb hby at_11) (l' := #[.val (.int ps), .val (.int pa), .val (.int pb), .val (.int pz), .val (.int (1 : Int32)), .unset, .unset, .unset, .unset, .unset, .unset, .unset, .unset]) rfl (q := 13) rfl ?_
    refine Go.iload X0 hx (hb hby at_13) rfl (q := 15) rfl ?_
    refine Go.ifNo X0 hx (hb hby at_15) (by decide) (q := 18) rfl ?_
    refine Go.getS X0 hx hZ hown (host := "") (Or.inl (wd23 hw)) Via.refl e0 (S_SHA1.ext O0) (hb hby at_18) (q := 21) rfl ?_
    intro T133 X133 e133
    refine Go.goto X133 hx (hb hby at_21) (q := 27) (by decide) (by decide) ?_
    refine Go.astore X133 hx (hb hby at_27) rfl (l' := #[.val (.int ps), .val (.int pa), .val (.int pb), .val (.int pz), .val (.int (1 : Int32)), .val (.ref a_SHA1), .unset, .unset, .unset, .unset, .unset, .unset, .unset]) rfl (q := 29) rfl ?_
    refine Go.iloadN X133 hx (hb hby at_29) rfl (q := 30) rfl ?_
    refine Go.iconst X133 hx (hb hby at_30) (r := (1 : Int32)) rfl (q := 31) rfl ?_
    refine Go.iushr X133 hx (hb hby at_31) rfl (q := 32) rfl ?_
    refine Go.iconst X133 hx (hb hby at_32) (r := (3 : Int32)) rfl (q := 33) rfl ?_
    refine Go.iand X133 hx (hb hby at_33) rfl (q := 34) rfl ?_
    have hk := own_and3 ((ps.toUInt32 >>> ((1 : Int32) &&& 31).toUInt32).toInt32)
    generalize (((ps.toUInt32 >>> ((1 : Int32) &&& 31).toUInt32).toInt32) &&& (3 : Int32)) = k at hk ⊢
    rcases hk with rfl | rfl | rfl | rfl
    · show Go pp ee below _ (T133.setTop (mkF mm 34 #[.val (.int ps), .val (.int pa), .val (.int pb), .val (.int pz), .val (.int (1 : Int32)), .val (.ref a_SHA1), .unset, .unset, .unset, .unset, .unset, .unset, .unset] [(.int (0 : Int32))]))
      refine Go.istore X133 hx (hb hby at_34) (l' := #[.val (.int ps), .val (.int pa), .val (.int pb), .val (.int pz), .val (.int (1 : Int32)), .val (.ref a_SHA1), .val (.int (0 : Int32)), .unset, .unset, .unset, .unset, .unset, .unset]) rfl (q := 36) rfl ?_
      refine Go.iload X133 hx (hb hby at_36) rfl (q := 38) rfl ?_
      refine Go.ifNo X133 hx (hb hby at_38) (by decide) (q := 41) rfl ?_
      refine Go.iconst X133 hx (hb hby at_41) (r := (5 : Int32)) rfl (q := 42) rfl ?_
      refine Go.goto X133 hx (hb hby at_42) (q := 46) (by decide) (by decide) ?_
      refine Go.istore X133 hx (hb hby at_46) (l' := #[.val (.int ps), .val (.int pa), .val (.int pb), .val (.int pz), .val (.int (1 : Int32)), .val (.ref a_SHA1), .val (.int (0 : Int32)), .val (.int (5 : Int32)), .unset, .unset, .unset, .unset, .unset]) rfl (q := 48) rfl ?_
      refine Go.iloadN X133 hx (hb hby at_48) rfl (q := 49) rfl ?_
      refine Go.i2b X133 hx (hb hby at_49) rfl (q := 50) rfl ?_
      refine Go.istore X133 hx (hb hby at_50) (l' := #[.val (.int ps), .val (.int pa), .val (.int pb), .val (.int pz), .val (.int (1 : Int32)), .val (.ref a_SHA1), .val (.int (0 : Int32)), .val (.int (5 : Int32)), .val (.int (pa.toInt8.toInt32)), .unset, .unset, .unset, .unset]) rfl (q := 52) rfl ?_
      refine Go.iloadN X133 hx (hb hby at_52) rfl (q := 53) rfl ?_
      refine Go.i2b X133 hx (hb hby at_53) rfl (q := 54) rfl ?_
      refine Go.istore X133 hx (hb hby at_54) (l' := #[.val (.int ps), .val (.int pa), .val (.int pb), .val (.int pz), .val (.int (1 : Int32)), .val (.ref a_SHA1), .val (.int (0 : Int32)), .val (.int (5 : Int32)), .val (.int (pa.toInt8.toInt32)), .val (.int (pb.toInt8.toInt32)), .unset, .unset, .unset]) rfl (q := 56) rfl ?_
      refine Go.iloadN X133 hx (hb hby at_56) rfl (q := 57) rfl ?_
      refine Go.i2b X133 hx (hb hby at_57) rfl (q := 58) rfl ?_
      refine Go.istore X133 hx (hb hby at_58) (l' := #[.val (.int ps), .val (.int pa), .val (.int pb), .val (.int pz), .val (.int (1 : Int32)), .val (.ref a_SHA1), .val (.int (0 : Int32)), .val (.int (5 : Int32)), .val (.int (pa.toInt8.toInt32)), .val (.int (pb.toInt8.toInt32)), .val (.int (pz.toInt8.toInt32)), .unset, .unset]) rfl (q := 60) rfl ?_
      refine Go.iload X133 hx (hb hby at_60) rfl (q := 62) rfl ?_
      refine Go.iload X133 hx (hb hby at_62) rfl (q := 64) rfl ?_
      refine Go.iadd X133 hx (hb hby at_64) (r := (5 : Int32)) rfl (q := 65) rfl ?_
      refine Go.newP X133 hx hZ (hb hby at_65) (wd3 hw) e133 (by decide) (cap := 5) (by decide) (by decide) (by decide) (by decide) (ad := "[B") rfl (q := 67) rfl ?_
      intro b134 T134 h134 k134 X134 e134 q134 E134 V134 B134
      have ne_a_MD5_b134 : a_MD5 ≠ b134 := ne_new (E_MD5.ext O0).lt (Nat.le_of_eq q134)
      have ne_a_SHA1_b134 : a_SHA1 ≠ b134 := ne_new (E_SHA1.ext O0).lt (Nat.le_of_eq q134)
      have g_b134 : Z.heap.size ≤ b134 := Nat.le_trans O0.1 (Nat.le_of_eq q134)
      have OE134 := ext_trans O0 E134
      replace V134 : Arv Z h134 b134 k134 .byte (5 : Int32) [(.int (0 : Int32)), (.int (0 : Int32)), (.int (0 : Int32)), (.int (0 : Int32)), (.int (0 : Int32))] (.int (0 : Int32)) := V134.pad (pad_rep [] (.int (0 : Int32)) 5)
      refine Go.astore X134 hx (hb hby at_67) rfl (l' := #[.val (.int ps), .val (.int pa), .val (.int pb), .val (.int pz), .val (.int (1 : Int32)), .val (.ref a_SHA1), .val (.int (0 : Int32)), .val (.int (5 : Int32)), .val (.int (pa.toInt8.toInt32)), .val (.int (pb.toInt8.toInt32)), .val (.int (pz.toInt8.toInt32)), .val (.ref b134), .unset]) rfl (q := 69) rfl ?_
      refine Go.iload X134 hx (hb hby at_69) rfl (q := 71) rfl ?_
      refine Go.ifYes X134 hx (hb hby at_71) (by decide) (q := 80) (by decide) (by decide) ?_
      refine Go.iload X134 hx (hb hby at_80) rfl (q := 82) rfl ?_
      refine Go.iconst X134 hx (hb hby at_82) (r := (1 : Int32)) rfl (q := 83) rfl ?_
      refine Go.icmpYes X134 hx (hb hby at_83) (by decide) (q := 92) (by decide) (by decide) ?_
      refine Go.iload X134 hx (hb hby at_92) rfl (q := 94) rfl ?_
      refine Go.iconst X134 hx (hb hby at_94) (r := (2 : Int32)) rfl (q := 95) rfl ?_
      refine Go.icmpYes X134 hx (hb hby at_95) (by decide) (q := 104) (by decide) (by decide) ?_
      refine Go.aload X134 hx (hb hby at_104) rfl rfl (q := 106) rfl ?_
      refine Go.iload X134 hx (hb hby at_106) rfl (q := 108) rfl ?_
      refine Go.bipush X134 hx (hb hby at_108) (r := (46 : Int32)) rfl (q := 110) rfl ?_
      refine Go.bst X134 hx hZ e134 V134 ⟨by decide, by decide⟩ (i := 0) rfl (Nat.le_of_ble_eq_true rfl) (hb hby at_110) ?_
      intro T135 h135 X135 e135 W135 V135
      replace V135 : Arv Z h135 b134 k134 .byte (5 : Int32) [(.int (46 : Int32)), (.int (0 : Int32)), (.int (0 : Int32)), (.int (0 : Int32)), (.int (0 : Int32))] (.int (0 : Int32)) := V135
      have N135 := Fr.snoc X135 N0 g_b134
      replace B134 := B134.wr W135
      have OW135 := ext_wr OE134 W135 g_b134
      refine Go.iload X135 hx (hb hby at_111) rfl (q := 113) rfl ?_
      refine Go.ifNo X135 hx (hb hby at_113) (by decide) (q := 116) rfl ?_
      refine Go.aload X135 hx (hb hby at_116) rfl rfl (q := 118) rfl ?_
      refine Go.iload X135 hx (hb hby at_118) rfl (q := 120) rfl ?_
      refine Go.iconst X135 hx (hb hby at_120) (r := (1 : Int32)) rfl (q := 121) rfl ?_
      refine Go.iadd X135 hx (hb hby at_121) (r := (1 : Int32)) rfl (q := 122) rfl ?_
      refine Go.bipush X135 hx (hb hby at_122) (r := (115 : Int32)) rfl (q := 124) rfl ?_
      refine Go.bst X135 hx hZ e135 V135 ⟨by decide, by decide⟩ (i := 1) rfl (Nat.le_of_ble_eq_true rfl) (hb hby at_124) ?_
      intro T136 h136 X136 e136 W136 V136
      replace V136 : Arv Z h136 b134 k134 .byte (5 : Int32) [(.int (46 : Int32)), (.int (115 : Int32)), (.int (0 : Int32)), (.int (0 : Int32)), (.int (0 : Int32))] (.int (0 : Int32)) := V136
      have N136 := Fr.snoc X136 N135 g_b134
      replace B134 := B134.wr W136
      have OW136 := ext_wr OW135 W136 g_b134
      refine Go.aload X136 hx (hb hby at_125) rfl rfl (q := 127) rfl ?_
      refine Go.iload X136 hx (hb hby at_127) rfl (q := 129) rfl ?_
      refine Go.iconst X136 hx (hb hby at_129) (r := (2 : Int32)) rfl (q := 130) rfl ?_
      refine Go.iadd X136 hx (hb hby at_130) (r := (2 : Int32)) rfl (q := 131) rfl ?_
      refine Go.bipush X136 hx (hb hby at_131) (r := (104 : Int32)) rfl (q := 133) rfl ?_
      refine Go.bst X136 hx hZ e136 V136 ⟨by decide, by decide⟩ (i := 2) rfl (Nat.le_of_ble_eq_true rfl) (hb hby at_133) ?_
      intro T137 h137 X137 e137 W137 V137
      replace V137 : Arv Z h137 b134 k134 .byte (5 : Int32) [(.int (46 : Int32)), (.int (115 : Int32)), (.int (104 : Int32)), (.int (0 : Int32)), (.int (0 : Int32))] (.int (0 : Int32)) := V137
      have N137 := Fr.snoc X137 N136 g_b134
      replace B134 := B134.wr W137
      have OW137 := ext_wr OW136 W137 g_b134
      refine Go.aload X137 hx (hb hby at_134) rfl rfl (q := 136) rfl ?_
      refine Go.iload X137 hx (hb hby at_136) rfl (q := 138) rfl ?_
      refine Go.iconst X137 hx (hb hby at_138) (r := (3 : Int32)) rfl (q := 139) rfl ?_
      refine Go.iadd X137 hx (hb hby at_139) (r := (3 : Int32)) rfl (q := 140) rfl ?_
      refine Go.bipush X137 hx (hb hby at_140) (r := (97 : Int32)) rfl (q := 142) rfl ?_
      refine Go.bst X137 hx hZ e137 V137 ⟨by decide, by decide⟩ (i := 3) rfl (Nat.le_of_ble_eq_true rfl) (hb hby at_142) ?_
      intro T138 h138 X138 e138 W138 V138
      replace V138 : Arv Z h138 b134 k134 .byte (5 : Int32) [(.int (46 : Int32)), (.int (115 : Int32)), (.int (104 : Int32)), (.int (97 : Int32)), (.int (0 : Int32))] (.int (0 : Int32)) := V138
      have N138 := Fr.snoc X138 N137 g_b134
      replace B134 := B134.wr W138
      have OW138 := ext_wr OW137 W138 g_b134
      refine Go.aload X138 hx (hb hby at_143) rfl rfl (q := 145) rfl ?_
      refine Go.iload X138 hx (hb hby at_145) rfl (q := 147) rfl ?_
      refine Go.iconst X138 hx (hb hby at_147) (r := (4 : Int32)) rfl (q := 148) rfl ?_
      refine Go.iadd X138 hx (hb hby at_148) (r := (4 : Int32)) rfl (q := 149) rfl ?_
      refine Go.bipush X138 hx (hb hby at_149) (r := (49 : Int32)) rfl (q := 151) rfl ?_
      refine Go.bst X138 hx hZ e138 V138 ⟨by decide, by decide⟩ (i := 4) rfl (Nat.le_of_ble_eq_true rfl) (hb hby at_151) ?_
      intro T139 h139 X139 e139 W139 V139
      replace V139 : Arv Z h139 b134 k134 .byte (5 : Int32) [(.int (46 : Int32)), (.int (115 : Int32)), (.int (104 : Int32)), (.int (97 : Int32)), (.int (49 : Int32))] (.int (0 : Int32)) := V139
      have N139 := Fr.snoc X139 N138 g_b134
      replace B134 := B134.wr W139
      have OW139 := ext_wr OW138 W139 g_b134
      refine Go.goto X139 hx (hb hby at_152) (q := 182) (by decide) (by decide) ?_
      refine Go.aload X139 hx (hb hby at_182) rfl rfl (q := 184) rfl ?_
      refine Go.aload X139 hx (hb hby at_184) rfl rfl (q := 186) rfl ?_
      refine Go.virt X139 hx hZ hown (wd4 hw) (wd5 hw) (notFace_of_selects (args := #[]) (mvT hZ (wd7 hw))) (wd7 hw) (wd6 hw) (wd1 hw) (wd8 hw) (by decide) (cnp_5_0 l Z a0 hw a_SHA1 a_SHA1_ending b134 (k134) ((46 : Int32)) ((115 : Int32)) ((104 : Int32)) ((97 : Int32)) ((49 : Int32)) h139 OW139 V139 F_SHA1_ending L_SHA1_ending) e139 (E_SHA1.ext OW139) (by rw [hml]; rfl) (hb hby at_186) (argsL := [(.ref b134)]) (rest := []) (lenOf pd2 rfl) rfl rfl (W := 0) (by first | exact Nat.le_refl _ | decide) (by decide) (by decide) (by decide) (by decide) ?_
      intro v140 T140 L140 X140 hQ140
      obtain ⟨h140, e140⟩ : ∃ z, T140.heap = z := ⟨_, rfl⟩
      rw [e140] at hQ140
      obtain ⟨b_140, kb_140, rfl, N140q, K140, fr140_b, P140_0⟩ := hQ140
      have N140 := Fr.app N139 N140q
      have ne_b134_b_140 : b134 ≠ b_140 := ne_new B134.lt fr140_b
      have ne_a_MD5_b_140 : a_MD5 ≠ b_140 := ne_new (E_MD5.ext OW139).lt fr140_b
      have ne_a_SHA1_b_140 : a_SHA1 ≠ b_140 := ne_new (E_SHA1.ext OW139).lt fr140_b
      have g_b_140 : Z.heap.size ≤ b_140 := Nat.le_trans OW139.1 fr140_b
      replace B134 := B134.keep K140
      replace V139 := V139.keep K140 nin0
      have OK140 := ext_keep OW139 K140 all0
      refine Go.astore X140 hx (hb hby at_189) rfl (l' := #[.val (.int ps), .val (.int pa), .val (.int pb), .val (.int pz), .val (.int (1 : Int32)), .val (.ref a_SHA1), .val (.int (0 : Int32)), .val (.int (5 : Int32)), .val (.int (pa.toInt8.toInt32)), .val (.int (pb.toInt8.toInt32)), .val (.int (pz.toInt8.toInt32)), .val (.ref b134), .val (.ref b_140)]) rfl (q := 191) rfl ?_
      refine Go.aload X140 hx (hb hby at_191) rfl rfl (q := 193) rfl ?_
      refine Go.ifnonnullYes X140 hx (hb hby at_193) (q := 198) (by decide) (by decide) ?_
      refine Go.aload X140 hx (hb hby at_198) rfl rfl (q := 200) rfl ?_
      refine Go.alen X140 hx hZ e140 P140_0 (hb hby at_200) ?_
      refine Go.iload X140 hx (hb hby at_201) rfl (q := 203) rfl ?_
      refine Go.icmpYes X140 hx (hb hby at_203) (by decide) (q := 208) (by decide) (by decide) ?_
      refine Go.iload X140 hx (hb hby at_208) rfl (q := 210) rfl ?_
      refine Go.ifYes X140 hx (hb hby at_210) (by decide) (q := 224) (by decide) (by decide) ?_
      refine Go.iload X140 hx (hb hby at_224) rfl (q := 226) rfl ?_
      refine Go.iconst X140 hx (hb hby at_226) (r := (1 : Int32)) rfl (q := 227) rfl ?_
      refine Go.icmpYes X140 hx (hb hby at_227) (by decide) (q := 241) (by decide) (by decide) ?_
      refine Go.iload X140 hx (hb hby at_241) rfl (q := 243) rfl ?_
      refine Go.iconst X140 hx (hb hby at_243) (r := (2 : Int32)) rfl (q := 244) rfl ?_
      refine Go.icmpYes X140 hx (hb hby at_244) (by decide) (q := 258) (by decide) (by decide) ?_
      refine Go.aload X140 hx (hb hby at_258) rfl rfl (q := 260) rfl ?_
      refine Go.iload X140 hx (hb hby at_260) rfl (q := 262) rfl ?_
      refine Go.bal X140 hx hZ e140 V139 ⟨by decide, by decide⟩ (v := (.int (46 : Int32))) rfl (hb hby at_262) ?_
      refine Go.bipush X140 hx (hb hby at_263) (r := (46 : Int32)) rfl (q := 265) rfl ?_
      refine Go.icmpYes X140 hx (hb hby at_265) (by decide) (q := 270) (by decide) (by decide) ?_
      refine Go.iconst X140 hx (hb hby at_270) (r := (1 : Int32)) rfl (q := 271) rfl ?_
      exact Go.retI X140 hx hret hlk (by simp) rfl (hb hby at_271) e140 (by decide) (by decide) ⟨rfl, N140⟩
    · show Go pp ee below _ (T133.setTop (mkF mm 34 #[.val (.int ps), .val (.int pa), .val (.int pb), .val (.int pz), .val (.int (1 : Int32)), .val (.ref a_SHA1), .unset, .unset, .unset, .unset, .unset, .unset, .unset] [(.int (1 : Int32))]))
      refine Go.istore X133 hx (hb hby at_34) (l' := #[.val (.int ps), .val (.int pa), .val (.int pb), .val (.int pz), .val (.int (1 : Int32)), .val (.ref a_SHA1), .val (.int (1 : Int32)), .unset, .unset, .unset, .unset, .unset, .unset]) rfl (q := 36) rfl ?_
      refine Go.iload X133 hx (hb hby at_36) rfl (q := 38) rfl ?_
      refine Go.ifNo X133 hx (hb hby at_38) (by decide) (q := 41) rfl ?_
      refine Go.iconst X133 hx (hb hby at_41) (r := (5 : Int32)) rfl (q := 42) rfl ?_
      refine Go.goto X133 hx (hb hby at_42) (q := 46) (by decide) (by decide) ?_
      refine Go.istore X133 hx (hb hby at_46) (l' := #[.val (.int ps), .val (.int pa), .val (.int pb), .val (.int pz), .val (.int (1 : Int32)), .val (.ref a_SHA1), .val (.int (1 : Int32)), .val (.int (5 : Int32)), .unset, .unset, .unset, .unset, .unset]) rfl (q := 48) rfl ?_
      refine Go.iloadN X133 hx (hb hby at_48) rfl (q := 49) rfl ?_
      refine Go.i2b X133 hx (hb hby at_49) rfl (q := 50) rfl ?_
      refine Go.istore X133 hx (hb hby at_50) (l' := #[.val (.int ps), .val (.int pa), .val (.int pb), .val (.int pz), .val (.int (1 : Int32)), .val (.ref a_SHA1), .val (.int (1 : Int32)), .val (.int (5 : Int32)), .val (.int (pa.toInt8.toInt32)), .unset, .unset, .unset, .unset]) rfl (q := 52) rfl ?_
      refine Go.iloadN X133 hx (hb hby at_52) rfl (q := 53) rfl ?_
      refine Go.i2b X133 hx (hb hby at_53) rfl (q := 54) rfl ?_
      refine Go.istore X133 hx (hb hby at_54) (l' := #[.val (.int ps), .val (.int pa), .val (.int pb), .val (.int pz), .val (.int (1 : Int32)), .val (.ref a_SHA1), .val (.int (1 : Int32)), .val (.int (5 : Int32)), .val (.int (pa.toInt8.toInt32)), .val (.int (pb.toInt8.toInt32)), .unset, .unset, .unset]) rfl (q := 56) rfl ?_
      refine Go.iloadN X133 hx (hb hby at_56) rfl (q := 57) rfl ?_
      refine Go.i2b X133 hx (hb hby at_57) rfl (q := 58) rfl ?_
      refine Go.istore X133 hx (hb hby at_58) (l' := #[.val (.int ps), .val (.int pa), .val (.int pb), .val (.int pz), .val (.int (1 : Int32)), .val (.ref a_SHA1), .val (.int (1 : Int32)), .val (.int (5 : Int32)), .val (.int (pa.toInt8.toInt32)), .val (.int (pb.toInt8.toInt32)), .val (.int (pz.toInt8.toInt32)), .unset, .unset]) rfl (q := 60) rfl ?_
      refine Go.iload X133 hx (hb hby at_60) rfl (q := 62) rfl ?_
      refine Go.iload X133 hx (hb hby at_62) rfl (q := 64) rfl ?_
      refine Go.iadd X133 hx (hb hby at_64) (r := (6 : Int32)) rfl (q := 65) rfl ?_
      refine Go.newP X133 hx hZ (hb hby at_65) (wd3 hw) e133 (by decide) (cap := 6) (by decide) (by decide) (by decide) (by decide) (ad := "[B") rfl (q := 67) rfl ?_
      intro b141 T141 h141 k141 X141 e141 q141 E141 V141 B141
      have ne_a_MD5_b141 : a_MD5 ≠ b141 := ne_new (E_MD5.ext O0).lt (Nat.le_of_eq q141)
      have ne_a_SHA1_b141 : a_SHA1 ≠ b141 := ne_new (E_SHA1.ext O0).lt (Nat.le_of_eq q141)
      have g_b141 : Z.heap.size ≤ b141 := Nat.le_trans O0.1 (Nat.le_of_eq q141)
      have OE141 := ext_trans O0 E141
      replace V141 : Arv Z h141 b141 k141 .byte (6 : Int32) [(.int (0 : Int32)), (.int (0 : Int32)), (.int (0 : Int32)), (.int (0 : Int32)), (.int (0 : Int32)), (.int (0 : Int32))] (.int (0 : Int32)) := V141.pad (pad_rep [] (.int (0 : Int32)) 6)
      refine Go.astore X141 hx (hb hby at_67) rfl (l' := #[.val (.int ps), .val (.int pa), .val (.int pb), .val (.int pz), .val (.int (1 : Int32)), .val (.ref a_SHA1), .val (.int (1 : Int32)), .val (.int (5 : Int32)), .val (.int (pa.toInt8.toInt32)), .val (.int (pb.toInt8.toInt32)), .val (.int (pz.toInt8.toInt32)), .val (.ref b141), .unset]) rfl (q := 69) rfl ?_
      refine Go.iload X141 hx (hb hby at_69) rfl (q := 71) rfl ?_
      refine Go.ifNo X141 hx (hb hby at_71) (by decide) (q := 74) rfl ?_
      refine Go.aload X141 hx (hb hby at_74) rfl rfl (q := 76) rfl ?_
      refine Go.iconst X141 hx (hb hby at_76) (r := (0 : Int32)) rfl (q := 77) rfl ?_
      refine Go.iload X141 hx (hb hby at_77) rfl (q := 79) rfl ?_
      refine Go.bst X141 hx hZ e141 V141 ⟨by decide, by decide⟩ (i := 0) rfl (Nat.le_of_ble_eq_true rfl) (hb hby at_79) ?_
      intro T142 h142 X142 e142 W142 V142
      rw [bb pa] at V142
      replace V142 : Arv Z h142 b141 k141 .byte (6 : Int32) [(.int (pa.toInt8.toInt32)), (.int (0 : Int32)), (.int (0 : Int32)), (.int (0 : Int32)), (.int (0 : Int32)), (.int (0 : Int32))] (.int (0 : Int32)) := V142
      have N142 := Fr.snoc X142 N0 g_b141
      replace B141 := B141.wr W142
      have OW142 := ext_wr OE141 W142 g_b141
      refine Go.iload X142 hx (hb hby at_80) rfl (q := 82) rfl ?_
      refine Go.iconst X142 hx (hb hby at_82) (r := (1 : Int32)) rfl (q := 83) rfl ?_
      refine Go.icmpYes X142 hx (hb hby at_83) (by decide) (q := 92) (by decide) (by decide) ?_
      refine Go.iload X142 hx (hb hby at_92) rfl (q := 94) rfl ?_
      refine Go.iconst X142 hx (hb hby at_94) (r := (2 : Int32)) rfl (q := 95) rfl ?_
      refine Go.icmpYes X142 hx (hb hby at_95) (by decide) (q := 104) (by decide) (by decide) ?_
      refine Go.aload X142 hx (hb hby at_104) rfl rfl (q := 106) rfl ?_
      refine Go.iload X142 hx (hb hby at_106) rfl (q := 108) rfl ?_
      refine Go.bipush X142 hx (hb hby at_108) (r := (46 : Int32)) rfl (q := 110) rfl ?_
      refine Go.bst X142 hx hZ e142 V142 ⟨by decide, by decide⟩ (i := 1) rfl (Nat.le_of_ble_eq_true rfl) (hb hby at_110) ?_
      intro T143 h143 X143 e143 W143 V143
      replace V143 : Arv Z h143 b141 k141 .byte (6 : Int32) [(.int (pa.toInt8.toInt32)), (.int (46 : Int32)), (.int (0 : Int32)), (.int (0 : Int32)), (.int (0 : Int32)), (.int (0 : Int32))] (.int (0 : Int32)) := V143
      have N143 := Fr.snoc X143 N142 g_b141
      replace B141 := B141.wr W143
      have OW143 := ext_wr OW142 W143 g_b141
      refine Go.iload X143 hx (hb hby at_111) rfl (q := 113) rfl ?_
      refine Go.ifNo X143 hx (hb hby at_113) (by decide) (q := 116) rfl ?_
      refine Go.aload X143 hx (hb hby at_116) rfl rfl (q := 118) rfl ?_
      refine Go.iload X143 hx (hb hby at_118) rfl (q := 120) rfl ?_
      refine Go.iconst X143 hx (hb hby at_120) (r := (1 : Int32)) rfl (q := 121) rfl ?_
      refine Go.iadd X143 hx (hb hby at_121) (r := (2 : Int32)) rfl (q := 122) rfl ?_
      refine Go.bipush X143 hx (hb hby at_122) (r := (115 : Int32)) rfl (q := 124) rfl ?_
      refine Go.bst X143 hx hZ e143 V143 ⟨by decide, by decide⟩ (i := 2) rfl (Nat.le_of_ble_eq_true rfl) (hb hby at_124) ?_
      intro T144 h144 X144 e144 W144 V144
      replace V144 : Arv Z h144 b141 k141 .byte (6 : Int32) [(.int (pa.toInt8.toInt32)), (.int (46 : Int32)), (.int (115 : Int32)), (.int (0 : Int32)), (.int (0 : Int32)), (.int (0 : Int32))] (.int (0 : Int32)) := V144
      have N144 := Fr.snoc X144 N143 g_b141
      replace B141 := B141.wr W144
      have OW144 := ext_wr OW143 W144 g_b141
      refine Go.aload X144 hx (hb hby at_125) rfl rfl (q := 127) rfl ?_
      refine Go.iload X144 hx (hb hby at_127) rfl (q := 129) rfl ?_
      refine Go.iconst X144 hx (hb hby at_129) (r := (2 : Int32)) rfl (q := 130) rfl ?_
      refine Go.iadd X144 hx (hb hby at_130) (r := (3 : Int32)) rfl (q := 131) rfl ?_
      refine Go.bipush X144 hx (hb hby at_131) (r := (104 : Int32)) rfl (q := 133) rfl ?_
      refine Go.bst X144 hx hZ e144 V144 ⟨by decide, by decide⟩ (i := 3) rfl (Nat.le_of_ble_eq_true rfl) (hb hby at_133) ?_
      intro T145 h145 X145 e145 W145 V145
      replace V145 : Arv Z h145 b141 k141 .byte (6 : Int32) [(.int (pa.toInt8.toInt32)), (.int (46 : Int32)), (.int (115 : Int32)), (.int (104 : Int32)), (.int (0 : Int32)), (.int (0 : Int32))] (.int (0 : Int32)) := V145
      have N145 := Fr.snoc X145 N144 g_b141
      replace B141 := B141.wr W145
      have OW145 := ext_wr OW144 W145 g_b141
      refine Go.aload X145 hx (hb hby at_134) rfl rfl (q := 136) rfl ?_
      refine Go.iload X145 hx (hb hby at_136) rfl (q := 138) rfl ?_
      refine Go.iconst X145 hx (hb hby at_138) (r := (3 : Int32)) rfl (q := 139) rfl ?_
      refine Go.iadd X145 hx (hb hby at_139) (r := (4 : Int32)) rfl (q := 140) rfl ?_
      refine Go.bipush X145 hx (hb hby at_140) (r := (97 : Int32)) rfl (q := 142) rfl ?_
      refine Go.bst X145 hx hZ e145 V145 ⟨by decide, by decide⟩ (i := 4) rfl (Nat.le_of_ble_eq_true rfl) (hb hby at_142) ?_
      intro T146 h146 X146 e146 W146 V146
      replace V146 : Arv Z h146 b141 k141 .byte (6 : Int32) [(.int (pa.toInt8.toInt32)), (.int (46 : Int32)), (.int (115 : Int32)), (.int (104 : Int32)), (.int (97 : Int32)), (.int (0 : Int32))] (.int (0 : Int32)) := V146
      have N146 := Fr.snoc X146 N145 g_b141
      replace B141 := B141.wr W146
      have OW146 := ext_wr OW145 W146 g_b141
      refine Go.aload X146 hx (hb hby at_143) rfl rfl (q := 145) rfl ?_
      refine Go.iload X146 hx (hb hby at_145) rfl (q := 147) rfl ?_
      refine Go.iconst X146 hx (hb hby at_147) (r := (4 : Int32)) rfl (q := 148) rfl ?_
      refine Go.iadd X146 hx (hb hby at_148) (r := (5 : Int32)) rfl (q := 149) rfl ?_
      refine Go.bipush X146 hx (hb hby at_149) (r := (49 : Int32)) rfl (q := 151) rfl ?_
      refine Go.bst X146 hx hZ e146 V146 ⟨by decide, by decide⟩ (i := 5) rfl (Nat.le_of_ble_eq_true rfl) (hb hby at_151) ?_
      intro T147 h147 X147 e147 W147 V147
      replace V147 : Arv Z h147 b141 k141 .byte (6 : Int32) [(.int (pa.toInt8.toInt32)), (.int (46 : Int32)), (.int (115 : Int32)), (.int (104 : Int32)), (.int (97 : Int32)), (.int (49 : Int32))] (.int (0 : Int32)) := V147
      have N147 := Fr.snoc X147 N146 g_b141
      replace B141 := B141.wr W147
      have OW147 := ext_wr OW146 W147 g_b141
      refine Go.goto X147 hx (hb hby at_152) (q := 182) (by decide) (by decide) ?_
      refine Go.aload X147 hx (hb hby at_182) rfl rfl (q := 184) rfl ?_
      refine Go.aload X147 hx (hb hby at_184) rfl rfl (q := 186) rfl ?_
      refine Go.virt X147 hx hZ hown (wd4 hw) (wd5 hw) (notFace_of_selects (args := #[]) (mvT hZ (wd7 hw))) (wd7 hw) (wd6 hw) (wd1 hw) (wd8 hw) (by decide) (cnp_5_1 l Z a0 hw a_SHA1 a_SHA1_ending b141 (k141) ((pa.toInt8.toInt32)) ((46 : Int32)) ((115 : Int32)) ((104 : Int32)) ((97 : Int32)) ((49 : Int32)) h147 OW147 V147 F_SHA1_ending L_SHA1_ending) e147 (E_SHA1.ext OW147) (by rw [hml]; rfl) (hb hby at_186) (argsL := [(.ref b141)]) (rest := []) (lenOf pd2 rfl) rfl rfl (W := 0) (by first | exact Nat.le_refl _ | decide) (by decide) (by decide) (by decide) (by decide) ?_
      intro v148 T148 L148 X148 hQ148
      obtain ⟨h148, e148⟩ : ∃ z, T148.heap = z := ⟨_, rfl⟩
      rw [e148] at hQ148
      obtain ⟨b_148, kb_148, rfl, N148q, K148, fr148_b, P148_0⟩ := hQ148
      have N148 := Fr.app N147 N148q
      have ne_b141_b_148 : b141 ≠ b_148 := ne_new B141.lt fr148_b
      have ne_a_MD5_b_148 : a_MD5 ≠ b_148 := ne_new (E_MD5.ext OW147).lt fr148_b
      have ne_a_SHA1_b_148 : a_SHA1 ≠ b_148 := ne_new (E_SHA1.ext OW147).lt fr148_b
      have g_b_148 : Z.heap.size ≤ b_148 := Nat.le_trans OW147.1 fr148_b
      replace B141 := B141.keep K148
      replace V147 := V147.keep K148 nin0
      have OK148 := ext_keep OW147 K148 all0
      refine Go.astore X148 hx (hb hby at_189) rfl (l' := #[.val (.int ps), .val (.int pa), .val (.int pb), .val (.int pz), .val (.int (1 : Int32)), .val (.ref a_SHA1), .val (.int (1 : Int32)), .val (.int (5 : Int32)), .val (.int (pa.toInt8.toInt32)), .val (.int (pb.toInt8.toInt32)), .val (.int (pz.toInt8.toInt32)), .val (.ref b141), .val (.ref b_148)]) rfl (q := 191) rfl ?_
      refine Go.aload X148 hx (hb hby at_191) rfl rfl (q := 193) rfl ?_
      refine Go.ifnonnullYes X148 hx (hb hby at_193) (q := 198) (by decide) (by decide) ?_
      refine Go.aload X148 hx (hb hby at_198) rfl rfl (q := 200) rfl ?_
      refine Go.alen X148 hx hZ e148 P148_0 (hb hby at_200) ?_
      refine Go.iload X148 hx (hb hby at_201) rfl (q := 203) rfl ?_
      refine Go.icmpYes X148 hx (hb hby at_203) (by decide) (q := 208) (by decide) (by decide) ?_
      refine Go.iload X148 hx (hb hby at_208) rfl (q := 210) rfl ?_
      refine Go.ifNo X148 hx (hb hby at_210) (by decide) (q := 213) rfl ?_
      refine Go.aload X148 hx (hb hby at_213) rfl rfl (q := 215) rfl ?_
      refine Go.iconst X148 hx (hb hby at_215) (r := (0 : Int32)) rfl (q := 216) rfl ?_
      refine Go.bal X148 hx hZ e148 P148_0 ⟨by decide, by decide⟩ (v := (.int (pa.toInt8.toInt32))) rfl (hb hby at_216) ?_
      refine Go.iload X148 hx (hb hby at_217) rfl (q := 219) rfl ?_
      refine Go.icmpYes X148 hx (hb hby at_219) (Jvm.Free.XT.ii_eq_t rfl) (q := 224) (by decide) (by decide) ?_
      refine Go.iload X148 hx (hb hby at_224) rfl (q := 226) rfl ?_
      refine Go.iconst X148 hx (hb hby at_226) (r := (1 : Int32)) rfl (q := 227) rfl ?_
      refine Go.icmpYes X148 hx (hb hby at_227) (by decide) (q := 241) (by decide) (by decide) ?_
      refine Go.iload X148 hx (hb hby at_241) rfl (q := 243) rfl ?_
      refine Go.iconst X148 hx (hb hby at_243) (r := (2 : Int32)) rfl (q := 244) rfl ?_
      refine Go.icmpYes X148 hx (hb hby at_244) (by decide) (q := 258) (by decide) (by decide) ?_
      refine Go.aload X148 hx (hb hby at_258) rfl rfl (q := 260) rfl ?_
      refine Go.iload X148 hx (hb hby at_260) rfl (q := 262) rfl ?_
      refine Go.bal X148 hx hZ e148 V147 ⟨by decide, by decide⟩ (v := (.int (46 : Int32))) rfl (hb hby at_262) ?_
      refine Go.bipush X148 hx (hb hby at_263) (r := (46 : Int32)) rfl (q := 265) rfl ?_
      refine Go.icmpYes X148 hx (hb hby at_265) (by decide) (q := 270) (by decide) (by decide) ?_
      refine Go.iconst X148 hx (hb hby at_270) (r := (1 : Int32)) rfl (q := 271) rfl ?_
      exact Go.retI X148 hx hret hlk (by simp) rfl (hb hby at_271) e148 (by decide) (by decide) ⟨rfl, N148⟩
    · show Go pp ee below _ (T133.setTop (mkF mm 34 #[.val (.int ps), .val (.int pa), .val (.int pb), .val (.int pz), .val (.int (1 : Int32)), .val (.ref a_SHA1), .unset, .unset, .unset, .unset, .unset, .unset, .unset] [(.int (2 : Int32))]))
      refine Go.istore X133 hx (hb hby at_34) (l' := #[.val (.int ps), .val (.int pa), .val (.int pb), .val (.int pz), .val (.int (1 : Int32)), .val (.ref a_SHA1), .val (.int (2 : Int32)), .unset, .unset, .unset, .unset, .unset, .unset]) rfl (q := 36) rfl ?_
      refine Go.iload X133 hx (hb hby at_36) rfl (q := 38) rfl ?_
      refine Go.ifNo X133 hx (hb hby at_38) (by decide) (q := 41) rfl ?_
      refine Go.iconst X133 hx (hb hby at_41) (r := (5 : Int32)) rfl (q := 42) rfl ?_
      refine Go.goto X133 hx (hb hby at_42) (q := 46) (by decide) (by decide) ?_
      refine Go.istore X133 hx (hb hby at_46) (l' := #[.val (.int ps), .val (.int pa), .val (.int pb), .val (.int pz), .val (.int (1 : Int32)), .val (.ref a_SHA1), .val (.int (2 : Int32)), .val (.int (5 : Int32)), .unset, .unset, .unset, .unset, .unset]) rfl (q := 48) rfl ?_
      refine Go.iloadN X133 hx (hb hby at_48) rfl (q := 49) rfl ?_
      refine Go.i2b X133 hx (hb hby at_49) rfl (q := 50) rfl ?_
      refine Go.istore X133 hx (hb hby at_50) (l' := #[.val (.int ps), .val (.int pa), .val (.int pb), .val (.int pz), .val (.int (1 : Int32)), .val (.ref a_SHA1), .val (.int (2 : Int32)), .val (.int (5 : Int32)), .val (.int (pa.toInt8.toInt32)), .unset, .unset, .unset, .unset]) rfl (q := 52) rfl ?_
      refine Go.iloadN X133 hx (hb hby at_52) rfl (q := 53) rfl ?_
      refine Go.i2b X133 hx (hb hby at_53) rfl (q := 54) rfl ?_
      refine Go.istore X133 hx (hb hby at_54) (l' := #[.val (.int ps), .val (.int pa), .val (.int pb), .val (.int pz), .val (.int (1 : Int32)), .val (.ref a_SHA1), .val (.int (2 : Int32)), .val (.int (5 : Int32)), .val (.int (pa.toInt8.toInt32)), .val (.int (pb.toInt8.toInt32)), .unset, .unset, .unset]) rfl (q := 56) rfl ?_
      refine Go.iloadN X133 hx (hb hby at_56) rfl (q := 57) rfl ?_
      refine Go.i2b X133 hx (hb hby at_57) rfl (q := 58) rfl ?_
      refine Go.istore X133 hx (hb hby at_58) (l' := #[.val (.int ps), .val (.int pa), .val (.int pb), .val (.int pz), .val (.int (1 : Int32)), .val (.ref a_SHA1), .val (.int (2 : Int32)), .val (.int (5 : Int32)), .val (.int (pa.toInt8.toInt32)), .val (.int (pb.toInt8.toInt32)), .val (.int (pz.toInt8.toInt32)), .unset, .unset]) rfl (q := 60) rfl ?_
      refine Go.iload X133 hx (hb hby at_60) rfl (q := 62) rfl ?_
      refine Go.iload X133 hx (hb hby at_62) rfl (q := 64) rfl ?_
      refine Go.iadd X133 hx (hb hby at_64) (r := (7 : Int32)) rfl (q := 65) rfl ?_
      refine Go.newP X133 hx hZ (hb hby at_65) (wd3 hw) e133 (by decide) (cap := 7) (by decide) (by decide) (by decide) (by decide) (ad := "[B") rfl (q := 67) rfl ?_
      intro b149 T149 h149 k149 X149 e149 q149 E149 V149 B149
      have ne_a_MD5_b149 : a_MD5 ≠ b149 := ne_new (E_MD5.ext O0).lt (Nat.le_of_eq q149)
      have ne_a_SHA1_b149 : a_SHA1 ≠ b149 := ne_new (E_SHA1.ext O0).lt (Nat.le_of_eq q149)
      have g_b149 : Z.heap.size ≤ b149 := Nat.le_trans O0.1 (Nat.le_of_eq q149)
      have OE149 := ext_trans O0 E149
      replace V149 : Arv Z h149 b149 k149 .byte (7 : Int32) [(.int (0 : Int32)), (.int (0 : Int32)), (.int (0 : Int32)), (.int (0 : Int32)), (.int (0 : Int32)), (.int (0 : Int32)), (.int (0 : Int32))] (.int (0 : Int32)) := V149.pad (pad_rep [] (.int (0 : Int32)) 7)
      refine Go.astore X149 hx (hb hby at_67) rfl (l' := #[.val (.int ps), .val (.int pa), .val (.int pb), .val (.int pz), .val (.int (1 : Int32)), .val (.ref a_SHA1), .val (.int (2 : Int32)), .val (.int (5 : Int32)), .val (.int (pa.toInt8.toInt32)), .val (.int (pb.toInt8.toInt32)), .val (.int (pz.toInt8.toInt32)), .val (.ref b149), .unset]) rfl (q := 69) rfl ?_
      refine Go.iload X149 hx (hb hby at_69) rfl (q := 71) rfl ?_
      refine Go.ifNo X149 hx (hb hby at_71) (by decide) (q := 74) rfl ?_
      refine Go.aload X149 hx (hb hby at_74) rfl rfl (q := 76) rfl ?_
      refine Go.iconst X149 hx (hb hby at_76) (r := (0 : Int32)) rfl (q := 77) rfl ?_
      refine Go.iload X149 hx (hb hby at_77) rfl (q := 79) rfl ?_
      refine Go.bst X149 hx hZ e149 V149 ⟨by decide, by decide⟩ (i := 0) rfl (Nat.le_of_ble_eq_true rfl) (hb hby at_79) ?_
      intro T150 h150 X150 e150 W150 V150
      rw [bb pa] at V150
      replace V150 : Arv Z h150 b149 k149 .byte (7 : Int32) [(.int (pa.toInt8.toInt32)), (.int (0 : Int32)), (.int (0 : Int32)), (.int (0 : Int32)), (.int (0 : Int32)), (.int (0 : Int32)), (.int (0 : Int32))] (.int (0 : Int32)) := V150
      have N150 := Fr.snoc X150 N0 g_b149
      replace B149 := B149.wr W150
      have OW150 := ext_wr OE149 W150 g_b149
      refine Go.iload X150 hx (hb hby at_80) rfl (q := 82) rfl ?_
      refine Go.iconst X150 hx (hb hby at_82) (r := (1 : Int32)) rfl (q := 83) rfl ?_
      refine Go.icmpNo X150 hx (hb hby at_83) (by decide) (q := 86) rfl ?_
      refine Go.aload X150 hx (hb hby at_86) rfl rfl (q := 88) rfl ?_
      refine Go.iconst X150 hx (hb hby at_88) (r := (1 : Int32)) rfl (q := 89) rfl ?_
      refine Go.iload X150 hx (hb hby at_89) rfl (q := 91) rfl ?_
      refine Go.bst X150 hx hZ e150 V150 ⟨by decide, by decide⟩ (i := 1) rfl (Nat.le_of_ble_eq_true rfl) (hb hby at_91) ?_
      intro T151 h151 X151 e151 W151 V151
      rw [bb pb] at V151
      replace V151 : Arv Z h151 b149 k149 .byte (7 : Int32) [(.int (pa.toInt8.toInt32)), (.int (pb.toInt8.toInt32)), (.int (0 : Int32)), (.int (0 : Int32)), (.int (0 : Int32)), (.int (0 : Int32)), (.int (0 : Int32))] (.int (0 : Int32)) := V151
      have N151 := Fr.snoc X151 N150 g_b149
      replace B149 := B149.wr W151
      have OW151 := ext_wr OW150 W151 g_b149
      refine Go.iload X151 hx (hb hby at_92) rfl (q := 94) rfl ?_
      refine Go.iconst X151 hx (hb hby at_94) (r := (2 : Int32)) rfl (q := 95) rfl ?_
      refine Go.icmpYes X151 hx (hb hby at_95) (by decide) (q := 104) (by decide) (by decide) ?_
      refine Go.aload X151 hx (hb hby at_104) rfl rfl (q := 106) rfl ?_
      refine Go.iload X151 hx (hb hby at_106) rfl (q := 108) rfl ?_
      refine Go.bipush X151 hx (hb hby at_108) (r := (46 : Int32)) rfl (q := 110) rfl ?_
      refine Go.bst X151 hx hZ e151 V151 ⟨by decide, by decide⟩ (i := 2) rfl (Nat.le_of_ble_eq_true rfl) (hb hby at_110) ?_
      intro T152 h152 X152 e152 W152 V152
      replace V152 : Arv Z h152 b149 k149 .byte (7 : Int32) [(.int (pa.toInt8.toInt32)), (.int (pb.toInt8.toInt32)), (.int (46 : Int32)), (.int (0 : Int32)), (.int (0 : Int32)), (.int (0 : Int32)), (.int (0 : Int32))] (.int (0 : Int32)) := V152
      have N152 := Fr.snoc X152 N151 g_b149
      replace B149 := B149.wr W152
      have OW152 := ext_wr OW151 W152 g_b149
      refine Go.iload X152 hx (hb hby at_111) rfl (q := 113) rfl ?_
      refine Go.ifNo X152 hx (hb hby at_113) (by decide) (q := 116) rfl ?_
      refine Go.aload X152 hx (hb hby at_116) rfl rfl (q := 118) rfl ?_
      refine Go.iload X152 hx (hb hby at_118) rfl (q := 120) rfl ?_
      refine Go.iconst X152 hx (hb hby at_120) (r := (1 : Int32)) rfl (q := 121) rfl ?_
      refine Go.iadd X152 hx (hb hby at_121) (r := (3 : Int32)) rfl (q := 122) rfl ?_
      refine Go.bipush X152 hx (hb hby at_122) (r := (115 : Int32)) rfl (q := 124) rfl ?_
      refine Go.bst X152 hx hZ e152 V152 ⟨by decide, by decide⟩ (i := 3) rfl (Nat.le_of_ble_eq_true rfl) (hb hby at_124) ?_
      intro T153 h153 X153 e153 W153 V153
      replace V153 : Arv Z h153 b149 k149 .byte (7 : Int32) [(.int (pa.toInt8.toInt32)), (.int (pb.toInt8.toInt32)), (.int (46 : Int32)), (.int (115 : Int32)), (.int (0 : Int32)), (.int (0 : Int32)), (.int (0 : Int32))] (.int (0 : Int32)) := V153
      have N153 := Fr.snoc X153 N152 g_b149
      replace B149 := B149.wr W153
      have OW153 := ext_wr OW152 W153 g_b149
      refine Go.aload X153 hx (hb hby at_125) rfl rfl (q := 127) rfl ?_
      refine Go.iload X153 hx (hb hby at_127) rfl (q := 129) rfl ?_
      refine Go.iconst X153 hx (hb hby at_129) (r := (2 : Int32)) rfl (q := 130) rfl ?_
      refine Go.iadd X153 hx (hb hby at_130) (r := (4 : Int32)) rfl (q := 131) rfl ?_
      refine Go.bipush X153 hx (hb hby at_131) (r := (104 : Int32)) rfl (q := 133) rfl ?_
      refine Go.bst X153 hx hZ e153 V153 ⟨by decide, by decide⟩ (i := 4) rfl (Nat.le_of_ble_eq_true rfl) (hb hby at_133) ?_
      intro T154 h154 X154 e154 W154 V154
      replace V154 : Arv Z h154 b149 k149 .byte (7 : Int32) [(.int (pa.toInt8.toInt32)), (.int (pb.toInt8.toInt32)), (.int (46 : Int32)), (.int (115 : Int32)), (.int (104 : Int32)), (.int (0 : Int32)), (.int (0 : Int32))] (.int (0 : Int32)) := V154
      have N154 := Fr.snoc X154 N153 g_b149
      replace B149 := B149.wr W154
      have OW154 := ext_wr OW153 W154 g_b149
      refine Go.aload X154 hx (hb hby at_134) rfl rfl (q := 136) rfl ?_
      refine Go.iload X154 hx (hb hby at_136) rfl (q := 138) rfl ?_
      refine Go.iconst X154 hx (hb hby at_138) (r := (3 : Int32)) rfl (q := 139) rfl ?_
      refine Go.iadd X154 hx (hb hby at_139) (r := (5 : Int32)) rfl (q := 140) rfl ?_
      refine Go.bipush X154 hx (hb hby at_140) (r := (97 : Int32)) rfl (q := 142) rfl ?_
      refine Go.bst X154 hx hZ e154 V154 ⟨by decide, by decide⟩ (i := 5) rfl (Nat.le_of_ble_eq_true rfl) (hb hby at_142) ?_
      intro T155 h155 X155 e155 W155 V155
      replace V155 : Arv Z h155 b149 k149 .byte (7 : Int32) [(.int (pa.toInt8.toInt32)), (.int (pb.toInt8.toInt32)), (.int (46 : Int32)), (.int (115 : Int32)), (.int (104 : Int32)), (.int (97 : Int32)), (.int (0 : Int32))] (.int (0 : Int32)) := V155
      have N155 := Fr.snoc X155 N154 g_b149
      replace B149 := B149.wr W155
      have OW155 := ext_wr OW154 W155 g_b149
      refine Go.aload X155 hx (hb hby at_143) rfl rfl (q := 145) rfl ?_
      refine Go.iload X155 hx (hb hby at_145) rfl (q := 147) rfl ?_
      refine Go.iconst X155 hx (hb hby at_147) (r := (4 : Int32)) rfl (q := 148) rfl ?_
      refine Go.iadd X155 hx (hb hby at_148) (r := (6 : Int32)) rfl (q := 149) rfl ?_
      refine Go.bipush X155 hx (hb hby at_149) (r := (49 : Int32)) rfl (q := 151) rfl ?_
      refine Go.bst X155 hx hZ e155 V155 ⟨by decide, by decide⟩ (i := 6) rfl (Nat.le_of_ble_eq_true rfl) (hb hby at_151) ?_
      intro T156 h156 X156 e156 W156 V156
      replace V156 : Arv Z h156 b149 k149 .byte (7 : Int32) [(.int (pa.toInt8.toInt32)), (.int (pb.toInt8.toInt32)), (.int (46 : Int32)), (.int (115 : Int32)), (.int (104 : Int32)), (.int (97 : Int32)), (.int (49 : Int32))] (.int (0 : Int32)) := V156
      have N156 := Fr.snoc X156 N155 g_b149
      replace B149 := B149.wr W156
      have OW156 := ext_wr OW155 W156 g_b149
      refine Go.goto X156 hx (hb hby at_152) (q := 182) (by decide) (by decide) ?_
      refine Go.aload X156 hx (hb hby at_182) rfl rfl (q := 184) rfl ?_
      refine Go.aload X156 hx (hb hby at_184) rfl rfl (q := 186) rfl ?_
      refine Go.virt X156 hx hZ hown (wd4 hw) (wd5 hw) (notFace_of_selects (args := #[]) (mvT hZ (wd7 hw))) (wd7 hw) (wd6 hw) (wd1 hw) (wd8 hw) (by decide) (cnp_5_2 l Z a0 hw a_SHA1 a_SHA1_ending b149 (k149) ((pa.toInt8.toInt32)) ((pb.toInt8.toInt32)) ((46 : Int32)) ((115 : Int32)) ((104 : Int32)) ((97 : Int32)) ((49 : Int32)) h156 OW156 V156 F_SHA1_ending L_SHA1_ending) e156 (E_SHA1.ext OW156) (by rw [hml]; rfl) (hb hby at_186) (argsL := [(.ref b149)]) (rest := []) (lenOf pd2 rfl) rfl rfl (W := 0) (by first | exact Nat.le_refl _ | decide) (by decide) (by decide) (by decide) (by decide) ?_
      intro v157 T157 L157 X157 hQ157
      obtain ⟨h157, e157⟩ : ∃ z, T157.heap = z := ⟨_, rfl⟩
      rw [e157] at hQ157
      obtain ⟨b_157, kb_157, rfl, N157q, K157, fr157_b, P157_0⟩ := hQ157
      have N157 := Fr.app N156 N157q
      have ne_b149_b_157 : b149 ≠ b_157 := ne_new B149.lt fr157_b
      have ne_a_MD5_b_157 : a_MD5 ≠ b_157 := ne_new (E_MD5.ext OW156).lt fr157_b
      have ne_a_SHA1_b_157 : a_SHA1 ≠ b_157 := ne_new (E_SHA1.ext OW156).lt fr157_b
      have g_b_157 : Z.heap.size ≤ b_157 := Nat.le_trans OW156.1 fr157_b
      replace B149 := B149.keep K157
      replace V156 := V156.keep K157 nin0
      have OK157 := ext_keep OW156 K157 all0
      refine Go.astore X157 hx (hb hby at_189) rfl (l' := #[.val (.int ps), .val (.int pa), .val (.int pb), .val (.int pz), .val (.int (1 : Int32)), .val (.ref a_SHA1), .val (.int (2 : Int32)), .val (.int (5 : Int32)), .val (.int (pa.toInt8.toInt32)), .val (.int (pb.toInt8.toInt32)), .val (.int (pz.toInt8.toInt32)), .val (.ref b149), .val (.ref b_157)]) rfl (q := 191) rfl ?_
      refine Go.aload X157 hx (hb hby at_191) rfl rfl (q := 193) rfl ?_
      refine Go.ifnonnullYes X157 hx (hb hby at_193) (q := 198) (by decide) (by decide) ?_
      refine Go.aload X157 hx (hb hby at_198) rfl rfl (q := 200) rfl ?_
      refine Go.alen X157 hx hZ e157 P157_0 (hb hby at_200) ?_
      refine Go.iload X157 hx (hb hby at_201) rfl (q := 203) rfl ?_
      refine Go.icmpYes X157 hx (hb hby at_203) (by decide) (q := 208) (by decide) (by decide) ?_
      refine Go.iload X157 hx (hb hby at_208) rfl (q := 210) rfl ?_
      refine Go.ifNo X157 hx (hb hby at_210) (by decide) (q := 213) rfl ?_
      refine Go.aload X157 hx (hb hby at_213) rfl rfl (q := 215) rfl ?_
      refine Go.iconst X157 hx (hb hby at_215) (r := (0 : Int32)) rfl (q := 216) rfl ?_
      refine Go.bal X157 hx hZ e157 P157_0 ⟨by decide, by decide⟩ (v := (.int (pa.toInt8.toInt32))) rfl (hb hby at_216) ?_
      refine Go.iload X157 hx (hb hby at_217) rfl (q := 219) rfl ?_
      refine Go.icmpYes X157 hx (hb hby at_219) (Jvm.Free.XT.ii_eq_t rfl) (q := 224) (by decide) (by decide) ?_
      refine Go.iload X157 hx (hb hby at_224) rfl (q := 226) rfl ?_
      refine Go.iconst X157 hx (hb hby at_226) (r := (1 : Int32)) rfl (q := 227) rfl ?_
      refine Go.icmpNo X157 hx (hb hby at_227) (by decide) (q := 230) rfl ?_
      refine Go.aload X157 hx (hb hby at_230) rfl rfl (q := 232) rfl ?_
      refine Go.iconst X157 hx (hb hby at_232) (r := (1 : Int32)) rfl (q := 233) rfl ?_
      refine Go.bal X157 hx hZ e157 P157_0 ⟨by decide, by decide⟩ (v := (.int (pb.toInt8.toInt32))) rfl (hb hby at_233) ?_
      refine Go.iload X157 hx (hb hby at_234) rfl (q := 236) rfl ?_
      refine Go.icmpYes X157 hx (hb hby at_236) (Jvm.Free.XT.ii_eq_t rfl) (q := 241) (by decide) (by decide) ?_
      refine Go.iload X157 hx (hb hby at_241) rfl (q := 243) rfl ?_
      refine Go.iconst X157 hx (hb hby at_243) (r := (2 : Int32)) rfl (q := 244) rfl ?_
      refine Go.icmpYes X157 hx (hb hby at_244) (by decide) (q := 258) (by decide) (by decide) ?_
      refine Go.aload X157 hx (hb hby at_258) rfl rfl (q := 260) rfl ?_
      refine Go.iload X157 hx (hb hby at_260) rfl (q := 262) rfl ?_
      refine Go.bal X157 hx hZ e157 V156 ⟨by decide, by decide⟩ (v := (.int (46 : Int32))) rfl (hb hby at_262) ?_
      refine Go.bipush X157 hx (hb hby at_263) (r := (46 : Int32)) rfl (q := 265) rfl ?_
      refine Go.icmpYes X157 hx (hb hby at_265) (by decide) (q := 270) (by decide) (by decide) ?_
      refine Go.iconst X157 hx (hb hby at_270) (r := (1 : Int32)) rfl (q := 271) rfl ?_
      exact Go.retI X157 hx hret hlk (by simp) rfl (hb hby at_271) e157 (by decide) (by decide) ⟨rfl, N157⟩
    · show Go pp ee below _ (T133.setTop (mkF mm 34 #[.val (.int ps), .val (.int pa), .val (.int pb), .val (.int pz), .val (.int (1 : Int32)), .val (.ref a_SHA1), .unset, .unset, .unset, .unset, .unset, .unset, .unset] [(.int (3 : Int32))]))
      refine Go.istore X133 hx (hb hby at_34) (l' := #[.val (.int ps), .val (.int pa), .val (.int pb), .val (.int pz), .val (.int (1 : Int32)), .val (.ref a_SHA1), .val (.int (3 : Int32)), .unset, .unset, .unset, .unset, .unset, .unset]) rfl (q := 36) rfl ?_
      refine Go.iload X133 hx (hb hby at_36) rfl (q := 38) rfl ?_
      refine Go.ifNo X133 hx (hb hby at_38) (by decide) (q := 41) rfl ?_
      refine Go.iconst X133 hx (hb hby at_41) (r := (5 : Int32)) rfl (q := 42) rfl ?_
      refine Go.goto X133 hx (hb hby at_42) (q := 46) (by decide) (by decide) ?_
      refine Go.istore X133 hx (hb hby at_46) (l' := #[.val (.int ps), .val (.int pa), .val (.int pb), .val (.int pz), .val (.int (1 : Int32)), .val (.ref a_SHA1), .val (.int (3 : Int32)), .val (.int (5 : Int32)), .unset, .unset, .unset, .unset, .unset]) rfl (q := 48) rfl ?_
      refine Go.iloadN X133 hx (hb hby at_48) rfl (q := 49) rfl ?_
      refine Go.i2b X133 hx (hb hby at_49) rfl (q := 50) rfl ?_
      refine Go.istore X133 hx (hb hby at_50) (l' := #[.val (.int ps), .val (.int pa), .val (.int pb), .val (.int pz), .val (.int (1 : Int32)), .val (.ref a_SHA1), .val (.int (3 : Int32)), .val (.int (5 : Int32)), .val (.int (pa.toInt8.toInt32)), .unset, .unset, .unset, .unset]) rfl (q := 52) rfl ?_
      refine Go.iloadN X133 hx (hb hby at_52) rfl (q := 53) rfl ?_
      refine Go.i2b X133 hx (hb hby at_53) rfl (q := 54) rfl ?_
      refine Go.istore X133 hx (hb hby at_54) (l' := #[.val (.int ps), .val (.int pa), .val (.int pb), .val (.int pz), .val (.int (1 : Int32)), .val (.ref a_SHA1), .val (.int (3 : Int32)), .val (.int (5 : Int32)), .val (.int (pa.toInt8.toInt32)), .val (.int (pb.toInt8.toInt32)), .unset, .unset, .unset]) rfl (q := 56) rfl ?_
      refine Go.iloadN X133 hx (hb hby at_56) rfl (q := 57) rfl ?_
      refine Go.i2b X133 hx (hb hby at_57) rfl (q := 58) rfl ?_
      refine Go.istore X133 hx (hb hby at_58) (l' := #[.val (.int ps), .val (.int pa), .val (.int pb), .val (.int pz), .val (.int (1 : Int32)), .val (.ref a_SHA1), .val (.int (3 : Int32)), .val (.int (5 : Int32)), .val (.int (pa.toInt8.toInt32)), .val (.int (pb.toInt8.toInt32)), .val (.int (pz.toInt8.toInt32)), .unset, .unset]) rfl (q := 60) rfl ?_
      refine Go.iload X133 hx (hb hby at_60) rfl (q := 62) rfl ?_
      refine Go.iload X133 hx (hb hby at_62) rfl (q := 64) rfl ?_
      refine Go.iadd X133 hx (hb hby at_64) (r := (8 : Int32)) rfl (q := 65) rfl ?_
      refine Go.newP X133 hx hZ (hb hby at_65) (wd3 hw) e133 (by decide) (cap := 8) (by decide) (by decide) (by decide) (by decide) (ad := "[B") rfl (q := 67) rfl ?_
      intro b158 T158 h158 k158 X158 e158 q158 E158 V158 B158
      have ne_a_MD5_b158 : a_MD5 ≠ b158 := ne_new (E_MD5.ext O0).lt (Nat.le_of_eq q158)
      have ne_a_SHA1_b158 : a_SHA1 ≠ b158 := ne_new (E_SHA1.ext O0).lt (Nat.le_of_eq q158)
      have g_b158 : Z.heap.size ≤ b158 := Nat.le_trans O0.1 (Nat.le_of_eq q158)
      have OE158 := ext_trans O0 E158
      replace V158 : Arv Z h158 b158 k158 .byte (8 : Int32) [(.int (0 : Int32)), (.int (0 : Int32)), (.int (0 : Int32)), (.int (0 : Int32)), (.int (0 : Int32)), (.int (0 : Int32)), (.int (0 : Int32)), (.int (0 : Int32))] (.int (0 : Int32)) := V158.pad (pad_rep [] (.int (0 : Int32)) 8)
      refine Go.astore X158 hx (hb hby at_67) rfl (l' := #[.val (.int ps), .val (.int pa), .val (.int pb), .val (.int pz), .val (.int (1 : Int32)), .val (.ref a_SHA1), .val (.int (3 : Int32)), .val (.int (5 : Int32)), .val (.int (pa.toInt8.toInt32)), .val (.int (pb.toInt8.toInt32)), .val (.int (pz.toInt8.toInt32)), .val (.ref b158), .unset]) rfl (q := 69) rfl ?_
      refine Go.iload X158 hx (hb hby at_69) rfl (q := 71) rfl ?_
      refine Go.ifNo X158 hx (hb hby at_71) (by decide) (q := 74) rfl ?_
      refine Go.aload X158 hx (hb hby at_74) rfl rfl (q := 76) rfl ?_
      refine Go.iconst X158 hx (hb hby at_76) (r := (0 : Int32)) rfl (q := 77) rfl ?_
      refine Go.iload X158 hx (hb hby at_77) rfl (q := 79) rfl ?_
      refine Go.bst X158 hx hZ e158 V158 ⟨by decide, by decide⟩ (i := 0) rfl (Nat.le_of_ble_eq_true rfl) (hb hby at_79) ?_
      intro T159 h159 X159 e159 W159 V159
      rw [bb pa] at V159
      replace V159 : Arv Z h159 b158 k158 .byte (8 : Int32) [(.int (pa.toInt8.toInt32)), (.int (0 : Int32)), (.int (0 : Int32)), (.int (0 : Int32)), (.int (0 : Int32)), (.int (0 : Int32)), (.int (0 : Int32)), (.int (0 : Int32))] (.int (0 : Int32)) := V159
      have N159 := Fr.snoc X159 N0 g_b158
      replace B158 := B158.wr W159
      have OW159 := ext_wr OE158 W159 g_b158
      refine Go.iload X159 hx (hb hby at_80) rfl (q := 82) rfl ?_
      refine Go.iconst X159 hx (hb hby at_82) (r := (1 : Int32)) rfl (q := 83) rfl ?_
      refine Go.icmpNo X159 hx (hb hby at_83) (by decide) (q := 86) rfl ?_
      refine Go.aload X159 hx (hb hby at_86) rfl rfl (q := 88) rfl ?_
      refine Go.iconst X159 hx (hb hby at_88) (r := (1 : Int32)) rfl (q := 89) rfl ?_
      refine Go.iload X159 hx (hb hby at_89) rfl (q := 91) rfl ?_
      refine Go.bst X159 hx hZ e159 V159 ⟨by decide, by decide⟩ (i := 1) rfl (Nat.le_of_ble_eq_true rfl) (hb hby at_91) ?_
      intro T160 h160 X160 e160 W160 V160
      rw [bb pb] at V160
      replace V160 : Arv Z h160 b158 k158 .byte (8 : Int32) [(.int (pa.toInt8.toInt32)), (.int (pb.toInt8.toInt32)), (.int (0 : Int32)), (.int (0 : Int32)), (.int (0 : Int32)), (.int (0 : Int32)), (.int (0 : Int32)), (.int (0 : Int32))] (.int (0 : Int32)) := V160
      have N160 := Fr.snoc X160 N159 g_b158
      replace B158 := B158.wr W160
      have OW160 := ext_wr OW159 W160 g_b158
      refine Go.iload X160 hx (hb hby at_92) rfl (q := 94) rfl ?_
      refine Go.iconst X160 hx (hb hby at_94) (r := (2 : Int32)) rfl (q := 95) rfl ?_
      refine Go.icmpNo X160 hx (hb hby at_95) (by decide) (q := 98) rfl ?_
      refine Go.aload X160 hx (hb hby at_98) rfl rfl (q := 100) rfl ?_
      refine Go.iconst X160 hx (hb hby at_100) (r := (2 : Int32)) rfl (q := 101) rfl ?_
      refine Go.iload X160 hx (hb hby at_101) rfl (q := 103) rfl ?_
      refine Go.bst X160 hx hZ e160 V160 ⟨by decide, by decide⟩ (i := 2) rfl (Nat.le_of_ble_eq_true rfl) (hb hby at_103) ?_
      intro T161 h161 X161 e161 W161 V161
      rw [bb pz] at V161
      replace V161 : Arv Z h161 b158 k158 .byte (8 : Int32) [(.int (pa.toInt8.toInt32)), (.int (pb.toInt8.toInt32)), (.int (pz.toInt8.toInt32)), (.int (0 : Int32)), (.int (0 : Int32)), (.int (0 : Int32)), (.int (0 : Int32)), (.int (0 : Int32))] (.int (0 : Int32)) := V161
      have N161 := Fr.snoc X161 N160 g_b158
      replace B158 := B158.wr W161
      have OW161 := ext_wr OW160 W161 g_b158
      refine Go.aload X161 hx (hb hby at_104) rfl rfl (q := 106) rfl ?_
      refine Go.iload X161 hx (hb hby at_106) rfl (q := 108) rfl ?_
      refine Go.bipush X161 hx (hb hby at_108) (r := (46 : Int32)) rfl (q := 110) rfl ?_
      refine Go.bst X161 hx hZ e161 V161 ⟨by decide, by decide⟩ (i := 3) rfl (Nat.le_of_ble_eq_true rfl) (hb hby at_110) ?_
      intro T162 h162 X162 e162 W162 V162
      replace V162 : Arv Z h162 b158 k158 .byte (8 : Int32) [(.int (pa.toInt8.toInt32)), (.int (pb.toInt8.toInt32)), (.int (pz.toInt8.toInt32)), (.int (46 : Int32)), (.int (0 : Int32)), (.int (0 : Int32)), (.int (0 : Int32)), (.int (0 : Int32))] (.int (0 : Int32)) := V162
      have N162 := Fr.snoc X162 N161 g_b158
      replace B158 := B158.wr W162
      have OW162 := ext_wr OW161 W162 g_b158
      refine Go.iload X162 hx (hb hby at_111) rfl (q := 113) rfl ?_
      refine Go.ifNo X162 hx (hb hby at_113) (by decide) (q := 116) rfl ?_
      refine Go.aload X162 hx (hb hby at_116) rfl rfl (q := 118) rfl ?_
      refine Go.iload X162 hx (hb hby at_118) rfl (q := 120) rfl ?_
      refine Go.iconst X162 hx (hb hby at_120) (r := (1 : Int32)) rfl (q := 121) rfl ?_
      refine Go.iadd X162 hx (hb hby at_121) (r := (4 : Int32)) rfl (q := 122) rfl ?_
      refine Go.bipush X162 hx (hb hby at_122) (r := (115 : Int32)) rfl (q := 124) rfl ?_
      refine Go.bst X162 hx hZ e162 V162 ⟨by decide, by decide⟩ (i := 4) rfl (Nat.le_of_ble_eq_true rfl) (hb hby at_124) ?_
      intro T163 h163 X163 e163 W163 V163
      replace V163 : Arv Z h163 b158 k158 .byte (8 : Int32) [(.int (pa.toInt8.toInt32)), (.int (pb.toInt8.toInt32)), (.int (pz.toInt8.toInt32)), (.int (46 : Int32)), (.int (115 : Int32)), (.int (0 : Int32)), (.int (0 : Int32)), (.int (0 : Int32))] (.int (0 : Int32)) := V163
      have N163 := Fr.snoc X163 N162 g_b158
      replace B158 := B158.wr W163
      have OW163 := ext_wr OW162 W163 g_b158
      refine Go.aload X163 hx (hb hby at_125) rfl rfl (q := 127) rfl ?_
      refine Go.iload X163 hx (hb hby at_127) rfl (q := 129) rfl ?_
      refine Go.iconst X163 hx (hb hby at_129) (r := (2 : Int32)) rfl (q := 130) rfl ?_
      refine Go.iadd X163 hx (hb hby at_130) (r := (5 : Int32)) rfl (q := 131) rfl ?_
      refine Go.bipush X163 hx (hb hby at_131) (r := (104 : Int32)) rfl (q := 133) rfl ?_
      refine Go.bst X163 hx hZ e163 V163 ⟨by decide, by decide⟩ (i := 5) rfl (Nat.le_of_ble_eq_true rfl) (hb hby at_133) ?_
      intro T164 h164 X164 e164 W164 V164
      replace V164 : Arv Z h164 b158 k158 .byte (8 : Int32) [(.int (pa.toInt8.toInt32)), (.int (pb.toInt8.toInt32)), (.int (pz.toInt8.toInt32)), (.int (46 : Int32)), (.int (115 : Int32)), (.int (104 : Int32)), (.int (0 : Int32)), (.int (0 : Int32))] (.int (0 : Int32)) := V164
      have N164 := Fr.snoc X164 N163 g_b158
      replace B158 := B158.wr W164
      have OW164 := ext_wr OW163 W164 g_b158
      refine Go.aload X164 hx (hb hby at_134) rfl rfl (q := 136) rfl ?_
      refine Go.iload X164 hx (hb hby at_136) rfl (q := 138) rfl ?_
      refine Go.iconst X164 hx (hb hby at_138) (r := (3 : Int32)) rfl (q := 139) rfl ?_
      refine Go.iadd X164 hx (hb hby at_139) (r := (6 : Int32)) rfl (q := 140) rfl ?_
      refine Go.bipush X164 hx (hb hby at_140) (r := (97 : Int32)) rfl (q := 142) rfl ?_
      refine Go.bst X164 hx hZ e164 V164 ⟨by decide, by decide⟩ (i := 6) rfl (Nat.le_of_ble_eq_true rfl) (hb hby at_142) ?_
      intro T165 h165 X165 e165 W165 V165
      replace V165 : Arv Z h165 b158 k158 .byte (8 : Int32) [(.int (pa.toInt8.toInt32)), (.int (pb.toInt8.toInt32)), (.int (pz.toInt8.toInt32)), (.int (46 : Int32)), (.int (115 : Int32)), (.int (104 : Int32)), (.int (97 : Int32)), (.int (0 : Int32))] (.int (0 : Int32)) := V165
      have N165 := Fr.snoc X165 N164 g_b158
      replace B158 := B158.wr W165
      have OW165 := ext_wr OW164 W165 g_b158
      refine Go.aload X165 hx (hb hby at_143) rfl rfl (q := 145) rfl ?_
      refine Go.iload X165 hx (hb hby at_145) rfl (q := 147) rfl ?_
      refine Go.iconst X165 hx (hb hby at_147) (r := (4 : Int32)) rfl (q := 148) rfl ?_
      refine Go.iadd X165 hx (hb hby at_148) (r := (7 : Int32)) rfl (q := 149) rfl ?_
      refine Go.bipush X165 hx (hb hby at_149) (r := (49 : Int32)) rfl (q := 151) rfl ?_
      refine Go.bst X165 hx hZ e165 V165 ⟨by decide, by decide⟩ (i := 7) rfl (Nat.le_of_ble_eq_true rfl) (hb hby at_151) ?_
      intro T166 h166 X166 e166 W166 V166
      replace V166 : Arv Z h166 b158 k158 .byte (8 : Int32) [(.int (pa.toInt8.toInt32)), (.int (pb.toInt8.toInt32)), (.int (pz.toInt8.toInt32)), (.int (46 : Int32)), (.int (115 : Int32)), (.int (104 : Int32)), (.int (97 : Int32)), (.int (49 : Int32))] (.int (0 : Int32)) := V166
      have N166 := Fr.snoc X166 N165 g_b158
      replace B158 := B158.wr W166
      have OW166 := ext_wr OW165 W166 g_b158
      refine Go.goto X166 hx (hb hby at_152) (q := 182) (by decide) (by decide) ?_
      refine Go.aload X166 hx (hb hby at_182) rfl rfl (q := 184) rfl ?_
      refine Go.aload X166 hx (hb hby at_184) rfl rfl (q := 186) rfl ?_
      refine Go.virt X166 hx hZ hown (wd4 hw) (wd5 hw) (notFace_of_selects (args := #[]) (mvT hZ (wd7 hw))) (wd7 hw) (wd6 hw) (wd1 hw) (wd8 hw) (by decide) (cnp_5_3 l Z a0 hw a_SHA1 a_SHA1_ending b158 (k158) ((pa.toInt8.toInt32)) ((pb.toInt8.toInt32)) ((pz.toInt8.toInt32)) ((46 : Int32)) ((115 : Int32)) ((104 : Int32)) ((97 : Int32)) ((49 : Int32)) h166 OW166 V166 F_SHA1_ending L_SHA1_ending) e166 (E_SHA1.ext OW166) (by rw [hml]; rfl) (hb hby at_186) (argsL := [(.ref b158)]) (rest := []) (lenOf pd2 rfl) rfl rfl (W := 0) (by first | exact Nat.le_refl _ | decide) (by decide) (by decide) (by decide) (by decide) ?_
      intro v167 T167 L167 X167 hQ167
      obtain ⟨h167, e167⟩ : ∃ z, T167.heap = z := ⟨_, rfl⟩
      rw [e167] at hQ167
      obtain ⟨b_167, kb_167, rfl, N167q, K167, fr167_b, P167_0⟩ := hQ167
      have N167 := Fr.app N166 N167q
      have ne_b158_b_167 : b158 ≠ b_167 := ne_new B158.lt fr167_b
      have ne_a_MD5_b_167 : a_MD5 ≠ b_167 := ne_new (E_MD5.ext OW166).lt fr167_b
      have ne_a_SHA1_b_167 : a_SHA1 ≠ b_167 := ne_new (E_SHA1.ext OW166).lt fr167_b
      have g_b_167 : Z.heap.size ≤ b_167 := Nat.le_trans OW166.1 fr167_b
      replace B158 := B158.keep K167
      replace V166 := V166.keep K167 nin0
      have OK167 := ext_keep OW166 K167 all0
      refine Go.astore X167 hx (hb hby at_189) rfl (l' := #[.val (.int ps), .val (.int pa), .val (.int pb), .val (.int pz), .val (.int (1 : Int32)), .val (.ref a_SHA1), .val (.int (3 : Int32)), .val (.int (5 : Int32)), .val (.int (pa.toInt8.toInt32)), .val (.int (pb.toInt8.toInt32)), .val (.int (pz.toInt8.toInt32)), .val (.ref b158), .val (.ref b_167)]) rfl (q := 191) rfl ?_
      refine Go.aload X167 hx (hb hby at_191) rfl rfl (q := 193) rfl ?_
      refine Go.ifnonnullYes X167 hx (hb hby at_193) (q := 198) (by decide) (by decide) ?_
      refine Go.aload X167 hx (hb hby at_198) rfl rfl (q := 200) rfl ?_
      refine Go.alen X167 hx hZ e167 P167_0 (hb hby at_200) ?_
      refine Go.iload X167 hx (hb hby at_201) rfl (q := 203) rfl ?_
      refine Go.icmpYes X167 hx (hb hby at_203) (by decide) (q := 208) (by decide) (by decide) ?_
      refine Go.iload X167 hx (hb hby at_208) rfl (q := 210) rfl ?_
      refine Go.ifNo X167 hx (hb hby at_210) (by decide) (q := 213) rfl ?_
      refine Go.aload X167 hx (hb hby at_213) rfl rfl (q := 215) rfl ?_
      refine Go.iconst X167 hx (hb hby at_215) (r := (0 : Int32)) rfl (q := 216) rfl ?_
      refine Go.bal X167 hx hZ e167 P167_0 ⟨by decide, by decide⟩ (v := (.int (pa.toInt8.toInt32))) rfl (hb hby at_216) ?_
      refine Go.iload X167 hx (hb hby at_217) rfl (q := 219) rfl ?_
      refine Go.icmpYes X167 hx (hb hby at_219) (Jvm.Free.XT.ii_eq_t rfl) (q := 224) (by decide) (by decide) ?_
      refine Go.iload X167 hx (hb hby at_224) rfl (q := 226) rfl ?_
      refine Go.iconst X167 hx (hb hby at_226) (r := (1 : Int32)) rfl (q := 227) rfl ?_
      refine Go.icmpNo X167 hx (hb hby at_227) (by decide) (q := 230) rfl ?_
      refine Go.aload X167 hx (hb hby at_230) rfl rfl (q := 232) rfl ?_
      refine Go.iconst X167 hx (hb hby at_232) (r := (1 : Int32)) rfl (q := 233) rfl ?_
      refine Go.bal X167 hx hZ e167 P167_0 ⟨by decide, by decide⟩ (v := (.int (pb.toInt8.toInt32))) rfl (hb hby at_233) ?_
      refine Go.iload X167 hx (hb hby at_234) rfl (q := 236) rfl ?_
      refine Go.icmpYes X167 hx (hb hby at_236) (Jvm.Free.XT.ii_eq_t rfl) (q := 241) (by decide) (by decide) ?_
      refine Go.iload X167 hx (hb hby at_241) rfl (q := 243) rfl ?_
      refine Go.iconst X167 hx (hb hby at_243) (r := (2 : Int32)) rfl (q := 244) rfl ?_
      refine Go.icmpNo X167 hx (hb hby at_244) (by decide) (q := 247) rfl ?_
      refine Go.aload X167 hx (hb hby at_247) rfl rfl (q := 249) rfl ?_
      refine Go.iconst X167 hx (hb hby at_249) (r := (2 : Int32)) rfl (q := 250) rfl ?_
      refine Go.bal X167 hx hZ e167 P167_0 ⟨by decide, by decide⟩ (v := (.int (pz.toInt8.toInt32))) rfl (hb hby at_250) ?_
      refine Go.iload X167 hx (hb hby at_251) rfl (q := 253) rfl ?_
      refine Go.icmpYes X167 hx (hb hby at_253) (Jvm.Free.XT.ii_eq_t rfl) (q := 258) (by decide) (by decide) ?_
      refine Go.aload X167 hx (hb hby at_258) rfl rfl (q := 260) rfl ?_
      refine Go.iload X167 hx (hb hby at_260) rfl (q := 262) rfl ?_
      refine Go.bal X167 hx hZ e167 V166 ⟨by decide, by decide⟩ (v := (.int (46 : Int32))) rfl (hb hby at_262) ?_
      refine Go.bipush X167 hx (hb hby at_263) (r := (46 : Int32)) rfl (q := 265) rfl ?_
      refine Go.icmpYes X167 hx (hb hby at_265) (by decide) (q := 270) (by decide) (by decide) ?_
      refine Go.iconst X167 hx (hb hby at_270) (r := (1 : Int32)) rfl (q := 271) rfl ?_
      exact Go.retI X167 hx hret hlk (by simp) rfl (hb hby at_271) e167 (by decide) (by decide) ⟨rfl, N167⟩
set_option maxRecDepth 65536 in
set_option maxHeartbeats 40000000 in
theorem comes_1 {Post : Tables → Env → Array Value → State → Outcome → State → Prop} (hpost : ∀ tb e args s v u, (limb_1_1.after args s (.returned v) u = true ∧ limb_1_2.after args s (.returned v) u = true ∧ True) → FrameEnd s (.returned v) u (Jvm.fieldLocs frame_1_writes args s ++ Jvm.arrayLocs frame_1_arrays args s ++ Jvm.staticLocs frame_1_statics s) 16 128 → Post tb e args s (.returned v) u) :
    ArmFor flags0 classFile x code maxLocals ret World_1 tables_1 room_1 Calls_1 rest_1 Pre_1 Post := by
  intro l hfl _ _ p e ha hc hk s m args below hf hA hF happ hP
  obtain ⟨hcalls, hrest, hpre⟩ := hP
  obtain ⟨-, -, -, hnamed, -, -, -, hat⟩ := (Spec.applies_iff hf).mp happ
  obtain ⟨hg, hn⟩ := and_e (Cond.before_iff.mp (show (Jvm.Cond.and given_1 narrow_1).before args s = true from hpre))
  obtain ⟨ga1, gb1⟩ := and_e hg
  obtain ⟨ga2, gb2⟩ := and_e gb1
  obtain ⟨ga3, gb3⟩ := and_e gb2
  obtain ⟨ga4, gb4⟩ := and_e gb3
  obtain ⟨ga5, gb5⟩ := and_e hn
  obtain ⟨ga6, gb6⟩ := and_e gb5
  obtain ⟨ga7, gb7⟩ := and_e gb6
  obtain ⟨ga8, gb8⟩ := and_e gb7
  obtain ⟨ga9, gb9⟩ := and_e gb8
  obtain ⟨w0, w1, w2, w3, rfl⟩ : ∃ w0 w1 w2 w3 : Value, args = #[w0, w1, w2, w3] := by
    have hs : args.size = 4 := by simpa [Cond.value, given_1] using ga1
    obtain ⟨L⟩ := args
    match L, hs with
    | [w0, w1, w2, w3], _ => exact ⟨w0, w1, w2, w3, rfl⟩
  have hw := fun d (hd : d ∈ tables_1) => atoms_spec (ws := Jvm.Cond.code x code maxLocals ret :: tables_1) hat d (List.mem_cons_of_mem _ hd)
  have hfit : Fit s := fun {y c} hc i hi => by
    obtain ⟨ha, rfl⟩ := Array.getElem?_eq_some_iff.mp hc
    have q := List.all_eq_true.mp ((Array.all_eq_true_iff_forall_mem.mp hF) _ (Array.getElem_mem ha)) i (List.mem_range.mpr hi)
    simpa [Array.getElem?_eq_getElem hi] using q
  obtain ⟨i0, ei0⟩ := is_v ga2
  obtain rfl : w0 = (.int i0) := Option.some.inj ei0
  obtain ⟨i1, ei1⟩ := is_v ga3
  obtain rfl : w1 = (.int i1) := Option.some.inj ei1
  obtain ⟨i2, ei2⟩ := is_v ga4
  obtain rfl : w2 = (.int i2) := Option.some.inj ei2
  obtain ⟨i3, ei3⟩ := is_v gb4
  obtain rfl : w3 = (.int i3) := Option.some.inj ei3
  obtain ⟨a_MD5, ev_MD5, S_MD5, E_MD5⟩ := sta_exa ga5 (wd1 hw) (wd2 hw)
  obtain ⟨a_MD5_ending, ev_MD5_ending⟩ := arr_v ga6
  have F_MD5_ending := fld_ref ev_MD5 ev_MD5_ending
  obtain ⟨cl_MD5_ending, A_MD5_ending⟩ := Arr.start ev_MD5_ending ga6
  obtain ⟨z_MD5_ending, n_MD5_ending⟩ := IntBox.length_fwd (Cond.before_iff.mpr ga7) ev_MD5_ending A_MD5_ending.1 A_MD5_ending.2.1 A_MD5_ending.2.2
  obtain ⟨a_SHA1, ev_SHA1, S_SHA1, E_SHA1⟩ := sta_exa ga8 (wd1 hw) (wd24 hw)
  obtain ⟨a_SHA1_ending, ev_SHA1_ending⟩ := arr_v ga9
  have F_SHA1_ending := fld_ref ev_SHA1 ev_SHA1_ending
  obtain ⟨cl_SHA1_ending, A_SHA1_ending⟩ := Arr.start ev_SHA1_ending ga9
  obtain ⟨z_SHA1_ending, n_SHA1_ending⟩ := IntBox.length_fwd (Cond.before_iff.mpr gb9) ev_SHA1_ending A_SHA1_ending.1 A_SHA1_ending.2.1 A_SHA1_ending.2.2
  have L_MD5_ending := Lng.of A_MD5_ending z_MD5_ending n_MD5_ending (by decide)
  have L_SHA1_ending := Lng.of A_SHA1_ending z_SHA1_ending n_SHA1_ending (by decide)
  obtain ⟨n, o, h1, h2, h3, _, L, rfl, ⟨rfl, N⟩, hq⟩ := law0 l s _ hw i0 i1 i2 i3 a_MD5 a_SHA1 a_MD5_ending a_SHA1_ending s.heap ⟨Nat.le_refl _, fun _ _ q => q⟩ S_MD5 S_SHA1 E_MD5 E_SHA1 F_MD5_ending F_SHA1_ending L_MD5_ending L_SHA1_ending p e ha hc hk s m _ below hf ((Spec.applies_iff_loose hf).mp happ).1 ⟨rfl, State.Warmed39.refl s, rfl⟩ trivial
  refine ⟨n, _, h1, h2, h3, hpost _ _ _ _ _ _ ⟨Cond.after_iff.mpr rfl, Cond.after_iff.mpr (eq_i res_at (Term.int_eval (1)) rfl), trivial⟩ ⟨hq.1, hq.2.1, (hq.2.2.sift fun y hy => Or.inr (N y hy)).mono (by decide) (by decide)⟩⟩
theorem main_1_1 : Claimed_1_1 := comes_1 fun _ _ _ _ _ _ h hF => ⟨h.1, hF⟩
theorem main_1_2 : Claimed_1_2 := comes_1 fun _ _ _ _ _ _ h hF => ⟨h.2.1, hF⟩
end Jvm.Pilot.@@N@@
namespace Jvm.Pilot.@@N@@
open Jvm Jvm.ClassFile Sem Op Lib Jvm.Free Jvm.Stand Jvm.Pilot.@@N@@.Jvm.D
/-! MADE BY PROGRAM (witnessworld.py) out of the Statement's table words and the real class files: 15 classes; the members and pool entries that the words name. The judged class is class 1, her method 1. -/
namespace start1
open Jvm.ClassFile
def u (s : String) : CpInfo := .utf8 (stringToUtf16 s)
/-- a pool by its gaps: so many unusable entries, then the entry; so many at the end -/
def gap : Nat → List CpInfo → List CpInfo
  | 0, r => r
  | n + 1, r => .unusable :: gap n r
def poolList (es : List (Nat × CpInfo)) (last : Nat) : List CpInfo := es.foldr (fun e r => gap e.1 (e.2 :: r)) (gap last [])
def pool (es : List (Nat × CpInfo)) (last : Nat) : Array CpInfo := ⟨poolList es last⟩
def fileOf (pool : Array CpInfo) (this : Nat) (attrs : Array Attribute := #[]) (ms : Array MethodInfo := #[]) (fl : Nat := 33) (sup : Nat := 0) (ifs : Array Nat := #[]) (fds : Array FieldInfo := #[]) : ClassFile where
  minorVersion := 0
  majorVersion := 65
  constantPool := pool
  accessFlags := fl
  thisClass := this
  superClass := sup
  interfaces := ifs
  fields := fds
  methods := ms
  attributes := attrs
def plain (name : String) (sup : Option ClassId) : Class where
  name := name
  kind := .ordinary
  loader := none
  accessFlags := 33
  super := sup
  interfaces := #[]
  cf := none
  fields := #[]
  methods := #[]
  instanceTypes := #[]
  staticTypes := #[]
  resolved := #[]
  callSites := []
  init := .initialized
  statics := none
  mirror := none

def pool0 : Array CpInfo := pool [(5, u "<init>"), (0, u "()V"), (1, .class_ 10), (1, u "java/lang/Object")] 113

def k0m0 : Method := { name := "<init>", desc := "()V", sig := { parameters := [], returnType := none }, accessFlags := 1, code := none }
/-- java/lang/Object -/
def k0 : Class := { plain "java/lang/Object" none with
  accessFlags := 33
  interfaces := #[]
  cf := some (fileOf pool0 8 #[] #[{ accessFlags := 1, nameIndex := 5, descriptorIndex := 6, attributes := #[] }] 33 0 #[] #[])
  fields := #[]
  methods := #[k0m0]
  instanceTypes := #[]
  staticTypes := #[]
  resolved := Array.replicate 124 none
  statics := none }

def pool1 : Array CpInfo := pool [(2, .class_ 4), (1, u "java/lang/Object"), (0, u "<init>"), (0, u "()V"), (0, .fieldref 8 9), (0, .class_ 10), (0, .nameAndType 11 12), (0, u "com/example/depositum/depositum/format/Checksum"), (0, u "SHA1"), (0, u "Lcom/example/depositum/depositum/format/Checksum;"), (0, .fieldref 8 14), (0, .nameAndType 15 12), (0, u "MD5"), (0, .methodref 8 17), (0, .nameAndType 18 19), (0, u "namedPath"), (0, u "([B)[B"), (0, .class_ 21), (0, u "com/example/depositum/depositum/format/ChecksumNamedPathPinLaw"), (2, u "law"), (0, u "(IIII)Z")] 5

def k1m0 : Method := { name := "<init>", desc := "()V", sig := { parameters := [], returnType := none }, accessFlags := 1, code := none }
def k1c1 : Code := { maxStack := 3, maxLocals := 13, code := code, exceptionTable := #[], attributes := #[] }
def k1m1 : Method := { name := "law", desc := "(IIII)Z", sig := { parameters := [.int, .int, .int, .int], returnType := some .boolean }, accessFlags := 9, code := some k1c1 }
/-- com/example/depositum/depositum/format/ChecksumNamedPathPinLaw -/
def k1 : Class := { plain "com/example/depositum/depositum/format/ChecksumNamedPathPinLaw" (some 0) with
  accessFlags := 49
  interfaces := #[]
  cf := some (fileOf pool1 20 #[] #[{ accessFlags := 1, nameIndex := 5, descriptorIndex := 6, attributes := #[] }, { accessFlags := 9, nameIndex := 24, descriptorIndex := 25, attributes := #[] }] 49 2 #[] #[])
  fields := #[]
  methods := #[k1m0, k1m1]
  instanceTypes := #[]
  staticTypes := #[]
  resolved := Array.replicate 31 none
  statics := none }

def pool2 : Array CpInfo := pool [(1, .class_ 2), (0, u "java/lang/constant/Constable"), (0, .class_ 4), (0, u "java/lang/Object")] 6

/-- java/lang/constant/Constable -/
def k2 : Class := { plain "java/lang/constant/Constable" (some 0) with
  accessFlags := 1537
  interfaces := #[]
  cf := some (fileOf pool2 1 #[] #[] 1537 3 #[] #[])
  fields := #[]
  methods := #[]
  instanceTypes := #[]
  staticTypes := #[]
  resolved := Array.replicate 11 none
  statics := none }

def pool3 : Array CpInfo := pool [(1, .class_ 2), (0, u "java/lang/Comparable"), (0, .class_ 4), (0, u "java/lang/Object")] 7

/-- java/lang/Comparable -/
def k3 : Class := { plain "java/lang/Comparable" (some 0) with
  accessFlags := 1537
  interfaces := #[]
  cf := some (fileOf pool3 1 #[] #[] 1537 3 #[] #[])
  fields := #[]
  methods := #[]
  instanceTypes := #[]
  staticTypes := #[]
  resolved := Array.replicate 12 none
  statics := none }

def pool4 : Array CpInfo := pool [(1, .class_ 2), (0, u "java/io/Serializable"), (0, .class_ 4), (0, u "java/lang/Object")] 2

/-- java/io/Serializable -/
def k4 : Class := { plain "java/io/Serializable" (some 0) with
  accessFlags := 1537
  interfaces := #[]
  cf := some (fileOf pool4 1 #[] #[] 1537 3 #[] #[])
  fields := #[]
  methods := #[]
  instanceTypes := #[]
  staticTypes := #[]
  resolved := Array.replicate 7 none
  statics := none }

def pool5 : Array CpInfo := pool [(2, .class_ 4), (1, u "java/lang/Enum"), (0, u "name"), (0, u "Ljava/lang/String;"), (2, u "ordinal"), (0, u "I"), (1, .class_ 14), (1, u "java/lang/Object"), (4, u "hash"), (86, .class_ 108), (1, u "java/lang/Enum$EnumDesc"), (2, .class_ 112), (0, u "java/lang/constant/Constable"), (0, .class_ 114), (0, u "java/lang/Comparable"), (0, .class_ 116), (0, u "java/io/Serializable")] 87

/-- java/lang/Enum -/
def k5 : Class := { plain "java/lang/Enum" (some 0) with
  accessFlags := 1057
  interfaces := #[2, 3, 4]
  cf := some (fileOf pool5 2 #[.nestMembers #[106]] #[] 1057 12 #[111, 113, 115] #[{ accessFlags := 18, nameIndex := 5, descriptorIndex := 6, attributes := #[] }, { accessFlags := 18, nameIndex := 9, descriptorIndex := 10, attributes := #[] }, { accessFlags := 2, nameIndex := 19, descriptorIndex := 10, attributes := #[] }])
  fields := #[{ name := "name", type := (.object "java/lang/String"), accessFlags := 18, slot := 0, constantValue := 0 }, { name := "ordinal", type := .int, accessFlags := 18, slot := 1, constantValue := 0 }, { name := "hash", type := .int, accessFlags := 2, slot := 2, constantValue := 0 }]
  methods := #[]
  instanceTypes := #[(.object "java/lang/String"), .int, .int]
  staticTypes := #[]
  resolved := Array.replicate 204 none
  statics := none }

def pool6 : Array CpInfo := pool [(1, .class_ 2), (0, u "com/example/depositum/depositum/format/Checksum"), (2, u "MD5"), (0, u "Lcom/example/depositum/depositum/format/Checksum;"), (2, u "SHA1"), (2, u "$VALUES"), (0, u "[Lcom/example/depositum/depositum/format/Checksum;"), (6, .class_ 22), (1, u "java/lang/Enum"), (8, u "algorithm"), (0, u "Ljava/lang/String;"), (2, u "digestBytes"), (0, u "I"), (20, .fieldref 1 58), (0, .nameAndType 59 60), (0, u "ending"), (0, u "[B"), (16, .methodref 78 79), (0, .class_ 80), (0, .nameAndType 81 82), (0, u "java/util/Arrays"), (0, u "copyOf"), (0, u "([BI)[B"), (44, u "HEX"), (0, u "Ljava/util/HexFormat;"), (32, u "ALL"), (29, u "([B)[B"), (0, u "namedPath")] 37

def k6c0 : Code := { maxStack := 3, maxLocals := 2, code := prog_36_method_7_code, exceptionTable := #[], attributes := #[] }
def k6m0 : Method := { name := "namedPath", desc := "([B)[B", sig := { parameters := [(.array .byte)], returnType := some (.array .byte) }, accessFlags := 1, code := some k6c0 }
/-- com/example/depositum/depositum/format/Checksum -/
def k6 : Class := { plain "com/example/depositum/depositum/format/Checksum" (some 5) with
  accessFlags := 16433
  interfaces := #[]
  cf := some (fileOf pool6 1 #[] #[{ accessFlags := 1, nameIndex := 192, descriptorIndex := 191, attributes := #[] }] 16433 20 #[] #[{ accessFlags := 16409, nameIndex := 5, descriptorIndex := 6, attributes := #[] }, { accessFlags := 16409, nameIndex := 9, descriptorIndex := 6, attributes := #[] }, { accessFlags := 26, nameIndex := 127, descriptorIndex := 128, attributes := #[] }, { accessFlags := 26, nameIndex := 161, descriptorIndex := 13, attributes := #[] }, { accessFlags := 18, nameIndex := 31, descriptorIndex := 32, attributes := #[] }, { accessFlags := 18, nameIndex := 35, descriptorIndex := 36, attributes := #[] }, { accessFlags := 18, nameIndex := 59, descriptorIndex := 60, attributes := #[] }, { accessFlags := 4122, nameIndex := 12, descriptorIndex := 13, attributes := #[] }])
  fields := #[{ name := "MD5", type := (.object "com/example/depositum/depositum/format/Checksum"), accessFlags := 16409, slot := 0, constantValue := 0 }, { name := "SHA1", type := (.object "com/example/depositum/depositum/format/Checksum"), accessFlags := 16409, slot := 1, constantValue := 0 }, { name := "HEX", type := (.object "java/util/HexFormat"), accessFlags := 26, slot := 2, constantValue := 0 }, { name := "ALL", type := (.array (.object "com/example/depositum/depositum/format/Checksum")), accessFlags := 26, slot := 3, constantValue := 0 }, { name := "algorithm", type := (.object "java/lang/String"), accessFlags := 18, slot := 3, constantValue := 0 }, { name := "digestBytes", type := .int, accessFlags := 18, slot := 4, constantValue := 0 }, { name := "ending", type := (.array .byte), accessFlags := 18, slot := 5, constantValue := 0 }, { name := "$VALUES", type := (.array (.object "com/example/depositum/depositum/format/Checksum")), accessFlags := 4122, slot := 4, constantValue := 0 }]
  methods := #[k6m0]
  instanceTypes := #[(.object "java/lang/String"), .int, .int, (.object "java/lang/String"), .int, (.array .byte)]
  staticTypes := #[(.object "com/example/depositum/depositum/format/Checksum"), (.object "com/example/depositum/depositum/format/Checksum"), (.object "java/util/HexFormat"), (.array (.object "com/example/depositum/depositum/format/Checksum")), (.array (.object "com/example/depositum/depositum/format/Checksum"))]
  resolved := Array.replicate 230 none
  statics := some 0 }

def pool7 : Array CpInfo := pool [(2, .class_ 4), (1, u "java/lang/Object"), (0, u "<init>"), (0, u "()V"), (7, .class_ 16), (1, u "java/util/Arrays"), (57, .class_ 76), (1, u "java/util/Arrays$NaturalOrder"), (36, .class_ 115), (1, u "java/util/Arrays$LegacyMergeSort"), (1, u "Z"), (32, .methodref 151 152), (0, .class_ 153), (0, .nameAndType 154 155), (0, u "java/lang/System"), (0, u "arraycopy"), (0, u "(Ljava/lang/Object;ILjava/lang/Object;II)V"), (146, u "copyOf"), (1, .methodref 305 306), (0, .class_ 307), (0, .nameAndType 308 309), (0, u "java/lang/Math"), (0, u "min"), (0, u "(II)I"), (65, .class_ 376), (0, u "java/util/Arrays$ArrayList"), (68, u "$assertionsDisabled"), (269, u "MIN_ARRAY_SORT_GRAN"), (0, u "I"), (2, u "INSERTIONSORT_THRESHOLD"), (149, u "([BI)[B"), (105, .class_ 976), (0, u "java/util/Arrays$ArrayItr")] 52

def k7m0 : Method := { name := "<init>", desc := "()V", sig := { parameters := [], returnType := none }, accessFlags := 2, code := none }
def k7c1 : Code := { maxStack := 6, maxLocals := 3, code := jdk_65_method_121_code, exceptionTable := #[], attributes := #[] }
def k7m1 : Method := { name := "copyOf", desc := "([BI)[B", sig := { parameters := [(.array .byte), .int], returnType := some (.array .byte) }, accessFlags := 9, code := some k7c1 }
/-- java/util/Arrays -/
def k7 : Class := { plain "java/util/Arrays" (some 0) with
  accessFlags := 49
  interfaces := #[]
  cf := some (fileOf pool7 14 #[.nestMembers #[975, 375, 113, 74]] #[{ accessFlags := 2, nameIndex := 5, descriptorIndex := 6, attributes := #[] }, { accessFlags := 9, nameIndex := 302, descriptorIndex := 869, attributes := #[] }] 49 2 #[] #[{ accessFlags := 26, nameIndex := 715, descriptorIndex := 716, attributes := #[] }, { accessFlags := 26, nameIndex := 719, descriptorIndex := 716, attributes := #[] }, { accessFlags := 4120, nameIndex := 445, descriptorIndex := 117, attributes := #[] }])
  fields := #[{ name := "MIN_ARRAY_SORT_GRAN", type := .int, accessFlags := 26, slot := 0, constantValue := 0 }, { name := "INSERTIONSORT_THRESHOLD", type := .int, accessFlags := 26, slot := 1, constantValue := 0 }, { name := "$assertionsDisabled", type := .boolean, accessFlags := 4120, slot := 2, constantValue := 0 }]
  methods := #[k7m0, k7m1]
  instanceTypes := #[]
  staticTypes := #[.int, .int, .boolean]
  resolved := Array.replicate 1029 none
  statics := none }

def pool8 : Array CpInfo := pool [(1, .class_ 2), (0, u "java/lang/Math"), (1, .class_ 6), (1, u "java/lang/Object"), (0, u "<init>"), (0, u "()V"), (89, .class_ 100), (1, u "java/lang/Math$RandomNumberGeneratorHolder"), (71, u "negativeZeroFloatBits"), (0, u "J"), (2, u "negativeZeroDoubleBits"), (24, u "min"), (43, u "$assertionsDisabled"), (0, u "Z"), (88, u "(II)I"), (2, u "twoToTheDoubleScaleDown"), (0, u "D"), (4, u "twoToTheDoubleScaleUp"), (9, u "E"), (3, u "PI"), (2, u "TAU"), (2, u "DEGREES_TO_RADIANS"), (0, u "RADIANS_TO_DEGREES")] 94

def k8m0 : Method := { name := "<init>", desc := "()V", sig := { parameters := [], returnType := none }, accessFlags := 2, code := none }
def k8c1 : Code := { maxStack := 2, maxLocals := 2, code := jdk_29_method_69_code, exceptionTable := #[], attributes := #[] }
def k8m1 : Method := { name := "min", desc := "(II)I", sig := { parameters := [.int, .int], returnType := some .int }, accessFlags := 9, code := some k8c1 }
/-- java/lang/Math -/
def k8 : Class := { plain "java/lang/Math" (some 0) with
  accessFlags := 49
  interfaces := #[]
  cf := some (fileOf pool8 1 #[.nestMembers #[98]] #[{ accessFlags := 2, nameIndex := 7, descriptorIndex := 8, attributes := #[] }, { accessFlags := 9, nameIndex := 201, descriptorIndex := 335, attributes := #[] }] 49 4 #[] #[{ accessFlags := 25, nameIndex := 354, descriptorIndex := 339, attributes := #[] }, { accessFlags := 25, nameIndex := 358, descriptorIndex := 339, attributes := #[] }, { accessFlags := 25, nameIndex := 361, descriptorIndex := 339, attributes := #[] }, { accessFlags := 26, nameIndex := 364, descriptorIndex := 339, attributes := #[] }, { accessFlags := 26, nameIndex := 365, descriptorIndex := 339, attributes := #[] }, { accessFlags := 26, nameIndex := 172, descriptorIndex := 173, attributes := #[] }, { accessFlags := 26, nameIndex := 176, descriptorIndex := 173, attributes := #[] }, { accessFlags := 8, nameIndex := 344, descriptorIndex := 339, attributes := #[] }, { accessFlags := 8, nameIndex := 338, descriptorIndex := 339, attributes := #[] }, { accessFlags := 4120, nameIndex := 245, descriptorIndex := 246, attributes := #[] }])
  fields := #[{ name := "E", type := .double, accessFlags := 25, slot := 0, constantValue := 0 }, { name := "PI", type := .double, accessFlags := 25, slot := 1, constantValue := 0 }, { name := "TAU", type := .double, accessFlags := 25, slot := 2, constantValue := 0 }, { name := "DEGREES_TO_RADIANS", type := .double, accessFlags := 26, slot := 3, constantValue := 0 }, { name := "RADIANS_TO_DEGREES", type := .double, accessFlags := 26, slot := 4, constantValue := 0 }, { name := "negativeZeroFloatBits", type := .long, accessFlags := 26, slot := 5, constantValue := 0 }, { name := "negativeZeroDoubleBits", type := .long, accessFlags := 26, slot := 6, constantValue := 0 }, { name := "twoToTheDoubleScaleUp", type := .double, accessFlags := 8, slot := 7, constantValue := 0 }, { name := "twoToTheDoubleScaleDown", type := .double, accessFlags := 8, slot := 8, constantValue := 0 }, { name := "$assertionsDisabled", type := .boolean, accessFlags := 4120, slot := 9, constantValue := 0 }]
  methods := #[k8m0, k8m1]
  instanceTypes := #[]
  staticTypes := #[.double, .double, .double, .double, .double, .long, .long, .double, .double, .boolean]
  resolved := Array.replicate 460 none
  statics := none }

def pool9 : Array CpInfo := pool [(2, .class_ 4), (1, u "java/lang/Object"), (0, u "<init>"), (0, u "()V"), (1, .class_ 10), (1, u "java/lang/System"), (0, u "allowSecurityManager"), (0, u "I"), (16, u "cons"), (0, u "Ljava/io/Console;"), (77, .class_ 110), (1, u "java/lang/System$CallersHolder"), (43, u "initialErrStream"), (0, u "Ljava/io/PrintStream;"), (19, u "security"), (0, u "Ljava/lang/SecurityManager;"), (31, .class_ 209), (0, u "java/lang/System$1"), (7, u "props"), (0, u "Ljava/util/Properties;"), (2, u "lineSeparator"), (0, u "Ljava/lang/String;"), (96, .class_ 321), (1, u "java/lang/System$LoggerFinder"), (5, .class_ 328), (0, u "java/lang/System$Logger"), (67, u "err"), (2, u "out"), (91, u "notSupportedJnuEncoding"), (15, u "in"), (17, u "initialIn"), (0, u "Ljava/io/InputStream;"), (35, u "bootLayer"), (0, u "Ljava/lang/ModuleLayer;"), (99, .class_ 664), (0, u "java/lang/System$2"), (9, u "NEVER"), (2, u "MAYBE"), (49, u "arraycopy"), (0, u "(Ljava/lang/Object;ILjava/lang/Object;II)V"), (72, .class_ 802), (0, u "java/lang/System$Logger$Level")] 31

def k9m0 : Method := { name := "<init>", desc := "()V", sig := { parameters := [], returnType := none }, accessFlags := 2, code := none }
def k9m1 : Method := { name := "arraycopy", desc := "(Ljava/lang/Object;ILjava/lang/Object;II)V", sig := { parameters := [(.object "java/lang/Object"), .int, (.object "java/lang/Object"), .int, .int], returnType := none }, accessFlags := 265, code := none }
/-- java/lang/System -/
def k9 : Class := { plain "java/lang/System" (some 0) with
  accessFlags := 49
  interfaces := #[]
  cf := some (fileOf pool9 8 #[.nestMembers #[319, 327, 801, 108, 663, 208]] #[{ accessFlags := 2, nameIndex := 5, descriptorIndex := 6, attributes := #[] }, { accessFlags := 265, nameIndex := 727, descriptorIndex := 728, attributes := #[] }] 49 2 #[] #[{ accessFlags := 25, nameIndex := 507, descriptorIndex := 526, attributes := #[] }, { accessFlags := 25, nameIndex := 399, descriptorIndex := 155, attributes := #[] }, { accessFlags := 25, nameIndex := 396, descriptorIndex := 155, attributes := #[] }, { accessFlags := 10, nameIndex := 525, descriptorIndex := 526, attributes := #[] }, { accessFlags := 26, nameIndex := 674, descriptorIndex := 12, attributes := #[] }, { accessFlags := 26, nameIndex := 677, descriptorIndex := 12, attributes := #[] }, { accessFlags := 10, nameIndex := 11, descriptorIndex := 12, attributes := #[] }, { accessFlags := 74, nameIndex := 175, descriptorIndex := 176, attributes := #[] }, { accessFlags := 10, nameIndex := 491, descriptorIndex := 222, attributes := #[] }, { accessFlags := 74, nameIndex := 29, descriptorIndex := 30, attributes := #[] }, { accessFlags := 74, nameIndex := 154, descriptorIndex := 155, attributes := #[] }, { accessFlags := 10, nameIndex := 217, descriptorIndex := 218, attributes := #[] }, { accessFlags := 10, nameIndex := 221, descriptorIndex := 222, attributes := #[] }, { accessFlags := 8, nameIndex := 562, descriptorIndex := 563, attributes := #[] }])
  fields := #[{ name := "in", type := (.object "java/io/InputStream"), accessFlags := 25, slot := 0, constantValue := 0 }, { name := "out", type := (.object "java/io/PrintStream"), accessFlags := 25, slot := 1, constantValue := 0 }, { name := "err", type := (.object "java/io/PrintStream"), accessFlags := 25, slot := 2, constantValue := 0 }, { name := "initialIn", type := (.object "java/io/InputStream"), accessFlags := 10, slot := 3, constantValue := 0 }, { name := "NEVER", type := .int, accessFlags := 26, slot := 4, constantValue := 0 }, { name := "MAYBE", type := .int, accessFlags := 26, slot := 5, constantValue := 0 }, { name := "allowSecurityManager", type := .int, accessFlags := 10, slot := 6, constantValue := 0 }, { name := "security", type := (.object "java/lang/SecurityManager"), accessFlags := 74, slot := 7, constantValue := 0 }, { name := "notSupportedJnuEncoding", type := (.object "java/lang/String"), accessFlags := 10, slot := 8, constantValue := 0 }, { name := "cons", type := (.object "java/io/Console"), accessFlags := 74, slot := 9, constantValue := 0 }, { name := "initialErrStream", type := (.object "java/io/PrintStream"), accessFlags := 74, slot := 10, constantValue := 0 }, { name := "props", type := (.object "java/util/Properties"), accessFlags := 10, slot := 11, constantValue := 0 }, { name := "lineSeparator", type := (.object "java/lang/String"), accessFlags := 10, slot := 12, constantValue := 0 }, { name := "bootLayer", type := (.object "java/lang/ModuleLayer"), accessFlags := 8, slot := 13, constantValue := 0 }]
  methods := #[k9m0, k9m1]
  instanceTypes := #[]
  staticTypes := #[(.object "java/io/InputStream"), (.object "java/io/PrintStream"), (.object "java/io/PrintStream"), (.object "java/io/InputStream"), .int, .int, .int, (.object "java/lang/SecurityManager"), (.object "java/lang/String"), (.object "java/io/Console"), (.object "java/io/PrintStream"), (.object "java/util/Properties"), (.object "java/lang/String"), (.object "java/lang/ModuleLayer")]
  resolved := Array.replicate 834 none
  statics := none }

def pool10 : Array CpInfo := pool [(1, u "java/lang/Cloneable"), (0, .class_ 1), (0, u "java/lang/Object"), (0, .class_ 3)] 3

/-- java/lang/Cloneable -/
def k10 : Class := { plain "java/lang/Cloneable" (some 0) with
  accessFlags := 1537
  interfaces := #[]
  cf := some (fileOf pool10 2 #[] #[] 1537 4 #[] #[])
  fields := #[]
  methods := #[]
  instanceTypes := #[]
  staticTypes := #[]
  resolved := Array.replicate 8 none
  statics := none }

/-- the primitive byte -/
def k11 : Class := { plain "byte" none with kind := .primitive 'B', accessFlags := 0x411 }
/-- [B -/
def k12 : Class := { plain "[B" (some 0) with kind := .array 11 .byte, interfaces := #[10, 4], accessFlags := 1041 }

/-- the primitive int -/
def k13 : Class := { plain "int" none with kind := .primitive 'I', accessFlags := 0x411 }
/-- [I -/
def k14 : Class := { plain "[I" (some 0) with kind := .array 13 .int, interfaces := #[10, 4], accessFlags := 1041 }

def heap : Heap := #[{ cls := 6, slots := #[.ref 3, .ref 4, .null, .null, .null], vm := .statics 6 },
  { cls := 12, slots := #[.int 46, .int 109, .int 100, .int 53], vm := .none },
  { cls := 12, slots := #[.int 46, .int 115, .int 104, .int 97, .int 49], vm := .none },
  { cls := 6, slots := #[.null, .int 0, .int 0, .null, .int 16, .ref 1], vm := .none },
  { cls := 6, slots := #[.null, .int 1, .int 0, .null, .int 20, .ref 2], vm := .none }]
def classes : Array Class := #[k0, k1, k2, k3, k4, k5, k6, k7, k8, k9, k10, k11, k12, k13, k14]
def interned : List (Array UInt16 × Addr) := []
def slotsUsed : Nat := 26
def theMethod : MethodId := ⟨1, 1⟩
def args0 : Array Value := #[.int 5, .int 65, .int 66, .int 67]
def aboutOver (below : List Frame) : State where
  vm := { classes := classes, interned := interned.toArray }
  heap := heap
  slotsUsed := slotsUsed
  threads := #[{ frames := .invoking theMethod args0 :: below }]
def below0 : List Frame := [.native { method := ⟨0, 0⟩, args := #[] }]
def about1 : State := aboutOver below0
def p0 : Program := .bare "" "" ""
def e0 : Env := launch0.env 0 0 0
theorem w_frames : about1.frames = Frame.invoking theMethod args0 :: below0 := rfl
set_option maxRecDepth 65536 in
theorem w_args : argsFit about1.vm theMethod args0 = true := by decide +kernel
set_option maxRecDepth 65536 in
theorem w_heap : heapFits about1 = true := by decide +kernel
set_option maxRecDepth 65536 in
theorem w_runnable : about1.curStatus? = some .runnable := by decide +kernel
set_option maxRecDepth 65536 in
theorem w_alone : about1.alone = true := by decide +kernel
set_option maxRecDepth 65536 in
theorem w_named : about1.methodNamed? x = some theMethod := by decide +kernel
set_option maxRecDepth 65536 in
theorem w_hears : about1.hears theMethod below0 = true := by decide +kernel
set_option maxRecDepth 65536 in
theorem w_ripe : about1.ripe theMethod args0 below0 = true := by decide +kernel
theorem w_running : about1.status = .running := rfl
set_option maxRecDepth 65536 in
theorem w_room : about1.hasRoom e0.platform room_1 = true :=
  launch0.hasRoom_least _ room_1 (by decide +kernel) (by decide +kernel) (by decide +kernel) (by decide +kernel) (by decide +kernel) (by decide +kernel)
theorem allAtoms_all (ts : List Jvm.Cond) (a : Array Jvm.Value) (st : Jvm.State) : (allAtoms ts).before a st = ts.all (fun c => c.before a st) := by
  induction ts with
  | nil => rfl
  | cons c t ih =>
    show (Jvm.Cond.and c (allAtoms t)).before a st = _
    rw [Jvm.Cond.before_and, ih, List.all_cons]
def words1 : List Jvm.Cond := Jvm.Cond.code x code maxLocals ret :: tables_1
/-- a 'code' word, met by the world's own term for the bytes: nothing is compared byte by byte -/
theorem code_word {y : MethodName} {bytes : ByteArray} {mx : Nat} {rt : Option FieldType} {a : Array Value} {s : State} {m : MethodId} {meth : Method} {c : Code} (h1 : s.methodNamed? y = some m) (h2 : s.vm.method? m = some meth) (h3 : meth.code = some c) (h4 : c.code = bytes)
    (h5 : (c.maxLocals == mx && c.exceptionTable.isEmpty && decide (c.maxStack ≤ mostOperands) && decide (meth.sig.returnType = rt) && !meth.locks && decide (parseMethodDescriptor y.desc = some meth.sig)) = true) : (Jvm.Cond.code y bytes mx rt).before a s = true := by
  simp only [Bool.and_eq_true, beq_iff_eq, Bool.not_eq_true', decide_eq_true_eq] at h5
  obtain ⟨⟨⟨⟨⟨g1, g2⟩, g3⟩, g4⟩, g5⟩, g6⟩ := h5
  simp [Cond.before, Cond.holds, Cond.value, h1, h2, h3, h4, g1, g2, g3, g4, g5, g6]
def isCode : Jvm.Cond → Bool
  | .code _ _ _ _ => true
  | _ => false
theorem all_split {L : List Jvm.Cond} {P : Jvm.Cond → Bool} (h1 : L.all (fun c => isCode c || P c) = true) (h2 : ∀ c ∈ L.filter isCode, P c = true) : L.all P = true := by
  refine List.all_eq_true.mpr fun c hc => ?_
  have h := List.all_eq_true.mp h1 c hc
  rcases Bool.eq_false_or_eq_true (isCode c) with hi | hi
  · exact h2 c (List.mem_filter.mpr ⟨hc, hi⟩)
  · simpa [hi] using h
set_option maxRecDepth 65536 in
theorem w_c0 : (Jvm.Cond.code x code maxLocals ret).before args0 about1 = true := code_word (m := ⟨1, 1⟩) (meth := k1m1) (c := k1c1) (by decide +kernel) rfl rfl rfl (by decide +kernel)
set_option maxRecDepth 65536 in
theorem w_c1 : (Jvm.Cond.code ({ cls := "com/example/depositum/depositum/format/Checksum", name := "namedPath", desc := "([B)[B" } : Jvm.MethodName) prog_36_method_7_code (2 : Nat) (Option.some (Jvm.ClassFile.FieldType.array Jvm.ClassFile.FieldType.byte))).before args0 about1 = true := code_word (m := ⟨6, 0⟩) (meth := k6m0) (c := k6c0) (by decide +kernel) rfl rfl rfl (by decide +kernel)
set_option maxRecDepth 65536 in
theorem w_c2 : (Jvm.Cond.code ({ cls := "java/util/Arrays", name := "copyOf", desc := "([BI)[B" } : Jvm.MethodName) jdk_65_method_121_code (3 : Nat) (Option.some (Jvm.ClassFile.FieldType.array Jvm.ClassFile.FieldType.byte))).before args0 about1 = true := code_word (m := ⟨7, 1⟩) (meth := k7m1) (c := k7c1) (by decide +kernel) rfl rfl rfl (by decide +kernel)
set_option maxRecDepth 65536 in
theorem w_c3 : (Jvm.Cond.code ({ cls := "java/lang/Math", name := "min", desc := "(II)I" } : Jvm.MethodName) jdk_29_method_69_code (2 : Nat) (Option.some Jvm.ClassFile.FieldType.int)).before args0 about1 = true := code_word (m := ⟨8, 1⟩) (meth := k8m1) (c := k8c1) (by decide +kernel) rfl rfl rfl (by decide +kernel)
def codes1 : List Jvm.Cond := [Jvm.Cond.code x code maxLocals ret, Jvm.Cond.code ({ cls := "com/example/depositum/depositum/format/Checksum", name := "namedPath", desc := "([B)[B" } : Jvm.MethodName) prog_36_method_7_code (2 : Nat) (Option.some (Jvm.ClassFile.FieldType.array Jvm.ClassFile.FieldType.byte)), Jvm.Cond.code ({ cls := "java/util/Arrays", name := "copyOf", desc := "([BI)[B" } : Jvm.MethodName) jdk_65_method_121_code (3 : Nat) (Option.some (Jvm.ClassFile.FieldType.array Jvm.ClassFile.FieldType.byte)), Jvm.Cond.code ({ cls := "java/lang/Math", name := "min", desc := "(II)I" } : Jvm.MethodName) jdk_29_method_69_code (2 : Nat) (Option.some Jvm.ClassFile.FieldType.int)]
set_option maxRecDepth 65536 in
theorem codes_eq : words1.filter isCode = codes1 := rfl
theorem w_codes : ∀ c ∈ words1.filter isCode, c.before args0 about1 = true := by
  rw [codes_eq]
  intro c hc
  simp only [codes1, List.mem_cons, List.not_mem_nil, or_false] at hc
  rcases hc with rfl | rfl | rfl | rfl
  · exact w_c0
  · exact w_c1
  · exact w_c2
  · exact w_c3
set_option maxRecDepth 65536 in
theorem w_t1 : (words1.take 24).all (fun c => isCode c || c.before args0 about1) = true := by decide +kernel
set_option maxRecDepth 65536 in
theorem w_t2 : (words1.drop 24).all (fun c => isCode c || c.before args0 about1) = true := by decide +kernel
theorem w_tables : (allAtoms (Jvm.Cond.code x code maxLocals ret :: tables_1)).before args0 about1 = true := by
  rw [allAtoms_all]
  show words1.all (fun c => c.before args0 about1) = true
  refine all_split ?_ w_codes
  rw [← List.take_append_drop 24 words1, List.all_append, w_t1, w_t2]
  rfl
set_option maxRecDepth 65536 in
theorem w_case : (Jvm.Cond.and given_1 narrow_1).before args0 about1 = true := by decide +kernel
theorem w_applies : (headSpec (Jvm.Cond.code x code maxLocals ret :: tables_1) room_1).applies x e0.platform about1 = true :=
  (Spec.applies_iff w_frames).mpr ⟨w_running, w_runnable, w_alone, w_named, w_hears, w_ripe, w_room, w_tables⟩
theorem atStart : AtStart classFile x code maxLocals ret World_1 tables_1 room_1 Calls_1 rest_1 Pre_1 launch0 p0 e0 about1 theMethod args0 below0 :=
  ⟨lists_1, trivial, launch0.admits_env _ _ _, launch0.least_env, fairChoices_fair.cas, fairChoices_fair.clock, w_frames, w_args, w_heap, w_applies, trivial, trivial, w_case⟩
end start1
theorem witness_1 : WitnessClaimed_1 := ⟨start1.p0, start1.e0, start1.about1, start1.theMethod, start1.args0, start1.below0, start1.atStart⟩
end Jvm.Pilot.@@N@@
