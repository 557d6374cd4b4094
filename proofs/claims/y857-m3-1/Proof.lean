import JvmDerived
import JvmDerived.Pilot.@@N@@Statement
import JvmDerived.Pilot.@@N@@Code
set_option linter.unusedVariables false
set_option linter.unusedSimpArgs false
namespace Jvm.Pilot.@@N@@
open Jvm Jvm.ClassFile Sem Op Lib Jvm.Free Jvm.Stand Jvm.LawKit Jvm.RoadKit Bundle Jvm.Pilot.@@N@@.Jvm.D
/-! ### own kit: a walk as one chain, from a place of the run to the method's end -/
/-- from A the run comes to an end of which P holds -/
def own_E (p : Program) (e : Env) (below : List Frame) (P : Outcome → State → Prop) (A : State) : Prop :=
  ∃ s₂ o, Steps p.tables e below A s₂ ∧ s₂.status = .running ∧ Ended s₂ below o ∧ P o s₂
/-- what a contract says at the end -/
def own_P (Q : Option Value → Heap → List Loc → Prop) (s : State) (C S : Nat) : Outcome → State → Prop :=
  fun o U => ∃ v L, o = .returned v ∧ Q v U.heap L ∧ FrameEnd s o U L C S
/-- a contract: called with these arguments over the heap h, the body returns, and Q tells what and what is written -/
def own_Con (l : Launch) (Z : State) (y : MethodName) (bytes : ByteArray) (maxL : Nat) (ret : Option FieldType) (ws : List Jvm.Cond) (rm : Room) (as : Array Value) (h : Heap) (Q : Option Value → Heap → List Loc → Prop) : Prop :=
  MetFree l y (head1 (Jvm.Cond.code y bytes maxL ret :: ws) rm) (fun a U => a = as ∧ Z.Warmed39 U.vm ∧ U.heap = h) (fun _ _ _ _ _ => True) (fun _ U o U' => ∃ v L, o = .returned v ∧ Q v U'.heap L ∧ FrameEnd U o U' L rm.cells rm.slots)
theorem own_w {Z : State} {a0 : Array Value} (hw : ∀ d ∈ tables_1, d.before a0 Z = true) (i : Nat) {d : Jvm.Cond} (q : tables_1[i]? = some d) : d.before a0 Z = true := hw d (List.mem_of_getElem? q)
section Own
variable {p : Program} {l : Launch} {e : Env} {R : Room} {s : State} {m : MethodId} {args : Array Value} {below : List Frame} {meth : Method} {c : Code} {T : State} {locs : List Loc} {cells slots : Nat} {Z : State} {a0 : Array Value} {h h' : Heap} {P : Outcome → State → Prop} {A B : State} {Q : Option Value → Heap → List Loc → Prop}
theorem own_s (st : ∀ t, Steps p.tables e below B t → Steps p.tables e below A t) (k : own_E p e below P B) : own_E p e below P A := by
  obtain ⟨s2, o, h1, h2⟩ := k; exact ⟨s2, o, st _ h1, h2⟩
theorem own_g {g : JFrame} (g' : JFrame) (st : ∀ t, Steps p.tables e below (T.setTop g') t → Steps p.tables e below (T.setTop g) t) (k : own_E p e below P (T.setTop g')) : own_E p e below P (T.setTop g) := own_s st k
theorem own_t (st : Steps p.tables e below A B) (k : own_E p e below P B) : own_E p e below P A := by
  obtain ⟨s2, o, h1, h2⟩ := k; exact ⟨s2, o, st.trans h1, h2⟩
theorem own_enter {y : MethodName} {bytes : ByteArray} {maxL : Nat} {ret : Option FieldType} {ws : List Jvm.Cond} {rm : Room} {as : Array Value} (hpl : plainFor y = true)
    (body : ∀ (p : Program) (e : Env) (s : State) (m : MethodId) (below : List Frame) (meth : Method) (c : Code) (s₁ : State), Stand p l e rm s m as below meth c s₁ [] 0 0 → s₁.heap = h → p.tables.exec = Jvm.exec → Z.Warmed39 s.vm → c.code = bytes → c.maxLocals = maxL → s.vm.findClass y.cls = some m.cls → meth.name = y.name → meth.sig.returnType = ret → meth.locks = false →
      own_E p e below (own_P Q s rm.cells rm.slots) (s₁.setTop (entryFrame m as maxL))) : own_Con l Z y bytes maxL ret ws rm as h Q := by
  refine MetFree.of_bodySF hpl hisR ?_
  intro p e s m args below meth c s₁ Bd hml hP hK
  obtain ⟨rfl, hZ, hh⟩ := hP
  have X0 : Stand p l e rm s m args below meth c s₁ [] 0 0 := Stand.of_body Bd
  have e0 : s₁.heap = h := by rw [← hh, Bd.state]; rfl
  exact body p e s m below meth c s₁ X0 e0 Bd.exec hZ Bd.bytes hml (findClass_of_methodNamed Bd.named) (name_of_methodNamed Bd.named Bd.method).1 Bd.returns Bd.notSynchronized
theorem own_cast {g g' : JFrame} (q : g = g') (k : own_E p e below P (T.setTop g')) : own_E p e below P (T.setTop g) := q ▸ k
/-! returns -/
theorem own_retZ (X : Stand p l e R s m args below meth c T locs cells slots) (hx : p.tables.exec = Jvm.exec) (hret : meth.sig.returnType = some .boolean) (hlk : meth.locks = false) {pc : Nat} {Ls : Array Slot} {z : Int32} {C S : Nat} {rest : List Value} (hd : decode c.code pc = .ok (.ireturn, 1)) (hz : nar .boolean z = z) (hc : cells ≤ C) (hs : slots ≤ S) (hQ : Q (some (.int z)) T.heap locs) :
    own_E p e below (own_P Q s C S) (T.setTop (mkF m pc Ls (.int z :: rest))) := by
  obtain ⟨fs, hr, hrun, hended, hW, hsame⟩ := X.leave (v := some (.int z)) (fun q => by rw [hret] at q; cases q) hlk
  exact ⟨_, _, retN X hx (t := .boolean) hret (by simp) hd (by rw [hz]; exact hr), hrun, hended, _, _, rfl, hQ, ⟨_, rfl⟩, hW, hsame.mono hc hs⟩
theorem own_retI (X : Stand p l e R s m args below meth c T locs cells slots) (hx : p.tables.exec = Jvm.exec) (hret : meth.sig.returnType = some .int) (hlk : meth.locks = false) {pc : Nat} {Ls : Array Slot} {z : Int32} {C S : Nat} (hd : decode c.code pc = .ok (.ireturn, 1)) (hc : cells ≤ C) (hs : slots ≤ S) (hQ : Q (some (.int z)) T.heap locs) :
    own_E p e below (own_P Q s C S) (T.setTop (mkF m pc Ls [.int z])) := by
  obtain ⟨fs, hr, hrun, hended, hW, hsame⟩ := X.leave (v := some (.int z)) (fun q => by rw [hret] at q; cases q) hlk
  exact ⟨_, _, X.ireturnOut hx hret rfl (Or.inl rfl) hd hr, hrun, hended, _, _, rfl, hQ, ⟨_, rfl⟩, hW, hsame.mono hc hs⟩
theorem own_retJ (X : Stand p l e R s m args below meth c T locs cells slots) (hx : p.tables.exec = Jvm.exec) (hret : meth.sig.returnType = some .long) (hlk : meth.locks = false) {pc : Nat} {Ls : Array Slot} {z : Int64} {C S : Nat} (hd : decode c.code pc = .ok (.lreturn, 1)) (hc : cells ≤ C) (hs : slots ≤ S) (hQ : Q (some (.long z)) T.heap locs) :
    own_E p e below (own_P Q s C S) (T.setTop (mkF m pc Ls [.long z])) := by
  obtain ⟨fs, hr, hrun, hended, hW, hsame⟩ := X.leave (v := some (.long z)) (fun q => by rw [hret] at q; cases q) hlk
  exact ⟨_, _, X.lreturnOut hx hret hd hr, hrun, hended, _, _, rfl, hQ, ⟨_, rfl⟩, hW, hsame.mono hc hs⟩
theorem own_retA (X : Stand p l e R s m args below meth c T locs cells slots) (hx : p.tables.exec = Jvm.exec) {t : FieldType} (ht : t.isReference = true) (hret : meth.sig.returnType = some t) (hlk : meth.locks = false) {pc : Nat} {Ls : Array Slot} {a : Addr} {C S : Nat} (hd : decode c.code pc = .ok (.areturn, 1)) (hc : cells ≤ C) (hs : slots ≤ S) (hQ : Q (some (.ref a)) T.heap locs) :
    own_E p e below (own_P Q s C S) (T.setTop (mkF m pc Ls [.ref a])) := by
  obtain ⟨fs, hr, hrun, hended, hW, hsame⟩ := X.leave (v := some (.ref a)) (fun q => by rw [hret] at q; cases q) hlk
  exact ⟨_, _, X.areturnOut hx (w := .ref a) rfl hret ht hd hr, hrun, hended, _, _, rfl, hQ, ⟨_, rfl⟩, hW, hsame.mono hc hs⟩
theorem own_retV (X : Stand p l e R s m args below meth c T locs cells slots) (hx : p.tables.exec = Jvm.exec) (hret : meth.sig.returnType = none) (hlk : meth.locks = false) {pc : Nat} {Ls : Array Slot} {C S : Nat} (hd : decode c.code pc = .ok (.return_, 1)) (hc : cells ≤ C) (hs : slots ≤ S) (hQ : Q none T.heap locs) :
    own_E p e below (own_P Q s C S) (T.setTop (mkF m pc Ls [])) := by
  obtain ⟨fs, hr, hrun, hended, hW, hsame⟩ := X.leave (v := none) (fun _ => rfl) hlk
  exact ⟨_, _, X.returnOut hx hret hd hr, hrun, hended, _, _, rfl, hQ, ⟨_, rfl⟩, hW, hsame.mono hc hs⟩
/-! calls by a contract -/
theorem own_callS {y : MethodName} {bytes : ByteArray} {maxL : Nat} {ret : Option FieldType} {rm : Room} {own : String} {index : Nat} {as : List Value} (X : Stand p l e R s m args below meth c T locs cells slots) (hx : p.tables.exec = Jvm.exec) (hZ : Z.Warmed39 s.vm) (hown : s.vm.findClass own = some m.cls) (hT : T.heap = h) (hM : own_Con l Z y bytes maxL ret [] rm as.toArray h Q)
    (w1 : (Jvm.Cond.methodLink own index y).before a0 Z = true) (w2 : (Jvm.Cond.static y).before a0 Z = true) (w3 : (Jvm.Cond.initialized y.cls).before a0 Z = true) (w4 : (Jvm.Cond.code y bytes maxL ret).before a0 Z = true) (hy : y.cls ≠ "java/lang/invoke/MethodHandle" ∧ y.cls ≠ "java/lang/invoke/VarHandle") {ps : List FieldType} {r : Option FieldType} (hpd : parseMethodDescriptor y.desc = some ⟨ps, r⟩) (hlen : as.length = ps.length)
    {pc : Nat} {Ls : Array Slot} {st rest : List Value} (hml : Ls.size = c.maxLocals) (hst : st = as.reverse ++ rest) (hd : decode c.code pc = .ok (.invokestatic index, 3)) (W : Nat) (hW : 2 * 0 + (rest.map fun v => v.category).sum ≤ W) (hf : rm.frames + 1 ≤ R.frames) (hl : W + (maxL + 11) + rm.locals ≤ R.locals) (hc : cells + rm.cells ≤ R.cells) (hs : slots + rm.slots ≤ R.slots)
    (k : ∀ (v : Option Value) (T' : State) (L : List Loc), Stand p l e R s m args below meth c T' (locs ++ L) (cells + rm.cells) (slots + rm.slots) → Q v T'.heap L → own_E p e below P (T'.setTop (mkF m (pc + 3) Ls (v.toList ++ rest)))) :
    own_E p e below P (T.setTop (mkF m pc Ls st)) := by
  obtain ⟨v, _, ⟨T', L', k', n'⟩, -, X', ⟨L, hQ, h1, h2, h3⟩, stp⟩ := Jvm.LawKit.callS X hx hown (mvT hZ w1) (mvT hZ w2) (mvT hZ w3) (mvT hZ w4) hy (backOf (W := W) hM hZ w4 w3 hf hl) (g := mkF m pc Ls st) rfl hml (argsL := as) (rest := rest) (lenOf hpd hlen) hst hW hd (fun _ _ => ⟨rfl, hT, hc, hs⟩)
  dsimp only [Pt.U, Pt.locs, Pt.cells, Pt.slots] at X' h1 h2 h3 stp hQ
  subst h1 h2 h3
  exact own_s stp (k v T' L X' hQ)
theorem own_callI {y : MethodName} {bytes : ByteArray} {maxL : Nat} {rm : Room} {own : String} {index : Nat} {a : Addr} {as : List Value} (X : Stand p l e R s m args below meth c T locs cells slots) (hx : p.tables.exec = Jvm.exec) (hZ : Z.Warmed39 s.vm) (hown : s.vm.findClass own = some m.cls) (hT : T.heap = h) (hM : own_Con l Z y bytes maxL none [] rm (.ref a :: as).toArray h Q) (hy1 : y.name = "<init>")
    (w1 : (Jvm.Cond.methodLink own index y).before a0 Z = true) (w2 : (Jvm.Cond.instanceMethod y).before a0 Z = true) (w3 : (Jvm.Cond.initialized y.cls).before a0 Z = true) (w4 : (Jvm.Cond.code y bytes maxL none).before a0 Z = true) (hy : y.cls ≠ "java/lang/invoke/MethodHandle" ∧ y.cls ≠ "java/lang/invoke/VarHandle") {ps : List FieldType} {r : Option FieldType} (hpd : parseMethodDescriptor y.desc = some ⟨ps, r⟩) (hlen : as.length = ps.length)
    {pc : Nat} {Ls : Array Slot} {st rest : List Value} (hml : Ls.size = c.maxLocals) (hst : st = as.reverse ++ .ref a :: rest) (hd : decode c.code pc = .ok (.invokespecial index, 3)) (W : Nat) (hW : 2 * 0 + (rest.map fun v => v.category).sum ≤ W) (hf : rm.frames + 1 ≤ R.frames) (hl : W + (maxL + 11) + rm.locals ≤ R.locals) (hc : cells + rm.cells ≤ R.cells) (hs : slots + rm.slots ≤ R.slots)
    (k : ∀ (v : Option Value) (T' : State) (L : List Loc), Stand p l e R s m args below meth c T' (locs ++ L) (cells + rm.cells) (slots + rm.slots) → Q v T'.heap L → own_E p e below P (T'.setTop (mkF m (pc + 3) Ls (v.toList ++ rest)))) :
    own_E p e below P (T.setTop (mkF m pc Ls st)) := by
  obtain ⟨v, _, ⟨T', L', k', n'⟩, -, X', ⟨L, hQ, h1, h2, h3⟩, stp⟩ := X.specialBack hx hy1 hown (mvT hZ w1) (mvT hZ w2) (mvT hZ w4) hy (backOf (W := W) hM hZ w4 w3 hf hl) (g := mkF m pc Ls st) rfl hml (Steps.refl _) (a := a) (argsL := as) (rest := rest) (lenOf hpd hlen) hst hW hd (fun _ _ => ⟨rfl, hT, hc, hs⟩)
  dsimp only [Pt.U, Pt.locs, Pt.cells, Pt.slots] at X' h1 h2 h3 stp hQ
  subst h1 h2 h3
  exact own_t stp (k v T' L X' hQ)
theorem own_callV {y : MethodName} {bytes : ByteArray} {maxL : Nat} {ret : Option FieldType} {rm : Room} {own : String} {index : Nat} {a : Addr} {as : List Value} (X : Stand p l e R s m args below meth c T locs cells slots) (hx : p.tables.exec = Jvm.exec) (hZ : Z.Warmed39 s.vm) (hown : s.vm.findClass own = some m.cls) (hT : T.heap = h) (hM : own_Con l Z y bytes maxL ret [] rm (.ref a :: as).toArray h Q) (hE : Exa Z h a y.cls)
    (w1 : (Jvm.Cond.methodLink own index y).before a0 Z = true) (w2 : (Jvm.Cond.declares y).before a0 Z = true) (w5 : (Jvm.Cond.selects y.cls y y).before a0 Z = true) (w6 : (Jvm.Cond.instanceMethod y).before a0 Z = true) (w3 : (Jvm.Cond.initialized y.cls).before a0 Z = true) (w4 : (Jvm.Cond.code y bytes maxL ret).before a0 Z = true) (hy : y.cls ≠ "java/lang/invoke/MethodHandle" ∧ y.cls ≠ "java/lang/invoke/VarHandle") {ps : List FieldType} {r : Option FieldType} (hpd : parseMethodDescriptor y.desc = some ⟨ps, r⟩) (hlen : as.length = ps.length)
    {pc : Nat} {Ls : Array Slot} {st rest : List Value} (hml : Ls.size = c.maxLocals) (hst : st = as.reverse ++ .ref a :: rest) (hd : decode c.code pc = .ok (.invokevirtual index, 3)) (W : Nat) (hW : 2 * 0 + (rest.map fun v => v.category).sum ≤ W) (hf : rm.frames + 1 ≤ R.frames) (hl : W + (maxL + 11) + rm.locals ≤ R.locals) (hc : cells + rm.cells ≤ R.cells) (hs : slots + rm.slots ≤ R.slots)
    (k : ∀ (v : Option Value) (T' : State) (L : List Loc), Stand p l e R s m args below meth c T' (locs ++ L) (cells + rm.cells) (slots + rm.slots) → Q v T'.heap L → own_E p e below P (T'.setTop (mkF m (pc + 3) Ls (v.toList ++ rest)))) :
    own_E p e below P (T.setTop (mkF m pc Ls st)) := by
  obtain ⟨cq, kq, qa, qb, qc⟩ := isOf hZ hT hE
  obtain ⟨v, _, ⟨T', L', k', n'⟩, -, X', ⟨L, hQ, h1, h2, h3⟩, stp⟩ := X.virtualBack hx hown (mvT hZ w1) (mvT hZ w2) (notFace_of_selects (args := #[]) (mvT hZ w5)) (mvT hZ w5) (mvT hZ w6) hy (backOf (W := W) hM hZ w4 w3 hf hl) qa qc (g := mkF m pc Ls st) rfl hml (Steps.refl _) (argsL := as) (rest := rest) (lenOf hpd hlen) hst hW hd (fun _ _ => ⟨rfl, hT, hc, hs⟩)
  dsimp only [Pt.U, Pt.locs, Pt.cells, Pt.slots] at X' h1 h2 h3 stp hQ
  subst h1 h2 h3
  exact own_t stp (k v T' L X' hQ)
theorem own_callP {y : MethodName} {bytes : ByteArray} {maxL : Nat} {ret : Option FieldType} {rm : Room} {own : String} {index kn : Nat} {a : Addr} {as : List Value} (X : Stand p l e R s m args below meth c T locs cells slots) (hx : p.tables.exec = Jvm.exec) (hZ : Z.Warmed39 s.vm) (hown : s.vm.findClass own = some m.cls) (hT : T.heap = h) (hM : own_Con l Z y bytes maxL ret [] rm (.ref a :: as).toArray h Q) (hE : Exa Z h a y.cls)
    (w1 : (Jvm.Cond.methodLink own index y).before a0 Z = true) (w2 : (Jvm.Cond.instantiable y.cls kn).before a0 Z = true) (w5 : (Jvm.Cond.privateMethod y).before a0 Z = true) (w6 : (Jvm.Cond.instanceMethod y).before a0 Z = true) (w3 : (Jvm.Cond.initialized y.cls).before a0 Z = true) (w4 : (Jvm.Cond.code y bytes maxL ret).before a0 Z = true) (hy : y.cls ≠ "java/lang/invoke/MethodHandle" ∧ y.cls ≠ "java/lang/invoke/VarHandle") {ps : List FieldType} {r : Option FieldType} (hpd : parseMethodDescriptor y.desc = some ⟨ps, r⟩) (hlen : as.length = ps.length)
    {pc : Nat} {Ls : Array Slot} {st rest : List Value} (hml : Ls.size = c.maxLocals) (hst : st = as.reverse ++ .ref a :: rest) (hd : decode c.code pc = .ok (.invokevirtual index, 3)) (W : Nat) (hW : 2 * 0 + (rest.map fun v => v.category).sum ≤ W) (hf : rm.frames + 1 ≤ R.frames) (hl : W + (maxL + 11) + rm.locals ≤ R.locals) (hc : cells + rm.cells ≤ R.cells) (hs : slots + rm.slots ≤ R.slots)
    (k : ∀ (v : Option Value) (T' : State) (L : List Loc), Stand p l e R s m args below meth c T' (locs ++ L) (cells + rm.cells) (slots + rm.slots) → Q v T'.heap L → own_E p e below P (T'.setTop (mkF m (pc + 3) Ls (v.toList ++ rest)))) :
    own_E p e below P (T.setTop (mkF m pc Ls st)) := by
  obtain ⟨cq, hq, hq'⟩ := hE.cell
  have hi : (Jvm.Cond.instantiable y.cls kn).before args s = true := mvT hZ w2
  obtain ⟨ck, kk, hck, hkk, -, hniab, -, -⟩ := Cond.instantiable_spec hi
  have hpriv : s.PrivateAt y := Cond.privateMethod_at (mvP hZ w5 (args := #[]))
  have hins : (Jvm.Cond.instanceMethod y).before args s = true := mvT hZ w6
  have hsel : (Jvm.Cond.selects y.cls y y).before args s = true := selects_self_of_private hck hkk (Bool.or_eq_false_iff.mp hniab).1 hpriv hins hy
  obtain ⟨v, _, ⟨T', L', k', n'⟩, -, X', ⟨L, hQ, h1, h2, h3⟩, stp⟩ := X.privateBack hx hown (mvT hZ w1) hins hsel hpriv (mvT hZ w4) hy (backOf (W := W) hM hZ w4 w3 hf hl) (g := mkF m pc Ls st) rfl hml (Steps.refl _) (a := a) (cell := cq) (by rw [hT]; exact hq) hq' (argsL := as) (rest := rest) (lenOf hpd hlen) hst hW hd (fun _ _ => ⟨rfl, hT, hc, hs⟩)
  dsimp only [Pt.U, Pt.locs, Pt.cells, Pt.slots] at X' h1 h2 h3 stp hQ
  subst h1 h2 h3
  exact own_t stp (k v T' L X' hQ)
/-! arrays: a length and a function from places to values -/
def own_IA (Z : State) (h : Heap) (a : Addr) (ty : FieldType) (n : Nat) (f : Nat → Int32) : Prop := ∃ cl : Cell, Arr Z h a cl ty ∧ cl.slots.size = n ∧ ∀ i, i < n → cl.slots[i]? = some (.int (f i))
def own_JA (Z : State) (h : Heap) (a : Addr) (n : Nat) (f : Nat → Int64) : Prop := ∃ cl : Cell, Arr Z h a cl .long ∧ cl.slots.size = n ∧ ∀ i, i < n → cl.slots[i]? = some (.long (f i))
def own_set {α : Type} (f : Nat → α) (i : Nat) (v : α) : Nat → α := fun q => if q = i then v else f q
theorem own_set_same {α : Type} (f : Nat → α) (i : Nat) (v : α) : own_set f i v i = v := by simp [own_set]
theorem own_set_other {α : Type} (f : Nat → α) {i q : Nat} (v : α) (hq : q ≠ i) : own_set f i v q = f q := by simp [own_set, hq]
variable {a b : Addr} {ty : FieldType} {n : Nat} {f : Nat → Int32} {fJ : Nat → Int64} {ws : List Addr} {sl : Nat} {v : Value}
theorem own_IA.lt (F : own_IA Z h a ty n f) : a < h.size := by obtain ⟨cl, A, -⟩ := F; exact A.lt
theorem own_JA.lt (F : own_JA Z h a n fJ) : a < h.size := by obtain ⟨cl, A, -⟩ := F; exact A.lt
theorem own_IA.ext (F : own_IA Z h a ty n f) (E : Ext h h') : own_IA Z h' a ty n f := by obtain ⟨cl, A, r⟩ := F; exact ⟨cl, A.ext E, r⟩
theorem own_JA.ext (F : own_JA Z h a n fJ) (E : Ext h h') : own_JA Z h' a n fJ := by obtain ⟨cl, A, r⟩ := F; exact ⟨cl, A.ext E, r⟩
theorem own_IA.other (F : own_IA Z h b ty n f) (W : Wr h h' a sl v) (q : b ≠ a) : own_IA Z h' b ty n f := by obtain ⟨cl, A, r⟩ := F; exact ⟨cl, A.other W q, r⟩
theorem own_JA.other (F : own_JA Z h b n fJ) (W : Wr h h' a sl v) (q : b ≠ a) : own_JA Z h' b n fJ := by obtain ⟨cl, A, r⟩ := F; exact ⟨cl, A.other W q, r⟩
theorem own_IA.keep (F : own_IA Z h a ty n f) (K : Keep h h' ws) (q : a ∉ ws) : own_IA Z h' a ty n f := by obtain ⟨cl, A, r⟩ := F; exact ⟨cl, ⟨K.2.1 a cl A.1 q, A.2⟩, r⟩
theorem own_JA.keep (F : own_JA Z h a n fJ) (K : Keep h h' ws) (q : a ∉ ws) : own_JA Z h' a n fJ := by obtain ⟨cl, A, r⟩ := F; exact ⟨cl, ⟨K.2.1 a cl A.1 q, A.2⟩, r⟩
theorem own_IA.congr {f' : Nat → Int32} (F : own_IA Z h a ty n f) (q : ∀ i, i < n → f i = f' i) : own_IA Z h a ty n f' := by obtain ⟨cl, A, S, H⟩ := F; exact ⟨cl, A, S, fun i hi => by rw [← q i hi]; exact H i hi⟩
theorem own_JA.congr {f' : Nat → Int64} (F : own_JA Z h a n fJ) (q : ∀ i, i < n → fJ i = f' i) : own_JA Z h a n f' := by obtain ⟨cl, A, S, H⟩ := F; exact ⟨cl, A, S, fun i hi => by rw [← q i hi]; exact H i hi⟩
theorem own_ins {cl : Cell} {j : Int32} {i : Nat} (S : cl.slots.size = n) (hj : ¬ j < 0) (hi : j.toNatClampNeg = i) (hin : i < n) : ¬ (j < 0 ∨ cl.slots.size ≤ j.toNatClampNeg) := by
  rintro (q | q)
  · exact hj q
  · rw [S, hi] at q; omega
theorem own_setI {cl : Cell} {i : Nat} {x : Int32} (W : Wr h h' a i (.int x)) (A : Arr Z h a cl ty) (S : cl.slots.size = n) (H : ∀ q, q < n → cl.slots[q]? = some (.int (f q))) : own_IA Z h' a ty n (own_set f i x) := by
  refine ⟨_, A.same W, by rw [sz_set]; exact S, fun q hq => ?_⟩
  by_cases u : q = i
  · subst u; simp [Cell.setSlot, own_set, S, hq]
  · rw [own_set_other _ _ u, ← H q hq]; exact Array.getElem?_setIfInBounds_ne (Ne.symm u)
theorem own_setJ {cl : Cell} {i : Nat} {x : Int64} (W : Wr h h' a i (.long x)) (A : Arr Z h a cl .long) (S : cl.slots.size = n) (H : ∀ q, q < n → cl.slots[q]? = some (.long (fJ q))) : own_JA Z h' a n (own_set fJ i x) := by
  refine ⟨_, A.same W, by rw [sz_set]; exact S, fun q hq => ?_⟩
  by_cases u : q = i
  · subst u; simp [Cell.setSlot, own_set, S, hq]
  · rw [own_set_other _ _ u, ← H q hq]; exact Array.getElem?_setIfInBounds_ne (Ne.symm u)
theorem own_newI (X : Stand p l e R s m args below meth c T locs cells slots) (hx : p.tables.exec = Jvm.exec) (hZ : Z.Warmed39 s.vm) (hT : T.heap = h) {aty : ArrayType} (w : (Jvm.Cond.arrayClass (newarray.typeOf aty)).before a0 Z = true) (hdv : defaultValue (newarray.typeOf aty) = .int 0) {pc : Nat} {Ls : Array Slot} {rest : List Value} {z : Int32} (hd : decode c.code pc = .ok (.newarray aty, 2)) (hz : ¬ z < 0) (hzn : z.toNatClampNeg = n) (cap : Nat) (hcap : n ≤ cap) (hb : cap * 8 ≤ 536870912) (hc : cells + 1 ≤ R.cells) (hl : slots + cap ≤ R.slots)
    (k : ∀ (T' : State) (h' : Heap) (a : Addr), a = h.size → Stand p l e R s m args below meth c T' locs (cells + 1) (slots + cap) → T'.heap = h' → Ext h h' → own_IA Z h' a (newarray.typeOf aty) n (fun _ => 0) → own_E p e below P (T'.setTop (mkF m (pc + 2) Ls (.ref a :: rest)))) :
    own_E p e below P (T.setTop (mkF m pc Ls (.int z :: rest))) := by
  obtain ⟨T', h', cA, X', e', E, A, st⟩ := newP X hx hZ w hT (g := mkF m pc Ls (.int z :: rest)) rfl hd rfl hz (cap := cap) (by rw [hzn]; exact hcap) hb hc hl
  refine own_s st (k T' h' _ rfl X' e' E ⟨_, A, by rw [sz_new, hzn], fun i hi => ?_⟩)
  simp [newA, hzn, hi, hdv]
theorem own_newJ (X : Stand p l e R s m args below meth c T locs cells slots) (hx : p.tables.exec = Jvm.exec) (hZ : Z.Warmed39 s.vm) (hT : T.heap = h) (w : (Jvm.Cond.arrayClass .long).before a0 Z = true) {pc : Nat} {Ls : Array Slot} {rest : List Value} {z : Int32} (hd : decode c.code pc = .ok (.newarray .long, 2)) (hz : ¬ z < 0) (hzn : z.toNatClampNeg = n) (cap : Nat) (hcap : n ≤ cap) (hb : cap * 8 ≤ 536870912) (hc : cells + 1 ≤ R.cells) (hl : slots + cap ≤ R.slots)
    (k : ∀ (T' : State) (h' : Heap) (a : Addr), a = h.size → Stand p l e R s m args below meth c T' locs (cells + 1) (slots + cap) → T'.heap = h' → Ext h h' → own_JA Z h' a n (fun _ => 0) → own_E p e below P (T'.setTop (mkF m (pc + 2) Ls (.ref a :: rest)))) :
    own_E p e below P (T.setTop (mkF m pc Ls (.int z :: rest))) := by
  obtain ⟨T', h', cA, X', e', E, A, st⟩ := newP X hx hZ (aty := .long) w hT (g := mkF m pc Ls (.int z :: rest)) rfl hd rfl hz (cap := cap) (by rw [hzn]; exact hcap) hb hc hl
  refine own_s st (k T' h' _ rfl X' e' E ⟨_, A, by rw [sz_new, hzn], fun i hi => ?_⟩)
  simp [newA, hzn, hi, newarray.typeOf, defaultValue]
theorem own_lenI (X : Stand p l e R s m args below meth c T locs cells slots) (hx : p.tables.exec = Jvm.exec) (hZ : Z.Warmed39 s.vm) (hT : T.heap = h) (F : own_IA Z h a ty n f) {pc : Nat} {Ls : Array Slot} {rest : List Value} (hd : decode c.code pc = .ok (.arraylength, 1)) {z : Int32} (hz : n.toInt32 = z) (k : own_E p e below P (T.setTop (mkF m (pc + 1) Ls (.int z :: rest)))) :
    own_E p e below P (T.setTop (mkF m pc Ls (.ref a :: rest))) := by
  obtain ⟨cl, A, S, H⟩ := F
  exact own_s (X.arraylength hx (cell := cl) (by rw [hT]; exact A.1) (State.isArrayOf_alike hZ.alike A.2.1) (g := mkF m pc Ls (.ref a :: rest)) rfl (rest := rest) rfl hd) (by rw [S, hz]; exact k)
theorem own_lenJ (X : Stand p l e R s m args below meth c T locs cells slots) (hx : p.tables.exec = Jvm.exec) (hZ : Z.Warmed39 s.vm) (hT : T.heap = h) (F : own_JA Z h a n fJ) {pc : Nat} {Ls : Array Slot} {rest : List Value} (hd : decode c.code pc = .ok (.arraylength, 1)) {z : Int32} (hz : n.toInt32 = z) (k : own_E p e below P (T.setTop (mkF m (pc + 1) Ls (.int z :: rest)))) :
    own_E p e below P (T.setTop (mkF m pc Ls (.ref a :: rest))) := by
  obtain ⟨cl, A, S, H⟩ := F
  exact own_s (X.arraylength hx (cell := cl) (by rw [hT]; exact A.1) (State.isArrayOf_alike hZ.alike A.2.1) (g := mkF m pc Ls (.ref a :: rest)) rfl (rest := rest) rfl hd) (by rw [S, hz]; exact k)
theorem own_ildI (X : Stand p l e R s m args below meth c T locs cells slots) (hx : p.tables.exec = Jvm.exec) (hZ : Z.Warmed39 s.vm) (hT : T.heap = h) (F : own_IA Z h a .int n f) {pc i : Nat} {Ls : Array Slot} {rest : List Value} {j x : Int32} (hd : decode c.code pc = .ok (.iaload, 1)) (hj : ¬ j < 0) (hi : j.toNatClampNeg = i) (hin : i < n) (hv : f i = x) (k : own_E p e below P (T.setTop (mkF m (pc + 1) Ls (.int x :: rest)))) :
    own_E p e below P (T.setTop (mkF m pc Ls (.int j :: .ref a :: rest))) := by
  obtain ⟨cl, A, S, H⟩ := F
  subst hv
  exact own_s (X.iaload hx (j := j) (v := .int (f i)) (by rw [hT]; exact A.1) (State.isArrayOf_alike hZ.alike A.2.1) A.2.2 (own_ins S hj hi hin) (by rw [hi]; exact H i hin) (g := mkF m pc Ls (.int j :: .ref a :: rest)) rfl rfl hd) k
theorem own_ildB (X : Stand p l e R s m args below meth c T locs cells slots) (hx : p.tables.exec = Jvm.exec) (hZ : Z.Warmed39 s.vm) (hT : T.heap = h) (F : own_IA Z h a .byte n f) {pc i : Nat} {Ls : Array Slot} {rest : List Value} {j x : Int32} (hd : decode c.code pc = .ok (.baload, 1)) (hj : ¬ j < 0) (hi : j.toNatClampNeg = i) (hin : i < n) (hv : f i = x) (k : own_E p e below P (T.setTop (mkF m (pc + 1) Ls (.int x :: rest)))) :
    own_E p e below P (T.setTop (mkF m pc Ls (.int j :: .ref a :: rest))) := by
  obtain ⟨cl, A, S, H⟩ := F
  subst hv
  exact own_s (X.baloadBytes hx (j := j) (v := .int (f i)) (by rw [hT]; exact A.1) (State.isArrayOf_alike hZ.alike A.2.1) A.2.2 (own_ins S hj hi hin) (by rw [hi]; exact H i hin) (g := mkF m pc Ls (.int j :: .ref a :: rest)) rfl rfl hd) k
theorem own_ildZ (X : Stand p l e R s m args below meth c T locs cells slots) (hx : p.tables.exec = Jvm.exec) (hZ : Z.Warmed39 s.vm) (hT : T.heap = h) (F : own_IA Z h a .boolean n f) {pc i : Nat} {Ls : Array Slot} {rest : List Value} {j x : Int32} (hd : decode c.code pc = .ok (.baload, 1)) (hj : ¬ j < 0) (hi : j.toNatClampNeg = i) (hin : i < n) (hv : f i = x) (k : own_E p e below P (T.setTop (mkF m (pc + 1) Ls (.int x :: rest)))) :
    own_E p e below P (T.setTop (mkF m pc Ls (.int j :: .ref a :: rest))) := by
  obtain ⟨cl, A, S, H⟩ := F
  subst hv
  exact own_s (X.baloadBooleans hx (j := j) (v := .int (f i)) (by rw [hT]; exact A.1) (State.isArrayOf_alike hZ.alike A.2.1) A.2.2 (own_ins S hj hi hin) (by rw [hi]; exact H i hin) (g := mkF m pc Ls (.int j :: .ref a :: rest)) rfl rfl hd) k
theorem own_ildJ (X : Stand p l e R s m args below meth c T locs cells slots) (hx : p.tables.exec = Jvm.exec) (hZ : Z.Warmed39 s.vm) (hT : T.heap = h) (F : own_JA Z h a n fJ) {pc i : Nat} {Ls : Array Slot} {rest : List Value} {j : Int32} {x : Int64} (hd : decode c.code pc = .ok (.laload, 1)) (hj : ¬ j < 0) (hi : j.toNatClampNeg = i) (hin : i < n) (hv : fJ i = x) (k : own_E p e below P (T.setTop (mkF m (pc + 1) Ls (.long x :: rest)))) :
    own_E p e below P (T.setTop (mkF m pc Ls (.int j :: .ref a :: rest))) := by
  obtain ⟨cl, A, S, H⟩ := F
  subst hv
  exact own_s (X.laload hx (j := j) (v := .long (fJ i)) (by rw [hT]; exact A.1) (State.isArrayOf_alike hZ.alike A.2.1) A.2.2 (own_ins S hj hi hin) (by rw [hi]; exact H i hin) (g := mkF m pc Ls (.int j :: .ref a :: rest)) rfl rfl hd) k
theorem own_stI (X : Stand p l e R s m args below meth c T locs cells slots) (hx : p.tables.exec = Jvm.exec) (hZ : Z.Warmed39 s.vm) (hT : T.heap = h) (F : own_IA Z h a .int n f) {pc i : Nat} {Ls : Array Slot} {rest : List Value} {j x : Int32} (hd : decode c.code pc = .ok (.iastore, 1)) (hj : ¬ j < 0) (hi : j.toNatClampNeg = i) (hin : i < n)
    (k : ∀ (T' : State) (h' : Heap), Stand p l e R s m args below meth c T' (locs ++ [⟨a, i⟩]) cells slots → T'.heap = h' → Wr h h' a i (.int x) → own_IA Z h' a .int n (own_set f i x) → own_E p e below P (T'.setTop (mkF m (pc + 1) Ls rest))) :
    own_E p e below P (T.setTop (mkF m pc Ls (.int x :: .int j :: .ref a :: rest))) := by
  obtain ⟨cl, A, S, H⟩ := F
  obtain ⟨T', h', X', e', W, st⟩ := stI X hx hZ hT A (j := j) (own_ins S hj hi hin) (g := mkF m pc Ls (.int x :: .int j :: .ref a :: rest)) rfl rfl hd
  subst hi
  exact own_s st (k T' h' X' e' W (own_setI W A S H))
theorem own_stB (X : Stand p l e R s m args below meth c T locs cells slots) (hx : p.tables.exec = Jvm.exec) (hZ : Z.Warmed39 s.vm) (hT : T.heap = h) (F : own_IA Z h a .byte n f) {pc i : Nat} {Ls : Array Slot} {rest : List Value} {j x : Int32} (hd : decode c.code pc = .ok (.bastore, 1)) (hj : ¬ j < 0) (hi : j.toNatClampNeg = i) (hin : i < n)
    (k : ∀ (T' : State) (h' : Heap), Stand p l e R s m args below meth c T' (locs ++ [⟨a, i⟩]) cells slots → T'.heap = h' → Wr h h' a i (.int (nar .byte x)) → own_IA Z h' a .byte n (own_set f i (nar .byte x)) → own_E p e below P (T'.setTop (mkF m (pc + 1) Ls rest))) :
    own_E p e below P (T.setTop (mkF m pc Ls (.int x :: .int j :: .ref a :: rest))) := by
  obtain ⟨cl, A, S, H⟩ := F
  obtain ⟨T', h', X', e', W, st⟩ := stB X hx hZ hT A (j := j) (own_ins S hj hi hin) (g := mkF m pc Ls (.int x :: .int j :: .ref a :: rest)) rfl rfl hd
  subst hi
  exact own_s st (k T' h' X' e' W (own_setI W A S H))
theorem own_stZ (X : Stand p l e R s m args below meth c T locs cells slots) (hx : p.tables.exec = Jvm.exec) (hZ : Z.Warmed39 s.vm) (hT : T.heap = h) (F : own_IA Z h a .boolean n f) {pc i : Nat} {Ls : Array Slot} {rest : List Value} {j x : Int32} (hd : decode c.code pc = .ok (.bastore, 1)) (hj : ¬ j < 0) (hi : j.toNatClampNeg = i) (hin : i < n)
    (k : ∀ (T' : State) (h' : Heap), Stand p l e R s m args below meth c T' (locs ++ [⟨a, i⟩]) cells slots → T'.heap = h' → Wr h h' a i (.int (nar .boolean x)) → own_IA Z h' a .boolean n (own_set f i (nar .boolean x)) → own_E p e below P (T'.setTop (mkF m (pc + 1) Ls rest))) :
    own_E p e below P (T.setTop (mkF m pc Ls (.int x :: .int j :: .ref a :: rest))) := by
  obtain ⟨cl, A, S, H⟩ := F
  obtain ⟨T', h', X', e', W, st⟩ := stZ X hx hZ hT A (j := j) (own_ins S hj hi hin) (g := mkF m pc Ls (.int x :: .int j :: .ref a :: rest)) rfl rfl hd
  subst hi
  exact own_s st (k T' h' X' e' W (own_setI W A S H))
theorem own_stJ (X : Stand p l e R s m args below meth c T locs cells slots) (hx : p.tables.exec = Jvm.exec) (hZ : Z.Warmed39 s.vm) (hT : T.heap = h) (F : own_JA Z h a n fJ) {pc i : Nat} {Ls : Array Slot} {rest : List Value} {j : Int32} {x : Int64} (hd : decode c.code pc = .ok (.lastore, 1)) (hj : ¬ j < 0) (hi : j.toNatClampNeg = i) (hin : i < n)
    (k : ∀ (T' : State) (h' : Heap), Stand p l e R s m args below meth c T' (locs ++ [⟨a, i⟩]) cells slots → T'.heap = h' → Wr h h' a i (.long x) → own_JA Z h' a n (own_set fJ i x) → own_E p e below P (T'.setTop (mkF m (pc + 1) Ls rest))) :
    own_E p e below P (T.setTop (mkF m pc Ls (.long x :: .int j :: .ref a :: rest))) := by
  obtain ⟨cl, A, S, H⟩ := F
  obtain ⟨T', h', X', e', W, st⟩ := stJ X hx hZ hT A (j := j) (own_ins S hj hi hin) (g := mkF m pc Ls (.long x :: .int j :: .ref a :: rest)) rfl rfl hd
  subst hi
  exact own_s st (k T' h' X' e' W (own_setJ W A S H))
theorem own_fr {k : Nat} {L : List Loc} {i : Nat} (N : Fr k L) (g : k ≤ a) : Fr k (L ++ [⟨a, i⟩]) := N.app fun y hy => by cases List.mem_singleton.mp hy; exact g
/-! longs compared -/
theorem own_lcT {x y : Int64} (q : x = y) : lcmpW x y = 0 := (lw_eq x y).mpr q
theorem own_lcF {x y : Int64} (q : ¬ x = y) : ¬ lcmpW x y = 0 := fun r => q ((lw_eq x y).mp r)
theorem own_llT {x y : Int64} (q : x < y) : lcmpW x y < 0 := (lw_lt x y).mpr q
theorem own_llF {x y : Int64} (q : ¬ x < y) : ¬ lcmpW x y < 0 := fun r => q ((lw_lt x y).mp r)
theorem own_lgT {x y : Int64} (q : y < x) : 0 < lcmpW x y := (lw_gt x y).mpr q
theorem own_lgF {x y : Int64} (q : ¬ y < x) : ¬ 0 < lcmpW x y := fun r => q ((lw_gt x y).mp r)
end Own

def own_enc (x b : Int32) : Int32 := (2 * x) + (if b = 0 then 1 else 0)
def own_ato (x : Int32) : Int32 := x >>> ((1 : Int32) &&& 31)
def own_pla (x : Int32) : Int32 := if (x &&& 1) = 0 then 1 else 0

theorem own_bit (x : Int32) : (x &&& 1) = Int32.ofNat (x.toBitVec.toNat % 2) := by
  apply Int32.toBitVec_inj.mp
  apply BitVec.eq_of_toNat_eq
  rw [Int32.toBitVec_and, BitVec.toNat_and]
  show x.toBitVec.toNat &&& 1 = (BitVec.ofNat 32 _).toNat
  rw [BitVec.toNat_ofNat, Nat.and_one_is_mod]; omega
theorem own_ato_i (x : Int32) : (own_ato x).toInt = x.toInt / 2 := by
  unfold own_ato
  rw [show ((1 : Int32) &&& 31) = 1 from by decide]
  show (x >>> 1).toBitVec.toInt = x.toBitVec.toInt / 2
  rw [Int32.toBitVec_shiftRight]
  simp [BitVec.toInt_sshiftRight]
  rw [Int.shiftRight_eq_div_pow]; rfl
theorem own_encn (x b : Int32) : (own_enc x b).toBitVec.toNat % 2 = if b = 0 then 1 else 0 := by
  unfold own_enc
  by_cases q : b = 0
  · rw [if_pos q, if_pos q, Int32.toBitVec_add, Int32.toBitVec_mul, BitVec.toNat_add, BitVec.toNat_mul]
    show ((2 * x.toBitVec.toNat) % 2 ^ 32 + 1) % 2 ^ 32 % 2 = 1
    omega
  · rw [if_neg q, if_neg q, Int32.toBitVec_add, Int32.toBitVec_mul, BitVec.toNat_add, BitVec.toNat_mul]
    show ((2 * x.toBitVec.toNat) % 2 ^ 32 + 0) % 2 ^ 32 % 2 = 0
    omega
theorem own_f2 (x : Int32) : own_pla (own_enc x 1) = 1 := by
  unfold own_pla
  rw [own_bit, own_encn]; decide
theorem own_f3 (x : Int32) : own_pla (own_enc x 0) = 0 := by
  unfold own_pla
  rw [own_bit, own_encn]; decide
theorem own_par (x : Int32) : x.toInt % 2 = (x.toBitVec.toNat % 2 : Nat) := by
  show x.toBitVec.toInt % 2 = _
  rw [BitVec.toInt_eq_toNat_cond]
  split <;> omega
theorem own_rem (x : Int32) : (x % 2 = 0) ↔ x.toBitVec.toNat % 2 = 0 := by
  rw [← Int32.toInt_inj, Int32.toInt_mod]
  have := own_par x
  show x.toInt.tmod 2 = 0 ↔ _
  rw [Int.tmod_eq_emod]
  split <;> simp <;> omega
theorem own_g1 (x : Int32) (h : x % 2 = 0) : own_pla x = 1 := by
  unfold own_pla
  rw [own_bit, (own_rem x).mp h]; decide
theorem own_g2 (x : Int32) (h : ¬ x % 2 = 0) : own_pla x = 0 := by
  unfold own_pla
  rw [own_rem] at h
  rw [own_bit, show x.toBitVec.toNat % 2 = 1 from by omega]; decide
theorem own_plai (x : Int32) : own_pla x = if x.toBitVec.toNat % 2 = 0 then 1 else 0 := by
  unfold own_pla
  rw [own_bit]
  rcases Nat.mod_two_eq_zero_or_one x.toBitVec.toNat with q | q <;> rw [q] <;> decide
theorem own_g3 (x : Int32) (h : own_pla x = 1) : (2 * own_ato x) + 0 = x := by
  rw [own_plai] at h
  have hp := own_par x
  have h1 := own_ato_i x
  have h2 := Int32.le_toInt x
  have h3 := Int32.toInt_lt x
  have h4 : x.toBitVec.toNat % 2 = 0 := by
    by_cases q : x.toBitVec.toNat % 2 = 0
    · exact q
    · rw [if_neg q] at h; exact absurd h (by decide)
  apply Int32.toInt_inj.mp
  rw [Int32.toInt_add, Int32.toInt_mul, show (2 : Int32).toInt = 2 from rfl, show (0 : Int32).toInt = 0 from rfl]
  simp only [Int.bmod_def]; omega
theorem own_g4 (x : Int32) (h : own_pla x = 0) : (2 * own_ato x) + 1 = x := by
  rw [own_plai] at h
  have hp := own_par x
  have h1 := own_ato_i x
  have h2 := Int32.le_toInt x
  have h3 := Int32.toInt_lt x
  have h4 : x.toBitVec.toNat % 2 = 1 := by
    by_cases q : x.toBitVec.toNat % 2 = 0
    · rw [if_pos q] at h; exact absurd h (by decide)
    · omega
  apply Int32.toInt_inj.mp
  rw [Int32.toInt_add, Int32.toInt_mul, show (2 : Int32).toInt = 2 from rfl, show (1 : Int32).toInt = 1 from rfl]
  simp only [Int.bmod_def]; omega
theorem own_pn0 : plainName "com/example/conclude/conclude/GroundClause" = true := by first | (simp [plainName, overriddenIn]; done) | decide +kernel
theorem od_19_2_0 : decode prog_19_method_2_code 0 = .ok (.iconst 2, 1) := by decide +kernel
theorem od_19_2_1 : decode prog_19_method_2_code 1 = .ok (.iload_n 0, 1) := by decide +kernel
theorem od_19_2_2 : decode prog_19_method_2_code 2 = .ok (.imul, 1) := by decide +kernel
theorem od_19_2_3 : decode prog_19_method_2_code 3 = .ok (.iload_n 1, 1) := by decide +kernel
theorem od_19_2_4 : decode prog_19_method_2_code 4 = .ok (.ifCond .eq 7, 3) := by decide +kernel
theorem od_19_2_11 : decode prog_19_method_2_code 11 = .ok (.iconst 1, 1) := by decide +kernel
theorem od_19_2_12 : decode prog_19_method_2_code 12 = .ok (.iadd, 1) := by decide +kernel
theorem od_19_2_13 : decode prog_19_method_2_code 13 = .ok (.ireturn, 1) := by decide +kernel
theorem od_19_2_7 : decode prog_19_method_2_code 7 = .ok (.iconst 0, 1) := by decide +kernel
theorem od_19_2_8 : decode prog_19_method_2_code 8 = .ok (.goto 4, 3) := by decide +kernel
set_option maxRecDepth 65536 in
set_option maxHeartbeats 40000000 in
theorem own_c_enc (l : Launch) (Z : State) (a0 : Array Value) (hw : ∀ d ∈ tables_1, d.before a0 Z = true) (x0 : Int32) (x1 : Int32) (h0 : Heap) :
    own_Con l Z (⟨"com/example/conclude/conclude/GroundClause", "encode", "(IZ)I"⟩ : MethodName) prog_19_method_2_code 2 (some .int) [] ({ frames := 0, cells := 0, slots := 0, locals := 0 } : Room) #[(.int x0), (.int x1)] h0 (fun v h L => v = some (.int (own_enc x0 x1)) ∧ L = [] ∧ h = h0) := by
  refine own_enter (plainFor_of_name own_pn0) ?_
  intro p e s m below meth c s₁ X0 e0 hx hZ hby hml hown hnm hret hlk
  refine own_cast (g' := (mkF m 0 #[.val (.int x0), .val (.int x1)] [])) (by first | (simp [entryFrame, mkF, argsToLocals, Value.category]; done) | rfl) ?_
  refine own_g (mkF m 1 #[.val (.int x0), .val (.int x1)] [(.int (2 : Int32))]) (fun _ kz => XS.iconst X0.here hx rfl (hb hby od_19_2_0) kz) ?_
  refine own_g (mkF m 2 #[.val (.int x0), .val (.int x1)] [(.int x0), (.int (2 : Int32))]) (fun _ kz => XS.iloadN X0.here hx rfl (hb hby od_19_2_1) rfl kz) ?_
  refine own_g (mkF m 3 #[.val (.int x0), .val (.int x1)] [(.int ((2 : Int32) * x0))]) (fun _ kz => XS.imul X0.here hx rfl (hb hby od_19_2_2) rfl kz) ?_
  refine own_g (mkF m 4 #[.val (.int x0), .val (.int x1)] [(.int x1), (.int ((2 : Int32) * x0))]) (fun _ kz => XS.iloadN X0.here hx rfl (hb hby od_19_2_3) rfl kz) ?_
  by_cases hz : x1 = (0 : Int32)
  · refine own_g (mkF m 11 #[.val (.int x0), .val (.int x1)] [(.int ((2 : Int32) * x0))]) (fun _ kz => XS.ifYes X0.here hx rfl (pc0 := 4) (pc' := 11) rfl (hb hby od_19_2_4) rfl ((if0 _ _).trans (teq hz).1) (by decide) (by decide) kz) ?_
    refine own_g (mkF m 12 #[.val (.int x0), .val (.int x1)] [(.int (1 : Int32)), (.int ((2 : Int32) * x0))]) (fun _ kz => XS.iconst X0.here hx rfl (hb hby od_19_2_11) kz) ?_
    refine own_g (mkF m 13 #[.val (.int x0), .val (.int x1)] [(.int (((2 : Int32) * x0) + (1 : Int32)))]) (fun _ kz => XS.iadd X0.here hx rfl (hb hby od_19_2_12) rfl kz) ?_
    exact own_retI X0 hx hret hlk (hb hby od_19_2_13) (by decide) (by decide) (by first | exact ⟨by simp [own_enc, hz], rfl, rfl⟩ | (rw [e0]; exact ⟨by simp [own_enc, hz], rfl, rfl⟩))
  · refine own_g (mkF m 7 #[.val (.int x0), .val (.int x1)] [(.int ((2 : Int32) * x0))]) (fun _ kz => XS.ifNo X0.here hx rfl (hb hby od_19_2_4) rfl ((if0 _ _).trans (feq hz).1) kz) ?_
    refine own_g (mkF m 8 #[.val (.int x0), .val (.int x1)] [(.int (0 : Int32)), (.int ((2 : Int32) * x0))]) (fun _ kz => XS.iconst X0.here hx rfl (hb hby od_19_2_7) kz) ?_
    refine own_g (mkF m 12 #[.val (.int x0), .val (.int x1)] [(.int (0 : Int32)), (.int ((2 : Int32) * x0))]) (fun _ kz => XS.goto X0.here hx rfl (pc0 := 8) (pc' := 12) rfl (hb hby od_19_2_8) (by decide) (by decide) kz) ?_
    refine own_g (mkF m 13 #[.val (.int x0), .val (.int x1)] [(.int (((2 : Int32) * x0) + (0 : Int32)))]) (fun _ kz => XS.iadd X0.here hx rfl (hb hby od_19_2_12) rfl kz) ?_
    exact own_retI X0 hx hret hlk (hb hby od_19_2_13) (by decide) (by decide) (by first | exact ⟨by simp [own_enc, hz], rfl, rfl⟩ | (rw [e0]; exact ⟨by simp [own_enc, hz], rfl, rfl⟩))
theorem od_19_3_0 : decode prog_19_method_3_code 0 = .ok (.iload_n 0, 1) := by decide +kernel
theorem od_19_3_1 : decode prog_19_method_3_code 1 = .ok (.iconst 1, 1) := by decide +kernel
theorem od_19_3_2 : decode prog_19_method_3_code 2 = .ok (.ishr, 1) := by decide +kernel
theorem od_19_3_3 : decode prog_19_method_3_code 3 = .ok (.ireturn, 1) := by decide +kernel
set_option maxRecDepth 65536 in
set_option maxHeartbeats 40000000 in
theorem own_c_ato (l : Launch) (Z : State) (a0 : Array Value) (hw : ∀ d ∈ tables_1, d.before a0 Z = true) (x0 : Int32) (h0 : Heap) :
    own_Con l Z (⟨"com/example/conclude/conclude/GroundClause", "atomOf", "(I)I"⟩ : MethodName) prog_19_method_3_code 1 (some .int) [] ({ frames := 0, cells := 0, slots := 0, locals := 0 } : Room) #[(.int x0)] h0 (fun v h L => v = some (.int (own_ato x0)) ∧ L = [] ∧ h = h0) := by
  refine own_enter (plainFor_of_name own_pn0) ?_
  intro p e s m below meth c s₁ X0 e0 hx hZ hby hml hown hnm hret hlk
  refine own_cast (g' := (mkF m 0 #[.val (.int x0)] [])) (by first | (simp [entryFrame, mkF, argsToLocals, Value.category]; done) | rfl) ?_
  refine own_g (mkF m 1 #[.val (.int x0)] [(.int x0)]) (fun _ kz => XS.iloadN X0.here hx rfl (hb hby od_19_3_0) rfl kz) ?_
  refine own_g (mkF m 2 #[.val (.int x0)] [(.int (1 : Int32)), (.int x0)]) (fun _ kz => XS.iconst X0.here hx rfl (hb hby od_19_3_1) kz) ?_
  refine own_g (mkF m 3 #[.val (.int x0)] [(.int (x0 >>> ((1 : Int32) &&& 31)))]) (fun _ kz => XS.ishr X0.here hx rfl (hb hby od_19_3_2) rfl kz) ?_
  exact own_retI X0 hx hret hlk (hb hby od_19_3_3) (by decide) (by decide) (by first | exact ⟨rfl, rfl, rfl⟩ | (rw [e0]; exact ⟨rfl, rfl, rfl⟩))
theorem od_19_4_0 : decode prog_19_method_4_code 0 = .ok (.iload_n 0, 1) := by decide +kernel
theorem od_19_4_1 : decode prog_19_method_4_code 1 = .ok (.iconst 1, 1) := by decide +kernel
theorem od_19_4_2 : decode prog_19_method_4_code 2 = .ok (.iand, 1) := by decide +kernel
theorem od_19_4_3 : decode prog_19_method_4_code 3 = .ok (.ifCond .ne 7, 3) := by decide +kernel
theorem od_19_4_6 : decode prog_19_method_4_code 6 = .ok (.iconst 1, 1) := by decide +kernel
theorem od_19_4_7 : decode prog_19_method_4_code 7 = .ok (.goto 4, 3) := by decide +kernel
theorem od_19_4_11 : decode prog_19_method_4_code 11 = .ok (.ireturn, 1) := by decide +kernel
theorem od_19_4_10 : decode prog_19_method_4_code 10 = .ok (.iconst 0, 1) := by decide +kernel
set_option maxRecDepth 65536 in
set_option maxHeartbeats 40000000 in
theorem own_c_pla (l : Launch) (Z : State) (a0 : Array Value) (hw : ∀ d ∈ tables_1, d.before a0 Z = true) (x0 : Int32) (h0 : Heap) :
    own_Con l Z (⟨"com/example/conclude/conclude/GroundClause", "isPlain", "(I)Z"⟩ : MethodName) prog_19_method_4_code 1 (some .boolean) [] ({ frames := 0, cells := 0, slots := 0, locals := 0 } : Room) #[(.int x0)] h0 (fun v h L => v = some (.int (own_pla x0)) ∧ L = [] ∧ h = h0) := by
  refine own_enter (plainFor_of_name own_pn0) ?_
  intro p e s m below meth c s₁ X0 e0 hx hZ hby hml hown hnm hret hlk
  refine own_cast (g' := (mkF m 0 #[.val (.int x0)] [])) (by first | (simp [entryFrame, mkF, argsToLocals, Value.category]; done) | rfl) ?_
  refine own_g (mkF m 1 #[.val (.int x0)] [(.int x0)]) (fun _ kz => XS.iloadN X0.here hx rfl (hb hby od_19_4_0) rfl kz) ?_
  refine own_g (mkF m 2 #[.val (.int x0)] [(.int (1 : Int32)), (.int x0)]) (fun _ kz => XS.iconst X0.here hx rfl (hb hby od_19_4_1) kz) ?_
  refine own_g (mkF m 3 #[.val (.int x0)] [(.int (x0 &&& (1 : Int32)))]) (fun _ kz => XS.iand X0.here hx rfl (hb hby od_19_4_2) rfl kz) ?_
  by_cases hz : (x0 &&& (1 : Int32)) = (0 : Int32)
  · refine own_g (mkF m 6 #[.val (.int x0)] []) (fun _ kz => XS.ifNo X0.here hx rfl (hb hby od_19_4_3) rfl ((if0 _ _).trans (teq hz).2) kz) ?_
    refine own_g (mkF m 7 #[.val (.int x0)] [(.int (1 : Int32))]) (fun _ kz => XS.iconst X0.here hx rfl (hb hby od_19_4_6) kz) ?_
    refine own_g (mkF m 11 #[.val (.int x0)] [(.int (1 : Int32))]) (fun _ kz => XS.goto X0.here hx rfl (pc0 := 7) (pc' := 11) rfl (hb hby od_19_4_7) (by decide) (by decide) kz) ?_
    exact own_retZ X0 hx hret hlk (hb hby od_19_4_11) rfl (by decide) (by decide) (by first | exact ⟨by simp [own_pla, hz], rfl, rfl⟩ | (rw [e0]; exact ⟨by simp [own_pla, hz], rfl, rfl⟩))
  · refine own_g (mkF m 10 #[.val (.int x0)] []) (fun _ kz => XS.ifYes X0.here hx rfl (pc0 := 3) (pc' := 10) rfl (hb hby od_19_4_3) rfl ((if0 _ _).trans (feq hz).2) (by decide) (by decide) kz) ?_
    refine own_g (mkF m 11 #[.val (.int x0)] [(.int (0 : Int32))]) (fun _ kz => XS.iconst X0.here hx rfl (hb hby od_19_4_10) kz) ?_
    exact own_retZ X0 hx hret hlk (hb hby od_19_4_11) rfl (by decide) (by decide) (by first | exact ⟨by simp [own_pla, hz], rfl, rfl⟩ | (rw [e0]; exact ⟨by simp [own_pla, hz], rfl, rfl⟩))
theorem own_pn1 : plainName "com/example/conclude/conclude/GroundClauseIsPlainPinLaw" = true := by first | (simp [plainName, overriddenIn]; done) | decide +kernel
theorem own_pd0 : parseMethodDescriptor "(I)Z" = some ⟨[.int], some .boolean⟩ := by decide +kernel
theorem own_pd1 : parseMethodDescriptor "(I)I" = some ⟨[.int], some .int⟩ := by decide +kernel
theorem own_pd2 : parseMethodDescriptor "(IZ)I" = some ⟨[.int, .boolean], some .int⟩ := by decide +kernel
set_option maxRecDepth 65536 in
set_option maxHeartbeats 40000000 in
theorem own_c_law (l : Launch) (Z : State) (a0 : Array Value) (hw : ∀ d ∈ tables_1, d.before a0 Z = true) (x0 : Int32) (x1 : Int32) (x2 : Int32) (h0 : Heap) (n0 : Nat) (Z0 : n0 ≤ h0.size) :
    own_Con l Z x code maxLocals ret tables_1 room_1 #[(.int x0), (.int x1), (.int x2)] h0 (fun v h L => v = some (.int 1) ∧ Fr n0 L) := by
  refine own_enter (plainFor_of_name own_pn1) ?_
  intro p e s m below meth c s₁ X0 e0 hx hZ hby hml hown hnm hret hlk
  refine own_cast (g' := (mkF m 0 #[.val (.int x0), .val (.int x1), .val (.int x2), .unset, .unset, .unset, .unset, .unset] [])) (by first | (simp [entryFrame, mkF, argsToLocals, Value.category, maxLocals]; done) | rfl) ?_
  have N0 := Fr.nil n0
  refine own_g (mkF m 1 #[.val (.int x0), .val (.int x1), .val (.int x2), .unset, .unset, .unset, .unset, .unset] [(.int x2)]) (fun _ kz => XS.iloadN X0.here hx rfl (hb hby at_0) rfl kz) ?_
  refine own_g (mkF m 2 #[.val (.int x0), .val (.int x1), .val (.int x2), .unset, .unset, .unset, .unset, .unset] [(.int (1 : Int32)), (.int x2)]) (fun _ kz => XS.iconst X0.here hx rfl (hb hby at_1) kz) ?_
  refine own_g (mkF m 3 #[.val (.int x0), .val (.int x1), .val (.int x2), .unset, .unset, .unset, .unset, .unset] [(.int (x2 &&& (1 : Int32)))]) (fun _ kz => XS.iand X0.here hx rfl (hb hby at_2) rfl kz) ?_
  by_cases hz : (x2 &&& (1 : Int32)) = (0 : Int32)
  · refine own_g (mkF m 10 #[.val (.int x0), .val (.int x1), .val (.int x2), .unset, .unset, .unset, .unset, .unset] []) (fun _ kz => XS.ifYes X0.here hx rfl (pc0 := 3) (pc' := 10) rfl (hb hby at_3) rfl ((if0 _ _).trans (teq hz).1) (by decide) (by decide) kz) ?_
    refine own_g (mkF m 11 #[.val (.int x0), .val (.int x1), .val (.int x2), .unset, .unset, .unset, .unset, .unset] [(.int (0 : Int32))]) (fun _ kz => XS.iconst X0.here hx rfl (hb hby at_10) kz) ?_
    refine own_g (mkF m 12 #[.val (.int x0), .val (.int x1), .val (.int x2), .val (.int (0 : Int32)), .unset, .unset, .unset, .unset] []) (fun _ kz => XS.istoreN X0.here hx rfl (hb hby at_11) rfl (l' := #[.val (.int x0), .val (.int x1), .val (.int x2), .val (.int (0 : Int32)), .unset, .unset, .unset, .unset]) rfl kz) ?_
    refine own_g (mkF m 13 #[.val (.int x0), .val (.int x1), .val (.int x2), .val (.int (0 : Int32)), .unset, .unset, .unset, .unset] [(.int x0)]) (fun _ kz => XS.iloadN X0.here hx rfl (hb hby at_12) rfl kz) ?_
    refine own_callS (rest := []) (as := [(.int x0)]) X0 hx hZ hown e0 (own_c_pla l Z a0 hw x0 h0) (own_w hw 0 rfl) (own_w hw 1 rfl) (own_w hw 2 rfl) (own_w hw 3 rfl) (by decide) own_pd0 rfl (by rw [hml]; rfl) rfl (hb hby at_13) 0 (by show 2 * 0 + _ ≤ _; exact Nat.le_of_eq rfl) (by decide) (by decide) (by decide) (by decide) ?_
    rintro _ T7 L7 X7 ⟨rfl, rfl, e7⟩
    have N7 := Fr.app N0 (Fr.nil n0)
    show own_E p e below _ (T7.setTop (mkF m 16 #[.val (.int x0), .val (.int x1), .val (.int x2), .val (.int (0 : Int32)), .unset, .unset, .unset, .unset] [(.int (own_pla x0))]))
    refine own_g (mkF m 18 #[.val (.int x0), .val (.int x1), .val (.int x2), .val (.int (0 : Int32)), .val (.int (own_pla x0)), .unset, .unset, .unset] []) (fun _ kz => XS.istore X7.here hx rfl (hb hby at_16) rfl (l' := #[.val (.int x0), .val (.int x1), .val (.int x2), .val (.int (0 : Int32)), .val (.int (own_pla x0)), .unset, .unset, .unset]) rfl kz) ?_
    refine own_g (mkF m 19 #[.val (.int x0), .val (.int x1), .val (.int x2), .val (.int (0 : Int32)), .val (.int (own_pla x0)), .unset, .unset, .unset] [(.int x0)]) (fun _ kz => XS.iloadN X7.here hx rfl (hb hby at_18) rfl kz) ?_
    refine own_g (mkF m 20 #[.val (.int x0), .val (.int x1), .val (.int x2), .val (.int (0 : Int32)), .val (.int (own_pla x0)), .unset, .unset, .unset] [(.int (2 : Int32)), (.int x0)]) (fun _ kz => XS.iconst X7.here hx rfl (hb hby at_19) kz) ?_
    refine own_g (mkF m 21 #[.val (.int x0), .val (.int x1), .val (.int x2), .val (.int (0 : Int32)), .val (.int (own_pla x0)), .unset, .unset, .unset] [(.int (x0 % (2 : Int32)))]) (fun _ kz => iremM X7 hx rfl (hb hby at_20) rfl (by decide) kz) ?_
    by_cases he : (x0 % (2 : Int32)) = (0 : Int32)
    · refine own_g (mkF m 24 #[.val (.int x0), .val (.int x1), .val (.int x2), .val (.int (0 : Int32)), .val (.int (own_pla x0)), .unset, .unset, .unset] []) (fun _ kz => XS.ifNo X7.here hx rfl (hb hby at_21) rfl ((if0 _ _).trans (teq he).2) kz) ?_
      have hp := own_g1 _ he
      rw [hp]
      show own_E p e below _ (T7.setTop (mkF m 24 #[.val (.int x0), .val (.int x1), .val (.int x2), .val (.int (0 : Int32)), .val (.int (1 : Int32)), .unset, .unset, .unset] []))
      refine own_g (mkF m 25 #[.val (.int x0), .val (.int x1), .val (.int x2), .val (.int (0 : Int32)), .val (.int (1 : Int32)), .unset, .unset, .unset] [(.int (1 : Int32))]) (fun _ kz => XS.iconst X7.here hx rfl (hb hby at_24) kz) ?_
      refine own_g (mkF m 29 #[.val (.int x0), .val (.int x1), .val (.int x2), .val (.int (0 : Int32)), .val (.int (1 : Int32)), .unset, .unset, .unset] [(.int (1 : Int32))]) (fun _ kz => XS.goto X7.here hx rfl (pc0 := 25) (pc' := 29) rfl (hb hby at_25) (by decide) (by decide) kz) ?_
      refine own_g (mkF m 31 #[.val (.int x0), .val (.int x1), .val (.int x2), .val (.int (0 : Int32)), .val (.int (1 : Int32)), .val (.int (1 : Int32)), .unset, .unset] []) (fun _ kz => XS.istore X7.here hx rfl (hb hby at_29) rfl (l' := #[.val (.int x0), .val (.int x1), .val (.int x2), .val (.int (0 : Int32)), .val (.int (1 : Int32)), .val (.int (1 : Int32)), .unset, .unset]) rfl kz) ?_
      refine own_g (mkF m 33 #[.val (.int x0), .val (.int x1), .val (.int x2), .val (.int (0 : Int32)), .val (.int (1 : Int32)), .val (.int (1 : Int32)), .unset, .unset] [(.int (1 : Int32))]) (fun _ kz => XS.iload X7.here hx rfl (hb hby at_31) rfl kz) ?_
      refine own_g (mkF m 35 #[.val (.int x0), .val (.int x1), .val (.int x2), .val (.int (0 : Int32)), .val (.int (1 : Int32)), .val (.int (1 : Int32)), .unset, .unset] [(.int (1 : Int32)), (.int (1 : Int32))]) (fun _ kz => XS.iload X7.here hx rfl (hb hby at_33) rfl kz) ?_
      refine own_g (mkF m 40 #[.val (.int x0), .val (.int x1), .val (.int x2), .val (.int (0 : Int32)), .val (.int (1 : Int32)), .val (.int (1 : Int32)), .unset, .unset] []) (fun _ kz => XS.icmpYes X7.here hx rfl (pc0 := 35) (pc' := 40) rfl (hb hby at_35) rfl (teq (by decide)).1 (by decide) (by decide) kz) ?_
      refine own_g (mkF m 41 #[.val (.int x0), .val (.int x1), .val (.int x2), .val (.int (0 : Int32)), .val (.int (1 : Int32)), .val (.int (1 : Int32)), .unset, .unset] [(.int (2 : Int32))]) (fun _ kz => XS.iconst X7.here hx rfl (hb hby at_40) kz) ?_
      refine own_g (mkF m 42 #[.val (.int x0), .val (.int x1), .val (.int x2), .val (.int (0 : Int32)), .val (.int (1 : Int32)), .val (.int (1 : Int32)), .unset, .unset] [(.int x0), (.int (2 : Int32))]) (fun _ kz => XS.iloadN X7.here hx rfl (hb hby at_41) rfl kz) ?_
      refine own_callS (rest := [(.int (2 : Int32))]) (as := [(.int x0)]) X7 hx hZ hown e7 (own_c_ato l Z a0 hw x0 h0) (own_w hw 4 rfl) (own_w hw 5 rfl) (own_w hw 2 rfl) (own_w hw 6 rfl) (by decide) own_pd1 rfl (by rw [hml]; rfl) rfl (hb hby at_42) 1 (by show 2 * 0 + _ ≤ _; exact Nat.le_of_eq rfl) (by decide) (by decide) (by decide) (by decide) ?_
      rintro _ T8 L8 X8 ⟨rfl, rfl, e8⟩
      have N8 := Fr.app N7 (Fr.nil n0)
      show own_E p e below _ (T8.setTop (mkF m 45 #[.val (.int x0), .val (.int x1), .val (.int x2), .val (.int (0 : Int32)), .val (.int (1 : Int32)), .val (.int (1 : Int32)), .unset, .unset] [(.int (own_ato x0)), (.int (2 : Int32))]))
      refine own_g (mkF m 46 #[.val (.int x0), .val (.int x1), .val (.int x2), .val (.int (0 : Int32)), .val (.int (1 : Int32)), .val (.int (1 : Int32)), .unset, .unset] [(.int ((2 : Int32) * (own_ato x0)))]) (fun _ kz => XS.imul X8.here hx rfl (hb hby at_45) rfl kz) ?_
      refine own_g (mkF m 48 #[.val (.int x0), .val (.int x1), .val (.int x2), .val (.int (0 : Int32)), .val (.int (1 : Int32)), .val (.int (1 : Int32)), .unset, .unset] [(.int (1 : Int32)), (.int ((2 : Int32) * (own_ato x0)))]) (fun _ kz => XS.iload X8.here hx rfl (hb hby at_46) rfl kz) ?_
      refine own_g (mkF m 51 #[.val (.int x0), .val (.int x1), .val (.int x2), .val (.int (0 : Int32)), .val (.int (1 : Int32)), .val (.int (1 : Int32)), .unset, .unset] [(.int ((2 : Int32) * (own_ato x0)))]) (fun _ kz => XS.ifNo X8.here hx rfl (hb hby at_48) rfl ((if0 _ _).trans (feq (by decide)).1) kz) ?_
      refine own_g (mkF m 52 #[.val (.int x0), .val (.int x1), .val (.int x2), .val (.int (0 : Int32)), .val (.int (1 : Int32)), .val (.int (1 : Int32)), .unset, .unset] [(.int (0 : Int32)), (.int ((2 : Int32) * (own_ato x0)))]) (fun _ kz => XS.iconst X8.here hx rfl (hb hby at_51) kz) ?_
      refine own_g (mkF m 56 #[.val (.int x0), .val (.int x1), .val (.int x2), .val (.int (0 : Int32)), .val (.int (1 : Int32)), .val (.int (1 : Int32)), .unset, .unset] [(.int (0 : Int32)), (.int ((2 : Int32) * (own_ato x0)))]) (fun _ kz => XS.goto X8.here hx rfl (pc0 := 52) (pc' := 56) rfl (hb hby at_52) (by decide) (by decide) kz) ?_
      refine own_g (mkF m 57 #[.val (.int x0), .val (.int x1), .val (.int x2), .val (.int (0 : Int32)), .val (.int (1 : Int32)), .val (.int (1 : Int32)), .unset, .unset] [(.int (((2 : Int32) * (own_ato x0)) + (0 : Int32)))]) (fun _ kz => XS.iadd X8.here hx rfl (hb hby at_56) rfl kz) ?_
      refine own_g (mkF m 59 #[.val (.int x0), .val (.int x1), .val (.int x2), .val (.int (0 : Int32)), .val (.int (1 : Int32)), .val (.int (1 : Int32)), .val (.int (((2 : Int32) * (own_ato x0)) + (0 : Int32))), .unset] []) (fun _ kz => XS.istore X8.here hx rfl (hb hby at_57) rfl (l' := #[.val (.int x0), .val (.int x1), .val (.int x2), .val (.int (0 : Int32)), .val (.int (1 : Int32)), .val (.int (1 : Int32)), .val (.int (((2 : Int32) * (own_ato x0)) + (0 : Int32))), .unset]) rfl kz) ?_
      refine own_g (mkF m 61 #[.val (.int x0), .val (.int x1), .val (.int x2), .val (.int (0 : Int32)), .val (.int (1 : Int32)), .val (.int (1 : Int32)), .val (.int (((2 : Int32) * (own_ato x0)) + (0 : Int32))), .unset] [(.int (((2 : Int32) * (own_ato x0)) + (0 : Int32)))]) (fun _ kz => XS.iload X8.here hx rfl (hb hby at_59) rfl kz) ?_
      refine own_g (mkF m 62 #[.val (.int x0), .val (.int x1), .val (.int x2), .val (.int (0 : Int32)), .val (.int (1 : Int32)), .val (.int (1 : Int32)), .val (.int (((2 : Int32) * (own_ato x0)) + (0 : Int32))), .unset] [(.int x0), (.int (((2 : Int32) * (own_ato x0)) + (0 : Int32)))]) (fun _ kz => XS.iloadN X8.here hx rfl (hb hby at_61) rfl kz) ?_
      refine own_g (mkF m 67 #[.val (.int x0), .val (.int x1), .val (.int x2), .val (.int (0 : Int32)), .val (.int (1 : Int32)), .val (.int (1 : Int32)), .val (.int (((2 : Int32) * (own_ato x0)) + (0 : Int32))), .unset] []) (fun _ kz => XS.icmpYes X8.here hx rfl (pc0 := 62) (pc' := 67) rfl (hb hby at_62) rfl (teq (own_g3 _ hp)).1 (by decide) (by decide) kz) ?_
      refine own_g (mkF m 68 #[.val (.int x0), .val (.int x1), .val (.int x2), .val (.int (0 : Int32)), .val (.int (1 : Int32)), .val (.int (1 : Int32)), .val (.int (((2 : Int32) * (own_ato x0)) + (0 : Int32))), .unset] [(.int x1)]) (fun _ kz => XS.iloadN X8.here hx rfl (hb hby at_67) rfl kz) ?_
      refine own_g (mkF m 69 #[.val (.int x0), .val (.int x1), .val (.int x2), .val (.int (0 : Int32)), .val (.int (1 : Int32)), .val (.int (1 : Int32)), .val (.int (((2 : Int32) * (own_ato x0)) + (0 : Int32))), .unset] [(.int (0 : Int32)), (.int x1)]) (fun _ kz => XS.iloadN X8.here hx rfl (hb hby at_68) rfl kz) ?_
      refine own_callS (rest := []) (as := [(.int x1), (.int (0 : Int32))]) X8 hx hZ hown e8 (own_c_enc l Z a0 hw x1 (0 : Int32) h0) (own_w hw 7 rfl) (own_w hw 8 rfl) (own_w hw 2 rfl) (own_w hw 9 rfl) (by decide) own_pd2 rfl (by rw [hml]; rfl) rfl (hb hby at_69) 0 (by show 2 * 0 + _ ≤ _; exact Nat.le_of_eq rfl) (by decide) (by decide) (by decide) (by decide) ?_
      rintro _ T9 L9 X9 ⟨rfl, rfl, e9⟩
      have N9 := Fr.app N8 (Fr.nil n0)
      show own_E p e below _ (T9.setTop (mkF m 72 #[.val (.int x0), .val (.int x1), .val (.int x2), .val (.int (0 : Int32)), .val (.int (1 : Int32)), .val (.int (1 : Int32)), .val (.int (((2 : Int32) * (own_ato x0)) + (0 : Int32))), .unset] [(.int (own_enc x1 (0 : Int32)))]))
      refine own_g (mkF m 74 #[.val (.int x0), .val (.int x1), .val (.int x2), .val (.int (0 : Int32)), .val (.int (1 : Int32)), .val (.int (1 : Int32)), .val (.int (((2 : Int32) * (own_ato x0)) + (0 : Int32))), .val (.int (own_enc x1 (0 : Int32)))] []) (fun _ kz => XS.istore X9.here hx rfl (hb hby at_72) rfl (l' := #[.val (.int x0), .val (.int x1), .val (.int x2), .val (.int (0 : Int32)), .val (.int (1 : Int32)), .val (.int (1 : Int32)), .val (.int (((2 : Int32) * (own_ato x0)) + (0 : Int32))), .val (.int (own_enc x1 (0 : Int32)))]) rfl kz) ?_
      refine own_g (mkF m 76 #[.val (.int x0), .val (.int x1), .val (.int x2), .val (.int (0 : Int32)), .val (.int (1 : Int32)), .val (.int (1 : Int32)), .val (.int (((2 : Int32) * (own_ato x0)) + (0 : Int32))), .val (.int (own_enc x1 (0 : Int32)))] [(.int (own_enc x1 (0 : Int32)))]) (fun _ kz => XS.iload X9.here hx rfl (hb hby at_74) rfl kz) ?_
      refine own_callS (rest := []) (as := [(.int (own_enc x1 (0 : Int32)))]) X9 hx hZ hown e9 (own_c_pla l Z a0 hw (own_enc x1 (0 : Int32)) h0) (own_w hw 0 rfl) (own_w hw 1 rfl) (own_w hw 2 rfl) (own_w hw 3 rfl) (by decide) own_pd0 rfl (by rw [hml]; rfl) rfl (hb hby at_76) 0 (by show 2 * 0 + _ ≤ _; exact Nat.le_of_eq rfl) (by decide) (by decide) (by decide) (by decide) ?_
      rintro _ T10 L10 X10 ⟨rfl, rfl, e10⟩
      have N10 := Fr.app N9 (Fr.nil n0)
      show own_E p e below _ (T10.setTop (mkF m 79 #[.val (.int x0), .val (.int x1), .val (.int x2), .val (.int (0 : Int32)), .val (.int (1 : Int32)), .val (.int (1 : Int32)), .val (.int (((2 : Int32) * (own_ato x0)) + (0 : Int32))), .val (.int (own_enc x1 (0 : Int32)))] [(.int (own_pla (own_enc x1 (0 : Int32))))]))
      refine own_g (mkF m 80 #[.val (.int x0), .val (.int x1), .val (.int x2), .val (.int (0 : Int32)), .val (.int (1 : Int32)), .val (.int (1 : Int32)), .val (.int (((2 : Int32) * (own_ato x0)) + (0 : Int32))), .val (.int (own_enc x1 (0 : Int32)))] [(.int (0 : Int32)), (.int (own_pla (own_enc x1 (0 : Int32))))]) (fun _ kz => XS.iloadN X10.here hx rfl (hb hby at_79) rfl kz) ?_
      refine own_g (mkF m 83 #[.val (.int x0), .val (.int x1), .val (.int x2), .val (.int (0 : Int32)), .val (.int (1 : Int32)), .val (.int (1 : Int32)), .val (.int (((2 : Int32) * (own_ato x0)) + (0 : Int32))), .val (.int (own_enc x1 (0 : Int32)))] []) (fun _ kz => XS.icmpNo X10.here hx rfl (hb hby at_80) rfl (teq (own_f3 _)).2 kz) ?_
      refine own_g (mkF m 84 #[.val (.int x0), .val (.int x1), .val (.int x2), .val (.int (0 : Int32)), .val (.int (1 : Int32)), .val (.int (1 : Int32)), .val (.int (((2 : Int32) * (own_ato x0)) + (0 : Int32))), .val (.int (own_enc x1 (0 : Int32)))] [(.int (1 : Int32))]) (fun _ kz => XS.iconst X10.here hx rfl (hb hby at_83) kz) ?_
      refine own_g (mkF m 88 #[.val (.int x0), .val (.int x1), .val (.int x2), .val (.int (0 : Int32)), .val (.int (1 : Int32)), .val (.int (1 : Int32)), .val (.int (((2 : Int32) * (own_ato x0)) + (0 : Int32))), .val (.int (own_enc x1 (0 : Int32)))] [(.int (1 : Int32))]) (fun _ kz => XS.goto X10.here hx rfl (pc0 := 84) (pc' := 88) rfl (hb hby at_84) (by decide) (by decide) kz) ?_
      exact own_retZ X10 hx hret hlk (hb hby at_88) rfl (by decide) (by decide) (by first | exact ⟨rfl, N10⟩ | (rw [e10]; exact ⟨rfl, N10⟩))
    · refine own_g (mkF m 28 #[.val (.int x0), .val (.int x1), .val (.int x2), .val (.int (0 : Int32)), .val (.int (own_pla x0)), .unset, .unset, .unset] []) (fun _ kz => XS.ifYes X7.here hx rfl (pc0 := 21) (pc' := 28) rfl (hb hby at_21) rfl ((if0 _ _).trans (feq he).2) (by decide) (by decide) kz) ?_
      have hp := own_g2 _ he
      rw [hp]
      show own_E p e below _ (T7.setTop (mkF m 28 #[.val (.int x0), .val (.int x1), .val (.int x2), .val (.int (0 : Int32)), .val (.int (0 : Int32)), .unset, .unset, .unset] []))
      refine own_g (mkF m 29 #[.val (.int x0), .val (.int x1), .val (.int x2), .val (.int (0 : Int32)), .val (.int (0 : Int32)), .unset, .unset, .unset] [(.int (0 : Int32))]) (fun _ kz => XS.iconst X7.here hx rfl (hb hby at_28) kz) ?_
      refine own_g (mkF m 31 #[.val (.int x0), .val (.int x1), .val (.int x2), .val (.int (0 : Int32)), .val (.int (0 : Int32)), .val (.int (0 : Int32)), .unset, .unset] []) (fun _ kz => XS.istore X7.here hx rfl (hb hby at_29) rfl (l' := #[.val (.int x0), .val (.int x1), .val (.int x2), .val (.int (0 : Int32)), .val (.int (0 : Int32)), .val (.int (0 : Int32)), .unset, .unset]) rfl kz) ?_
      refine own_g (mkF m 33 #[.val (.int x0), .val (.int x1), .val (.int x2), .val (.int (0 : Int32)), .val (.int (0 : Int32)), .val (.int (0 : Int32)), .unset, .unset] [(.int (0 : Int32))]) (fun _ kz => XS.iload X7.here hx rfl (hb hby at_31) rfl kz) ?_
      refine own_g (mkF m 35 #[.val (.int x0), .val (.int x1), .val (.int x2), .val (.int (0 : Int32)), .val (.int (0 : Int32)), .val (.int (0 : Int32)), .unset, .unset] [(.int (0 : Int32)), (.int (0 : Int32))]) (fun _ kz => XS.iload X7.here hx rfl (hb hby at_33) rfl kz) ?_
      refine own_g (mkF m 40 #[.val (.int x0), .val (.int x1), .val (.int x2), .val (.int (0 : Int32)), .val (.int (0 : Int32)), .val (.int (0 : Int32)), .unset, .unset] []) (fun _ kz => XS.icmpYes X7.here hx rfl (pc0 := 35) (pc' := 40) rfl (hb hby at_35) rfl (teq (by decide)).1 (by decide) (by decide) kz) ?_
      refine own_g (mkF m 41 #[.val (.int x0), .val (.int x1), .val (.int x2), .val (.int (0 : Int32)), .val (.int (0 : Int32)), .val (.int (0 : Int32)), .unset, .unset] [(.int (2 : Int32))]) (fun _ kz => XS.iconst X7.here hx rfl (hb hby at_40) kz) ?_
      refine own_g (mkF m 42 #[.val (.int x0), .val (.int x1), .val (.int x2), .val (.int (0 : Int32)), .val (.int (0 : Int32)), .val (.int (0 : Int32)), .unset, .unset] [(.int x0), (.int (2 : Int32))]) (fun _ kz => XS.iloadN X7.here hx rfl (hb hby at_41) rfl kz) ?_
      refine own_callS (rest := [(.int (2 : Int32))]) (as := [(.int x0)]) X7 hx hZ hown e7 (own_c_ato l Z a0 hw x0 h0) (own_w hw 4 rfl) (own_w hw 5 rfl) (own_w hw 2 rfl) (own_w hw 6 rfl) (by decide) own_pd1 rfl (by rw [hml]; rfl) rfl (hb hby at_42) 1 (by show 2 * 0 + _ ≤ _; exact Nat.le_of_eq rfl) (by decide) (by decide) (by decide) (by decide) ?_
      rintro _ T11 L11 X11 ⟨rfl, rfl, e11⟩
      have N11 := Fr.app N7 (Fr.nil n0)
      show own_E p e below _ (T11.setTop (mkF m 45 #[.val (.int x0), .val (.int x1), .val (.int x2), .val (.int (0 : Int32)), .val (.int (0 : Int32)), .val (.int (0 : Int32)), .unset, .unset] [(.int (own_ato x0)), (.int (2 : Int32))]))
      refine own_g (mkF m 46 #[.val (.int x0), .val (.int x1), .val (.int x2), .val (.int (0 : Int32)), .val (.int (0 : Int32)), .val (.int (0 : Int32)), .unset, .unset] [(.int ((2 : Int32) * (own_ato x0)))]) (fun _ kz => XS.imul X11.here hx rfl (hb hby at_45) rfl kz) ?_
      refine own_g (mkF m 48 #[.val (.int x0), .val (.int x1), .val (.int x2), .val (.int (0 : Int32)), .val (.int (0 : Int32)), .val (.int (0 : Int32)), .unset, .unset] [(.int (0 : Int32)), (.int ((2 : Int32) * (own_ato x0)))]) (fun _ kz => XS.iload X11.here hx rfl (hb hby at_46) rfl kz) ?_
      refine own_g (mkF m 55 #[.val (.int x0), .val (.int x1), .val (.int x2), .val (.int (0 : Int32)), .val (.int (0 : Int32)), .val (.int (0 : Int32)), .unset, .unset] [(.int ((2 : Int32) * (own_ato x0)))]) (fun _ kz => XS.ifYes X11.here hx rfl (pc0 := 48) (pc' := 55) rfl (hb hby at_48) rfl ((if0 _ _).trans (teq (by decide)).1) (by decide) (by decide) kz) ?_
      refine own_g (mkF m 56 #[.val (.int x0), .val (.int x1), .val (.int x2), .val (.int (0 : Int32)), .val (.int (0 : Int32)), .val (.int (0 : Int32)), .unset, .unset] [(.int (1 : Int32)), (.int ((2 : Int32) * (own_ato x0)))]) (fun _ kz => XS.iconst X11.here hx rfl (hb hby at_55) kz) ?_
      refine own_g (mkF m 57 #[.val (.int x0), .val (.int x1), .val (.int x2), .val (.int (0 : Int32)), .val (.int (0 : Int32)), .val (.int (0 : Int32)), .unset, .unset] [(.int (((2 : Int32) * (own_ato x0)) + (1 : Int32)))]) (fun _ kz => XS.iadd X11.here hx rfl (hb hby at_56) rfl kz) ?_
      refine own_g (mkF m 59 #[.val (.int x0), .val (.int x1), .val (.int x2), .val (.int (0 : Int32)), .val (.int (0 : Int32)), .val (.int (0 : Int32)), .val (.int (((2 : Int32) * (own_ato x0)) + (1 : Int32))), .unset] []) (fun _ kz => XS.istore X11.here hx rfl (hb hby at_57) rfl (l' := #[.val (.int x0), .val (.int x1), .val (.int x2), .val (.int (0 : Int32)), .val (.int (0 : Int32)), .val (.int (0 : Int32)), .val (.int (((2 : Int32) * (own_ato x0)) + (1 : Int32))), .unset]) rfl kz) ?_
      refine own_g (mkF m 61 #[.val (.int x0), .val (.int x1), .val (.int x2), .val (.int (0 : Int32)), .val (.int (0 : Int32)), .val (.int (0 : Int32)), .val (.int (((2 : Int32) * (own_ato x0)) + (1 : Int32))), .unset] [(.int (((2 : Int32) * (own_ato x0)) + (1 : Int32)))]) (fun _ kz => XS.iload X11.here hx rfl (hb hby at_59) rfl kz) ?_
      refine own_g (mkF m 62 #[.val (.int x0), .val (.int x1), .val (.int x2), .val (.int (0 : Int32)), .val (.int (0 : Int32)), .val (.int (0 : Int32)), .val (.int (((2 : Int32) * (own_ato x0)) + (1 : Int32))), .unset] [(.int x0), (.int (((2 : Int32) * (own_ato x0)) + (1 : Int32)))]) (fun _ kz => XS.iloadN X11.here hx rfl (hb hby at_61) rfl kz) ?_
      refine own_g (mkF m 67 #[.val (.int x0), .val (.int x1), .val (.int x2), .val (.int (0 : Int32)), .val (.int (0 : Int32)), .val (.int (0 : Int32)), .val (.int (((2 : Int32) * (own_ato x0)) + (1 : Int32))), .unset] []) (fun _ kz => XS.icmpYes X11.here hx rfl (pc0 := 62) (pc' := 67) rfl (hb hby at_62) rfl (teq (own_g4 _ hp)).1 (by decide) (by decide) kz) ?_
      refine own_g (mkF m 68 #[.val (.int x0), .val (.int x1), .val (.int x2), .val (.int (0 : Int32)), .val (.int (0 : Int32)), .val (.int (0 : Int32)), .val (.int (((2 : Int32) * (own_ato x0)) + (1 : Int32))), .unset] [(.int x1)]) (fun _ kz => XS.iloadN X11.here hx rfl (hb hby at_67) rfl kz) ?_
      refine own_g (mkF m 69 #[.val (.int x0), .val (.int x1), .val (.int x2), .val (.int (0 : Int32)), .val (.int (0 : Int32)), .val (.int (0 : Int32)), .val (.int (((2 : Int32) * (own_ato x0)) + (1 : Int32))), .unset] [(.int (0 : Int32)), (.int x1)]) (fun _ kz => XS.iloadN X11.here hx rfl (hb hby at_68) rfl kz) ?_
      refine own_callS (rest := []) (as := [(.int x1), (.int (0 : Int32))]) X11 hx hZ hown e11 (own_c_enc l Z a0 hw x1 (0 : Int32) h0) (own_w hw 7 rfl) (own_w hw 8 rfl) (own_w hw 2 rfl) (own_w hw 9 rfl) (by decide) own_pd2 rfl (by rw [hml]; rfl) rfl (hb hby at_69) 0 (by show 2 * 0 + _ ≤ _; exact Nat.le_of_eq rfl) (by decide) (by decide) (by decide) (by decide) ?_
      rintro _ T12 L12 X12 ⟨rfl, rfl, e12⟩
      have N12 := Fr.app N11 (Fr.nil n0)
      show own_E p e below _ (T12.setTop (mkF m 72 #[.val (.int x0), .val (.int x1), .val (.int x2), .val (.int (0 : Int32)), .val (.int (0 : Int32)), .val (.int (0 : Int32)), .val (.int (((2 : Int32) * (own_ato x0)) + (1 : Int32))), .unset] [(.int (own_enc x1 (0 : Int32)))]))
      refine own_g (mkF m 74 #[.val (.int x0), .val (.int x1), .val (.int x2), .val (.int (0 : Int32)), .val (.int (0 : Int32)), .val (.int (0 : Int32)), .val (.int (((2 : Int32) * (own_ato x0)) + (1 : Int32))), .val (.int (own_enc x1 (0 : Int32)))] []) (fun _ kz => XS.istore X12.here hx rfl (hb hby at_72) rfl (l' := #[.val (.int x0), .val (.int x1), .val (.int x2), .val (.int (0 : Int32)), .val (.int (0 : Int32)), .val (.int (0 : Int32)), .val (.int (((2 : Int32) * (own_ato x0)) + (1 : Int32))), .val (.int (own_enc x1 (0 : Int32)))]) rfl kz) ?_
      refine own_g (mkF m 76 #[.val (.int x0), .val (.int x1), .val (.int x2), .val (.int (0 : Int32)), .val (.int (0 : Int32)), .val (.int (0 : Int32)), .val (.int (((2 : Int32) * (own_ato x0)) + (1 : Int32))), .val (.int (own_enc x1 (0 : Int32)))] [(.int (own_enc x1 (0 : Int32)))]) (fun _ kz => XS.iload X12.here hx rfl (hb hby at_74) rfl kz) ?_
      refine own_callS (rest := []) (as := [(.int (own_enc x1 (0 : Int32)))]) X12 hx hZ hown e12 (own_c_pla l Z a0 hw (own_enc x1 (0 : Int32)) h0) (own_w hw 0 rfl) (own_w hw 1 rfl) (own_w hw 2 rfl) (own_w hw 3 rfl) (by decide) own_pd0 rfl (by rw [hml]; rfl) rfl (hb hby at_76) 0 (by show 2 * 0 + _ ≤ _; exact Nat.le_of_eq rfl) (by decide) (by decide) (by decide) (by decide) ?_
      rintro _ T13 L13 X13 ⟨rfl, rfl, e13⟩
      have N13 := Fr.app N12 (Fr.nil n0)
      show own_E p e below _ (T13.setTop (mkF m 79 #[.val (.int x0), .val (.int x1), .val (.int x2), .val (.int (0 : Int32)), .val (.int (0 : Int32)), .val (.int (0 : Int32)), .val (.int (((2 : Int32) * (own_ato x0)) + (1 : Int32))), .val (.int (own_enc x1 (0 : Int32)))] [(.int (own_pla (own_enc x1 (0 : Int32))))]))
      refine own_g (mkF m 80 #[.val (.int x0), .val (.int x1), .val (.int x2), .val (.int (0 : Int32)), .val (.int (0 : Int32)), .val (.int (0 : Int32)), .val (.int (((2 : Int32) * (own_ato x0)) + (1 : Int32))), .val (.int (own_enc x1 (0 : Int32)))] [(.int (0 : Int32)), (.int (own_pla (own_enc x1 (0 : Int32))))]) (fun _ kz => XS.iloadN X13.here hx rfl (hb hby at_79) rfl kz) ?_
      refine own_g (mkF m 83 #[.val (.int x0), .val (.int x1), .val (.int x2), .val (.int (0 : Int32)), .val (.int (0 : Int32)), .val (.int (0 : Int32)), .val (.int (((2 : Int32) * (own_ato x0)) + (1 : Int32))), .val (.int (own_enc x1 (0 : Int32)))] []) (fun _ kz => XS.icmpNo X13.here hx rfl (hb hby at_80) rfl (teq (own_f3 _)).2 kz) ?_
      refine own_g (mkF m 84 #[.val (.int x0), .val (.int x1), .val (.int x2), .val (.int (0 : Int32)), .val (.int (0 : Int32)), .val (.int (0 : Int32)), .val (.int (((2 : Int32) * (own_ato x0)) + (1 : Int32))), .val (.int (own_enc x1 (0 : Int32)))] [(.int (1 : Int32))]) (fun _ kz => XS.iconst X13.here hx rfl (hb hby at_83) kz) ?_
      refine own_g (mkF m 88 #[.val (.int x0), .val (.int x1), .val (.int x2), .val (.int (0 : Int32)), .val (.int (0 : Int32)), .val (.int (0 : Int32)), .val (.int (((2 : Int32) * (own_ato x0)) + (1 : Int32))), .val (.int (own_enc x1 (0 : Int32)))] [(.int (1 : Int32))]) (fun _ kz => XS.goto X13.here hx rfl (pc0 := 84) (pc' := 88) rfl (hb hby at_84) (by decide) (by decide) kz) ?_
      exact own_retZ X13 hx hret hlk (hb hby at_88) rfl (by decide) (by decide) (by first | exact ⟨rfl, N13⟩ | (rw [e13]; exact ⟨rfl, N13⟩))
  · refine own_g (mkF m 6 #[.val (.int x0), .val (.int x1), .val (.int x2), .unset, .unset, .unset, .unset, .unset] []) (fun _ kz => XS.ifNo X0.here hx rfl (hb hby at_3) rfl ((if0 _ _).trans (feq hz).1) kz) ?_
    refine own_g (mkF m 7 #[.val (.int x0), .val (.int x1), .val (.int x2), .unset, .unset, .unset, .unset, .unset] [(.int (1 : Int32))]) (fun _ kz => XS.iconst X0.here hx rfl (hb hby at_6) kz) ?_
    refine own_g (mkF m 11 #[.val (.int x0), .val (.int x1), .val (.int x2), .unset, .unset, .unset, .unset, .unset] [(.int (1 : Int32))]) (fun _ kz => XS.goto X0.here hx rfl (pc0 := 7) (pc' := 11) rfl (hb hby at_7) (by decide) (by decide) kz) ?_
    refine own_g (mkF m 12 #[.val (.int x0), .val (.int x1), .val (.int x2), .val (.int (1 : Int32)), .unset, .unset, .unset, .unset] []) (fun _ kz => XS.istoreN X0.here hx rfl (hb hby at_11) rfl (l' := #[.val (.int x0), .val (.int x1), .val (.int x2), .val (.int (1 : Int32)), .unset, .unset, .unset, .unset]) rfl kz) ?_
    refine own_g (mkF m 13 #[.val (.int x0), .val (.int x1), .val (.int x2), .val (.int (1 : Int32)), .unset, .unset, .unset, .unset] [(.int x0)]) (fun _ kz => XS.iloadN X0.here hx rfl (hb hby at_12) rfl kz) ?_
    refine own_callS (rest := []) (as := [(.int x0)]) X0 hx hZ hown e0 (own_c_pla l Z a0 hw x0 h0) (own_w hw 0 rfl) (own_w hw 1 rfl) (own_w hw 2 rfl) (own_w hw 3 rfl) (by decide) own_pd0 rfl (by rw [hml]; rfl) rfl (hb hby at_13) 0 (by show 2 * 0 + _ ≤ _; exact Nat.le_of_eq rfl) (by decide) (by decide) (by decide) (by decide) ?_
    rintro _ T14 L14 X14 ⟨rfl, rfl, e14⟩
    have N14 := Fr.app N0 (Fr.nil n0)
    show own_E p e below _ (T14.setTop (mkF m 16 #[.val (.int x0), .val (.int x1), .val (.int x2), .val (.int (1 : Int32)), .unset, .unset, .unset, .unset] [(.int (own_pla x0))]))
    refine own_g (mkF m 18 #[.val (.int x0), .val (.int x1), .val (.int x2), .val (.int (1 : Int32)), .val (.int (own_pla x0)), .unset, .unset, .unset] []) (fun _ kz => XS.istore X14.here hx rfl (hb hby at_16) rfl (l' := #[.val (.int x0), .val (.int x1), .val (.int x2), .val (.int (1 : Int32)), .val (.int (own_pla x0)), .unset, .unset, .unset]) rfl kz) ?_
    refine own_g (mkF m 19 #[.val (.int x0), .val (.int x1), .val (.int x2), .val (.int (1 : Int32)), .val (.int (own_pla x0)), .unset, .unset, .unset] [(.int x0)]) (fun _ kz => XS.iloadN X14.here hx rfl (hb hby at_18) rfl kz) ?_
    refine own_g (mkF m 20 #[.val (.int x0), .val (.int x1), .val (.int x2), .val (.int (1 : Int32)), .val (.int (own_pla x0)), .unset, .unset, .unset] [(.int (2 : Int32)), (.int x0)]) (fun _ kz => XS.iconst X14.here hx rfl (hb hby at_19) kz) ?_
    refine own_g (mkF m 21 #[.val (.int x0), .val (.int x1), .val (.int x2), .val (.int (1 : Int32)), .val (.int (own_pla x0)), .unset, .unset, .unset] [(.int (x0 % (2 : Int32)))]) (fun _ kz => iremM X14 hx rfl (hb hby at_20) rfl (by decide) kz) ?_
    by_cases he : (x0 % (2 : Int32)) = (0 : Int32)
    · refine own_g (mkF m 24 #[.val (.int x0), .val (.int x1), .val (.int x2), .val (.int (1 : Int32)), .val (.int (own_pla x0)), .unset, .unset, .unset] []) (fun _ kz => XS.ifNo X14.here hx rfl (hb hby at_21) rfl ((if0 _ _).trans (teq he).2) kz) ?_
      have hp := own_g1 _ he
      rw [hp]
      show own_E p e below _ (T14.setTop (mkF m 24 #[.val (.int x0), .val (.int x1), .val (.int x2), .val (.int (1 : Int32)), .val (.int (1 : Int32)), .unset, .unset, .unset] []))
      refine own_g (mkF m 25 #[.val (.int x0), .val (.int x1), .val (.int x2), .val (.int (1 : Int32)), .val (.int (1 : Int32)), .unset, .unset, .unset] [(.int (1 : Int32))]) (fun _ kz => XS.iconst X14.here hx rfl (hb hby at_24) kz) ?_
      refine own_g (mkF m 29 #[.val (.int x0), .val (.int x1), .val (.int x2), .val (.int (1 : Int32)), .val (.int (1 : Int32)), .unset, .unset, .unset] [(.int (1 : Int32))]) (fun _ kz => XS.goto X14.here hx rfl (pc0 := 25) (pc' := 29) rfl (hb hby at_25) (by decide) (by decide) kz) ?_
      refine own_g (mkF m 31 #[.val (.int x0), .val (.int x1), .val (.int x2), .val (.int (1 : Int32)), .val (.int (1 : Int32)), .val (.int (1 : Int32)), .unset, .unset] []) (fun _ kz => XS.istore X14.here hx rfl (hb hby at_29) rfl (l' := #[.val (.int x0), .val (.int x1), .val (.int x2), .val (.int (1 : Int32)), .val (.int (1 : Int32)), .val (.int (1 : Int32)), .unset, .unset]) rfl kz) ?_
      refine own_g (mkF m 33 #[.val (.int x0), .val (.int x1), .val (.int x2), .val (.int (1 : Int32)), .val (.int (1 : Int32)), .val (.int (1 : Int32)), .unset, .unset] [(.int (1 : Int32))]) (fun _ kz => XS.iload X14.here hx rfl (hb hby at_31) rfl kz) ?_
      refine own_g (mkF m 35 #[.val (.int x0), .val (.int x1), .val (.int x2), .val (.int (1 : Int32)), .val (.int (1 : Int32)), .val (.int (1 : Int32)), .unset, .unset] [(.int (1 : Int32)), (.int (1 : Int32))]) (fun _ kz => XS.iload X14.here hx rfl (hb hby at_33) rfl kz) ?_
      refine own_g (mkF m 40 #[.val (.int x0), .val (.int x1), .val (.int x2), .val (.int (1 : Int32)), .val (.int (1 : Int32)), .val (.int (1 : Int32)), .unset, .unset] []) (fun _ kz => XS.icmpYes X14.here hx rfl (pc0 := 35) (pc' := 40) rfl (hb hby at_35) rfl (teq (by decide)).1 (by decide) (by decide) kz) ?_
      refine own_g (mkF m 41 #[.val (.int x0), .val (.int x1), .val (.int x2), .val (.int (1 : Int32)), .val (.int (1 : Int32)), .val (.int (1 : Int32)), .unset, .unset] [(.int (2 : Int32))]) (fun _ kz => XS.iconst X14.here hx rfl (hb hby at_40) kz) ?_
      refine own_g (mkF m 42 #[.val (.int x0), .val (.int x1), .val (.int x2), .val (.int (1 : Int32)), .val (.int (1 : Int32)), .val (.int (1 : Int32)), .unset, .unset] [(.int x0), (.int (2 : Int32))]) (fun _ kz => XS.iloadN X14.here hx rfl (hb hby at_41) rfl kz) ?_
      refine own_callS (rest := [(.int (2 : Int32))]) (as := [(.int x0)]) X14 hx hZ hown e14 (own_c_ato l Z a0 hw x0 h0) (own_w hw 4 rfl) (own_w hw 5 rfl) (own_w hw 2 rfl) (own_w hw 6 rfl) (by decide) own_pd1 rfl (by rw [hml]; rfl) rfl (hb hby at_42) 1 (by show 2 * 0 + _ ≤ _; exact Nat.le_of_eq rfl) (by decide) (by decide) (by decide) (by decide) ?_
      rintro _ T15 L15 X15 ⟨rfl, rfl, e15⟩
      have N15 := Fr.app N14 (Fr.nil n0)
      show own_E p e below _ (T15.setTop (mkF m 45 #[.val (.int x0), .val (.int x1), .val (.int x2), .val (.int (1 : Int32)), .val (.int (1 : Int32)), .val (.int (1 : Int32)), .unset, .unset] [(.int (own_ato x0)), (.int (2 : Int32))]))
      refine own_g (mkF m 46 #[.val (.int x0), .val (.int x1), .val (.int x2), .val (.int (1 : Int32)), .val (.int (1 : Int32)), .val (.int (1 : Int32)), .unset, .unset] [(.int ((2 : Int32) * (own_ato x0)))]) (fun _ kz => XS.imul X15.here hx rfl (hb hby at_45) rfl kz) ?_
      refine own_g (mkF m 48 #[.val (.int x0), .val (.int x1), .val (.int x2), .val (.int (1 : Int32)), .val (.int (1 : Int32)), .val (.int (1 : Int32)), .unset, .unset] [(.int (1 : Int32)), (.int ((2 : Int32) * (own_ato x0)))]) (fun _ kz => XS.iload X15.here hx rfl (hb hby at_46) rfl kz) ?_
      refine own_g (mkF m 51 #[.val (.int x0), .val (.int x1), .val (.int x2), .val (.int (1 : Int32)), .val (.int (1 : Int32)), .val (.int (1 : Int32)), .unset, .unset] [(.int ((2 : Int32) * (own_ato x0)))]) (fun _ kz => XS.ifNo X15.here hx rfl (hb hby at_48) rfl ((if0 _ _).trans (feq (by decide)).1) kz) ?_
      refine own_g (mkF m 52 #[.val (.int x0), .val (.int x1), .val (.int x2), .val (.int (1 : Int32)), .val (.int (1 : Int32)), .val (.int (1 : Int32)), .unset, .unset] [(.int (0 : Int32)), (.int ((2 : Int32) * (own_ato x0)))]) (fun _ kz => XS.iconst X15.here hx rfl (hb hby at_51) kz) ?_
      refine own_g (mkF m 56 #[.val (.int x0), .val (.int x1), .val (.int x2), .val (.int (1 : Int32)), .val (.int (1 : Int32)), .val (.int (1 : Int32)), .unset, .unset] [(.int (0 : Int32)), (.int ((2 : Int32) * (own_ato x0)))]) (fun _ kz => XS.goto X15.here hx rfl (pc0 := 52) (pc' := 56) rfl (hb hby at_52) (by decide) (by decide) kz) ?_
      refine own_g (mkF m 57 #[.val (.int x0), .val (.int x1), .val (.int x2), .val (.int (1 : Int32)), .val (.int (1 : Int32)), .val (.int (1 : Int32)), .unset, .unset] [(.int (((2 : Int32) * (own_ato x0)) + (0 : Int32)))]) (fun _ kz => XS.iadd X15.here hx rfl (hb hby at_56) rfl kz) ?_
      refine own_g (mkF m 59 #[.val (.int x0), .val (.int x1), .val (.int x2), .val (.int (1 : Int32)), .val (.int (1 : Int32)), .val (.int (1 : Int32)), .val (.int (((2 : Int32) * (own_ato x0)) + (0 : Int32))), .unset] []) (fun _ kz => XS.istore X15.here hx rfl (hb hby at_57) rfl (l' := #[.val (.int x0), .val (.int x1), .val (.int x2), .val (.int (1 : Int32)), .val (.int (1 : Int32)), .val (.int (1 : Int32)), .val (.int (((2 : Int32) * (own_ato x0)) + (0 : Int32))), .unset]) rfl kz) ?_
      refine own_g (mkF m 61 #[.val (.int x0), .val (.int x1), .val (.int x2), .val (.int (1 : Int32)), .val (.int (1 : Int32)), .val (.int (1 : Int32)), .val (.int (((2 : Int32) * (own_ato x0)) + (0 : Int32))), .unset] [(.int (((2 : Int32) * (own_ato x0)) + (0 : Int32)))]) (fun _ kz => XS.iload X15.here hx rfl (hb hby at_59) rfl kz) ?_
      refine own_g (mkF m 62 #[.val (.int x0), .val (.int x1), .val (.int x2), .val (.int (1 : Int32)), .val (.int (1 : Int32)), .val (.int (1 : Int32)), .val (.int (((2 : Int32) * (own_ato x0)) + (0 : Int32))), .unset] [(.int x0), (.int (((2 : Int32) * (own_ato x0)) + (0 : Int32)))]) (fun _ kz => XS.iloadN X15.here hx rfl (hb hby at_61) rfl kz) ?_
      refine own_g (mkF m 67 #[.val (.int x0), .val (.int x1), .val (.int x2), .val (.int (1 : Int32)), .val (.int (1 : Int32)), .val (.int (1 : Int32)), .val (.int (((2 : Int32) * (own_ato x0)) + (0 : Int32))), .unset] []) (fun _ kz => XS.icmpYes X15.here hx rfl (pc0 := 62) (pc' := 67) rfl (hb hby at_62) rfl (teq (own_g3 _ hp)).1 (by decide) (by decide) kz) ?_
      refine own_g (mkF m 68 #[.val (.int x0), .val (.int x1), .val (.int x2), .val (.int (1 : Int32)), .val (.int (1 : Int32)), .val (.int (1 : Int32)), .val (.int (((2 : Int32) * (own_ato x0)) + (0 : Int32))), .unset] [(.int x1)]) (fun _ kz => XS.iloadN X15.here hx rfl (hb hby at_67) rfl kz) ?_
      refine own_g (mkF m 69 #[.val (.int x0), .val (.int x1), .val (.int x2), .val (.int (1 : Int32)), .val (.int (1 : Int32)), .val (.int (1 : Int32)), .val (.int (((2 : Int32) * (own_ato x0)) + (0 : Int32))), .unset] [(.int (1 : Int32)), (.int x1)]) (fun _ kz => XS.iloadN X15.here hx rfl (hb hby at_68) rfl kz) ?_
      refine own_callS (rest := []) (as := [(.int x1), (.int (1 : Int32))]) X15 hx hZ hown e15 (own_c_enc l Z a0 hw x1 (1 : Int32) h0) (own_w hw 7 rfl) (own_w hw 8 rfl) (own_w hw 2 rfl) (own_w hw 9 rfl) (by decide) own_pd2 rfl (by rw [hml]; rfl) rfl (hb hby at_69) 0 (by show 2 * 0 + _ ≤ _; exact Nat.le_of_eq rfl) (by decide) (by decide) (by decide) (by decide) ?_
      rintro _ T16 L16 X16 ⟨rfl, rfl, e16⟩
      have N16 := Fr.app N15 (Fr.nil n0)
      show own_E p e below _ (T16.setTop (mkF m 72 #[.val (.int x0), .val (.int x1), .val (.int x2), .val (.int (1 : Int32)), .val (.int (1 : Int32)), .val (.int (1 : Int32)), .val (.int (((2 : Int32) * (own_ato x0)) + (0 : Int32))), .unset] [(.int (own_enc x1 (1 : Int32)))]))
      refine own_g (mkF m 74 #[.val (.int x0), .val (.int x1), .val (.int x2), .val (.int (1 : Int32)), .val (.int (1 : Int32)), .val (.int (1 : Int32)), .val (.int (((2 : Int32) * (own_ato x0)) + (0 : Int32))), .val (.int (own_enc x1 (1 : Int32)))] []) (fun _ kz => XS.istore X16.here hx rfl (hb hby at_72) rfl (l' := #[.val (.int x0), .val (.int x1), .val (.int x2), .val (.int (1 : Int32)), .val (.int (1 : Int32)), .val (.int (1 : Int32)), .val (.int (((2 : Int32) * (own_ato x0)) + (0 : Int32))), .val (.int (own_enc x1 (1 : Int32)))]) rfl kz) ?_
      refine own_g (mkF m 76 #[.val (.int x0), .val (.int x1), .val (.int x2), .val (.int (1 : Int32)), .val (.int (1 : Int32)), .val (.int (1 : Int32)), .val (.int (((2 : Int32) * (own_ato x0)) + (0 : Int32))), .val (.int (own_enc x1 (1 : Int32)))] [(.int (own_enc x1 (1 : Int32)))]) (fun _ kz => XS.iload X16.here hx rfl (hb hby at_74) rfl kz) ?_
      refine own_callS (rest := []) (as := [(.int (own_enc x1 (1 : Int32)))]) X16 hx hZ hown e16 (own_c_pla l Z a0 hw (own_enc x1 (1 : Int32)) h0) (own_w hw 0 rfl) (own_w hw 1 rfl) (own_w hw 2 rfl) (own_w hw 3 rfl) (by decide) own_pd0 rfl (by rw [hml]; rfl) rfl (hb hby at_76) 0 (by show 2 * 0 + _ ≤ _; exact Nat.le_of_eq rfl) (by decide) (by decide) (by decide) (by decide) ?_
      rintro _ T17 L17 X17 ⟨rfl, rfl, e17⟩
      have N17 := Fr.app N16 (Fr.nil n0)
      show own_E p e below _ (T17.setTop (mkF m 79 #[.val (.int x0), .val (.int x1), .val (.int x2), .val (.int (1 : Int32)), .val (.int (1 : Int32)), .val (.int (1 : Int32)), .val (.int (((2 : Int32) * (own_ato x0)) + (0 : Int32))), .val (.int (own_enc x1 (1 : Int32)))] [(.int (own_pla (own_enc x1 (1 : Int32))))]))
      refine own_g (mkF m 80 #[.val (.int x0), .val (.int x1), .val (.int x2), .val (.int (1 : Int32)), .val (.int (1 : Int32)), .val (.int (1 : Int32)), .val (.int (((2 : Int32) * (own_ato x0)) + (0 : Int32))), .val (.int (own_enc x1 (1 : Int32)))] [(.int (1 : Int32)), (.int (own_pla (own_enc x1 (1 : Int32))))]) (fun _ kz => XS.iloadN X17.here hx rfl (hb hby at_79) rfl kz) ?_
      refine own_g (mkF m 83 #[.val (.int x0), .val (.int x1), .val (.int x2), .val (.int (1 : Int32)), .val (.int (1 : Int32)), .val (.int (1 : Int32)), .val (.int (((2 : Int32) * (own_ato x0)) + (0 : Int32))), .val (.int (own_enc x1 (1 : Int32)))] []) (fun _ kz => XS.icmpNo X17.here hx rfl (hb hby at_80) rfl (teq (own_f2 _)).2 kz) ?_
      refine own_g (mkF m 84 #[.val (.int x0), .val (.int x1), .val (.int x2), .val (.int (1 : Int32)), .val (.int (1 : Int32)), .val (.int (1 : Int32)), .val (.int (((2 : Int32) * (own_ato x0)) + (0 : Int32))), .val (.int (own_enc x1 (1 : Int32)))] [(.int (1 : Int32))]) (fun _ kz => XS.iconst X17.here hx rfl (hb hby at_83) kz) ?_
      refine own_g (mkF m 88 #[.val (.int x0), .val (.int x1), .val (.int x2), .val (.int (1 : Int32)), .val (.int (1 : Int32)), .val (.int (1 : Int32)), .val (.int (((2 : Int32) * (own_ato x0)) + (0 : Int32))), .val (.int (own_enc x1 (1 : Int32)))] [(.int (1 : Int32))]) (fun _ kz => XS.goto X17.here hx rfl (pc0 := 84) (pc' := 88) rfl (hb hby at_84) (by decide) (by decide) kz) ?_
      exact own_retZ X17 hx hret hlk (hb hby at_88) rfl (by decide) (by decide) (by first | exact ⟨rfl, N17⟩ | (rw [e17]; exact ⟨rfl, N17⟩))
    · refine own_g (mkF m 28 #[.val (.int x0), .val (.int x1), .val (.int x2), .val (.int (1 : Int32)), .val (.int (own_pla x0)), .unset, .unset, .unset] []) (fun _ kz => XS.ifYes X14.here hx rfl (pc0 := 21) (pc' := 28) rfl (hb hby at_21) rfl ((if0 _ _).trans (feq he).2) (by decide) (by decide) kz) ?_
      have hp := own_g2 _ he
      rw [hp]
      show own_E p e below _ (T14.setTop (mkF m 28 #[.val (.int x0), .val (.int x1), .val (.int x2), .val (.int (1 : Int32)), .val (.int (0 : Int32)), .unset, .unset, .unset] []))
      refine own_g (mkF m 29 #[.val (.int x0), .val (.int x1), .val (.int x2), .val (.int (1 : Int32)), .val (.int (0 : Int32)), .unset, .unset, .unset] [(.int (0 : Int32))]) (fun _ kz => XS.iconst X14.here hx rfl (hb hby at_28) kz) ?_
      refine own_g (mkF m 31 #[.val (.int x0), .val (.int x1), .val (.int x2), .val (.int (1 : Int32)), .val (.int (0 : Int32)), .val (.int (0 : Int32)), .unset, .unset] []) (fun _ kz => XS.istore X14.here hx rfl (hb hby at_29) rfl (l' := #[.val (.int x0), .val (.int x1), .val (.int x2), .val (.int (1 : Int32)), .val (.int (0 : Int32)), .val (.int (0 : Int32)), .unset, .unset]) rfl kz) ?_
      refine own_g (mkF m 33 #[.val (.int x0), .val (.int x1), .val (.int x2), .val (.int (1 : Int32)), .val (.int (0 : Int32)), .val (.int (0 : Int32)), .unset, .unset] [(.int (0 : Int32))]) (fun _ kz => XS.iload X14.here hx rfl (hb hby at_31) rfl kz) ?_
      refine own_g (mkF m 35 #[.val (.int x0), .val (.int x1), .val (.int x2), .val (.int (1 : Int32)), .val (.int (0 : Int32)), .val (.int (0 : Int32)), .unset, .unset] [(.int (0 : Int32)), (.int (0 : Int32))]) (fun _ kz => XS.iload X14.here hx rfl (hb hby at_33) rfl kz) ?_
      refine own_g (mkF m 40 #[.val (.int x0), .val (.int x1), .val (.int x2), .val (.int (1 : Int32)), .val (.int (0 : Int32)), .val (.int (0 : Int32)), .unset, .unset] []) (fun _ kz => XS.icmpYes X14.here hx rfl (pc0 := 35) (pc' := 40) rfl (hb hby at_35) rfl (teq (by decide)).1 (by decide) (by decide) kz) ?_
      refine own_g (mkF m 41 #[.val (.int x0), .val (.int x1), .val (.int x2), .val (.int (1 : Int32)), .val (.int (0 : Int32)), .val (.int (0 : Int32)), .unset, .unset] [(.int (2 : Int32))]) (fun _ kz => XS.iconst X14.here hx rfl (hb hby at_40) kz) ?_
      refine own_g (mkF m 42 #[.val (.int x0), .val (.int x1), .val (.int x2), .val (.int (1 : Int32)), .val (.int (0 : Int32)), .val (.int (0 : Int32)), .unset, .unset] [(.int x0), (.int (2 : Int32))]) (fun _ kz => XS.iloadN X14.here hx rfl (hb hby at_41) rfl kz) ?_
      refine own_callS (rest := [(.int (2 : Int32))]) (as := [(.int x0)]) X14 hx hZ hown e14 (own_c_ato l Z a0 hw x0 h0) (own_w hw 4 rfl) (own_w hw 5 rfl) (own_w hw 2 rfl) (own_w hw 6 rfl) (by decide) own_pd1 rfl (by rw [hml]; rfl) rfl (hb hby at_42) 1 (by show 2 * 0 + _ ≤ _; exact Nat.le_of_eq rfl) (by decide) (by decide) (by decide) (by decide) ?_
      rintro _ T18 L18 X18 ⟨rfl, rfl, e18⟩
      have N18 := Fr.app N14 (Fr.nil n0)
      show own_E p e below _ (T18.setTop (mkF m 45 #[.val (.int x0), .val (.int x1), .val (.int x2), .val (.int (1 : Int32)), .val (.int (0 : Int32)), .val (.int (0 : Int32)), .unset, .unset] [(.int (own_ato x0)), (.int (2 : Int32))]))
      refine own_g (mkF m 46 #[.val (.int x0), .val (.int x1), .val (.int x2), .val (.int (1 : Int32)), .val (.int (0 : Int32)), .val (.int (0 : Int32)), .unset, .unset] [(.int ((2 : Int32) * (own_ato x0)))]) (fun _ kz => XS.imul X18.here hx rfl (hb hby at_45) rfl kz) ?_
      refine own_g (mkF m 48 #[.val (.int x0), .val (.int x1), .val (.int x2), .val (.int (1 : Int32)), .val (.int (0 : Int32)), .val (.int (0 : Int32)), .unset, .unset] [(.int (0 : Int32)), (.int ((2 : Int32) * (own_ato x0)))]) (fun _ kz => XS.iload X18.here hx rfl (hb hby at_46) rfl kz) ?_
      refine own_g (mkF m 55 #[.val (.int x0), .val (.int x1), .val (.int x2), .val (.int (1 : Int32)), .val (.int (0 : Int32)), .val (.int (0 : Int32)), .unset, .unset] [(.int ((2 : Int32) * (own_ato x0)))]) (fun _ kz => XS.ifYes X18.here hx rfl (pc0 := 48) (pc' := 55) rfl (hb hby at_48) rfl ((if0 _ _).trans (teq (by decide)).1) (by decide) (by decide) kz) ?_
      refine own_g (mkF m 56 #[.val (.int x0), .val (.int x1), .val (.int x2), .val (.int (1 : Int32)), .val (.int (0 : Int32)), .val (.int (0 : Int32)), .unset, .unset] [(.int (1 : Int32)), (.int ((2 : Int32) * (own_ato x0)))]) (fun _ kz => XS.iconst X18.here hx rfl (hb hby at_55) kz) ?_
      refine own_g (mkF m 57 #[.val (.int x0), .val (.int x1), .val (.int x2), .val (.int (1 : Int32)), .val (.int (0 : Int32)), .val (.int (0 : Int32)), .unset, .unset] [(.int (((2 : Int32) * (own_ato x0)) + (1 : Int32)))]) (fun _ kz => XS.iadd X18.here hx rfl (hb hby at_56) rfl kz) ?_
      refine own_g (mkF m 59 #[.val (.int x0), .val (.int x1), .val (.int x2), .val (.int (1 : Int32)), .val (.int (0 : Int32)), .val (.int (0 : Int32)), .val (.int (((2 : Int32) * (own_ato x0)) + (1 : Int32))), .unset] []) (fun _ kz => XS.istore X18.here hx rfl (hb hby at_57) rfl (l' := #[.val (.int x0), .val (.int x1), .val (.int x2), .val (.int (1 : Int32)), .val (.int (0 : Int32)), .val (.int (0 : Int32)), .val (.int (((2 : Int32) * (own_ato x0)) + (1 : Int32))), .unset]) rfl kz) ?_
      refine own_g (mkF m 61 #[.val (.int x0), .val (.int x1), .val (.int x2), .val (.int (1 : Int32)), .val (.int (0 : Int32)), .val (.int (0 : Int32)), .val (.int (((2 : Int32) * (own_ato x0)) + (1 : Int32))), .unset] [(.int (((2 : Int32) * (own_ato x0)) + (1 : Int32)))]) (fun _ kz => XS.iload X18.here hx rfl (hb hby at_59) rfl kz) ?_
      refine own_g (mkF m 62 #[.val (.int x0), .val (.int x1), .val (.int x2), .val (.int (1 : Int32)), .val (.int (0 : Int32)), .val (.int (0 : Int32)), .val (.int (((2 : Int32) * (own_ato x0)) + (1 : Int32))), .unset] [(.int x0), (.int (((2 : Int32) * (own_ato x0)) + (1 : Int32)))]) (fun _ kz => XS.iloadN X18.here hx rfl (hb hby at_61) rfl kz) ?_
      refine own_g (mkF m 67 #[.val (.int x0), .val (.int x1), .val (.int x2), .val (.int (1 : Int32)), .val (.int (0 : Int32)), .val (.int (0 : Int32)), .val (.int (((2 : Int32) * (own_ato x0)) + (1 : Int32))), .unset] []) (fun _ kz => XS.icmpYes X18.here hx rfl (pc0 := 62) (pc' := 67) rfl (hb hby at_62) rfl (teq (own_g4 _ hp)).1 (by decide) (by decide) kz) ?_
      refine own_g (mkF m 68 #[.val (.int x0), .val (.int x1), .val (.int x2), .val (.int (1 : Int32)), .val (.int (0 : Int32)), .val (.int (0 : Int32)), .val (.int (((2 : Int32) * (own_ato x0)) + (1 : Int32))), .unset] [(.int x1)]) (fun _ kz => XS.iloadN X18.here hx rfl (hb hby at_67) rfl kz) ?_
      refine own_g (mkF m 69 #[.val (.int x0), .val (.int x1), .val (.int x2), .val (.int (1 : Int32)), .val (.int (0 : Int32)), .val (.int (0 : Int32)), .val (.int (((2 : Int32) * (own_ato x0)) + (1 : Int32))), .unset] [(.int (1 : Int32)), (.int x1)]) (fun _ kz => XS.iloadN X18.here hx rfl (hb hby at_68) rfl kz) ?_
      refine own_callS (rest := []) (as := [(.int x1), (.int (1 : Int32))]) X18 hx hZ hown e18 (own_c_enc l Z a0 hw x1 (1 : Int32) h0) (own_w hw 7 rfl) (own_w hw 8 rfl) (own_w hw 2 rfl) (own_w hw 9 rfl) (by decide) own_pd2 rfl (by rw [hml]; rfl) rfl (hb hby at_69) 0 (by show 2 * 0 + _ ≤ _; exact Nat.le_of_eq rfl) (by decide) (by decide) (by decide) (by decide) ?_
      rintro _ T19 L19 X19 ⟨rfl, rfl, e19⟩
      have N19 := Fr.app N18 (Fr.nil n0)
      show own_E p e below _ (T19.setTop (mkF m 72 #[.val (.int x0), .val (.int x1), .val (.int x2), .val (.int (1 : Int32)), .val (.int (0 : Int32)), .val (.int (0 : Int32)), .val (.int (((2 : Int32) * (own_ato x0)) + (1 : Int32))), .unset] [(.int (own_enc x1 (1 : Int32)))]))
      refine own_g (mkF m 74 #[.val (.int x0), .val (.int x1), .val (.int x2), .val (.int (1 : Int32)), .val (.int (0 : Int32)), .val (.int (0 : Int32)), .val (.int (((2 : Int32) * (own_ato x0)) + (1 : Int32))), .val (.int (own_enc x1 (1 : Int32)))] []) (fun _ kz => XS.istore X19.here hx rfl (hb hby at_72) rfl (l' := #[.val (.int x0), .val (.int x1), .val (.int x2), .val (.int (1 : Int32)), .val (.int (0 : Int32)), .val (.int (0 : Int32)), .val (.int (((2 : Int32) * (own_ato x0)) + (1 : Int32))), .val (.int (own_enc x1 (1 : Int32)))]) rfl kz) ?_
      refine own_g (mkF m 76 #[.val (.int x0), .val (.int x1), .val (.int x2), .val (.int (1 : Int32)), .val (.int (0 : Int32)), .val (.int (0 : Int32)), .val (.int (((2 : Int32) * (own_ato x0)) + (1 : Int32))), .val (.int (own_enc x1 (1 : Int32)))] [(.int (own_enc x1 (1 : Int32)))]) (fun _ kz => XS.iload X19.here hx rfl (hb hby at_74) rfl kz) ?_
      refine own_callS (rest := []) (as := [(.int (own_enc x1 (1 : Int32)))]) X19 hx hZ hown e19 (own_c_pla l Z a0 hw (own_enc x1 (1 : Int32)) h0) (own_w hw 0 rfl) (own_w hw 1 rfl) (own_w hw 2 rfl) (own_w hw 3 rfl) (by decide) own_pd0 rfl (by rw [hml]; rfl) rfl (hb hby at_76) 0 (by show 2 * 0 + _ ≤ _; exact Nat.le_of_eq rfl) (by decide) (by decide) (by decide) (by decide) ?_
      rintro _ T20 L20 X20 ⟨rfl, rfl, e20⟩
      have N20 := Fr.app N19 (Fr.nil n0)
      show own_E p e below _ (T20.setTop (mkF m 79 #[.val (.int x0), .val (.int x1), .val (.int x2), .val (.int (1 : Int32)), .val (.int (0 : Int32)), .val (.int (0 : Int32)), .val (.int (((2 : Int32) * (own_ato x0)) + (1 : Int32))), .val (.int (own_enc x1 (1 : Int32)))] [(.int (own_pla (own_enc x1 (1 : Int32))))]))
      refine own_g (mkF m 80 #[.val (.int x0), .val (.int x1), .val (.int x2), .val (.int (1 : Int32)), .val (.int (0 : Int32)), .val (.int (0 : Int32)), .val (.int (((2 : Int32) * (own_ato x0)) + (1 : Int32))), .val (.int (own_enc x1 (1 : Int32)))] [(.int (1 : Int32)), (.int (own_pla (own_enc x1 (1 : Int32))))]) (fun _ kz => XS.iloadN X20.here hx rfl (hb hby at_79) rfl kz) ?_
      refine own_g (mkF m 83 #[.val (.int x0), .val (.int x1), .val (.int x2), .val (.int (1 : Int32)), .val (.int (0 : Int32)), .val (.int (0 : Int32)), .val (.int (((2 : Int32) * (own_ato x0)) + (1 : Int32))), .val (.int (own_enc x1 (1 : Int32)))] []) (fun _ kz => XS.icmpNo X20.here hx rfl (hb hby at_80) rfl (teq (own_f2 _)).2 kz) ?_
      refine own_g (mkF m 84 #[.val (.int x0), .val (.int x1), .val (.int x2), .val (.int (1 : Int32)), .val (.int (0 : Int32)), .val (.int (0 : Int32)), .val (.int (((2 : Int32) * (own_ato x0)) + (1 : Int32))), .val (.int (own_enc x1 (1 : Int32)))] [(.int (1 : Int32))]) (fun _ kz => XS.iconst X20.here hx rfl (hb hby at_83) kz) ?_
      refine own_g (mkF m 88 #[.val (.int x0), .val (.int x1), .val (.int x2), .val (.int (1 : Int32)), .val (.int (0 : Int32)), .val (.int (0 : Int32)), .val (.int (((2 : Int32) * (own_ato x0)) + (1 : Int32))), .val (.int (own_enc x1 (1 : Int32)))] [(.int (1 : Int32))]) (fun _ kz => XS.goto X20.here hx rfl (pc0 := 84) (pc' := 88) rfl (hb hby at_84) (by decide) (by decide) kz) ?_
      exact own_retZ X20 hx hret hlk (hb hby at_88) rfl (by decide) (by decide) (by first | exact ⟨rfl, N20⟩ | (rw [e20]; exact ⟨rfl, N20⟩))
theorem own_comes {Post : Tables → Env → Array Value → State → Outcome → State → Prop} (hpost : ∀ tb e args s v u, (limb_1_1.after args s (.returned v) u = true ∧ limb_1_2.after args s (.returned v) u = true ∧ True) → FrameEnd s (.returned v) u (Jvm.fieldLocs frame_1_writes args s ++ Jvm.arrayLocs frame_1_arrays args s ++ Jvm.staticLocs frame_1_statics s) 0 0 → Post tb e args s (.returned v) u) :
    ArmFor flags0 classFile x code maxLocals ret World_1 tables_1 room_1 Calls_1 rest_1 Pre_1 Post := by
  intro l hfl _ _ p e ha hc hk s m args below hf hA hF happ hP
  obtain ⟨hcalls, hrest, hpre⟩ := hP
  obtain ⟨-, -, -, hnamed, -, -, -, hat⟩ := (Spec.applies_iff hf).mp happ
  obtain ⟨hg, hn⟩ := and_e (Cond.before_iff.mp (show (Jvm.Cond.and given_1 narrow_1).before args s = true from hpre))
  obtain ⟨hcount, r0⟩ := and_e hg
  obtain ⟨q0, r1⟩ := and_e r0
  obtain ⟨q1, r2⟩ := and_e r1
  obtain ⟨w0, w1, w2, rfl⟩ : ∃ w0 w1 w2 : Value, args = #[w0, w1, w2] := by
    have hs : args.size = 3 := by simpa [Cond.value, given_1] using hcount
    obtain ⟨L⟩ := args
    match L, hs with
    | [w0, w1, w2], _ => exact ⟨w0, w1, w2, rfl⟩
  have hw := fun d (hd : d ∈ tables_1) => atoms_spec (ws := Jvm.Cond.code x code maxLocals ret :: tables_1) hat d (List.mem_cons_of_mem _ hd)
  obtain ⟨i0, e0⟩ := is_v q0
  obtain rfl : w0 = (.int i0) := Option.some.inj e0
  obtain ⟨i1, e1⟩ := is_v q1
  obtain rfl : w1 = (.int i1) := Option.some.inj e1
  obtain ⟨i2, e2⟩ := is_v r2
  obtain rfl : w2 = (.int i2) := Option.some.inj e2
  obtain ⟨n, o, h1, h2, h3, _, L, rfl, ⟨rfl, N⟩, hq⟩ := own_c_law l s _ hw i0 i1 i2 s.heap s.heap.size (Nat.le_refl _) p e ha hc hk s m _ below hf ((Spec.applies_iff_loose hf).mp happ).1 ⟨rfl, State.Warmed39.refl s, rfl⟩ trivial
  refine ⟨n, _, h1, h2, h3, hpost _ _ _ _ _ _ ⟨Cond.after_iff.mpr rfl, Cond.after_iff.mpr (eq_i res_at (Term.int_eval (1)) rfl), trivial⟩ ⟨hq.1, hq.2.1, (hq.2.2.sift fun y hy => Or.inr (N y hy)).mono (by decide) (by decide)⟩⟩
theorem main_1_1 : Claimed_1_1 := own_comes fun _ _ _ _ _ _ h hF => ⟨h.1, hF⟩
theorem main_1_2 : Claimed_1_2 := own_comes fun _ _ _ _ _ _ h hF => ⟨h.2.1, hF⟩
end Jvm.Pilot.@@N@@
namespace Jvm.Pilot.@@N@@
open Jvm Jvm.ClassFile Sem Op Lib Jvm.Free Jvm.Stand Jvm.Pilot.@@N@@.Jvm.D
/-! MADE BY PROGRAM (witnessworld.py) out of the Statement's table words and the real class files: 9 classes; the members and pool entries that the words name. The judged class is class 1, her method 1. -/
namespace start1
open Jvm.ClassFile
def u (s : String) : CpInfo := .utf8 (stringToUtf16 s)
/-- a pool by its gaps: so many unusable entries, then the entry; so many at the end -/
def gap : Nat → List CpInfo → List CpInfo
  | 0, r => r
  | n + 1, r => .unusable :: gap n r
def poolList (es : List (Nat × CpInfo)) (last : Nat) : List CpInfo := es.foldr (fun e r => gap e.1 (e.2 :: r)) (gap last [])
def pool (es : List (Nat × CpInfo)) (last : Nat) : Array CpInfo := ⟨poolList es last⟩
def fileOf (pool : Array CpInfo) (this : Nat) (attrs : Array Attribute := #[]) (ms : Array MethodInfo := #[]) (fl : Nat := 33) (sup : Nat := 0) (ifs : Array Nat := #[]) (fds : Array FieldInfo := #[]) : ClassFile where
  minorVersion := 0
  majorVersion := 65
  constantPool := pool
  accessFlags := fl
  thisClass := this
  superClass := sup
  interfaces := ifs
  fields := fds
  methods := ms
  attributes := attrs
def plain (name : String) (sup : Option ClassId) : Class where
  name := name
  kind := .ordinary
  loader := none
  accessFlags := 33
  super := sup
  interfaces := #[]
  cf := none
  fields := #[]
  methods := #[]
  instanceTypes := #[]
  staticTypes := #[]
  resolved := #[]
  callSites := []
  init := .initialized
  statics := none
  mirror := none

def pool0 : Array CpInfo := pool [(5, u "<init>"), (0, u "()V"), (1, .class_ 10), (1, u "java/lang/Object")] 113

def k0m0 : Method := { name := "<init>", desc := "()V", sig := { parameters := [], returnType := none }, accessFlags := 1, code := none }
/-- java/lang/Object -/
def k0 : Class := { plain "java/lang/Object" none with
  accessFlags := 33
  interfaces := #[]
  cf := some (fileOf pool0 8 #[] #[{ accessFlags := 1, nameIndex := 5, descriptorIndex := 6, attributes := #[] }] 33 0 #[] #[])
  fields := #[]
  methods := #[k0m0]
  instanceTypes := #[]
  staticTypes := #[]
  resolved := Array.replicate 124 none
  statics := none }

def pool1 : Array CpInfo := pool [(2, .class_ 4), (1, u "java/lang/Object"), (0, u "<init>"), (0, u "()V"), (0, .methodref 8 9), (0, .class_ 10), (0, .nameAndType 11 12), (0, u "com/example/conclude/conclude/GroundClause"), (0, u "isPlain"), (0, u "(I)Z"), (0, .methodref 8 14), (0, .nameAndType 15 16), (0, u "atomOf"), (0, u "(I)I"), (0, .methodref 8 18), (0, .nameAndType 19 20), (0, u "encode"), (0, u "(IZ)I"), (0, .class_ 22), (0, u "com/example/conclude/conclude/GroundClauseIsPlainPinLaw"), (2, u "law"), (0, u "(III)Z")] 3

def k1m0 : Method := { name := "<init>", desc := "()V", sig := { parameters := [], returnType := none }, accessFlags := 1, code := none }
def k1c1 : Code := { maxStack := 2, maxLocals := 8, code := code, exceptionTable := #[], attributes := #[] }
def k1m1 : Method := { name := "law", desc := "(III)Z", sig := { parameters := [.int, .int, .int], returnType := some .boolean }, accessFlags := 9, code := some k1c1 }
/-- com/example/conclude/conclude/GroundClauseIsPlainPinLaw -/
def k1 : Class := { plain "com/example/conclude/conclude/GroundClauseIsPlainPinLaw" (some 0) with
  accessFlags := 49
  interfaces := #[]
  cf := some (fileOf pool1 21 #[] #[{ accessFlags := 1, nameIndex := 5, descriptorIndex := 6, attributes := #[] }, { accessFlags := 9, nameIndex := 25, descriptorIndex := 26, attributes := #[] }] 49 2 #[] #[])
  fields := #[]
  methods := #[k1m0, k1m1]
  instanceTypes := #[]
  staticTypes := #[]
  resolved := Array.replicate 30 none
  statics := none }

def pool2 : Array CpInfo := pool [(2, .class_ 4), (1, u "java/lang/Object"), (12, .class_ 19), (1, u "com/example/conclude/conclude/GroundClause"), (0, u "rule"), (0, u "Lcom/example/conclude/conclude/Rule;"), (3, u "[I"), (4, u "literals"), (2, u "positions"), (2, u "atomOf"), (0, u "(I)I"), (7, u "isPlain"), (0, u "(I)Z"), (2, u "encode"), (0, u "(IZ)I")] 19

def k2c0 : Code := { maxStack := 2, maxLocals := 2, code := prog_19_method_2_code, exceptionTable := #[], attributes := #[] }
def k2m0 : Method := { name := "encode", desc := "(IZ)I", sig := { parameters := [.int, .boolean], returnType := some .int }, accessFlags := 8, code := some k2c0 }
def k2c1 : Code := { maxStack := 2, maxLocals := 1, code := prog_19_method_3_code, exceptionTable := #[], attributes := #[] }
def k2m1 : Method := { name := "atomOf", desc := "(I)I", sig := { parameters := [.int], returnType := some .int }, accessFlags := 8, code := some k2c1 }
def k2c2 : Code := { maxStack := 2, maxLocals := 1, code := prog_19_method_4_code, exceptionTable := #[], attributes := #[] }
def k2m2 : Method := { name := "isPlain", desc := "(I)Z", sig := { parameters := [.int], returnType := some .boolean }, accessFlags := 8, code := some k2c2 }
/-- com/example/conclude/conclude/GroundClause -/
def k2 : Class := { plain "com/example/conclude/conclude/GroundClause" (some 0) with
  accessFlags := 48
  interfaces := #[]
  cf := some (fileOf pool2 17 #[] #[{ accessFlags := 8, nameIndex := 49, descriptorIndex := 50, attributes := #[] }, { accessFlags := 8, nameIndex := 36, descriptorIndex := 37, attributes := #[] }, { accessFlags := 8, nameIndex := 45, descriptorIndex := 46, attributes := #[] }] 48 2 #[] #[{ accessFlags := 18, nameIndex := 20, descriptorIndex := 21, attributes := #[] }, { accessFlags := 18, nameIndex := 30, descriptorIndex := 25, attributes := #[] }, { accessFlags := 18, nameIndex := 33, descriptorIndex := 25, attributes := #[] }])
  fields := #[{ name := "rule", type := (.object "com/example/conclude/conclude/Rule"), accessFlags := 18, slot := 0, constantValue := 0 }, { name := "literals", type := (.array .int), accessFlags := 18, slot := 1, constantValue := 0 }, { name := "positions", type := (.array .int), accessFlags := 18, slot := 2, constantValue := 0 }]
  methods := #[k2m0, k2m1, k2m2]
  instanceTypes := #[(.object "com/example/conclude/conclude/Rule"), (.array .int), (.array .int)]
  staticTypes := #[]
  resolved := Array.replicate 70 none
  statics := none }

def pool3 : Array CpInfo := pool [(1, u "java/lang/Cloneable"), (0, .class_ 1), (0, u "java/lang/Object"), (0, .class_ 3)] 3

/-- java/lang/Cloneable -/
def k3 : Class := { plain "java/lang/Cloneable" (some 0) with
  accessFlags := 1537
  interfaces := #[]
  cf := some (fileOf pool3 2 #[] #[] 1537 4 #[] #[])
  fields := #[]
  methods := #[]
  instanceTypes := #[]
  staticTypes := #[]
  resolved := Array.replicate 8 none
  statics := none }

def pool4 : Array CpInfo := pool [(1, u "java/io/Serializable"), (0, .class_ 1), (0, u "java/lang/Object"), (0, .class_ 3)] 3

/-- java/io/Serializable -/
def k4 : Class := { plain "java/io/Serializable" (some 0) with
  accessFlags := 1537
  interfaces := #[]
  cf := some (fileOf pool4 2 #[] #[] 1537 4 #[] #[])
  fields := #[]
  methods := #[]
  instanceTypes := #[]
  staticTypes := #[]
  resolved := Array.replicate 8 none
  statics := none }

/-- the primitive byte -/
def k5 : Class := { plain "byte" none with kind := .primitive 'B', accessFlags := 0x411 }
/-- [B -/
def k6 : Class := { plain "[B" (some 0) with kind := .array 5 .byte, interfaces := #[3, 4], accessFlags := 1041 }

/-- the primitive int -/
def k7 : Class := { plain "int" none with kind := .primitive 'I', accessFlags := 0x411 }
/-- [I -/
def k8 : Class := { plain "[I" (some 0) with kind := .array 7 .int, interfaces := #[3, 4], accessFlags := 1041 }

def heap : Heap := #[]
def classes : Array Class := #[k0, k1, k2, k3, k4, k5, k6, k7, k8]
def interned : List (Array UInt16 × Addr) := []
def slotsUsed : Nat := 0
def theMethod : MethodId := ⟨1, 1⟩
def args0 : Array Value := #[.int 5, .int 7, .int 3]
def aboutOver (below : List Frame) : State where
  vm := { classes := classes, interned := interned.toArray }
  heap := heap
  slotsUsed := slotsUsed
  threads := #[{ frames := .invoking theMethod args0 :: below }]
def below0 : List Frame := [.native { method := ⟨0, 0⟩, args := #[] }]
def about1 : State := aboutOver below0
def p0 : Program := .bare "" "" ""
def e0 : Env := launch0.env 0 0 0
theorem w_frames : about1.frames = Frame.invoking theMethod args0 :: below0 := rfl
set_option maxRecDepth 65536 in
theorem w_args : argsFit about1.vm theMethod args0 = true := by decide +kernel
set_option maxRecDepth 65536 in
theorem w_heap : heapFits about1 = true := by decide +kernel
set_option maxRecDepth 65536 in
theorem w_runnable : about1.curStatus? = some .runnable := by decide +kernel
set_option maxRecDepth 65536 in
theorem w_alone : about1.alone = true := by decide +kernel
set_option maxRecDepth 65536 in
theorem w_named : about1.methodNamed? x = some theMethod := by decide +kernel
set_option maxRecDepth 65536 in
theorem w_hears : about1.hears theMethod below0 = true := by decide +kernel
set_option maxRecDepth 65536 in
theorem w_ripe : about1.ripe theMethod args0 below0 = true := by decide +kernel
theorem w_running : about1.status = .running := rfl
set_option maxRecDepth 65536 in
theorem w_room : about1.hasRoom e0.platform room_1 = true :=
  launch0.hasRoom_least _ room_1 (by decide +kernel) (by decide +kernel) (by decide +kernel) (by decide +kernel) (by decide +kernel) (by decide +kernel)
theorem allAtoms_all (ts : List Jvm.Cond) (a : Array Jvm.Value) (st : Jvm.State) : (allAtoms ts).before a st = ts.all (fun c => c.before a st) := by
  induction ts with
  | nil => rfl
  | cons c t ih =>
    show (Jvm.Cond.and c (allAtoms t)).before a st = _
    rw [Jvm.Cond.before_and, ih, List.all_cons]
def words1 : List Jvm.Cond := Jvm.Cond.code x code maxLocals ret :: tables_1
/-- a 'code' word, met by the world's own term for the bytes: nothing is compared byte by byte -/
theorem code_word {y : MethodName} {bytes : ByteArray} {mx : Nat} {rt : Option FieldType} {a : Array Value} {s : State} {m : MethodId} {meth : Method} {c : Code} (h1 : s.methodNamed? y = some m) (h2 : s.vm.method? m = some meth) (h3 : meth.code = some c) (h4 : c.code = bytes)
    (h5 : (c.maxLocals == mx && c.exceptionTable.isEmpty && decide (c.maxStack ≤ mostOperands) && decide (meth.sig.returnType = rt) && !meth.locks && decide (parseMethodDescriptor y.desc = some meth.sig)) = true) : (Jvm.Cond.code y bytes mx rt).before a s = true := by
  simp only [Bool.and_eq_true, beq_iff_eq, Bool.not_eq_true', decide_eq_true_eq] at h5
  obtain ⟨⟨⟨⟨⟨g1, g2⟩, g3⟩, g4⟩, g5⟩, g6⟩ := h5
  simp [Cond.before, Cond.holds, Cond.value, h1, h2, h3, h4, g1, g2, g3, g4, g5, g6]
def isCode : Jvm.Cond → Bool
  | .code _ _ _ _ => true
  | _ => false
theorem all_split {L : List Jvm.Cond} {P : Jvm.Cond → Bool} (h1 : L.all (fun c => isCode c || P c) = true) (h2 : ∀ c ∈ L.filter isCode, P c = true) : L.all P = true := by
  refine List.all_eq_true.mpr fun c hc => ?_
  have h := List.all_eq_true.mp h1 c hc
  rcases Bool.eq_false_or_eq_true (isCode c) with hi | hi
  · exact h2 c (List.mem_filter.mpr ⟨hc, hi⟩)
  · simpa [hi] using h
set_option maxRecDepth 65536 in
theorem w_c0 : (Jvm.Cond.code x code maxLocals ret).before args0 about1 = true := code_word (m := ⟨1, 1⟩) (meth := k1m1) (c := k1c1) (by decide +kernel) rfl rfl rfl (by decide +kernel)
set_option maxRecDepth 65536 in
theorem w_c1 : (Jvm.Cond.code ({ cls := "com/example/conclude/conclude/GroundClause", name := "isPlain", desc := "(I)Z" } : Jvm.MethodName) prog_19_method_4_code (1 : Nat) (Option.some Jvm.ClassFile.FieldType.boolean)).before args0 about1 = true := code_word (m := ⟨2, 2⟩) (meth := k2m2) (c := k2c2) (by decide +kernel) rfl rfl rfl (by decide +kernel)
set_option maxRecDepth 65536 in
theorem w_c2 : (Jvm.Cond.code ({ cls := "com/example/conclude/conclude/GroundClause", name := "atomOf", desc := "(I)I" } : Jvm.MethodName) prog_19_method_3_code (1 : Nat) (Option.some Jvm.ClassFile.FieldType.int)).before args0 about1 = true := code_word (m := ⟨2, 1⟩) (meth := k2m1) (c := k2c1) (by decide +kernel) rfl rfl rfl (by decide +kernel)
set_option maxRecDepth 65536 in
theorem w_c3 : (Jvm.Cond.code ({ cls := "com/example/conclude/conclude/GroundClause", name := "encode", desc := "(IZ)I" } : Jvm.MethodName) prog_19_method_2_code (2 : Nat) (Option.some Jvm.ClassFile.FieldType.int)).before args0 about1 = true := code_word (m := ⟨2, 0⟩) (meth := k2m0) (c := k2c0) (by decide +kernel) rfl rfl rfl (by decide +kernel)
def codes1 : List Jvm.Cond := [Jvm.Cond.code x code maxLocals ret, Jvm.Cond.code ({ cls := "com/example/conclude/conclude/GroundClause", name := "isPlain", desc := "(I)Z" } : Jvm.MethodName) prog_19_method_4_code (1 : Nat) (Option.some Jvm.ClassFile.FieldType.boolean), Jvm.Cond.code ({ cls := "com/example/conclude/conclude/GroundClause", name := "atomOf", desc := "(I)I" } : Jvm.MethodName) prog_19_method_3_code (1 : Nat) (Option.some Jvm.ClassFile.FieldType.int), Jvm.Cond.code ({ cls := "com/example/conclude/conclude/GroundClause", name := "encode", desc := "(IZ)I" } : Jvm.MethodName) prog_19_method_2_code (2 : Nat) (Option.some Jvm.ClassFile.FieldType.int)]
set_option maxRecDepth 65536 in
theorem codes_eq : words1.filter isCode = codes1 := rfl
theorem w_codes : ∀ c ∈ words1.filter isCode, c.before args0 about1 = true := by
  rw [codes_eq]
  intro c hc
  simp only [codes1, List.mem_cons, List.not_mem_nil, or_false] at hc
  rcases hc with rfl | rfl | rfl | rfl
  · exact w_c0
  · exact w_c1
  · exact w_c2
  · exact w_c3
set_option maxRecDepth 65536 in
theorem w_t1 : words1.all (fun c => isCode c || c.before args0 about1) = true := by decide +kernel
theorem w_tables : (allAtoms (Jvm.Cond.code x code maxLocals ret :: tables_1)).before args0 about1 = true := by
  rw [allAtoms_all]
  show words1.all (fun c => c.before args0 about1) = true
  refine all_split ?_ w_codes
  rw [w_t1]
set_option maxRecDepth 65536 in
theorem w_case : (Jvm.Cond.and given_1 narrow_1).before args0 about1 = true := by decide +kernel
theorem w_applies : (headSpec (Jvm.Cond.code x code maxLocals ret :: tables_1) room_1).applies x e0.platform about1 = true :=
  (Spec.applies_iff w_frames).mpr ⟨w_running, w_runnable, w_alone, w_named, w_hears, w_ripe, w_room, w_tables⟩
theorem atStart : AtStart classFile x code maxLocals ret World_1 tables_1 room_1 Calls_1 rest_1 Pre_1 launch0 p0 e0 about1 theMethod args0 below0 :=
  ⟨lists_1, trivial, launch0.admits_env _ _ _, launch0.least_env, fairChoices_fair.cas, fairChoices_fair.clock, w_frames, w_args, w_heap, w_applies, trivial, trivial, w_case⟩
end start1
theorem witness_1 : WitnessClaimed_1 := ⟨start1.p0, start1.e0, start1.about1, start1.theMethod, start1.args0, start1.below0, start1.atStart⟩
end Jvm.Pilot.@@N@@
