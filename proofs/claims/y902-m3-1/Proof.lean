import JvmDerived
import JvmDerived.Pilot.@@N@@Statement
import JvmDerived.Pilot.@@N@@Code
set_option linter.unusedVariables false
set_option linter.unusedSimpArgs false
namespace Jvm.Pilot.@@N@@
open Jvm Jvm.ClassFile Sem Op Lib Jvm.Free Jvm.Stand Jvm.LawKit Jvm.RoadKit Bundle Jvm.Pilot.@@N@@.Jvm.D
/-! ### own kit: a walk as one chain, from a place of the run to the method's end -/
/-- from A the run comes to an end of which P holds -/
def own_E (p : Program) (e : Env) (below : List Frame) (P : Outcome → State → Prop) (A : State) : Prop :=
  ∃ s₂ o, Steps p.tables e below A s₂ ∧ s₂.status = .running ∧ Ended s₂ below o ∧ P o s₂
/-- what a contract says at the end -/
def own_P (Q : Option Value → Heap → List Loc → Prop) (s : State) (C S : Nat) : Outcome → State → Prop :=
  fun o U => ∃ v L, o = .returned v ∧ Q v U.heap L ∧ FrameEnd s o U L C S
/-- a contract: called with these arguments over the heap h, the body returns, and Q tells what and what is written -/
def own_Con (l : Launch) (Z : State) (y : MethodName) (bytes : ByteArray) (maxL : Nat) (ret : Option FieldType) (ws : List Jvm.Cond) (rm : Room) (as : Array Value) (h : Heap) (Q : Option Value → Heap → List Loc → Prop) : Prop :=
  MetFree l y (head1 (Jvm.Cond.code y bytes maxL ret :: ws) rm) (fun a U => a = as ∧ Z.Warmed39 U.vm ∧ U.heap = h) (fun _ _ _ _ _ => True) (fun _ U o U' => ∃ v L, o = .returned v ∧ Q v U'.heap L ∧ FrameEnd U o U' L rm.cells rm.slots)
theorem own_w {Z : State} {a0 : Array Value} (hw : ∀ d ∈ tables_1, d.before a0 Z = true) (i : Nat) {d : Jvm.Cond} (q : tables_1[i]? = some d) : d.before a0 Z = true := hw d (List.mem_of_getElem? q)
section Own
variable {p : Program} {l : Launch} {e : Env} {R : Room} {s : State} {m : MethodId} {args : Array Value} {below : List Frame} {meth : Method} {c : Code} {T : State} {locs : List Loc} {cells slots : Nat} {Z : State} {a0 : Array Value} {h h' : Heap} {P : Outcome → State → Prop} {A B : State} {Q : Option Value → Heap → List Loc → Prop}
theorem own_s (st : ∀ t, Steps p.tables e below B t → Steps p.tables e below A t) (k : own_E p e below P B) : own_E p e below P A := by
  obtain ⟨s2, o, h1, h2⟩ := k; exact ⟨s2, o, st _ h1, h2⟩
theorem own_g {g : JFrame} (g' : JFrame) (st : ∀ t, Steps p.tables e below (T.setTop g') t → Steps p.tables e below (T.setTop g) t) (k : own_E p e below P (T.setTop g')) : own_E p e below P (T.setTop g) := own_s st k
theorem own_t (st : Steps p.tables e below A B) (k : own_E p e below P B) : own_E p e below P A := by
  obtain ⟨s2, o, h1, h2⟩ := k; exact ⟨s2, o, st.trans h1, h2⟩
theorem own_enter {y : MethodName} {bytes : ByteArray} {maxL : Nat} {ret : Option FieldType} {ws : List Jvm.Cond} {rm : Room} {as : Array Value} (hpl : plainFor y = true)
    (body : ∀ (p : Program) (e : Env) (s : State) (m : MethodId) (below : List Frame) (meth : Method) (c : Code) (s₁ : State), Stand p l e rm s m as below meth c s₁ [] 0 0 → s₁.heap = h → p.tables.exec = Jvm.exec → Z.Warmed39 s.vm → c.code = bytes → c.maxLocals = maxL → s.vm.findClass y.cls = some m.cls → meth.name = y.name → meth.sig.returnType = ret → meth.locks = false →
      own_E p e below (own_P Q s rm.cells rm.slots) (s₁.setTop (entryFrame m as maxL))) : own_Con l Z y bytes maxL ret ws rm as h Q := by
  refine MetFree.of_bodySF hpl hisR ?_
  intro p e s m args below meth c s₁ Bd hml hP hK
  obtain ⟨rfl, hZ, hh⟩ := hP
  have X0 : Stand p l e rm s m args below meth c s₁ [] 0 0 := Stand.of_body Bd
  have e0 : s₁.heap = h := by rw [← hh, Bd.state]; rfl
  exact body p e s m below meth c s₁ X0 e0 Bd.exec hZ Bd.bytes hml (findClass_of_methodNamed Bd.named) (name_of_methodNamed Bd.named Bd.method).1 Bd.returns Bd.notSynchronized
theorem own_cast {g g' : JFrame} (q : g = g') (k : own_E p e below P (T.setTop g')) : own_E p e below P (T.setTop g) := q ▸ k
/-! returns -/
theorem own_retZ (X : Stand p l e R s m args below meth c T locs cells slots) (hx : p.tables.exec = Jvm.exec) (hret : meth.sig.returnType = some .boolean) (hlk : meth.locks = false) {pc : Nat} {Ls : Array Slot} {z : Int32} {C S : Nat} {rest : List Value} (hd : decode c.code pc = .ok (.ireturn, 1)) (hz : nar .boolean z = z) (hc : cells ≤ C) (hs : slots ≤ S) (hQ : Q (some (.int z)) T.heap locs) :
    own_E p e below (own_P Q s C S) (T.setTop (mkF m pc Ls (.int z :: rest))) := by
  obtain ⟨fs, hr, hrun, hended, hW, hsame⟩ := X.leave (v := some (.int z)) (fun q => by rw [hret] at q; cases q) hlk
  exact ⟨_, _, retN X hx (t := .boolean) hret (by simp) hd (by rw [hz]; exact hr), hrun, hended, _, _, rfl, hQ, ⟨_, rfl⟩, hW, hsame.mono hc hs⟩
theorem own_retI (X : Stand p l e R s m args below meth c T locs cells slots) (hx : p.tables.exec = Jvm.exec) (hret : meth.sig.returnType = some .int) (hlk : meth.locks = false) {pc : Nat} {Ls : Array Slot} {z : Int32} {C S : Nat} (hd : decode c.code pc = .ok (.ireturn, 1)) (hc : cells ≤ C) (hs : slots ≤ S) (hQ : Q (some (.int z)) T.heap locs) :
    own_E p e below (own_P Q s C S) (T.setTop (mkF m pc Ls [.int z])) := by
  obtain ⟨fs, hr, hrun, hended, hW, hsame⟩ := X.leave (v := some (.int z)) (fun q => by rw [hret] at q; cases q) hlk
  exact ⟨_, _, X.ireturnOut hx hret rfl (Or.inl rfl) hd hr, hrun, hended, _, _, rfl, hQ, ⟨_, rfl⟩, hW, hsame.mono hc hs⟩
theorem own_retJ (X : Stand p l e R s m args below meth c T locs cells slots) (hx : p.tables.exec = Jvm.exec) (hret : meth.sig.returnType = some .long) (hlk : meth.locks = false) {pc : Nat} {Ls : Array Slot} {z : Int64} {C S : Nat} (hd : decode c.code pc = .ok (.lreturn, 1)) (hc : cells ≤ C) (hs : slots ≤ S) (hQ : Q (some (.long z)) T.heap locs) :
    own_E p e below (own_P Q s C S) (T.setTop (mkF m pc Ls [.long z])) := by
  obtain ⟨fs, hr, hrun, hended, hW, hsame⟩ := X.leave (v := some (.long z)) (fun q => by rw [hret] at q; cases q) hlk
  exact ⟨_, _, X.lreturnOut hx hret hd hr, hrun, hended, _, _, rfl, hQ, ⟨_, rfl⟩, hW, hsame.mono hc hs⟩
theorem own_retA (X : Stand p l e R s m args below meth c T locs cells slots) (hx : p.tables.exec = Jvm.exec) {t : FieldType} (ht : t.isReference = true) (hret : meth.sig.returnType = some t) (hlk : meth.locks = false) {pc : Nat} {Ls : Array Slot} {a : Addr} {C S : Nat} (hd : decode c.code pc = .ok (.areturn, 1)) (hc : cells ≤ C) (hs : slots ≤ S) (hQ : Q (some (.ref a)) T.heap locs) :
    own_E p e below (own_P Q s C S) (T.setTop (mkF m pc Ls [.ref a])) := by
  obtain ⟨fs, hr, hrun, hended, hW, hsame⟩ := X.leave (v := some (.ref a)) (fun q => by rw [hret] at q; cases q) hlk
  exact ⟨_, _, X.areturnOut hx (w := .ref a) rfl hret ht hd hr, hrun, hended, _, _, rfl, hQ, ⟨_, rfl⟩, hW, hsame.mono hc hs⟩
theorem own_retV (X : Stand p l e R s m args below meth c T locs cells slots) (hx : p.tables.exec = Jvm.exec) (hret : meth.sig.returnType = none) (hlk : meth.locks = false) {pc : Nat} {Ls : Array Slot} {C S : Nat} (hd : decode c.code pc = .ok (.return_, 1)) (hc : cells ≤ C) (hs : slots ≤ S) (hQ : Q none T.heap locs) :
    own_E p e below (own_P Q s C S) (T.setTop (mkF m pc Ls [])) := by
  obtain ⟨fs, hr, hrun, hended, hW, hsame⟩ := X.leave (v := none) (fun _ => rfl) hlk
  exact ⟨_, _, X.returnOut hx hret hd hr, hrun, hended, _, _, rfl, hQ, ⟨_, rfl⟩, hW, hsame.mono hc hs⟩
/-! calls by a contract -/
theorem own_callS {y : MethodName} {bytes : ByteArray} {maxL : Nat} {ret : Option FieldType} {rm : Room} {own : String} {index : Nat} {as : List Value} (X : Stand p l e R s m args below meth c T locs cells slots) (hx : p.tables.exec = Jvm.exec) (hZ : Z.Warmed39 s.vm) (hown : s.vm.findClass own = some m.cls) (hT : T.heap = h) (hM : own_Con l Z y bytes maxL ret [] rm as.toArray h Q)
    (w1 : (Jvm.Cond.methodLink own index y).before a0 Z = true) (w2 : (Jvm.Cond.static y).before a0 Z = true) (w3 : (Jvm.Cond.initialized y.cls).before a0 Z = true) (w4 : (Jvm.Cond.code y bytes maxL ret).before a0 Z = true) (hy : y.cls ≠ "java/lang/invoke/MethodHandle" ∧ y.cls ≠ "java/lang/invoke/VarHandle") {ps : List FieldType} {r : Option FieldType} (hpd : parseMethodDescriptor y.desc = some ⟨ps, r⟩) (hlen : as.length = ps.length)
    {pc : Nat} {Ls : Array Slot} {st rest : List Value} (hml : Ls.size = c.maxLocals) (hst : st = as.reverse ++ rest) (hd : decode c.code pc = .ok (.invokestatic index, 3)) (W : Nat) (hW : 2 * 0 + (rest.map fun v => v.category).sum ≤ W) (hf : rm.frames + 1 ≤ R.frames) (hl : W + (maxL + 11) + rm.locals ≤ R.locals) (hc : cells + rm.cells ≤ R.cells) (hs : slots + rm.slots ≤ R.slots)
    (k : ∀ (v : Option Value) (T' : State) (L : List Loc), Stand p l e R s m args below meth c T' (locs ++ L) (cells + rm.cells) (slots + rm.slots) → Q v T'.heap L → own_E p e below P (T'.setTop (mkF m (pc + 3) Ls (v.toList ++ rest)))) :
    own_E p e below P (T.setTop (mkF m pc Ls st)) := by
  obtain ⟨v, _, ⟨T', L', k', n'⟩, -, X', ⟨L, hQ, h1, h2, h3⟩, stp⟩ := Jvm.LawKit.callS X hx hown (mvT hZ w1) (mvT hZ w2) (mvT hZ w3) (mvT hZ w4) hy (backOf (W := W) hM hZ w4 w3 hf hl) (g := mkF m pc Ls st) rfl hml (argsL := as) (rest := rest) (lenOf hpd hlen) hst hW hd (fun _ _ => ⟨rfl, hT, hc, hs⟩)
  dsimp only [Pt.U, Pt.locs, Pt.cells, Pt.slots] at X' h1 h2 h3 stp hQ
  subst h1 h2 h3
  exact own_s stp (k v T' L X' hQ)
theorem own_callI {y : MethodName} {bytes : ByteArray} {maxL : Nat} {rm : Room} {own : String} {index : Nat} {a : Addr} {as : List Value} (X : Stand p l e R s m args below meth c T locs cells slots) (hx : p.tables.exec = Jvm.exec) (hZ : Z.Warmed39 s.vm) (hown : s.vm.findClass own = some m.cls) (hT : T.heap = h) (hM : own_Con l Z y bytes maxL none [] rm (.ref a :: as).toArray h Q) (hy1 : y.name = "<init>")
    (w1 : (Jvm.Cond.methodLink own index y).before a0 Z = true) (w2 : (Jvm.Cond.instanceMethod y).before a0 Z = true) (w3 : (Jvm.Cond.initialized y.cls).before a0 Z = true) (w4 : (Jvm.Cond.code y bytes maxL none).before a0 Z = true) (hy : y.cls ≠ "java/lang/invoke/MethodHandle" ∧ y.cls ≠ "java/lang/invoke/VarHandle") {ps : List FieldType} {r : Option FieldType} (hpd : parseMethodDescriptor y.desc = some ⟨ps, r⟩) (hlen : as.length = ps.length)
    {pc : Nat} {Ls : Array Slot} {st rest : List Value} (hml : Ls.size = c.maxLocals) (hst : st = as.reverse ++ .ref a :: rest) (hd : decode c.code pc = .ok (.invokespecial index, 3)) (W : Nat) (hW : 2 * 0 + (rest.map fun v => v.category).sum ≤ W) (hf : rm.frames + 1 ≤ R.frames) (hl : W + (maxL + 11) + rm.locals ≤ R.locals) (hc : cells + rm.cells ≤ R.cells) (hs : slots + rm.slots ≤ R.slots)
    (k : ∀ (v : Option Value) (T' : State) (L : List Loc), Stand p l e R s m args below meth c T' (locs ++ L) (cells + rm.cells) (slots + rm.slots) → Q v T'.heap L → own_E p e below P (T'.setTop (mkF m (pc + 3) Ls (v.toList ++ rest)))) :
    own_E p e below P (T.setTop (mkF m pc Ls st)) := by
  obtain ⟨v, _, ⟨T', L', k', n'⟩, -, X', ⟨L, hQ, h1, h2, h3⟩, stp⟩ := X.specialBack hx hy1 hown (mvT hZ w1) (mvT hZ w2) (mvT hZ w4) hy (backOf (W := W) hM hZ w4 w3 hf hl) (g := mkF m pc Ls st) rfl hml (Steps.refl _) (a := a) (argsL := as) (rest := rest) (lenOf hpd hlen) hst hW hd (fun _ _ => ⟨rfl, hT, hc, hs⟩)
  dsimp only [Pt.U, Pt.locs, Pt.cells, Pt.slots] at X' h1 h2 h3 stp hQ
  subst h1 h2 h3
  exact own_t stp (k v T' L X' hQ)
theorem own_callV {y : MethodName} {bytes : ByteArray} {maxL : Nat} {ret : Option FieldType} {rm : Room} {own : String} {index : Nat} {a : Addr} {as : List Value} (X : Stand p l e R s m args below meth c T locs cells slots) (hx : p.tables.exec = Jvm.exec) (hZ : Z.Warmed39 s.vm) (hown : s.vm.findClass own = some m.cls) (hT : T.heap = h) (hM : own_Con l Z y bytes maxL ret [] rm (.ref a :: as).toArray h Q) (hE : Exa Z h a y.cls)
    (w1 : (Jvm.Cond.methodLink own index y).before a0 Z = true) (w2 : (Jvm.Cond.declares y).before a0 Z = true) (w5 : (Jvm.Cond.selects y.cls y y).before a0 Z = true) (w6 : (Jvm.Cond.instanceMethod y).before a0 Z = true) (w3 : (Jvm.Cond.initialized y.cls).before a0 Z = true) (w4 : (Jvm.Cond.code y bytes maxL ret).before a0 Z = true) (hy : y.cls ≠ "java/lang/invoke/MethodHandle" ∧ y.cls ≠ "java/lang/invoke/VarHandle") {ps : List FieldType} {r : Option FieldType} (hpd : parseMethodDescriptor y.desc = some ⟨ps, r⟩) (hlen : as.length = ps.length)
    {pc : Nat} {Ls : Array Slot} {st rest : List Value} (hml : Ls.size = c.maxLocals) (hst : st = as.reverse ++ .ref a :: rest) (hd : decode c.code pc = .ok (.invokevirtual index, 3)) (W : Nat) (hW : 2 * 0 + (rest.map fun v => v.category).sum ≤ W) (hf : rm.frames + 1 ≤ R.frames) (hl : W + (maxL + 11) + rm.locals ≤ R.locals) (hc : cells + rm.cells ≤ R.cells) (hs : slots + rm.slots ≤ R.slots)
    (k : ∀ (v : Option Value) (T' : State) (L : List Loc), Stand p l e R s m args below meth c T' (locs ++ L) (cells + rm.cells) (slots + rm.slots) → Q v T'.heap L → own_E p e below P (T'.setTop (mkF m (pc + 3) Ls (v.toList ++ rest)))) :
    own_E p e below P (T.setTop (mkF m pc Ls st)) := by
  obtain ⟨cq, kq, qa, qb, qc⟩ := isOf hZ hT hE
  obtain ⟨v, _, ⟨T', L', k', n'⟩, -, X', ⟨L, hQ, h1, h2, h3⟩, stp⟩ := X.virtualBack hx hown (mvT hZ w1) (mvT hZ w2) (notFace_of_selects (args := #[]) (mvT hZ w5)) (mvT hZ w5) (mvT hZ w6) hy (backOf (W := W) hM hZ w4 w3 hf hl) qa qc (g := mkF m pc Ls st) rfl hml (Steps.refl _) (argsL := as) (rest := rest) (lenOf hpd hlen) hst hW hd (fun _ _ => ⟨rfl, hT, hc, hs⟩)
  dsimp only [Pt.U, Pt.locs, Pt.cells, Pt.slots] at X' h1 h2 h3 stp hQ
  subst h1 h2 h3
  exact own_t stp (k v T' L X' hQ)
theorem own_callP {y : MethodName} {bytes : ByteArray} {maxL : Nat} {ret : Option FieldType} {rm : Room} {own : String} {index kn : Nat} {a : Addr} {as : List Value} (X : Stand p l e R s m args below meth c T locs cells slots) (hx : p.tables.exec = Jvm.exec) (hZ : Z.Warmed39 s.vm) (hown : s.vm.findClass own = some m.cls) (hT : T.heap = h) (hM : own_Con l Z y bytes maxL ret [] rm (.ref a :: as).toArray h Q) (hE : Exa Z h a y.cls)
    (w1 : (Jvm.Cond.methodLink own index y).before a0 Z = true) (w2 : (Jvm.Cond.instantiable y.cls kn).before a0 Z = true) (w5 : (Jvm.Cond.privateMethod y).before a0 Z = true) (w6 : (Jvm.Cond.instanceMethod y).before a0 Z = true) (w3 : (Jvm.Cond.initialized y.cls).before a0 Z = true) (w4 : (Jvm.Cond.code y bytes maxL ret).before a0 Z = true) (hy : y.cls ≠ "java/lang/invoke/MethodHandle" ∧ y.cls ≠ "java/lang/invoke/VarHandle") {ps : List FieldType} {r : Option FieldType} (hpd : parseMethodDescriptor y.desc = some ⟨ps, r⟩) (hlen : as.length = ps.length)
    {pc : Nat} {Ls : Array Slot} {st rest : List Value} (hml : Ls.size = c.maxLocals) (hst : st = as.reverse ++ .ref a :: rest) (hd : decode c.code pc = .ok (.invokevirtual index, 3)) (W : Nat) (hW : 2 * 0 + (rest.map fun v => v.category).sum ≤ W) (hf : rm.frames + 1 ≤ R.frames) (hl : W + (maxL + 11) + rm.locals ≤ R.locals) (hc : cells + rm.cells ≤ R.cells) (hs : slots + rm.slots ≤ R.slots)
    (k : ∀ (v : Option Value) (T' : State) (L : List Loc), Stand p l e R s m args below meth c T' (locs ++ L) (cells + rm.cells) (slots + rm.slots) → Q v T'.heap L → own_E p e below P (T'.setTop (mkF m (pc + 3) Ls (v.toList ++ rest)))) :
    own_E p e below P (T.setTop (mkF m pc Ls st)) := by
  obtain ⟨cq, hq, hq'⟩ := hE.cell
  have hi : (Jvm.Cond.instantiable y.cls kn).before args s = true := mvT hZ w2
  obtain ⟨ck, kk, hck, hkk, -, hniab, -, -⟩ := Cond.instantiable_spec hi
  have hpriv : s.PrivateAt y := Cond.privateMethod_at (mvP hZ w5 (args := #[]))
  have hins : (Jvm.Cond.instanceMethod y).before args s = true := mvT hZ w6
  have hsel : (Jvm.Cond.selects y.cls y y).before args s = true := selects_self_of_private hck hkk (Bool.or_eq_false_iff.mp hniab).1 hpriv hins hy
  obtain ⟨v, _, ⟨T', L', k', n'⟩, -, X', ⟨L, hQ, h1, h2, h3⟩, stp⟩ := X.privateBack hx hown (mvT hZ w1) hins hsel hpriv (mvT hZ w4) hy (backOf (W := W) hM hZ w4 w3 hf hl) (g := mkF m pc Ls st) rfl hml (Steps.refl _) (a := a) (cell := cq) (by rw [hT]; exact hq) hq' (argsL := as) (rest := rest) (lenOf hpd hlen) hst hW hd (fun _ _ => ⟨rfl, hT, hc, hs⟩)
  dsimp only [Pt.U, Pt.locs, Pt.cells, Pt.slots] at X' h1 h2 h3 stp hQ
  subst h1 h2 h3
  exact own_t stp (k v T' L X' hQ)
/-! arrays: a length and a function from places to values -/
def own_IA (Z : State) (h : Heap) (a : Addr) (ty : FieldType) (n : Nat) (f : Nat → Int32) : Prop := ∃ cl : Cell, Arr Z h a cl ty ∧ cl.slots.size = n ∧ ∀ i, i < n → cl.slots[i]? = some (.int (f i))
def own_JA (Z : State) (h : Heap) (a : Addr) (n : Nat) (f : Nat → Int64) : Prop := ∃ cl : Cell, Arr Z h a cl .long ∧ cl.slots.size = n ∧ ∀ i, i < n → cl.slots[i]? = some (.long (f i))
def own_set {α : Type} (f : Nat → α) (i : Nat) (v : α) : Nat → α := fun q => if q = i then v else f q
theorem own_set_same {α : Type} (f : Nat → α) (i : Nat) (v : α) : own_set f i v i = v := by simp [own_set]
theorem own_set_other {α : Type} (f : Nat → α) {i q : Nat} (v : α) (hq : q ≠ i) : own_set f i v q = f q := by simp [own_set, hq]
variable {a b : Addr} {ty : FieldType} {n : Nat} {f : Nat → Int32} {fJ : Nat → Int64} {ws : List Addr} {sl : Nat} {v : Value}
theorem own_IA.lt (F : own_IA Z h a ty n f) : a < h.size := by obtain ⟨cl, A, -⟩ := F; exact A.lt
theorem own_JA.lt (F : own_JA Z h a n fJ) : a < h.size := by obtain ⟨cl, A, -⟩ := F; exact A.lt
theorem own_IA.ext (F : own_IA Z h a ty n f) (E : Ext h h') : own_IA Z h' a ty n f := by obtain ⟨cl, A, r⟩ := F; exact ⟨cl, A.ext E, r⟩
theorem own_JA.ext (F : own_JA Z h a n fJ) (E : Ext h h') : own_JA Z h' a n fJ := by obtain ⟨cl, A, r⟩ := F; exact ⟨cl, A.ext E, r⟩
theorem own_IA.other (F : own_IA Z h b ty n f) (W : Wr h h' a sl v) (q : b ≠ a) : own_IA Z h' b ty n f := by obtain ⟨cl, A, r⟩ := F; exact ⟨cl, A.other W q, r⟩
theorem own_JA.other (F : own_JA Z h b n fJ) (W : Wr h h' a sl v) (q : b ≠ a) : own_JA Z h' b n fJ := by obtain ⟨cl, A, r⟩ := F; exact ⟨cl, A.other W q, r⟩
theorem own_IA.keep (F : own_IA Z h a ty n f) (K : Keep h h' ws) (q : a ∉ ws) : own_IA Z h' a ty n f := by obtain ⟨cl, A, r⟩ := F; exact ⟨cl, ⟨K.2.1 a cl A.1 q, A.2⟩, r⟩
theorem own_JA.keep (F : own_JA Z h a n fJ) (K : Keep h h' ws) (q : a ∉ ws) : own_JA Z h' a n fJ := by obtain ⟨cl, A, r⟩ := F; exact ⟨cl, ⟨K.2.1 a cl A.1 q, A.2⟩, r⟩
theorem own_IA.congr {f' : Nat → Int32} (F : own_IA Z h a ty n f) (q : ∀ i, i < n → f i = f' i) : own_IA Z h a ty n f' := by obtain ⟨cl, A, S, H⟩ := F; exact ⟨cl, A, S, fun i hi => by rw [← q i hi]; exact H i hi⟩
theorem own_JA.congr {f' : Nat → Int64} (F : own_JA Z h a n fJ) (q : ∀ i, i < n → fJ i = f' i) : own_JA Z h a n f' := by obtain ⟨cl, A, S, H⟩ := F; exact ⟨cl, A, S, fun i hi => by rw [← q i hi]; exact H i hi⟩
theorem own_ins {cl : Cell} {j : Int32} {i : Nat} (S : cl.slots.size = n) (hj : ¬ j < 0) (hi : j.toNatClampNeg = i) (hin : i < n) : ¬ (j < 0 ∨ cl.slots.size ≤ j.toNatClampNeg) := by
  rintro (q | q)
  · exact hj q
  · rw [S, hi] at q; omega
theorem own_setI {cl : Cell} {i : Nat} {x : Int32} (W : Wr h h' a i (.int x)) (A : Arr Z h a cl ty) (S : cl.slots.size = n) (H : ∀ q, q < n → cl.slots[q]? = some (.int (f q))) : own_IA Z h' a ty n (own_set f i x) := by
  refine ⟨_, A.same W, by rw [sz_set]; exact S, fun q hq => ?_⟩
  by_cases u : q = i
  · subst u; simp [Cell.setSlot, own_set, S, hq]
  · rw [own_set_other _ _ u, ← H q hq]; exact Array.getElem?_setIfInBounds_ne (Ne.symm u)
theorem own_setJ {cl : Cell} {i : Nat} {x : Int64} (W : Wr h h' a i (.long x)) (A : Arr Z h a cl .long) (S : cl.slots.size = n) (H : ∀ q, q < n → cl.slots[q]? = some (.long (fJ q))) : own_JA Z h' a n (own_set fJ i x) := by
  refine ⟨_, A.same W, by rw [sz_set]; exact S, fun q hq => ?_⟩
  by_cases u : q = i
  · subst u; simp [Cell.setSlot, own_set, S, hq]
  · rw [own_set_other _ _ u, ← H q hq]; exact Array.getElem?_setIfInBounds_ne (Ne.symm u)
theorem own_newI (X : Stand p l e R s m args below meth c T locs cells slots) (hx : p.tables.exec = Jvm.exec) (hZ : Z.Warmed39 s.vm) (hT : T.heap = h) {aty : ArrayType} (w : (Jvm.Cond.arrayClass (newarray.typeOf aty)).before a0 Z = true) (hdv : defaultValue (newarray.typeOf aty) = .int 0) {pc : Nat} {Ls : Array Slot} {rest : List Value} {z : Int32} (hd : decode c.code pc = .ok (.newarray aty, 2)) (hz : ¬ z < 0) (hzn : z.toNatClampNeg = n) (cap : Nat) (hcap : n ≤ cap) (hb : cap * 8 ≤ 536870912) (hc : cells + 1 ≤ R.cells) (hl : slots + cap ≤ R.slots)
    (k : ∀ (T' : State) (h' : Heap) (a : Nat), a = h.size → Stand p l e R s m args below meth c T' locs (cells + 1) (slots + cap) → T'.heap = h' → Ext h h' → own_IA Z h' a (newarray.typeOf aty) n (fun _ => 0) → own_E p e below P (T'.setTop (mkF m (pc + 2) Ls (.ref a :: rest)))) :
    own_E p e below P (T.setTop (mkF m pc Ls (.int z :: rest))) := by
  obtain ⟨T', h', cA, X', e', E, A, st⟩ := newP X hx hZ w hT (g := mkF m pc Ls (.int z :: rest)) rfl hd rfl hz (cap := cap) (by rw [hzn]; exact hcap) hb hc hl
  refine own_s st (k T' h' _ rfl X' e' E ⟨_, A, by rw [sz_new, hzn], fun i hi => ?_⟩)
  simp [newA, hzn, hi, hdv]
theorem own_newJ (X : Stand p l e R s m args below meth c T locs cells slots) (hx : p.tables.exec = Jvm.exec) (hZ : Z.Warmed39 s.vm) (hT : T.heap = h) (w : (Jvm.Cond.arrayClass .long).before a0 Z = true) {pc : Nat} {Ls : Array Slot} {rest : List Value} {z : Int32} (hd : decode c.code pc = .ok (.newarray .long, 2)) (hz : ¬ z < 0) (hzn : z.toNatClampNeg = n) (cap : Nat) (hcap : n ≤ cap) (hb : cap * 8 ≤ 536870912) (hc : cells + 1 ≤ R.cells) (hl : slots + cap ≤ R.slots)
    (k : ∀ (T' : State) (h' : Heap) (a : Nat), a = h.size → Stand p l e R s m args below meth c T' locs (cells + 1) (slots + cap) → T'.heap = h' → Ext h h' → own_JA Z h' a n (fun _ => 0) → own_E p e below P (T'.setTop (mkF m (pc + 2) Ls (.ref a :: rest)))) :
    own_E p e below P (T.setTop (mkF m pc Ls (.int z :: rest))) := by
  obtain ⟨T', h', cA, X', e', E, A, st⟩ := newP X hx hZ (aty := .long) w hT (g := mkF m pc Ls (.int z :: rest)) rfl hd rfl hz (cap := cap) (by rw [hzn]; exact hcap) hb hc hl
  refine own_s st (k T' h' _ rfl X' e' E ⟨_, A, by rw [sz_new, hzn], fun i hi => ?_⟩)
  simp [newA, hzn, hi, newarray.typeOf, defaultValue]
theorem own_lenI (X : Stand p l e R s m args below meth c T locs cells slots) (hx : p.tables.exec = Jvm.exec) (hZ : Z.Warmed39 s.vm) (hT : T.heap = h) (F : own_IA Z h a ty n f) {pc : Nat} {Ls : Array Slot} {rest : List Value} (hd : decode c.code pc = .ok (.arraylength, 1)) {z : Int32} (hz : n.toInt32 = z) (k : own_E p e below P (T.setTop (mkF m (pc + 1) Ls (.int z :: rest)))) :
    own_E p e below P (T.setTop (mkF m pc Ls (.ref a :: rest))) := by
  obtain ⟨cl, A, S, H⟩ := F
  exact own_s (X.arraylength hx (cell := cl) (by rw [hT]; exact A.1) (State.isArrayOf_alike hZ.alike A.2.1) (g := mkF m pc Ls (.ref a :: rest)) rfl (rest := rest) rfl hd) (by rw [S, hz]; exact k)
theorem own_lenJ (X : Stand p l e R s m args below meth c T locs cells slots) (hx : p.tables.exec = Jvm.exec) (hZ : Z.Warmed39 s.vm) (hT : T.heap = h) (F : own_JA Z h a n fJ) {pc : Nat} {Ls : Array Slot} {rest : List Value} (hd : decode c.code pc = .ok (.arraylength, 1)) {z : Int32} (hz : n.toInt32 = z) (k : own_E p e below P (T.setTop (mkF m (pc + 1) Ls (.int z :: rest)))) :
    own_E p e below P (T.setTop (mkF m pc Ls (.ref a :: rest))) := by
  obtain ⟨cl, A, S, H⟩ := F
  exact own_s (X.arraylength hx (cell := cl) (by rw [hT]; exact A.1) (State.isArrayOf_alike hZ.alike A.2.1) (g := mkF m pc Ls (.ref a :: rest)) rfl (rest := rest) rfl hd) (by rw [S, hz]; exact k)
theorem own_ildI (X : Stand p l e R s m args below meth c T locs cells slots) (hx : p.tables.exec = Jvm.exec) (hZ : Z.Warmed39 s.vm) (hT : T.heap = h) (F : own_IA Z h a .int n f) {pc i : Nat} {Ls : Array Slot} {rest : List Value} {j x : Int32} (hd : decode c.code pc = .ok (.iaload, 1)) (hj : ¬ j < 0) (hi : j.toNatClampNeg = i) (hin : i < n) (hv : f i = x) (k : own_E p e below P (T.setTop (mkF m (pc + 1) Ls (.int x :: rest)))) :
    own_E p e below P (T.setTop (mkF m pc Ls (.int j :: .ref a :: rest))) := by
  obtain ⟨cl, A, S, H⟩ := F
  subst hv
  exact own_s (X.iaload hx (j := j) (v := .int (f i)) (by rw [hT]; exact A.1) (State.isArrayOf_alike hZ.alike A.2.1) A.2.2 (own_ins S hj hi hin) (by rw [hi]; exact H i hin) (g := mkF m pc Ls (.int j :: .ref a :: rest)) rfl rfl hd) k
theorem own_ildB (X : Stand p l e R s m args below meth c T locs cells slots) (hx : p.tables.exec = Jvm.exec) (hZ : Z.Warmed39 s.vm) (hT : T.heap = h) (F : own_IA Z h a .byte n f) {pc i : Nat} {Ls : Array Slot} {rest : List Value} {j x : Int32} (hd : decode c.code pc = .ok (.baload, 1)) (hj : ¬ j < 0) (hi : j.toNatClampNeg = i) (hin : i < n) (hv : f i = x) (k : own_E p e below P (T.setTop (mkF m (pc + 1) Ls (.int x :: rest)))) :
    own_E p e below P (T.setTop (mkF m pc Ls (.int j :: .ref a :: rest))) := by
  obtain ⟨cl, A, S, H⟩ := F
  subst hv
  exact own_s (X.baloadBytes hx (j := j) (v := .int (f i)) (by rw [hT]; exact A.1) (State.isArrayOf_alike hZ.alike A.2.1) A.2.2 (own_ins S hj hi hin) (by rw [hi]; exact H i hin) (g := mkF m pc Ls (.int j :: .ref a :: rest)) rfl rfl hd) k
theorem own_ildZ (X : Stand p l e R s m args below meth c T locs cells slots) (hx : p.tables.exec = Jvm.exec) (hZ : Z.Warmed39 s.vm) (hT : T.heap = h) (F : own_IA Z h a .boolean n f) {pc i : Nat} {Ls : Array Slot} {rest : List Value} {j x : Int32} (hd : decode c.code pc = .ok (.baload, 1)) (hj : ¬ j < 0) (hi : j.toNatClampNeg = i) (hin : i < n) (hv : f i = x) (k : own_E p e below P (T.setTop (mkF m (pc + 1) Ls (.int x :: rest)))) :
    own_E p e below P (T.setTop (mkF m pc Ls (.int j :: .ref a :: rest))) := by
  obtain ⟨cl, A, S, H⟩ := F
  subst hv
  exact own_s (X.baloadBooleans hx (j := j) (v := .int (f i)) (by rw [hT]; exact A.1) (State.isArrayOf_alike hZ.alike A.2.1) A.2.2 (own_ins S hj hi hin) (by rw [hi]; exact H i hin) (g := mkF m pc Ls (.int j :: .ref a :: rest)) rfl rfl hd) k
theorem own_ildJ (X : Stand p l e R s m args below meth c T locs cells slots) (hx : p.tables.exec = Jvm.exec) (hZ : Z.Warmed39 s.vm) (hT : T.heap = h) (F : own_JA Z h a n fJ) {pc i : Nat} {Ls : Array Slot} {rest : List Value} {j : Int32} {x : Int64} (hd : decode c.code pc = .ok (.laload, 1)) (hj : ¬ j < 0) (hi : j.toNatClampNeg = i) (hin : i < n) (hv : fJ i = x) (k : own_E p e below P (T.setTop (mkF m (pc + 1) Ls (.long x :: rest)))) :
    own_E p e below P (T.setTop (mkF m pc Ls (.int j :: .ref a :: rest))) := by
  obtain ⟨cl, A, S, H⟩ := F
  subst hv
  exact own_s (X.laload hx (j := j) (v := .long (fJ i)) (by rw [hT]; exact A.1) (State.isArrayOf_alike hZ.alike A.2.1) A.2.2 (own_ins S hj hi hin) (by rw [hi]; exact H i hin) (g := mkF m pc Ls (.int j :: .ref a :: rest)) rfl rfl hd) k
theorem own_stI (X : Stand p l e R s m args below meth c T locs cells slots) (hx : p.tables.exec = Jvm.exec) (hZ : Z.Warmed39 s.vm) (hT : T.heap = h) (F : own_IA Z h a .int n f) {pc i : Nat} {Ls : Array Slot} {rest : List Value} {j x : Int32} (hd : decode c.code pc = .ok (.iastore, 1)) (hj : ¬ j < 0) (hi : j.toNatClampNeg = i) (hin : i < n)
    (k : ∀ (T' : State) (h' : Heap), Stand p l e R s m args below meth c T' (locs ++ [⟨a, i⟩]) cells slots → T'.heap = h' → Wr h h' a i (.int x) → own_IA Z h' a .int n (own_set f i x) → own_E p e below P (T'.setTop (mkF m (pc + 1) Ls rest))) :
    own_E p e below P (T.setTop (mkF m pc Ls (.int x :: .int j :: .ref a :: rest))) := by
  obtain ⟨cl, A, S, H⟩ := F
  obtain ⟨T', h', X', e', W, st⟩ := stI X hx hZ hT A (j := j) (own_ins S hj hi hin) (g := mkF m pc Ls (.int x :: .int j :: .ref a :: rest)) rfl rfl hd
  subst hi
  exact own_s st (k T' h' X' e' W (own_setI W A S H))
theorem own_stB (X : Stand p l e R s m args below meth c T locs cells slots) (hx : p.tables.exec = Jvm.exec) (hZ : Z.Warmed39 s.vm) (hT : T.heap = h) (F : own_IA Z h a .byte n f) {pc i : Nat} {Ls : Array Slot} {rest : List Value} {j x : Int32} (hd : decode c.code pc = .ok (.bastore, 1)) (hj : ¬ j < 0) (hi : j.toNatClampNeg = i) (hin : i < n)
    (k : ∀ (T' : State) (h' : Heap), Stand p l e R s m args below meth c T' (locs ++ [⟨a, i⟩]) cells slots → T'.heap = h' → Wr h h' a i (.int (nar .byte x)) → own_IA Z h' a .byte n (own_set f i (nar .byte x)) → own_E p e below P (T'.setTop (mkF m (pc + 1) Ls rest))) :
    own_E p e below P (T.setTop (mkF m pc Ls (.int x :: .int j :: .ref a :: rest))) := by
  obtain ⟨cl, A, S, H⟩ := F
  obtain ⟨T', h', X', e', W, st⟩ := stB X hx hZ hT A (j := j) (own_ins S hj hi hin) (g := mkF m pc Ls (.int x :: .int j :: .ref a :: rest)) rfl rfl hd
  subst hi
  exact own_s st (k T' h' X' e' W (own_setI W A S H))
theorem own_stZ (X : Stand p l e R s m args below meth c T locs cells slots) (hx : p.tables.exec = Jvm.exec) (hZ : Z.Warmed39 s.vm) (hT : T.heap = h) (F : own_IA Z h a .boolean n f) {pc i : Nat} {Ls : Array Slot} {rest : List Value} {j x : Int32} (hd : decode c.code pc = .ok (.bastore, 1)) (hj : ¬ j < 0) (hi : j.toNatClampNeg = i) (hin : i < n)
    (k : ∀ (T' : State) (h' : Heap), Stand p l e R s m args below meth c T' (locs ++ [⟨a, i⟩]) cells slots → T'.heap = h' → Wr h h' a i (.int (nar .boolean x)) → own_IA Z h' a .boolean n (own_set f i (nar .boolean x)) → own_E p e below P (T'.setTop (mkF m (pc + 1) Ls rest))) :
    own_E p e below P (T.setTop (mkF m pc Ls (.int x :: .int j :: .ref a :: rest))) := by
  obtain ⟨cl, A, S, H⟩ := F
  obtain ⟨T', h', X', e', W, st⟩ := stZ X hx hZ hT A (j := j) (own_ins S hj hi hin) (g := mkF m pc Ls (.int x :: .int j :: .ref a :: rest)) rfl rfl hd
  subst hi
  exact own_s st (k T' h' X' e' W (own_setI W A S H))
theorem own_stJ (X : Stand p l e R s m args below meth c T locs cells slots) (hx : p.tables.exec = Jvm.exec) (hZ : Z.Warmed39 s.vm) (hT : T.heap = h) (F : own_JA Z h a n fJ) {pc i : Nat} {Ls : Array Slot} {rest : List Value} {j : Int32} {x : Int64} (hd : decode c.code pc = .ok (.lastore, 1)) (hj : ¬ j < 0) (hi : j.toNatClampNeg = i) (hin : i < n)
    (k : ∀ (T' : State) (h' : Heap), Stand p l e R s m args below meth c T' (locs ++ [⟨a, i⟩]) cells slots → T'.heap = h' → Wr h h' a i (.long x) → own_JA Z h' a n (own_set fJ i x) → own_E p e below P (T'.setTop (mkF m (pc + 1) Ls rest))) :
    own_E p e below P (T.setTop (mkF m pc Ls (.long x :: .int j :: .ref a :: rest))) := by
  obtain ⟨cl, A, S, H⟩ := F
  obtain ⟨T', h', X', e', W, st⟩ := stJ X hx hZ hT A (j := j) (own_ins S hj hi hin) (g := mkF m pc Ls (.long x :: .int j :: .ref a :: rest)) rfl rfl hd
  subst hi
  exact own_s st (k T' h' X' e' W (own_setJ W A S H))
theorem own_fr {k : Nat} {L : List Loc} {i : Nat} (N : Fr k L) (g : k ≤ a) : Fr k (L ++ [⟨a, i⟩]) := N.app fun y hy => by cases List.mem_singleton.mp hy; exact g
/-! longs compared -/
theorem own_lcT {x y : Int64} (q : x = y) : lcmpW x y = 0 := (lw_eq x y).mpr q
theorem own_lcF {x y : Int64} (q : ¬ x = y) : ¬ lcmpW x y = 0 := fun r => q ((lw_eq x y).mp r)
theorem own_llT {x y : Int64} (q : x < y) : lcmpW x y < 0 := (lw_lt x y).mpr q
theorem own_llF {x y : Int64} (q : ¬ x < y) : ¬ lcmpW x y < 0 := fun r => q ((lw_lt x y).mp r)
theorem own_lgT {x y : Int64} (q : y < x) : 0 < lcmpW x y := (lw_gt x y).mpr q
theorem own_lgF {x y : Int64} (q : ¬ y < x) : ¬ 0 < lcmpW x y := fun r => q ((lw_gt x y).mp r)
end Own
/-! ### small numbers -/
theorem own_mask (x : Int32) (M : Nat) (hM : M < 2 ^ 31) : ∃ n : Nat, n ≤ M ∧ (x &&& Int32.ofNat M) = Int32.ofNat n := by
  refine ⟨(x &&& Int32.ofNat M).toBitVec.toNat, ?_, ?_⟩
  · rw [Int32.toBitVec_and, BitVec.toNat_and, show (Int32.ofNat M).toBitVec = BitVec.ofNat 32 M from rfl, BitVec.toNat_ofNat, Nat.mod_eq_of_lt (by omega)]
    exact Nat.and_le_right
  · apply Int32.toBitVec_inj.mp
    show _ = BitVec.ofNat 32 _
    rw [BitVec.ofNat_toNat]; simp
theorem own_mod {n k : Nat} (hn : n < 2 ^ 31) (hk : k < 2 ^ 31) : Int32.ofNat n % Int32.ofNat k = Int32.ofNat (n % k) := by
  apply Int32.toInt_inj.mp
  have h1 : n % k ≤ n := Nat.mod_le _ _
  rw [Int32.toInt_mod, Int32.toInt_ofNat_of_lt (by omega), Int32.toInt_ofNat_of_lt (by omega), Int32.toInt_ofNat_of_lt (by omega)]
  exact (Int.ofNat_tmod n k).symm
theorem own_ushr (x : Int32) (s : UInt32) (hs : 0 < s.toNat % 32) : ∃ n : Nat, n < 2 ^ 31 ∧ (x.toUInt32 >>> s).toInt32 = Int32.ofNat n := by
  refine ⟨(x.toUInt32 >>> s).toNat, ?_, ?_⟩
  · rw [UInt32.toNat_shiftRight, Nat.shiftRight_eq_div_pow]
    have := x.toUInt32.toNat_lt
    have h2 : 2 ^ 1 ≤ 2 ^ (s.toNat % 32) := Nat.pow_le_pow_right (by decide) hs
    exact Nat.div_lt_of_lt_mul (by have := Nat.mul_le_mul_right (2 ^ 31) h2; omega)
  · apply Int32.toBitVec_inj.mp
    show (x.toUInt32 >>> s).toBitVec = BitVec.ofNat 32 _
    rw [show (x.toUInt32 >>> s).toNat = (x.toUInt32 >>> s).toBitVec.toNat from rfl, BitVec.ofNat_toNat]; simp
theorem own_nat32 {i : Nat} (h : i < 2 ^ 31) : ¬ Int32.ofNat i < 0 ∧ (Int32.ofNat i).toNatClampNeg = i := by
  rw [Int32.lt_iff_toInt_lt, Int32.toNatClampNeg, Int32.toInt_ofNat_of_lt (by omega)]
  refine ⟨?_, rfl⟩
  show ¬ ((i : Nat) : Int) < 0
  omega
theorem own_offN (x : Int32) (N : Nat) (h0 : 0 < N) (hN : N < 2 ^ 31) : ∃ i : Nat, i < N ∧ ((x &&& (2147483647 : Int32)) % Int32.ofNat N) = Int32.ofNat i := by
  obtain ⟨n, hn, e⟩ := own_mask x 2147483647 (by decide)
  refine ⟨n % N, Nat.mod_lt _ h0, ?_⟩
  rw [show (2147483647 : Int32) = Int32.ofNat 2147483647 from rfl, e, own_mod (by omega) hN]

theorem own_nn {i : Nat} (h : i < 1000) : ¬ Int32.ofNat i < 0 ∧ (Int32.ofNat i).toNatClampNeg = i := by
  rw [Int32.lt_iff_toInt_lt, Int32.toNatClampNeg, Int32.toInt_ofNat_of_lt (by omega)]
  refine ⟨?_, rfl⟩
  show ¬ ((i : Nat) : Int) < 0
  omega
theorem own_lt {i n : Nat} (h : i < n) (hn : n ≤ 255) : Int32.ofNat i < Int32.ofNat n := by
  rw [Int32.lt_iff_toInt_lt, Int32.toInt_ofNat_of_lt (by omega), Int32.toInt_ofNat_of_lt (by omega)]
  omega
theorem own_one (i : Nat) : Int32.ofNat i + (1 : Int32) = Int32.ofNat (i + 1) := (Int32.ofNat_add i 1).symm
def own_sl32 (x : Int64) (m : Int32) : Int32 := (((x * (-7046029254386353131 : Int64)) ^^^ ((x * (-7046029254386353131 : Int64)).toUInt64 >>> ((32 : Int32) &&& 0x3f).toInt64.toUInt64).toInt64)).toInt32 &&& m
def own_sl (x : Int64) : Nat := (own_sl32 x 63).toNatClampNeg
theorem own_m63 (z : Int32) : (z &&& (63 : Int32)) = Int32.ofNat (z &&& (63 : Int32)).toNatClampNeg ∧ (z &&& (63 : Int32)).toNatClampNeg < 64 := by
  obtain ⟨n, hn, e⟩ := own_mask z 63 (by decide)
  have q := own_nat32 (i := n) (by omega)
  rw [show (z &&& (63 : Int32)) = Int32.ofNat n from e, q.2]
  exact ⟨rfl, by omega⟩
theorem own_slx (x : Int64) : own_sl32 x 63 = Int32.ofNat (own_sl x) := (own_m63 _).1
theorem own_sllt (x : Int64) : own_sl x < 64 := (own_m63 _).2
theorem own_nxt {j : Nat} (h : j < 64) : (Int32.ofNat j + (1 : Int32)) &&& (63 : Int32) = Int32.ofNat ((j + 1) % 64) := by
  have : ∀ j : Fin 64, (Int32.ofNat j.1 + (1 : Int32)) &&& (63 : Int32) = Int32.ofNat ((j.1 + 1) % 64) := by decide +kernel
  exact this ⟨j, h⟩
theorem own_sz {z : Nat} (h : z ≤ 2) : ¬ (64 : Int32) < (Int32.ofNat (z + 1)) * (2 : Int32) := by
  have : ∀ z : Fin 3, ¬ (64 : Int32) < (Int32.ofNat (z.1 + 1)) * (2 : Int32) := by decide +kernel
  exact this ⟨z, by omega⟩
/-- where the probing stops: the first place from j on that is free or holds x (at most d steps) -/
def own_find (kf : Nat → Int64) (vf : Nat → Int32) (x : Int64) : Nat → Nat → Nat
  | 0, j => j
  | d + 1, j => if vf j = -1 then j else if kf j = x then j else own_find kf vf x d ((j + 1) % 64)
def own_at (kf : Nat → Int64) (vf : Nat → Int32) (x : Int64) : Nat := own_find kf vf x 3 (own_sl x)
theorem own_find_lt (kf : Nat → Int64) (vf : Nat → Int32) (x : Int64) : ∀ d j, j < 64 → own_find kf vf x d j < 64
  | 0, j, h => h
  | d + 1, j, h => by
    rw [own_find]; split
    · exact h
    · split
      · exact h
      · exact own_find_lt kf vf x d _ (Nat.mod_lt _ (by decide))
theorem own_at_lt (kf : Nat → Int64) (vf : Nat → Int32) (x : Int64) : own_at kf vf x < 64 := own_find_lt _ _ _ _ _ (own_sllt x)
/-- at most m places are in use; each is where the probing for its key stops -/
def own_Inv (m : Nat) (kf : Nat → Int64) (vf : Nat → Int32) : Prop := ∃ P : List Nat, P.length ≤ m ∧ (∀ j, j < 64 → j ∉ P → vf j = -1) ∧ ∀ j, j ∈ P → j < 64 ∧ vf j ≠ -1 ∧ own_at kf vf (kf j) = j
theorem own_four {P : List Nat} (hP : P.length ≤ 3) {a b c d : Nat} (ha : a ∈ P) (hb : b ∈ P) (hc : c ∈ P) (hd : d ∈ P) (h1 : a ≠ b) (h2 : a ≠ c) (h3 : a ≠ d) (h4 : b ≠ c) (h5 : b ≠ d) (h6 : c ≠ d) : False := by
  match P, hP with
  | [], _ => cases ha
  | [p], _ => simp only [List.mem_cons, List.not_mem_nil, or_false] at ha hb hc hd; omega
  | [p, q], _ => simp only [List.mem_cons, List.not_mem_nil, or_false] at ha hb hc hd; omega
  | [p, q, r], _ => simp only [List.mem_cons, List.not_mem_nil, or_false] at ha hb hc hd; omega
theorem own_stop {m : Nat} {kf : Nat → Int64} {vf : Nat → Int32} (I : own_Inv m kf vf) (hm : m ≤ 3) (x : Int64) : vf (own_at kf vf x) = -1 ∨ kf (own_at kf vf x) = x := by
  obtain ⟨P, hP, h1, h2⟩ := I
  have used : ∀ j, j < 64 → vf j ≠ -1 → j ∈ P := fun j hj hv => Classical.byContradiction fun q => hv (h1 j hj q)
  have hs := own_sllt x
  unfold own_at
  generalize own_sl x = s at *
  rw [own_find]
  by_cases a : vf s = -1
  · rw [if_pos a]; exact Or.inl a
  rw [if_neg a]
  by_cases b : kf s = x
  · rw [if_pos b]; exact Or.inr b
  rw [if_neg b, own_find]
  by_cases a1 : vf ((s + 1) % 64) = -1
  · rw [if_pos a1]; exact Or.inl a1
  rw [if_neg a1]
  by_cases b1 : kf ((s + 1) % 64) = x
  · rw [if_pos b1]; exact Or.inr b1
  rw [if_neg b1, own_find]
  by_cases a2 : vf (((s + 1) % 64 + 1) % 64) = -1
  · rw [if_pos a2]; exact Or.inl a2
  rw [if_neg a2]
  by_cases b2 : kf (((s + 1) % 64 + 1) % 64) = x
  · rw [if_pos b2]; exact Or.inr b2
  rw [if_neg b2, own_find]
  refine Or.inl (Classical.byContradiction fun a3 => ?_)
  exact own_four (Nat.le_trans hP hm) (used _ hs a) (used _ (by omega) a1) (used _ (by omega) a2) (used _ (by omega) a3) (by omega) (by omega) (by omega) (by omega) (by omega) (by omega)
theorem own_keepA {kf : Nat → Int64} {vf : Nat → Int32} {x k : Int64} {v : Int32} {j p : Nat} (hj : vf j = -1) (hp : vf p ≠ -1) : ∀ d s, own_find kf vf x d s = p → own_find (own_set kf j k) (own_set vf j v) x d s = p
  | 0, s, h => h
  | d + 1, s, h => by
    rw [own_find] at h ⊢
    by_cases a : vf s = -1
    · rw [if_pos a] at h; subst h; exact absurd a hp
    · rw [if_neg a] at h
      have ne : s ≠ j := fun q => a (by rw [q]; exact hj)
      rw [own_set_other _ _ ne, own_set_other _ _ ne, if_neg a]
      by_cases b : kf s = x
      · rw [if_pos b] at h ⊢; exact h
      · rw [if_neg b] at h ⊢; exact own_keepA hj hp d _ h
theorem own_keepB {kf : Nat → Int64} {vf : Nat → Int32} {x : Int64} {v : Int32} {j : Nat} (hj : vf j = -1) (hv : v ≠ -1) : ∀ d s, own_find kf vf x d s = j → own_find (own_set kf j x) (own_set vf j v) x d s = j
  | 0, s, h => h
  | d + 1, s, h => by
    rw [own_find] at h ⊢
    by_cases q : s = j
    · subst q; rw [own_set_same, own_set_same, if_neg hv, if_pos rfl]
    · rw [own_set_other _ _ q, own_set_other _ _ q]
      by_cases a : vf s = -1
      · rw [if_pos a] at h; exact absurd h q
      · rw [if_neg a] at h ⊢
        by_cases b : kf s = x
        · rw [if_pos b] at h; exact absurd h q
        · rw [if_neg b] at h ⊢; exact own_keepB hj hv d _ h
def own_pk (kf : Nat → Int64) (vf : Nat → Int32) (k : Int64) : Nat → Int64 := if vf (own_at kf vf k) = -1 then own_set kf (own_at kf vf k) k else kf
def own_pv (kf : Nat → Int64) (vf : Nat → Int32) (k : Int64) (v : Int32) : Nat → Int32 := if vf (own_at kf vf k) = -1 then own_set vf (own_at kf vf k) v else vf
theorem own_inv0 (kf : Nat → Int64) : own_Inv 0 kf (fun _ => -1) := ⟨[], Nat.le_refl _, fun _ _ _ => rfl, fun j h => by cases h⟩
theorem own_inv1 {m : Nat} {kf : Nat → Int64} {vf : Nat → Int32} (I : own_Inv m kf vf) {k : Int64} {v : Int32} (hv : v ≠ -1) : own_Inv (m + 1) (own_pk kf vf k) (own_pv kf vf k v) := by
  obtain ⟨P, hP, h1, h2⟩ := I
  unfold own_pk own_pv
  by_cases a : vf (own_at kf vf k) = -1
  · rw [if_pos a, if_pos a]
    refine ⟨own_at kf vf k :: P, by simp; omega, fun j hj hn => ?_, fun j hj => ?_⟩
    · have ne : j ≠ own_at kf vf k := fun q => hn (by simp [q])
      rw [own_set_other _ _ ne]; exact h1 j hj (fun q => hn (by simp [q]))
    · by_cases q : j = own_at kf vf k
      · refine ⟨by rw [q]; exact own_at_lt _ _ _, by rw [q, own_set_same]; exact hv, ?_⟩
        rw [q, own_set_same]; exact own_keepB a hv 3 _ rfl
      · have hj' : j ∈ P := by rcases List.mem_cons.mp hj with r | r; exact absurd r q; exact r
        obtain ⟨g1, g2, g3⟩ := h2 j hj'
        refine ⟨g1, by rw [own_set_other _ _ q]; exact g2, ?_⟩
        rw [own_set_other _ _ q]; exact own_keepA a g2 3 _ g3
  · rw [if_neg a, if_neg a]; exact ⟨P, by omega, h1, h2⟩
theorem own_get1 {m : Nat} {kf : Nat → Int64} {vf : Nat → Int32} (I : own_Inv m kf vf) (hm : m ≤ 2) {k : Int64} {v : Int32} (hv : v ≠ -1) (x : Int64) :
    own_pv kf vf k v (own_at (own_pk kf vf k) (own_pv kf vf k v) x) = if vf (own_at kf vf k) = -1 ∧ x = k then v else vf (own_at kf vf x) := by
  have I' := own_inv1 I (k := k) hv
  have st := own_stop I' (by omega) x
  obtain ⟨P, hP, h1, h2⟩ := I
  by_cases a : vf (own_at kf vf k) = -1
  · have e1 : own_pk kf vf k = own_set kf (own_at kf vf k) k := by unfold own_pk; rw [if_pos a]
    have e2 : own_pv kf vf k v = own_set vf (own_at kf vf k) v := by unfold own_pv; rw [if_pos a]
    rw [e1, e2] at st ⊢
    by_cases q : x = k
    · subst q
      have : own_at (own_set kf (own_at kf vf x) x) (own_set vf (own_at kf vf x) v) x = own_at kf vf x := own_keepB a hv 3 _ rfl
      rw [this, own_set_same]; simp [a]
    · rw [if_neg (fun z => q z.2)]
      by_cases b : own_set vf (own_at kf vf k) v (own_at (own_set kf (own_at kf vf k) k) (own_set vf (own_at kf vf k) v) x) = -1
      · rw [b]
        refine Eq.symm (Classical.byContradiction fun g => ?_)
        have := own_keepA (k := k) (v := v) a g 3 (own_sl x) rfl
        have t : own_at (own_set kf (own_at kf vf k) k) (own_set vf (own_at kf vf k) v) x = own_at kf vf x := this
        rw [t] at b
        have ne : own_at kf vf x ≠ own_at kf vf k := fun z => g (by rw [z]; exact a)
        rw [own_set_other _ _ ne] at b; exact g b
      · have kk := st.resolve_left b
        generalize hp : own_at (own_set kf (own_at kf vf k) k) (own_set vf (own_at kf vf k) v) x = p' at *
        have ne : p' ≠ own_at kf vf k := fun z => q (by rw [← kk, z, own_set_same])
        rw [own_set_other _ _ ne] at b kk ⊢
        have lt : p' < 64 := by rw [← hp]; exact own_at_lt _ _ _
        have mem : p' ∈ P := Classical.byContradiction fun z => b (h1 _ lt z)
        obtain ⟨-, -, g3⟩ := h2 _ mem
        rw [kk] at g3; rw [g3]
  · have e1 : own_pk kf vf k = kf := by unfold own_pk; rw [if_neg a]
    have e2 : own_pv kf vf k v = vf := by unfold own_pv; rw [if_neg a]
    rw [e1, e2, if_neg (fun z => a z.1)]
def own_exp (x : Int64) (n : Int32) (k1 : Int64) (v1 : Int32) (k2 : Int64) (v2 : Int32) (k3 : Int64) (v3 : Int32) : Int32 :=
  if ¬ n < 1 ∧ x = k1 then v1 else if ¬ n < 2 ∧ x = k2 then v2 else if ¬ n < 3 ∧ x = k3 then v3 else -1
section Exp
variable {g0 g1 g2 g3 : Int64 → Int32} {k1 k2 k3 : Int64} {v1 v2 v3 : Int32}
theorem own_y0 (h0 : ∀ x, g0 x = -1) (x : Int64) : g0 x = own_exp x 0 k1 v1 k2 v2 k3 v3 := by
  rw [h0, own_exp, if_neg (fun q => q.1 (by decide)), if_neg (fun q => q.1 (by decide)), if_neg (fun q => q.1 (by decide))]
theorem own_z1 (h0 : ∀ x, g0 x = -1) (h1 : ∀ x, g1 x = if g0 k1 = -1 ∧ x = k1 then v1 else g0 x) (x : Int64) : g1 x = if x = k1 then v1 else -1 := by
  rw [h1, h0, h0]; simp
theorem own_y1 (h0 : ∀ x, g0 x = -1) (h1 : ∀ x, g1 x = if g0 k1 = -1 ∧ x = k1 then v1 else g0 x) (x : Int64) : g1 x = own_exp x 1 k1 v1 k2 v2 k3 v3 := by
  rw [own_z1 h0 h1, own_exp, if_neg (fun q => q.1 (by decide) : ¬ (¬ (1 : Int32) < 2 ∧ x = k2)), if_neg (fun q => q.1 (by decide) : ¬ (¬ (1 : Int32) < 3 ∧ x = k3))]
  have e : ¬ (1 : Int32) < 1 := by decide
  simp [e]
theorem own_z2 (n1 : v1 ≠ -1) (h0 : ∀ x, g0 x = -1) (h1 : ∀ x, g1 x = if g0 k1 = -1 ∧ x = k1 then v1 else g0 x) (h2 : ∀ x, g2 x = if g1 k2 = -1 ∧ x = k2 then v2 else g1 x) (x : Int64) : g2 x = if x = k1 then v1 else if x = k2 then v2 else -1 := by
  rw [h2, own_z1 h0 h1, own_z1 h0 h1]
  by_cases a : k2 = k1
  · subst a; simp [n1]
    by_cases b : x = k2 <;> simp [b]
  · simp [a]
    by_cases b : x = k2
    · subst b; simp [a]
    · simp [b]
theorem own_y2 (n1 : v1 ≠ -1) (h0 : ∀ x, g0 x = -1) (h1 : ∀ x, g1 x = if g0 k1 = -1 ∧ x = k1 then v1 else g0 x) (h2 : ∀ x, g2 x = if g1 k2 = -1 ∧ x = k2 then v2 else g1 x) (x : Int64) : g2 x = own_exp x 2 k1 v1 k2 v2 k3 v3 := by
  rw [own_z2 n1 h0 h1 h2, own_exp, if_neg (fun q => q.1 (by decide) : ¬ (¬ (2 : Int32) < 3 ∧ x = k3))]
  have e : ¬ (2 : Int32) < 1 := by decide
  have e' : ¬ (2 : Int32) < 2 := by decide
  simp [e, e']
theorem own_y3 (n1 : v1 ≠ -1) (n2 : v2 ≠ -1) (h0 : ∀ x, g0 x = -1) (h1 : ∀ x, g1 x = if g0 k1 = -1 ∧ x = k1 then v1 else g0 x) (h2 : ∀ x, g2 x = if g1 k2 = -1 ∧ x = k2 then v2 else g1 x) (h3 : ∀ x, g3 x = if g2 k3 = -1 ∧ x = k3 then v3 else g2 x) (x : Int64) : g3 x = own_exp x 3 k1 v1 k2 v2 k3 v3 := by
  rw [h3, own_z2 n1 h0 h1 h2, own_z2 n1 h0 h1 h2, own_exp]
  have e : ¬ (3 : Int32) < 1 := by decide
  have e' : ¬ (3 : Int32) < 2 := by decide
  have e'' : ¬ (3 : Int32) < 3 := by decide
  simp only [e, e', e'', not_false_eq_true, true_and]
  by_cases a : k3 = k1
  · subst a; simp [n1]
    by_cases b : x = k3 <;> simp [b]
  · by_cases a2 : k3 = k2
    · subst a2; simp [a, n2]
      by_cases b : x = k3 <;> simp [b]
    · simp [a, a2]
      by_cases b : x = k3
      · subst b; simp [a, a2]
      · simp [b]
end Exp
theorem own_v1 (z : Int32) : ¬ (z &&& (65535 : Int32)) < 0 := by
  obtain ⟨n, hn, e⟩ := own_mask z 65535 (by decide)
  rw [show (z &&& (65535 : Int32)) = Int32.ofNat n from e]
  exact (own_nat32 (by omega)).1
theorem own_v2 (z : Int32) : ¬ (z &&& (32767 : Int32)) < 0 := by
  obtain ⟨n, hn, e⟩ := own_mask z 32767 (by decide)
  rw [show (z &&& (32767 : Int32)) = Int32.ofNat n from e]
  exact (own_nat32 (by omega)).1
theorem own_v3 (z : Int32) : ¬ (z.toUInt32 >>> ((2 : Int32) &&& 31).toUInt32).toInt32 < 0 := by
  obtain ⟨n, hn, e⟩ := own_ushr z ((2 : Int32) &&& 31).toUInt32 (by decide)
  rw [e]
  exact (own_nat32 hn).1
theorem own_nm {z : Int32} (h : ¬ z < 0) : z ≠ -1 := by intro q; subst q; exact h (by decide)
theorem own_n4 (z : Int32) : (z &&& (3 : Int32)) = 0 ∨ (z &&& (3 : Int32)) = 1 ∨ (z &&& (3 : Int32)) = 2 ∨ (z &&& (3 : Int32)) = 3 := by
  obtain ⟨n, hn, e⟩ := own_mask z 3 (by decide)
  rw [show (z &&& (3 : Int32)) = Int32.ofNat n from e]
  have : n = 0 ∨ n = 1 ∨ n = 2 ∨ n = 3 := by omega
  rcases this with rfl | rfl | rfl | rfl <;> decide
theorem own_pn0 : plainName "com/example/demesne/demesne/core/LongIntMap" = true := by first | (simp [plainName, overriddenIn]; done) | decide +kernel
theorem od_17_7_0 : decode prog_17_method_7_code 0 = .ok (.lload_n 0, 1) := by decide +kernel
theorem od_17_7_1 : decode prog_17_method_7_code 1 = .ok (.ldc2_w 52, 3) := by decide +kernel
theorem od_17_7_4 : decode prog_17_method_7_code 4 = .ok (.lmul, 1) := by decide +kernel
theorem od_17_7_5 : decode prog_17_method_7_code 5 = .ok (.lstore_n 3, 1) := by decide +kernel
theorem od_17_7_6 : decode prog_17_method_7_code 6 = .ok (.lload_n 3, 1) := by decide +kernel
theorem od_17_7_7 : decode prog_17_method_7_code 7 = .ok (.lload_n 3, 1) := by decide +kernel
theorem od_17_7_8 : decode prog_17_method_7_code 8 = .ok (.bipush 32, 2) := by decide +kernel
theorem od_17_7_10 : decode prog_17_method_7_code 10 = .ok (.lushr, 1) := by decide +kernel
theorem od_17_7_11 : decode prog_17_method_7_code 11 = .ok (.lxor, 1) := by decide +kernel
theorem od_17_7_12 : decode prog_17_method_7_code 12 = .ok (.l2i, 1) := by decide +kernel
theorem od_17_7_13 : decode prog_17_method_7_code 13 = .ok (.iload_n 2, 1) := by decide +kernel
theorem od_17_7_14 : decode prog_17_method_7_code 14 = .ok (.iand, 1) := by decide +kernel
theorem od_17_7_15 : decode prog_17_method_7_code 15 = .ok (.ireturn, 1) := by decide +kernel
set_option maxRecDepth 65536 in
set_option maxHeartbeats 40000000 in
theorem own_c_slot (l : Launch) (Z : State) (a0 : Array Value) (hw : ∀ d ∈ tables_1, d.before a0 Z = true) (x0 : Int64) (x1 : Int32) (h0 : Heap) :
    own_Con l Z (⟨"com/example/demesne/demesne/core/LongIntMap", "slot", "(JI)I"⟩ : MethodName) prog_17_method_7_code 5 (some .int) [] ({ frames := 0, cells := 0, slots := 0, locals := 0 } : Room) #[(.long x0), (.int x1)] h0 (fun v h L => v = some (.int (own_sl32 x0 x1)) ∧ L = [] ∧ h = h0) := by
  refine own_enter (plainFor_of_name own_pn0) ?_
  intro p e s m below meth c s₁ X0 e0 hx hZ hby hml hown hnm hret hlk
  refine own_cast (g' := (mkF m 0 #[.val (.long x0), .second, .val (.int x1), .unset, .unset] [])) (by first | (simp [entryFrame, mkF, argsToLocals, Value.category]; done) | rfl) ?_
  refine own_g (mkF m 1 #[.val (.long x0), .second, .val (.int x1), .unset, .unset] [(.long x0)]) (fun _ kz => XS.lloadN X0.here hx rfl (hb hby od_17_7_0) rfl kz) ?_
  refine own_g (mkF m 4 #[.val (.long x0), .second, .val (.int x1), .unset, .unset] [(.long (-7046029254386353131 : Int64)), (.long x0)]) (fun _ kz => X0.ldc2Long hx hown (mvT hZ (own_w hw 31 rfl)) (g := (mkF m 1 #[.val (.long x0), .second, .val (.int x1), .unset, .unset] [(.long x0)])) rfl (hb hby od_17_7_1) _ kz) ?_
  refine own_g (mkF m 5 #[.val (.long x0), .second, .val (.int x1), .unset, .unset] [(.long (x0 * (-7046029254386353131 : Int64)))]) (fun _ kz => XS.lmul X0.here hx rfl (hb hby od_17_7_4) rfl kz) ?_
  refine own_g (mkF m 6 #[.val (.long x0), .second, .val (.int x1), .val (.long (x0 * (-7046029254386353131 : Int64))), .second] []) (fun _ kz => XS.lstoreN X0.here hx rfl (hb hby od_17_7_5) rfl (l' := #[.val (.long x0), .second, .val (.int x1), .val (.long (x0 * (-7046029254386353131 : Int64))), .second]) rfl kz) ?_
  refine own_g (mkF m 7 #[.val (.long x0), .second, .val (.int x1), .val (.long (x0 * (-7046029254386353131 : Int64))), .second] [(.long (x0 * (-7046029254386353131 : Int64)))]) (fun _ kz => XS.lloadN X0.here hx rfl (hb hby od_17_7_6) rfl kz) ?_
  refine own_g (mkF m 8 #[.val (.long x0), .second, .val (.int x1), .val (.long (x0 * (-7046029254386353131 : Int64))), .second] [(.long (x0 * (-7046029254386353131 : Int64))), (.long (x0 * (-7046029254386353131 : Int64)))]) (fun _ kz => XS.lloadN X0.here hx rfl (hb hby od_17_7_7) rfl kz) ?_
  refine own_g (mkF m 10 #[.val (.long x0), .second, .val (.int x1), .val (.long (x0 * (-7046029254386353131 : Int64))), .second] [(.int (32 : Int32)), (.long (x0 * (-7046029254386353131 : Int64))), (.long (x0 * (-7046029254386353131 : Int64)))]) (fun _ kz => XS.bipush X0.here hx rfl (hb hby od_17_7_8) kz) ?_
  refine own_g (mkF m 11 #[.val (.long x0), .second, .val (.int x1), .val (.long (x0 * (-7046029254386353131 : Int64))), .second] [(.long (((x0 * (-7046029254386353131 : Int64)).toUInt64 >>> ((32 : Int32) &&& 0x3f).toInt64.toUInt64).toInt64)), (.long (x0 * (-7046029254386353131 : Int64)))]) (fun _ kz => XS.lushr X0.here hx rfl (hb hby od_17_7_10) rfl kz) ?_
  refine own_g (mkF m 12 #[.val (.long x0), .second, .val (.int x1), .val (.long (x0 * (-7046029254386353131 : Int64))), .second] [(.long ((x0 * (-7046029254386353131 : Int64)) ^^^ (((x0 * (-7046029254386353131 : Int64)).toUInt64 >>> ((32 : Int32) &&& 0x3f).toInt64.toUInt64).toInt64)))]) (fun _ kz => XS.lxor X0.here hx rfl (hb hby od_17_7_11) rfl kz) ?_
  refine own_g (mkF m 13 #[.val (.long x0), .second, .val (.int x1), .val (.long (x0 * (-7046029254386353131 : Int64))), .second] [(.int ((x0 * (-7046029254386353131 : Int64)) ^^^ (((x0 * (-7046029254386353131 : Int64)).toUInt64 >>> ((32 : Int32) &&& 0x3f).toInt64.toUInt64).toInt64)).toInt32)]) (fun _ kz => XS.l2i X0.here hx rfl (hb hby od_17_7_12) rfl kz) ?_
  refine own_g (mkF m 14 #[.val (.long x0), .second, .val (.int x1), .val (.long (x0 * (-7046029254386353131 : Int64))), .second] [(.int x1), (.int ((x0 * (-7046029254386353131 : Int64)) ^^^ (((x0 * (-7046029254386353131 : Int64)).toUInt64 >>> ((32 : Int32) &&& 0x3f).toInt64.toUInt64).toInt64)).toInt32)]) (fun _ kz => XS.iloadN X0.here hx rfl (hb hby od_17_7_13) rfl kz) ?_
  refine own_g (mkF m 15 #[.val (.long x0), .second, .val (.int x1), .val (.long (x0 * (-7046029254386353131 : Int64))), .second] [(.int (((x0 * (-7046029254386353131 : Int64)) ^^^ (((x0 * (-7046029254386353131 : Int64)).toUInt64 >>> ((32 : Int32) &&& 0x3f).toInt64.toUInt64).toInt64)).toInt32 &&& x1))]) (fun _ kz => XS.iand X0.here hx rfl (hb hby od_17_7_14) rfl kz) ?_
  exact own_retI X0 hx hret hlk (hb hby od_17_7_15) (by decide) (by decide) (by first | exact ⟨rfl, rfl, rfl⟩ | (rw [e0]; exact ⟨rfl, rfl, rfl⟩))
theorem own_pn1 : plainName "com/example/demesne/demesne/core/LongIntMapGetPinLaw" = true := by first | (simp [plainName, overriddenIn]; done) | decide +kernel
theorem od_2_0 : decode method_2_code 0 = .ok (.iload_n 2, 1) := by decide +kernel
theorem od_2_1 : decode method_2_code 1 = .ok (.iconst 1, 1) := by decide +kernel
theorem od_2_2 : decode method_2_code 2 = .ok (.if_icmp .lt 12, 3) := by decide +kernel
theorem od_2_14 : decode method_2_code 14 = .ok (.iload_n 2, 1) := by decide +kernel
theorem od_2_15 : decode method_2_code 15 = .ok (.iconst 2, 1) := by decide +kernel
theorem od_2_16 : decode method_2_code 16 = .ok (.if_icmp .lt 13, 3) := by decide +kernel
theorem od_2_29 : decode method_2_code 29 = .ok (.iload_n 2, 1) := by decide +kernel
theorem od_2_30 : decode method_2_code 30 = .ok (.iconst 3, 1) := by decide +kernel
theorem od_2_31 : decode method_2_code 31 = .ok (.if_icmp .lt 13, 3) := by decide +kernel
theorem od_2_44 : decode method_2_code 44 = .ok (.iconst (-1), 1) := by decide +kernel
theorem od_2_45 : decode method_2_code 45 = .ok (.ireturn, 1) := by decide +kernel
theorem od_2_34 : decode method_2_code 34 = .ok (.lload_n 0, 1) := by decide +kernel
theorem od_2_35 : decode method_2_code 35 = .ok (.lload 9, 2) := by decide +kernel
theorem od_2_37 : decode method_2_code 37 = .ok (.lcmp, 1) := by decide +kernel
theorem od_2_38 : decode method_2_code 38 = .ok (.ifCond .ne 6, 3) := by decide +kernel
theorem od_2_41 : decode method_2_code 41 = .ok (.iload 11, 2) := by decide +kernel
theorem od_2_43 : decode method_2_code 43 = .ok (.ireturn, 1) := by decide +kernel
theorem od_2_19 : decode method_2_code 19 = .ok (.lload_n 0, 1) := by decide +kernel
theorem od_2_20 : decode method_2_code 20 = .ok (.lload 6, 2) := by decide +kernel
theorem od_2_22 : decode method_2_code 22 = .ok (.lcmp, 1) := by decide +kernel
theorem od_2_23 : decode method_2_code 23 = .ok (.ifCond .ne 6, 3) := by decide +kernel
theorem od_2_26 : decode method_2_code 26 = .ok (.iload 8, 2) := by decide +kernel
theorem od_2_28 : decode method_2_code 28 = .ok (.ireturn, 1) := by decide +kernel
theorem od_2_5 : decode method_2_code 5 = .ok (.lload_n 0, 1) := by decide +kernel
theorem od_2_6 : decode method_2_code 6 = .ok (.lload_n 3, 1) := by decide +kernel
theorem od_2_7 : decode method_2_code 7 = .ok (.lcmp, 1) := by decide +kernel
theorem od_2_8 : decode method_2_code 8 = .ok (.ifCond .ne 6, 3) := by decide +kernel
theorem od_2_11 : decode method_2_code 11 = .ok (.iload 5, 2) := by decide +kernel
theorem od_2_13 : decode method_2_code 13 = .ok (.ireturn, 1) := by decide +kernel
set_option maxRecDepth 65536 in
set_option maxHeartbeats 40000000 in
theorem own_c_exp (l : Launch) (Z : State) (a0 : Array Value) (hw : ∀ d ∈ tables_1, d.before a0 Z = true) (y0 : Int64) (y1 : Int32) (y2 : Int64) (y3 : Int32) (y4 : Int64) (y5 : Int32) (y6 : Int64) (y7 : Int32) (h0 : Heap) :
    own_Con l Z (⟨"com/example/demesne/demesne/core/LongIntMapGetPinLaw", "expect", "(JIJIJIJI)I"⟩ : MethodName) method_2_code 12 (some .int) [] ({ frames := 0, cells := 0, slots := 0, locals := 0 } : Room) #[(.long y0), (.int y1), (.long y2), (.int y3), (.long y4), (.int y5), (.long y6), (.int y7)] h0 (fun v h L => v = some (.int (own_exp y0 y1 y2 y3 y4 y5 y6 y7)) ∧ L = [] ∧ h = h0) := by
  refine own_enter (plainFor_of_name own_pn1) ?_
  intro p e s m below meth c s₁ X0 e0 hx hZ hby hml hown hnm hret hlk
  refine own_cast (g' := (mkF m 0 #[.val (.long y0), .second, .val (.int y1), .val (.long y2), .second, .val (.int y3), .val (.long y4), .second, .val (.int y5), .val (.long y6), .second, .val (.int y7)] [])) (by first | (simp [entryFrame, mkF, argsToLocals, Value.category]; done) | rfl) ?_
  refine own_g (mkF m 1 #[.val (.long y0), .second, .val (.int y1), .val (.long y2), .second, .val (.int y3), .val (.long y4), .second, .val (.int y5), .val (.long y6), .second, .val (.int y7)] [(.int y1)]) (fun _ kz => XS.iloadN X0.here hx rfl (hb hby od_2_0) rfl kz) ?_
  refine own_g (mkF m 2 #[.val (.long y0), .second, .val (.int y1), .val (.long y2), .second, .val (.int y3), .val (.long y4), .second, .val (.int y5), .val (.long y6), .second, .val (.int y7)] [(.int (1 : Int32)), (.int y1)]) (fun _ kz => XS.iconst X0.here hx rfl (hb hby od_2_1) kz) ?_
  by_cases hc2_1 : y1 < (1 : Int32)
  · refine own_g (mkF m 14 #[.val (.long y0), .second, .val (.int y1), .val (.long y2), .second, .val (.int y3), .val (.long y4), .second, .val (.int y5), .val (.long y6), .second, .val (.int y7)] []) (fun _ kz => XS.icmpYes X0.here hx rfl (pc0 := 2) (pc' := 14) rfl (hb hby od_2_2) rfl (tlt hc2_1).1 (by decide) (by decide) kz) ?_
    refine own_g (mkF m 15 #[.val (.long y0), .second, .val (.int y1), .val (.long y2), .second, .val (.int y3), .val (.long y4), .second, .val (.int y5), .val (.long y6), .second, .val (.int y7)] [(.int y1)]) (fun _ kz => XS.iloadN X0.here hx rfl (hb hby od_2_14) rfl kz) ?_
    refine own_g (mkF m 16 #[.val (.long y0), .second, .val (.int y1), .val (.long y2), .second, .val (.int y3), .val (.long y4), .second, .val (.int y5), .val (.long y6), .second, .val (.int y7)] [(.int (2 : Int32)), (.int y1)]) (fun _ kz => XS.iconst X0.here hx rfl (hb hby od_2_15) kz) ?_
    by_cases hc16_2 : y1 < (2 : Int32)
    · refine own_g (mkF m 29 #[.val (.long y0), .second, .val (.int y1), .val (.long y2), .second, .val (.int y3), .val (.long y4), .second, .val (.int y5), .val (.long y6), .second, .val (.int y7)] []) (fun _ kz => XS.icmpYes X0.here hx rfl (pc0 := 16) (pc' := 29) rfl (hb hby od_2_16) rfl (tlt hc16_2).1 (by decide) (by decide) kz) ?_
      refine own_g (mkF m 30 #[.val (.long y0), .second, .val (.int y1), .val (.long y2), .second, .val (.int y3), .val (.long y4), .second, .val (.int y5), .val (.long y6), .second, .val (.int y7)] [(.int y1)]) (fun _ kz => XS.iloadN X0.here hx rfl (hb hby od_2_29) rfl kz) ?_
      refine own_g (mkF m 31 #[.val (.long y0), .second, .val (.int y1), .val (.long y2), .second, .val (.int y3), .val (.long y4), .second, .val (.int y5), .val (.long y6), .second, .val (.int y7)] [(.int (3 : Int32)), (.int y1)]) (fun _ kz => XS.iconst X0.here hx rfl (hb hby od_2_30) kz) ?_
      by_cases hc31_3 : y1 < (3 : Int32)
      · refine own_g (mkF m 44 #[.val (.long y0), .second, .val (.int y1), .val (.long y2), .second, .val (.int y3), .val (.long y4), .second, .val (.int y5), .val (.long y6), .second, .val (.int y7)] []) (fun _ kz => XS.icmpYes X0.here hx rfl (pc0 := 31) (pc' := 44) rfl (hb hby od_2_31) rfl (tlt hc31_3).1 (by decide) (by decide) kz) ?_
        refine own_g (mkF m 45 #[.val (.long y0), .second, .val (.int y1), .val (.long y2), .second, .val (.int y3), .val (.long y4), .second, .val (.int y5), .val (.long y6), .second, .val (.int y7)] [(.int (-1 : Int32))]) (fun _ kz => XS.iconst X0.here hx rfl (hb hby od_2_44) kz) ?_
        exact own_retI X0 hx hret hlk (hb hby od_2_45) (by decide) (by decide) (by first | exact ⟨by rw [own_exp, if_neg (fun q => q.1 hc2_1), if_neg (fun q => q.1 hc16_2), if_neg (fun q => q.1 hc31_3)], rfl, rfl⟩ | (rw [e0]; exact ⟨by rw [own_exp, if_neg (fun q => q.1 hc2_1), if_neg (fun q => q.1 hc16_2), if_neg (fun q => q.1 hc31_3)], rfl, rfl⟩))
      · refine own_g (mkF m 34 #[.val (.long y0), .second, .val (.int y1), .val (.long y2), .second, .val (.int y3), .val (.long y4), .second, .val (.int y5), .val (.long y6), .second, .val (.int y7)] []) (fun _ kz => XS.icmpNo X0.here hx rfl (hb hby od_2_31) rfl (flt hc31_3).1 kz) ?_
        refine own_g (mkF m 35 #[.val (.long y0), .second, .val (.int y1), .val (.long y2), .second, .val (.int y3), .val (.long y4), .second, .val (.int y5), .val (.long y6), .second, .val (.int y7)] [(.long y0)]) (fun _ kz => XS.lloadN X0.here hx rfl (hb hby od_2_34) rfl kz) ?_
        refine own_g (mkF m 37 #[.val (.long y0), .second, .val (.int y1), .val (.long y2), .second, .val (.int y3), .val (.long y4), .second, .val (.int y5), .val (.long y6), .second, .val (.int y7)] [(.long y6), (.long y0)]) (fun _ kz => XS.lload X0.here hx rfl (hb hby od_2_35) rfl kz) ?_
        refine own_g (mkF m 38 #[.val (.long y0), .second, .val (.int y1), .val (.long y2), .second, .val (.int y3), .val (.long y4), .second, .val (.int y5), .val (.long y6), .second, .val (.int y7)] [(.int (lcmpW y0 y6))]) (fun _ kz => XS.lcmp X0.here hx rfl (hb hby od_2_37) rfl kz) ?_
        by_cases hc38_4 : y0 = y6
        · refine own_g (mkF m 41 #[.val (.long y0), .second, .val (.int y1), .val (.long y2), .second, .val (.int y3), .val (.long y4), .second, .val (.int y5), .val (.long y6), .second, .val (.int y7)] []) (fun _ kz => XS.ifNo X0.here hx rfl (hb hby od_2_38) rfl ((if0 _ _).trans (teq (own_lcT hc38_4)).2) kz) ?_
          refine own_g (mkF m 43 #[.val (.long y0), .second, .val (.int y1), .val (.long y2), .second, .val (.int y3), .val (.long y4), .second, .val (.int y5), .val (.long y6), .second, .val (.int y7)] [(.int y7)]) (fun _ kz => XS.iload X0.here hx rfl (hb hby od_2_41) rfl kz) ?_
          exact own_retI X0 hx hret hlk (hb hby od_2_43) (by decide) (by decide) (by first | exact ⟨by rw [own_exp, if_neg (fun q => q.1 hc2_1), if_neg (fun q => q.1 hc16_2), if_pos ⟨hc31_3, hc38_4⟩], rfl, rfl⟩ | (rw [e0]; exact ⟨by rw [own_exp, if_neg (fun q => q.1 hc2_1), if_neg (fun q => q.1 hc16_2), if_pos ⟨hc31_3, hc38_4⟩], rfl, rfl⟩))
        · refine own_g (mkF m 44 #[.val (.long y0), .second, .val (.int y1), .val (.long y2), .second, .val (.int y3), .val (.long y4), .second, .val (.int y5), .val (.long y6), .second, .val (.int y7)] []) (fun _ kz => XS.ifYes X0.here hx rfl (pc0 := 38) (pc' := 44) rfl (hb hby od_2_38) rfl ((if0 _ _).trans (feq (own_lcF hc38_4)).2) (by decide) (by decide) kz) ?_
          refine own_g (mkF m 45 #[.val (.long y0), .second, .val (.int y1), .val (.long y2), .second, .val (.int y3), .val (.long y4), .second, .val (.int y5), .val (.long y6), .second, .val (.int y7)] [(.int (-1 : Int32))]) (fun _ kz => XS.iconst X0.here hx rfl (hb hby od_2_44) kz) ?_
          exact own_retI X0 hx hret hlk (hb hby od_2_45) (by decide) (by decide) (by first | exact ⟨by rw [own_exp, if_neg (fun q => q.1 hc2_1), if_neg (fun q => q.1 hc16_2), if_neg (fun q => hc38_4 q.2)], rfl, rfl⟩ | (rw [e0]; exact ⟨by rw [own_exp, if_neg (fun q => q.1 hc2_1), if_neg (fun q => q.1 hc16_2), if_neg (fun q => hc38_4 q.2)], rfl, rfl⟩))
    · refine own_g (mkF m 19 #[.val (.long y0), .second, .val (.int y1), .val (.long y2), .second, .val (.int y3), .val (.long y4), .second, .val (.int y5), .val (.long y6), .second, .val (.int y7)] []) (fun _ kz => XS.icmpNo X0.here hx rfl (hb hby od_2_16) rfl (flt hc16_2).1 kz) ?_
      refine own_g (mkF m 20 #[.val (.long y0), .second, .val (.int y1), .val (.long y2), .second, .val (.int y3), .val (.long y4), .second, .val (.int y5), .val (.long y6), .second, .val (.int y7)] [(.long y0)]) (fun _ kz => XS.lloadN X0.here hx rfl (hb hby od_2_19) rfl kz) ?_
      refine own_g (mkF m 22 #[.val (.long y0), .second, .val (.int y1), .val (.long y2), .second, .val (.int y3), .val (.long y4), .second, .val (.int y5), .val (.long y6), .second, .val (.int y7)] [(.long y4), (.long y0)]) (fun _ kz => XS.lload X0.here hx rfl (hb hby od_2_20) rfl kz) ?_
      refine own_g (mkF m 23 #[.val (.long y0), .second, .val (.int y1), .val (.long y2), .second, .val (.int y3), .val (.long y4), .second, .val (.int y5), .val (.long y6), .second, .val (.int y7)] [(.int (lcmpW y0 y4))]) (fun _ kz => XS.lcmp X0.here hx rfl (hb hby od_2_22) rfl kz) ?_
      by_cases hc23_5 : y0 = y4
      · refine own_g (mkF m 26 #[.val (.long y0), .second, .val (.int y1), .val (.long y2), .second, .val (.int y3), .val (.long y4), .second, .val (.int y5), .val (.long y6), .second, .val (.int y7)] []) (fun _ kz => XS.ifNo X0.here hx rfl (hb hby od_2_23) rfl ((if0 _ _).trans (teq (own_lcT hc23_5)).2) kz) ?_
        refine own_g (mkF m 28 #[.val (.long y0), .second, .val (.int y1), .val (.long y2), .second, .val (.int y3), .val (.long y4), .second, .val (.int y5), .val (.long y6), .second, .val (.int y7)] [(.int y5)]) (fun _ kz => XS.iload X0.here hx rfl (hb hby od_2_26) rfl kz) ?_
        exact own_retI X0 hx hret hlk (hb hby od_2_28) (by decide) (by decide) (by first | exact ⟨by rw [own_exp, if_neg (fun q => q.1 hc2_1), if_pos ⟨hc16_2, hc23_5⟩], rfl, rfl⟩ | (rw [e0]; exact ⟨by rw [own_exp, if_neg (fun q => q.1 hc2_1), if_pos ⟨hc16_2, hc23_5⟩], rfl, rfl⟩))
      · refine own_g (mkF m 29 #[.val (.long y0), .second, .val (.int y1), .val (.long y2), .second, .val (.int y3), .val (.long y4), .second, .val (.int y5), .val (.long y6), .second, .val (.int y7)] []) (fun _ kz => XS.ifYes X0.here hx rfl (pc0 := 23) (pc' := 29) rfl (hb hby od_2_23) rfl ((if0 _ _).trans (feq (own_lcF hc23_5)).2) (by decide) (by decide) kz) ?_
        refine own_g (mkF m 30 #[.val (.long y0), .second, .val (.int y1), .val (.long y2), .second, .val (.int y3), .val (.long y4), .second, .val (.int y5), .val (.long y6), .second, .val (.int y7)] [(.int y1)]) (fun _ kz => XS.iloadN X0.here hx rfl (hb hby od_2_29) rfl kz) ?_
        refine own_g (mkF m 31 #[.val (.long y0), .second, .val (.int y1), .val (.long y2), .second, .val (.int y3), .val (.long y4), .second, .val (.int y5), .val (.long y6), .second, .val (.int y7)] [(.int (3 : Int32)), (.int y1)]) (fun _ kz => XS.iconst X0.here hx rfl (hb hby od_2_30) kz) ?_
        by_cases hc31_6 : y1 < (3 : Int32)
        · refine own_g (mkF m 44 #[.val (.long y0), .second, .val (.int y1), .val (.long y2), .second, .val (.int y3), .val (.long y4), .second, .val (.int y5), .val (.long y6), .second, .val (.int y7)] []) (fun _ kz => XS.icmpYes X0.here hx rfl (pc0 := 31) (pc' := 44) rfl (hb hby od_2_31) rfl (tlt hc31_6).1 (by decide) (by decide) kz) ?_
          refine own_g (mkF m 45 #[.val (.long y0), .second, .val (.int y1), .val (.long y2), .second, .val (.int y3), .val (.long y4), .second, .val (.int y5), .val (.long y6), .second, .val (.int y7)] [(.int (-1 : Int32))]) (fun _ kz => XS.iconst X0.here hx rfl (hb hby od_2_44) kz) ?_
          exact own_retI X0 hx hret hlk (hb hby od_2_45) (by decide) (by decide) (by first | exact ⟨by rw [own_exp, if_neg (fun q => q.1 hc2_1), if_neg (fun q => hc23_5 q.2), if_neg (fun q => q.1 hc31_6)], rfl, rfl⟩ | (rw [e0]; exact ⟨by rw [own_exp, if_neg (fun q => q.1 hc2_1), if_neg (fun q => hc23_5 q.2), if_neg (fun q => q.1 hc31_6)], rfl, rfl⟩))
        · refine own_g (mkF m 34 #[.val (.long y0), .second, .val (.int y1), .val (.long y2), .second, .val (.int y3), .val (.long y4), .second, .val (.int y5), .val (.long y6), .second, .val (.int y7)] []) (fun _ kz => XS.icmpNo X0.here hx rfl (hb hby od_2_31) rfl (flt hc31_6).1 kz) ?_
          refine own_g (mkF m 35 #[.val (.long y0), .second, .val (.int y1), .val (.long y2), .second, .val (.int y3), .val (.long y4), .second, .val (.int y5), .val (.long y6), .second, .val (.int y7)] [(.long y0)]) (fun _ kz => XS.lloadN X0.here hx rfl (hb hby od_2_34) rfl kz) ?_
          refine own_g (mkF m 37 #[.val (.long y0), .second, .val (.int y1), .val (.long y2), .second, .val (.int y3), .val (.long y4), .second, .val (.int y5), .val (.long y6), .second, .val (.int y7)] [(.long y6), (.long y0)]) (fun _ kz => XS.lload X0.here hx rfl (hb hby od_2_35) rfl kz) ?_
          refine own_g (mkF m 38 #[.val (.long y0), .second, .val (.int y1), .val (.long y2), .second, .val (.int y3), .val (.long y4), .second, .val (.int y5), .val (.long y6), .second, .val (.int y7)] [(.int (lcmpW y0 y6))]) (fun _ kz => XS.lcmp X0.here hx rfl (hb hby od_2_37) rfl kz) ?_
          by_cases hc38_7 : y0 = y6
          · refine own_g (mkF m 41 #[.val (.long y0), .second, .val (.int y1), .val (.long y2), .second, .val (.int y3), .val (.long y4), .second, .val (.int y5), .val (.long y6), .second, .val (.int y7)] []) (fun _ kz => XS.ifNo X0.here hx rfl (hb hby od_2_38) rfl ((if0 _ _).trans (teq (own_lcT hc38_7)).2) kz) ?_
            refine own_g (mkF m 43 #[.val (.long y0), .second, .val (.int y1), .val (.long y2), .second, .val (.int y3), .val (.long y4), .second, .val (.int y5), .val (.long y6), .second, .val (.int y7)] [(.int y7)]) (fun _ kz => XS.iload X0.here hx rfl (hb hby od_2_41) rfl kz) ?_
            exact own_retI X0 hx hret hlk (hb hby od_2_43) (by decide) (by decide) (by first | exact ⟨by rw [own_exp, if_neg (fun q => q.1 hc2_1), if_neg (fun q => hc23_5 q.2), if_pos ⟨hc31_6, hc38_7⟩], rfl, rfl⟩ | (rw [e0]; exact ⟨by rw [own_exp, if_neg (fun q => q.1 hc2_1), if_neg (fun q => hc23_5 q.2), if_pos ⟨hc31_6, hc38_7⟩], rfl, rfl⟩))
          · refine own_g (mkF m 44 #[.val (.long y0), .second, .val (.int y1), .val (.long y2), .second, .val (.int y3), .val (.long y4), .second, .val (.int y5), .val (.long y6), .second, .val (.int y7)] []) (fun _ kz => XS.ifYes X0.here hx rfl (pc0 := 38) (pc' := 44) rfl (hb hby od_2_38) rfl ((if0 _ _).trans (feq (own_lcF hc38_7)).2) (by decide) (by decide) kz) ?_
            refine own_g (mkF m 45 #[.val (.long y0), .second, .val (.int y1), .val (.long y2), .second, .val (.int y3), .val (.long y4), .second, .val (.int y5), .val (.long y6), .second, .val (.int y7)] [(.int (-1 : Int32))]) (fun _ kz => XS.iconst X0.here hx rfl (hb hby od_2_44) kz) ?_
            exact own_retI X0 hx hret hlk (hb hby od_2_45) (by decide) (by decide) (by first | exact ⟨by rw [own_exp, if_neg (fun q => q.1 hc2_1), if_neg (fun q => hc23_5 q.2), if_neg (fun q => hc38_7 q.2)], rfl, rfl⟩ | (rw [e0]; exact ⟨by rw [own_exp, if_neg (fun q => q.1 hc2_1), if_neg (fun q => hc23_5 q.2), if_neg (fun q => hc38_7 q.2)], rfl, rfl⟩))
  · refine own_g (mkF m 5 #[.val (.long y0), .second, .val (.int y1), .val (.long y2), .second, .val (.int y3), .val (.long y4), .second, .val (.int y5), .val (.long y6), .second, .val (.int y7)] []) (fun _ kz => XS.icmpNo X0.here hx rfl (hb hby od_2_2) rfl (flt hc2_1).1 kz) ?_
    refine own_g (mkF m 6 #[.val (.long y0), .second, .val (.int y1), .val (.long y2), .second, .val (.int y3), .val (.long y4), .second, .val (.int y5), .val (.long y6), .second, .val (.int y7)] [(.long y0)]) (fun _ kz => XS.lloadN X0.here hx rfl (hb hby od_2_5) rfl kz) ?_
    refine own_g (mkF m 7 #[.val (.long y0), .second, .val (.int y1), .val (.long y2), .second, .val (.int y3), .val (.long y4), .second, .val (.int y5), .val (.long y6), .second, .val (.int y7)] [(.long y2), (.long y0)]) (fun _ kz => XS.lloadN X0.here hx rfl (hb hby od_2_6) rfl kz) ?_
    refine own_g (mkF m 8 #[.val (.long y0), .second, .val (.int y1), .val (.long y2), .second, .val (.int y3), .val (.long y4), .second, .val (.int y5), .val (.long y6), .second, .val (.int y7)] [(.int (lcmpW y0 y2))]) (fun _ kz => XS.lcmp X0.here hx rfl (hb hby od_2_7) rfl kz) ?_
    by_cases hc8_8 : y0 = y2
    · refine own_g (mkF m 11 #[.val (.long y0), .second, .val (.int y1), .val (.long y2), .second, .val (.int y3), .val (.long y4), .second, .val (.int y5), .val (.long y6), .second, .val (.int y7)] []) (fun _ kz => XS.ifNo X0.here hx rfl (hb hby od_2_8) rfl ((if0 _ _).trans (teq (own_lcT hc8_8)).2) kz) ?_
      refine own_g (mkF m 13 #[.val (.long y0), .second, .val (.int y1), .val (.long y2), .second, .val (.int y3), .val (.long y4), .second, .val (.int y5), .val (.long y6), .second, .val (.int y7)] [(.int y3)]) (fun _ kz => XS.iload X0.here hx rfl (hb hby od_2_11) rfl kz) ?_
      exact own_retI X0 hx hret hlk (hb hby od_2_13) (by decide) (by decide) (by first | exact ⟨by rw [own_exp, if_pos ⟨hc2_1, hc8_8⟩], rfl, rfl⟩ | (rw [e0]; exact ⟨by rw [own_exp, if_pos ⟨hc2_1, hc8_8⟩], rfl, rfl⟩))
    · refine own_g (mkF m 14 #[.val (.long y0), .second, .val (.int y1), .val (.long y2), .second, .val (.int y3), .val (.long y4), .second, .val (.int y5), .val (.long y6), .second, .val (.int y7)] []) (fun _ kz => XS.ifYes X0.here hx rfl (pc0 := 8) (pc' := 14) rfl (hb hby od_2_8) rfl ((if0 _ _).trans (feq (own_lcF hc8_8)).2) (by decide) (by decide) kz) ?_
      refine own_g (mkF m 15 #[.val (.long y0), .second, .val (.int y1), .val (.long y2), .second, .val (.int y3), .val (.long y4), .second, .val (.int y5), .val (.long y6), .second, .val (.int y7)] [(.int y1)]) (fun _ kz => XS.iloadN X0.here hx rfl (hb hby od_2_14) rfl kz) ?_
      refine own_g (mkF m 16 #[.val (.long y0), .second, .val (.int y1), .val (.long y2), .second, .val (.int y3), .val (.long y4), .second, .val (.int y5), .val (.long y6), .second, .val (.int y7)] [(.int (2 : Int32)), (.int y1)]) (fun _ kz => XS.iconst X0.here hx rfl (hb hby od_2_15) kz) ?_
      by_cases hc16_9 : y1 < (2 : Int32)
      · refine own_g (mkF m 29 #[.val (.long y0), .second, .val (.int y1), .val (.long y2), .second, .val (.int y3), .val (.long y4), .second, .val (.int y5), .val (.long y6), .second, .val (.int y7)] []) (fun _ kz => XS.icmpYes X0.here hx rfl (pc0 := 16) (pc' := 29) rfl (hb hby od_2_16) rfl (tlt hc16_9).1 (by decide) (by decide) kz) ?_
        refine own_g (mkF m 30 #[.val (.long y0), .second, .val (.int y1), .val (.long y2), .second, .val (.int y3), .val (.long y4), .second, .val (.int y5), .val (.long y6), .second, .val (.int y7)] [(.int y1)]) (fun _ kz => XS.iloadN X0.here hx rfl (hb hby od_2_29) rfl kz) ?_
        refine own_g (mkF m 31 #[.val (.long y0), .second, .val (.int y1), .val (.long y2), .second, .val (.int y3), .val (.long y4), .second, .val (.int y5), .val (.long y6), .second, .val (.int y7)] [(.int (3 : Int32)), (.int y1)]) (fun _ kz => XS.iconst X0.here hx rfl (hb hby od_2_30) kz) ?_
        by_cases hc31_10 : y1 < (3 : Int32)
        · refine own_g (mkF m 44 #[.val (.long y0), .second, .val (.int y1), .val (.long y2), .second, .val (.int y3), .val (.long y4), .second, .val (.int y5), .val (.long y6), .second, .val (.int y7)] []) (fun _ kz => XS.icmpYes X0.here hx rfl (pc0 := 31) (pc' := 44) rfl (hb hby od_2_31) rfl (tlt hc31_10).1 (by decide) (by decide) kz) ?_
          refine own_g (mkF m 45 #[.val (.long y0), .second, .val (.int y1), .val (.long y2), .second, .val (.int y3), .val (.long y4), .second, .val (.int y5), .val (.long y6), .second, .val (.int y7)] [(.int (-1 : Int32))]) (fun _ kz => XS.iconst X0.here hx rfl (hb hby od_2_44) kz) ?_
          exact own_retI X0 hx hret hlk (hb hby od_2_45) (by decide) (by decide) (by first | exact ⟨by rw [own_exp, if_neg (fun q => hc8_8 q.2), if_neg (fun q => q.1 hc16_9), if_neg (fun q => q.1 hc31_10)], rfl, rfl⟩ | (rw [e0]; exact ⟨by rw [own_exp, if_neg (fun q => hc8_8 q.2), if_neg (fun q => q.1 hc16_9), if_neg (fun q => q.1 hc31_10)], rfl, rfl⟩))
        · refine own_g (mkF m 34 #[.val (.long y0), .second, .val (.int y1), .val (.long y2), .second, .val (.int y3), .val (.long y4), .second, .val (.int y5), .val (.long y6), .second, .val (.int y7)] []) (fun _ kz => XS.icmpNo X0.here hx rfl (hb hby od_2_31) rfl (flt hc31_10).1 kz) ?_
          refine own_g (mkF m 35 #[.val (.long y0), .second, .val (.int y1), .val (.long y2), .second, .val (.int y3), .val (.long y4), .second, .val (.int y5), .val (.long y6), .second, .val (.int y7)] [(.long y0)]) (fun _ kz => XS.lloadN X0.here hx rfl (hb hby od_2_34) rfl kz) ?_
          refine own_g (mkF m 37 #[.val (.long y0), .second, .val (.int y1), .val (.long y2), .second, .val (.int y3), .val (.long y4), .second, .val (.int y5), .val (.long y6), .second, .val (.int y7)] [(.long y6), (.long y0)]) (fun _ kz => XS.lload X0.here hx rfl (hb hby od_2_35) rfl kz) ?_
          refine own_g (mkF m 38 #[.val (.long y0), .second, .val (.int y1), .val (.long y2), .second, .val (.int y3), .val (.long y4), .second, .val (.int y5), .val (.long y6), .second, .val (.int y7)] [(.int (lcmpW y0 y6))]) (fun _ kz => XS.lcmp X0.here hx rfl (hb hby od_2_37) rfl kz) ?_
          by_cases hc38_11 : y0 = y6
          · refine own_g (mkF m 41 #[.val (.long y0), .second, .val (.int y1), .val (.long y2), .second, .val (.int y3), .val (.long y4), .second, .val (.int y5), .val (.long y6), .second, .val (.int y7)] []) (fun _ kz => XS.ifNo X0.here hx rfl (hb hby od_2_38) rfl ((if0 _ _).trans (teq (own_lcT hc38_11)).2) kz) ?_
            refine own_g (mkF m 43 #[.val (.long y0), .second, .val (.int y1), .val (.long y2), .second, .val (.int y3), .val (.long y4), .second, .val (.int y5), .val (.long y6), .second, .val (.int y7)] [(.int y7)]) (fun _ kz => XS.iload X0.here hx rfl (hb hby od_2_41) rfl kz) ?_
            exact own_retI X0 hx hret hlk (hb hby od_2_43) (by decide) (by decide) (by first | exact ⟨by rw [own_exp, if_neg (fun q => hc8_8 q.2), if_neg (fun q => q.1 hc16_9), if_pos ⟨hc31_10, hc38_11⟩], rfl, rfl⟩ | (rw [e0]; exact ⟨by rw [own_exp, if_neg (fun q => hc8_8 q.2), if_neg (fun q => q.1 hc16_9), if_pos ⟨hc31_10, hc38_11⟩], rfl, rfl⟩))
          · refine own_g (mkF m 44 #[.val (.long y0), .second, .val (.int y1), .val (.long y2), .second, .val (.int y3), .val (.long y4), .second, .val (.int y5), .val (.long y6), .second, .val (.int y7)] []) (fun _ kz => XS.ifYes X0.here hx rfl (pc0 := 38) (pc' := 44) rfl (hb hby od_2_38) rfl ((if0 _ _).trans (feq (own_lcF hc38_11)).2) (by decide) (by decide) kz) ?_
            refine own_g (mkF m 45 #[.val (.long y0), .second, .val (.int y1), .val (.long y2), .second, .val (.int y3), .val (.long y4), .second, .val (.int y5), .val (.long y6), .second, .val (.int y7)] [(.int (-1 : Int32))]) (fun _ kz => XS.iconst X0.here hx rfl (hb hby od_2_44) kz) ?_
            exact own_retI X0 hx hret hlk (hb hby od_2_45) (by decide) (by decide) (by first | exact ⟨by rw [own_exp, if_neg (fun q => hc8_8 q.2), if_neg (fun q => q.1 hc16_9), if_neg (fun q => hc38_11 q.2)], rfl, rfl⟩ | (rw [e0]; exact ⟨by rw [own_exp, if_neg (fun q => hc8_8 q.2), if_neg (fun q => q.1 hc16_9), if_neg (fun q => hc38_11 q.2)], rfl, rfl⟩))
      · refine own_g (mkF m 19 #[.val (.long y0), .second, .val (.int y1), .val (.long y2), .second, .val (.int y3), .val (.long y4), .second, .val (.int y5), .val (.long y6), .second, .val (.int y7)] []) (fun _ kz => XS.icmpNo X0.here hx rfl (hb hby od_2_16) rfl (flt hc16_9).1 kz) ?_
        refine own_g (mkF m 20 #[.val (.long y0), .second, .val (.int y1), .val (.long y2), .second, .val (.int y3), .val (.long y4), .second, .val (.int y5), .val (.long y6), .second, .val (.int y7)] [(.long y0)]) (fun _ kz => XS.lloadN X0.here hx rfl (hb hby od_2_19) rfl kz) ?_
        refine own_g (mkF m 22 #[.val (.long y0), .second, .val (.int y1), .val (.long y2), .second, .val (.int y3), .val (.long y4), .second, .val (.int y5), .val (.long y6), .second, .val (.int y7)] [(.long y4), (.long y0)]) (fun _ kz => XS.lload X0.here hx rfl (hb hby od_2_20) rfl kz) ?_
        refine own_g (mkF m 23 #[.val (.long y0), .second, .val (.int y1), .val (.long y2), .second, .val (.int y3), .val (.long y4), .second, .val (.int y5), .val (.long y6), .second, .val (.int y7)] [(.int (lcmpW y0 y4))]) (fun _ kz => XS.lcmp X0.here hx rfl (hb hby od_2_22) rfl kz) ?_
        by_cases hc23_12 : y0 = y4
        · refine own_g (mkF m 26 #[.val (.long y0), .second, .val (.int y1), .val (.long y2), .second, .val (.int y3), .val (.long y4), .second, .val (.int y5), .val (.long y6), .second, .val (.int y7)] []) (fun _ kz => XS.ifNo X0.here hx rfl (hb hby od_2_23) rfl ((if0 _ _).trans (teq (own_lcT hc23_12)).2) kz) ?_
          refine own_g (mkF m 28 #[.val (.long y0), .second, .val (.int y1), .val (.long y2), .second, .val (.int y3), .val (.long y4), .second, .val (.int y5), .val (.long y6), .second, .val (.int y7)] [(.int y5)]) (fun _ kz => XS.iload X0.here hx rfl (hb hby od_2_26) rfl kz) ?_
          exact own_retI X0 hx hret hlk (hb hby od_2_28) (by decide) (by decide) (by first | exact ⟨by rw [own_exp, if_neg (fun q => hc8_8 q.2), if_pos ⟨hc16_9, hc23_12⟩], rfl, rfl⟩ | (rw [e0]; exact ⟨by rw [own_exp, if_neg (fun q => hc8_8 q.2), if_pos ⟨hc16_9, hc23_12⟩], rfl, rfl⟩))
        · refine own_g (mkF m 29 #[.val (.long y0), .second, .val (.int y1), .val (.long y2), .second, .val (.int y3), .val (.long y4), .second, .val (.int y5), .val (.long y6), .second, .val (.int y7)] []) (fun _ kz => XS.ifYes X0.here hx rfl (pc0 := 23) (pc' := 29) rfl (hb hby od_2_23) rfl ((if0 _ _).trans (feq (own_lcF hc23_12)).2) (by decide) (by decide) kz) ?_
          refine own_g (mkF m 30 #[.val (.long y0), .second, .val (.int y1), .val (.long y2), .second, .val (.int y3), .val (.long y4), .second, .val (.int y5), .val (.long y6), .second, .val (.int y7)] [(.int y1)]) (fun _ kz => XS.iloadN X0.here hx rfl (hb hby od_2_29) rfl kz) ?_
          refine own_g (mkF m 31 #[.val (.long y0), .second, .val (.int y1), .val (.long y2), .second, .val (.int y3), .val (.long y4), .second, .val (.int y5), .val (.long y6), .second, .val (.int y7)] [(.int (3 : Int32)), (.int y1)]) (fun _ kz => XS.iconst X0.here hx rfl (hb hby od_2_30) kz) ?_
          by_cases hc31_13 : y1 < (3 : Int32)
          · refine own_g (mkF m 44 #[.val (.long y0), .second, .val (.int y1), .val (.long y2), .second, .val (.int y3), .val (.long y4), .second, .val (.int y5), .val (.long y6), .second, .val (.int y7)] []) (fun _ kz => XS.icmpYes X0.here hx rfl (pc0 := 31) (pc' := 44) rfl (hb hby od_2_31) rfl (tlt hc31_13).1 (by decide) (by decide) kz) ?_
            refine own_g (mkF m 45 #[.val (.long y0), .second, .val (.int y1), .val (.long y2), .second, .val (.int y3), .val (.long y4), .second, .val (.int y5), .val (.long y6), .second, .val (.int y7)] [(.int (-1 : Int32))]) (fun _ kz => XS.iconst X0.here hx rfl (hb hby od_2_44) kz) ?_
            exact own_retI X0 hx hret hlk (hb hby od_2_45) (by decide) (by decide) (by first | exact ⟨by rw [own_exp, if_neg (fun q => hc8_8 q.2), if_neg (fun q => hc23_12 q.2), if_neg (fun q => q.1 hc31_13)], rfl, rfl⟩ | (rw [e0]; exact ⟨by rw [own_exp, if_neg (fun q => hc8_8 q.2), if_neg (fun q => hc23_12 q.2), if_neg (fun q => q.1 hc31_13)], rfl, rfl⟩))
          · refine own_g (mkF m 34 #[.val (.long y0), .second, .val (.int y1), .val (.long y2), .second, .val (.int y3), .val (.long y4), .second, .val (.int y5), .val (.long y6), .second, .val (.int y7)] []) (fun _ kz => XS.icmpNo X0.here hx rfl (hb hby od_2_31) rfl (flt hc31_13).1 kz) ?_
            refine own_g (mkF m 35 #[.val (.long y0), .second, .val (.int y1), .val (.long y2), .second, .val (.int y3), .val (.long y4), .second, .val (.int y5), .val (.long y6), .second, .val (.int y7)] [(.long y0)]) (fun _ kz => XS.lloadN X0.here hx rfl (hb hby od_2_34) rfl kz) ?_
            refine own_g (mkF m 37 #[.val (.long y0), .second, .val (.int y1), .val (.long y2), .second, .val (.int y3), .val (.long y4), .second, .val (.int y5), .val (.long y6), .second, .val (.int y7)] [(.long y6), (.long y0)]) (fun _ kz => XS.lload X0.here hx rfl (hb hby od_2_35) rfl kz) ?_
            refine own_g (mkF m 38 #[.val (.long y0), .second, .val (.int y1), .val (.long y2), .second, .val (.int y3), .val (.long y4), .second, .val (.int y5), .val (.long y6), .second, .val (.int y7)] [(.int (lcmpW y0 y6))]) (fun _ kz => XS.lcmp X0.here hx rfl (hb hby od_2_37) rfl kz) ?_
            by_cases hc38_14 : y0 = y6
            · refine own_g (mkF m 41 #[.val (.long y0), .second, .val (.int y1), .val (.long y2), .second, .val (.int y3), .val (.long y4), .second, .val (.int y5), .val (.long y6), .second, .val (.int y7)] []) (fun _ kz => XS.ifNo X0.here hx rfl (hb hby od_2_38) rfl ((if0 _ _).trans (teq (own_lcT hc38_14)).2) kz) ?_
              refine own_g (mkF m 43 #[.val (.long y0), .second, .val (.int y1), .val (.long y2), .second, .val (.int y3), .val (.long y4), .second, .val (.int y5), .val (.long y6), .second, .val (.int y7)] [(.int y7)]) (fun _ kz => XS.iload X0.here hx rfl (hb hby od_2_41) rfl kz) ?_
              exact own_retI X0 hx hret hlk (hb hby od_2_43) (by decide) (by decide) (by first | exact ⟨by rw [own_exp, if_neg (fun q => hc8_8 q.2), if_neg (fun q => hc23_12 q.2), if_pos ⟨hc31_13, hc38_14⟩], rfl, rfl⟩ | (rw [e0]; exact ⟨by rw [own_exp, if_neg (fun q => hc8_8 q.2), if_neg (fun q => hc23_12 q.2), if_pos ⟨hc31_13, hc38_14⟩], rfl, rfl⟩))
            · refine own_g (mkF m 44 #[.val (.long y0), .second, .val (.int y1), .val (.long y2), .second, .val (.int y3), .val (.long y4), .second, .val (.int y5), .val (.long y6), .second, .val (.int y7)] []) (fun _ kz => XS.ifYes X0.here hx rfl (pc0 := 38) (pc' := 44) rfl (hb hby od_2_38) rfl ((if0 _ _).trans (feq (own_lcF hc38_14)).2) (by decide) (by decide) kz) ?_
              refine own_g (mkF m 45 #[.val (.long y0), .second, .val (.int y1), .val (.long y2), .second, .val (.int y3), .val (.long y4), .second, .val (.int y5), .val (.long y6), .second, .val (.int y7)] [(.int (-1 : Int32))]) (fun _ kz => XS.iconst X0.here hx rfl (hb hby od_2_44) kz) ?_
              exact own_retI X0 hx hret hlk (hb hby od_2_45) (by decide) (by decide) (by first | exact ⟨by rw [own_exp, if_neg (fun q => hc8_8 q.2), if_neg (fun q => hc23_12 q.2), if_neg (fun q => hc38_14 q.2)], rfl, rfl⟩ | (rw [e0]; exact ⟨by rw [own_exp, if_neg (fun q => hc8_8 q.2), if_neg (fun q => hc23_12 q.2), if_neg (fun q => hc38_14 q.2)], rfl, rfl⟩))
theorem own_pn2 : plainName "java/util/Arrays" = true := by first | (simp [plainName, overriddenIn]; done) | decide +kernel
theorem od_j65_103_5 : decode jdk_65_method_103_code 5 = .ok (.iload_n 2, 1) := by decide +kernel
theorem od_j65_103_6 : decode jdk_65_method_103_code 6 = .ok (.iload_n 3, 1) := by decide +kernel
theorem od_j65_103_7 : decode jdk_65_method_103_code 7 = .ok (.if_icmp .ge 13, 3) := by decide +kernel
theorem od_j65_103_20 : decode jdk_65_method_103_code 20 = .ok (.return_, 1) := by decide +kernel
theorem od_j65_103_10 : decode jdk_65_method_103_code 10 = .ok (.aload_n 0, 1) := by decide +kernel
theorem od_j65_103_11 : decode jdk_65_method_103_code 11 = .ok (.iload_n 2, 1) := by decide +kernel
theorem od_j65_103_12 : decode jdk_65_method_103_code 12 = .ok (.iload_n 1, 1) := by decide +kernel
theorem od_j65_103_13 : decode jdk_65_method_103_code 13 = .ok (.iastore, 1) := by decide +kernel
theorem od_j65_103_14 : decode jdk_65_method_103_code 14 = .ok (.iinc 2 1, 3) := by decide +kernel
theorem od_j65_103_17 : decode jdk_65_method_103_code 17 = .ok (.goto (-12), 3) := by decide +kernel
theorem od_j65_103_0 : decode jdk_65_method_103_code 0 = .ok (.iconst 0, 1) := by decide +kernel
theorem od_j65_103_1 : decode jdk_65_method_103_code 1 = .ok (.istore_n 2, 1) := by decide +kernel
theorem od_j65_103_2 : decode jdk_65_method_103_code 2 = .ok (.aload_n 0, 1) := by decide +kernel
theorem od_j65_103_3 : decode jdk_65_method_103_code 3 = .ok (.arraylength, 1) := by decide +kernel
theorem od_j65_103_4 : decode jdk_65_method_103_code 4 = .ok (.istore_n 3, 1) := by decide +kernel
set_option maxRecDepth 65536 in
set_option maxHeartbeats 40000000 in
theorem own_c_fill (l : Launch) (Z : State) (a0 : Array Value) (hw : ∀ d ∈ tables_1, d.before a0 Z = true) (a1 : Addr) (n : Nat) (f : Nat → Int32) (x1 : Int32) (h0 : Heap) (n0 : Nat) (Z0 : n0 ≤ h0.size) (hn : n ≤ 64) (g1 : n0 ≤ a1) (A1 : own_IA Z h0 a1 .int n f) :
    own_Con l Z (⟨"java/util/Arrays", "fill", "([II)V"⟩ : MethodName) jdk_65_method_103_code 4 none [] ({ frames := 0, cells := 0, slots := 0, locals := 0 } : Room) #[(.ref a1), (.int x1)] h0 (fun v h L => v = none ∧ Fr n0 L ∧ Keep h0 h [a1] ∧ own_IA Z h a1 .int n (fun _ => x1)) := by
  refine own_enter (plainFor_of_name own_pn2) ?_
  intro p e s m below meth c s₁ X0 e0 hx hZ hby hml hown hnm hret hlk
  refine own_cast (g' := (mkF m 0 #[.val (.ref a1), .val (.int x1), .unset, .unset] [])) (by first | (simp [entryFrame, mkF, argsToLocals, Value.category]; done) | rfl) ?_
  have N0 := Fr.nil n0
  have loop : ∀ (k i : Nat) (T : State) (h : Heap) (L : List Loc), i + k = n → Stand p l e ({ frames := 0, cells := 0, slots := 0, locals := 0 } : Room) s m #[(.ref a1), (.int x1)] below meth c T L 0 0 → T.heap = h → n0 ≤ h.size → Fr n0 L → Keep h0 h [a1] → own_IA Z h a1 .int n (fun q => if q < i then x1 else f q) → own_E p e below (own_P (fun v h L => v = none ∧ Fr n0 L ∧ Keep h0 h [a1] ∧ own_IA Z h a1 .int n (fun _ => x1)) s 0 0) (T.setTop (mkF m 5 #[.val (.ref a1), .val (.int x1), .val (.int (Int32.ofNat i)), .val (.int (Int32.ofNat n))] [])) := by
    intro k
    induction k with
    | zero =>
      intro i T h L hi X eT z N K A
      obtain rfl : i = n := by omega
      show own_E p e below _ (T.setTop (mkF m 5 #[.val (.ref a1), .val (.int x1), .val (.int (Int32.ofNat i)), .val (.int (Int32.ofNat i))] []))
      refine own_g (mkF m 6 #[.val (.ref a1), .val (.int x1), .val (.int (Int32.ofNat i)), .val (.int (Int32.ofNat i))] [(.int (Int32.ofNat i))]) (fun _ kz => XS.iloadN X.here hx rfl (hb hby od_j65_103_5) rfl kz) ?_
      refine own_g (mkF m 7 #[.val (.ref a1), .val (.int x1), .val (.int (Int32.ofNat i)), .val (.int (Int32.ofNat i))] [(.int (Int32.ofNat i)), (.int (Int32.ofNat i))]) (fun _ kz => XS.iloadN X.here hx rfl (hb hby od_j65_103_6) rfl kz) ?_
      refine own_g (mkF m 20 #[.val (.ref a1), .val (.int x1), .val (.int (Int32.ofNat i)), .val (.int (Int32.ofNat i))] []) (fun _ kz => XS.icmpYes X.here hx rfl (pc0 := 7) (pc' := 20) rfl (hb hby od_j65_103_7) rfl (flt (Int32.lt_irrefl)).2.1 (by decide) (by decide) kz) ?_
      exact own_retV X hx hret hlk (hb hby od_j65_103_20) (by decide) (by decide) (by first | exact ⟨rfl, N, K, A.congr fun q hq => by simp [hq]⟩ | (rw [eT]; exact ⟨rfl, N, K, A.congr fun q hq => by simp [hq]⟩))
    | succ k ih =>
      intro i T h L hi X eT z N K A
      show own_E p e below _ (T.setTop (mkF m 5 #[.val (.ref a1), .val (.int x1), .val (.int (Int32.ofNat i)), .val (.int (Int32.ofNat n))] []))
      refine own_g (mkF m 6 #[.val (.ref a1), .val (.int x1), .val (.int (Int32.ofNat i)), .val (.int (Int32.ofNat n))] [(.int (Int32.ofNat i))]) (fun _ kz => XS.iloadN X.here hx rfl (hb hby od_j65_103_5) rfl kz) ?_
      refine own_g (mkF m 7 #[.val (.ref a1), .val (.int x1), .val (.int (Int32.ofNat i)), .val (.int (Int32.ofNat n))] [(.int (Int32.ofNat n)), (.int (Int32.ofNat i))]) (fun _ kz => XS.iloadN X.here hx rfl (hb hby od_j65_103_6) rfl kz) ?_
      refine own_g (mkF m 10 #[.val (.ref a1), .val (.int x1), .val (.int (Int32.ofNat i)), .val (.int (Int32.ofNat n))] []) (fun _ kz => XS.icmpNo X.here hx rfl (hb hby od_j65_103_7) rfl (tlt (own_lt (show i < n by omega) (by omega))).2.1 kz) ?_
      refine own_g (mkF m 11 #[.val (.ref a1), .val (.int x1), .val (.int (Int32.ofNat i)), .val (.int (Int32.ofNat n))] [(.ref a1)]) (fun _ kz => XS.aloadN X.here hx rfl (hb hby od_j65_103_10) rfl rfl kz) ?_
      refine own_g (mkF m 12 #[.val (.ref a1), .val (.int x1), .val (.int (Int32.ofNat i)), .val (.int (Int32.ofNat n))] [(.int (Int32.ofNat i)), (.ref a1)]) (fun _ kz => XS.iloadN X.here hx rfl (hb hby od_j65_103_11) rfl kz) ?_
      refine own_g (mkF m 13 #[.val (.ref a1), .val (.int x1), .val (.int (Int32.ofNat i)), .val (.int (Int32.ofNat n))] [(.int x1), (.int (Int32.ofNat i)), (.ref a1)]) (fun _ kz => XS.iloadN X.here hx rfl (hb hby od_j65_103_12) rfl kz) ?_
      refine own_stI X hx hZ eT A (hb hby od_j65_103_13) (own_nn (by omega)).1 (i := i) (own_nn (by omega)).2 (by omega) ?_
      intro T15 h15 X15 e15 W15 A15
      have N15 := Fr.snoc X15 N g1
      have s16 : n0 ≤ h15.size := Nat.le_trans z (Keep.of_wr W15).1
      have K17 := K.wr W15 (Or.inl (by simp))
      show own_E p e below _ (T15.setTop (mkF m 14 #[.val (.ref a1), .val (.int x1), .val (.int (Int32.ofNat i)), .val (.int (Int32.ofNat n))] []))
      refine own_g (mkF m 17 #[.val (.ref a1), .val (.int x1), .val (.int ((Int32.ofNat i) + (1 : Int32))), .val (.int (Int32.ofNat n))] []) (fun _ kz => XS.iinc X15.here hx rfl (hb hby od_j65_103_14) rfl (l' := #[.val (.ref a1), .val (.int x1), .val (.int ((Int32.ofNat i) + (1 : Int32))), .val (.int (Int32.ofNat n))]) rfl kz) ?_
      refine own_g (mkF m 5 #[.val (.ref a1), .val (.int x1), .val (.int ((Int32.ofNat i) + (1 : Int32))), .val (.int (Int32.ofNat n))] []) (fun _ kz => XS.goto X15.here hx rfl (pc0 := 17) (pc' := 5) rfl (hb hby od_j65_103_17) (by decide) (by decide) kz) ?_
      rw [own_one]
      show own_E p e below _ (T15.setTop (mkF m 5 #[.val (.ref a1), .val (.int x1), .val (.int (Int32.ofNat (i + 1))), .val (.int (Int32.ofNat n))] []))
      exact ih (i + 1) _ _ _ (by omega) X15 e15 s16 N15 K17 (A15.congr fun q hq => by
        by_cases u : q = i
        · subst u; simp [own_set]
        · simp [own_set, u, show (q < i + 1) = (q < i) from by simp; omega])
  refine own_g (mkF m 1 #[.val (.ref a1), .val (.int x1), .unset, .unset] [(.int (0 : Int32))]) (fun _ kz => XS.iconst X0.here hx rfl (hb hby od_j65_103_0) kz) ?_
  refine own_g (mkF m 2 #[.val (.ref a1), .val (.int x1), .val (.int (0 : Int32)), .unset] []) (fun _ kz => XS.istoreN X0.here hx rfl (hb hby od_j65_103_1) rfl (l' := #[.val (.ref a1), .val (.int x1), .val (.int (0 : Int32)), .unset]) rfl kz) ?_
  refine own_g (mkF m 3 #[.val (.ref a1), .val (.int x1), .val (.int (0 : Int32)), .unset] [(.ref a1)]) (fun _ kz => XS.aloadN X0.here hx rfl (hb hby od_j65_103_2) rfl rfl kz) ?_
  refine own_lenI X0 hx hZ e0 A1 (hb hby od_j65_103_3) (z := (Int32.ofNat n)) rfl ?_
  show own_E p e below _ (s₁.setTop (mkF m 4 #[.val (.ref a1), .val (.int x1), .val (.int (0 : Int32)), .unset] [(.int (Int32.ofNat n))]))
  refine own_g (mkF m 5 #[.val (.ref a1), .val (.int x1), .val (.int (0 : Int32)), .val (.int (Int32.ofNat n))] []) (fun _ kz => XS.istoreN X0.here hx rfl (hb hby od_j65_103_4) rfl (l' := #[.val (.ref a1), .val (.int x1), .val (.int (0 : Int32)), .val (.int (Int32.ofNat n))]) rfl kz) ?_
  exact loop n 0 _ _ _ (by omega) X0 e0 Z0 N0 (Keep.refl _ _) (A1.congr fun q hq => by simp)
theorem od_17_6_0 : decode prog_17_method_6_code 0 = .ok (.iload_n 0, 1) := by decide +kernel
theorem od_17_6_1 : decode prog_17_method_6_code 1 = .ok (.newarray .int, 2) := by decide +kernel
theorem od_17_6_3 : decode prog_17_method_6_code 3 = .ok (.astore_n 1, 1) := by decide +kernel
theorem od_17_6_4 : decode prog_17_method_6_code 4 = .ok (.aload_n 1, 1) := by decide +kernel
theorem od_17_6_5 : decode prog_17_method_6_code 5 = .ok (.iconst (-1), 1) := by decide +kernel
theorem own_pd0 : parseMethodDescriptor "([II)V" = some ⟨[(.array .int), .int], none⟩ := by decide +kernel
theorem od_17_6_6 : decode prog_17_method_6_code 6 = .ok (.invokestatic 46, 3) := by decide +kernel
theorem od_17_6_9 : decode prog_17_method_6_code 9 = .ok (.aload_n 1, 1) := by decide +kernel
theorem od_17_6_10 : decode prog_17_method_6_code 10 = .ok (.areturn, 1) := by decide +kernel
set_option maxRecDepth 65536 in
set_option maxHeartbeats 40000000 in
theorem own_c_emp (l : Launch) (Z : State) (a0 : Array Value) (hw : ∀ d ∈ tables_1, d.before a0 Z = true) (h0 : Heap) (n0 : Nat) (Z0 : n0 ≤ h0.size) :
    own_Con l Z (⟨"com/example/demesne/demesne/core/LongIntMap", "emptyValues", "(I)[I"⟩ : MethodName) prog_17_method_6_code 2 (some (.array .int)) [] ({ frames := 1, cells := 1, slots := 64, locals := 17 } : Room) #[(.int (64 : Int32))] h0 (fun v h L => ∃ b, v = some (.ref b) ∧ Fr n0 L ∧ Keep h0 h [] ∧ n0 ≤ b ∧ h0.size ≤ b ∧ own_IA Z h b .int 64 (fun _ => -1)) := by
  refine own_enter (plainFor_of_name own_pn0) ?_
  intro p e s m below meth c s₁ X0 e0 hx hZ hby hml hown hnm hret hlk
  refine own_cast (g' := (mkF m 0 #[.val (.int (64 : Int32)), .unset] [])) (by first | (simp [entryFrame, mkF, argsToLocals, Value.category]; done) | rfl) ?_
  have N0 := Fr.nil n0
  have K0 := Keep.refl h0 []
  refine own_g (mkF m 1 #[.val (.int (64 : Int32)), .unset] [(.int (64 : Int32))]) (fun _ kz => XS.iloadN X0.here hx rfl (hb hby od_17_6_0) rfl kz) ?_
  refine own_newI X0 hx hZ e0 (own_w hw 16 rfl) rfl (hb hby od_17_6_1) (by decide) (n := 64) rfl 64 (by decide) (by decide) (by decide) (by decide) ?_
  intro T18 h18 o18 g18 X18 e18 E18 A18
  have b19 : n0 ≤ o18 := Nat.le_trans Z0 (Nat.le_of_eq g18.symm)
  have z20 : h0.size ≤ o18 := Nat.le_trans K0.1 (Nat.le_of_eq g18.symm)
  have K21 := K0.ext E18
  have s22 : n0 ≤ h18.size := Nat.le_trans Z0 E18.1
  show own_E p e below _ (T18.setTop (mkF m 3 #[.val (.int (64 : Int32)), .unset] [(.ref o18)]))
  refine own_g (mkF m 4 #[.val (.int (64 : Int32)), .val (.ref o18)] []) (fun _ kz => XS.astoreN X18.here hx rfl (hb hby od_17_6_3) rfl rfl (l' := #[.val (.int (64 : Int32)), .val (.ref o18)]) rfl kz) ?_
  refine own_g (mkF m 5 #[.val (.int (64 : Int32)), .val (.ref o18)] [(.ref o18)]) (fun _ kz => XS.aloadN X18.here hx rfl (hb hby od_17_6_4) rfl rfl kz) ?_
  refine own_g (mkF m 6 #[.val (.int (64 : Int32)), .val (.ref o18)] [(.int (-1 : Int32)), (.ref o18)]) (fun _ kz => XS.iconst X18.here hx rfl (hb hby od_17_6_5) kz) ?_
  refine own_callS (rest := []) (as := [(.ref o18), (.int (-1 : Int32))]) X18 hx hZ hown e18 (own_c_fill l Z a0 hw o18 64 (fun _ => (0 : Int32)) (-1) h18 n0 s22 (by decide) b19 A18) (own_w hw 17 rfl) (own_w hw 18 rfl) (own_w hw 19 rfl) (own_w hw 20 rfl) (by decide) own_pd0 rfl (by rw [hml]; rfl) rfl (hb hby od_17_6_6) 0 (by show 2 * 0 + _ ≤ _; exact Nat.le_of_eq rfl) (by decide) (by decide) (by decide) (by decide) ?_
  rintro _ T23 L23 X23 ⟨rfl, Nq23, K23, A23⟩
  have N23 := Fr.app N0 Nq23
  have s25 : n0 ≤ T23.heap.size := Nat.le_trans s22 K23.1
  have K26 := K21.trans K23 (allS (Or.inr z20) all0)
  show own_E p e below _ (T23.setTop (mkF m 9 #[.val (.int (64 : Int32)), .val (.ref o18)] []))
  refine own_g (mkF m 10 #[.val (.int (64 : Int32)), .val (.ref o18)] [(.ref o18)]) (fun _ kz => XS.aloadN X23.here hx rfl (hb hby od_17_6_9) rfl rfl kz) ?_
  exact own_retA X23 hx rfl hret hlk (hb hby od_17_6_10) (by decide) (by decide) ((⟨o18, rfl, N23, K26, b19, z20, A23⟩))
theorem od_17_1_0 : decode prog_17_method_1_code 0 = .ok (.aload_n 0, 1) := by decide +kernel
theorem od_17_1_1 : decode prog_17_method_1_code 1 = .ok (.invokespecial 1, 3) := by decide +kernel
theorem od_17_1_4 : decode prog_17_method_1_code 4 = .ok (.aload_n 0, 1) := by decide +kernel
theorem od_17_1_5 : decode prog_17_method_1_code 5 = .ok (.bipush 64, 2) := by decide +kernel
theorem od_17_1_7 : decode prog_17_method_1_code 7 = .ok (.newarray .long, 2) := by decide +kernel
theorem od_17_1_9 : decode prog_17_method_1_code 9 = .ok (.putfield 7, 3) := by decide +kernel
theorem od_17_1_12 : decode prog_17_method_1_code 12 = .ok (.aload_n 0, 1) := by decide +kernel
theorem od_17_1_13 : decode prog_17_method_1_code 13 = .ok (.bipush 64, 2) := by decide +kernel
theorem own_pd1 : parseMethodDescriptor "(I)[I" = some ⟨[.int], some (.array .int)⟩ := by decide +kernel
theorem od_17_1_15 : decode prog_17_method_1_code 15 = .ok (.invokestatic 13, 3) := by decide +kernel
theorem od_17_1_18 : decode prog_17_method_1_code 18 = .ok (.putfield 17, 3) := by decide +kernel
theorem od_17_1_21 : decode prog_17_method_1_code 21 = .ok (.return_, 1) := by decide +kernel
set_option maxRecDepth 65536 in
set_option maxHeartbeats 40000000 in
theorem own_c_ini (l : Launch) (Z : State) (a0 : Array Value) (hw : ∀ d ∈ tables_1, d.before a0 Z = true) (a1 : Addr) (h0 : Heap) (n0 : Nat) (Z0 : n0 ≤ h0.size) (g1 : n0 ≤ a1) (E1 : Exa Z h0 a1 "com/example/demesne/demesne/core/LongIntMap") (Fk : Fld Z h0 a1 "com/example/demesne/demesne/core/LongIntMap" "keys" "[J" .null) (Fv : Fld Z h0 a1 "com/example/demesne/demesne/core/LongIntMap" "values" "[I" .null) (Fs : Fld Z h0 a1 "com/example/demesne/demesne/core/LongIntMap" "size" "I" (.int (0 : Int32))) :
    own_Con l Z (⟨"com/example/demesne/demesne/core/LongIntMap", "<init>", "()V"⟩ : MethodName) prog_17_method_1_code 1 none [] ({ frames := 2, cells := 2, slots := 128, locals := 31 } : Room) #[(.ref a1)] h0 (fun v h L => v = none ∧ Fr n0 L ∧ Keep h0 h [a1] ∧ ∃ b c, n0 ≤ b ∧ n0 ≤ c ∧ a1 ≠ b ∧ a1 ≠ c ∧ b ≠ c ∧ Fld Z h a1 "com/example/demesne/demesne/core/LongIntMap" "keys" "[J" (.ref b) ∧ Fld Z h a1 "com/example/demesne/demesne/core/LongIntMap" "values" "[I" (.ref c) ∧ Fld Z h a1 "com/example/demesne/demesne/core/LongIntMap" "size" "I" (.int (Int32.ofNat 0)) ∧ own_JA Z h b 64 (fun _ => 0) ∧ own_IA Z h c .int 64 (fun _ => -1)) := by
  refine own_enter (plainFor_of_name own_pn0) ?_
  intro p e s m below meth c s₁ X0 e0 hx hZ hby hml hown hnm hret hlk
  refine own_cast (g' := (mkF m 0 #[.val (.ref a1)] [])) (by first | (simp [entryFrame, mkF, argsToLocals, Value.category]; done) | rfl) ?_
  have N0 := Fr.nil n0
  have K0 := Keep.refl h0 [a1]
  refine own_g (mkF m 1 #[.val (.ref a1)] [(.ref a1)]) (fun _ kz => XS.aloadN X0.here hx rfl (hb hby od_17_1_0) rfl rfl kz) ?_
  obtain ⟨T27, X27, e27, st27⟩ := initO X0 hx hZ hown (own_w hw 7 rfl) (own_w hw 8 rfl) (own_w hw 9 rfl) e0 (g := (mkF m 1 #[.val (.ref a1)] [(.ref a1)])) rfl (by rw [hml]; rfl) rfl (hb hby od_17_1_1) (by decide) (W := 0) (by show 2 * 0 + _ ≤ _; exact Nat.le_of_eq rfl) (by decide)
  refine own_s st27 ?_
  show own_E p e below _ (T27.setTop (mkF m 4 #[.val (.ref a1)] []))
  refine own_g (mkF m 5 #[.val (.ref a1)] [(.ref a1)]) (fun _ kz => XS.aloadN X27.here hx rfl (hb hby od_17_1_4) rfl rfl kz) ?_
  refine own_g (mkF m 7 #[.val (.ref a1)] [(.int (64 : Int32)), (.ref a1)]) (fun _ kz => XS.bipush X27.here hx rfl (hb hby od_17_1_5) kz) ?_
  refine own_newJ X27 hx hZ e27 (own_w hw 10 rfl) (hb hby od_17_1_7) (by decide) (n := 64) rfl 64 (by decide) (by decide) (by decide) (by decide) ?_
  intro T28 h28 o28 g28 X28 e28 E28 A28
  have lt29 : a1 < o28 := Nat.lt_of_lt_of_le E1.lt (Nat.le_of_eq g28.symm)
  have b30 : n0 ≤ o28 := Nat.le_trans Z0 (Nat.le_of_eq g28.symm)
  have z31 : h0.size ≤ o28 := Nat.le_trans K0.1 (Nat.le_of_eq g28.symm)
  have f32 := Exa.ext E28 E1
  have f33 := Fld.ext E28 Fk
  have f34 := Fld.ext E28 Fv
  have f35 := Fld.ext E28 Fs
  have K36 := K0.ext E28
  have s37 : n0 ≤ h28.size := Nat.le_trans Z0 E28.1
  show own_E p e below _ (T28.setTop (mkF m 9 #[.val (.ref a1)] [(.ref o28), (.ref a1)]))
  obtain ⟨T38, h38, X38, e38, W38, st38⟩ := putF X28 hx hZ hown (host := "") (Or.inl (own_w hw 11 rfl)) Via.refl e28 f33 f32 (Or.inl (own_w hw 12 rfl)) (own_w hw 2 rfl) (ty := (.array .long)) (by decide) rfl rfl (g := (mkF m 9 #[.val (.ref a1)] [(.ref o28), (.ref a1)])) rfl rfl (hb hby od_17_1_9)
  have N38 := Fr.snoc X38 N0 g1
  have s39 : n0 ≤ h38.size := Nat.le_trans s37 (Keep.of_wr W38).1
  have f40 := Exa.wr W38 f32
  have f41 := Fld.other W38 f34 (Or.inr (slot_ne (Or.inl (own_w hw 22 rfl)) (Or.inl (own_w hw 12 rfl)) (by decide) (t := (.array .int)) (t' := (.array .long)) (by decide) (by decide)))
  have f42 := Fld.other W38 f35 (Or.inr (slot_ne (Or.inl (own_w hw 42 rfl)) (Or.inl (own_w hw 12 rfl)) (by decide) (t := .int) (t' := (.array .long)) (by decide) (by decide)))
  have f43 := A28.other W38 (Ne.symm (Nat.ne_of_lt lt29))
  have K44 := K36.wr W38 (Or.inl (by simp))
  have f45 := Fld.same W38 f33
  refine own_s st38 ?_
  show own_E p e below _ (T38.setTop (mkF m 12 #[.val (.ref a1)] []))
  refine own_g (mkF m 13 #[.val (.ref a1)] [(.ref a1)]) (fun _ kz => XS.aloadN X38.here hx rfl (hb hby od_17_1_12) rfl rfl kz) ?_
  refine own_g (mkF m 15 #[.val (.ref a1)] [(.int (64 : Int32)), (.ref a1)]) (fun _ kz => XS.bipush X38.here hx rfl (hb hby od_17_1_13) kz) ?_
  refine own_callS (rest := [(.ref a1)]) (as := [(.int (64 : Int32))]) X38 hx hZ hown e38 (own_c_emp l Z a0 hw h38 n0 s39) (own_w hw 13 rfl) (own_w hw 14 rfl) (own_w hw 3 rfl) (own_w hw 15 rfl) (by decide) own_pd1 rfl (by rw [hml]; rfl) rfl (hb hby od_17_1_15) 1 (by show 2 * 0 + _ ≤ _; exact Nat.le_of_eq rfl) (by decide) (by decide) (by decide) (by decide) ?_
  rintro _ T46 L46 X46 ⟨oc, rfl, Nq46, K46, goc, zoc, A46⟩
  have N46 := Fr.app N38 Nq46
  have f47 := Exa.keep f40 K46
  have f48 := Fld.keep f45 K46 nin0
  have f49 := Fld.keep f41 K46 nin0
  have f50 := Fld.keep f42 K46 nin0
  have f51 := own_JA.keep f43 K46 nin0
  have s52 : n0 ≤ T46.heap.size := Nat.le_trans s39 K46.1
  have K53 := K44.trans K46 all0
  show own_E p e below _ (T46.setTop (mkF m 18 #[.val (.ref a1)] [(.ref oc), (.ref a1)]))
  have noc : a1 ≠ oc := Nat.ne_of_lt (Nat.lt_of_lt_of_le f40.lt zoc)
  have nbc : o28 ≠ oc := Nat.ne_of_lt (Nat.lt_of_lt_of_le f43.lt zoc)
  have zh : h0.size ≤ oc := Nat.le_trans K44.1 zoc
  obtain ⟨T54, h54, X54, e54, W54, st54⟩ := putF X46 hx hZ hown (host := "") (Or.inl (own_w hw 21 rfl)) Via.refl rfl f49 f47 (Or.inl (own_w hw 22 rfl)) (own_w hw 2 rfl) (ty := (.array .int)) (by decide) rfl rfl (g := (mkF m 18 #[.val (.ref a1)] [(.ref oc), (.ref a1)])) rfl rfl (hb hby od_17_1_18)
  have N54 := Fr.snoc X54 N46 g1
  have s55 : n0 ≤ h54.size := Nat.le_trans s52 (Keep.of_wr W54).1
  have f56 := Exa.wr W54 f47
  have f57 := Fld.other W54 f48 (Or.inr (slot_ne (Or.inl (own_w hw 12 rfl)) (Or.inl (own_w hw 22 rfl)) (by decide) (t := (.array .long)) (t' := (.array .int)) (by decide) (by decide)))
  have f58 := Fld.other W54 f50 (Or.inr (slot_ne (Or.inl (own_w hw 42 rfl)) (Or.inl (own_w hw 22 rfl)) (by decide) (t := .int) (t' := (.array .int)) (by decide) (by decide)))
  have f59 := f51.other W54 (Ne.symm (Nat.ne_of_lt lt29))
  have f60 := A46.other W54 (Ne.symm noc)
  have K61 := K53.wr W54 (Or.inl (by simp))
  have f62 := Fld.same W54 f49
  refine own_s st54 ?_
  show own_E p e below _ (T54.setTop (mkF m 21 #[.val (.ref a1)] []))
  exact own_retV X54 hx hret hlk (hb hby od_17_1_21) (by decide) (by decide) (by first | exact ⟨rfl, N54, K61, o28, oc, b30, goc, (Nat.ne_of_lt lt29), noc, nbc, f57, f62, f58, f59, f60⟩ | (rw [e54]; exact ⟨rfl, N54, K61, o28, oc, b30, goc, (Nat.ne_of_lt lt29), noc, nbc, f57, f62, f58, f59, f60⟩))
theorem od_17_3_15 : decode prog_17_method_3_code 15 = .ok (.aload_n 0, 1) := by decide +kernel
theorem od_17_3_16 : decode prog_17_method_3_code 16 = .ok (.getfield 17, 3) := by decide +kernel
theorem od_17_3_19 : decode prog_17_method_3_code 19 = .ok (.iload 4, 2) := by decide +kernel
theorem od_17_3_21 : decode prog_17_method_3_code 21 = .ok (.iaload, 1) := by decide +kernel
theorem od_17_3_22 : decode prog_17_method_3_code 22 = .ok (.iconst (-1), 1) := by decide +kernel
theorem od_17_3_23 : decode prog_17_method_3_code 23 = .ok (.if_icmp .ne 5, 3) := by decide +kernel
theorem od_17_3_26 : decode prog_17_method_3_code 26 = .ok (.iconst (-1), 1) := by decide +kernel
theorem od_17_3_27 : decode prog_17_method_3_code 27 = .ok (.ireturn, 1) := by decide +kernel
theorem od_17_3_28 : decode prog_17_method_3_code 28 = .ok (.aload_n 0, 1) := by decide +kernel
theorem od_17_3_29 : decode prog_17_method_3_code 29 = .ok (.getfield 7, 3) := by decide +kernel
theorem od_17_3_32 : decode prog_17_method_3_code 32 = .ok (.iload 4, 2) := by decide +kernel
theorem od_17_3_34 : decode prog_17_method_3_code 34 = .ok (.laload, 1) := by decide +kernel
theorem od_17_3_35 : decode prog_17_method_3_code 35 = .ok (.lload_n 1, 1) := by decide +kernel
theorem od_17_3_36 : decode prog_17_method_3_code 36 = .ok (.lcmp, 1) := by decide +kernel
theorem od_17_3_37 : decode prog_17_method_3_code 37 = .ok (.ifCond .ne 11, 3) := by decide +kernel
theorem od_17_3_40 : decode prog_17_method_3_code 40 = .ok (.aload_n 0, 1) := by decide +kernel
theorem od_17_3_41 : decode prog_17_method_3_code 41 = .ok (.getfield 17, 3) := by decide +kernel
theorem od_17_3_44 : decode prog_17_method_3_code 44 = .ok (.iload 4, 2) := by decide +kernel
theorem od_17_3_46 : decode prog_17_method_3_code 46 = .ok (.iaload, 1) := by decide +kernel
theorem od_17_3_47 : decode prog_17_method_3_code 47 = .ok (.ireturn, 1) := by decide +kernel
theorem od_17_3_48 : decode prog_17_method_3_code 48 = .ok (.iload 4, 2) := by decide +kernel
theorem od_17_3_50 : decode prog_17_method_3_code 50 = .ok (.iconst 1, 1) := by decide +kernel
theorem od_17_3_51 : decode prog_17_method_3_code 51 = .ok (.iadd, 1) := by decide +kernel
theorem od_17_3_52 : decode prog_17_method_3_code 52 = .ok (.iload_n 3, 1) := by decide +kernel
theorem od_17_3_53 : decode prog_17_method_3_code 53 = .ok (.iand, 1) := by decide +kernel
theorem od_17_3_54 : decode prog_17_method_3_code 54 = .ok (.istore 4, 2) := by decide +kernel
theorem od_17_3_56 : decode prog_17_method_3_code 56 = .ok (.goto (-41), 3) := by decide +kernel
theorem od_17_3_0 : decode prog_17_method_3_code 0 = .ok (.aload_n 0, 1) := by decide +kernel
theorem od_17_3_1 : decode prog_17_method_3_code 1 = .ok (.getfield 7, 3) := by decide +kernel
theorem od_17_3_4 : decode prog_17_method_3_code 4 = .ok (.arraylength, 1) := by decide +kernel
theorem od_17_3_5 : decode prog_17_method_3_code 5 = .ok (.iconst 1, 1) := by decide +kernel
theorem od_17_3_6 : decode prog_17_method_3_code 6 = .ok (.isub, 1) := by decide +kernel
theorem od_17_3_7 : decode prog_17_method_3_code 7 = .ok (.istore_n 3, 1) := by decide +kernel
theorem od_17_3_8 : decode prog_17_method_3_code 8 = .ok (.lload_n 1, 1) := by decide +kernel
theorem od_17_3_9 : decode prog_17_method_3_code 9 = .ok (.iload_n 3, 1) := by decide +kernel
theorem own_pd2 : parseMethodDescriptor "(JI)I" = some ⟨[.long, .int], some .int⟩ := by decide +kernel
theorem od_17_3_10 : decode prog_17_method_3_code 10 = .ok (.invokestatic 23, 3) := by decide +kernel
theorem od_17_3_13 : decode prog_17_method_3_code 13 = .ok (.istore 4, 2) := by decide +kernel
set_option maxRecDepth 65536 in
set_option maxHeartbeats 40000000 in
theorem own_c_get (l : Launch) (Z : State) (a0 : Array Value) (hw : ∀ d ∈ tables_1, d.before a0 Z = true) (a1 : Addr) (b1 : Addr) (c1 : Addr) (kf : Nat → Int64) (vf : Nat → Int32) (x1 : Int64) (h0 : Heap) (hst : vf (own_at kf vf x1) = -1 ∨ kf (own_at kf vf x1) = x1) (Fk : Fld Z h0 a1 "com/example/demesne/demesne/core/LongIntMap" "keys" "[J" (.ref b1)) (Fv : Fld Z h0 a1 "com/example/demesne/demesne/core/LongIntMap" "values" "[I" (.ref c1)) (Ak : own_JA Z h0 b1 64 kf) (Av : own_IA Z h0 c1 .int 64 vf) :
    own_Con l Z (⟨"com/example/demesne/demesne/core/LongIntMap", "get", "(J)I"⟩ : MethodName) prog_17_method_3_code 5 (some .int) [] ({ frames := 1, cells := 0, slots := 0, locals := 18 } : Room) #[(.ref a1), (.long x1)] h0 (fun v h L => v = some (.int (vf (own_at kf vf x1))) ∧ L = [] ∧ h = h0) := by
  refine own_enter (plainFor_of_name own_pn0) ?_
  intro p e s m below meth c s₁ X0 e0 hx hZ hby hml hown hnm hret hlk
  refine own_cast (g' := (mkF m 0 #[.val (.ref a1), .val (.long x1), .second, .unset, .unset] [])) (by first | (simp [entryFrame, mkF, argsToLocals, Value.category]; done) | rfl) ?_
  generalize hjf : own_at kf vf x1 = jf at hst ⊢
  have loop : ∀ (d j : Nat) (T : State), own_find kf vf x1 d j = jf → j < 64 → Stand p l e ({ frames := 1, cells := 0, slots := 0, locals := 18 } : Room) s m #[(.ref a1), (.long x1)] below meth c T [] 0 0 → T.heap = h0 → own_E p e below (own_P (fun v h L => v = some (.int (vf jf)) ∧ L = [] ∧ h = h0) s 0 0) (T.setTop (mkF m 15 #[.val (.ref a1), .val (.long x1), .second, .val (.int (63 : Int32)), .val (.int (Int32.ofNat j))] [])) := by
    intro d
    induction d with
    | zero =>
      intro j T hf hj X eT
      show own_E p e below _ (T.setTop (mkF m 15 #[.val (.ref a1), .val (.long x1), .second, .val (.int (63 : Int32)), .val (.int (Int32.ofNat j))] []))
      refine own_g (mkF m 16 #[.val (.ref a1), .val (.long x1), .second, .val (.int (63 : Int32)), .val (.int (Int32.ofNat j))] [(.ref a1)]) (fun _ kz => XS.aloadN X.here hx rfl (hb hby od_17_3_15) rfl rfl kz) ?_
      obtain ⟨T63, X63, e63, st63⟩ := getF X hx hZ hown (host := "") (Or.inl (own_w hw 21 rfl)) Via.refl eT Fv (g := (mkF m 16 #[.val (.ref a1), .val (.long x1), .second, .val (.int (63 : Int32)), .val (.int (Int32.ofNat j))] [(.ref a1)])) rfl rfl (hb hby od_17_3_16)
      refine own_s st63 ?_
      show own_E p e below _ (T63.setTop (mkF m 19 #[.val (.ref a1), .val (.long x1), .second, .val (.int (63 : Int32)), .val (.int (Int32.ofNat j))] [(.ref c1)]))
      refine own_g (mkF m 21 #[.val (.ref a1), .val (.long x1), .second, .val (.int (63 : Int32)), .val (.int (Int32.ofNat j))] [(.int (Int32.ofNat j)), (.ref c1)]) (fun _ kz => XS.iload X63.here hx rfl (hb hby od_17_3_19) rfl kz) ?_
      refine own_ildI X63 hx hZ e63 Av (hb hby od_17_3_21) (own_nn (by omega)).1 (i := j) (own_nn (by omega)).2 hj (x := (vf j)) rfl ?_
      show own_E p e below _ (T63.setTop (mkF m 22 #[.val (.ref a1), .val (.long x1), .second, .val (.int (63 : Int32)), .val (.int (Int32.ofNat j))] [(.int (vf j))]))
      refine own_g (mkF m 23 #[.val (.ref a1), .val (.long x1), .second, .val (.int (63 : Int32)), .val (.int (Int32.ofNat j))] [(.int (-1 : Int32)), (.int (vf j))]) (fun _ kz => XS.iconst X63.here hx rfl (hb hby od_17_3_22) kz) ?_
      by_cases hv : (vf j) = (-1 : Int32)
      · refine own_g (mkF m 26 #[.val (.ref a1), .val (.long x1), .second, .val (.int (63 : Int32)), .val (.int (Int32.ofNat j))] []) (fun _ kz => XS.icmpNo X63.here hx rfl (hb hby od_17_3_23) rfl (teq hv).2 kz) ?_
        refine own_g (mkF m 27 #[.val (.ref a1), .val (.long x1), .second, .val (.int (63 : Int32)), .val (.int (Int32.ofNat j))] [(.int (-1 : Int32))]) (fun _ kz => XS.iconst X63.here hx rfl (hb hby od_17_3_26) kz) ?_
        exact own_retI X63 hx hret hlk (hb hby od_17_3_27) (by decide) (by decide) (by first | exact ⟨by rw [← (show j = jf from hf), hv], rfl, rfl⟩ | (rw [e63]; exact ⟨by rw [← (show j = jf from hf), hv], rfl, rfl⟩))
      · refine own_g (mkF m 28 #[.val (.ref a1), .val (.long x1), .second, .val (.int (63 : Int32)), .val (.int (Int32.ofNat j))] []) (fun _ kz => XS.icmpYes X63.here hx rfl (pc0 := 23) (pc' := 28) rfl (hb hby od_17_3_23) rfl (feq hv).2 (by decide) (by decide) kz) ?_
        refine own_g (mkF m 29 #[.val (.ref a1), .val (.long x1), .second, .val (.int (63 : Int32)), .val (.int (Int32.ofNat j))] [(.ref a1)]) (fun _ kz => XS.aloadN X63.here hx rfl (hb hby od_17_3_28) rfl rfl kz) ?_
        obtain ⟨T64, X64, e64, st64⟩ := getF X63 hx hZ hown (host := "") (Or.inl (own_w hw 11 rfl)) Via.refl e63 Fk (g := (mkF m 29 #[.val (.ref a1), .val (.long x1), .second, .val (.int (63 : Int32)), .val (.int (Int32.ofNat j))] [(.ref a1)])) rfl rfl (hb hby od_17_3_29)
        refine own_s st64 ?_
        show own_E p e below _ (T64.setTop (mkF m 32 #[.val (.ref a1), .val (.long x1), .second, .val (.int (63 : Int32)), .val (.int (Int32.ofNat j))] [(.ref b1)]))
        refine own_g (mkF m 34 #[.val (.ref a1), .val (.long x1), .second, .val (.int (63 : Int32)), .val (.int (Int32.ofNat j))] [(.int (Int32.ofNat j)), (.ref b1)]) (fun _ kz => XS.iload X64.here hx rfl (hb hby od_17_3_32) rfl kz) ?_
        refine own_ildJ X64 hx hZ e64 Ak (hb hby od_17_3_34) (own_nn (by omega)).1 (i := j) (own_nn (by omega)).2 hj (x := (kf j)) rfl ?_
        show own_E p e below _ (T64.setTop (mkF m 35 #[.val (.ref a1), .val (.long x1), .second, .val (.int (63 : Int32)), .val (.int (Int32.ofNat j))] [(.long (kf j))]))
        refine own_g (mkF m 36 #[.val (.ref a1), .val (.long x1), .second, .val (.int (63 : Int32)), .val (.int (Int32.ofNat j))] [(.long x1), (.long (kf j))]) (fun _ kz => XS.lloadN X64.here hx rfl (hb hby od_17_3_35) rfl kz) ?_
        refine own_g (mkF m 37 #[.val (.ref a1), .val (.long x1), .second, .val (.int (63 : Int32)), .val (.int (Int32.ofNat j))] [(.int (lcmpW (kf j) x1))]) (fun _ kz => XS.lcmp X64.here hx rfl (hb hby od_17_3_36) rfl kz) ?_
        by_cases hk : (kf j) = x1
        · refine own_g (mkF m 40 #[.val (.ref a1), .val (.long x1), .second, .val (.int (63 : Int32)), .val (.int (Int32.ofNat j))] []) (fun _ kz => XS.ifNo X64.here hx rfl (hb hby od_17_3_37) rfl ((if0 _ _).trans (teq (own_lcT hk)).2) kz) ?_
          refine own_g (mkF m 41 #[.val (.ref a1), .val (.long x1), .second, .val (.int (63 : Int32)), .val (.int (Int32.ofNat j))] [(.ref a1)]) (fun _ kz => XS.aloadN X64.here hx rfl (hb hby od_17_3_40) rfl rfl kz) ?_
          obtain ⟨T65, X65, e65, st65⟩ := getF X64 hx hZ hown (host := "") (Or.inl (own_w hw 21 rfl)) Via.refl e64 Fv (g := (mkF m 41 #[.val (.ref a1), .val (.long x1), .second, .val (.int (63 : Int32)), .val (.int (Int32.ofNat j))] [(.ref a1)])) rfl rfl (hb hby od_17_3_41)
          refine own_s st65 ?_
          show own_E p e below _ (T65.setTop (mkF m 44 #[.val (.ref a1), .val (.long x1), .second, .val (.int (63 : Int32)), .val (.int (Int32.ofNat j))] [(.ref c1)]))
          refine own_g (mkF m 46 #[.val (.ref a1), .val (.long x1), .second, .val (.int (63 : Int32)), .val (.int (Int32.ofNat j))] [(.int (Int32.ofNat j)), (.ref c1)]) (fun _ kz => XS.iload X65.here hx rfl (hb hby od_17_3_44) rfl kz) ?_
          refine own_ildI X65 hx hZ e65 Av (hb hby od_17_3_46) (own_nn (by omega)).1 (i := j) (own_nn (by omega)).2 hj (x := (vf j)) rfl ?_
          show own_E p e below _ (T65.setTop (mkF m 47 #[.val (.ref a1), .val (.long x1), .second, .val (.int (63 : Int32)), .val (.int (Int32.ofNat j))] [(.int (vf j))]))
          exact own_retI X65 hx hret hlk (hb hby od_17_3_47) (by decide) (by decide) (by first | exact ⟨by rw [← (show j = jf from hf)], rfl, rfl⟩ | (rw [e65]; exact ⟨by rw [← (show j = jf from hf)], rfl, rfl⟩))
        · refine own_g (mkF m 48 #[.val (.ref a1), .val (.long x1), .second, .val (.int (63 : Int32)), .val (.int (Int32.ofNat j))] []) (fun _ kz => XS.ifYes X64.here hx rfl (pc0 := 37) (pc' := 48) rfl (hb hby od_17_3_37) rfl ((if0 _ _).trans (feq (own_lcF hk)).2) (by decide) (by decide) kz) ?_
          exact (show False from by subst hf; exact hst.elim hv hk).elim
    | succ d ih =>
      intro j T hf hj X eT
      show own_E p e below _ (T.setTop (mkF m 15 #[.val (.ref a1), .val (.long x1), .second, .val (.int (63 : Int32)), .val (.int (Int32.ofNat j))] []))
      refine own_g (mkF m 16 #[.val (.ref a1), .val (.long x1), .second, .val (.int (63 : Int32)), .val (.int (Int32.ofNat j))] [(.ref a1)]) (fun _ kz => XS.aloadN X.here hx rfl (hb hby od_17_3_15) rfl rfl kz) ?_
      obtain ⟨T66, X66, e66, st66⟩ := getF X hx hZ hown (host := "") (Or.inl (own_w hw 21 rfl)) Via.refl eT Fv (g := (mkF m 16 #[.val (.ref a1), .val (.long x1), .second, .val (.int (63 : Int32)), .val (.int (Int32.ofNat j))] [(.ref a1)])) rfl rfl (hb hby od_17_3_16)
      refine own_s st66 ?_
      show own_E p e below _ (T66.setTop (mkF m 19 #[.val (.ref a1), .val (.long x1), .second, .val (.int (63 : Int32)), .val (.int (Int32.ofNat j))] [(.ref c1)]))
      refine own_g (mkF m 21 #[.val (.ref a1), .val (.long x1), .second, .val (.int (63 : Int32)), .val (.int (Int32.ofNat j))] [(.int (Int32.ofNat j)), (.ref c1)]) (fun _ kz => XS.iload X66.here hx rfl (hb hby od_17_3_19) rfl kz) ?_
      refine own_ildI X66 hx hZ e66 Av (hb hby od_17_3_21) (own_nn (by omega)).1 (i := j) (own_nn (by omega)).2 hj (x := (vf j)) rfl ?_
      show own_E p e below _ (T66.setTop (mkF m 22 #[.val (.ref a1), .val (.long x1), .second, .val (.int (63 : Int32)), .val (.int (Int32.ofNat j))] [(.int (vf j))]))
      refine own_g (mkF m 23 #[.val (.ref a1), .val (.long x1), .second, .val (.int (63 : Int32)), .val (.int (Int32.ofNat j))] [(.int (-1 : Int32)), (.int (vf j))]) (fun _ kz => XS.iconst X66.here hx rfl (hb hby od_17_3_22) kz) ?_
      by_cases hv : (vf j) = (-1 : Int32)
      · refine own_g (mkF m 26 #[.val (.ref a1), .val (.long x1), .second, .val (.int (63 : Int32)), .val (.int (Int32.ofNat j))] []) (fun _ kz => XS.icmpNo X66.here hx rfl (hb hby od_17_3_23) rfl (teq hv).2 kz) ?_
        refine own_g (mkF m 27 #[.val (.ref a1), .val (.long x1), .second, .val (.int (63 : Int32)), .val (.int (Int32.ofNat j))] [(.int (-1 : Int32))]) (fun _ kz => XS.iconst X66.here hx rfl (hb hby od_17_3_26) kz) ?_
        exact own_retI X66 hx hret hlk (hb hby od_17_3_27) (by decide) (by decide) (by first | exact ⟨by rw [← (show j = jf from by rw [own_find, if_pos hv] at hf; exact hf), hv], rfl, rfl⟩ | (rw [e66]; exact ⟨by rw [← (show j = jf from by rw [own_find, if_pos hv] at hf; exact hf), hv], rfl, rfl⟩))
      · refine own_g (mkF m 28 #[.val (.ref a1), .val (.long x1), .second, .val (.int (63 : Int32)), .val (.int (Int32.ofNat j))] []) (fun _ kz => XS.icmpYes X66.here hx rfl (pc0 := 23) (pc' := 28) rfl (hb hby od_17_3_23) rfl (feq hv).2 (by decide) (by decide) kz) ?_
        refine own_g (mkF m 29 #[.val (.ref a1), .val (.long x1), .second, .val (.int (63 : Int32)), .val (.int (Int32.ofNat j))] [(.ref a1)]) (fun _ kz => XS.aloadN X66.here hx rfl (hb hby od_17_3_28) rfl rfl kz) ?_
        obtain ⟨T67, X67, e67, st67⟩ := getF X66 hx hZ hown (host := "") (Or.inl (own_w hw 11 rfl)) Via.refl e66 Fk (g := (mkF m 29 #[.val (.ref a1), .val (.long x1), .second, .val (.int (63 : Int32)), .val (.int (Int32.ofNat j))] [(.ref a1)])) rfl rfl (hb hby od_17_3_29)
        refine own_s st67 ?_
        show own_E p e below _ (T67.setTop (mkF m 32 #[.val (.ref a1), .val (.long x1), .second, .val (.int (63 : Int32)), .val (.int (Int32.ofNat j))] [(.ref b1)]))
        refine own_g (mkF m 34 #[.val (.ref a1), .val (.long x1), .second, .val (.int (63 : Int32)), .val (.int (Int32.ofNat j))] [(.int (Int32.ofNat j)), (.ref b1)]) (fun _ kz => XS.iload X67.here hx rfl (hb hby od_17_3_32) rfl kz) ?_
        refine own_ildJ X67 hx hZ e67 Ak (hb hby od_17_3_34) (own_nn (by omega)).1 (i := j) (own_nn (by omega)).2 hj (x := (kf j)) rfl ?_
        show own_E p e below _ (T67.setTop (mkF m 35 #[.val (.ref a1), .val (.long x1), .second, .val (.int (63 : Int32)), .val (.int (Int32.ofNat j))] [(.long (kf j))]))
        refine own_g (mkF m 36 #[.val (.ref a1), .val (.long x1), .second, .val (.int (63 : Int32)), .val (.int (Int32.ofNat j))] [(.long x1), (.long (kf j))]) (fun _ kz => XS.lloadN X67.here hx rfl (hb hby od_17_3_35) rfl kz) ?_
        refine own_g (mkF m 37 #[.val (.ref a1), .val (.long x1), .second, .val (.int (63 : Int32)), .val (.int (Int32.ofNat j))] [(.int (lcmpW (kf j) x1))]) (fun _ kz => XS.lcmp X67.here hx rfl (hb hby od_17_3_36) rfl kz) ?_
        by_cases hk : (kf j) = x1
        · refine own_g (mkF m 40 #[.val (.ref a1), .val (.long x1), .second, .val (.int (63 : Int32)), .val (.int (Int32.ofNat j))] []) (fun _ kz => XS.ifNo X67.here hx rfl (hb hby od_17_3_37) rfl ((if0 _ _).trans (teq (own_lcT hk)).2) kz) ?_
          refine own_g (mkF m 41 #[.val (.ref a1), .val (.long x1), .second, .val (.int (63 : Int32)), .val (.int (Int32.ofNat j))] [(.ref a1)]) (fun _ kz => XS.aloadN X67.here hx rfl (hb hby od_17_3_40) rfl rfl kz) ?_
          obtain ⟨T68, X68, e68, st68⟩ := getF X67 hx hZ hown (host := "") (Or.inl (own_w hw 21 rfl)) Via.refl e67 Fv (g := (mkF m 41 #[.val (.ref a1), .val (.long x1), .second, .val (.int (63 : Int32)), .val (.int (Int32.ofNat j))] [(.ref a1)])) rfl rfl (hb hby od_17_3_41)
          refine own_s st68 ?_
          show own_E p e below _ (T68.setTop (mkF m 44 #[.val (.ref a1), .val (.long x1), .second, .val (.int (63 : Int32)), .val (.int (Int32.ofNat j))] [(.ref c1)]))
          refine own_g (mkF m 46 #[.val (.ref a1), .val (.long x1), .second, .val (.int (63 : Int32)), .val (.int (Int32.ofNat j))] [(.int (Int32.ofNat j)), (.ref c1)]) (fun _ kz => XS.iload X68.here hx rfl (hb hby od_17_3_44) rfl kz) ?_
          refine own_ildI X68 hx hZ e68 Av (hb hby od_17_3_46) (own_nn (by omega)).1 (i := j) (own_nn (by omega)).2 hj (x := (vf j)) rfl ?_
          show own_E p e below _ (T68.setTop (mkF m 47 #[.val (.ref a1), .val (.long x1), .second, .val (.int (63 : Int32)), .val (.int (Int32.ofNat j))] [(.int (vf j))]))
          exact own_retI X68 hx hret hlk (hb hby od_17_3_47) (by decide) (by decide) (by first | exact ⟨by rw [← (show j = jf from by rw [own_find, if_neg hv, if_pos hk] at hf; exact hf)], rfl, rfl⟩ | (rw [e68]; exact ⟨by rw [← (show j = jf from by rw [own_find, if_neg hv, if_pos hk] at hf; exact hf)], rfl, rfl⟩))
        · refine own_g (mkF m 48 #[.val (.ref a1), .val (.long x1), .second, .val (.int (63 : Int32)), .val (.int (Int32.ofNat j))] []) (fun _ kz => XS.ifYes X67.here hx rfl (pc0 := 37) (pc' := 48) rfl (hb hby od_17_3_37) rfl ((if0 _ _).trans (feq (own_lcF hk)).2) (by decide) (by decide) kz) ?_
          refine own_g (mkF m 50 #[.val (.ref a1), .val (.long x1), .second, .val (.int (63 : Int32)), .val (.int (Int32.ofNat j))] [(.int (Int32.ofNat j))]) (fun _ kz => XS.iload X67.here hx rfl (hb hby od_17_3_48) rfl kz) ?_
          refine own_g (mkF m 51 #[.val (.ref a1), .val (.long x1), .second, .val (.int (63 : Int32)), .val (.int (Int32.ofNat j))] [(.int (1 : Int32)), (.int (Int32.ofNat j))]) (fun _ kz => XS.iconst X67.here hx rfl (hb hby od_17_3_50) kz) ?_
          refine own_g (mkF m 52 #[.val (.ref a1), .val (.long x1), .second, .val (.int (63 : Int32)), .val (.int (Int32.ofNat j))] [(.int ((Int32.ofNat j) + (1 : Int32)))]) (fun _ kz => XS.iadd X67.here hx rfl (hb hby od_17_3_51) rfl kz) ?_
          refine own_g (mkF m 53 #[.val (.ref a1), .val (.long x1), .second, .val (.int (63 : Int32)), .val (.int (Int32.ofNat j))] [(.int (63 : Int32)), (.int ((Int32.ofNat j) + (1 : Int32)))]) (fun _ kz => XS.iloadN X67.here hx rfl (hb hby od_17_3_52) rfl kz) ?_
          refine own_g (mkF m 54 #[.val (.ref a1), .val (.long x1), .second, .val (.int (63 : Int32)), .val (.int (Int32.ofNat j))] [(.int (((Int32.ofNat j) + (1 : Int32)) &&& (63 : Int32)))]) (fun _ kz => XS.iand X67.here hx rfl (hb hby od_17_3_53) rfl kz) ?_
          refine own_g (mkF m 56 #[.val (.ref a1), .val (.long x1), .second, .val (.int (63 : Int32)), .val (.int (((Int32.ofNat j) + (1 : Int32)) &&& (63 : Int32)))] []) (fun _ kz => XS.istore X67.here hx rfl (hb hby od_17_3_54) rfl (l' := #[.val (.ref a1), .val (.long x1), .second, .val (.int (63 : Int32)), .val (.int (((Int32.ofNat j) + (1 : Int32)) &&& (63 : Int32)))]) rfl kz) ?_
          refine own_g (mkF m 15 #[.val (.ref a1), .val (.long x1), .second, .val (.int (63 : Int32)), .val (.int (((Int32.ofNat j) + (1 : Int32)) &&& (63 : Int32)))] []) (fun _ kz => XS.goto X67.here hx rfl (pc0 := 56) (pc' := 15) rfl (hb hby od_17_3_56) (by decide) (by decide) kz) ?_
          rw [own_nxt hj]
          show own_E p e below _ (T67.setTop (mkF m 15 #[.val (.ref a1), .val (.long x1), .second, .val (.int (63 : Int32)), .val (.int (Int32.ofNat ((j + 1) % 64)))] []))
          exact ih _ _ (by rw [own_find, if_neg hv, if_neg hk] at hf; exact hf) (Nat.mod_lt _ (by decide)) X67 e67
  refine own_g (mkF m 1 #[.val (.ref a1), .val (.long x1), .second, .unset, .unset] [(.ref a1)]) (fun _ kz => XS.aloadN X0.here hx rfl (hb hby od_17_3_0) rfl rfl kz) ?_
  obtain ⟨T69, X69, e69, st69⟩ := getF X0 hx hZ hown (host := "") (Or.inl (own_w hw 11 rfl)) Via.refl e0 Fk (g := (mkF m 1 #[.val (.ref a1), .val (.long x1), .second, .unset, .unset] [(.ref a1)])) rfl rfl (hb hby od_17_3_1)
  refine own_s st69 ?_
  show own_E p e below _ (T69.setTop (mkF m 4 #[.val (.ref a1), .val (.long x1), .second, .unset, .unset] [(.ref b1)]))
  refine own_lenJ X69 hx hZ e69 Ak (hb hby od_17_3_4) (z := (64 : Int32)) rfl ?_
  show own_E p e below _ (T69.setTop (mkF m 5 #[.val (.ref a1), .val (.long x1), .second, .unset, .unset] [(.int (64 : Int32))]))
  refine own_g (mkF m 6 #[.val (.ref a1), .val (.long x1), .second, .unset, .unset] [(.int (1 : Int32)), (.int (64 : Int32))]) (fun _ kz => XS.iconst X69.here hx rfl (hb hby od_17_3_5) kz) ?_
  refine own_g (mkF m 7 #[.val (.ref a1), .val (.long x1), .second, .unset, .unset] [(.int ((64 : Int32) - (1 : Int32)))]) (fun _ kz => XS.isub X69.here hx rfl (hb hby od_17_3_6) rfl kz) ?_
  refine own_g (mkF m 8 #[.val (.ref a1), .val (.long x1), .second, .val (.int ((64 : Int32) - (1 : Int32))), .unset] []) (fun _ kz => XS.istoreN X69.here hx rfl (hb hby od_17_3_7) rfl (l' := #[.val (.ref a1), .val (.long x1), .second, .val (.int ((64 : Int32) - (1 : Int32))), .unset]) rfl kz) ?_
  refine own_g (mkF m 9 #[.val (.ref a1), .val (.long x1), .second, .val (.int ((64 : Int32) - (1 : Int32))), .unset] [(.long x1)]) (fun _ kz => XS.lloadN X69.here hx rfl (hb hby od_17_3_8) rfl kz) ?_
  refine own_g (mkF m 10 #[.val (.ref a1), .val (.long x1), .second, .val (.int ((64 : Int32) - (1 : Int32))), .unset] [(.int ((64 : Int32) - (1 : Int32))), (.long x1)]) (fun _ kz => XS.iloadN X69.here hx rfl (hb hby od_17_3_9) rfl kz) ?_
  rw [show ((64 : Int32) - (1 : Int32)) = 63 from by decide]
  show own_E p e below _ (T69.setTop (mkF m 10 #[.val (.ref a1), .val (.long x1), .second, .val (.int (63 : Int32)), .unset] [(.int (63 : Int32)), (.long x1)]))
  refine own_callS (rest := []) (as := [(.long x1), (.int (63 : Int32))]) X69 hx hZ hown e69 (own_c_slot l Z a0 hw x1 63 h0) (own_w hw 28 rfl) (own_w hw 29 rfl) (own_w hw 3 rfl) (own_w hw 30 rfl) (by decide) own_pd2 rfl (by rw [hml]; rfl) rfl (hb hby od_17_3_10) 0 (by show 2 * 0 + _ ≤ _; exact Nat.le_of_eq rfl) (by decide) (by decide) (by decide) (by decide) ?_
  rintro _ T70 L70 X70 ⟨rfl, rfl, e70⟩
  show own_E p e below _ (T70.setTop (mkF m 13 #[.val (.ref a1), .val (.long x1), .second, .val (.int (63 : Int32)), .unset] [(.int (own_sl32 x1 63))]))
  rw [own_slx]
  show own_E p e below _ (T70.setTop (mkF m 13 #[.val (.ref a1), .val (.long x1), .second, .val (.int (63 : Int32)), .unset] [(.int (Int32.ofNat (own_sl x1)))]))
  refine own_g (mkF m 15 #[.val (.ref a1), .val (.long x1), .second, .val (.int (63 : Int32)), .val (.int (Int32.ofNat (own_sl x1)))] []) (fun _ kz => XS.istore X70.here hx rfl (hb hby od_17_3_13) rfl (l' := #[.val (.ref a1), .val (.long x1), .second, .val (.int (63 : Int32)), .val (.int (Int32.ofNat (own_sl x1)))]) rfl kz) ?_
  exact loop 3 _ _ hjf (own_sllt x1) X70 e70
theorem od_17_4_35 : decode prog_17_method_4_code 35 = .ok (.aload_n 0, 1) := by decide +kernel
theorem od_17_4_36 : decode prog_17_method_4_code 36 = .ok (.getfield 17, 3) := by decide +kernel
theorem od_17_4_39 : decode prog_17_method_4_code 39 = .ok (.iload 5, 2) := by decide +kernel
theorem od_17_4_41 : decode prog_17_method_4_code 41 = .ok (.iaload, 1) := by decide +kernel
theorem od_17_4_42 : decode prog_17_method_4_code 42 = .ok (.iconst (-1), 1) := by decide +kernel
theorem od_17_4_43 : decode prog_17_method_4_code 43 = .ok (.if_icmp .eq 35, 3) := by decide +kernel
theorem od_17_4_78 : decode prog_17_method_4_code 78 = .ok (.aload_n 0, 1) := by decide +kernel
theorem od_17_4_79 : decode prog_17_method_4_code 79 = .ok (.getfield 7, 3) := by decide +kernel
theorem od_17_4_82 : decode prog_17_method_4_code 82 = .ok (.iload 5, 2) := by decide +kernel
theorem od_17_4_84 : decode prog_17_method_4_code 84 = .ok (.lload_n 1, 1) := by decide +kernel
theorem od_17_4_85 : decode prog_17_method_4_code 85 = .ok (.lastore, 1) := by decide +kernel
theorem od_17_4_86 : decode prog_17_method_4_code 86 = .ok (.aload_n 0, 1) := by decide +kernel
theorem od_17_4_87 : decode prog_17_method_4_code 87 = .ok (.getfield 17, 3) := by decide +kernel
theorem od_17_4_90 : decode prog_17_method_4_code 90 = .ok (.iload 5, 2) := by decide +kernel
theorem od_17_4_92 : decode prog_17_method_4_code 92 = .ok (.iload_n 3, 1) := by decide +kernel
theorem od_17_4_93 : decode prog_17_method_4_code 93 = .ok (.iastore, 1) := by decide +kernel
theorem od_17_4_94 : decode prog_17_method_4_code 94 = .ok (.aload_n 0, 1) := by decide +kernel
theorem od_17_4_95 : decode prog_17_method_4_code 95 = .ok (.dup, 1) := by decide +kernel
theorem od_17_4_96 : decode prog_17_method_4_code 96 = .ok (.getfield 36, 3) := by decide +kernel
theorem od_17_4_99 : decode prog_17_method_4_code 99 = .ok (.iconst 1, 1) := by decide +kernel
theorem od_17_4_100 : decode prog_17_method_4_code 100 = .ok (.iadd, 1) := by decide +kernel
theorem od_17_4_101 : decode prog_17_method_4_code 101 = .ok (.dup_x1, 1) := by decide +kernel
theorem od_17_4_102 : decode prog_17_method_4_code 102 = .ok (.putfield 36, 3) := by decide +kernel
theorem od_17_4_105 : decode prog_17_method_4_code 105 = .ok (.iconst 2, 1) := by decide +kernel
theorem od_17_4_106 : decode prog_17_method_4_code 106 = .ok (.imul, 1) := by decide +kernel
theorem od_17_4_107 : decode prog_17_method_4_code 107 = .ok (.aload_n 0, 1) := by decide +kernel
theorem od_17_4_108 : decode prog_17_method_4_code 108 = .ok (.getfield 7, 3) := by decide +kernel
theorem od_17_4_111 : decode prog_17_method_4_code 111 = .ok (.arraylength, 1) := by decide +kernel
theorem od_17_4_112 : decode prog_17_method_4_code 112 = .ok (.if_icmp .le 7, 3) := by decide +kernel
theorem od_17_4_119 : decode prog_17_method_4_code 119 = .ok (.iconst (-1), 1) := by decide +kernel
theorem od_17_4_120 : decode prog_17_method_4_code 120 = .ok (.ireturn, 1) := by decide +kernel
theorem od_17_4_46 : decode prog_17_method_4_code 46 = .ok (.aload_n 0, 1) := by decide +kernel
theorem od_17_4_47 : decode prog_17_method_4_code 47 = .ok (.getfield 7, 3) := by decide +kernel
theorem od_17_4_50 : decode prog_17_method_4_code 50 = .ok (.iload 5, 2) := by decide +kernel
theorem od_17_4_52 : decode prog_17_method_4_code 52 = .ok (.laload, 1) := by decide +kernel
theorem od_17_4_53 : decode prog_17_method_4_code 53 = .ok (.lload_n 1, 1) := by decide +kernel
theorem od_17_4_54 : decode prog_17_method_4_code 54 = .ok (.lcmp, 1) := by decide +kernel
theorem od_17_4_55 : decode prog_17_method_4_code 55 = .ok (.ifCond .ne 11, 3) := by decide +kernel
theorem od_17_4_58 : decode prog_17_method_4_code 58 = .ok (.aload_n 0, 1) := by decide +kernel
theorem od_17_4_59 : decode prog_17_method_4_code 59 = .ok (.getfield 17, 3) := by decide +kernel
theorem od_17_4_62 : decode prog_17_method_4_code 62 = .ok (.iload 5, 2) := by decide +kernel
theorem od_17_4_64 : decode prog_17_method_4_code 64 = .ok (.iaload, 1) := by decide +kernel
theorem od_17_4_65 : decode prog_17_method_4_code 65 = .ok (.ireturn, 1) := by decide +kernel
theorem od_17_4_66 : decode prog_17_method_4_code 66 = .ok (.iload 5, 2) := by decide +kernel
theorem od_17_4_68 : decode prog_17_method_4_code 68 = .ok (.iconst 1, 1) := by decide +kernel
theorem od_17_4_69 : decode prog_17_method_4_code 69 = .ok (.iadd, 1) := by decide +kernel
theorem od_17_4_70 : decode prog_17_method_4_code 70 = .ok (.iload 4, 2) := by decide +kernel
theorem od_17_4_72 : decode prog_17_method_4_code 72 = .ok (.iand, 1) := by decide +kernel
theorem od_17_4_73 : decode prog_17_method_4_code 73 = .ok (.istore 5, 2) := by decide +kernel
theorem od_17_4_75 : decode prog_17_method_4_code 75 = .ok (.goto (-40), 3) := by decide +kernel
theorem od_17_4_0 : decode prog_17_method_4_code 0 = .ok (.iload_n 3, 1) := by decide +kernel
theorem od_17_4_1 : decode prog_17_method_4_code 1 = .ok (.ifCond .ge 17, 3) := by decide +kernel
theorem od_17_4_18 : decode prog_17_method_4_code 18 = .ok (.aload_n 0, 1) := by decide +kernel
theorem od_17_4_19 : decode prog_17_method_4_code 19 = .ok (.getfield 7, 3) := by decide +kernel
theorem od_17_4_22 : decode prog_17_method_4_code 22 = .ok (.arraylength, 1) := by decide +kernel
theorem od_17_4_23 : decode prog_17_method_4_code 23 = .ok (.iconst 1, 1) := by decide +kernel
theorem od_17_4_24 : decode prog_17_method_4_code 24 = .ok (.isub, 1) := by decide +kernel
theorem od_17_4_25 : decode prog_17_method_4_code 25 = .ok (.istore 4, 2) := by decide +kernel
theorem od_17_4_27 : decode prog_17_method_4_code 27 = .ok (.lload_n 1, 1) := by decide +kernel
theorem od_17_4_28 : decode prog_17_method_4_code 28 = .ok (.iload 4, 2) := by decide +kernel
theorem od_17_4_30 : decode prog_17_method_4_code 30 = .ok (.invokestatic 23, 3) := by decide +kernel
theorem od_17_4_33 : decode prog_17_method_4_code 33 = .ok (.istore 5, 2) := by decide +kernel
set_option maxRecDepth 65536 in
set_option maxHeartbeats 40000000 in
theorem own_c_put (l : Launch) (Z : State) (a0 : Array Value) (hw : ∀ d ∈ tables_1, d.before a0 Z = true) (a1 : Addr) (b1 : Addr) (c1 : Addr) (kf : Nat → Int64) (vf : Nat → Int32) (x1 : Int64) (u1 : Int32) (sz : Nat) (h0 : Heap) (n0 : Nat) (Z0 : n0 ≤ h0.size) (hst : vf (own_at kf vf x1) = -1 ∨ kf (own_at kf vf x1) = x1) (Fk : Fld Z h0 a1 "com/example/demesne/demesne/core/LongIntMap" "keys" "[J" (.ref b1)) (Fv : Fld Z h0 a1 "com/example/demesne/demesne/core/LongIntMap" "values" "[I" (.ref c1)) (Ak : own_JA Z h0 b1 64 kf) (Av : own_IA Z h0 c1 .int 64 vf) (hu : ¬ u1 < 0) (hsz : sz ≤ 2) (g1 : n0 ≤ a1) (g2 : n0 ≤ b1) (g3 : n0 ≤ c1) (nab : a1 ≠ b1) (nac : a1 ≠ c1) (nbc : b1 ≠ c1) (E1 : Exa Z h0 a1 "com/example/demesne/demesne/core/LongIntMap") (Fs : Fld Z h0 a1 "com/example/demesne/demesne/core/LongIntMap" "size" "I" (.int (Int32.ofNat sz))) :
    own_Con l Z (⟨"com/example/demesne/demesne/core/LongIntMap", "putIfAbsent", "(JI)I"⟩ : MethodName) prog_17_method_4_code 6 (some .int) [] ({ frames := 1, cells := 0, slots := 0, locals := 18 } : Room) #[(.ref a1), (.long x1), (.int u1)] h0 (fun v h L => ∃ r sz', v = some (.int r) ∧ Fr n0 L ∧ Keep h0 h [a1, b1, c1] ∧ sz' ≤ sz + 1 ∧ Fld Z h a1 "com/example/demesne/demesne/core/LongIntMap" "keys" "[J" (.ref b1) ∧ Fld Z h a1 "com/example/demesne/demesne/core/LongIntMap" "values" "[I" (.ref c1) ∧ Fld Z h a1 "com/example/demesne/demesne/core/LongIntMap" "size" "I" (.int (Int32.ofNat sz')) ∧ own_JA Z h b1 64 (own_pk kf vf x1) ∧ own_IA Z h c1 .int 64 (own_pv kf vf x1 u1)) := by
  refine own_enter (plainFor_of_name own_pn0) ?_
  intro p e s m below meth c s₁ X0 e0 hx hZ hby hml hown hnm hret hlk
  refine own_cast (g' := (mkF m 0 #[.val (.ref a1), .val (.long x1), .second, .val (.int u1), .unset, .unset] [])) (by first | (simp [entryFrame, mkF, argsToLocals, Value.category]; done) | rfl) ?_
  have N0 := Fr.nil n0
  have K0 := Keep.refl h0 [a1, b1, c1]
  have loop : ∀ (d j : Nat) (T : State) (L : List Loc), own_find kf vf x1 d j = own_at kf vf x1 → j < 64 → Fr n0 L → Stand p l e ({ frames := 1, cells := 0, slots := 0, locals := 18 } : Room) s m #[(.ref a1), (.long x1), (.int u1)] below meth c T L 0 0 → T.heap = h0 → own_E p e below (own_P (fun v h L => ∃ r sz', v = some (.int r) ∧ Fr n0 L ∧ Keep h0 h [a1, b1, c1] ∧ sz' ≤ sz + 1 ∧ Fld Z h a1 "com/example/demesne/demesne/core/LongIntMap" "keys" "[J" (.ref b1) ∧ Fld Z h a1 "com/example/demesne/demesne/core/LongIntMap" "values" "[I" (.ref c1) ∧ Fld Z h a1 "com/example/demesne/demesne/core/LongIntMap" "size" "I" (.int (Int32.ofNat sz')) ∧ own_JA Z h b1 64 (own_pk kf vf x1) ∧ own_IA Z h c1 .int 64 (own_pv kf vf x1 u1)) s 0 0) (T.setTop (mkF m 35 #[.val (.ref a1), .val (.long x1), .second, .val (.int u1), .val (.int (63 : Int32)), .val (.int (Int32.ofNat j))] [])) := by
    intro d
    induction d with
    | zero =>
      intro j T L hf hj N X eT
      show own_E p e below _ (T.setTop (mkF m 35 #[.val (.ref a1), .val (.long x1), .second, .val (.int u1), .val (.int (63 : Int32)), .val (.int (Int32.ofNat j))] []))
      refine own_g (mkF m 36 #[.val (.ref a1), .val (.long x1), .second, .val (.int u1), .val (.int (63 : Int32)), .val (.int (Int32.ofNat j))] [(.ref a1)]) (fun _ kz => XS.aloadN X.here hx rfl (hb hby od_17_4_35) rfl rfl kz) ?_
      obtain ⟨T71, X71, e71, st71⟩ := getF X hx hZ hown (host := "") (Or.inl (own_w hw 21 rfl)) Via.refl eT Fv (g := (mkF m 36 #[.val (.ref a1), .val (.long x1), .second, .val (.int u1), .val (.int (63 : Int32)), .val (.int (Int32.ofNat j))] [(.ref a1)])) rfl rfl (hb hby od_17_4_36)
      refine own_s st71 ?_
      show own_E p e below _ (T71.setTop (mkF m 39 #[.val (.ref a1), .val (.long x1), .second, .val (.int u1), .val (.int (63 : Int32)), .val (.int (Int32.ofNat j))] [(.ref c1)]))
      refine own_g (mkF m 41 #[.val (.ref a1), .val (.long x1), .second, .val (.int u1), .val (.int (63 : Int32)), .val (.int (Int32.ofNat j))] [(.int (Int32.ofNat j)), (.ref c1)]) (fun _ kz => XS.iload X71.here hx rfl (hb hby od_17_4_39) rfl kz) ?_
      refine own_ildI X71 hx hZ e71 Av (hb hby od_17_4_41) (own_nn (by omega)).1 (i := j) (own_nn (by omega)).2 hj (x := (vf j)) rfl ?_
      show own_E p e below _ (T71.setTop (mkF m 42 #[.val (.ref a1), .val (.long x1), .second, .val (.int u1), .val (.int (63 : Int32)), .val (.int (Int32.ofNat j))] [(.int (vf j))]))
      refine own_g (mkF m 43 #[.val (.ref a1), .val (.long x1), .second, .val (.int u1), .val (.int (63 : Int32)), .val (.int (Int32.ofNat j))] [(.int (-1 : Int32)), (.int (vf j))]) (fun _ kz => XS.iconst X71.here hx rfl (hb hby od_17_4_42) kz) ?_
      by_cases hv : (vf j) = (-1 : Int32)
      · refine own_g (mkF m 78 #[.val (.ref a1), .val (.long x1), .second, .val (.int u1), .val (.int (63 : Int32)), .val (.int (Int32.ofNat j))] []) (fun _ kz => XS.icmpYes X71.here hx rfl (pc0 := 43) (pc' := 78) rfl (hb hby od_17_4_43) rfl (teq hv).1 (by decide) (by decide) kz) ?_
        have hje : j = own_at kf vf x1 := hf
        refine own_g (mkF m 79 #[.val (.ref a1), .val (.long x1), .second, .val (.int u1), .val (.int (63 : Int32)), .val (.int (Int32.ofNat j))] [(.ref a1)]) (fun _ kz => XS.aloadN X71.here hx rfl (hb hby od_17_4_78) rfl rfl kz) ?_
        obtain ⟨T72, X72, e72, st72⟩ := getF X71 hx hZ hown (host := "") (Or.inl (own_w hw 11 rfl)) Via.refl e71 Fk (g := (mkF m 79 #[.val (.ref a1), .val (.long x1), .second, .val (.int u1), .val (.int (63 : Int32)), .val (.int (Int32.ofNat j))] [(.ref a1)])) rfl rfl (hb hby od_17_4_79)
        refine own_s st72 ?_
        show own_E p e below _ (T72.setTop (mkF m 82 #[.val (.ref a1), .val (.long x1), .second, .val (.int u1), .val (.int (63 : Int32)), .val (.int (Int32.ofNat j))] [(.ref b1)]))
        refine own_g (mkF m 84 #[.val (.ref a1), .val (.long x1), .second, .val (.int u1), .val (.int (63 : Int32)), .val (.int (Int32.ofNat j))] [(.int (Int32.ofNat j)), (.ref b1)]) (fun _ kz => XS.iload X72.here hx rfl (hb hby od_17_4_82) rfl kz) ?_
        refine own_g (mkF m 85 #[.val (.ref a1), .val (.long x1), .second, .val (.int u1), .val (.int (63 : Int32)), .val (.int (Int32.ofNat j))] [(.long x1), (.int (Int32.ofNat j)), (.ref b1)]) (fun _ kz => XS.lloadN X72.here hx rfl (hb hby od_17_4_84) rfl kz) ?_
        refine own_stJ X72 hx hZ e72 Ak (hb hby od_17_4_85) (own_nn (by omega)).1 (i := j) (own_nn (by omega)).2 hj ?_
        intro T73 h73 X73 e73 W73 A73
        have N73 := Fr.snoc X73 N g2
        have s74 : n0 ≤ h73.size := Nat.le_trans Z0 (Keep.of_wr W73).1
        have f75 := Fld.other W73 Fk (Or.inl nab)
        have f76 := Fld.other W73 Fv (Or.inl nab)
        have f77 := Av.other W73 (Ne.symm nbc)
        have f78 := Exa.wr W73 E1
        have f79 := Fld.other W73 Fs (Or.inl nab)
        have K80 := K0.wr W73 (Or.inl (by simp))
        show own_E p e below _ (T73.setTop (mkF m 86 #[.val (.ref a1), .val (.long x1), .second, .val (.int u1), .val (.int (63 : Int32)), .val (.int (Int32.ofNat j))] []))
        refine own_g (mkF m 87 #[.val (.ref a1), .val (.long x1), .second, .val (.int u1), .val (.int (63 : Int32)), .val (.int (Int32.ofNat j))] [(.ref a1)]) (fun _ kz => XS.aloadN X73.here hx rfl (hb hby od_17_4_86) rfl rfl kz) ?_
        obtain ⟨T81, X81, e81, st81⟩ := getF X73 hx hZ hown (host := "") (Or.inl (own_w hw 21 rfl)) Via.refl e73 f76 (g := (mkF m 87 #[.val (.ref a1), .val (.long x1), .second, .val (.int u1), .val (.int (63 : Int32)), .val (.int (Int32.ofNat j))] [(.ref a1)])) rfl rfl (hb hby od_17_4_87)
        refine own_s st81 ?_
        show own_E p e below _ (T81.setTop (mkF m 90 #[.val (.ref a1), .val (.long x1), .second, .val (.int u1), .val (.int (63 : Int32)), .val (.int (Int32.ofNat j))] [(.ref c1)]))
        refine own_g (mkF m 92 #[.val (.ref a1), .val (.long x1), .second, .val (.int u1), .val (.int (63 : Int32)), .val (.int (Int32.ofNat j))] [(.int (Int32.ofNat j)), (.ref c1)]) (fun _ kz => XS.iload X81.here hx rfl (hb hby od_17_4_90) rfl kz) ?_
        refine own_g (mkF m 93 #[.val (.ref a1), .val (.long x1), .second, .val (.int u1), .val (.int (63 : Int32)), .val (.int (Int32.ofNat j))] [(.int u1), (.int (Int32.ofNat j)), (.ref c1)]) (fun _ kz => XS.iloadN X81.here hx rfl (hb hby od_17_4_92) rfl kz) ?_
        refine own_stI X81 hx hZ e81 f77 (hb hby od_17_4_93) (own_nn (by omega)).1 (i := j) (own_nn (by omega)).2 hj ?_
        intro T82 h82 X82 e82 W82 A82
        have N82 := Fr.snoc X82 N73 g3
        have s83 : n0 ≤ h82.size := Nat.le_trans s74 (Keep.of_wr W82).1
        have f84 := Fld.other W82 f75 (Or.inl nac)
        have f85 := Fld.other W82 f76 (Or.inl nac)
        have f86 := A73.other W82 nbc
        have f87 := Exa.wr W82 f78
        have f88 := Fld.other W82 f79 (Or.inl nac)
        have K89 := K80.wr W82 (Or.inl (by simp))
        show own_E p e below _ (T82.setTop (mkF m 94 #[.val (.ref a1), .val (.long x1), .second, .val (.int u1), .val (.int (63 : Int32)), .val (.int (Int32.ofNat j))] []))
        refine own_g (mkF m 95 #[.val (.ref a1), .val (.long x1), .second, .val (.int u1), .val (.int (63 : Int32)), .val (.int (Int32.ofNat j))] [(.ref a1)]) (fun _ kz => XS.aloadN X82.here hx rfl (hb hby od_17_4_94) rfl rfl kz) ?_
        refine own_g (mkF m 96 #[.val (.ref a1), .val (.long x1), .second, .val (.int u1), .val (.int (63 : Int32)), .val (.int (Int32.ofNat j))] [(.ref a1), (.ref a1)]) (fun _ kz => XS.dup X82.here hx rfl (hb hby od_17_4_95) rfl rfl kz) ?_
        obtain ⟨T90, X90, e90, st90⟩ := getF X82 hx hZ hown (host := "") (Or.inl (own_w hw 41 rfl)) Via.refl e82 f88 (g := (mkF m 96 #[.val (.ref a1), .val (.long x1), .second, .val (.int u1), .val (.int (63 : Int32)), .val (.int (Int32.ofNat j))] [(.ref a1), (.ref a1)])) rfl rfl (hb hby od_17_4_96)
        refine own_s st90 ?_
        show own_E p e below _ (T90.setTop (mkF m 99 #[.val (.ref a1), .val (.long x1), .second, .val (.int u1), .val (.int (63 : Int32)), .val (.int (Int32.ofNat j))] [(.int (Int32.ofNat sz)), (.ref a1)]))
        refine own_g (mkF m 100 #[.val (.ref a1), .val (.long x1), .second, .val (.int u1), .val (.int (63 : Int32)), .val (.int (Int32.ofNat j))] [(.int (1 : Int32)), (.int (Int32.ofNat sz)), (.ref a1)]) (fun _ kz => XS.iconst X90.here hx rfl (hb hby od_17_4_99) kz) ?_
        refine own_g (mkF m 101 #[.val (.ref a1), .val (.long x1), .second, .val (.int u1), .val (.int (63 : Int32)), .val (.int (Int32.ofNat j))] [(.int ((Int32.ofNat sz) + (1 : Int32))), (.ref a1)]) (fun _ kz => XS.iadd X90.here hx rfl (hb hby od_17_4_100) rfl kz) ?_
        rw [own_one]
        show own_E p e below _ (T90.setTop (mkF m 101 #[.val (.ref a1), .val (.long x1), .second, .val (.int u1), .val (.int (63 : Int32)), .val (.int (Int32.ofNat j))] [(.int (Int32.ofNat (sz + 1))), (.ref a1)]))
        refine own_g (mkF m 102 #[.val (.ref a1), .val (.long x1), .second, .val (.int u1), .val (.int (63 : Int32)), .val (.int (Int32.ofNat j))] [(.int (Int32.ofNat (sz + 1))), (.ref a1), (.int (Int32.ofNat (sz + 1)))]) (fun _ kz => XS.dupX1 X90.here hx rfl (hb hby od_17_4_101) rfl rfl rfl kz) ?_
        obtain ⟨T91, h91, X91, e91, W91, st91⟩ := putF X90 hx hZ hown (host := "") (Or.inl (own_w hw 41 rfl)) Via.refl e90 f88 f87 (Or.inl (own_w hw 42 rfl)) (own_w hw 2 rfl) (ty := .int) (by decide) rfl rfl (g := (mkF m 102 #[.val (.ref a1), .val (.long x1), .second, .val (.int u1), .val (.int (63 : Int32)), .val (.int (Int32.ofNat j))] [(.int (Int32.ofNat (sz + 1))), (.ref a1), (.int (Int32.ofNat (sz + 1)))])) rfl rfl (hb hby od_17_4_102)
        have N91 := Fr.snoc X91 N82 g1
        have s92 : n0 ≤ h91.size := Nat.le_trans s83 (Keep.of_wr W91).1
        have f93 := Fld.other W91 f84 (Or.inr (slot_ne (Or.inl (own_w hw 12 rfl)) (Or.inl (own_w hw 42 rfl)) (by decide) (t := (.array .long)) (t' := .int) (by decide) (by decide)))
        have f94 := Fld.other W91 f85 (Or.inr (slot_ne (Or.inl (own_w hw 22 rfl)) (Or.inl (own_w hw 42 rfl)) (by decide) (t := (.array .int)) (t' := .int) (by decide) (by decide)))
        have f95 := f86.other W91 (Ne.symm nab)
        have f96 := A82.other W91 (Ne.symm nac)
        have f97 := Exa.wr W91 f87
        have K98 := K89.wr W91 (Or.inl (by simp))
        have f99 := Fld.same W91 f88
        refine own_s st91 ?_
        show own_E p e below _ (T91.setTop (mkF m 105 #[.val (.ref a1), .val (.long x1), .second, .val (.int u1), .val (.int (63 : Int32)), .val (.int (Int32.ofNat j))] [(.int (Int32.ofNat (sz + 1)))]))
        refine own_g (mkF m 106 #[.val (.ref a1), .val (.long x1), .second, .val (.int u1), .val (.int (63 : Int32)), .val (.int (Int32.ofNat j))] [(.int (2 : Int32)), (.int (Int32.ofNat (sz + 1)))]) (fun _ kz => XS.iconst X91.here hx rfl (hb hby od_17_4_105) kz) ?_
        refine own_g (mkF m 107 #[.val (.ref a1), .val (.long x1), .second, .val (.int u1), .val (.int (63 : Int32)), .val (.int (Int32.ofNat j))] [(.int ((Int32.ofNat (sz + 1)) * (2 : Int32)))]) (fun _ kz => XS.imul X91.here hx rfl (hb hby od_17_4_106) rfl kz) ?_
        refine own_g (mkF m 108 #[.val (.ref a1), .val (.long x1), .second, .val (.int u1), .val (.int (63 : Int32)), .val (.int (Int32.ofNat j))] [(.ref a1), (.int ((Int32.ofNat (sz + 1)) * (2 : Int32)))]) (fun _ kz => XS.aloadN X91.here hx rfl (hb hby od_17_4_107) rfl rfl kz) ?_
        obtain ⟨T100, X100, e100, st100⟩ := getF X91 hx hZ hown (host := "") (Or.inl (own_w hw 11 rfl)) Via.refl e91 f93 (g := (mkF m 108 #[.val (.ref a1), .val (.long x1), .second, .val (.int u1), .val (.int (63 : Int32)), .val (.int (Int32.ofNat j))] [(.ref a1), (.int ((Int32.ofNat (sz + 1)) * (2 : Int32)))])) rfl rfl (hb hby od_17_4_108)
        refine own_s st100 ?_
        show own_E p e below _ (T100.setTop (mkF m 111 #[.val (.ref a1), .val (.long x1), .second, .val (.int u1), .val (.int (63 : Int32)), .val (.int (Int32.ofNat j))] [(.ref b1), (.int ((Int32.ofNat (sz + 1)) * (2 : Int32)))]))
        refine own_lenJ X100 hx hZ e100 f95 (hb hby od_17_4_111) (z := (64 : Int32)) rfl ?_
        show own_E p e below _ (T100.setTop (mkF m 112 #[.val (.ref a1), .val (.long x1), .second, .val (.int u1), .val (.int (63 : Int32)), .val (.int (Int32.ofNat j))] [(.int (64 : Int32)), (.int ((Int32.ofNat (sz + 1)) * (2 : Int32)))]))
        refine own_g (mkF m 119 #[.val (.ref a1), .val (.long x1), .second, .val (.int u1), .val (.int (63 : Int32)), .val (.int (Int32.ofNat j))] []) (fun _ kz => XS.icmpYes X100.here hx rfl (pc0 := 112) (pc' := 119) rfl (hb hby od_17_4_112) rfl (flt (own_sz hsz)).2.2.2 (by decide) (by decide) kz) ?_
        refine own_g (mkF m 120 #[.val (.ref a1), .val (.long x1), .second, .val (.int u1), .val (.int (63 : Int32)), .val (.int (Int32.ofNat j))] [(.int (-1 : Int32))]) (fun _ kz => XS.iconst X100.here hx rfl (hb hby od_17_4_119) kz) ?_
        exact own_retI X100 hx hret hlk (hb hby od_17_4_120) (by decide) (by decide) (by first | exact ⟨_, sz + 1, rfl, N91, K98, Nat.le_refl _, f93, f94, f99, by rw [own_pk, ← hje, if_pos hv]; exact f95, by rw [own_pv, ← hje, if_pos hv]; exact f96⟩ | (rw [e100]; exact ⟨_, sz + 1, rfl, N91, K98, Nat.le_refl _, f93, f94, f99, by rw [own_pk, ← hje, if_pos hv]; exact f95, by rw [own_pv, ← hje, if_pos hv]; exact f96⟩))
      · refine own_g (mkF m 46 #[.val (.ref a1), .val (.long x1), .second, .val (.int u1), .val (.int (63 : Int32)), .val (.int (Int32.ofNat j))] []) (fun _ kz => XS.icmpNo X71.here hx rfl (hb hby od_17_4_43) rfl (feq hv).1 kz) ?_
        refine own_g (mkF m 47 #[.val (.ref a1), .val (.long x1), .second, .val (.int u1), .val (.int (63 : Int32)), .val (.int (Int32.ofNat j))] [(.ref a1)]) (fun _ kz => XS.aloadN X71.here hx rfl (hb hby od_17_4_46) rfl rfl kz) ?_
        obtain ⟨T101, X101, e101, st101⟩ := getF X71 hx hZ hown (host := "") (Or.inl (own_w hw 11 rfl)) Via.refl e71 Fk (g := (mkF m 47 #[.val (.ref a1), .val (.long x1), .second, .val (.int u1), .val (.int (63 : Int32)), .val (.int (Int32.ofNat j))] [(.ref a1)])) rfl rfl (hb hby od_17_4_47)
        refine own_s st101 ?_
        show own_E p e below _ (T101.setTop (mkF m 50 #[.val (.ref a1), .val (.long x1), .second, .val (.int u1), .val (.int (63 : Int32)), .val (.int (Int32.ofNat j))] [(.ref b1)]))
        refine own_g (mkF m 52 #[.val (.ref a1), .val (.long x1), .second, .val (.int u1), .val (.int (63 : Int32)), .val (.int (Int32.ofNat j))] [(.int (Int32.ofNat j)), (.ref b1)]) (fun _ kz => XS.iload X101.here hx rfl (hb hby od_17_4_50) rfl kz) ?_
        refine own_ildJ X101 hx hZ e101 Ak (hb hby od_17_4_52) (own_nn (by omega)).1 (i := j) (own_nn (by omega)).2 hj (x := (kf j)) rfl ?_
        show own_E p e below _ (T101.setTop (mkF m 53 #[.val (.ref a1), .val (.long x1), .second, .val (.int u1), .val (.int (63 : Int32)), .val (.int (Int32.ofNat j))] [(.long (kf j))]))
        refine own_g (mkF m 54 #[.val (.ref a1), .val (.long x1), .second, .val (.int u1), .val (.int (63 : Int32)), .val (.int (Int32.ofNat j))] [(.long x1), (.long (kf j))]) (fun _ kz => XS.lloadN X101.here hx rfl (hb hby od_17_4_53) rfl kz) ?_
        refine own_g (mkF m 55 #[.val (.ref a1), .val (.long x1), .second, .val (.int u1), .val (.int (63 : Int32)), .val (.int (Int32.ofNat j))] [(.int (lcmpW (kf j) x1))]) (fun _ kz => XS.lcmp X101.here hx rfl (hb hby od_17_4_54) rfl kz) ?_
        by_cases hk : (kf j) = x1
        · refine own_g (mkF m 58 #[.val (.ref a1), .val (.long x1), .second, .val (.int u1), .val (.int (63 : Int32)), .val (.int (Int32.ofNat j))] []) (fun _ kz => XS.ifNo X101.here hx rfl (hb hby od_17_4_55) rfl ((if0 _ _).trans (teq (own_lcT hk)).2) kz) ?_
          have hje : j = own_at kf vf x1 := hf
          refine own_g (mkF m 59 #[.val (.ref a1), .val (.long x1), .second, .val (.int u1), .val (.int (63 : Int32)), .val (.int (Int32.ofNat j))] [(.ref a1)]) (fun _ kz => XS.aloadN X101.here hx rfl (hb hby od_17_4_58) rfl rfl kz) ?_
          obtain ⟨T102, X102, e102, st102⟩ := getF X101 hx hZ hown (host := "") (Or.inl (own_w hw 21 rfl)) Via.refl e101 Fv (g := (mkF m 59 #[.val (.ref a1), .val (.long x1), .second, .val (.int u1), .val (.int (63 : Int32)), .val (.int (Int32.ofNat j))] [(.ref a1)])) rfl rfl (hb hby od_17_4_59)
          refine own_s st102 ?_
          show own_E p e below _ (T102.setTop (mkF m 62 #[.val (.ref a1), .val (.long x1), .second, .val (.int u1), .val (.int (63 : Int32)), .val (.int (Int32.ofNat j))] [(.ref c1)]))
          refine own_g (mkF m 64 #[.val (.ref a1), .val (.long x1), .second, .val (.int u1), .val (.int (63 : Int32)), .val (.int (Int32.ofNat j))] [(.int (Int32.ofNat j)), (.ref c1)]) (fun _ kz => XS.iload X102.here hx rfl (hb hby od_17_4_62) rfl kz) ?_
          refine own_ildI X102 hx hZ e102 Av (hb hby od_17_4_64) (own_nn (by omega)).1 (i := j) (own_nn (by omega)).2 hj (x := (vf j)) rfl ?_
          show own_E p e below _ (T102.setTop (mkF m 65 #[.val (.ref a1), .val (.long x1), .second, .val (.int u1), .val (.int (63 : Int32)), .val (.int (Int32.ofNat j))] [(.int (vf j))]))
          exact own_retI X102 hx hret hlk (hb hby od_17_4_65) (by decide) (by decide) (by first | exact ⟨_, sz, rfl, N, K0, by omega, Fk, Fv, Fs, by rw [own_pk, ← hje, if_neg hv]; exact Ak, by rw [own_pv, ← hje, if_neg hv]; exact Av⟩ | (rw [e102]; exact ⟨_, sz, rfl, N, K0, by omega, Fk, Fv, Fs, by rw [own_pk, ← hje, if_neg hv]; exact Ak, by rw [own_pv, ← hje, if_neg hv]; exact Av⟩))
        · refine own_g (mkF m 66 #[.val (.ref a1), .val (.long x1), .second, .val (.int u1), .val (.int (63 : Int32)), .val (.int (Int32.ofNat j))] []) (fun _ kz => XS.ifYes X101.here hx rfl (pc0 := 55) (pc' := 66) rfl (hb hby od_17_4_55) rfl ((if0 _ _).trans (feq (own_lcF hk)).2) (by decide) (by decide) kz) ?_
          exact (show False from by rw [← hf] at hst; exact hst.elim hv hk).elim
    | succ d ih =>
      intro j T L hf hj N X eT
      show own_E p e below _ (T.setTop (mkF m 35 #[.val (.ref a1), .val (.long x1), .second, .val (.int u1), .val (.int (63 : Int32)), .val (.int (Int32.ofNat j))] []))
      refine own_g (mkF m 36 #[.val (.ref a1), .val (.long x1), .second, .val (.int u1), .val (.int (63 : Int32)), .val (.int (Int32.ofNat j))] [(.ref a1)]) (fun _ kz => XS.aloadN X.here hx rfl (hb hby od_17_4_35) rfl rfl kz) ?_
      obtain ⟨T103, X103, e103, st103⟩ := getF X hx hZ hown (host := "") (Or.inl (own_w hw 21 rfl)) Via.refl eT Fv (g := (mkF m 36 #[.val (.ref a1), .val (.long x1), .second, .val (.int u1), .val (.int (63 : Int32)), .val (.int (Int32.ofNat j))] [(.ref a1)])) rfl rfl (hb hby od_17_4_36)
      refine own_s st103 ?_
      show own_E p e below _ (T103.setTop (mkF m 39 #[.val (.ref a1), .val (.long x1), .second, .val (.int u1), .val (.int (63 : Int32)), .val (.int (Int32.ofNat j))] [(.ref c1)]))
      refine own_g (mkF m 41 #[.val (.ref a1), .val (.long x1), .second, .val (.int u1), .val (.int (63 : Int32)), .val (.int (Int32.ofNat j))] [(.int (Int32.ofNat j)), (.ref c1)]) (fun _ kz => XS.iload X103.here hx rfl (hb hby od_17_4_39) rfl kz) ?_
      refine own_ildI X103 hx hZ e103 Av (hb hby od_17_4_41) (own_nn (by omega)).1 (i := j) (own_nn (by omega)).2 hj (x := (vf j)) rfl ?_
      show own_E p e below _ (T103.setTop (mkF m 42 #[.val (.ref a1), .val (.long x1), .second, .val (.int u1), .val (.int (63 : Int32)), .val (.int (Int32.ofNat j))] [(.int (vf j))]))
      refine own_g (mkF m 43 #[.val (.ref a1), .val (.long x1), .second, .val (.int u1), .val (.int (63 : Int32)), .val (.int (Int32.ofNat j))] [(.int (-1 : Int32)), (.int (vf j))]) (fun _ kz => XS.iconst X103.here hx rfl (hb hby od_17_4_42) kz) ?_
      by_cases hv : (vf j) = (-1 : Int32)
      · refine own_g (mkF m 78 #[.val (.ref a1), .val (.long x1), .second, .val (.int u1), .val (.int (63 : Int32)), .val (.int (Int32.ofNat j))] []) (fun _ kz => XS.icmpYes X103.here hx rfl (pc0 := 43) (pc' := 78) rfl (hb hby od_17_4_43) rfl (teq hv).1 (by decide) (by decide) kz) ?_
        have hje : j = own_at kf vf x1 := by rw [own_find, if_pos hv] at hf; exact hf
        refine own_g (mkF m 79 #[.val (.ref a1), .val (.long x1), .second, .val (.int u1), .val (.int (63 : Int32)), .val (.int (Int32.ofNat j))] [(.ref a1)]) (fun _ kz => XS.aloadN X103.here hx rfl (hb hby od_17_4_78) rfl rfl kz) ?_
        obtain ⟨T104, X104, e104, st104⟩ := getF X103 hx hZ hown (host := "") (Or.inl (own_w hw 11 rfl)) Via.refl e103 Fk (g := (mkF m 79 #[.val (.ref a1), .val (.long x1), .second, .val (.int u1), .val (.int (63 : Int32)), .val (.int (Int32.ofNat j))] [(.ref a1)])) rfl rfl (hb hby od_17_4_79)
        refine own_s st104 ?_
        show own_E p e below _ (T104.setTop (mkF m 82 #[.val (.ref a1), .val (.long x1), .second, .val (.int u1), .val (.int (63 : Int32)), .val (.int (Int32.ofNat j))] [(.ref b1)]))
        refine own_g (mkF m 84 #[.val (.ref a1), .val (.long x1), .second, .val (.int u1), .val (.int (63 : Int32)), .val (.int (Int32.ofNat j))] [(.int (Int32.ofNat j)), (.ref b1)]) (fun _ kz => XS.iload X104.here hx rfl (hb hby od_17_4_82) rfl kz) ?_
        refine own_g (mkF m 85 #[.val (.ref a1), .val (.long x1), .second, .val (.int u1), .val (.int (63 : Int32)), .val (.int (Int32.ofNat j))] [(.long x1), (.int (Int32.ofNat j)), (.ref b1)]) (fun _ kz => XS.lloadN X104.here hx rfl (hb hby od_17_4_84) rfl kz) ?_
        refine own_stJ X104 hx hZ e104 Ak (hb hby od_17_4_85) (own_nn (by omega)).1 (i := j) (own_nn (by omega)).2 hj ?_
        intro T105 h105 X105 e105 W105 A105
        have N105 := Fr.snoc X105 N g2
        have s106 : n0 ≤ h105.size := Nat.le_trans Z0 (Keep.of_wr W105).1
        have f107 := Fld.other W105 Fk (Or.inl nab)
        have f108 := Fld.other W105 Fv (Or.inl nab)
        have f109 := Av.other W105 (Ne.symm nbc)
        have f110 := Exa.wr W105 E1
        have f111 := Fld.other W105 Fs (Or.inl nab)
        have K112 := K0.wr W105 (Or.inl (by simp))
        show own_E p e below _ (T105.setTop (mkF m 86 #[.val (.ref a1), .val (.long x1), .second, .val (.int u1), .val (.int (63 : Int32)), .val (.int (Int32.ofNat j))] []))
        refine own_g (mkF m 87 #[.val (.ref a1), .val (.long x1), .second, .val (.int u1), .val (.int (63 : Int32)), .val (.int (Int32.ofNat j))] [(.ref a1)]) (fun _ kz => XS.aloadN X105.here hx rfl (hb hby od_17_4_86) rfl rfl kz) ?_
        obtain ⟨T113, X113, e113, st113⟩ := getF X105 hx hZ hown (host := "") (Or.inl (own_w hw 21 rfl)) Via.refl e105 f108 (g := (mkF m 87 #[.val (.ref a1), .val (.long x1), .second, .val (.int u1), .val (.int (63 : Int32)), .val (.int (Int32.ofNat j))] [(.ref a1)])) rfl rfl (hb hby od_17_4_87)
        refine own_s st113 ?_
        show own_E p e below _ (T113.setTop (mkF m 90 #[.val (.ref a1), .val (.long x1), .second, .val (.int u1), .val (.int (63 : Int32)), .val (.int (Int32.ofNat j))] [(.ref c1)]))
        refine own_g (mkF m 92 #[.val (.ref a1), .val (.long x1), .second, .val (.int u1), .val (.int (63 : Int32)), .val (.int (Int32.ofNat j))] [(.int (Int32.ofNat j)), (.ref c1)]) (fun _ kz => XS.iload X113.here hx rfl (hb hby od_17_4_90) rfl kz) ?_
        refine own_g (mkF m 93 #[.val (.ref a1), .val (.long x1), .second, .val (.int u1), .val (.int (63 : Int32)), .val (.int (Int32.ofNat j))] [(.int u1), (.int (Int32.ofNat j)), (.ref c1)]) (fun _ kz => XS.iloadN X113.here hx rfl (hb hby od_17_4_92) rfl kz) ?_
        refine own_stI X113 hx hZ e113 f109 (hb hby od_17_4_93) (own_nn (by omega)).1 (i := j) (own_nn (by omega)).2 hj ?_
        intro T114 h114 X114 e114 W114 A114
        have N114 := Fr.snoc X114 N105 g3
        have s115 : n0 ≤ h114.size := Nat.le_trans s106 (Keep.of_wr W114).1
        have f116 := Fld.other W114 f107 (Or.inl nac)
        have f117 := Fld.other W114 f108 (Or.inl nac)
        have f118 := A105.other W114 nbc
        have f119 := Exa.wr W114 f110
        have f120 := Fld.other W114 f111 (Or.inl nac)
        have K121 := K112.wr W114 (Or.inl (by simp))
        show own_E p e below _ (T114.setTop (mkF m 94 #[.val (.ref a1), .val (.long x1), .second, .val (.int u1), .val (.int (63 : Int32)), .val (.int (Int32.ofNat j))] []))
        refine own_g (mkF m 95 #[.val (.ref a1), .val (.long x1), .second, .val (.int u1), .val (.int (63 : Int32)), .val (.int (Int32.ofNat j))] [(.ref a1)]) (fun _ kz => XS.aloadN X114.here hx rfl (hb hby od_17_4_94) rfl rfl kz) ?_
        refine own_g (mkF m 96 #[.val (.ref a1), .val (.long x1), .second, .val (.int u1), .val (.int (63 : Int32)), .val (.int (Int32.ofNat j))] [(.ref a1), (.ref a1)]) (fun _ kz => XS.dup X114.here hx rfl (hb hby od_17_4_95) rfl rfl kz) ?_
        obtain ⟨T122, X122, e122, st122⟩ := getF X114 hx hZ hown (host := "") (Or.inl (own_w hw 41 rfl)) Via.refl e114 f120 (g := (mkF m 96 #[.val (.ref a1), .val (.long x1), .second, .val (.int u1), .val (.int (63 : Int32)), .val (.int (Int32.ofNat j))] [(.ref a1), (.ref a1)])) rfl rfl (hb hby od_17_4_96)
        refine own_s st122 ?_
        show own_E p e below _ (T122.setTop (mkF m 99 #[.val (.ref a1), .val (.long x1), .second, .val (.int u1), .val (.int (63 : Int32)), .val (.int (Int32.ofNat j))] [(.int (Int32.ofNat sz)), (.ref a1)]))
        refine own_g (mkF m 100 #[.val (.ref a1), .val (.long x1), .second, .val (.int u1), .val (.int (63 : Int32)), .val (.int (Int32.ofNat j))] [(.int (1 : Int32)), (.int (Int32.ofNat sz)), (.ref a1)]) (fun _ kz => XS.iconst X122.here hx rfl (hb hby od_17_4_99) kz) ?_
        refine own_g (mkF m 101 #[.val (.ref a1), .val (.long x1), .second, .val (.int u1), .val (.int (63 : Int32)), .val (.int (Int32.ofNat j))] [(.int ((Int32.ofNat sz) + (1 : Int32))), (.ref a1)]) (fun _ kz => XS.iadd X122.here hx rfl (hb hby od_17_4_100) rfl kz) ?_
        rw [own_one]
        show own_E p e below _ (T122.setTop (mkF m 101 #[.val (.ref a1), .val (.long x1), .second, .val (.int u1), .val (.int (63 : Int32)), .val (.int (Int32.ofNat j))] [(.int (Int32.ofNat (sz + 1))), (.ref a1)]))
        refine own_g (mkF m 102 #[.val (.ref a1), .val (.long x1), .second, .val (.int u1), .val (.int (63 : Int32)), .val (.int (Int32.ofNat j))] [(.int (Int32.ofNat (sz + 1))), (.ref a1), (.int (Int32.ofNat (sz + 1)))]) (fun _ kz => XS.dupX1 X122.here hx rfl (hb hby od_17_4_101) rfl rfl rfl kz) ?_
        obtain ⟨T123, h123, X123, e123, W123, st123⟩ := putF X122 hx hZ hown (host := "") (Or.inl (own_w hw 41 rfl)) Via.refl e122 f120 f119 (Or.inl (own_w hw 42 rfl)) (own_w hw 2 rfl) (ty := .int) (by decide) rfl rfl (g := (mkF m 102 #[.val (.ref a1), .val (.long x1), .second, .val (.int u1), .val (.int (63 : Int32)), .val (.int (Int32.ofNat j))] [(.int (Int32.ofNat (sz + 1))), (.ref a1), (.int (Int32.ofNat (sz + 1)))])) rfl rfl (hb hby od_17_4_102)
        have N123 := Fr.snoc X123 N114 g1
        have s124 : n0 ≤ h123.size := Nat.le_trans s115 (Keep.of_wr W123).1
        have f125 := Fld.other W123 f116 (Or.inr (slot_ne (Or.inl (own_w hw 12 rfl)) (Or.inl (own_w hw 42 rfl)) (by decide) (t := (.array .long)) (t' := .int) (by decide) (by decide)))
        have f126 := Fld.other W123 f117 (Or.inr (slot_ne (Or.inl (own_w hw 22 rfl)) (Or.inl (own_w hw 42 rfl)) (by decide) (t := (.array .int)) (t' := .int) (by decide) (by decide)))
        have f127 := f118.other W123 (Ne.symm nab)
        have f128 := A114.other W123 (Ne.symm nac)
        have f129 := Exa.wr W123 f119
        have K130 := K121.wr W123 (Or.inl (by simp))
        have f131 := Fld.same W123 f120
        refine own_s st123 ?_
        show own_E p e below _ (T123.setTop (mkF m 105 #[.val (.ref a1), .val (.long x1), .second, .val (.int u1), .val (.int (63 : Int32)), .val (.int (Int32.ofNat j))] [(.int (Int32.ofNat (sz + 1)))]))
        refine own_g (mkF m 106 #[.val (.ref a1), .val (.long x1), .second, .val (.int u1), .val (.int (63 : Int32)), .val (.int (Int32.ofNat j))] [(.int (2 : Int32)), (.int (Int32.ofNat (sz + 1)))]) (fun _ kz => XS.iconst X123.here hx rfl (hb hby od_17_4_105) kz) ?_
        refine own_g (mkF m 107 #[.val (.ref a1), .val (.long x1), .second, .val (.int u1), .val (.int (63 : Int32)), .val (.int (Int32.ofNat j))] [(.int ((Int32.ofNat (sz + 1)) * (2 : Int32)))]) (fun _ kz => XS.imul X123.here hx rfl (hb hby od_17_4_106) rfl kz) ?_
        refine own_g (mkF m 108 #[.val (.ref a1), .val (.long x1), .second, .val (.int u1), .val (.int (63 : Int32)), .val (.int (Int32.ofNat j))] [(.ref a1), (.int ((Int32.ofNat (sz + 1)) * (2 : Int32)))]) (fun _ kz => XS.aloadN X123.here hx rfl (hb hby od_17_4_107) rfl rfl kz) ?_
        obtain ⟨T132, X132, e132, st132⟩ := getF X123 hx hZ hown (host := "") (Or.inl (own_w hw 11 rfl)) Via.refl e123 f125 (g := (mkF m 108 #[.val (.ref a1), .val (.long x1), .second, .val (.int u1), .val (.int (63 : Int32)), .val (.int (Int32.ofNat j))] [(.ref a1), (.int ((Int32.ofNat (sz + 1)) * (2 : Int32)))])) rfl rfl (hb hby od_17_4_108)
        refine own_s st132 ?_
        show own_E p e below _ (T132.setTop (mkF m 111 #[.val (.ref a1), .val (.long x1), .second, .val (.int u1), .val (.int (63 : Int32)), .val (.int (Int32.ofNat j))] [(.ref b1), (.int ((Int32.ofNat (sz + 1)) * (2 : Int32)))]))
        refine own_lenJ X132 hx hZ e132 f127 (hb hby od_17_4_111) (z := (64 : Int32)) rfl ?_
        show own_E p e below _ (T132.setTop (mkF m 112 #[.val (.ref a1), .val (.long x1), .second, .val (.int u1), .val (.int (63 : Int32)), .val (.int (Int32.ofNat j))] [(.int (64 : Int32)), (.int ((Int32.ofNat (sz + 1)) * (2 : Int32)))]))
        refine own_g (mkF m 119 #[.val (.ref a1), .val (.long x1), .second, .val (.int u1), .val (.int (63 : Int32)), .val (.int (Int32.ofNat j))] []) (fun _ kz => XS.icmpYes X132.here hx rfl (pc0 := 112) (pc' := 119) rfl (hb hby od_17_4_112) rfl (flt (own_sz hsz)).2.2.2 (by decide) (by decide) kz) ?_
        refine own_g (mkF m 120 #[.val (.ref a1), .val (.long x1), .second, .val (.int u1), .val (.int (63 : Int32)), .val (.int (Int32.ofNat j))] [(.int (-1 : Int32))]) (fun _ kz => XS.iconst X132.here hx rfl (hb hby od_17_4_119) kz) ?_
        exact own_retI X132 hx hret hlk (hb hby od_17_4_120) (by decide) (by decide) (by first | exact ⟨_, sz + 1, rfl, N123, K130, Nat.le_refl _, f125, f126, f131, by rw [own_pk, ← hje, if_pos hv]; exact f127, by rw [own_pv, ← hje, if_pos hv]; exact f128⟩ | (rw [e132]; exact ⟨_, sz + 1, rfl, N123, K130, Nat.le_refl _, f125, f126, f131, by rw [own_pk, ← hje, if_pos hv]; exact f127, by rw [own_pv, ← hje, if_pos hv]; exact f128⟩))
      · refine own_g (mkF m 46 #[.val (.ref a1), .val (.long x1), .second, .val (.int u1), .val (.int (63 : Int32)), .val (.int (Int32.ofNat j))] []) (fun _ kz => XS.icmpNo X103.here hx rfl (hb hby od_17_4_43) rfl (feq hv).1 kz) ?_
        refine own_g (mkF m 47 #[.val (.ref a1), .val (.long x1), .second, .val (.int u1), .val (.int (63 : Int32)), .val (.int (Int32.ofNat j))] [(.ref a1)]) (fun _ kz => XS.aloadN X103.here hx rfl (hb hby od_17_4_46) rfl rfl kz) ?_
        obtain ⟨T133, X133, e133, st133⟩ := getF X103 hx hZ hown (host := "") (Or.inl (own_w hw 11 rfl)) Via.refl e103 Fk (g := (mkF m 47 #[.val (.ref a1), .val (.long x1), .second, .val (.int u1), .val (.int (63 : Int32)), .val (.int (Int32.ofNat j))] [(.ref a1)])) rfl rfl (hb hby od_17_4_47)
        refine own_s st133 ?_
        show own_E p e below _ (T133.setTop (mkF m 50 #[.val (.ref a1), .val (.long x1), .second, .val (.int u1), .val (.int (63 : Int32)), .val (.int (Int32.ofNat j))] [(.ref b1)]))
        refine own_g (mkF m 52 #[.val (.ref a1), .val (.long x1), .second, .val (.int u1), .val (.int (63 : Int32)), .val (.int (Int32.ofNat j))] [(.int (Int32.ofNat j)), (.ref b1)]) (fun _ kz => XS.iload X133.here hx rfl (hb hby od_17_4_50) rfl kz) ?_
        refine own_ildJ X133 hx hZ e133 Ak (hb hby od_17_4_52) (own_nn (by omega)).1 (i := j) (own_nn (by omega)).2 hj (x := (kf j)) rfl ?_
        show own_E p e below _ (T133.setTop (mkF m 53 #[.val (.ref a1), .val (.long x1), .second, .val (.int u1), .val (.int (63 : Int32)), .val (.int (Int32.ofNat j))] [(.long (kf j))]))
        refine own_g (mkF m 54 #[.val (.ref a1), .val (.long x1), .second, .val (.int u1), .val (.int (63 : Int32)), .val (.int (Int32.ofNat j))] [(.long x1), (.long (kf j))]) (fun _ kz => XS.lloadN X133.here hx rfl (hb hby od_17_4_53) rfl kz) ?_
        refine own_g (mkF m 55 #[.val (.ref a1), .val (.long x1), .second, .val (.int u1), .val (.int (63 : Int32)), .val (.int (Int32.ofNat j))] [(.int (lcmpW (kf j) x1))]) (fun _ kz => XS.lcmp X133.here hx rfl (hb hby od_17_4_54) rfl kz) ?_
        by_cases hk : (kf j) = x1
        · refine own_g (mkF m 58 #[.val (.ref a1), .val (.long x1), .second, .val (.int u1), .val (.int (63 : Int32)), .val (.int (Int32.ofNat j))] []) (fun _ kz => XS.ifNo X133.here hx rfl (hb hby od_17_4_55) rfl ((if0 _ _).trans (teq (own_lcT hk)).2) kz) ?_
          have hje : j = own_at kf vf x1 := by rw [own_find, if_neg hv, if_pos hk] at hf; exact hf
          refine own_g (mkF m 59 #[.val (.ref a1), .val (.long x1), .second, .val (.int u1), .val (.int (63 : Int32)), .val (.int (Int32.ofNat j))] [(.ref a1)]) (fun _ kz => XS.aloadN X133.here hx rfl (hb hby od_17_4_58) rfl rfl kz) ?_
          obtain ⟨T134, X134, e134, st134⟩ := getF X133 hx hZ hown (host := "") (Or.inl (own_w hw 21 rfl)) Via.refl e133 Fv (g := (mkF m 59 #[.val (.ref a1), .val (.long x1), .second, .val (.int u1), .val (.int (63 : Int32)), .val (.int (Int32.ofNat j))] [(.ref a1)])) rfl rfl (hb hby od_17_4_59)
          refine own_s st134 ?_
          show own_E p e below _ (T134.setTop (mkF m 62 #[.val (.ref a1), .val (.long x1), .second, .val (.int u1), .val (.int (63 : Int32)), .val (.int (Int32.ofNat j))] [(.ref c1)]))
          refine own_g (mkF m 64 #[.val (.ref a1), .val (.long x1), .second, .val (.int u1), .val (.int (63 : Int32)), .val (.int (Int32.ofNat j))] [(.int (Int32.ofNat j)), (.ref c1)]) (fun _ kz => XS.iload X134.here hx rfl (hb hby od_17_4_62) rfl kz) ?_
          refine own_ildI X134 hx hZ e134 Av (hb hby od_17_4_64) (own_nn (by omega)).1 (i := j) (own_nn (by omega)).2 hj (x := (vf j)) rfl ?_
          show own_E p e below _ (T134.setTop (mkF m 65 #[.val (.ref a1), .val (.long x1), .second, .val (.int u1), .val (.int (63 : Int32)), .val (.int (Int32.ofNat j))] [(.int (vf j))]))
          exact own_retI X134 hx hret hlk (hb hby od_17_4_65) (by decide) (by decide) (by first | exact ⟨_, sz, rfl, N, K0, by omega, Fk, Fv, Fs, by rw [own_pk, ← hje, if_neg hv]; exact Ak, by rw [own_pv, ← hje, if_neg hv]; exact Av⟩ | (rw [e134]; exact ⟨_, sz, rfl, N, K0, by omega, Fk, Fv, Fs, by rw [own_pk, ← hje, if_neg hv]; exact Ak, by rw [own_pv, ← hje, if_neg hv]; exact Av⟩))
        · refine own_g (mkF m 66 #[.val (.ref a1), .val (.long x1), .second, .val (.int u1), .val (.int (63 : Int32)), .val (.int (Int32.ofNat j))] []) (fun _ kz => XS.ifYes X133.here hx rfl (pc0 := 55) (pc' := 66) rfl (hb hby od_17_4_55) rfl ((if0 _ _).trans (feq (own_lcF hk)).2) (by decide) (by decide) kz) ?_
          refine own_g (mkF m 68 #[.val (.ref a1), .val (.long x1), .second, .val (.int u1), .val (.int (63 : Int32)), .val (.int (Int32.ofNat j))] [(.int (Int32.ofNat j))]) (fun _ kz => XS.iload X133.here hx rfl (hb hby od_17_4_66) rfl kz) ?_
          refine own_g (mkF m 69 #[.val (.ref a1), .val (.long x1), .second, .val (.int u1), .val (.int (63 : Int32)), .val (.int (Int32.ofNat j))] [(.int (1 : Int32)), (.int (Int32.ofNat j))]) (fun _ kz => XS.iconst X133.here hx rfl (hb hby od_17_4_68) kz) ?_
          refine own_g (mkF m 70 #[.val (.ref a1), .val (.long x1), .second, .val (.int u1), .val (.int (63 : Int32)), .val (.int (Int32.ofNat j))] [(.int ((Int32.ofNat j) + (1 : Int32)))]) (fun _ kz => XS.iadd X133.here hx rfl (hb hby od_17_4_69) rfl kz) ?_
          refine own_g (mkF m 72 #[.val (.ref a1), .val (.long x1), .second, .val (.int u1), .val (.int (63 : Int32)), .val (.int (Int32.ofNat j))] [(.int (63 : Int32)), (.int ((Int32.ofNat j) + (1 : Int32)))]) (fun _ kz => XS.iload X133.here hx rfl (hb hby od_17_4_70) rfl kz) ?_
          refine own_g (mkF m 73 #[.val (.ref a1), .val (.long x1), .second, .val (.int u1), .val (.int (63 : Int32)), .val (.int (Int32.ofNat j))] [(.int (((Int32.ofNat j) + (1 : Int32)) &&& (63 : Int32)))]) (fun _ kz => XS.iand X133.here hx rfl (hb hby od_17_4_72) rfl kz) ?_
          refine own_g (mkF m 75 #[.val (.ref a1), .val (.long x1), .second, .val (.int u1), .val (.int (63 : Int32)), .val (.int (((Int32.ofNat j) + (1 : Int32)) &&& (63 : Int32)))] []) (fun _ kz => XS.istore X133.here hx rfl (hb hby od_17_4_73) rfl (l' := #[.val (.ref a1), .val (.long x1), .second, .val (.int u1), .val (.int (63 : Int32)), .val (.int (((Int32.ofNat j) + (1 : Int32)) &&& (63 : Int32)))]) rfl kz) ?_
          refine own_g (mkF m 35 #[.val (.ref a1), .val (.long x1), .second, .val (.int u1), .val (.int (63 : Int32)), .val (.int (((Int32.ofNat j) + (1 : Int32)) &&& (63 : Int32)))] []) (fun _ kz => XS.goto X133.here hx rfl (pc0 := 75) (pc' := 35) rfl (hb hby od_17_4_75) (by decide) (by decide) kz) ?_
          rw [own_nxt hj]
          show own_E p e below _ (T133.setTop (mkF m 35 #[.val (.ref a1), .val (.long x1), .second, .val (.int u1), .val (.int (63 : Int32)), .val (.int (Int32.ofNat ((j + 1) % 64)))] []))
          exact ih _ _ _ (by rw [own_find, if_neg hv, if_neg hk] at hf; exact hf) (Nat.mod_lt _ (by decide)) N X133 e133
  refine own_g (mkF m 1 #[.val (.ref a1), .val (.long x1), .second, .val (.int u1), .unset, .unset] [(.int u1)]) (fun _ kz => XS.iloadN X0.here hx rfl (hb hby od_17_4_0) rfl kz) ?_
  refine own_g (mkF m 18 #[.val (.ref a1), .val (.long x1), .second, .val (.int u1), .unset, .unset] []) (fun _ kz => XS.ifYes X0.here hx rfl (pc0 := 1) (pc' := 18) rfl (hb hby od_17_4_1) rfl ((if0 _ _).trans (flt hu).2.1) (by decide) (by decide) kz) ?_
  refine own_g (mkF m 19 #[.val (.ref a1), .val (.long x1), .second, .val (.int u1), .unset, .unset] [(.ref a1)]) (fun _ kz => XS.aloadN X0.here hx rfl (hb hby od_17_4_18) rfl rfl kz) ?_
  obtain ⟨T135, X135, e135, st135⟩ := getF X0 hx hZ hown (host := "") (Or.inl (own_w hw 11 rfl)) Via.refl e0 Fk (g := (mkF m 19 #[.val (.ref a1), .val (.long x1), .second, .val (.int u1), .unset, .unset] [(.ref a1)])) rfl rfl (hb hby od_17_4_19)
  refine own_s st135 ?_
  show own_E p e below _ (T135.setTop (mkF m 22 #[.val (.ref a1), .val (.long x1), .second, .val (.int u1), .unset, .unset] [(.ref b1)]))
  refine own_lenJ X135 hx hZ e135 Ak (hb hby od_17_4_22) (z := (64 : Int32)) rfl ?_
  show own_E p e below _ (T135.setTop (mkF m 23 #[.val (.ref a1), .val (.long x1), .second, .val (.int u1), .unset, .unset] [(.int (64 : Int32))]))
  refine own_g (mkF m 24 #[.val (.ref a1), .val (.long x1), .second, .val (.int u1), .unset, .unset] [(.int (1 : Int32)), (.int (64 : Int32))]) (fun _ kz => XS.iconst X135.here hx rfl (hb hby od_17_4_23) kz) ?_
  refine own_g (mkF m 25 #[.val (.ref a1), .val (.long x1), .second, .val (.int u1), .unset, .unset] [(.int ((64 : Int32) - (1 : Int32)))]) (fun _ kz => XS.isub X135.here hx rfl (hb hby od_17_4_24) rfl kz) ?_
  refine own_g (mkF m 27 #[.val (.ref a1), .val (.long x1), .second, .val (.int u1), .val (.int ((64 : Int32) - (1 : Int32))), .unset] []) (fun _ kz => XS.istore X135.here hx rfl (hb hby od_17_4_25) rfl (l' := #[.val (.ref a1), .val (.long x1), .second, .val (.int u1), .val (.int ((64 : Int32) - (1 : Int32))), .unset]) rfl kz) ?_
  refine own_g (mkF m 28 #[.val (.ref a1), .val (.long x1), .second, .val (.int u1), .val (.int ((64 : Int32) - (1 : Int32))), .unset] [(.long x1)]) (fun _ kz => XS.lloadN X135.here hx rfl (hb hby od_17_4_27) rfl kz) ?_
  refine own_g (mkF m 30 #[.val (.ref a1), .val (.long x1), .second, .val (.int u1), .val (.int ((64 : Int32) - (1 : Int32))), .unset] [(.int ((64 : Int32) - (1 : Int32))), (.long x1)]) (fun _ kz => XS.iload X135.here hx rfl (hb hby od_17_4_28) rfl kz) ?_
  rw [show ((64 : Int32) - (1 : Int32)) = 63 from by decide]
  show own_E p e below _ (T135.setTop (mkF m 30 #[.val (.ref a1), .val (.long x1), .second, .val (.int u1), .val (.int (63 : Int32)), .unset] [(.int (63 : Int32)), (.long x1)]))
  refine own_callS (rest := []) (as := [(.long x1), (.int (63 : Int32))]) X135 hx hZ hown e135 (own_c_slot l Z a0 hw x1 63 h0) (own_w hw 28 rfl) (own_w hw 29 rfl) (own_w hw 3 rfl) (own_w hw 30 rfl) (by decide) own_pd2 rfl (by rw [hml]; rfl) rfl (hb hby od_17_4_30) 0 (by show 2 * 0 + _ ≤ _; exact Nat.le_of_eq rfl) (by decide) (by decide) (by decide) (by decide) ?_
  rintro _ T136 L136 X136 ⟨rfl, rfl, e136⟩
  have N136 := Fr.app N0 (Fr.nil n0)
  show own_E p e below _ (T136.setTop (mkF m 33 #[.val (.ref a1), .val (.long x1), .second, .val (.int u1), .val (.int (63 : Int32)), .unset] [(.int (own_sl32 x1 63))]))
  rw [own_slx]
  show own_E p e below _ (T136.setTop (mkF m 33 #[.val (.ref a1), .val (.long x1), .second, .val (.int u1), .val (.int (63 : Int32)), .unset] [(.int (Int32.ofNat (own_sl x1)))]))
  refine own_g (mkF m 35 #[.val (.ref a1), .val (.long x1), .second, .val (.int u1), .val (.int (63 : Int32)), .val (.int (Int32.ofNat (own_sl x1)))] []) (fun _ kz => XS.istore X136.here hx rfl (hb hby od_17_4_33) rfl (l' := #[.val (.ref a1), .val (.long x1), .second, .val (.int u1), .val (.int (63 : Int32)), .val (.int (Int32.ofNat (own_sl x1)))]) rfl kz) ?_
  exact loop 3 _ _ _ rfl (own_sllt x1) N136 X136 e136
theorem own_pd3 : parseMethodDescriptor "()V" = some ⟨[], none⟩ := by decide +kernel
theorem own_pd4 : parseMethodDescriptor "(J)I" = some ⟨[.long], some .int⟩ := by decide +kernel
theorem own_pd5 : parseMethodDescriptor "(JIJIJIJI)I" = some ⟨[.long, .int, .long, .int, .long, .int, .long, .int], some .int⟩ := by decide +kernel
set_option maxRecDepth 65536 in
set_option maxHeartbeats 40000000 in
theorem own_c_law (l : Launch) (Z : State) (a0 : Array Value) (hw : ∀ d ∈ tables_1, d.before a0 Z = true) (x0 : Int64) (x1 : Int64) (x2 : Int64) (x3 : Int64) (x4 : Int32) (x5 : Int32) (h0 : Heap) (n0 : Nat) (Z0 : n0 ≤ h0.size) :
    own_Con l Z x code maxLocals ret tables_1 room_1 #[(.long x0), (.long x1), (.long x2), (.long x3), (.int x4), (.int x5)] h0 (fun v h L => v = some (.int 1) ∧ Fr n0 L) := by
  refine own_enter (plainFor_of_name own_pn1) ?_
  intro p e s m below meth c s₁ X0 e0 hx hZ hby hml hown hnm hret hlk
  refine own_cast (g' := (mkF m 0 #[.val (.long x0), .second, .val (.long x1), .second, .val (.long x2), .second, .val (.long x3), .second, .val (.int x4), .val (.int x5), .unset, .unset, .unset, .unset, .unset, .unset, .unset, .unset, .unset] [])) (by first | (simp [entryFrame, mkF, argsToLocals, Value.category, maxLocals]; done) | rfl) ?_
  have N0 := Fr.nil n0
  refine own_g (mkF m 2 #[.val (.long x0), .second, .val (.long x1), .second, .val (.long x2), .second, .val (.long x3), .second, .val (.int x4), .val (.int x5), .unset, .unset, .unset, .unset, .unset, .unset, .unset, .unset, .unset] [(.int x5)]) (fun _ kz => XS.iload X0.here hx rfl (hb hby at_0) rfl kz) ?_
  refine own_g (mkF m 3 #[.val (.long x0), .second, .val (.long x1), .second, .val (.long x2), .second, .val (.long x3), .second, .val (.int x4), .val (.int x5), .unset, .unset, .unset, .unset, .unset, .unset, .unset, .unset, .unset] [(.int (3 : Int32)), (.int x5)]) (fun _ kz => XS.iconst X0.here hx rfl (hb hby at_2) kz) ?_
  refine own_g (mkF m 4 #[.val (.long x0), .second, .val (.long x1), .second, .val (.long x2), .second, .val (.long x3), .second, .val (.int x4), .val (.int x5), .unset, .unset, .unset, .unset, .unset, .unset, .unset, .unset, .unset] [(.int (x5 &&& (3 : Int32)))]) (fun _ kz => XS.iand X0.here hx rfl (hb hby at_3) rfl kz) ?_
  refine own_g (mkF m 6 #[.val (.long x0), .second, .val (.long x1), .second, .val (.long x2), .second, .val (.long x3), .second, .val (.int x4), .val (.int x5), .val (.int (x5 &&& (3 : Int32))), .unset, .unset, .unset, .unset, .unset, .unset, .unset, .unset] []) (fun _ kz => XS.istore X0.here hx rfl (hb hby at_4) rfl (l' := #[.val (.long x0), .second, .val (.long x1), .second, .val (.long x2), .second, .val (.long x3), .second, .val (.int x4), .val (.int x5), .val (.int (x5 &&& (3 : Int32))), .unset, .unset, .unset, .unset, .unset, .unset, .unset, .unset]) rfl kz) ?_
  refine own_g (mkF m 8 #[.val (.long x0), .second, .val (.long x1), .second, .val (.long x2), .second, .val (.long x3), .second, .val (.int x4), .val (.int x5), .val (.int (x5 &&& (3 : Int32))), .unset, .unset, .unset, .unset, .unset, .unset, .unset, .unset] [(.int x4)]) (fun _ kz => XS.iload X0.here hx rfl (hb hby at_6) rfl kz) ?_
  refine own_g (mkF m 10 #[.val (.long x0), .second, .val (.long x1), .second, .val (.long x2), .second, .val (.long x3), .second, .val (.int x4), .val (.int x5), .val (.int (x5 &&& (3 : Int32))), .unset, .unset, .unset, .unset, .unset, .unset, .unset, .unset] [(.int (65535 : Int32)), (.int x4)]) (fun _ kz => X0.ldcInt hx hown (mvT hZ (own_w hw 0 rfl)) (g := (mkF m 8 #[.val (.long x0), .second, .val (.long x1), .second, .val (.long x2), .second, .val (.long x3), .second, .val (.int x4), .val (.int x5), .val (.int (x5 &&& (3 : Int32))), .unset, .unset, .unset, .unset, .unset, .unset, .unset, .unset] [(.int x4)])) rfl (hb hby at_8) _ kz) ?_
  refine own_g (mkF m 11 #[.val (.long x0), .second, .val (.long x1), .second, .val (.long x2), .second, .val (.long x3), .second, .val (.int x4), .val (.int x5), .val (.int (x5 &&& (3 : Int32))), .unset, .unset, .unset, .unset, .unset, .unset, .unset, .unset] [(.int (x4 &&& (65535 : Int32)))]) (fun _ kz => XS.iand X0.here hx rfl (hb hby at_10) rfl kz) ?_
  obtain ⟨u1, hu1, nu1⟩ : ∃ z, z = (x4 &&& (65535 : Int32)) ∧ ¬ z < 0 := ⟨_, rfl, own_v1 _⟩
  rw [← hu1]
  show own_E p e below _ (s₁.setTop (mkF m 11 #[.val (.long x0), .second, .val (.long x1), .second, .val (.long x2), .second, .val (.long x3), .second, .val (.int x4), .val (.int x5), .val (.int (x5 &&& (3 : Int32))), .unset, .unset, .unset, .unset, .unset, .unset, .unset, .unset] [(.int u1)]))
  refine own_g (mkF m 13 #[.val (.long x0), .second, .val (.long x1), .second, .val (.long x2), .second, .val (.long x3), .second, .val (.int x4), .val (.int x5), .val (.int (x5 &&& (3 : Int32))), .val (.int u1), .unset, .unset, .unset, .unset, .unset, .unset, .unset] []) (fun _ kz => XS.istore X0.here hx rfl (hb hby at_11) rfl (l' := #[.val (.long x0), .second, .val (.long x1), .second, .val (.long x2), .second, .val (.long x3), .second, .val (.int x4), .val (.int x5), .val (.int (x5 &&& (3 : Int32))), .val (.int u1), .unset, .unset, .unset, .unset, .unset, .unset, .unset]) rfl kz) ?_
  refine own_g (mkF m 15 #[.val (.long x0), .second, .val (.long x1), .second, .val (.long x2), .second, .val (.long x3), .second, .val (.int x4), .val (.int x5), .val (.int (x5 &&& (3 : Int32))), .val (.int u1), .unset, .unset, .unset, .unset, .unset, .unset, .unset] [(.int x4)]) (fun _ kz => XS.iload X0.here hx rfl (hb hby at_13) rfl kz) ?_
  refine own_g (mkF m 17 #[.val (.long x0), .second, .val (.long x1), .second, .val (.long x2), .second, .val (.long x3), .second, .val (.int x4), .val (.int x5), .val (.int (x5 &&& (3 : Int32))), .val (.int u1), .unset, .unset, .unset, .unset, .unset, .unset, .unset] [(.int (16 : Int32)), (.int x4)]) (fun _ kz => XS.bipush X0.here hx rfl (hb hby at_15) kz) ?_
  refine own_g (mkF m 18 #[.val (.long x0), .second, .val (.long x1), .second, .val (.long x2), .second, .val (.long x3), .second, .val (.int x4), .val (.int x5), .val (.int (x5 &&& (3 : Int32))), .val (.int u1), .unset, .unset, .unset, .unset, .unset, .unset, .unset] [(.int ((x4.toUInt32 >>> ((16 : Int32) &&& 31).toUInt32).toInt32))]) (fun _ kz => XS.iushr X0.here hx rfl (hb hby at_17) rfl kz) ?_
  refine own_g (mkF m 21 #[.val (.long x0), .second, .val (.long x1), .second, .val (.long x2), .second, .val (.long x3), .second, .val (.int x4), .val (.int x5), .val (.int (x5 &&& (3 : Int32))), .val (.int u1), .unset, .unset, .unset, .unset, .unset, .unset, .unset] [(.int (32767 : Int32)), (.int ((x4.toUInt32 >>> ((16 : Int32) &&& 31).toUInt32).toInt32))]) (fun _ kz => XS.sipush X0.here hx rfl (hb hby at_18) kz) ?_
  refine own_g (mkF m 22 #[.val (.long x0), .second, .val (.long x1), .second, .val (.long x2), .second, .val (.long x3), .second, .val (.int x4), .val (.int x5), .val (.int (x5 &&& (3 : Int32))), .val (.int u1), .unset, .unset, .unset, .unset, .unset, .unset, .unset] [(.int (((x4.toUInt32 >>> ((16 : Int32) &&& 31).toUInt32).toInt32) &&& (32767 : Int32)))]) (fun _ kz => XS.iand X0.here hx rfl (hb hby at_21) rfl kz) ?_
  obtain ⟨u2, hu2, nu2⟩ : ∃ z, z = (((x4.toUInt32 >>> ((16 : Int32) &&& 31).toUInt32).toInt32) &&& (32767 : Int32)) ∧ ¬ z < 0 := ⟨_, rfl, own_v2 _⟩
  rw [← hu2]
  show own_E p e below _ (s₁.setTop (mkF m 22 #[.val (.long x0), .second, .val (.long x1), .second, .val (.long x2), .second, .val (.long x3), .second, .val (.int x4), .val (.int x5), .val (.int (x5 &&& (3 : Int32))), .val (.int u1), .unset, .unset, .unset, .unset, .unset, .unset, .unset] [(.int u2)]))
  refine own_g (mkF m 24 #[.val (.long x0), .second, .val (.long x1), .second, .val (.long x2), .second, .val (.long x3), .second, .val (.int x4), .val (.int x5), .val (.int (x5 &&& (3 : Int32))), .val (.int u1), .val (.int u2), .unset, .unset, .unset, .unset, .unset, .unset] []) (fun _ kz => XS.istore X0.here hx rfl (hb hby at_22) rfl (l' := #[.val (.long x0), .second, .val (.long x1), .second, .val (.long x2), .second, .val (.long x3), .second, .val (.int x4), .val (.int x5), .val (.int (x5 &&& (3 : Int32))), .val (.int u1), .val (.int u2), .unset, .unset, .unset, .unset, .unset, .unset]) rfl kz) ?_
  refine own_g (mkF m 26 #[.val (.long x0), .second, .val (.long x1), .second, .val (.long x2), .second, .val (.long x3), .second, .val (.int x4), .val (.int x5), .val (.int (x5 &&& (3 : Int32))), .val (.int u1), .val (.int u2), .unset, .unset, .unset, .unset, .unset, .unset] [(.int x5)]) (fun _ kz => XS.iload X0.here hx rfl (hb hby at_24) rfl kz) ?_
  refine own_g (mkF m 27 #[.val (.long x0), .second, .val (.long x1), .second, .val (.long x2), .second, .val (.long x3), .second, .val (.int x4), .val (.int x5), .val (.int (x5 &&& (3 : Int32))), .val (.int u1), .val (.int u2), .unset, .unset, .unset, .unset, .unset, .unset] [(.int (2 : Int32)), (.int x5)]) (fun _ kz => XS.iconst X0.here hx rfl (hb hby at_26) kz) ?_
  refine own_g (mkF m 28 #[.val (.long x0), .second, .val (.long x1), .second, .val (.long x2), .second, .val (.long x3), .second, .val (.int x4), .val (.int x5), .val (.int (x5 &&& (3 : Int32))), .val (.int u1), .val (.int u2), .unset, .unset, .unset, .unset, .unset, .unset] [(.int ((x5.toUInt32 >>> ((2 : Int32) &&& 31).toUInt32).toInt32))]) (fun _ kz => XS.iushr X0.here hx rfl (hb hby at_27) rfl kz) ?_
  obtain ⟨u3, hu3, nu3⟩ : ∃ z, z = ((x5.toUInt32 >>> ((2 : Int32) &&& 31).toUInt32).toInt32) ∧ ¬ z < 0 := ⟨_, rfl, own_v3 _⟩
  rw [← hu3]
  show own_E p e below _ (s₁.setTop (mkF m 28 #[.val (.long x0), .second, .val (.long x1), .second, .val (.long x2), .second, .val (.long x3), .second, .val (.int x4), .val (.int x5), .val (.int (x5 &&& (3 : Int32))), .val (.int u1), .val (.int u2), .unset, .unset, .unset, .unset, .unset, .unset] [(.int u3)]))
  refine own_g (mkF m 30 #[.val (.long x0), .second, .val (.long x1), .second, .val (.long x2), .second, .val (.long x3), .second, .val (.int x4), .val (.int x5), .val (.int (x5 &&& (3 : Int32))), .val (.int u1), .val (.int u2), .val (.int u3), .unset, .unset, .unset, .unset, .unset] []) (fun _ kz => XS.istore X0.here hx rfl (hb hby at_28) rfl (l' := #[.val (.long x0), .second, .val (.long x1), .second, .val (.long x2), .second, .val (.long x3), .second, .val (.int x4), .val (.int x5), .val (.int (x5 &&& (3 : Int32))), .val (.int u1), .val (.int u2), .val (.int u3), .unset, .unset, .unset, .unset, .unset]) rfl kz) ?_
  obtain ⟨T137, h137, X137, e137, E137, A137, D137, -, st137⟩ := newO X0 hx hZ hown (own_w hw 1 rfl) (own_w hw 2 rfl) (own_w hw 3 rfl) e0 (g := (mkF m 30 #[.val (.long x0), .second, .val (.long x1), .second, .val (.long x2), .second, .val (.long x3), .second, .val (.int x4), .val (.int x5), .val (.int (x5 &&& (3 : Int32))), .val (.int u1), .val (.int u2), .val (.int u3), .unset, .unset, .unset, .unset, .unset] [])) rfl (hb hby at_30) (by decide) (by decide)
  obtain ⟨o137, g137⟩ : ∃ z, z = h0.size := ⟨_, rfl⟩
  rw [← g137] at A137 D137 st137
  have b138 : n0 ≤ o137 := Nat.le_trans Z0 (Nat.le_of_eq g137.symm)
  have s139 : n0 ≤ h137.size := Nat.le_trans Z0 E137.1
  have f140 : Fld Z h137 o137 "com/example/demesne/demesne/core/LongIntMap" "keys" "[J" .null := D137 (Or.inl (own_w hw 12 rfl)) (ty := (.array .long)) (by decide)
  have f141 : Fld Z h137 o137 "com/example/demesne/demesne/core/LongIntMap" "values" "[I" .null := D137 (Or.inl (own_w hw 22 rfl)) (ty := (.array .int)) (by decide)
  have f142 : Fld Z h137 o137 "com/example/demesne/demesne/core/LongIntMap" "size" "I" (.int (0 : Int32)) := D137 (Or.inl (own_w hw 42 rfl)) (ty := .int) (by decide)
  refine own_s st137 ?_
  show own_E p e below _ (T137.setTop (mkF m 33 #[.val (.long x0), .second, .val (.long x1), .second, .val (.long x2), .second, .val (.long x3), .second, .val (.int x4), .val (.int x5), .val (.int (x5 &&& (3 : Int32))), .val (.int u1), .val (.int u2), .val (.int u3), .unset, .unset, .unset, .unset, .unset] [(.ref o137)]))
  refine own_g (mkF m 34 #[.val (.long x0), .second, .val (.long x1), .second, .val (.long x2), .second, .val (.long x3), .second, .val (.int x4), .val (.int x5), .val (.int (x5 &&& (3 : Int32))), .val (.int u1), .val (.int u2), .val (.int u3), .unset, .unset, .unset, .unset, .unset] [(.ref o137), (.ref o137)]) (fun _ kz => XS.dup X137.here hx rfl (hb hby at_33) rfl rfl kz) ?_
  refine own_callI (rest := [(.ref o137)]) (a := o137) (as := []) X137 hx hZ hown e137 (own_c_ini l Z a0 hw o137 h137 n0 s139 b138 A137 f140 f141 f142) rfl (own_w hw 4 rfl) (own_w hw 5 rfl) (own_w hw 3 rfl) (own_w hw 6 rfl) (by decide) own_pd3 rfl (by rw [hml]; rfl) rfl (hb hby at_34) 1 (by show 2 * 0 + _ ≤ _; exact Nat.le_of_eq rfl) (by decide) (by decide) (by decide) (by decide) ?_
  rintro _ T143 L143 X143 ⟨rfl, Nq143, K143, ob, oc, gob, goc, nab, nac, nbc, Fk143, Fv143, Fs143, Ak143, Av143⟩
  have N143 := Fr.app N0 Nq143
  have f144 := Exa.keep A137 K143
  have s148 : n0 ≤ T143.heap.size := Nat.le_trans s139 K143.1
  show own_E p e below _ (T143.setTop (mkF m 37 #[.val (.long x0), .second, .val (.long x1), .second, .val (.long x2), .second, .val (.long x3), .second, .val (.int x4), .val (.int x5), .val (.int (x5 &&& (3 : Int32))), .val (.int u1), .val (.int u2), .val (.int u3), .unset, .unset, .unset, .unset, .unset] [(.ref o137)]))
  refine own_g (mkF m 39 #[.val (.long x0), .second, .val (.long x1), .second, .val (.long x2), .second, .val (.long x3), .second, .val (.int x4), .val (.int x5), .val (.int (x5 &&& (3 : Int32))), .val (.int u1), .val (.int u2), .val (.int u3), .val (.ref o137), .unset, .unset, .unset, .unset] []) (fun _ kz => XS.astore X143.here hx rfl (hb hby at_37) rfl rfl (l' := #[.val (.long x0), .second, .val (.long x1), .second, .val (.long x2), .second, .val (.long x3), .second, .val (.int x4), .val (.int x5), .val (.int (x5 &&& (3 : Int32))), .val (.int u1), .val (.int u2), .val (.int u3), .val (.ref o137), .unset, .unset, .unset, .unset]) rfl kz) ?_
  refine own_g (mkF m 41 #[.val (.long x0), .second, .val (.long x1), .second, .val (.long x2), .second, .val (.long x3), .second, .val (.int x4), .val (.int x5), .val (.int (x5 &&& (3 : Int32))), .val (.int u1), .val (.int u2), .val (.int u3), .val (.ref o137), .unset, .unset, .unset, .unset] [(.int (x5 &&& (3 : Int32)))]) (fun _ kz => XS.iload X143.here hx rfl (hb hby at_39) rfl kz) ?_
  refine own_g (mkF m 42 #[.val (.long x0), .second, .val (.long x1), .second, .val (.long x2), .second, .val (.long x3), .second, .val (.int x4), .val (.int x5), .val (.int (x5 &&& (3 : Int32))), .val (.int u1), .val (.int u2), .val (.int u3), .val (.ref o137), .unset, .unset, .unset, .unset] [(.int (1 : Int32)), (.int (x5 &&& (3 : Int32)))]) (fun _ kz => XS.iconst X143.here hx rfl (hb hby at_41) kz) ?_
  have I0 := own_inv0 (fun _ => (0 : Int64))
  rcases own_n4 x5 with hl | hl | hl | hl
  · rw [hl]
    show own_E p e below _ (T143.setTop (mkF m 42 #[.val (.long x0), .second, .val (.long x1), .second, .val (.long x2), .second, .val (.long x3), .second, .val (.int x4), .val (.int x5), .val (.int (0 : Int32)), .val (.int u1), .val (.int u2), .val (.int u3), .val (.ref o137), .unset, .unset, .unset, .unset] [(.int (1 : Int32)), (.int (0 : Int32))]))
    have G0 : ∀ x : Int64, (fun _ => (-1 : Int32)) (own_at (fun _ => (0 : Int64)) (fun _ => (-1 : Int32)) x) = -1 := fun _ => rfl
    refine own_g (mkF m 54 #[.val (.long x0), .second, .val (.long x1), .second, .val (.long x2), .second, .val (.long x3), .second, .val (.int x4), .val (.int x5), .val (.int (0 : Int32)), .val (.int u1), .val (.int u2), .val (.int u3), .val (.ref o137), .unset, .unset, .unset, .unset] []) (fun _ kz => XS.icmpYes X143.here hx rfl (pc0 := 42) (pc' := 54) rfl (hb hby at_42) rfl (tlt (by decide)).1 (by decide) (by decide) kz) ?_
    refine own_g (mkF m 56 #[.val (.long x0), .second, .val (.long x1), .second, .val (.long x2), .second, .val (.long x3), .second, .val (.int x4), .val (.int x5), .val (.int (0 : Int32)), .val (.int u1), .val (.int u2), .val (.int u3), .val (.ref o137), .unset, .unset, .unset, .unset] [(.int (0 : Int32))]) (fun _ kz => XS.iload X143.here hx rfl (hb hby at_54) rfl kz) ?_
    refine own_g (mkF m 57 #[.val (.long x0), .second, .val (.long x1), .second, .val (.long x2), .second, .val (.long x3), .second, .val (.int x4), .val (.int x5), .val (.int (0 : Int32)), .val (.int u1), .val (.int u2), .val (.int u3), .val (.ref o137), .unset, .unset, .unset, .unset] [(.int (2 : Int32)), (.int (0 : Int32))]) (fun _ kz => XS.iconst X143.here hx rfl (hb hby at_56) kz) ?_
    refine own_g (mkF m 69 #[.val (.long x0), .second, .val (.long x1), .second, .val (.long x2), .second, .val (.long x3), .second, .val (.int x4), .val (.int x5), .val (.int (0 : Int32)), .val (.int u1), .val (.int u2), .val (.int u3), .val (.ref o137), .unset, .unset, .unset, .unset] []) (fun _ kz => XS.icmpYes X143.here hx rfl (pc0 := 57) (pc' := 69) rfl (hb hby at_57) rfl (tlt (by decide)).1 (by decide) (by decide) kz) ?_
    refine own_g (mkF m 71 #[.val (.long x0), .second, .val (.long x1), .second, .val (.long x2), .second, .val (.long x3), .second, .val (.int x4), .val (.int x5), .val (.int (0 : Int32)), .val (.int u1), .val (.int u2), .val (.int u3), .val (.ref o137), .unset, .unset, .unset, .unset] [(.int (0 : Int32))]) (fun _ kz => XS.iload X143.here hx rfl (hb hby at_69) rfl kz) ?_
    refine own_g (mkF m 72 #[.val (.long x0), .second, .val (.long x1), .second, .val (.long x2), .second, .val (.long x3), .second, .val (.int x4), .val (.int x5), .val (.int (0 : Int32)), .val (.int u1), .val (.int u2), .val (.int u3), .val (.ref o137), .unset, .unset, .unset, .unset] [(.int (3 : Int32)), (.int (0 : Int32))]) (fun _ kz => XS.iconst X143.here hx rfl (hb hby at_71) kz) ?_
    refine own_g (mkF m 85 #[.val (.long x0), .second, .val (.long x1), .second, .val (.long x2), .second, .val (.long x3), .second, .val (.int x4), .val (.int x5), .val (.int (0 : Int32)), .val (.int u1), .val (.int u2), .val (.int u3), .val (.ref o137), .unset, .unset, .unset, .unset] []) (fun _ kz => XS.icmpYes X143.here hx rfl (pc0 := 72) (pc' := 85) rfl (hb hby at_72) rfl (tlt (by decide)).1 (by decide) (by decide) kz) ?_
    refine own_g (mkF m 87 #[.val (.long x0), .second, .val (.long x1), .second, .val (.long x2), .second, .val (.long x3), .second, .val (.int x4), .val (.int x5), .val (.int (0 : Int32)), .val (.int u1), .val (.int u2), .val (.int u3), .val (.ref o137), .unset, .unset, .unset, .unset] [(.ref o137)]) (fun _ kz => XS.aload X143.here hx rfl (hb hby at_85) rfl rfl kz) ?_
    refine own_g (mkF m 88 #[.val (.long x0), .second, .val (.long x1), .second, .val (.long x2), .second, .val (.long x3), .second, .val (.int x4), .val (.int x5), .val (.int (0 : Int32)), .val (.int u1), .val (.int u2), .val (.int u3), .val (.ref o137), .unset, .unset, .unset, .unset] [(.long x0), (.ref o137)]) (fun _ kz => XS.lloadN X143.here hx rfl (hb hby at_87) rfl kz) ?_
    have hget : ∀ x, (fun _ => (-1 : Int32)) (own_at (fun _ => (0 : Int64)) (fun _ => (-1 : Int32)) x) = own_exp x 0 x0 u1 x1 u2 x2 u3 := by
      intro x
      exact own_y0 (g0 := fun x => (fun _ => (-1 : Int32)) (own_at (fun _ => (0 : Int64)) (fun _ => (-1 : Int32)) x))  G0 x
    refine own_callV (rest := []) (a := o137) (as := [(.long x0)]) X143 hx hZ hown rfl (own_c_get l Z a0 hw o137 ob oc (fun _ => (0 : Int64)) (fun _ => (-1 : Int32)) x0 T143.heap (own_stop I0 (by decide) _) Fk143 Fv143 Ak143 Av143) f144 (own_w hw 23 rfl) (own_w hw 24 rfl) (own_w hw 26 rfl) (own_w hw 25 rfl) (own_w hw 3 rfl) (own_w hw 27 rfl) (by decide) own_pd4 rfl (by rw [hml]; rfl) rfl (hb hby at_88) 0 (by show 2 * 0 + _ ≤ _; exact Nat.le_of_eq rfl) (by decide) (by decide) (by decide) (by decide) ?_
    rintro _ T149 L149 X149 ⟨rfl, rfl, e149⟩
    have N149 := Fr.app N143 (Fr.nil n0)
    show own_E p e below _ (T149.setTop (mkF m 91 #[.val (.long x0), .second, .val (.long x1), .second, .val (.long x2), .second, .val (.long x3), .second, .val (.int x4), .val (.int x5), .val (.int (0 : Int32)), .val (.int u1), .val (.int u2), .val (.int u3), .val (.ref o137), .unset, .unset, .unset, .unset] [(.int ((fun _ => (-1 : Int32)) (own_at (fun _ => (0 : Int64)) (fun _ => (-1 : Int32)) x0)))]))
    refine own_g (mkF m 92 #[.val (.long x0), .second, .val (.long x1), .second, .val (.long x2), .second, .val (.long x3), .second, .val (.int x4), .val (.int x5), .val (.int (0 : Int32)), .val (.int u1), .val (.int u2), .val (.int u3), .val (.ref o137), .unset, .unset, .unset, .unset] [(.long x0), (.int ((fun _ => (-1 : Int32)) (own_at (fun _ => (0 : Int64)) (fun _ => (-1 : Int32)) x0)))]) (fun _ kz => XS.lloadN X149.here hx rfl (hb hby at_91) rfl kz) ?_
    refine own_g (mkF m 94 #[.val (.long x0), .second, .val (.long x1), .second, .val (.long x2), .second, .val (.long x3), .second, .val (.int x4), .val (.int x5), .val (.int (0 : Int32)), .val (.int u1), .val (.int u2), .val (.int u3), .val (.ref o137), .unset, .unset, .unset, .unset] [(.int (0 : Int32)), (.long x0), (.int ((fun _ => (-1 : Int32)) (own_at (fun _ => (0 : Int64)) (fun _ => (-1 : Int32)) x0)))]) (fun _ kz => XS.iload X149.here hx rfl (hb hby at_92) rfl kz) ?_
    refine own_g (mkF m 95 #[.val (.long x0), .second, .val (.long x1), .second, .val (.long x2), .second, .val (.long x3), .second, .val (.int x4), .val (.int x5), .val (.int (0 : Int32)), .val (.int u1), .val (.int u2), .val (.int u3), .val (.ref o137), .unset, .unset, .unset, .unset] [(.long x0), (.int (0 : Int32)), (.long x0), (.int ((fun _ => (-1 : Int32)) (own_at (fun _ => (0 : Int64)) (fun _ => (-1 : Int32)) x0)))]) (fun _ kz => XS.lloadN X149.here hx rfl (hb hby at_94) rfl kz) ?_
    refine own_g (mkF m 97 #[.val (.long x0), .second, .val (.long x1), .second, .val (.long x2), .second, .val (.long x3), .second, .val (.int x4), .val (.int x5), .val (.int (0 : Int32)), .val (.int u1), .val (.int u2), .val (.int u3), .val (.ref o137), .unset, .unset, .unset, .unset] [(.int u1), (.long x0), (.int (0 : Int32)), (.long x0), (.int ((fun _ => (-1 : Int32)) (own_at (fun _ => (0 : Int64)) (fun _ => (-1 : Int32)) x0)))]) (fun _ kz => XS.iload X149.here hx rfl (hb hby at_95) rfl kz) ?_
    refine own_g (mkF m 98 #[.val (.long x0), .second, .val (.long x1), .second, .val (.long x2), .second, .val (.long x3), .second, .val (.int x4), .val (.int x5), .val (.int (0 : Int32)), .val (.int u1), .val (.int u2), .val (.int u3), .val (.ref o137), .unset, .unset, .unset, .unset] [(.long x1), (.int u1), (.long x0), (.int (0 : Int32)), (.long x0), (.int ((fun _ => (-1 : Int32)) (own_at (fun _ => (0 : Int64)) (fun _ => (-1 : Int32)) x0)))]) (fun _ kz => XS.lloadN X149.here hx rfl (hb hby at_97) rfl kz) ?_
    refine own_g (mkF m 100 #[.val (.long x0), .second, .val (.long x1), .second, .val (.long x2), .second, .val (.long x3), .second, .val (.int x4), .val (.int x5), .val (.int (0 : Int32)), .val (.int u1), .val (.int u2), .val (.int u3), .val (.ref o137), .unset, .unset, .unset, .unset] [(.int u2), (.long x1), (.int u1), (.long x0), (.int (0 : Int32)), (.long x0), (.int ((fun _ => (-1 : Int32)) (own_at (fun _ => (0 : Int64)) (fun _ => (-1 : Int32)) x0)))]) (fun _ kz => XS.iload X149.here hx rfl (hb hby at_98) rfl kz) ?_
    refine own_g (mkF m 102 #[.val (.long x0), .second, .val (.long x1), .second, .val (.long x2), .second, .val (.long x3), .second, .val (.int x4), .val (.int x5), .val (.int (0 : Int32)), .val (.int u1), .val (.int u2), .val (.int u3), .val (.ref o137), .unset, .unset, .unset, .unset] [(.long x2), (.int u2), (.long x1), (.int u1), (.long x0), (.int (0 : Int32)), (.long x0), (.int ((fun _ => (-1 : Int32)) (own_at (fun _ => (0 : Int64)) (fun _ => (-1 : Int32)) x0)))]) (fun _ kz => XS.lload X149.here hx rfl (hb hby at_100) rfl kz) ?_
    refine own_g (mkF m 104 #[.val (.long x0), .second, .val (.long x1), .second, .val (.long x2), .second, .val (.long x3), .second, .val (.int x4), .val (.int x5), .val (.int (0 : Int32)), .val (.int u1), .val (.int u2), .val (.int u3), .val (.ref o137), .unset, .unset, .unset, .unset] [(.int u3), (.long x2), (.int u2), (.long x1), (.int u1), (.long x0), (.int (0 : Int32)), (.long x0), (.int ((fun _ => (-1 : Int32)) (own_at (fun _ => (0 : Int64)) (fun _ => (-1 : Int32)) x0)))]) (fun _ kz => XS.iload X149.here hx rfl (hb hby at_102) rfl kz) ?_
    refine own_callS (rest := [(.int ((fun _ => (-1 : Int32)) (own_at (fun _ => (0 : Int64)) (fun _ => (-1 : Int32)) x0)))]) (as := [(.long x0), (.int (0 : Int32)), (.long x0), (.int u1), (.long x1), (.int u2), (.long x2), (.int u3)]) X149 hx hZ hown e149 (own_c_exp l Z a0 hw x0 (0 : Int32) x0 u1 x1 u2 x2 u3 T143.heap) (own_w hw 32 rfl) (own_w hw 33 rfl) (own_w hw 34 rfl) (own_w hw 35 rfl) (by decide) own_pd5 rfl (by rw [hml]; rfl) rfl (hb hby at_104) 1 (by show 2 * 0 + _ ≤ _; exact Nat.le_of_eq rfl) (by decide) (by decide) (by decide) (by decide) ?_
    rintro _ T150 L150 X150 ⟨rfl, rfl, e150⟩
    have N150 := Fr.app N149 (Fr.nil n0)
    show own_E p e below _ (T150.setTop (mkF m 107 #[.val (.long x0), .second, .val (.long x1), .second, .val (.long x2), .second, .val (.long x3), .second, .val (.int x4), .val (.int x5), .val (.int (0 : Int32)), .val (.int u1), .val (.int u2), .val (.int u3), .val (.ref o137), .unset, .unset, .unset, .unset] [(.int (own_exp x0 (0 : Int32) x0 u1 x1 u2 x2 u3)), (.int ((fun _ => (-1 : Int32)) (own_at (fun _ => (0 : Int64)) (fun _ => (-1 : Int32)) x0)))]))
    refine own_g (mkF m 110 #[.val (.long x0), .second, .val (.long x1), .second, .val (.long x2), .second, .val (.long x3), .second, .val (.int x4), .val (.int x5), .val (.int (0 : Int32)), .val (.int u1), .val (.int u2), .val (.int u3), .val (.ref o137), .unset, .unset, .unset, .unset] []) (fun _ kz => XS.icmpNo X150.here hx rfl (hb hby at_107) rfl (teq (hget _)).2 kz) ?_
    refine own_g (mkF m 111 #[.val (.long x0), .second, .val (.long x1), .second, .val (.long x2), .second, .val (.long x3), .second, .val (.int x4), .val (.int x5), .val (.int (0 : Int32)), .val (.int u1), .val (.int u2), .val (.int u3), .val (.ref o137), .unset, .unset, .unset, .unset] [(.int (1 : Int32))]) (fun _ kz => XS.iconst X150.here hx rfl (hb hby at_110) kz) ?_
    refine own_g (mkF m 115 #[.val (.long x0), .second, .val (.long x1), .second, .val (.long x2), .second, .val (.long x3), .second, .val (.int x4), .val (.int x5), .val (.int (0 : Int32)), .val (.int u1), .val (.int u2), .val (.int u3), .val (.ref o137), .unset, .unset, .unset, .unset] [(.int (1 : Int32))]) (fun _ kz => XS.goto X150.here hx rfl (pc0 := 111) (pc' := 115) rfl (hb hby at_111) (by decide) (by decide) kz) ?_
    refine own_g (mkF m 117 #[.val (.long x0), .second, .val (.long x1), .second, .val (.long x2), .second, .val (.long x3), .second, .val (.int x4), .val (.int x5), .val (.int (0 : Int32)), .val (.int u1), .val (.int u2), .val (.int u3), .val (.ref o137), .val (.int (1 : Int32)), .unset, .unset, .unset] []) (fun _ kz => XS.istore X150.here hx rfl (hb hby at_115) rfl (l' := #[.val (.long x0), .second, .val (.long x1), .second, .val (.long x2), .second, .val (.long x3), .second, .val (.int x4), .val (.int x5), .val (.int (0 : Int32)), .val (.int u1), .val (.int u2), .val (.int u3), .val (.ref o137), .val (.int (1 : Int32)), .unset, .unset, .unset]) rfl kz) ?_
    refine own_g (mkF m 119 #[.val (.long x0), .second, .val (.long x1), .second, .val (.long x2), .second, .val (.long x3), .second, .val (.int x4), .val (.int x5), .val (.int (0 : Int32)), .val (.int u1), .val (.int u2), .val (.int u3), .val (.ref o137), .val (.int (1 : Int32)), .unset, .unset, .unset] [(.ref o137)]) (fun _ kz => XS.aload X150.here hx rfl (hb hby at_117) rfl rfl kz) ?_
    refine own_g (mkF m 120 #[.val (.long x0), .second, .val (.long x1), .second, .val (.long x2), .second, .val (.long x3), .second, .val (.int x4), .val (.int x5), .val (.int (0 : Int32)), .val (.int u1), .val (.int u2), .val (.int u3), .val (.ref o137), .val (.int (1 : Int32)), .unset, .unset, .unset] [(.long x1), (.ref o137)]) (fun _ kz => XS.lloadN X150.here hx rfl (hb hby at_119) rfl kz) ?_
    refine own_callV (rest := []) (a := o137) (as := [(.long x1)]) X150 hx hZ hown e150 (own_c_get l Z a0 hw o137 ob oc (fun _ => (0 : Int64)) (fun _ => (-1 : Int32)) x1 T143.heap (own_stop I0 (by decide) _) Fk143 Fv143 Ak143 Av143) f144 (own_w hw 23 rfl) (own_w hw 24 rfl) (own_w hw 26 rfl) (own_w hw 25 rfl) (own_w hw 3 rfl) (own_w hw 27 rfl) (by decide) own_pd4 rfl (by rw [hml]; rfl) rfl (hb hby at_120) 0 (by show 2 * 0 + _ ≤ _; exact Nat.le_of_eq rfl) (by decide) (by decide) (by decide) (by decide) ?_
    rintro _ T151 L151 X151 ⟨rfl, rfl, e151⟩
    have N151 := Fr.app N150 (Fr.nil n0)
    show own_E p e below _ (T151.setTop (mkF m 123 #[.val (.long x0), .second, .val (.long x1), .second, .val (.long x2), .second, .val (.long x3), .second, .val (.int x4), .val (.int x5), .val (.int (0 : Int32)), .val (.int u1), .val (.int u2), .val (.int u3), .val (.ref o137), .val (.int (1 : Int32)), .unset, .unset, .unset] [(.int ((fun _ => (-1 : Int32)) (own_at (fun _ => (0 : Int64)) (fun _ => (-1 : Int32)) x1)))]))
    refine own_g (mkF m 124 #[.val (.long x0), .second, .val (.long x1), .second, .val (.long x2), .second, .val (.long x3), .second, .val (.int x4), .val (.int x5), .val (.int (0 : Int32)), .val (.int u1), .val (.int u2), .val (.int u3), .val (.ref o137), .val (.int (1 : Int32)), .unset, .unset, .unset] [(.long x1), (.int ((fun _ => (-1 : Int32)) (own_at (fun _ => (0 : Int64)) (fun _ => (-1 : Int32)) x1)))]) (fun _ kz => XS.lloadN X151.here hx rfl (hb hby at_123) rfl kz) ?_
    refine own_g (mkF m 126 #[.val (.long x0), .second, .val (.long x1), .second, .val (.long x2), .second, .val (.long x3), .second, .val (.int x4), .val (.int x5), .val (.int (0 : Int32)), .val (.int u1), .val (.int u2), .val (.int u3), .val (.ref o137), .val (.int (1 : Int32)), .unset, .unset, .unset] [(.int (0 : Int32)), (.long x1), (.int ((fun _ => (-1 : Int32)) (own_at (fun _ => (0 : Int64)) (fun _ => (-1 : Int32)) x1)))]) (fun _ kz => XS.iload X151.here hx rfl (hb hby at_124) rfl kz) ?_
    refine own_g (mkF m 127 #[.val (.long x0), .second, .val (.long x1), .second, .val (.long x2), .second, .val (.long x3), .second, .val (.int x4), .val (.int x5), .val (.int (0 : Int32)), .val (.int u1), .val (.int u2), .val (.int u3), .val (.ref o137), .val (.int (1 : Int32)), .unset, .unset, .unset] [(.long x0), (.int (0 : Int32)), (.long x1), (.int ((fun _ => (-1 : Int32)) (own_at (fun _ => (0 : Int64)) (fun _ => (-1 : Int32)) x1)))]) (fun _ kz => XS.lloadN X151.here hx rfl (hb hby at_126) rfl kz) ?_
    refine own_g (mkF m 129 #[.val (.long x0), .second, .val (.long x1), .second, .val (.long x2), .second, .val (.long x3), .second, .val (.int x4), .val (.int x5), .val (.int (0 : Int32)), .val (.int u1), .val (.int u2), .val (.int u3), .val (.ref o137), .val (.int (1 : Int32)), .unset, .unset, .unset] [(.int u1), (.long x0), (.int (0 : Int32)), (.long x1), (.int ((fun _ => (-1 : Int32)) (own_at (fun _ => (0 : Int64)) (fun _ => (-1 : Int32)) x1)))]) (fun _ kz => XS.iload X151.here hx rfl (hb hby at_127) rfl kz) ?_
    refine own_g (mkF m 130 #[.val (.long x0), .second, .val (.long x1), .second, .val (.long x2), .second, .val (.long x3), .second, .val (.int x4), .val (.int x5), .val (.int (0 : Int32)), .val (.int u1), .val (.int u2), .val (.int u3), .val (.ref o137), .val (.int (1 : Int32)), .unset, .unset, .unset] [(.long x1), (.int u1), (.long x0), (.int (0 : Int32)), (.long x1), (.int ((fun _ => (-1 : Int32)) (own_at (fun _ => (0 : Int64)) (fun _ => (-1 : Int32)) x1)))]) (fun _ kz => XS.lloadN X151.here hx rfl (hb hby at_129) rfl kz) ?_
    refine own_g (mkF m 132 #[.val (.long x0), .second, .val (.long x1), .second, .val (.long x2), .second, .val (.long x3), .second, .val (.int x4), .val (.int x5), .val (.int (0 : Int32)), .val (.int u1), .val (.int u2), .val (.int u3), .val (.ref o137), .val (.int (1 : Int32)), .unset, .unset, .unset] [(.int u2), (.long x1), (.int u1), (.long x0), (.int (0 : Int32)), (.long x1), (.int ((fun _ => (-1 : Int32)) (own_at (fun _ => (0 : Int64)) (fun _ => (-1 : Int32)) x1)))]) (fun _ kz => XS.iload X151.here hx rfl (hb hby at_130) rfl kz) ?_
    refine own_g (mkF m 134 #[.val (.long x0), .second, .val (.long x1), .second, .val (.long x2), .second, .val (.long x3), .second, .val (.int x4), .val (.int x5), .val (.int (0 : Int32)), .val (.int u1), .val (.int u2), .val (.int u3), .val (.ref o137), .val (.int (1 : Int32)), .unset, .unset, .unset] [(.long x2), (.int u2), (.long x1), (.int u1), (.long x0), (.int (0 : Int32)), (.long x1), (.int ((fun _ => (-1 : Int32)) (own_at (fun _ => (0 : Int64)) (fun _ => (-1 : Int32)) x1)))]) (fun _ kz => XS.lload X151.here hx rfl (hb hby at_132) rfl kz) ?_
    refine own_g (mkF m 136 #[.val (.long x0), .second, .val (.long x1), .second, .val (.long x2), .second, .val (.long x3), .second, .val (.int x4), .val (.int x5), .val (.int (0 : Int32)), .val (.int u1), .val (.int u2), .val (.int u3), .val (.ref o137), .val (.int (1 : Int32)), .unset, .unset, .unset] [(.int u3), (.long x2), (.int u2), (.long x1), (.int u1), (.long x0), (.int (0 : Int32)), (.long x1), (.int ((fun _ => (-1 : Int32)) (own_at (fun _ => (0 : Int64)) (fun _ => (-1 : Int32)) x1)))]) (fun _ kz => XS.iload X151.here hx rfl (hb hby at_134) rfl kz) ?_
    refine own_callS (rest := [(.int ((fun _ => (-1 : Int32)) (own_at (fun _ => (0 : Int64)) (fun _ => (-1 : Int32)) x1)))]) (as := [(.long x1), (.int (0 : Int32)), (.long x0), (.int u1), (.long x1), (.int u2), (.long x2), (.int u3)]) X151 hx hZ hown e151 (own_c_exp l Z a0 hw x1 (0 : Int32) x0 u1 x1 u2 x2 u3 T143.heap) (own_w hw 32 rfl) (own_w hw 33 rfl) (own_w hw 34 rfl) (own_w hw 35 rfl) (by decide) own_pd5 rfl (by rw [hml]; rfl) rfl (hb hby at_136) 1 (by show 2 * 0 + _ ≤ _; exact Nat.le_of_eq rfl) (by decide) (by decide) (by decide) (by decide) ?_
    rintro _ T152 L152 X152 ⟨rfl, rfl, e152⟩
    have N152 := Fr.app N151 (Fr.nil n0)
    show own_E p e below _ (T152.setTop (mkF m 139 #[.val (.long x0), .second, .val (.long x1), .second, .val (.long x2), .second, .val (.long x3), .second, .val (.int x4), .val (.int x5), .val (.int (0 : Int32)), .val (.int u1), .val (.int u2), .val (.int u3), .val (.ref o137), .val (.int (1 : Int32)), .unset, .unset, .unset] [(.int (own_exp x1 (0 : Int32) x0 u1 x1 u2 x2 u3)), (.int ((fun _ => (-1 : Int32)) (own_at (fun _ => (0 : Int64)) (fun _ => (-1 : Int32)) x1)))]))
    refine own_g (mkF m 142 #[.val (.long x0), .second, .val (.long x1), .second, .val (.long x2), .second, .val (.long x3), .second, .val (.int x4), .val (.int x5), .val (.int (0 : Int32)), .val (.int u1), .val (.int u2), .val (.int u3), .val (.ref o137), .val (.int (1 : Int32)), .unset, .unset, .unset] []) (fun _ kz => XS.icmpNo X152.here hx rfl (hb hby at_139) rfl (teq (hget _)).2 kz) ?_
    refine own_g (mkF m 143 #[.val (.long x0), .second, .val (.long x1), .second, .val (.long x2), .second, .val (.long x3), .second, .val (.int x4), .val (.int x5), .val (.int (0 : Int32)), .val (.int u1), .val (.int u2), .val (.int u3), .val (.ref o137), .val (.int (1 : Int32)), .unset, .unset, .unset] [(.int (1 : Int32))]) (fun _ kz => XS.iconst X152.here hx rfl (hb hby at_142) kz) ?_
    refine own_g (mkF m 147 #[.val (.long x0), .second, .val (.long x1), .second, .val (.long x2), .second, .val (.long x3), .second, .val (.int x4), .val (.int x5), .val (.int (0 : Int32)), .val (.int u1), .val (.int u2), .val (.int u3), .val (.ref o137), .val (.int (1 : Int32)), .unset, .unset, .unset] [(.int (1 : Int32))]) (fun _ kz => XS.goto X152.here hx rfl (pc0 := 143) (pc' := 147) rfl (hb hby at_143) (by decide) (by decide) kz) ?_
    refine own_g (mkF m 149 #[.val (.long x0), .second, .val (.long x1), .second, .val (.long x2), .second, .val (.long x3), .second, .val (.int x4), .val (.int x5), .val (.int (0 : Int32)), .val (.int u1), .val (.int u2), .val (.int u3), .val (.ref o137), .val (.int (1 : Int32)), .val (.int (1 : Int32)), .unset, .unset] []) (fun _ kz => XS.istore X152.here hx rfl (hb hby at_147) rfl (l' := #[.val (.long x0), .second, .val (.long x1), .second, .val (.long x2), .second, .val (.long x3), .second, .val (.int x4), .val (.int x5), .val (.int (0 : Int32)), .val (.int u1), .val (.int u2), .val (.int u3), .val (.ref o137), .val (.int (1 : Int32)), .val (.int (1 : Int32)), .unset, .unset]) rfl kz) ?_
    refine own_g (mkF m 151 #[.val (.long x0), .second, .val (.long x1), .second, .val (.long x2), .second, .val (.long x3), .second, .val (.int x4), .val (.int x5), .val (.int (0 : Int32)), .val (.int u1), .val (.int u2), .val (.int u3), .val (.ref o137), .val (.int (1 : Int32)), .val (.int (1 : Int32)), .unset, .unset] [(.ref o137)]) (fun _ kz => XS.aload X152.here hx rfl (hb hby at_149) rfl rfl kz) ?_
    refine own_g (mkF m 153 #[.val (.long x0), .second, .val (.long x1), .second, .val (.long x2), .second, .val (.long x3), .second, .val (.int x4), .val (.int x5), .val (.int (0 : Int32)), .val (.int u1), .val (.int u2), .val (.int u3), .val (.ref o137), .val (.int (1 : Int32)), .val (.int (1 : Int32)), .unset, .unset] [(.long x2), (.ref o137)]) (fun _ kz => XS.lload X152.here hx rfl (hb hby at_151) rfl kz) ?_
    refine own_callV (rest := []) (a := o137) (as := [(.long x2)]) X152 hx hZ hown e152 (own_c_get l Z a0 hw o137 ob oc (fun _ => (0 : Int64)) (fun _ => (-1 : Int32)) x2 T143.heap (own_stop I0 (by decide) _) Fk143 Fv143 Ak143 Av143) f144 (own_w hw 23 rfl) (own_w hw 24 rfl) (own_w hw 26 rfl) (own_w hw 25 rfl) (own_w hw 3 rfl) (own_w hw 27 rfl) (by decide) own_pd4 rfl (by rw [hml]; rfl) rfl (hb hby at_153) 0 (by show 2 * 0 + _ ≤ _; exact Nat.le_of_eq rfl) (by decide) (by decide) (by decide) (by decide) ?_
    rintro _ T153 L153 X153 ⟨rfl, rfl, e153⟩
    have N153 := Fr.app N152 (Fr.nil n0)
    show own_E p e below _ (T153.setTop (mkF m 156 #[.val (.long x0), .second, .val (.long x1), .second, .val (.long x2), .second, .val (.long x3), .second, .val (.int x4), .val (.int x5), .val (.int (0 : Int32)), .val (.int u1), .val (.int u2), .val (.int u3), .val (.ref o137), .val (.int (1 : Int32)), .val (.int (1 : Int32)), .unset, .unset] [(.int ((fun _ => (-1 : Int32)) (own_at (fun _ => (0 : Int64)) (fun _ => (-1 : Int32)) x2)))]))
    refine own_g (mkF m 158 #[.val (.long x0), .second, .val (.long x1), .second, .val (.long x2), .second, .val (.long x3), .second, .val (.int x4), .val (.int x5), .val (.int (0 : Int32)), .val (.int u1), .val (.int u2), .val (.int u3), .val (.ref o137), .val (.int (1 : Int32)), .val (.int (1 : Int32)), .unset, .unset] [(.long x2), (.int ((fun _ => (-1 : Int32)) (own_at (fun _ => (0 : Int64)) (fun _ => (-1 : Int32)) x2)))]) (fun _ kz => XS.lload X153.here hx rfl (hb hby at_156) rfl kz) ?_
    refine own_g (mkF m 160 #[.val (.long x0), .second, .val (.long x1), .second, .val (.long x2), .second, .val (.long x3), .second, .val (.int x4), .val (.int x5), .val (.int (0 : Int32)), .val (.int u1), .val (.int u2), .val (.int u3), .val (.ref o137), .val (.int (1 : Int32)), .val (.int (1 : Int32)), .unset, .unset] [(.int (0 : Int32)), (.long x2), (.int ((fun _ => (-1 : Int32)) (own_at (fun _ => (0 : Int64)) (fun _ => (-1 : Int32)) x2)))]) (fun _ kz => XS.iload X153.here hx rfl (hb hby at_158) rfl kz) ?_
    refine own_g (mkF m 161 #[.val (.long x0), .second, .val (.long x1), .second, .val (.long x2), .second, .val (.long x3), .second, .val (.int x4), .val (.int x5), .val (.int (0 : Int32)), .val (.int u1), .val (.int u2), .val (.int u3), .val (.ref o137), .val (.int (1 : Int32)), .val (.int (1 : Int32)), .unset, .unset] [(.long x0), (.int (0 : Int32)), (.long x2), (.int ((fun _ => (-1 : Int32)) (own_at (fun _ => (0 : Int64)) (fun _ => (-1 : Int32)) x2)))]) (fun _ kz => XS.lloadN X153.here hx rfl (hb hby at_160) rfl kz) ?_
    refine own_g (mkF m 163 #[.val (.long x0), .second, .val (.long x1), .second, .val (.long x2), .second, .val (.long x3), .second, .val (.int x4), .val (.int x5), .val (.int (0 : Int32)), .val (.int u1), .val (.int u2), .val (.int u3), .val (.ref o137), .val (.int (1 : Int32)), .val (.int (1 : Int32)), .unset, .unset] [(.int u1), (.long x0), (.int (0 : Int32)), (.long x2), (.int ((fun _ => (-1 : Int32)) (own_at (fun _ => (0 : Int64)) (fun _ => (-1 : Int32)) x2)))]) (fun _ kz => XS.iload X153.here hx rfl (hb hby at_161) rfl kz) ?_
    refine own_g (mkF m 164 #[.val (.long x0), .second, .val (.long x1), .second, .val (.long x2), .second, .val (.long x3), .second, .val (.int x4), .val (.int x5), .val (.int (0 : Int32)), .val (.int u1), .val (.int u2), .val (.int u3), .val (.ref o137), .val (.int (1 : Int32)), .val (.int (1 : Int32)), .unset, .unset] [(.long x1), (.int u1), (.long x0), (.int (0 : Int32)), (.long x2), (.int ((fun _ => (-1 : Int32)) (own_at (fun _ => (0 : Int64)) (fun _ => (-1 : Int32)) x2)))]) (fun _ kz => XS.lloadN X153.here hx rfl (hb hby at_163) rfl kz) ?_
    refine own_g (mkF m 166 #[.val (.long x0), .second, .val (.long x1), .second, .val (.long x2), .second, .val (.long x3), .second, .val (.int x4), .val (.int x5), .val (.int (0 : Int32)), .val (.int u1), .val (.int u2), .val (.int u3), .val (.ref o137), .val (.int (1 : Int32)), .val (.int (1 : Int32)), .unset, .unset] [(.int u2), (.long x1), (.int u1), (.long x0), (.int (0 : Int32)), (.long x2), (.int ((fun _ => (-1 : Int32)) (own_at (fun _ => (0 : Int64)) (fun _ => (-1 : Int32)) x2)))]) (fun _ kz => XS.iload X153.here hx rfl (hb hby at_164) rfl kz) ?_
    refine own_g (mkF m 168 #[.val (.long x0), .second, .val (.long x1), .second, .val (.long x2), .second, .val (.long x3), .second, .val (.int x4), .val (.int x5), .val (.int (0 : Int32)), .val (.int u1), .val (.int u2), .val (.int u3), .val (.ref o137), .val (.int (1 : Int32)), .val (.int (1 : Int32)), .unset, .unset] [(.long x2), (.int u2), (.long x1), (.int u1), (.long x0), (.int (0 : Int32)), (.long x2), (.int ((fun _ => (-1 : Int32)) (own_at (fun _ => (0 : Int64)) (fun _ => (-1 : Int32)) x2)))]) (fun _ kz => XS.lload X153.here hx rfl (hb hby at_166) rfl kz) ?_
    refine own_g (mkF m 170 #[.val (.long x0), .second, .val (.long x1), .second, .val (.long x2), .second, .val (.long x3), .second, .val (.int x4), .val (.int x5), .val (.int (0 : Int32)), .val (.int u1), .val (.int u2), .val (.int u3), .val (.ref o137), .val (.int (1 : Int32)), .val (.int (1 : Int32)), .unset, .unset] [(.int u3), (.long x2), (.int u2), (.long x1), (.int u1), (.long x0), (.int (0 : Int32)), (.long x2), (.int ((fun _ => (-1 : Int32)) (own_at (fun _ => (0 : Int64)) (fun _ => (-1 : Int32)) x2)))]) (fun _ kz => XS.iload X153.here hx rfl (hb hby at_168) rfl kz) ?_
    refine own_callS (rest := [(.int ((fun _ => (-1 : Int32)) (own_at (fun _ => (0 : Int64)) (fun _ => (-1 : Int32)) x2)))]) (as := [(.long x2), (.int (0 : Int32)), (.long x0), (.int u1), (.long x1), (.int u2), (.long x2), (.int u3)]) X153 hx hZ hown e153 (own_c_exp l Z a0 hw x2 (0 : Int32) x0 u1 x1 u2 x2 u3 T143.heap) (own_w hw 32 rfl) (own_w hw 33 rfl) (own_w hw 34 rfl) (own_w hw 35 rfl) (by decide) own_pd5 rfl (by rw [hml]; rfl) rfl (hb hby at_170) 1 (by show 2 * 0 + _ ≤ _; exact Nat.le_of_eq rfl) (by decide) (by decide) (by decide) (by decide) ?_
    rintro _ T154 L154 X154 ⟨rfl, rfl, e154⟩
    have N154 := Fr.app N153 (Fr.nil n0)
    show own_E p e below _ (T154.setTop (mkF m 173 #[.val (.long x0), .second, .val (.long x1), .second, .val (.long x2), .second, .val (.long x3), .second, .val (.int x4), .val (.int x5), .val (.int (0 : Int32)), .val (.int u1), .val (.int u2), .val (.int u3), .val (.ref o137), .val (.int (1 : Int32)), .val (.int (1 : Int32)), .unset, .unset] [(.int (own_exp x2 (0 : Int32) x0 u1 x1 u2 x2 u3)), (.int ((fun _ => (-1 : Int32)) (own_at (fun _ => (0 : Int64)) (fun _ => (-1 : Int32)) x2)))]))
    refine own_g (mkF m 176 #[.val (.long x0), .second, .val (.long x1), .second, .val (.long x2), .second, .val (.long x3), .second, .val (.int x4), .val (.int x5), .val (.int (0 : Int32)), .val (.int u1), .val (.int u2), .val (.int u3), .val (.ref o137), .val (.int (1 : Int32)), .val (.int (1 : Int32)), .unset, .unset] []) (fun _ kz => XS.icmpNo X154.here hx rfl (hb hby at_173) rfl (teq (hget _)).2 kz) ?_
    refine own_g (mkF m 177 #[.val (.long x0), .second, .val (.long x1), .second, .val (.long x2), .second, .val (.long x3), .second, .val (.int x4), .val (.int x5), .val (.int (0 : Int32)), .val (.int u1), .val (.int u2), .val (.int u3), .val (.ref o137), .val (.int (1 : Int32)), .val (.int (1 : Int32)), .unset, .unset] [(.int (1 : Int32))]) (fun _ kz => XS.iconst X154.here hx rfl (hb hby at_176) kz) ?_
    refine own_g (mkF m 181 #[.val (.long x0), .second, .val (.long x1), .second, .val (.long x2), .second, .val (.long x3), .second, .val (.int x4), .val (.int x5), .val (.int (0 : Int32)), .val (.int u1), .val (.int u2), .val (.int u3), .val (.ref o137), .val (.int (1 : Int32)), .val (.int (1 : Int32)), .unset, .unset] [(.int (1 : Int32))]) (fun _ kz => XS.goto X154.here hx rfl (pc0 := 177) (pc' := 181) rfl (hb hby at_177) (by decide) (by decide) kz) ?_
    refine own_g (mkF m 183 #[.val (.long x0), .second, .val (.long x1), .second, .val (.long x2), .second, .val (.long x3), .second, .val (.int x4), .val (.int x5), .val (.int (0 : Int32)), .val (.int u1), .val (.int u2), .val (.int u3), .val (.ref o137), .val (.int (1 : Int32)), .val (.int (1 : Int32)), .val (.int (1 : Int32)), .unset] []) (fun _ kz => XS.istore X154.here hx rfl (hb hby at_181) rfl (l' := #[.val (.long x0), .second, .val (.long x1), .second, .val (.long x2), .second, .val (.long x3), .second, .val (.int x4), .val (.int x5), .val (.int (0 : Int32)), .val (.int u1), .val (.int u2), .val (.int u3), .val (.ref o137), .val (.int (1 : Int32)), .val (.int (1 : Int32)), .val (.int (1 : Int32)), .unset]) rfl kz) ?_
    refine own_g (mkF m 185 #[.val (.long x0), .second, .val (.long x1), .second, .val (.long x2), .second, .val (.long x3), .second, .val (.int x4), .val (.int x5), .val (.int (0 : Int32)), .val (.int u1), .val (.int u2), .val (.int u3), .val (.ref o137), .val (.int (1 : Int32)), .val (.int (1 : Int32)), .val (.int (1 : Int32)), .unset] [(.ref o137)]) (fun _ kz => XS.aload X154.here hx rfl (hb hby at_183) rfl rfl kz) ?_
    refine own_g (mkF m 187 #[.val (.long x0), .second, .val (.long x1), .second, .val (.long x2), .second, .val (.long x3), .second, .val (.int x4), .val (.int x5), .val (.int (0 : Int32)), .val (.int u1), .val (.int u2), .val (.int u3), .val (.ref o137), .val (.int (1 : Int32)), .val (.int (1 : Int32)), .val (.int (1 : Int32)), .unset] [(.long x3), (.ref o137)]) (fun _ kz => XS.lload X154.here hx rfl (hb hby at_185) rfl kz) ?_
    refine own_callV (rest := []) (a := o137) (as := [(.long x3)]) X154 hx hZ hown e154 (own_c_get l Z a0 hw o137 ob oc (fun _ => (0 : Int64)) (fun _ => (-1 : Int32)) x3 T143.heap (own_stop I0 (by decide) _) Fk143 Fv143 Ak143 Av143) f144 (own_w hw 23 rfl) (own_w hw 24 rfl) (own_w hw 26 rfl) (own_w hw 25 rfl) (own_w hw 3 rfl) (own_w hw 27 rfl) (by decide) own_pd4 rfl (by rw [hml]; rfl) rfl (hb hby at_187) 0 (by show 2 * 0 + _ ≤ _; exact Nat.le_of_eq rfl) (by decide) (by decide) (by decide) (by decide) ?_
    rintro _ T155 L155 X155 ⟨rfl, rfl, e155⟩
    have N155 := Fr.app N154 (Fr.nil n0)
    show own_E p e below _ (T155.setTop (mkF m 190 #[.val (.long x0), .second, .val (.long x1), .second, .val (.long x2), .second, .val (.long x3), .second, .val (.int x4), .val (.int x5), .val (.int (0 : Int32)), .val (.int u1), .val (.int u2), .val (.int u3), .val (.ref o137), .val (.int (1 : Int32)), .val (.int (1 : Int32)), .val (.int (1 : Int32)), .unset] [(.int ((fun _ => (-1 : Int32)) (own_at (fun _ => (0 : Int64)) (fun _ => (-1 : Int32)) x3)))]))
    refine own_g (mkF m 192 #[.val (.long x0), .second, .val (.long x1), .second, .val (.long x2), .second, .val (.long x3), .second, .val (.int x4), .val (.int x5), .val (.int (0 : Int32)), .val (.int u1), .val (.int u2), .val (.int u3), .val (.ref o137), .val (.int (1 : Int32)), .val (.int (1 : Int32)), .val (.int (1 : Int32)), .unset] [(.long x3), (.int ((fun _ => (-1 : Int32)) (own_at (fun _ => (0 : Int64)) (fun _ => (-1 : Int32)) x3)))]) (fun _ kz => XS.lload X155.here hx rfl (hb hby at_190) rfl kz) ?_
    refine own_g (mkF m 194 #[.val (.long x0), .second, .val (.long x1), .second, .val (.long x2), .second, .val (.long x3), .second, .val (.int x4), .val (.int x5), .val (.int (0 : Int32)), .val (.int u1), .val (.int u2), .val (.int u3), .val (.ref o137), .val (.int (1 : Int32)), .val (.int (1 : Int32)), .val (.int (1 : Int32)), .unset] [(.int (0 : Int32)), (.long x3), (.int ((fun _ => (-1 : Int32)) (own_at (fun _ => (0 : Int64)) (fun _ => (-1 : Int32)) x3)))]) (fun _ kz => XS.iload X155.here hx rfl (hb hby at_192) rfl kz) ?_
    refine own_g (mkF m 195 #[.val (.long x0), .second, .val (.long x1), .second, .val (.long x2), .second, .val (.long x3), .second, .val (.int x4), .val (.int x5), .val (.int (0 : Int32)), .val (.int u1), .val (.int u2), .val (.int u3), .val (.ref o137), .val (.int (1 : Int32)), .val (.int (1 : Int32)), .val (.int (1 : Int32)), .unset] [(.long x0), (.int (0 : Int32)), (.long x3), (.int ((fun _ => (-1 : Int32)) (own_at (fun _ => (0 : Int64)) (fun _ => (-1 : Int32)) x3)))]) (fun _ kz => XS.lloadN X155.here hx rfl (hb hby at_194) rfl kz) ?_
    refine own_g (mkF m 197 #[.val (.long x0), .second, .val (.long x1), .second, .val (.long x2), .second, .val (.long x3), .second, .val (.int x4), .val (.int x5), .val (.int (0 : Int32)), .val (.int u1), .val (.int u2), .val (.int u3), .val (.ref o137), .val (.int (1 : Int32)), .val (.int (1 : Int32)), .val (.int (1 : Int32)), .unset] [(.int u1), (.long x0), (.int (0 : Int32)), (.long x3), (.int ((fun _ => (-1 : Int32)) (own_at (fun _ => (0 : Int64)) (fun _ => (-1 : Int32)) x3)))]) (fun _ kz => XS.iload X155.here hx rfl (hb hby at_195) rfl kz) ?_
    refine own_g (mkF m 198 #[.val (.long x0), .second, .val (.long x1), .second, .val (.long x2), .second, .val (.long x3), .second, .val (.int x4), .val (.int x5), .val (.int (0 : Int32)), .val (.int u1), .val (.int u2), .val (.int u3), .val (.ref o137), .val (.int (1 : Int32)), .val (.int (1 : Int32)), .val (.int (1 : Int32)), .unset] [(.long x1), (.int u1), (.long x0), (.int (0 : Int32)), (.long x3), (.int ((fun _ => (-1 : Int32)) (own_at (fun _ => (0 : Int64)) (fun _ => (-1 : Int32)) x3)))]) (fun _ kz => XS.lloadN X155.here hx rfl (hb hby at_197) rfl kz) ?_
    refine own_g (mkF m 200 #[.val (.long x0), .second, .val (.long x1), .second, .val (.long x2), .second, .val (.long x3), .second, .val (.int x4), .val (.int x5), .val (.int (0 : Int32)), .val (.int u1), .val (.int u2), .val (.int u3), .val (.ref o137), .val (.int (1 : Int32)), .val (.int (1 : Int32)), .val (.int (1 : Int32)), .unset] [(.int u2), (.long x1), (.int u1), (.long x0), (.int (0 : Int32)), (.long x3), (.int ((fun _ => (-1 : Int32)) (own_at (fun _ => (0 : Int64)) (fun _ => (-1 : Int32)) x3)))]) (fun _ kz => XS.iload X155.here hx rfl (hb hby at_198) rfl kz) ?_
    refine own_g (mkF m 202 #[.val (.long x0), .second, .val (.long x1), .second, .val (.long x2), .second, .val (.long x3), .second, .val (.int x4), .val (.int x5), .val (.int (0 : Int32)), .val (.int u1), .val (.int u2), .val (.int u3), .val (.ref o137), .val (.int (1 : Int32)), .val (.int (1 : Int32)), .val (.int (1 : Int32)), .unset] [(.long x2), (.int u2), (.long x1), (.int u1), (.long x0), (.int (0 : Int32)), (.long x3), (.int ((fun _ => (-1 : Int32)) (own_at (fun _ => (0 : Int64)) (fun _ => (-1 : Int32)) x3)))]) (fun _ kz => XS.lload X155.here hx rfl (hb hby at_200) rfl kz) ?_
    refine own_g (mkF m 204 #[.val (.long x0), .second, .val (.long x1), .second, .val (.long x2), .second, .val (.long x3), .second, .val (.int x4), .val (.int x5), .val (.int (0 : Int32)), .val (.int u1), .val (.int u2), .val (.int u3), .val (.ref o137), .val (.int (1 : Int32)), .val (.int (1 : Int32)), .val (.int (1 : Int32)), .unset] [(.int u3), (.long x2), (.int u2), (.long x1), (.int u1), (.long x0), (.int (0 : Int32)), (.long x3), (.int ((fun _ => (-1 : Int32)) (own_at (fun _ => (0 : Int64)) (fun _ => (-1 : Int32)) x3)))]) (fun _ kz => XS.iload X155.here hx rfl (hb hby at_202) rfl kz) ?_
    refine own_callS (rest := [(.int ((fun _ => (-1 : Int32)) (own_at (fun _ => (0 : Int64)) (fun _ => (-1 : Int32)) x3)))]) (as := [(.long x3), (.int (0 : Int32)), (.long x0), (.int u1), (.long x1), (.int u2), (.long x2), (.int u3)]) X155 hx hZ hown e155 (own_c_exp l Z a0 hw x3 (0 : Int32) x0 u1 x1 u2 x2 u3 T143.heap) (own_w hw 32 rfl) (own_w hw 33 rfl) (own_w hw 34 rfl) (own_w hw 35 rfl) (by decide) own_pd5 rfl (by rw [hml]; rfl) rfl (hb hby at_204) 1 (by show 2 * 0 + _ ≤ _; exact Nat.le_of_eq rfl) (by decide) (by decide) (by decide) (by decide) ?_
    rintro _ T156 L156 X156 ⟨rfl, rfl, e156⟩
    have N156 := Fr.app N155 (Fr.nil n0)
    show own_E p e below _ (T156.setTop (mkF m 207 #[.val (.long x0), .second, .val (.long x1), .second, .val (.long x2), .second, .val (.long x3), .second, .val (.int x4), .val (.int x5), .val (.int (0 : Int32)), .val (.int u1), .val (.int u2), .val (.int u3), .val (.ref o137), .val (.int (1 : Int32)), .val (.int (1 : Int32)), .val (.int (1 : Int32)), .unset] [(.int (own_exp x3 (0 : Int32) x0 u1 x1 u2 x2 u3)), (.int ((fun _ => (-1 : Int32)) (own_at (fun _ => (0 : Int64)) (fun _ => (-1 : Int32)) x3)))]))
    refine own_g (mkF m 210 #[.val (.long x0), .second, .val (.long x1), .second, .val (.long x2), .second, .val (.long x3), .second, .val (.int x4), .val (.int x5), .val (.int (0 : Int32)), .val (.int u1), .val (.int u2), .val (.int u3), .val (.ref o137), .val (.int (1 : Int32)), .val (.int (1 : Int32)), .val (.int (1 : Int32)), .unset] []) (fun _ kz => XS.icmpNo X156.here hx rfl (hb hby at_207) rfl (teq (hget _)).2 kz) ?_
    refine own_g (mkF m 211 #[.val (.long x0), .second, .val (.long x1), .second, .val (.long x2), .second, .val (.long x3), .second, .val (.int x4), .val (.int x5), .val (.int (0 : Int32)), .val (.int u1), .val (.int u2), .val (.int u3), .val (.ref o137), .val (.int (1 : Int32)), .val (.int (1 : Int32)), .val (.int (1 : Int32)), .unset] [(.int (1 : Int32))]) (fun _ kz => XS.iconst X156.here hx rfl (hb hby at_210) kz) ?_
    refine own_g (mkF m 215 #[.val (.long x0), .second, .val (.long x1), .second, .val (.long x2), .second, .val (.long x3), .second, .val (.int x4), .val (.int x5), .val (.int (0 : Int32)), .val (.int u1), .val (.int u2), .val (.int u3), .val (.ref o137), .val (.int (1 : Int32)), .val (.int (1 : Int32)), .val (.int (1 : Int32)), .unset] [(.int (1 : Int32))]) (fun _ kz => XS.goto X156.here hx rfl (pc0 := 211) (pc' := 215) rfl (hb hby at_211) (by decide) (by decide) kz) ?_
    refine own_g (mkF m 217 #[.val (.long x0), .second, .val (.long x1), .second, .val (.long x2), .second, .val (.long x3), .second, .val (.int x4), .val (.int x5), .val (.int (0 : Int32)), .val (.int u1), .val (.int u2), .val (.int u3), .val (.ref o137), .val (.int (1 : Int32)), .val (.int (1 : Int32)), .val (.int (1 : Int32)), .val (.int (1 : Int32))] []) (fun _ kz => XS.istore X156.here hx rfl (hb hby at_215) rfl (l' := #[.val (.long x0), .second, .val (.long x1), .second, .val (.long x2), .second, .val (.long x3), .second, .val (.int x4), .val (.int x5), .val (.int (0 : Int32)), .val (.int u1), .val (.int u2), .val (.int u3), .val (.ref o137), .val (.int (1 : Int32)), .val (.int (1 : Int32)), .val (.int (1 : Int32)), .val (.int (1 : Int32))]) rfl kz) ?_
    refine own_g (mkF m 219 #[.val (.long x0), .second, .val (.long x1), .second, .val (.long x2), .second, .val (.long x3), .second, .val (.int x4), .val (.int x5), .val (.int (0 : Int32)), .val (.int u1), .val (.int u2), .val (.int u3), .val (.ref o137), .val (.int (1 : Int32)), .val (.int (1 : Int32)), .val (.int (1 : Int32)), .val (.int (1 : Int32))] [(.int (1 : Int32))]) (fun _ kz => XS.iload X156.here hx rfl (hb hby at_217) rfl kz) ?_
    refine own_g (mkF m 222 #[.val (.long x0), .second, .val (.long x1), .second, .val (.long x2), .second, .val (.long x3), .second, .val (.int x4), .val (.int x5), .val (.int (0 : Int32)), .val (.int u1), .val (.int u2), .val (.int u3), .val (.ref o137), .val (.int (1 : Int32)), .val (.int (1 : Int32)), .val (.int (1 : Int32)), .val (.int (1 : Int32))] []) (fun _ kz => XS.ifNo X156.here hx rfl (hb hby at_219) rfl ((if0 _ _).trans (feq (by decide)).1) kz) ?_
    refine own_g (mkF m 224 #[.val (.long x0), .second, .val (.long x1), .second, .val (.long x2), .second, .val (.long x3), .second, .val (.int x4), .val (.int x5), .val (.int (0 : Int32)), .val (.int u1), .val (.int u2), .val (.int u3), .val (.ref o137), .val (.int (1 : Int32)), .val (.int (1 : Int32)), .val (.int (1 : Int32)), .val (.int (1 : Int32))] [(.int (1 : Int32))]) (fun _ kz => XS.iload X156.here hx rfl (hb hby at_222) rfl kz) ?_
    refine own_g (mkF m 227 #[.val (.long x0), .second, .val (.long x1), .second, .val (.long x2), .second, .val (.long x3), .second, .val (.int x4), .val (.int x5), .val (.int (0 : Int32)), .val (.int u1), .val (.int u2), .val (.int u3), .val (.ref o137), .val (.int (1 : Int32)), .val (.int (1 : Int32)), .val (.int (1 : Int32)), .val (.int (1 : Int32))] []) (fun _ kz => XS.ifNo X156.here hx rfl (hb hby at_224) rfl ((if0 _ _).trans (feq (by decide)).1) kz) ?_
    refine own_g (mkF m 229 #[.val (.long x0), .second, .val (.long x1), .second, .val (.long x2), .second, .val (.long x3), .second, .val (.int x4), .val (.int x5), .val (.int (0 : Int32)), .val (.int u1), .val (.int u2), .val (.int u3), .val (.ref o137), .val (.int (1 : Int32)), .val (.int (1 : Int32)), .val (.int (1 : Int32)), .val (.int (1 : Int32))] [(.int (1 : Int32))]) (fun _ kz => XS.iload X156.here hx rfl (hb hby at_227) rfl kz) ?_
    refine own_g (mkF m 232 #[.val (.long x0), .second, .val (.long x1), .second, .val (.long x2), .second, .val (.long x3), .second, .val (.int x4), .val (.int x5), .val (.int (0 : Int32)), .val (.int u1), .val (.int u2), .val (.int u3), .val (.ref o137), .val (.int (1 : Int32)), .val (.int (1 : Int32)), .val (.int (1 : Int32)), .val (.int (1 : Int32))] []) (fun _ kz => XS.ifNo X156.here hx rfl (hb hby at_229) rfl ((if0 _ _).trans (feq (by decide)).1) kz) ?_
    refine own_g (mkF m 234 #[.val (.long x0), .second, .val (.long x1), .second, .val (.long x2), .second, .val (.long x3), .second, .val (.int x4), .val (.int x5), .val (.int (0 : Int32)), .val (.int u1), .val (.int u2), .val (.int u3), .val (.ref o137), .val (.int (1 : Int32)), .val (.int (1 : Int32)), .val (.int (1 : Int32)), .val (.int (1 : Int32))] [(.int (1 : Int32))]) (fun _ kz => XS.iload X156.here hx rfl (hb hby at_232) rfl kz) ?_
    refine own_g (mkF m 237 #[.val (.long x0), .second, .val (.long x1), .second, .val (.long x2), .second, .val (.long x3), .second, .val (.int x4), .val (.int x5), .val (.int (0 : Int32)), .val (.int u1), .val (.int u2), .val (.int u3), .val (.ref o137), .val (.int (1 : Int32)), .val (.int (1 : Int32)), .val (.int (1 : Int32)), .val (.int (1 : Int32))] []) (fun _ kz => XS.ifNo X156.here hx rfl (hb hby at_234) rfl ((if0 _ _).trans (feq (by decide)).1) kz) ?_
    refine own_g (mkF m 238 #[.val (.long x0), .second, .val (.long x1), .second, .val (.long x2), .second, .val (.long x3), .second, .val (.int x4), .val (.int x5), .val (.int (0 : Int32)), .val (.int u1), .val (.int u2), .val (.int u3), .val (.ref o137), .val (.int (1 : Int32)), .val (.int (1 : Int32)), .val (.int (1 : Int32)), .val (.int (1 : Int32))] [(.int (1 : Int32))]) (fun _ kz => XS.iconst X156.here hx rfl (hb hby at_237) kz) ?_
    refine own_g (mkF m 242 #[.val (.long x0), .second, .val (.long x1), .second, .val (.long x2), .second, .val (.long x3), .second, .val (.int x4), .val (.int x5), .val (.int (0 : Int32)), .val (.int u1), .val (.int u2), .val (.int u3), .val (.ref o137), .val (.int (1 : Int32)), .val (.int (1 : Int32)), .val (.int (1 : Int32)), .val (.int (1 : Int32))] [(.int (1 : Int32))]) (fun _ kz => XS.goto X156.here hx rfl (pc0 := 238) (pc' := 242) rfl (hb hby at_238) (by decide) (by decide) kz) ?_
    exact own_retZ X156 hx hret hlk (hb hby at_242) rfl (by decide) (by decide) (by first | exact ⟨rfl, N156⟩ | (rw [e156]; exact ⟨rfl, N156⟩))
  · rw [hl]
    show own_E p e below _ (T143.setTop (mkF m 42 #[.val (.long x0), .second, .val (.long x1), .second, .val (.long x2), .second, .val (.long x3), .second, .val (.int x4), .val (.int x5), .val (.int (1 : Int32)), .val (.int u1), .val (.int u2), .val (.int u3), .val (.ref o137), .unset, .unset, .unset, .unset] [(.int (1 : Int32)), (.int (1 : Int32))]))
    have G0 : ∀ x : Int64, (fun _ => (-1 : Int32)) (own_at (fun _ => (0 : Int64)) (fun _ => (-1 : Int32)) x) = -1 := fun _ => rfl
    refine own_g (mkF m 45 #[.val (.long x0), .second, .val (.long x1), .second, .val (.long x2), .second, .val (.long x3), .second, .val (.int x4), .val (.int x5), .val (.int (1 : Int32)), .val (.int u1), .val (.int u2), .val (.int u3), .val (.ref o137), .unset, .unset, .unset, .unset] []) (fun _ kz => XS.icmpNo X143.here hx rfl (hb hby at_42) rfl (flt (by decide)).1 kz) ?_
    refine own_g (mkF m 47 #[.val (.long x0), .second, .val (.long x1), .second, .val (.long x2), .second, .val (.long x3), .second, .val (.int x4), .val (.int x5), .val (.int (1 : Int32)), .val (.int u1), .val (.int u2), .val (.int u3), .val (.ref o137), .unset, .unset, .unset, .unset] [(.ref o137)]) (fun _ kz => XS.aload X143.here hx rfl (hb hby at_45) rfl rfl kz) ?_
    refine own_g (mkF m 48 #[.val (.long x0), .second, .val (.long x1), .second, .val (.long x2), .second, .val (.long x3), .second, .val (.int x4), .val (.int x5), .val (.int (1 : Int32)), .val (.int u1), .val (.int u2), .val (.int u3), .val (.ref o137), .unset, .unset, .unset, .unset] [(.long x0), (.ref o137)]) (fun _ kz => XS.lloadN X143.here hx rfl (hb hby at_47) rfl kz) ?_
    refine own_g (mkF m 50 #[.val (.long x0), .second, .val (.long x1), .second, .val (.long x2), .second, .val (.long x3), .second, .val (.int x4), .val (.int x5), .val (.int (1 : Int32)), .val (.int u1), .val (.int u2), .val (.int u3), .val (.ref o137), .unset, .unset, .unset, .unset] [(.int u1), (.long x0), (.ref o137)]) (fun _ kz => XS.iload X143.here hx rfl (hb hby at_48) rfl kz) ?_
    refine own_callV (rest := []) (a := o137) (as := [(.long x0), (.int u1)]) X143 hx hZ hown rfl (own_c_put l Z a0 hw o137 ob oc (fun _ => (0 : Int64)) (fun _ => (-1 : Int32)) x0 u1 0 T143.heap n0 s148 (own_stop I0 (by decide) _) Fk143 Fv143 Ak143 Av143 nu1 (by omega) b138 gob goc nab nac nbc f144 Fs143) f144 (own_w hw 36 rfl) (own_w hw 37 rfl) (own_w hw 39 rfl) (own_w hw 38 rfl) (own_w hw 3 rfl) (own_w hw 40 rfl) (by decide) own_pd2 rfl (by rw [hml]; rfl) rfl (hb hby at_50) 0 (by show 2 * 0 + _ ≤ _; exact Nat.le_of_eq rfl) (by decide) (by decide) (by decide) (by decide) ?_
    rintro _ T157 L157 X157 ⟨rp157, sz157, rfl, Nq157, K157, lz157, Fk157, Fv157, Fs157, Ak157, Av157⟩
    have N157 := Fr.app N143 Nq157
    have f158 := Exa.keep f144 K157
    have s164 : n0 ≤ T157.heap.size := Nat.le_trans s148 K157.1
    show own_E p e below _ (T157.setTop (mkF m 53 #[.val (.long x0), .second, .val (.long x1), .second, .val (.long x2), .second, .val (.long x3), .second, .val (.int x4), .val (.int x5), .val (.int (1 : Int32)), .val (.int u1), .val (.int u2), .val (.int u3), .val (.ref o137), .unset, .unset, .unset, .unset] [(.int rp157)]))
    obtain ⟨kf1, vf1, ekf1, evf1, I1, G1, Ak157x, Av157x⟩ : ∃ K V, K = own_pk (fun _ => (0 : Int64)) (fun _ => (-1 : Int32)) x0 ∧ V = own_pv (fun _ => (0 : Int64)) (fun _ => (-1 : Int32)) x0 u1 ∧ own_Inv 1 K V ∧ (∀ x, V (own_at K V x) = if (fun _ => (-1 : Int32)) (own_at (fun _ => (0 : Int64)) (fun _ => (-1 : Int32)) x0) = -1 ∧ x = x0 then u1 else (fun _ => (-1 : Int32)) (own_at (fun _ => (0 : Int64)) (fun _ => (-1 : Int32)) x)) ∧ own_JA Z T157.heap ob 64 K ∧ own_IA Z T157.heap oc .int 64 V := ⟨_, _, rfl, rfl, own_inv1 I0 (own_nm nu1), fun x => own_get1 I0 (by decide) (own_nm nu1) x, Ak157, Av157⟩
    have lz157' : sz157 ≤ 1 := by omega
    refine own_g (mkF m 54 #[.val (.long x0), .second, .val (.long x1), .second, .val (.long x2), .second, .val (.long x3), .second, .val (.int x4), .val (.int x5), .val (.int (1 : Int32)), .val (.int u1), .val (.int u2), .val (.int u3), .val (.ref o137), .unset, .unset, .unset, .unset] []) (fun _ kz => XS.pop X157.here hx rfl (hb hby at_53) rfl rfl kz) ?_
    refine own_g (mkF m 56 #[.val (.long x0), .second, .val (.long x1), .second, .val (.long x2), .second, .val (.long x3), .second, .val (.int x4), .val (.int x5), .val (.int (1 : Int32)), .val (.int u1), .val (.int u2), .val (.int u3), .val (.ref o137), .unset, .unset, .unset, .unset] [(.int (1 : Int32))]) (fun _ kz => XS.iload X157.here hx rfl (hb hby at_54) rfl kz) ?_
    refine own_g (mkF m 57 #[.val (.long x0), .second, .val (.long x1), .second, .val (.long x2), .second, .val (.long x3), .second, .val (.int x4), .val (.int x5), .val (.int (1 : Int32)), .val (.int u1), .val (.int u2), .val (.int u3), .val (.ref o137), .unset, .unset, .unset, .unset] [(.int (2 : Int32)), (.int (1 : Int32))]) (fun _ kz => XS.iconst X157.here hx rfl (hb hby at_56) kz) ?_
    refine own_g (mkF m 69 #[.val (.long x0), .second, .val (.long x1), .second, .val (.long x2), .second, .val (.long x3), .second, .val (.int x4), .val (.int x5), .val (.int (1 : Int32)), .val (.int u1), .val (.int u2), .val (.int u3), .val (.ref o137), .unset, .unset, .unset, .unset] []) (fun _ kz => XS.icmpYes X157.here hx rfl (pc0 := 57) (pc' := 69) rfl (hb hby at_57) rfl (tlt (by decide)).1 (by decide) (by decide) kz) ?_
    refine own_g (mkF m 71 #[.val (.long x0), .second, .val (.long x1), .second, .val (.long x2), .second, .val (.long x3), .second, .val (.int x4), .val (.int x5), .val (.int (1 : Int32)), .val (.int u1), .val (.int u2), .val (.int u3), .val (.ref o137), .unset, .unset, .unset, .unset] [(.int (1 : Int32))]) (fun _ kz => XS.iload X157.here hx rfl (hb hby at_69) rfl kz) ?_
    refine own_g (mkF m 72 #[.val (.long x0), .second, .val (.long x1), .second, .val (.long x2), .second, .val (.long x3), .second, .val (.int x4), .val (.int x5), .val (.int (1 : Int32)), .val (.int u1), .val (.int u2), .val (.int u3), .val (.ref o137), .unset, .unset, .unset, .unset] [(.int (3 : Int32)), (.int (1 : Int32))]) (fun _ kz => XS.iconst X157.here hx rfl (hb hby at_71) kz) ?_
    refine own_g (mkF m 85 #[.val (.long x0), .second, .val (.long x1), .second, .val (.long x2), .second, .val (.long x3), .second, .val (.int x4), .val (.int x5), .val (.int (1 : Int32)), .val (.int u1), .val (.int u2), .val (.int u3), .val (.ref o137), .unset, .unset, .unset, .unset] []) (fun _ kz => XS.icmpYes X157.here hx rfl (pc0 := 72) (pc' := 85) rfl (hb hby at_72) rfl (tlt (by decide)).1 (by decide) (by decide) kz) ?_
    refine own_g (mkF m 87 #[.val (.long x0), .second, .val (.long x1), .second, .val (.long x2), .second, .val (.long x3), .second, .val (.int x4), .val (.int x5), .val (.int (1 : Int32)), .val (.int u1), .val (.int u2), .val (.int u3), .val (.ref o137), .unset, .unset, .unset, .unset] [(.ref o137)]) (fun _ kz => XS.aload X157.here hx rfl (hb hby at_85) rfl rfl kz) ?_
    refine own_g (mkF m 88 #[.val (.long x0), .second, .val (.long x1), .second, .val (.long x2), .second, .val (.long x3), .second, .val (.int x4), .val (.int x5), .val (.int (1 : Int32)), .val (.int u1), .val (.int u2), .val (.int u3), .val (.ref o137), .unset, .unset, .unset, .unset] [(.long x0), (.ref o137)]) (fun _ kz => XS.lloadN X157.here hx rfl (hb hby at_87) rfl kz) ?_
    have hget : ∀ x, vf1 (own_at kf1 vf1 x) = own_exp x 1 x0 u1 x1 u2 x2 u3 := by
      intro x
      exact own_y1 (g0 := fun x => (fun _ => (-1 : Int32)) (own_at (fun _ => (0 : Int64)) (fun _ => (-1 : Int32)) x)) (g1 := fun x => vf1 (own_at kf1 vf1 x))  G0 G1 x
    refine own_callV (rest := []) (a := o137) (as := [(.long x0)]) X157 hx hZ hown rfl (own_c_get l Z a0 hw o137 ob oc kf1 vf1 x0 T157.heap (own_stop I1 (by decide) _) Fk157 Fv157 Ak157x Av157x) f158 (own_w hw 23 rfl) (own_w hw 24 rfl) (own_w hw 26 rfl) (own_w hw 25 rfl) (own_w hw 3 rfl) (own_w hw 27 rfl) (by decide) own_pd4 rfl (by rw [hml]; rfl) rfl (hb hby at_88) 0 (by show 2 * 0 + _ ≤ _; exact Nat.le_of_eq rfl) (by decide) (by decide) (by decide) (by decide) ?_
    rintro _ T165 L165 X165 ⟨rfl, rfl, e165⟩
    have N165 := Fr.app N157 (Fr.nil n0)
    show own_E p e below _ (T165.setTop (mkF m 91 #[.val (.long x0), .second, .val (.long x1), .second, .val (.long x2), .second, .val (.long x3), .second, .val (.int x4), .val (.int x5), .val (.int (1 : Int32)), .val (.int u1), .val (.int u2), .val (.int u3), .val (.ref o137), .unset, .unset, .unset, .unset] [(.int (vf1 (own_at kf1 vf1 x0)))]))
    refine own_g (mkF m 92 #[.val (.long x0), .second, .val (.long x1), .second, .val (.long x2), .second, .val (.long x3), .second, .val (.int x4), .val (.int x5), .val (.int (1 : Int32)), .val (.int u1), .val (.int u2), .val (.int u3), .val (.ref o137), .unset, .unset, .unset, .unset] [(.long x0), (.int (vf1 (own_at kf1 vf1 x0)))]) (fun _ kz => XS.lloadN X165.here hx rfl (hb hby at_91) rfl kz) ?_
    refine own_g (mkF m 94 #[.val (.long x0), .second, .val (.long x1), .second, .val (.long x2), .second, .val (.long x3), .second, .val (.int x4), .val (.int x5), .val (.int (1 : Int32)), .val (.int u1), .val (.int u2), .val (.int u3), .val (.ref o137), .unset, .unset, .unset, .unset] [(.int (1 : Int32)), (.long x0), (.int (vf1 (own_at kf1 vf1 x0)))]) (fun _ kz => XS.iload X165.here hx rfl (hb hby at_92) rfl kz) ?_
    refine own_g (mkF m 95 #[.val (.long x0), .second, .val (.long x1), .second, .val (.long x2), .second, .val (.long x3), .second, .val (.int x4), .val (.int x5), .val (.int (1 : Int32)), .val (.int u1), .val (.int u2), .val (.int u3), .val (.ref o137), .unset, .unset, .unset, .unset] [(.long x0), (.int (1 : Int32)), (.long x0), (.int (vf1 (own_at kf1 vf1 x0)))]) (fun _ kz => XS.lloadN X165.here hx rfl (hb hby at_94) rfl kz) ?_
    refine own_g (mkF m 97 #[.val (.long x0), .second, .val (.long x1), .second, .val (.long x2), .second, .val (.long x3), .second, .val (.int x4), .val (.int x5), .val (.int (1 : Int32)), .val (.int u1), .val (.int u2), .val (.int u3), .val (.ref o137), .unset, .unset, .unset, .unset] [(.int u1), (.long x0), (.int (1 : Int32)), (.long x0), (.int (vf1 (own_at kf1 vf1 x0)))]) (fun _ kz => XS.iload X165.here hx rfl (hb hby at_95) rfl kz) ?_
    refine own_g (mkF m 98 #[.val (.long x0), .second, .val (.long x1), .second, .val (.long x2), .second, .val (.long x3), .second, .val (.int x4), .val (.int x5), .val (.int (1 : Int32)), .val (.int u1), .val (.int u2), .val (.int u3), .val (.ref o137), .unset, .unset, .unset, .unset] [(.long x1), (.int u1), (.long x0), (.int (1 : Int32)), (.long x0), (.int (vf1 (own_at kf1 vf1 x0)))]) (fun _ kz => XS.lloadN X165.here hx rfl (hb hby at_97) rfl kz) ?_
    refine own_g (mkF m 100 #[.val (.long x0), .second, .val (.long x1), .second, .val (.long x2), .second, .val (.long x3), .second, .val (.int x4), .val (.int x5), .val (.int (1 : Int32)), .val (.int u1), .val (.int u2), .val (.int u3), .val (.ref o137), .unset, .unset, .unset, .unset] [(.int u2), (.long x1), (.int u1), (.long x0), (.int (1 : Int32)), (.long x0), (.int (vf1 (own_at kf1 vf1 x0)))]) (fun _ kz => XS.iload X165.here hx rfl (hb hby at_98) rfl kz) ?_
    refine own_g (mkF m 102 #[.val (.long x0), .second, .val (.long x1), .second, .val (.long x2), .second, .val (.long x3), .second, .val (.int x4), .val (.int x5), .val (.int (1 : Int32)), .val (.int u1), .val (.int u2), .val (.int u3), .val (.ref o137), .unset, .unset, .unset, .unset] [(.long x2), (.int u2), (.long x1), (.int u1), (.long x0), (.int (1 : Int32)), (.long x0), (.int (vf1 (own_at kf1 vf1 x0)))]) (fun _ kz => XS.lload X165.here hx rfl (hb hby at_100) rfl kz) ?_
    refine own_g (mkF m 104 #[.val (.long x0), .second, .val (.long x1), .second, .val (.long x2), .second, .val (.long x3), .second, .val (.int x4), .val (.int x5), .val (.int (1 : Int32)), .val (.int u1), .val (.int u2), .val (.int u3), .val (.ref o137), .unset, .unset, .unset, .unset] [(.int u3), (.long x2), (.int u2), (.long x1), (.int u1), (.long x0), (.int (1 : Int32)), (.long x0), (.int (vf1 (own_at kf1 vf1 x0)))]) (fun _ kz => XS.iload X165.here hx rfl (hb hby at_102) rfl kz) ?_
    refine own_callS (rest := [(.int (vf1 (own_at kf1 vf1 x0)))]) (as := [(.long x0), (.int (1 : Int32)), (.long x0), (.int u1), (.long x1), (.int u2), (.long x2), (.int u3)]) X165 hx hZ hown e165 (own_c_exp l Z a0 hw x0 (1 : Int32) x0 u1 x1 u2 x2 u3 T157.heap) (own_w hw 32 rfl) (own_w hw 33 rfl) (own_w hw 34 rfl) (own_w hw 35 rfl) (by decide) own_pd5 rfl (by rw [hml]; rfl) rfl (hb hby at_104) 1 (by show 2 * 0 + _ ≤ _; exact Nat.le_of_eq rfl) (by decide) (by decide) (by decide) (by decide) ?_
    rintro _ T166 L166 X166 ⟨rfl, rfl, e166⟩
    have N166 := Fr.app N165 (Fr.nil n0)
    show own_E p e below _ (T166.setTop (mkF m 107 #[.val (.long x0), .second, .val (.long x1), .second, .val (.long x2), .second, .val (.long x3), .second, .val (.int x4), .val (.int x5), .val (.int (1 : Int32)), .val (.int u1), .val (.int u2), .val (.int u3), .val (.ref o137), .unset, .unset, .unset, .unset] [(.int (own_exp x0 (1 : Int32) x0 u1 x1 u2 x2 u3)), (.int (vf1 (own_at kf1 vf1 x0)))]))
    refine own_g (mkF m 110 #[.val (.long x0), .second, .val (.long x1), .second, .val (.long x2), .second, .val (.long x3), .second, .val (.int x4), .val (.int x5), .val (.int (1 : Int32)), .val (.int u1), .val (.int u2), .val (.int u3), .val (.ref o137), .unset, .unset, .unset, .unset] []) (fun _ kz => XS.icmpNo X166.here hx rfl (hb hby at_107) rfl (teq (hget _)).2 kz) ?_
    refine own_g (mkF m 111 #[.val (.long x0), .second, .val (.long x1), .second, .val (.long x2), .second, .val (.long x3), .second, .val (.int x4), .val (.int x5), .val (.int (1 : Int32)), .val (.int u1), .val (.int u2), .val (.int u3), .val (.ref o137), .unset, .unset, .unset, .unset] [(.int (1 : Int32))]) (fun _ kz => XS.iconst X166.here hx rfl (hb hby at_110) kz) ?_
    refine own_g (mkF m 115 #[.val (.long x0), .second, .val (.long x1), .second, .val (.long x2), .second, .val (.long x3), .second, .val (.int x4), .val (.int x5), .val (.int (1 : Int32)), .val (.int u1), .val (.int u2), .val (.int u3), .val (.ref o137), .unset, .unset, .unset, .unset] [(.int (1 : Int32))]) (fun _ kz => XS.goto X166.here hx rfl (pc0 := 111) (pc' := 115) rfl (hb hby at_111) (by decide) (by decide) kz) ?_
    refine own_g (mkF m 117 #[.val (.long x0), .second, .val (.long x1), .second, .val (.long x2), .second, .val (.long x3), .second, .val (.int x4), .val (.int x5), .val (.int (1 : Int32)), .val (.int u1), .val (.int u2), .val (.int u3), .val (.ref o137), .val (.int (1 : Int32)), .unset, .unset, .unset] []) (fun _ kz => XS.istore X166.here hx rfl (hb hby at_115) rfl (l' := #[.val (.long x0), .second, .val (.long x1), .second, .val (.long x2), .second, .val (.long x3), .second, .val (.int x4), .val (.int x5), .val (.int (1 : Int32)), .val (.int u1), .val (.int u2), .val (.int u3), .val (.ref o137), .val (.int (1 : Int32)), .unset, .unset, .unset]) rfl kz) ?_
    refine own_g (mkF m 119 #[.val (.long x0), .second, .val (.long x1), .second, .val (.long x2), .second, .val (.long x3), .second, .val (.int x4), .val (.int x5), .val (.int (1 : Int32)), .val (.int u1), .val (.int u2), .val (.int u3), .val (.ref o137), .val (.int (1 : Int32)), .unset, .unset, .unset] [(.ref o137)]) (fun _ kz => XS.aload X166.here hx rfl (hb hby at_117) rfl rfl kz) ?_
    refine own_g (mkF m 120 #[.val (.long x0), .second, .val (.long x1), .second, .val (.long x2), .second, .val (.long x3), .second, .val (.int x4), .val (.int x5), .val (.int (1 : Int32)), .val (.int u1), .val (.int u2), .val (.int u3), .val (.ref o137), .val (.int (1 : Int32)), .unset, .unset, .unset] [(.long x1), (.ref o137)]) (fun _ kz => XS.lloadN X166.here hx rfl (hb hby at_119) rfl kz) ?_
    refine own_callV (rest := []) (a := o137) (as := [(.long x1)]) X166 hx hZ hown e166 (own_c_get l Z a0 hw o137 ob oc kf1 vf1 x1 T157.heap (own_stop I1 (by decide) _) Fk157 Fv157 Ak157x Av157x) f158 (own_w hw 23 rfl) (own_w hw 24 rfl) (own_w hw 26 rfl) (own_w hw 25 rfl) (own_w hw 3 rfl) (own_w hw 27 rfl) (by decide) own_pd4 rfl (by rw [hml]; rfl) rfl (hb hby at_120) 0 (by show 2 * 0 + _ ≤ _; exact Nat.le_of_eq rfl) (by decide) (by decide) (by decide) (by decide) ?_
    rintro _ T167 L167 X167 ⟨rfl, rfl, e167⟩
    have N167 := Fr.app N166 (Fr.nil n0)
    show own_E p e below _ (T167.setTop (mkF m 123 #[.val (.long x0), .second, .val (.long x1), .second, .val (.long x2), .second, .val (.long x3), .second, .val (.int x4), .val (.int x5), .val (.int (1 : Int32)), .val (.int u1), .val (.int u2), .val (.int u3), .val (.ref o137), .val (.int (1 : Int32)), .unset, .unset, .unset] [(.int (vf1 (own_at kf1 vf1 x1)))]))
    refine own_g (mkF m 124 #[.val (.long x0), .second, .val (.long x1), .second, .val (.long x2), .second, .val (.long x3), .second, .val (.int x4), .val (.int x5), .val (.int (1 : Int32)), .val (.int u1), .val (.int u2), .val (.int u3), .val (.ref o137), .val (.int (1 : Int32)), .unset, .unset, .unset] [(.long x1), (.int (vf1 (own_at kf1 vf1 x1)))]) (fun _ kz => XS.lloadN X167.here hx rfl (hb hby at_123) rfl kz) ?_
    refine own_g (mkF m 126 #[.val (.long x0), .second, .val (.long x1), .second, .val (.long x2), .second, .val (.long x3), .second, .val (.int x4), .val (.int x5), .val (.int (1 : Int32)), .val (.int u1), .val (.int u2), .val (.int u3), .val (.ref o137), .val (.int (1 : Int32)), .unset, .unset, .unset] [(.int (1 : Int32)), (.long x1), (.int (vf1 (own_at kf1 vf1 x1)))]) (fun _ kz => XS.iload X167.here hx rfl (hb hby at_124) rfl kz) ?_
    refine own_g (mkF m 127 #[.val (.long x0), .second, .val (.long x1), .second, .val (.long x2), .second, .val (.long x3), .second, .val (.int x4), .val (.int x5), .val (.int (1 : Int32)), .val (.int u1), .val (.int u2), .val (.int u3), .val (.ref o137), .val (.int (1 : Int32)), .unset, .unset, .unset] [(.long x0), (.int (1 : Int32)), (.long x1), (.int (vf1 (own_at kf1 vf1 x1)))]) (fun _ kz => XS.lloadN X167.here hx rfl (hb hby at_126) rfl kz) ?_
    refine own_g (mkF m 129 #[.val (.long x0), .second, .val (.long x1), .second, .val (.long x2), .second, .val (.long x3), .second, .val (.int x4), .val (.int x5), .val (.int (1 : Int32)), .val (.int u1), .val (.int u2), .val (.int u3), .val (.ref o137), .val (.int (1 : Int32)), .unset, .unset, .unset] [(.int u1), (.long x0), (.int (1 : Int32)), (.long x1), (.int (vf1 (own_at kf1 vf1 x1)))]) (fun _ kz => XS.iload X167.here hx rfl (hb hby at_127) rfl kz) ?_
    refine own_g (mkF m 130 #[.val (.long x0), .second, .val (.long x1), .second, .val (.long x2), .second, .val (.long x3), .second, .val (.int x4), .val (.int x5), .val (.int (1 : Int32)), .val (.int u1), .val (.int u2), .val (.int u3), .val (.ref o137), .val (.int (1 : Int32)), .unset, .unset, .unset] [(.long x1), (.int u1), (.long x0), (.int (1 : Int32)), (.long x1), (.int (vf1 (own_at kf1 vf1 x1)))]) (fun _ kz => XS.lloadN X167.here hx rfl (hb hby at_129) rfl kz) ?_
    refine own_g (mkF m 132 #[.val (.long x0), .second, .val (.long x1), .second, .val (.long x2), .second, .val (.long x3), .second, .val (.int x4), .val (.int x5), .val (.int (1 : Int32)), .val (.int u1), .val (.int u2), .val (.int u3), .val (.ref o137), .val (.int (1 : Int32)), .unset, .unset, .unset] [(.int u2), (.long x1), (.int u1), (.long x0), (.int (1 : Int32)), (.long x1), (.int (vf1 (own_at kf1 vf1 x1)))]) (fun _ kz => XS.iload X167.here hx rfl (hb hby at_130) rfl kz) ?_
    refine own_g (mkF m 134 #[.val (.long x0), .second, .val (.long x1), .second, .val (.long x2), .second, .val (.long x3), .second, .val (.int x4), .val (.int x5), .val (.int (1 : Int32)), .val (.int u1), .val (.int u2), .val (.int u3), .val (.ref o137), .val (.int (1 : Int32)), .unset, .unset, .unset] [(.long x2), (.int u2), (.long x1), (.int u1), (.long x0), (.int (1 : Int32)), (.long x1), (.int (vf1 (own_at kf1 vf1 x1)))]) (fun _ kz => XS.lload X167.here hx rfl (hb hby at_132) rfl kz) ?_
    refine own_g (mkF m 136 #[.val (.long x0), .second, .val (.long x1), .second, .val (.long x2), .second, .val (.long x3), .second, .val (.int x4), .val (.int x5), .val (.int (1 : Int32)), .val (.int u1), .val (.int u2), .val (.int u3), .val (.ref o137), .val (.int (1 : Int32)), .unset, .unset, .unset] [(.int u3), (.long x2), (.int u2), (.long x1), (.int u1), (.long x0), (.int (1 : Int32)), (.long x1), (.int (vf1 (own_at kf1 vf1 x1)))]) (fun _ kz => XS.iload X167.here hx rfl (hb hby at_134) rfl kz) ?_
    refine own_callS (rest := [(.int (vf1 (own_at kf1 vf1 x1)))]) (as := [(.long x1), (.int (1 : Int32)), (.long x0), (.int u1), (.long x1), (.int u2), (.long x2), (.int u3)]) X167 hx hZ hown e167 (own_c_exp l Z a0 hw x1 (1 : Int32) x0 u1 x1 u2 x2 u3 T157.heap) (own_w hw 32 rfl) (own_w hw 33 rfl) (own_w hw 34 rfl) (own_w hw 35 rfl) (by decide) own_pd5 rfl (by rw [hml]; rfl) rfl (hb hby at_136) 1 (by show 2 * 0 + _ ≤ _; exact Nat.le_of_eq rfl) (by decide) (by decide) (by decide) (by decide) ?_
    rintro _ T168 L168 X168 ⟨rfl, rfl, e168⟩
    have N168 := Fr.app N167 (Fr.nil n0)
    show own_E p e below _ (T168.setTop (mkF m 139 #[.val (.long x0), .second, .val (.long x1), .second, .val (.long x2), .second, .val (.long x3), .second, .val (.int x4), .val (.int x5), .val (.int (1 : Int32)), .val (.int u1), .val (.int u2), .val (.int u3), .val (.ref o137), .val (.int (1 : Int32)), .unset, .unset, .unset] [(.int (own_exp x1 (1 : Int32) x0 u1 x1 u2 x2 u3)), (.int (vf1 (own_at kf1 vf1 x1)))]))
    refine own_g (mkF m 142 #[.val (.long x0), .second, .val (.long x1), .second, .val (.long x2), .second, .val (.long x3), .second, .val (.int x4), .val (.int x5), .val (.int (1 : Int32)), .val (.int u1), .val (.int u2), .val (.int u3), .val (.ref o137), .val (.int (1 : Int32)), .unset, .unset, .unset] []) (fun _ kz => XS.icmpNo X168.here hx rfl (hb hby at_139) rfl (teq (hget _)).2 kz) ?_
    refine own_g (mkF m 143 #[.val (.long x0), .second, .val (.long x1), .second, .val (.long x2), .second, .val (.long x3), .second, .val (.int x4), .val (.int x5), .val (.int (1 : Int32)), .val (.int u1), .val (.int u2), .val (.int u3), .val (.ref o137), .val (.int (1 : Int32)), .unset, .unset, .unset] [(.int (1 : Int32))]) (fun _ kz => XS.iconst X168.here hx rfl (hb hby at_142) kz) ?_
    refine own_g (mkF m 147 #[.val (.long x0), .second, .val (.long x1), .second, .val (.long x2), .second, .val (.long x3), .second, .val (.int x4), .val (.int x5), .val (.int (1 : Int32)), .val (.int u1), .val (.int u2), .val (.int u3), .val (.ref o137), .val (.int (1 : Int32)), .unset, .unset, .unset] [(.int (1 : Int32))]) (fun _ kz => XS.goto X168.here hx rfl (pc0 := 143) (pc' := 147) rfl (hb hby at_143) (by decide) (by decide) kz) ?_
    refine own_g (mkF m 149 #[.val (.long x0), .second, .val (.long x1), .second, .val (.long x2), .second, .val (.long x3), .second, .val (.int x4), .val (.int x5), .val (.int (1 : Int32)), .val (.int u1), .val (.int u2), .val (.int u3), .val (.ref o137), .val (.int (1 : Int32)), .val (.int (1 : Int32)), .unset, .unset] []) (fun _ kz => XS.istore X168.here hx rfl (hb hby at_147) rfl (l' := #[.val (.long x0), .second, .val (.long x1), .second, .val (.long x2), .second, .val (.long x3), .second, .val (.int x4), .val (.int x5), .val (.int (1 : Int32)), .val (.int u1), .val (.int u2), .val (.int u3), .val (.ref o137), .val (.int (1 : Int32)), .val (.int (1 : Int32)), .unset, .unset]) rfl kz) ?_
    refine own_g (mkF m 151 #[.val (.long x0), .second, .val (.long x1), .second, .val (.long x2), .second, .val (.long x3), .second, .val (.int x4), .val (.int x5), .val (.int (1 : Int32)), .val (.int u1), .val (.int u2), .val (.int u3), .val (.ref o137), .val (.int (1 : Int32)), .val (.int (1 : Int32)), .unset, .unset] [(.ref o137)]) (fun _ kz => XS.aload X168.here hx rfl (hb hby at_149) rfl rfl kz) ?_
    refine own_g (mkF m 153 #[.val (.long x0), .second, .val (.long x1), .second, .val (.long x2), .second, .val (.long x3), .second, .val (.int x4), .val (.int x5), .val (.int (1 : Int32)), .val (.int u1), .val (.int u2), .val (.int u3), .val (.ref o137), .val (.int (1 : Int32)), .val (.int (1 : Int32)), .unset, .unset] [(.long x2), (.ref o137)]) (fun _ kz => XS.lload X168.here hx rfl (hb hby at_151) rfl kz) ?_
    refine own_callV (rest := []) (a := o137) (as := [(.long x2)]) X168 hx hZ hown e168 (own_c_get l Z a0 hw o137 ob oc kf1 vf1 x2 T157.heap (own_stop I1 (by decide) _) Fk157 Fv157 Ak157x Av157x) f158 (own_w hw 23 rfl) (own_w hw 24 rfl) (own_w hw 26 rfl) (own_w hw 25 rfl) (own_w hw 3 rfl) (own_w hw 27 rfl) (by decide) own_pd4 rfl (by rw [hml]; rfl) rfl (hb hby at_153) 0 (by show 2 * 0 + _ ≤ _; exact Nat.le_of_eq rfl) (by decide) (by decide) (by decide) (by decide) ?_
    rintro _ T169 L169 X169 ⟨rfl, rfl, e169⟩
    have N169 := Fr.app N168 (Fr.nil n0)
    show own_E p e below _ (T169.setTop (mkF m 156 #[.val (.long x0), .second, .val (.long x1), .second, .val (.long x2), .second, .val (.long x3), .second, .val (.int x4), .val (.int x5), .val (.int (1 : Int32)), .val (.int u1), .val (.int u2), .val (.int u3), .val (.ref o137), .val (.int (1 : Int32)), .val (.int (1 : Int32)), .unset, .unset] [(.int (vf1 (own_at kf1 vf1 x2)))]))
    refine own_g (mkF m 158 #[.val (.long x0), .second, .val (.long x1), .second, .val (.long x2), .second, .val (.long x3), .second, .val (.int x4), .val (.int x5), .val (.int (1 : Int32)), .val (.int u1), .val (.int u2), .val (.int u3), .val (.ref o137), .val (.int (1 : Int32)), .val (.int (1 : Int32)), .unset, .unset] [(.long x2), (.int (vf1 (own_at kf1 vf1 x2)))]) (fun _ kz => XS.lload X169.here hx rfl (hb hby at_156) rfl kz) ?_
    refine own_g (mkF m 160 #[.val (.long x0), .second, .val (.long x1), .second, .val (.long x2), .second, .val (.long x3), .second, .val (.int x4), .val (.int x5), .val (.int (1 : Int32)), .val (.int u1), .val (.int u2), .val (.int u3), .val (.ref o137), .val (.int (1 : Int32)), .val (.int (1 : Int32)), .unset, .unset] [(.int (1 : Int32)), (.long x2), (.int (vf1 (own_at kf1 vf1 x2)))]) (fun _ kz => XS.iload X169.here hx rfl (hb hby at_158) rfl kz) ?_
    refine own_g (mkF m 161 #[.val (.long x0), .second, .val (.long x1), .second, .val (.long x2), .second, .val (.long x3), .second, .val (.int x4), .val (.int x5), .val (.int (1 : Int32)), .val (.int u1), .val (.int u2), .val (.int u3), .val (.ref o137), .val (.int (1 : Int32)), .val (.int (1 : Int32)), .unset, .unset] [(.long x0), (.int (1 : Int32)), (.long x2), (.int (vf1 (own_at kf1 vf1 x2)))]) (fun _ kz => XS.lloadN X169.here hx rfl (hb hby at_160) rfl kz) ?_
    refine own_g (mkF m 163 #[.val (.long x0), .second, .val (.long x1), .second, .val (.long x2), .second, .val (.long x3), .second, .val (.int x4), .val (.int x5), .val (.int (1 : Int32)), .val (.int u1), .val (.int u2), .val (.int u3), .val (.ref o137), .val (.int (1 : Int32)), .val (.int (1 : Int32)), .unset, .unset] [(.int u1), (.long x0), (.int (1 : Int32)), (.long x2), (.int (vf1 (own_at kf1 vf1 x2)))]) (fun _ kz => XS.iload X169.here hx rfl (hb hby at_161) rfl kz) ?_
    refine own_g (mkF m 164 #[.val (.long x0), .second, .val (.long x1), .second, .val (.long x2), .second, .val (.long x3), .second, .val (.int x4), .val (.int x5), .val (.int (1 : Int32)), .val (.int u1), .val (.int u2), .val (.int u3), .val (.ref o137), .val (.int (1 : Int32)), .val (.int (1 : Int32)), .unset, .unset] [(.long x1), (.int u1), (.long x0), (.int (1 : Int32)), (.long x2), (.int (vf1 (own_at kf1 vf1 x2)))]) (fun _ kz => XS.lloadN X169.here hx rfl (hb hby at_163) rfl kz) ?_
    refine own_g (mkF m 166 #[.val (.long x0), .second, .val (.long x1), .second, .val (.long x2), .second, .val (.long x3), .second, .val (.int x4), .val (.int x5), .val (.int (1 : Int32)), .val (.int u1), .val (.int u2), .val (.int u3), .val (.ref o137), .val (.int (1 : Int32)), .val (.int (1 : Int32)), .unset, .unset] [(.int u2), (.long x1), (.int u1), (.long x0), (.int (1 : Int32)), (.long x2), (.int (vf1 (own_at kf1 vf1 x2)))]) (fun _ kz => XS.iload X169.here hx rfl (hb hby at_164) rfl kz) ?_
    refine own_g (mkF m 168 #[.val (.long x0), .second, .val (.long x1), .second, .val (.long x2), .second, .val (.long x3), .second, .val (.int x4), .val (.int x5), .val (.int (1 : Int32)), .val (.int u1), .val (.int u2), .val (.int u3), .val (.ref o137), .val (.int (1 : Int32)), .val (.int (1 : Int32)), .unset, .unset] [(.long x2), (.int u2), (.long x1), (.int u1), (.long x0), (.int (1 : Int32)), (.long x2), (.int (vf1 (own_at kf1 vf1 x2)))]) (fun _ kz => XS.lload X169.here hx rfl (hb hby at_166) rfl kz) ?_
    refine own_g (mkF m 170 #[.val (.long x0), .second, .val (.long x1), .second, .val (.long x2), .second, .val (.long x3), .second, .val (.int x4), .val (.int x5), .val (.int (1 : Int32)), .val (.int u1), .val (.int u2), .val (.int u3), .val (.ref o137), .val (.int (1 : Int32)), .val (.int (1 : Int32)), .unset, .unset] [(.int u3), (.long x2), (.int u2), (.long x1), (.int u1), (.long x0), (.int (1 : Int32)), (.long x2), (.int (vf1 (own_at kf1 vf1 x2)))]) (fun _ kz => XS.iload X169.here hx rfl (hb hby at_168) rfl kz) ?_
    refine own_callS (rest := [(.int (vf1 (own_at kf1 vf1 x2)))]) (as := [(.long x2), (.int (1 : Int32)), (.long x0), (.int u1), (.long x1), (.int u2), (.long x2), (.int u3)]) X169 hx hZ hown e169 (own_c_exp l Z a0 hw x2 (1 : Int32) x0 u1 x1 u2 x2 u3 T157.heap) (own_w hw 32 rfl) (own_w hw 33 rfl) (own_w hw 34 rfl) (own_w hw 35 rfl) (by decide) own_pd5 rfl (by rw [hml]; rfl) rfl (hb hby at_170) 1 (by show 2 * 0 + _ ≤ _; exact Nat.le_of_eq rfl) (by decide) (by decide) (by decide) (by decide) ?_
    rintro _ T170 L170 X170 ⟨rfl, rfl, e170⟩
    have N170 := Fr.app N169 (Fr.nil n0)
    show own_E p e below _ (T170.setTop (mkF m 173 #[.val (.long x0), .second, .val (.long x1), .second, .val (.long x2), .second, .val (.long x3), .second, .val (.int x4), .val (.int x5), .val (.int (1 : Int32)), .val (.int u1), .val (.int u2), .val (.int u3), .val (.ref o137), .val (.int (1 : Int32)), .val (.int (1 : Int32)), .unset, .unset] [(.int (own_exp x2 (1 : Int32) x0 u1 x1 u2 x2 u3)), (.int (vf1 (own_at kf1 vf1 x2)))]))
    refine own_g (mkF m 176 #[.val (.long x0), .second, .val (.long x1), .second, .val (.long x2), .second, .val (.long x3), .second, .val (.int x4), .val (.int x5), .val (.int (1 : Int32)), .val (.int u1), .val (.int u2), .val (.int u3), .val (.ref o137), .val (.int (1 : Int32)), .val (.int (1 : Int32)), .unset, .unset] []) (fun _ kz => XS.icmpNo X170.here hx rfl (hb hby at_173) rfl (teq (hget _)).2 kz) ?_
    refine own_g (mkF m 177 #[.val (.long x0), .second, .val (.long x1), .second, .val (.long x2), .second, .val (.long x3), .second, .val (.int x4), .val (.int x5), .val (.int (1 : Int32)), .val (.int u1), .val (.int u2), .val (.int u3), .val (.ref o137), .val (.int (1 : Int32)), .val (.int (1 : Int32)), .unset, .unset] [(.int (1 : Int32))]) (fun _ kz => XS.iconst X170.here hx rfl (hb hby at_176) kz) ?_
    refine own_g (mkF m 181 #[.val (.long x0), .second, .val (.long x1), .second, .val (.long x2), .second, .val (.long x3), .second, .val (.int x4), .val (.int x5), .val (.int (1 : Int32)), .val (.int u1), .val (.int u2), .val (.int u3), .val (.ref o137), .val (.int (1 : Int32)), .val (.int (1 : Int32)), .unset, .unset] [(.int (1 : Int32))]) (fun _ kz => XS.goto X170.here hx rfl (pc0 := 177) (pc' := 181) rfl (hb hby at_177) (by decide) (by decide) kz) ?_
    refine own_g (mkF m 183 #[.val (.long x0), .second, .val (.long x1), .second, .val (.long x2), .second, .val (.long x3), .second, .val (.int x4), .val (.int x5), .val (.int (1 : Int32)), .val (.int u1), .val (.int u2), .val (.int u3), .val (.ref o137), .val (.int (1 : Int32)), .val (.int (1 : Int32)), .val (.int (1 : Int32)), .unset] []) (fun _ kz => XS.istore X170.here hx rfl (hb hby at_181) rfl (l' := #[.val (.long x0), .second, .val (.long x1), .second, .val (.long x2), .second, .val (.long x3), .second, .val (.int x4), .val (.int x5), .val (.int (1 : Int32)), .val (.int u1), .val (.int u2), .val (.int u3), .val (.ref o137), .val (.int (1 : Int32)), .val (.int (1 : Int32)), .val (.int (1 : Int32)), .unset]) rfl kz) ?_
    refine own_g (mkF m 185 #[.val (.long x0), .second, .val (.long x1), .second, .val (.long x2), .second, .val (.long x3), .second, .val (.int x4), .val (.int x5), .val (.int (1 : Int32)), .val (.int u1), .val (.int u2), .val (.int u3), .val (.ref o137), .val (.int (1 : Int32)), .val (.int (1 : Int32)), .val (.int (1 : Int32)), .unset] [(.ref o137)]) (fun _ kz => XS.aload X170.here hx rfl (hb hby at_183) rfl rfl kz) ?_
    refine own_g (mkF m 187 #[.val (.long x0), .second, .val (.long x1), .second, .val (.long x2), .second, .val (.long x3), .second, .val (.int x4), .val (.int x5), .val (.int (1 : Int32)), .val (.int u1), .val (.int u2), .val (.int u3), .val (.ref o137), .val (.int (1 : Int32)), .val (.int (1 : Int32)), .val (.int (1 : Int32)), .unset] [(.long x3), (.ref o137)]) (fun _ kz => XS.lload X170.here hx rfl (hb hby at_185) rfl kz) ?_
    refine own_callV (rest := []) (a := o137) (as := [(.long x3)]) X170 hx hZ hown e170 (own_c_get l Z a0 hw o137 ob oc kf1 vf1 x3 T157.heap (own_stop I1 (by decide) _) Fk157 Fv157 Ak157x Av157x) f158 (own_w hw 23 rfl) (own_w hw 24 rfl) (own_w hw 26 rfl) (own_w hw 25 rfl) (own_w hw 3 rfl) (own_w hw 27 rfl) (by decide) own_pd4 rfl (by rw [hml]; rfl) rfl (hb hby at_187) 0 (by show 2 * 0 + _ ≤ _; exact Nat.le_of_eq rfl) (by decide) (by decide) (by decide) (by decide) ?_
    rintro _ T171 L171 X171 ⟨rfl, rfl, e171⟩
    have N171 := Fr.app N170 (Fr.nil n0)
    show own_E p e below _ (T171.setTop (mkF m 190 #[.val (.long x0), .second, .val (.long x1), .second, .val (.long x2), .second, .val (.long x3), .second, .val (.int x4), .val (.int x5), .val (.int (1 : Int32)), .val (.int u1), .val (.int u2), .val (.int u3), .val (.ref o137), .val (.int (1 : Int32)), .val (.int (1 : Int32)), .val (.int (1 : Int32)), .unset] [(.int (vf1 (own_at kf1 vf1 x3)))]))
    refine own_g (mkF m 192 #[.val (.long x0), .second, .val (.long x1), .second, .val (.long x2), .second, .val (.long x3), .second, .val (.int x4), .val (.int x5), .val (.int (1 : Int32)), .val (.int u1), .val (.int u2), .val (.int u3), .val (.ref o137), .val (.int (1 : Int32)), .val (.int (1 : Int32)), .val (.int (1 : Int32)), .unset] [(.long x3), (.int (vf1 (own_at kf1 vf1 x3)))]) (fun _ kz => XS.lload X171.here hx rfl (hb hby at_190) rfl kz) ?_
    refine own_g (mkF m 194 #[.val (.long x0), .second, .val (.long x1), .second, .val (.long x2), .second, .val (.long x3), .second, .val (.int x4), .val (.int x5), .val (.int (1 : Int32)), .val (.int u1), .val (.int u2), .val (.int u3), .val (.ref o137), .val (.int (1 : Int32)), .val (.int (1 : Int32)), .val (.int (1 : Int32)), .unset] [(.int (1 : Int32)), (.long x3), (.int (vf1 (own_at kf1 vf1 x3)))]) (fun _ kz => XS.iload X171.here hx rfl (hb hby at_192) rfl kz) ?_
    refine own_g (mkF m 195 #[.val (.long x0), .second, .val (.long x1), .second, .val (.long x2), .second, .val (.long x3), .second, .val (.int x4), .val (.int x5), .val (.int (1 : Int32)), .val (.int u1), .val (.int u2), .val (.int u3), .val (.ref o137), .val (.int (1 : Int32)), .val (.int (1 : Int32)), .val (.int (1 : Int32)), .unset] [(.long x0), (.int (1 : Int32)), (.long x3), (.int (vf1 (own_at kf1 vf1 x3)))]) (fun _ kz => XS.lloadN X171.here hx rfl (hb hby at_194) rfl kz) ?_
    refine own_g (mkF m 197 #[.val (.long x0), .second, .val (.long x1), .second, .val (.long x2), .second, .val (.long x3), .second, .val (.int x4), .val (.int x5), .val (.int (1 : Int32)), .val (.int u1), .val (.int u2), .val (.int u3), .val (.ref o137), .val (.int (1 : Int32)), .val (.int (1 : Int32)), .val (.int (1 : Int32)), .unset] [(.int u1), (.long x0), (.int (1 : Int32)), (.long x3), (.int (vf1 (own_at kf1 vf1 x3)))]) (fun _ kz => XS.iload X171.here hx rfl (hb hby at_195) rfl kz) ?_
    refine own_g (mkF m 198 #[.val (.long x0), .second, .val (.long x1), .second, .val (.long x2), .second, .val (.long x3), .second, .val (.int x4), .val (.int x5), .val (.int (1 : Int32)), .val (.int u1), .val (.int u2), .val (.int u3), .val (.ref o137), .val (.int (1 : Int32)), .val (.int (1 : Int32)), .val (.int (1 : Int32)), .unset] [(.long x1), (.int u1), (.long x0), (.int (1 : Int32)), (.long x3), (.int (vf1 (own_at kf1 vf1 x3)))]) (fun _ kz => XS.lloadN X171.here hx rfl (hb hby at_197) rfl kz) ?_
    refine own_g (mkF m 200 #[.val (.long x0), .second, .val (.long x1), .second, .val (.long x2), .second, .val (.long x3), .second, .val (.int x4), .val (.int x5), .val (.int (1 : Int32)), .val (.int u1), .val (.int u2), .val (.int u3), .val (.ref o137), .val (.int (1 : Int32)), .val (.int (1 : Int32)), .val (.int (1 : Int32)), .unset] [(.int u2), (.long x1), (.int u1), (.long x0), (.int (1 : Int32)), (.long x3), (.int (vf1 (own_at kf1 vf1 x3)))]) (fun _ kz => XS.iload X171.here hx rfl (hb hby at_198) rfl kz) ?_
    refine own_g (mkF m 202 #[.val (.long x0), .second, .val (.long x1), .second, .val (.long x2), .second, .val (.long x3), .second, .val (.int x4), .val (.int x5), .val (.int (1 : Int32)), .val (.int u1), .val (.int u2), .val (.int u3), .val (.ref o137), .val (.int (1 : Int32)), .val (.int (1 : Int32)), .val (.int (1 : Int32)), .unset] [(.long x2), (.int u2), (.long x1), (.int u1), (.long x0), (.int (1 : Int32)), (.long x3), (.int (vf1 (own_at kf1 vf1 x3)))]) (fun _ kz => XS.lload X171.here hx rfl (hb hby at_200) rfl kz) ?_
    refine own_g (mkF m 204 #[.val (.long x0), .second, .val (.long x1), .second, .val (.long x2), .second, .val (.long x3), .second, .val (.int x4), .val (.int x5), .val (.int (1 : Int32)), .val (.int u1), .val (.int u2), .val (.int u3), .val (.ref o137), .val (.int (1 : Int32)), .val (.int (1 : Int32)), .val (.int (1 : Int32)), .unset] [(.int u3), (.long x2), (.int u2), (.long x1), (.int u1), (.long x0), (.int (1 : Int32)), (.long x3), (.int (vf1 (own_at kf1 vf1 x3)))]) (fun _ kz => XS.iload X171.here hx rfl (hb hby at_202) rfl kz) ?_
    refine own_callS (rest := [(.int (vf1 (own_at kf1 vf1 x3)))]) (as := [(.long x3), (.int (1 : Int32)), (.long x0), (.int u1), (.long x1), (.int u2), (.long x2), (.int u3)]) X171 hx hZ hown e171 (own_c_exp l Z a0 hw x3 (1 : Int32) x0 u1 x1 u2 x2 u3 T157.heap) (own_w hw 32 rfl) (own_w hw 33 rfl) (own_w hw 34 rfl) (own_w hw 35 rfl) (by decide) own_pd5 rfl (by rw [hml]; rfl) rfl (hb hby at_204) 1 (by show 2 * 0 + _ ≤ _; exact Nat.le_of_eq rfl) (by decide) (by decide) (by decide) (by decide) ?_
    rintro _ T172 L172 X172 ⟨rfl, rfl, e172⟩
    have N172 := Fr.app N171 (Fr.nil n0)
    show own_E p e below _ (T172.setTop (mkF m 207 #[.val (.long x0), .second, .val (.long x1), .second, .val (.long x2), .second, .val (.long x3), .second, .val (.int x4), .val (.int x5), .val (.int (1 : Int32)), .val (.int u1), .val (.int u2), .val (.int u3), .val (.ref o137), .val (.int (1 : Int32)), .val (.int (1 : Int32)), .val (.int (1 : Int32)), .unset] [(.int (own_exp x3 (1 : Int32) x0 u1 x1 u2 x2 u3)), (.int (vf1 (own_at kf1 vf1 x3)))]))
    refine own_g (mkF m 210 #[.val (.long x0), .second, .val (.long x1), .second, .val (.long x2), .second, .val (.long x3), .second, .val (.int x4), .val (.int x5), .val (.int (1 : Int32)), .val (.int u1), .val (.int u2), .val (.int u3), .val (.ref o137), .val (.int (1 : Int32)), .val (.int (1 : Int32)), .val (.int (1 : Int32)), .unset] []) (fun _ kz => XS.icmpNo X172.here hx rfl (hb hby at_207) rfl (teq (hget _)).2 kz) ?_
    refine own_g (mkF m 211 #[.val (.long x0), .second, .val (.long x1), .second, .val (.long x2), .second, .val (.long x3), .second, .val (.int x4), .val (.int x5), .val (.int (1 : Int32)), .val (.int u1), .val (.int u2), .val (.int u3), .val (.ref o137), .val (.int (1 : Int32)), .val (.int (1 : Int32)), .val (.int (1 : Int32)), .unset] [(.int (1 : Int32))]) (fun _ kz => XS.iconst X172.here hx rfl (hb hby at_210) kz) ?_
    refine own_g (mkF m 215 #[.val (.long x0), .second, .val (.long x1), .second, .val (.long x2), .second, .val (.long x3), .second, .val (.int x4), .val (.int x5), .val (.int (1 : Int32)), .val (.int u1), .val (.int u2), .val (.int u3), .val (.ref o137), .val (.int (1 : Int32)), .val (.int (1 : Int32)), .val (.int (1 : Int32)), .unset] [(.int (1 : Int32))]) (fun _ kz => XS.goto X172.here hx rfl (pc0 := 211) (pc' := 215) rfl (hb hby at_211) (by decide) (by decide) kz) ?_
    refine own_g (mkF m 217 #[.val (.long x0), .second, .val (.long x1), .second, .val (.long x2), .second, .val (.long x3), .second, .val (.int x4), .val (.int x5), .val (.int (1 : Int32)), .val (.int u1), .val (.int u2), .val (.int u3), .val (.ref o137), .val (.int (1 : Int32)), .val (.int (1 : Int32)), .val (.int (1 : Int32)), .val (.int (1 : Int32))] []) (fun _ kz => XS.istore X172.here hx rfl (hb hby at_215) rfl (l' := #[.val (.long x0), .second, .val (.long x1), .second, .val (.long x2), .second, .val (.long x3), .second, .val (.int x4), .val (.int x5), .val (.int (1 : Int32)), .val (.int u1), .val (.int u2), .val (.int u3), .val (.ref o137), .val (.int (1 : Int32)), .val (.int (1 : Int32)), .val (.int (1 : Int32)), .val (.int (1 : Int32))]) rfl kz) ?_
    refine own_g (mkF m 219 #[.val (.long x0), .second, .val (.long x1), .second, .val (.long x2), .second, .val (.long x3), .second, .val (.int x4), .val (.int x5), .val (.int (1 : Int32)), .val (.int u1), .val (.int u2), .val (.int u3), .val (.ref o137), .val (.int (1 : Int32)), .val (.int (1 : Int32)), .val (.int (1 : Int32)), .val (.int (1 : Int32))] [(.int (1 : Int32))]) (fun _ kz => XS.iload X172.here hx rfl (hb hby at_217) rfl kz) ?_
    refine own_g (mkF m 222 #[.val (.long x0), .second, .val (.long x1), .second, .val (.long x2), .second, .val (.long x3), .second, .val (.int x4), .val (.int x5), .val (.int (1 : Int32)), .val (.int u1), .val (.int u2), .val (.int u3), .val (.ref o137), .val (.int (1 : Int32)), .val (.int (1 : Int32)), .val (.int (1 : Int32)), .val (.int (1 : Int32))] []) (fun _ kz => XS.ifNo X172.here hx rfl (hb hby at_219) rfl ((if0 _ _).trans (feq (by decide)).1) kz) ?_
    refine own_g (mkF m 224 #[.val (.long x0), .second, .val (.long x1), .second, .val (.long x2), .second, .val (.long x3), .second, .val (.int x4), .val (.int x5), .val (.int (1 : Int32)), .val (.int u1), .val (.int u2), .val (.int u3), .val (.ref o137), .val (.int (1 : Int32)), .val (.int (1 : Int32)), .val (.int (1 : Int32)), .val (.int (1 : Int32))] [(.int (1 : Int32))]) (fun _ kz => XS.iload X172.here hx rfl (hb hby at_222) rfl kz) ?_
    refine own_g (mkF m 227 #[.val (.long x0), .second, .val (.long x1), .second, .val (.long x2), .second, .val (.long x3), .second, .val (.int x4), .val (.int x5), .val (.int (1 : Int32)), .val (.int u1), .val (.int u2), .val (.int u3), .val (.ref o137), .val (.int (1 : Int32)), .val (.int (1 : Int32)), .val (.int (1 : Int32)), .val (.int (1 : Int32))] []) (fun _ kz => XS.ifNo X172.here hx rfl (hb hby at_224) rfl ((if0 _ _).trans (feq (by decide)).1) kz) ?_
    refine own_g (mkF m 229 #[.val (.long x0), .second, .val (.long x1), .second, .val (.long x2), .second, .val (.long x3), .second, .val (.int x4), .val (.int x5), .val (.int (1 : Int32)), .val (.int u1), .val (.int u2), .val (.int u3), .val (.ref o137), .val (.int (1 : Int32)), .val (.int (1 : Int32)), .val (.int (1 : Int32)), .val (.int (1 : Int32))] [(.int (1 : Int32))]) (fun _ kz => XS.iload X172.here hx rfl (hb hby at_227) rfl kz) ?_
    refine own_g (mkF m 232 #[.val (.long x0), .second, .val (.long x1), .second, .val (.long x2), .second, .val (.long x3), .second, .val (.int x4), .val (.int x5), .val (.int (1 : Int32)), .val (.int u1), .val (.int u2), .val (.int u3), .val (.ref o137), .val (.int (1 : Int32)), .val (.int (1 : Int32)), .val (.int (1 : Int32)), .val (.int (1 : Int32))] []) (fun _ kz => XS.ifNo X172.here hx rfl (hb hby at_229) rfl ((if0 _ _).trans (feq (by decide)).1) kz) ?_
    refine own_g (mkF m 234 #[.val (.long x0), .second, .val (.long x1), .second, .val (.long x2), .second, .val (.long x3), .second, .val (.int x4), .val (.int x5), .val (.int (1 : Int32)), .val (.int u1), .val (.int u2), .val (.int u3), .val (.ref o137), .val (.int (1 : Int32)), .val (.int (1 : Int32)), .val (.int (1 : Int32)), .val (.int (1 : Int32))] [(.int (1 : Int32))]) (fun _ kz => XS.iload X172.here hx rfl (hb hby at_232) rfl kz) ?_
    refine own_g (mkF m 237 #[.val (.long x0), .second, .val (.long x1), .second, .val (.long x2), .second, .val (.long x3), .second, .val (.int x4), .val (.int x5), .val (.int (1 : Int32)), .val (.int u1), .val (.int u2), .val (.int u3), .val (.ref o137), .val (.int (1 : Int32)), .val (.int (1 : Int32)), .val (.int (1 : Int32)), .val (.int (1 : Int32))] []) (fun _ kz => XS.ifNo X172.here hx rfl (hb hby at_234) rfl ((if0 _ _).trans (feq (by decide)).1) kz) ?_
    refine own_g (mkF m 238 #[.val (.long x0), .second, .val (.long x1), .second, .val (.long x2), .second, .val (.long x3), .second, .val (.int x4), .val (.int x5), .val (.int (1 : Int32)), .val (.int u1), .val (.int u2), .val (.int u3), .val (.ref o137), .val (.int (1 : Int32)), .val (.int (1 : Int32)), .val (.int (1 : Int32)), .val (.int (1 : Int32))] [(.int (1 : Int32))]) (fun _ kz => XS.iconst X172.here hx rfl (hb hby at_237) kz) ?_
    refine own_g (mkF m 242 #[.val (.long x0), .second, .val (.long x1), .second, .val (.long x2), .second, .val (.long x3), .second, .val (.int x4), .val (.int x5), .val (.int (1 : Int32)), .val (.int u1), .val (.int u2), .val (.int u3), .val (.ref o137), .val (.int (1 : Int32)), .val (.int (1 : Int32)), .val (.int (1 : Int32)), .val (.int (1 : Int32))] [(.int (1 : Int32))]) (fun _ kz => XS.goto X172.here hx rfl (pc0 := 238) (pc' := 242) rfl (hb hby at_238) (by decide) (by decide) kz) ?_
    exact own_retZ X172 hx hret hlk (hb hby at_242) rfl (by decide) (by decide) (by first | exact ⟨rfl, N172⟩ | (rw [e172]; exact ⟨rfl, N172⟩))
  · rw [hl]
    show own_E p e below _ (T143.setTop (mkF m 42 #[.val (.long x0), .second, .val (.long x1), .second, .val (.long x2), .second, .val (.long x3), .second, .val (.int x4), .val (.int x5), .val (.int (2 : Int32)), .val (.int u1), .val (.int u2), .val (.int u3), .val (.ref o137), .unset, .unset, .unset, .unset] [(.int (1 : Int32)), (.int (2 : Int32))]))
    have G0 : ∀ x : Int64, (fun _ => (-1 : Int32)) (own_at (fun _ => (0 : Int64)) (fun _ => (-1 : Int32)) x) = -1 := fun _ => rfl
    refine own_g (mkF m 45 #[.val (.long x0), .second, .val (.long x1), .second, .val (.long x2), .second, .val (.long x3), .second, .val (.int x4), .val (.int x5), .val (.int (2 : Int32)), .val (.int u1), .val (.int u2), .val (.int u3), .val (.ref o137), .unset, .unset, .unset, .unset] []) (fun _ kz => XS.icmpNo X143.here hx rfl (hb hby at_42) rfl (flt (by decide)).1 kz) ?_
    refine own_g (mkF m 47 #[.val (.long x0), .second, .val (.long x1), .second, .val (.long x2), .second, .val (.long x3), .second, .val (.int x4), .val (.int x5), .val (.int (2 : Int32)), .val (.int u1), .val (.int u2), .val (.int u3), .val (.ref o137), .unset, .unset, .unset, .unset] [(.ref o137)]) (fun _ kz => XS.aload X143.here hx rfl (hb hby at_45) rfl rfl kz) ?_
    refine own_g (mkF m 48 #[.val (.long x0), .second, .val (.long x1), .second, .val (.long x2), .second, .val (.long x3), .second, .val (.int x4), .val (.int x5), .val (.int (2 : Int32)), .val (.int u1), .val (.int u2), .val (.int u3), .val (.ref o137), .unset, .unset, .unset, .unset] [(.long x0), (.ref o137)]) (fun _ kz => XS.lloadN X143.here hx rfl (hb hby at_47) rfl kz) ?_
    refine own_g (mkF m 50 #[.val (.long x0), .second, .val (.long x1), .second, .val (.long x2), .second, .val (.long x3), .second, .val (.int x4), .val (.int x5), .val (.int (2 : Int32)), .val (.int u1), .val (.int u2), .val (.int u3), .val (.ref o137), .unset, .unset, .unset, .unset] [(.int u1), (.long x0), (.ref o137)]) (fun _ kz => XS.iload X143.here hx rfl (hb hby at_48) rfl kz) ?_
    refine own_callV (rest := []) (a := o137) (as := [(.long x0), (.int u1)]) X143 hx hZ hown rfl (own_c_put l Z a0 hw o137 ob oc (fun _ => (0 : Int64)) (fun _ => (-1 : Int32)) x0 u1 0 T143.heap n0 s148 (own_stop I0 (by decide) _) Fk143 Fv143 Ak143 Av143 nu1 (by omega) b138 gob goc nab nac nbc f144 Fs143) f144 (own_w hw 36 rfl) (own_w hw 37 rfl) (own_w hw 39 rfl) (own_w hw 38 rfl) (own_w hw 3 rfl) (own_w hw 40 rfl) (by decide) own_pd2 rfl (by rw [hml]; rfl) rfl (hb hby at_50) 0 (by show 2 * 0 + _ ≤ _; exact Nat.le_of_eq rfl) (by decide) (by decide) (by decide) (by decide) ?_
    rintro _ T173 L173 X173 ⟨rp173, sz173, rfl, Nq173, K173, lz173, Fk173, Fv173, Fs173, Ak173, Av173⟩
    have N173 := Fr.app N143 Nq173
    have f174 := Exa.keep f144 K173
    have s180 : n0 ≤ T173.heap.size := Nat.le_trans s148 K173.1
    show own_E p e below _ (T173.setTop (mkF m 53 #[.val (.long x0), .second, .val (.long x1), .second, .val (.long x2), .second, .val (.long x3), .second, .val (.int x4), .val (.int x5), .val (.int (2 : Int32)), .val (.int u1), .val (.int u2), .val (.int u3), .val (.ref o137), .unset, .unset, .unset, .unset] [(.int rp173)]))
    obtain ⟨kf1, vf1, ekf1, evf1, I1, G1, Ak173x, Av173x⟩ : ∃ K V, K = own_pk (fun _ => (0 : Int64)) (fun _ => (-1 : Int32)) x0 ∧ V = own_pv (fun _ => (0 : Int64)) (fun _ => (-1 : Int32)) x0 u1 ∧ own_Inv 1 K V ∧ (∀ x, V (own_at K V x) = if (fun _ => (-1 : Int32)) (own_at (fun _ => (0 : Int64)) (fun _ => (-1 : Int32)) x0) = -1 ∧ x = x0 then u1 else (fun _ => (-1 : Int32)) (own_at (fun _ => (0 : Int64)) (fun _ => (-1 : Int32)) x)) ∧ own_JA Z T173.heap ob 64 K ∧ own_IA Z T173.heap oc .int 64 V := ⟨_, _, rfl, rfl, own_inv1 I0 (own_nm nu1), fun x => own_get1 I0 (by decide) (own_nm nu1) x, Ak173, Av173⟩
    have lz173' : sz173 ≤ 1 := by omega
    refine own_g (mkF m 54 #[.val (.long x0), .second, .val (.long x1), .second, .val (.long x2), .second, .val (.long x3), .second, .val (.int x4), .val (.int x5), .val (.int (2 : Int32)), .val (.int u1), .val (.int u2), .val (.int u3), .val (.ref o137), .unset, .unset, .unset, .unset] []) (fun _ kz => XS.pop X173.here hx rfl (hb hby at_53) rfl rfl kz) ?_
    refine own_g (mkF m 56 #[.val (.long x0), .second, .val (.long x1), .second, .val (.long x2), .second, .val (.long x3), .second, .val (.int x4), .val (.int x5), .val (.int (2 : Int32)), .val (.int u1), .val (.int u2), .val (.int u3), .val (.ref o137), .unset, .unset, .unset, .unset] [(.int (2 : Int32))]) (fun _ kz => XS.iload X173.here hx rfl (hb hby at_54) rfl kz) ?_
    refine own_g (mkF m 57 #[.val (.long x0), .second, .val (.long x1), .second, .val (.long x2), .second, .val (.long x3), .second, .val (.int x4), .val (.int x5), .val (.int (2 : Int32)), .val (.int u1), .val (.int u2), .val (.int u3), .val (.ref o137), .unset, .unset, .unset, .unset] [(.int (2 : Int32)), (.int (2 : Int32))]) (fun _ kz => XS.iconst X173.here hx rfl (hb hby at_56) kz) ?_
    refine own_g (mkF m 60 #[.val (.long x0), .second, .val (.long x1), .second, .val (.long x2), .second, .val (.long x3), .second, .val (.int x4), .val (.int x5), .val (.int (2 : Int32)), .val (.int u1), .val (.int u2), .val (.int u3), .val (.ref o137), .unset, .unset, .unset, .unset] []) (fun _ kz => XS.icmpNo X173.here hx rfl (hb hby at_57) rfl (flt (by decide)).1 kz) ?_
    refine own_g (mkF m 62 #[.val (.long x0), .second, .val (.long x1), .second, .val (.long x2), .second, .val (.long x3), .second, .val (.int x4), .val (.int x5), .val (.int (2 : Int32)), .val (.int u1), .val (.int u2), .val (.int u3), .val (.ref o137), .unset, .unset, .unset, .unset] [(.ref o137)]) (fun _ kz => XS.aload X173.here hx rfl (hb hby at_60) rfl rfl kz) ?_
    refine own_g (mkF m 63 #[.val (.long x0), .second, .val (.long x1), .second, .val (.long x2), .second, .val (.long x3), .second, .val (.int x4), .val (.int x5), .val (.int (2 : Int32)), .val (.int u1), .val (.int u2), .val (.int u3), .val (.ref o137), .unset, .unset, .unset, .unset] [(.long x1), (.ref o137)]) (fun _ kz => XS.lloadN X173.here hx rfl (hb hby at_62) rfl kz) ?_
    refine own_g (mkF m 65 #[.val (.long x0), .second, .val (.long x1), .second, .val (.long x2), .second, .val (.long x3), .second, .val (.int x4), .val (.int x5), .val (.int (2 : Int32)), .val (.int u1), .val (.int u2), .val (.int u3), .val (.ref o137), .unset, .unset, .unset, .unset] [(.int u2), (.long x1), (.ref o137)]) (fun _ kz => XS.iload X173.here hx rfl (hb hby at_63) rfl kz) ?_
    refine own_callV (rest := []) (a := o137) (as := [(.long x1), (.int u2)]) X173 hx hZ hown rfl (own_c_put l Z a0 hw o137 ob oc kf1 vf1 x1 u2 sz173 T173.heap n0 s180 (own_stop I1 (by decide) _) Fk173 Fv173 Ak173x Av173x nu2 (by omega) b138 gob goc nab nac nbc f174 Fs173) f174 (own_w hw 36 rfl) (own_w hw 37 rfl) (own_w hw 39 rfl) (own_w hw 38 rfl) (own_w hw 3 rfl) (own_w hw 40 rfl) (by decide) own_pd2 rfl (by rw [hml]; rfl) rfl (hb hby at_65) 0 (by show 2 * 0 + _ ≤ _; exact Nat.le_of_eq rfl) (by decide) (by decide) (by decide) (by decide) ?_
    rintro _ T181 L181 X181 ⟨rp181, sz181, rfl, Nq181, K181, lz181, Fk181, Fv181, Fs181, Ak181, Av181⟩
    have N181 := Fr.app N173 Nq181
    have f182 := Exa.keep f174 K181
    have s188 : n0 ≤ T181.heap.size := Nat.le_trans s180 K181.1
    show own_E p e below _ (T181.setTop (mkF m 68 #[.val (.long x0), .second, .val (.long x1), .second, .val (.long x2), .second, .val (.long x3), .second, .val (.int x4), .val (.int x5), .val (.int (2 : Int32)), .val (.int u1), .val (.int u2), .val (.int u3), .val (.ref o137), .unset, .unset, .unset, .unset] [(.int rp181)]))
    obtain ⟨kf2, vf2, ekf2, evf2, I2, G2, Ak181x, Av181x⟩ : ∃ K V, K = own_pk kf1 vf1 x1 ∧ V = own_pv kf1 vf1 x1 u2 ∧ own_Inv 2 K V ∧ (∀ x, V (own_at K V x) = if vf1 (own_at kf1 vf1 x1) = -1 ∧ x = x1 then u2 else vf1 (own_at kf1 vf1 x)) ∧ own_JA Z T181.heap ob 64 K ∧ own_IA Z T181.heap oc .int 64 V := ⟨_, _, rfl, rfl, own_inv1 I1 (own_nm nu2), fun x => own_get1 I1 (by decide) (own_nm nu2) x, Ak181, Av181⟩
    have lz181' : sz181 ≤ 2 := by omega
    refine own_g (mkF m 69 #[.val (.long x0), .second, .val (.long x1), .second, .val (.long x2), .second, .val (.long x3), .second, .val (.int x4), .val (.int x5), .val (.int (2 : Int32)), .val (.int u1), .val (.int u2), .val (.int u3), .val (.ref o137), .unset, .unset, .unset, .unset] []) (fun _ kz => XS.pop X181.here hx rfl (hb hby at_68) rfl rfl kz) ?_
    refine own_g (mkF m 71 #[.val (.long x0), .second, .val (.long x1), .second, .val (.long x2), .second, .val (.long x3), .second, .val (.int x4), .val (.int x5), .val (.int (2 : Int32)), .val (.int u1), .val (.int u2), .val (.int u3), .val (.ref o137), .unset, .unset, .unset, .unset] [(.int (2 : Int32))]) (fun _ kz => XS.iload X181.here hx rfl (hb hby at_69) rfl kz) ?_
    refine own_g (mkF m 72 #[.val (.long x0), .second, .val (.long x1), .second, .val (.long x2), .second, .val (.long x3), .second, .val (.int x4), .val (.int x5), .val (.int (2 : Int32)), .val (.int u1), .val (.int u2), .val (.int u3), .val (.ref o137), .unset, .unset, .unset, .unset] [(.int (3 : Int32)), (.int (2 : Int32))]) (fun _ kz => XS.iconst X181.here hx rfl (hb hby at_71) kz) ?_
    refine own_g (mkF m 85 #[.val (.long x0), .second, .val (.long x1), .second, .val (.long x2), .second, .val (.long x3), .second, .val (.int x4), .val (.int x5), .val (.int (2 : Int32)), .val (.int u1), .val (.int u2), .val (.int u3), .val (.ref o137), .unset, .unset, .unset, .unset] []) (fun _ kz => XS.icmpYes X181.here hx rfl (pc0 := 72) (pc' := 85) rfl (hb hby at_72) rfl (tlt (by decide)).1 (by decide) (by decide) kz) ?_
    refine own_g (mkF m 87 #[.val (.long x0), .second, .val (.long x1), .second, .val (.long x2), .second, .val (.long x3), .second, .val (.int x4), .val (.int x5), .val (.int (2 : Int32)), .val (.int u1), .val (.int u2), .val (.int u3), .val (.ref o137), .unset, .unset, .unset, .unset] [(.ref o137)]) (fun _ kz => XS.aload X181.here hx rfl (hb hby at_85) rfl rfl kz) ?_
    refine own_g (mkF m 88 #[.val (.long x0), .second, .val (.long x1), .second, .val (.long x2), .second, .val (.long x3), .second, .val (.int x4), .val (.int x5), .val (.int (2 : Int32)), .val (.int u1), .val (.int u2), .val (.int u3), .val (.ref o137), .unset, .unset, .unset, .unset] [(.long x0), (.ref o137)]) (fun _ kz => XS.lloadN X181.here hx rfl (hb hby at_87) rfl kz) ?_
    have hget : ∀ x, vf2 (own_at kf2 vf2 x) = own_exp x 2 x0 u1 x1 u2 x2 u3 := by
      intro x
      exact own_y2 (g0 := fun x => (fun _ => (-1 : Int32)) (own_at (fun _ => (0 : Int64)) (fun _ => (-1 : Int32)) x)) (g1 := fun x => vf1 (own_at kf1 vf1 x)) (g2 := fun x => vf2 (own_at kf2 vf2 x)) (own_nm nu1) G0 G1 G2 x
    refine own_callV (rest := []) (a := o137) (as := [(.long x0)]) X181 hx hZ hown rfl (own_c_get l Z a0 hw o137 ob oc kf2 vf2 x0 T181.heap (own_stop I2 (by decide) _) Fk181 Fv181 Ak181x Av181x) f182 (own_w hw 23 rfl) (own_w hw 24 rfl) (own_w hw 26 rfl) (own_w hw 25 rfl) (own_w hw 3 rfl) (own_w hw 27 rfl) (by decide) own_pd4 rfl (by rw [hml]; rfl) rfl (hb hby at_88) 0 (by show 2 * 0 + _ ≤ _; exact Nat.le_of_eq rfl) (by decide) (by decide) (by decide) (by decide) ?_
    rintro _ T189 L189 X189 ⟨rfl, rfl, e189⟩
    have N189 := Fr.app N181 (Fr.nil n0)
    show own_E p e below _ (T189.setTop (mkF m 91 #[.val (.long x0), .second, .val (.long x1), .second, .val (.long x2), .second, .val (.long x3), .second, .val (.int x4), .val (.int x5), .val (.int (2 : Int32)), .val (.int u1), .val (.int u2), .val (.int u3), .val (.ref o137), .unset, .unset, .unset, .unset] [(.int (vf2 (own_at kf2 vf2 x0)))]))
    refine own_g (mkF m 92 #[.val (.long x0), .second, .val (.long x1), .second, .val (.long x2), .second, .val (.long x3), .second, .val (.int x4), .val (.int x5), .val (.int (2 : Int32)), .val (.int u1), .val (.int u2), .val (.int u3), .val (.ref o137), .unset, .unset, .unset, .unset] [(.long x0), (.int (vf2 (own_at kf2 vf2 x0)))]) (fun _ kz => XS.lloadN X189.here hx rfl (hb hby at_91) rfl kz) ?_
    refine own_g (mkF m 94 #[.val (.long x0), .second, .val (.long x1), .second, .val (.long x2), .second, .val (.long x3), .second, .val (.int x4), .val (.int x5), .val (.int (2 : Int32)), .val (.int u1), .val (.int u2), .val (.int u3), .val (.ref o137), .unset, .unset, .unset, .unset] [(.int (2 : Int32)), (.long x0), (.int (vf2 (own_at kf2 vf2 x0)))]) (fun _ kz => XS.iload X189.here hx rfl (hb hby at_92) rfl kz) ?_
    refine own_g (mkF m 95 #[.val (.long x0), .second, .val (.long x1), .second, .val (.long x2), .second, .val (.long x3), .second, .val (.int x4), .val (.int x5), .val (.int (2 : Int32)), .val (.int u1), .val (.int u2), .val (.int u3), .val (.ref o137), .unset, .unset, .unset, .unset] [(.long x0), (.int (2 : Int32)), (.long x0), (.int (vf2 (own_at kf2 vf2 x0)))]) (fun _ kz => XS.lloadN X189.here hx rfl (hb hby at_94) rfl kz) ?_
    refine own_g (mkF m 97 #[.val (.long x0), .second, .val (.long x1), .second, .val (.long x2), .second, .val (.long x3), .second, .val (.int x4), .val (.int x5), .val (.int (2 : Int32)), .val (.int u1), .val (.int u2), .val (.int u3), .val (.ref o137), .unset, .unset, .unset, .unset] [(.int u1), (.long x0), (.int (2 : Int32)), (.long x0), (.int (vf2 (own_at kf2 vf2 x0)))]) (fun _ kz => XS.iload X189.here hx rfl (hb hby at_95) rfl kz) ?_
    refine own_g (mkF m 98 #[.val (.long x0), .second, .val (.long x1), .second, .val (.long x2), .second, .val (.long x3), .second, .val (.int x4), .val (.int x5), .val (.int (2 : Int32)), .val (.int u1), .val (.int u2), .val (.int u3), .val (.ref o137), .unset, .unset, .unset, .unset] [(.long x1), (.int u1), (.long x0), (.int (2 : Int32)), (.long x0), (.int (vf2 (own_at kf2 vf2 x0)))]) (fun _ kz => XS.lloadN X189.here hx rfl (hb hby at_97) rfl kz) ?_
    refine own_g (mkF m 100 #[.val (.long x0), .second, .val (.long x1), .second, .val (.long x2), .second, .val (.long x3), .second, .val (.int x4), .val (.int x5), .val (.int (2 : Int32)), .val (.int u1), .val (.int u2), .val (.int u3), .val (.ref o137), .unset, .unset, .unset, .unset] [(.int u2), (.long x1), (.int u1), (.long x0), (.int (2 : Int32)), (.long x0), (.int (vf2 (own_at kf2 vf2 x0)))]) (fun _ kz => XS.iload X189.here hx rfl (hb hby at_98) rfl kz) ?_
    refine own_g (mkF m 102 #[.val (.long x0), .second, .val (.long x1), .second, .val (.long x2), .second, .val (.long x3), .second, .val (.int x4), .val (.int x5), .val (.int (2 : Int32)), .val (.int u1), .val (.int u2), .val (.int u3), .val (.ref o137), .unset, .unset, .unset, .unset] [(.long x2), (.int u2), (.long x1), (.int u1), (.long x0), (.int (2 : Int32)), (.long x0), (.int (vf2 (own_at kf2 vf2 x0)))]) (fun _ kz => XS.lload X189.here hx rfl (hb hby at_100) rfl kz) ?_
    refine own_g (mkF m 104 #[.val (.long x0), .second, .val (.long x1), .second, .val (.long x2), .second, .val (.long x3), .second, .val (.int x4), .val (.int x5), .val (.int (2 : Int32)), .val (.int u1), .val (.int u2), .val (.int u3), .val (.ref o137), .unset, .unset, .unset, .unset] [(.int u3), (.long x2), (.int u2), (.long x1), (.int u1), (.long x0), (.int (2 : Int32)), (.long x0), (.int (vf2 (own_at kf2 vf2 x0)))]) (fun _ kz => XS.iload X189.here hx rfl (hb hby at_102) rfl kz) ?_
    refine own_callS (rest := [(.int (vf2 (own_at kf2 vf2 x0)))]) (as := [(.long x0), (.int (2 : Int32)), (.long x0), (.int u1), (.long x1), (.int u2), (.long x2), (.int u3)]) X189 hx hZ hown e189 (own_c_exp l Z a0 hw x0 (2 : Int32) x0 u1 x1 u2 x2 u3 T181.heap) (own_w hw 32 rfl) (own_w hw 33 rfl) (own_w hw 34 rfl) (own_w hw 35 rfl) (by decide) own_pd5 rfl (by rw [hml]; rfl) rfl (hb hby at_104) 1 (by show 2 * 0 + _ ≤ _; exact Nat.le_of_eq rfl) (by decide) (by decide) (by decide) (by decide) ?_
    rintro _ T190 L190 X190 ⟨rfl, rfl, e190⟩
    have N190 := Fr.app N189 (Fr.nil n0)
    show own_E p e below _ (T190.setTop (mkF m 107 #[.val (.long x0), .second, .val (.long x1), .second, .val (.long x2), .second, .val (.long x3), .second, .val (.int x4), .val (.int x5), .val (.int (2 : Int32)), .val (.int u1), .val (.int u2), .val (.int u3), .val (.ref o137), .unset, .unset, .unset, .unset] [(.int (own_exp x0 (2 : Int32) x0 u1 x1 u2 x2 u3)), (.int (vf2 (own_at kf2 vf2 x0)))]))
    refine own_g (mkF m 110 #[.val (.long x0), .second, .val (.long x1), .second, .val (.long x2), .second, .val (.long x3), .second, .val (.int x4), .val (.int x5), .val (.int (2 : Int32)), .val (.int u1), .val (.int u2), .val (.int u3), .val (.ref o137), .unset, .unset, .unset, .unset] []) (fun _ kz => XS.icmpNo X190.here hx rfl (hb hby at_107) rfl (teq (hget _)).2 kz) ?_
    refine own_g (mkF m 111 #[.val (.long x0), .second, .val (.long x1), .second, .val (.long x2), .second, .val (.long x3), .second, .val (.int x4), .val (.int x5), .val (.int (2 : Int32)), .val (.int u1), .val (.int u2), .val (.int u3), .val (.ref o137), .unset, .unset, .unset, .unset] [(.int (1 : Int32))]) (fun _ kz => XS.iconst X190.here hx rfl (hb hby at_110) kz) ?_
    refine own_g (mkF m 115 #[.val (.long x0), .second, .val (.long x1), .second, .val (.long x2), .second, .val (.long x3), .second, .val (.int x4), .val (.int x5), .val (.int (2 : Int32)), .val (.int u1), .val (.int u2), .val (.int u3), .val (.ref o137), .unset, .unset, .unset, .unset] [(.int (1 : Int32))]) (fun _ kz => XS.goto X190.here hx rfl (pc0 := 111) (pc' := 115) rfl (hb hby at_111) (by decide) (by decide) kz) ?_
    refine own_g (mkF m 117 #[.val (.long x0), .second, .val (.long x1), .second, .val (.long x2), .second, .val (.long x3), .second, .val (.int x4), .val (.int x5), .val (.int (2 : Int32)), .val (.int u1), .val (.int u2), .val (.int u3), .val (.ref o137), .val (.int (1 : Int32)), .unset, .unset, .unset] []) (fun _ kz => XS.istore X190.here hx rfl (hb hby at_115) rfl (l' := #[.val (.long x0), .second, .val (.long x1), .second, .val (.long x2), .second, .val (.long x3), .second, .val (.int x4), .val (.int x5), .val (.int (2 : Int32)), .val (.int u1), .val (.int u2), .val (.int u3), .val (.ref o137), .val (.int (1 : Int32)), .unset, .unset, .unset]) rfl kz) ?_
    refine own_g (mkF m 119 #[.val (.long x0), .second, .val (.long x1), .second, .val (.long x2), .second, .val (.long x3), .second, .val (.int x4), .val (.int x5), .val (.int (2 : Int32)), .val (.int u1), .val (.int u2), .val (.int u3), .val (.ref o137), .val (.int (1 : Int32)), .unset, .unset, .unset] [(.ref o137)]) (fun _ kz => XS.aload X190.here hx rfl (hb hby at_117) rfl rfl kz) ?_
    refine own_g (mkF m 120 #[.val (.long x0), .second, .val (.long x1), .second, .val (.long x2), .second, .val (.long x3), .second, .val (.int x4), .val (.int x5), .val (.int (2 : Int32)), .val (.int u1), .val (.int u2), .val (.int u3), .val (.ref o137), .val (.int (1 : Int32)), .unset, .unset, .unset] [(.long x1), (.ref o137)]) (fun _ kz => XS.lloadN X190.here hx rfl (hb hby at_119) rfl kz) ?_
    refine own_callV (rest := []) (a := o137) (as := [(.long x1)]) X190 hx hZ hown e190 (own_c_get l Z a0 hw o137 ob oc kf2 vf2 x1 T181.heap (own_stop I2 (by decide) _) Fk181 Fv181 Ak181x Av181x) f182 (own_w hw 23 rfl) (own_w hw 24 rfl) (own_w hw 26 rfl) (own_w hw 25 rfl) (own_w hw 3 rfl) (own_w hw 27 rfl) (by decide) own_pd4 rfl (by rw [hml]; rfl) rfl (hb hby at_120) 0 (by show 2 * 0 + _ ≤ _; exact Nat.le_of_eq rfl) (by decide) (by decide) (by decide) (by decide) ?_
    rintro _ T191 L191 X191 ⟨rfl, rfl, e191⟩
    have N191 := Fr.app N190 (Fr.nil n0)
    show own_E p e below _ (T191.setTop (mkF m 123 #[.val (.long x0), .second, .val (.long x1), .second, .val (.long x2), .second, .val (.long x3), .second, .val (.int x4), .val (.int x5), .val (.int (2 : Int32)), .val (.int u1), .val (.int u2), .val (.int u3), .val (.ref o137), .val (.int (1 : Int32)), .unset, .unset, .unset] [(.int (vf2 (own_at kf2 vf2 x1)))]))
    refine own_g (mkF m 124 #[.val (.long x0), .second, .val (.long x1), .second, .val (.long x2), .second, .val (.long x3), .second, .val (.int x4), .val (.int x5), .val (.int (2 : Int32)), .val (.int u1), .val (.int u2), .val (.int u3), .val (.ref o137), .val (.int (1 : Int32)), .unset, .unset, .unset] [(.long x1), (.int (vf2 (own_at kf2 vf2 x1)))]) (fun _ kz => XS.lloadN X191.here hx rfl (hb hby at_123) rfl kz) ?_
    refine own_g (mkF m 126 #[.val (.long x0), .second, .val (.long x1), .second, .val (.long x2), .second, .val (.long x3), .second, .val (.int x4), .val (.int x5), .val (.int (2 : Int32)), .val (.int u1), .val (.int u2), .val (.int u3), .val (.ref o137), .val (.int (1 : Int32)), .unset, .unset, .unset] [(.int (2 : Int32)), (.long x1), (.int (vf2 (own_at kf2 vf2 x1)))]) (fun _ kz => XS.iload X191.here hx rfl (hb hby at_124) rfl kz) ?_
    refine own_g (mkF m 127 #[.val (.long x0), .second, .val (.long x1), .second, .val (.long x2), .second, .val (.long x3), .second, .val (.int x4), .val (.int x5), .val (.int (2 : Int32)), .val (.int u1), .val (.int u2), .val (.int u3), .val (.ref o137), .val (.int (1 : Int32)), .unset, .unset, .unset] [(.long x0), (.int (2 : Int32)), (.long x1), (.int (vf2 (own_at kf2 vf2 x1)))]) (fun _ kz => XS.lloadN X191.here hx rfl (hb hby at_126) rfl kz) ?_
    refine own_g (mkF m 129 #[.val (.long x0), .second, .val (.long x1), .second, .val (.long x2), .second, .val (.long x3), .second, .val (.int x4), .val (.int x5), .val (.int (2 : Int32)), .val (.int u1), .val (.int u2), .val (.int u3), .val (.ref o137), .val (.int (1 : Int32)), .unset, .unset, .unset] [(.int u1), (.long x0), (.int (2 : Int32)), (.long x1), (.int (vf2 (own_at kf2 vf2 x1)))]) (fun _ kz => XS.iload X191.here hx rfl (hb hby at_127) rfl kz) ?_
    refine own_g (mkF m 130 #[.val (.long x0), .second, .val (.long x1), .second, .val (.long x2), .second, .val (.long x3), .second, .val (.int x4), .val (.int x5), .val (.int (2 : Int32)), .val (.int u1), .val (.int u2), .val (.int u3), .val (.ref o137), .val (.int (1 : Int32)), .unset, .unset, .unset] [(.long x1), (.int u1), (.long x0), (.int (2 : Int32)), (.long x1), (.int (vf2 (own_at kf2 vf2 x1)))]) (fun _ kz => XS.lloadN X191.here hx rfl (hb hby at_129) rfl kz) ?_
    refine own_g (mkF m 132 #[.val (.long x0), .second, .val (.long x1), .second, .val (.long x2), .second, .val (.long x3), .second, .val (.int x4), .val (.int x5), .val (.int (2 : Int32)), .val (.int u1), .val (.int u2), .val (.int u3), .val (.ref o137), .val (.int (1 : Int32)), .unset, .unset, .unset] [(.int u2), (.long x1), (.int u1), (.long x0), (.int (2 : Int32)), (.long x1), (.int (vf2 (own_at kf2 vf2 x1)))]) (fun _ kz => XS.iload X191.here hx rfl (hb hby at_130) rfl kz) ?_
    refine own_g (mkF m 134 #[.val (.long x0), .second, .val (.long x1), .second, .val (.long x2), .second, .val (.long x3), .second, .val (.int x4), .val (.int x5), .val (.int (2 : Int32)), .val (.int u1), .val (.int u2), .val (.int u3), .val (.ref o137), .val (.int (1 : Int32)), .unset, .unset, .unset] [(.long x2), (.int u2), (.long x1), (.int u1), (.long x0), (.int (2 : Int32)), (.long x1), (.int (vf2 (own_at kf2 vf2 x1)))]) (fun _ kz => XS.lload X191.here hx rfl (hb hby at_132) rfl kz) ?_
    refine own_g (mkF m 136 #[.val (.long x0), .second, .val (.long x1), .second, .val (.long x2), .second, .val (.long x3), .second, .val (.int x4), .val (.int x5), .val (.int (2 : Int32)), .val (.int u1), .val (.int u2), .val (.int u3), .val (.ref o137), .val (.int (1 : Int32)), .unset, .unset, .unset] [(.int u3), (.long x2), (.int u2), (.long x1), (.int u1), (.long x0), (.int (2 : Int32)), (.long x1), (.int (vf2 (own_at kf2 vf2 x1)))]) (fun _ kz => XS.iload X191.here hx rfl (hb hby at_134) rfl kz) ?_
    refine own_callS (rest := [(.int (vf2 (own_at kf2 vf2 x1)))]) (as := [(.long x1), (.int (2 : Int32)), (.long x0), (.int u1), (.long x1), (.int u2), (.long x2), (.int u3)]) X191 hx hZ hown e191 (own_c_exp l Z a0 hw x1 (2 : Int32) x0 u1 x1 u2 x2 u3 T181.heap) (own_w hw 32 rfl) (own_w hw 33 rfl) (own_w hw 34 rfl) (own_w hw 35 rfl) (by decide) own_pd5 rfl (by rw [hml]; rfl) rfl (hb hby at_136) 1 (by show 2 * 0 + _ ≤ _; exact Nat.le_of_eq rfl) (by decide) (by decide) (by decide) (by decide) ?_
    rintro _ T192 L192 X192 ⟨rfl, rfl, e192⟩
    have N192 := Fr.app N191 (Fr.nil n0)
    show own_E p e below _ (T192.setTop (mkF m 139 #[.val (.long x0), .second, .val (.long x1), .second, .val (.long x2), .second, .val (.long x3), .second, .val (.int x4), .val (.int x5), .val (.int (2 : Int32)), .val (.int u1), .val (.int u2), .val (.int u3), .val (.ref o137), .val (.int (1 : Int32)), .unset, .unset, .unset] [(.int (own_exp x1 (2 : Int32) x0 u1 x1 u2 x2 u3)), (.int (vf2 (own_at kf2 vf2 x1)))]))
    refine own_g (mkF m 142 #[.val (.long x0), .second, .val (.long x1), .second, .val (.long x2), .second, .val (.long x3), .second, .val (.int x4), .val (.int x5), .val (.int (2 : Int32)), .val (.int u1), .val (.int u2), .val (.int u3), .val (.ref o137), .val (.int (1 : Int32)), .unset, .unset, .unset] []) (fun _ kz => XS.icmpNo X192.here hx rfl (hb hby at_139) rfl (teq (hget _)).2 kz) ?_
    refine own_g (mkF m 143 #[.val (.long x0), .second, .val (.long x1), .second, .val (.long x2), .second, .val (.long x3), .second, .val (.int x4), .val (.int x5), .val (.int (2 : Int32)), .val (.int u1), .val (.int u2), .val (.int u3), .val (.ref o137), .val (.int (1 : Int32)), .unset, .unset, .unset] [(.int (1 : Int32))]) (fun _ kz => XS.iconst X192.here hx rfl (hb hby at_142) kz) ?_
    refine own_g (mkF m 147 #[.val (.long x0), .second, .val (.long x1), .second, .val (.long x2), .second, .val (.long x3), .second, .val (.int x4), .val (.int x5), .val (.int (2 : Int32)), .val (.int u1), .val (.int u2), .val (.int u3), .val (.ref o137), .val (.int (1 : Int32)), .unset, .unset, .unset] [(.int (1 : Int32))]) (fun _ kz => XS.goto X192.here hx rfl (pc0 := 143) (pc' := 147) rfl (hb hby at_143) (by decide) (by decide) kz) ?_
    refine own_g (mkF m 149 #[.val (.long x0), .second, .val (.long x1), .second, .val (.long x2), .second, .val (.long x3), .second, .val (.int x4), .val (.int x5), .val (.int (2 : Int32)), .val (.int u1), .val (.int u2), .val (.int u3), .val (.ref o137), .val (.int (1 : Int32)), .val (.int (1 : Int32)), .unset, .unset] []) (fun _ kz => XS.istore X192.here hx rfl (hb hby at_147) rfl (l' := #[.val (.long x0), .second, .val (.long x1), .second, .val (.long x2), .second, .val (.long x3), .second, .val (.int x4), .val (.int x5), .val (.int (2 : Int32)), .val (.int u1), .val (.int u2), .val (.int u3), .val (.ref o137), .val (.int (1 : Int32)), .val (.int (1 : Int32)), .unset, .unset]) rfl kz) ?_
    refine own_g (mkF m 151 #[.val (.long x0), .second, .val (.long x1), .second, .val (.long x2), .second, .val (.long x3), .second, .val (.int x4), .val (.int x5), .val (.int (2 : Int32)), .val (.int u1), .val (.int u2), .val (.int u3), .val (.ref o137), .val (.int (1 : Int32)), .val (.int (1 : Int32)), .unset, .unset] [(.ref o137)]) (fun _ kz => XS.aload X192.here hx rfl (hb hby at_149) rfl rfl kz) ?_
    refine own_g (mkF m 153 #[.val (.long x0), .second, .val (.long x1), .second, .val (.long x2), .second, .val (.long x3), .second, .val (.int x4), .val (.int x5), .val (.int (2 : Int32)), .val (.int u1), .val (.int u2), .val (.int u3), .val (.ref o137), .val (.int (1 : Int32)), .val (.int (1 : Int32)), .unset, .unset] [(.long x2), (.ref o137)]) (fun _ kz => XS.lload X192.here hx rfl (hb hby at_151) rfl kz) ?_
    refine own_callV (rest := []) (a := o137) (as := [(.long x2)]) X192 hx hZ hown e192 (own_c_get l Z a0 hw o137 ob oc kf2 vf2 x2 T181.heap (own_stop I2 (by decide) _) Fk181 Fv181 Ak181x Av181x) f182 (own_w hw 23 rfl) (own_w hw 24 rfl) (own_w hw 26 rfl) (own_w hw 25 rfl) (own_w hw 3 rfl) (own_w hw 27 rfl) (by decide) own_pd4 rfl (by rw [hml]; rfl) rfl (hb hby at_153) 0 (by show 2 * 0 + _ ≤ _; exact Nat.le_of_eq rfl) (by decide) (by decide) (by decide) (by decide) ?_
    rintro _ T193 L193 X193 ⟨rfl, rfl, e193⟩
    have N193 := Fr.app N192 (Fr.nil n0)
    show own_E p e below _ (T193.setTop (mkF m 156 #[.val (.long x0), .second, .val (.long x1), .second, .val (.long x2), .second, .val (.long x3), .second, .val (.int x4), .val (.int x5), .val (.int (2 : Int32)), .val (.int u1), .val (.int u2), .val (.int u3), .val (.ref o137), .val (.int (1 : Int32)), .val (.int (1 : Int32)), .unset, .unset] [(.int (vf2 (own_at kf2 vf2 x2)))]))
    refine own_g (mkF m 158 #[.val (.long x0), .second, .val (.long x1), .second, .val (.long x2), .second, .val (.long x3), .second, .val (.int x4), .val (.int x5), .val (.int (2 : Int32)), .val (.int u1), .val (.int u2), .val (.int u3), .val (.ref o137), .val (.int (1 : Int32)), .val (.int (1 : Int32)), .unset, .unset] [(.long x2), (.int (vf2 (own_at kf2 vf2 x2)))]) (fun _ kz => XS.lload X193.here hx rfl (hb hby at_156) rfl kz) ?_
    refine own_g (mkF m 160 #[.val (.long x0), .second, .val (.long x1), .second, .val (.long x2), .second, .val (.long x3), .second, .val (.int x4), .val (.int x5), .val (.int (2 : Int32)), .val (.int u1), .val (.int u2), .val (.int u3), .val (.ref o137), .val (.int (1 : Int32)), .val (.int (1 : Int32)), .unset, .unset] [(.int (2 : Int32)), (.long x2), (.int (vf2 (own_at kf2 vf2 x2)))]) (fun _ kz => XS.iload X193.here hx rfl (hb hby at_158) rfl kz) ?_
    refine own_g (mkF m 161 #[.val (.long x0), .second, .val (.long x1), .second, .val (.long x2), .second, .val (.long x3), .second, .val (.int x4), .val (.int x5), .val (.int (2 : Int32)), .val (.int u1), .val (.int u2), .val (.int u3), .val (.ref o137), .val (.int (1 : Int32)), .val (.int (1 : Int32)), .unset, .unset] [(.long x0), (.int (2 : Int32)), (.long x2), (.int (vf2 (own_at kf2 vf2 x2)))]) (fun _ kz => XS.lloadN X193.here hx rfl (hb hby at_160) rfl kz) ?_
    refine own_g (mkF m 163 #[.val (.long x0), .second, .val (.long x1), .second, .val (.long x2), .second, .val (.long x3), .second, .val (.int x4), .val (.int x5), .val (.int (2 : Int32)), .val (.int u1), .val (.int u2), .val (.int u3), .val (.ref o137), .val (.int (1 : Int32)), .val (.int (1 : Int32)), .unset, .unset] [(.int u1), (.long x0), (.int (2 : Int32)), (.long x2), (.int (vf2 (own_at kf2 vf2 x2)))]) (fun _ kz => XS.iload X193.here hx rfl (hb hby at_161) rfl kz) ?_
    refine own_g (mkF m 164 #[.val (.long x0), .second, .val (.long x1), .second, .val (.long x2), .second, .val (.long x3), .second, .val (.int x4), .val (.int x5), .val (.int (2 : Int32)), .val (.int u1), .val (.int u2), .val (.int u3), .val (.ref o137), .val (.int (1 : Int32)), .val (.int (1 : Int32)), .unset, .unset] [(.long x1), (.int u1), (.long x0), (.int (2 : Int32)), (.long x2), (.int (vf2 (own_at kf2 vf2 x2)))]) (fun _ kz => XS.lloadN X193.here hx rfl (hb hby at_163) rfl kz) ?_
    refine own_g (mkF m 166 #[.val (.long x0), .second, .val (.long x1), .second, .val (.long x2), .second, .val (.long x3), .second, .val (.int x4), .val (.int x5), .val (.int (2 : Int32)), .val (.int u1), .val (.int u2), .val (.int u3), .val (.ref o137), .val (.int (1 : Int32)), .val (.int (1 : Int32)), .unset, .unset] [(.int u2), (.long x1), (.int u1), (.long x0), (.int (2 : Int32)), (.long x2), (.int (vf2 (own_at kf2 vf2 x2)))]) (fun _ kz => XS.iload X193.here hx rfl (hb hby at_164) rfl kz) ?_
    refine own_g (mkF m 168 #[.val (.long x0), .second, .val (.long x1), .second, .val (.long x2), .second, .val (.long x3), .second, .val (.int x4), .val (.int x5), .val (.int (2 : Int32)), .val (.int u1), .val (.int u2), .val (.int u3), .val (.ref o137), .val (.int (1 : Int32)), .val (.int (1 : Int32)), .unset, .unset] [(.long x2), (.int u2), (.long x1), (.int u1), (.long x0), (.int (2 : Int32)), (.long x2), (.int (vf2 (own_at kf2 vf2 x2)))]) (fun _ kz => XS.lload X193.here hx rfl (hb hby at_166) rfl kz) ?_
    refine own_g (mkF m 170 #[.val (.long x0), .second, .val (.long x1), .second, .val (.long x2), .second, .val (.long x3), .second, .val (.int x4), .val (.int x5), .val (.int (2 : Int32)), .val (.int u1), .val (.int u2), .val (.int u3), .val (.ref o137), .val (.int (1 : Int32)), .val (.int (1 : Int32)), .unset, .unset] [(.int u3), (.long x2), (.int u2), (.long x1), (.int u1), (.long x0), (.int (2 : Int32)), (.long x2), (.int (vf2 (own_at kf2 vf2 x2)))]) (fun _ kz => XS.iload X193.here hx rfl (hb hby at_168) rfl kz) ?_
    refine own_callS (rest := [(.int (vf2 (own_at kf2 vf2 x2)))]) (as := [(.long x2), (.int (2 : Int32)), (.long x0), (.int u1), (.long x1), (.int u2), (.long x2), (.int u3)]) X193 hx hZ hown e193 (own_c_exp l Z a0 hw x2 (2 : Int32) x0 u1 x1 u2 x2 u3 T181.heap) (own_w hw 32 rfl) (own_w hw 33 rfl) (own_w hw 34 rfl) (own_w hw 35 rfl) (by decide) own_pd5 rfl (by rw [hml]; rfl) rfl (hb hby at_170) 1 (by show 2 * 0 + _ ≤ _; exact Nat.le_of_eq rfl) (by decide) (by decide) (by decide) (by decide) ?_
    rintro _ T194 L194 X194 ⟨rfl, rfl, e194⟩
    have N194 := Fr.app N193 (Fr.nil n0)
    show own_E p e below _ (T194.setTop (mkF m 173 #[.val (.long x0), .second, .val (.long x1), .second, .val (.long x2), .second, .val (.long x3), .second, .val (.int x4), .val (.int x5), .val (.int (2 : Int32)), .val (.int u1), .val (.int u2), .val (.int u3), .val (.ref o137), .val (.int (1 : Int32)), .val (.int (1 : Int32)), .unset, .unset] [(.int (own_exp x2 (2 : Int32) x0 u1 x1 u2 x2 u3)), (.int (vf2 (own_at kf2 vf2 x2)))]))
    refine own_g (mkF m 176 #[.val (.long x0), .second, .val (.long x1), .second, .val (.long x2), .second, .val (.long x3), .second, .val (.int x4), .val (.int x5), .val (.int (2 : Int32)), .val (.int u1), .val (.int u2), .val (.int u3), .val (.ref o137), .val (.int (1 : Int32)), .val (.int (1 : Int32)), .unset, .unset] []) (fun _ kz => XS.icmpNo X194.here hx rfl (hb hby at_173) rfl (teq (hget _)).2 kz) ?_
    refine own_g (mkF m 177 #[.val (.long x0), .second, .val (.long x1), .second, .val (.long x2), .second, .val (.long x3), .second, .val (.int x4), .val (.int x5), .val (.int (2 : Int32)), .val (.int u1), .val (.int u2), .val (.int u3), .val (.ref o137), .val (.int (1 : Int32)), .val (.int (1 : Int32)), .unset, .unset] [(.int (1 : Int32))]) (fun _ kz => XS.iconst X194.here hx rfl (hb hby at_176) kz) ?_
    refine own_g (mkF m 181 #[.val (.long x0), .second, .val (.long x1), .second, .val (.long x2), .second, .val (.long x3), .second, .val (.int x4), .val (.int x5), .val (.int (2 : Int32)), .val (.int u1), .val (.int u2), .val (.int u3), .val (.ref o137), .val (.int (1 : Int32)), .val (.int (1 : Int32)), .unset, .unset] [(.int (1 : Int32))]) (fun _ kz => XS.goto X194.here hx rfl (pc0 := 177) (pc' := 181) rfl (hb hby at_177) (by decide) (by decide) kz) ?_
    refine own_g (mkF m 183 #[.val (.long x0), .second, .val (.long x1), .second, .val (.long x2), .second, .val (.long x3), .second, .val (.int x4), .val (.int x5), .val (.int (2 : Int32)), .val (.int u1), .val (.int u2), .val (.int u3), .val (.ref o137), .val (.int (1 : Int32)), .val (.int (1 : Int32)), .val (.int (1 : Int32)), .unset] []) (fun _ kz => XS.istore X194.here hx rfl (hb hby at_181) rfl (l' := #[.val (.long x0), .second, .val (.long x1), .second, .val (.long x2), .second, .val (.long x3), .second, .val (.int x4), .val (.int x5), .val (.int (2 : Int32)), .val (.int u1), .val (.int u2), .val (.int u3), .val (.ref o137), .val (.int (1 : Int32)), .val (.int (1 : Int32)), .val (.int (1 : Int32)), .unset]) rfl kz) ?_
    refine own_g (mkF m 185 #[.val (.long x0), .second, .val (.long x1), .second, .val (.long x2), .second, .val (.long x3), .second, .val (.int x4), .val (.int x5), .val (.int (2 : Int32)), .val (.int u1), .val (.int u2), .val (.int u3), .val (.ref o137), .val (.int (1 : Int32)), .val (.int (1 : Int32)), .val (.int (1 : Int32)), .unset] [(.ref o137)]) (fun _ kz => XS.aload X194.here hx rfl (hb hby at_183) rfl rfl kz) ?_
    refine own_g (mkF m 187 #[.val (.long x0), .second, .val (.long x1), .second, .val (.long x2), .second, .val (.long x3), .second, .val (.int x4), .val (.int x5), .val (.int (2 : Int32)), .val (.int u1), .val (.int u2), .val (.int u3), .val (.ref o137), .val (.int (1 : Int32)), .val (.int (1 : Int32)), .val (.int (1 : Int32)), .unset] [(.long x3), (.ref o137)]) (fun _ kz => XS.lload X194.here hx rfl (hb hby at_185) rfl kz) ?_
    refine own_callV (rest := []) (a := o137) (as := [(.long x3)]) X194 hx hZ hown e194 (own_c_get l Z a0 hw o137 ob oc kf2 vf2 x3 T181.heap (own_stop I2 (by decide) _) Fk181 Fv181 Ak181x Av181x) f182 (own_w hw 23 rfl) (own_w hw 24 rfl) (own_w hw 26 rfl) (own_w hw 25 rfl) (own_w hw 3 rfl) (own_w hw 27 rfl) (by decide) own_pd4 rfl (by rw [hml]; rfl) rfl (hb hby at_187) 0 (by show 2 * 0 + _ ≤ _; exact Nat.le_of_eq rfl) (by decide) (by decide) (by decide) (by decide) ?_
    rintro _ T195 L195 X195 ⟨rfl, rfl, e195⟩
    have N195 := Fr.app N194 (Fr.nil n0)
    show own_E p e below _ (T195.setTop (mkF m 190 #[.val (.long x0), .second, .val (.long x1), .second, .val (.long x2), .second, .val (.long x3), .second, .val (.int x4), .val (.int x5), .val (.int (2 : Int32)), .val (.int u1), .val (.int u2), .val (.int u3), .val (.ref o137), .val (.int (1 : Int32)), .val (.int (1 : Int32)), .val (.int (1 : Int32)), .unset] [(.int (vf2 (own_at kf2 vf2 x3)))]))
    refine own_g (mkF m 192 #[.val (.long x0), .second, .val (.long x1), .second, .val (.long x2), .second, .val (.long x3), .second, .val (.int x4), .val (.int x5), .val (.int (2 : Int32)), .val (.int u1), .val (.int u2), .val (.int u3), .val (.ref o137), .val (.int (1 : Int32)), .val (.int (1 : Int32)), .val (.int (1 : Int32)), .unset] [(.long x3), (.int (vf2 (own_at kf2 vf2 x3)))]) (fun _ kz => XS.lload X195.here hx rfl (hb hby at_190) rfl kz) ?_
    refine own_g (mkF m 194 #[.val (.long x0), .second, .val (.long x1), .second, .val (.long x2), .second, .val (.long x3), .second, .val (.int x4), .val (.int x5), .val (.int (2 : Int32)), .val (.int u1), .val (.int u2), .val (.int u3), .val (.ref o137), .val (.int (1 : Int32)), .val (.int (1 : Int32)), .val (.int (1 : Int32)), .unset] [(.int (2 : Int32)), (.long x3), (.int (vf2 (own_at kf2 vf2 x3)))]) (fun _ kz => XS.iload X195.here hx rfl (hb hby at_192) rfl kz) ?_
    refine own_g (mkF m 195 #[.val (.long x0), .second, .val (.long x1), .second, .val (.long x2), .second, .val (.long x3), .second, .val (.int x4), .val (.int x5), .val (.int (2 : Int32)), .val (.int u1), .val (.int u2), .val (.int u3), .val (.ref o137), .val (.int (1 : Int32)), .val (.int (1 : Int32)), .val (.int (1 : Int32)), .unset] [(.long x0), (.int (2 : Int32)), (.long x3), (.int (vf2 (own_at kf2 vf2 x3)))]) (fun _ kz => XS.lloadN X195.here hx rfl (hb hby at_194) rfl kz) ?_
    refine own_g (mkF m 197 #[.val (.long x0), .second, .val (.long x1), .second, .val (.long x2), .second, .val (.long x3), .second, .val (.int x4), .val (.int x5), .val (.int (2 : Int32)), .val (.int u1), .val (.int u2), .val (.int u3), .val (.ref o137), .val (.int (1 : Int32)), .val (.int (1 : Int32)), .val (.int (1 : Int32)), .unset] [(.int u1), (.long x0), (.int (2 : Int32)), (.long x3), (.int (vf2 (own_at kf2 vf2 x3)))]) (fun _ kz => XS.iload X195.here hx rfl (hb hby at_195) rfl kz) ?_
    refine own_g (mkF m 198 #[.val (.long x0), .second, .val (.long x1), .second, .val (.long x2), .second, .val (.long x3), .second, .val (.int x4), .val (.int x5), .val (.int (2 : Int32)), .val (.int u1), .val (.int u2), .val (.int u3), .val (.ref o137), .val (.int (1 : Int32)), .val (.int (1 : Int32)), .val (.int (1 : Int32)), .unset] [(.long x1), (.int u1), (.long x0), (.int (2 : Int32)), (.long x3), (.int (vf2 (own_at kf2 vf2 x3)))]) (fun _ kz => XS.lloadN X195.here hx rfl (hb hby at_197) rfl kz) ?_
    refine own_g (mkF m 200 #[.val (.long x0), .second, .val (.long x1), .second, .val (.long x2), .second, .val (.long x3), .second, .val (.int x4), .val (.int x5), .val (.int (2 : Int32)), .val (.int u1), .val (.int u2), .val (.int u3), .val (.ref o137), .val (.int (1 : Int32)), .val (.int (1 : Int32)), .val (.int (1 : Int32)), .unset] [(.int u2), (.long x1), (.int u1), (.long x0), (.int (2 : Int32)), (.long x3), (.int (vf2 (own_at kf2 vf2 x3)))]) (fun _ kz => XS.iload X195.here hx rfl (hb hby at_198) rfl kz) ?_
    refine own_g (mkF m 202 #[.val (.long x0), .second, .val (.long x1), .second, .val (.long x2), .second, .val (.long x3), .second, .val (.int x4), .val (.int x5), .val (.int (2 : Int32)), .val (.int u1), .val (.int u2), .val (.int u3), .val (.ref o137), .val (.int (1 : Int32)), .val (.int (1 : Int32)), .val (.int (1 : Int32)), .unset] [(.long x2), (.int u2), (.long x1), (.int u1), (.long x0), (.int (2 : Int32)), (.long x3), (.int (vf2 (own_at kf2 vf2 x3)))]) (fun _ kz => XS.lload X195.here hx rfl (hb hby at_200) rfl kz) ?_
    refine own_g (mkF m 204 #[.val (.long x0), .second, .val (.long x1), .second, .val (.long x2), .second, .val (.long x3), .second, .val (.int x4), .val (.int x5), .val (.int (2 : Int32)), .val (.int u1), .val (.int u2), .val (.int u3), .val (.ref o137), .val (.int (1 : Int32)), .val (.int (1 : Int32)), .val (.int (1 : Int32)), .unset] [(.int u3), (.long x2), (.int u2), (.long x1), (.int u1), (.long x0), (.int (2 : Int32)), (.long x3), (.int (vf2 (own_at kf2 vf2 x3)))]) (fun _ kz => XS.iload X195.here hx rfl (hb hby at_202) rfl kz) ?_
    refine own_callS (rest := [(.int (vf2 (own_at kf2 vf2 x3)))]) (as := [(.long x3), (.int (2 : Int32)), (.long x0), (.int u1), (.long x1), (.int u2), (.long x2), (.int u3)]) X195 hx hZ hown e195 (own_c_exp l Z a0 hw x3 (2 : Int32) x0 u1 x1 u2 x2 u3 T181.heap) (own_w hw 32 rfl) (own_w hw 33 rfl) (own_w hw 34 rfl) (own_w hw 35 rfl) (by decide) own_pd5 rfl (by rw [hml]; rfl) rfl (hb hby at_204) 1 (by show 2 * 0 + _ ≤ _; exact Nat.le_of_eq rfl) (by decide) (by decide) (by decide) (by decide) ?_
    rintro _ T196 L196 X196 ⟨rfl, rfl, e196⟩
    have N196 := Fr.app N195 (Fr.nil n0)
    show own_E p e below _ (T196.setTop (mkF m 207 #[.val (.long x0), .second, .val (.long x1), .second, .val (.long x2), .second, .val (.long x3), .second, .val (.int x4), .val (.int x5), .val (.int (2 : Int32)), .val (.int u1), .val (.int u2), .val (.int u3), .val (.ref o137), .val (.int (1 : Int32)), .val (.int (1 : Int32)), .val (.int (1 : Int32)), .unset] [(.int (own_exp x3 (2 : Int32) x0 u1 x1 u2 x2 u3)), (.int (vf2 (own_at kf2 vf2 x3)))]))
    refine own_g (mkF m 210 #[.val (.long x0), .second, .val (.long x1), .second, .val (.long x2), .second, .val (.long x3), .second, .val (.int x4), .val (.int x5), .val (.int (2 : Int32)), .val (.int u1), .val (.int u2), .val (.int u3), .val (.ref o137), .val (.int (1 : Int32)), .val (.int (1 : Int32)), .val (.int (1 : Int32)), .unset] []) (fun _ kz => XS.icmpNo X196.here hx rfl (hb hby at_207) rfl (teq (hget _)).2 kz) ?_
    refine own_g (mkF m 211 #[.val (.long x0), .second, .val (.long x1), .second, .val (.long x2), .second, .val (.long x3), .second, .val (.int x4), .val (.int x5), .val (.int (2 : Int32)), .val (.int u1), .val (.int u2), .val (.int u3), .val (.ref o137), .val (.int (1 : Int32)), .val (.int (1 : Int32)), .val (.int (1 : Int32)), .unset] [(.int (1 : Int32))]) (fun _ kz => XS.iconst X196.here hx rfl (hb hby at_210) kz) ?_
    refine own_g (mkF m 215 #[.val (.long x0), .second, .val (.long x1), .second, .val (.long x2), .second, .val (.long x3), .second, .val (.int x4), .val (.int x5), .val (.int (2 : Int32)), .val (.int u1), .val (.int u2), .val (.int u3), .val (.ref o137), .val (.int (1 : Int32)), .val (.int (1 : Int32)), .val (.int (1 : Int32)), .unset] [(.int (1 : Int32))]) (fun _ kz => XS.goto X196.here hx rfl (pc0 := 211) (pc' := 215) rfl (hb hby at_211) (by decide) (by decide) kz) ?_
    refine own_g (mkF m 217 #[.val (.long x0), .second, .val (.long x1), .second, .val (.long x2), .second, .val (.long x3), .second, .val (.int x4), .val (.int x5), .val (.int (2 : Int32)), .val (.int u1), .val (.int u2), .val (.int u3), .val (.ref o137), .val (.int (1 : Int32)), .val (.int (1 : Int32)), .val (.int (1 : Int32)), .val (.int (1 : Int32))] []) (fun _ kz => XS.istore X196.here hx rfl (hb hby at_215) rfl (l' := #[.val (.long x0), .second, .val (.long x1), .second, .val (.long x2), .second, .val (.long x3), .second, .val (.int x4), .val (.int x5), .val (.int (2 : Int32)), .val (.int u1), .val (.int u2), .val (.int u3), .val (.ref o137), .val (.int (1 : Int32)), .val (.int (1 : Int32)), .val (.int (1 : Int32)), .val (.int (1 : Int32))]) rfl kz) ?_
    refine own_g (mkF m 219 #[.val (.long x0), .second, .val (.long x1), .second, .val (.long x2), .second, .val (.long x3), .second, .val (.int x4), .val (.int x5), .val (.int (2 : Int32)), .val (.int u1), .val (.int u2), .val (.int u3), .val (.ref o137), .val (.int (1 : Int32)), .val (.int (1 : Int32)), .val (.int (1 : Int32)), .val (.int (1 : Int32))] [(.int (1 : Int32))]) (fun _ kz => XS.iload X196.here hx rfl (hb hby at_217) rfl kz) ?_
    refine own_g (mkF m 222 #[.val (.long x0), .second, .val (.long x1), .second, .val (.long x2), .second, .val (.long x3), .second, .val (.int x4), .val (.int x5), .val (.int (2 : Int32)), .val (.int u1), .val (.int u2), .val (.int u3), .val (.ref o137), .val (.int (1 : Int32)), .val (.int (1 : Int32)), .val (.int (1 : Int32)), .val (.int (1 : Int32))] []) (fun _ kz => XS.ifNo X196.here hx rfl (hb hby at_219) rfl ((if0 _ _).trans (feq (by decide)).1) kz) ?_
    refine own_g (mkF m 224 #[.val (.long x0), .second, .val (.long x1), .second, .val (.long x2), .second, .val (.long x3), .second, .val (.int x4), .val (.int x5), .val (.int (2 : Int32)), .val (.int u1), .val (.int u2), .val (.int u3), .val (.ref o137), .val (.int (1 : Int32)), .val (.int (1 : Int32)), .val (.int (1 : Int32)), .val (.int (1 : Int32))] [(.int (1 : Int32))]) (fun _ kz => XS.iload X196.here hx rfl (hb hby at_222) rfl kz) ?_
    refine own_g (mkF m 227 #[.val (.long x0), .second, .val (.long x1), .second, .val (.long x2), .second, .val (.long x3), .second, .val (.int x4), .val (.int x5), .val (.int (2 : Int32)), .val (.int u1), .val (.int u2), .val (.int u3), .val (.ref o137), .val (.int (1 : Int32)), .val (.int (1 : Int32)), .val (.int (1 : Int32)), .val (.int (1 : Int32))] []) (fun _ kz => XS.ifNo X196.here hx rfl (hb hby at_224) rfl ((if0 _ _).trans (feq (by decide)).1) kz) ?_
    refine own_g (mkF m 229 #[.val (.long x0), .second, .val (.long x1), .second, .val (.long x2), .second, .val (.long x3), .second, .val (.int x4), .val (.int x5), .val (.int (2 : Int32)), .val (.int u1), .val (.int u2), .val (.int u3), .val (.ref o137), .val (.int (1 : Int32)), .val (.int (1 : Int32)), .val (.int (1 : Int32)), .val (.int (1 : Int32))] [(.int (1 : Int32))]) (fun _ kz => XS.iload X196.here hx rfl (hb hby at_227) rfl kz) ?_
    refine own_g (mkF m 232 #[.val (.long x0), .second, .val (.long x1), .second, .val (.long x2), .second, .val (.long x3), .second, .val (.int x4), .val (.int x5), .val (.int (2 : Int32)), .val (.int u1), .val (.int u2), .val (.int u3), .val (.ref o137), .val (.int (1 : Int32)), .val (.int (1 : Int32)), .val (.int (1 : Int32)), .val (.int (1 : Int32))] []) (fun _ kz => XS.ifNo X196.here hx rfl (hb hby at_229) rfl ((if0 _ _).trans (feq (by decide)).1) kz) ?_
    refine own_g (mkF m 234 #[.val (.long x0), .second, .val (.long x1), .second, .val (.long x2), .second, .val (.long x3), .second, .val (.int x4), .val (.int x5), .val (.int (2 : Int32)), .val (.int u1), .val (.int u2), .val (.int u3), .val (.ref o137), .val (.int (1 : Int32)), .val (.int (1 : Int32)), .val (.int (1 : Int32)), .val (.int (1 : Int32))] [(.int (1 : Int32))]) (fun _ kz => XS.iload X196.here hx rfl (hb hby at_232) rfl kz) ?_
    refine own_g (mkF m 237 #[.val (.long x0), .second, .val (.long x1), .second, .val (.long x2), .second, .val (.long x3), .second, .val (.int x4), .val (.int x5), .val (.int (2 : Int32)), .val (.int u1), .val (.int u2), .val (.int u3), .val (.ref o137), .val (.int (1 : Int32)), .val (.int (1 : Int32)), .val (.int (1 : Int32)), .val (.int (1 : Int32))] []) (fun _ kz => XS.ifNo X196.here hx rfl (hb hby at_234) rfl ((if0 _ _).trans (feq (by decide)).1) kz) ?_
    refine own_g (mkF m 238 #[.val (.long x0), .second, .val (.long x1), .second, .val (.long x2), .second, .val (.long x3), .second, .val (.int x4), .val (.int x5), .val (.int (2 : Int32)), .val (.int u1), .val (.int u2), .val (.int u3), .val (.ref o137), .val (.int (1 : Int32)), .val (.int (1 : Int32)), .val (.int (1 : Int32)), .val (.int (1 : Int32))] [(.int (1 : Int32))]) (fun _ kz => XS.iconst X196.here hx rfl (hb hby at_237) kz) ?_
    refine own_g (mkF m 242 #[.val (.long x0), .second, .val (.long x1), .second, .val (.long x2), .second, .val (.long x3), .second, .val (.int x4), .val (.int x5), .val (.int (2 : Int32)), .val (.int u1), .val (.int u2), .val (.int u3), .val (.ref o137), .val (.int (1 : Int32)), .val (.int (1 : Int32)), .val (.int (1 : Int32)), .val (.int (1 : Int32))] [(.int (1 : Int32))]) (fun _ kz => XS.goto X196.here hx rfl (pc0 := 238) (pc' := 242) rfl (hb hby at_238) (by decide) (by decide) kz) ?_
    exact own_retZ X196 hx hret hlk (hb hby at_242) rfl (by decide) (by decide) (by first | exact ⟨rfl, N196⟩ | (rw [e196]; exact ⟨rfl, N196⟩))
  · rw [hl]
    show own_E p e below _ (T143.setTop (mkF m 42 #[.val (.long x0), .second, .val (.long x1), .second, .val (.long x2), .second, .val (.long x3), .second, .val (.int x4), .val (.int x5), .val (.int (3 : Int32)), .val (.int u1), .val (.int u2), .val (.int u3), .val (.ref o137), .unset, .unset, .unset, .unset] [(.int (1 : Int32)), (.int (3 : Int32))]))
    have G0 : ∀ x : Int64, (fun _ => (-1 : Int32)) (own_at (fun _ => (0 : Int64)) (fun _ => (-1 : Int32)) x) = -1 := fun _ => rfl
    refine own_g (mkF m 45 #[.val (.long x0), .second, .val (.long x1), .second, .val (.long x2), .second, .val (.long x3), .second, .val (.int x4), .val (.int x5), .val (.int (3 : Int32)), .val (.int u1), .val (.int u2), .val (.int u3), .val (.ref o137), .unset, .unset, .unset, .unset] []) (fun _ kz => XS.icmpNo X143.here hx rfl (hb hby at_42) rfl (flt (by decide)).1 kz) ?_
    refine own_g (mkF m 47 #[.val (.long x0), .second, .val (.long x1), .second, .val (.long x2), .second, .val (.long x3), .second, .val (.int x4), .val (.int x5), .val (.int (3 : Int32)), .val (.int u1), .val (.int u2), .val (.int u3), .val (.ref o137), .unset, .unset, .unset, .unset] [(.ref o137)]) (fun _ kz => XS.aload X143.here hx rfl (hb hby at_45) rfl rfl kz) ?_
    refine own_g (mkF m 48 #[.val (.long x0), .second, .val (.long x1), .second, .val (.long x2), .second, .val (.long x3), .second, .val (.int x4), .val (.int x5), .val (.int (3 : Int32)), .val (.int u1), .val (.int u2), .val (.int u3), .val (.ref o137), .unset, .unset, .unset, .unset] [(.long x0), (.ref o137)]) (fun _ kz => XS.lloadN X143.here hx rfl (hb hby at_47) rfl kz) ?_
    refine own_g (mkF m 50 #[.val (.long x0), .second, .val (.long x1), .second, .val (.long x2), .second, .val (.long x3), .second, .val (.int x4), .val (.int x5), .val (.int (3 : Int32)), .val (.int u1), .val (.int u2), .val (.int u3), .val (.ref o137), .unset, .unset, .unset, .unset] [(.int u1), (.long x0), (.ref o137)]) (fun _ kz => XS.iload X143.here hx rfl (hb hby at_48) rfl kz) ?_
    refine own_callV (rest := []) (a := o137) (as := [(.long x0), (.int u1)]) X143 hx hZ hown rfl (own_c_put l Z a0 hw o137 ob oc (fun _ => (0 : Int64)) (fun _ => (-1 : Int32)) x0 u1 0 T143.heap n0 s148 (own_stop I0 (by decide) _) Fk143 Fv143 Ak143 Av143 nu1 (by omega) b138 gob goc nab nac nbc f144 Fs143) f144 (own_w hw 36 rfl) (own_w hw 37 rfl) (own_w hw 39 rfl) (own_w hw 38 rfl) (own_w hw 3 rfl) (own_w hw 40 rfl) (by decide) own_pd2 rfl (by rw [hml]; rfl) rfl (hb hby at_50) 0 (by show 2 * 0 + _ ≤ _; exact Nat.le_of_eq rfl) (by decide) (by decide) (by decide) (by decide) ?_
    rintro _ T197 L197 X197 ⟨rp197, sz197, rfl, Nq197, K197, lz197, Fk197, Fv197, Fs197, Ak197, Av197⟩
    have N197 := Fr.app N143 Nq197
    have f198 := Exa.keep f144 K197
    have s204 : n0 ≤ T197.heap.size := Nat.le_trans s148 K197.1
    show own_E p e below _ (T197.setTop (mkF m 53 #[.val (.long x0), .second, .val (.long x1), .second, .val (.long x2), .second, .val (.long x3), .second, .val (.int x4), .val (.int x5), .val (.int (3 : Int32)), .val (.int u1), .val (.int u2), .val (.int u3), .val (.ref o137), .unset, .unset, .unset, .unset] [(.int rp197)]))
    obtain ⟨kf1, vf1, ekf1, evf1, I1, G1, Ak197x, Av197x⟩ : ∃ K V, K = own_pk (fun _ => (0 : Int64)) (fun _ => (-1 : Int32)) x0 ∧ V = own_pv (fun _ => (0 : Int64)) (fun _ => (-1 : Int32)) x0 u1 ∧ own_Inv 1 K V ∧ (∀ x, V (own_at K V x) = if (fun _ => (-1 : Int32)) (own_at (fun _ => (0 : Int64)) (fun _ => (-1 : Int32)) x0) = -1 ∧ x = x0 then u1 else (fun _ => (-1 : Int32)) (own_at (fun _ => (0 : Int64)) (fun _ => (-1 : Int32)) x)) ∧ own_JA Z T197.heap ob 64 K ∧ own_IA Z T197.heap oc .int 64 V := ⟨_, _, rfl, rfl, own_inv1 I0 (own_nm nu1), fun x => own_get1 I0 (by decide) (own_nm nu1) x, Ak197, Av197⟩
    have lz197' : sz197 ≤ 1 := by omega
    refine own_g (mkF m 54 #[.val (.long x0), .second, .val (.long x1), .second, .val (.long x2), .second, .val (.long x3), .second, .val (.int x4), .val (.int x5), .val (.int (3 : Int32)), .val (.int u1), .val (.int u2), .val (.int u3), .val (.ref o137), .unset, .unset, .unset, .unset] []) (fun _ kz => XS.pop X197.here hx rfl (hb hby at_53) rfl rfl kz) ?_
    refine own_g (mkF m 56 #[.val (.long x0), .second, .val (.long x1), .second, .val (.long x2), .second, .val (.long x3), .second, .val (.int x4), .val (.int x5), .val (.int (3 : Int32)), .val (.int u1), .val (.int u2), .val (.int u3), .val (.ref o137), .unset, .unset, .unset, .unset] [(.int (3 : Int32))]) (fun _ kz => XS.iload X197.here hx rfl (hb hby at_54) rfl kz) ?_
    refine own_g (mkF m 57 #[.val (.long x0), .second, .val (.long x1), .second, .val (.long x2), .second, .val (.long x3), .second, .val (.int x4), .val (.int x5), .val (.int (3 : Int32)), .val (.int u1), .val (.int u2), .val (.int u3), .val (.ref o137), .unset, .unset, .unset, .unset] [(.int (2 : Int32)), (.int (3 : Int32))]) (fun _ kz => XS.iconst X197.here hx rfl (hb hby at_56) kz) ?_
    refine own_g (mkF m 60 #[.val (.long x0), .second, .val (.long x1), .second, .val (.long x2), .second, .val (.long x3), .second, .val (.int x4), .val (.int x5), .val (.int (3 : Int32)), .val (.int u1), .val (.int u2), .val (.int u3), .val (.ref o137), .unset, .unset, .unset, .unset] []) (fun _ kz => XS.icmpNo X197.here hx rfl (hb hby at_57) rfl (flt (by decide)).1 kz) ?_
    refine own_g (mkF m 62 #[.val (.long x0), .second, .val (.long x1), .second, .val (.long x2), .second, .val (.long x3), .second, .val (.int x4), .val (.int x5), .val (.int (3 : Int32)), .val (.int u1), .val (.int u2), .val (.int u3), .val (.ref o137), .unset, .unset, .unset, .unset] [(.ref o137)]) (fun _ kz => XS.aload X197.here hx rfl (hb hby at_60) rfl rfl kz) ?_
    refine own_g (mkF m 63 #[.val (.long x0), .second, .val (.long x1), .second, .val (.long x2), .second, .val (.long x3), .second, .val (.int x4), .val (.int x5), .val (.int (3 : Int32)), .val (.int u1), .val (.int u2), .val (.int u3), .val (.ref o137), .unset, .unset, .unset, .unset] [(.long x1), (.ref o137)]) (fun _ kz => XS.lloadN X197.here hx rfl (hb hby at_62) rfl kz) ?_
    refine own_g (mkF m 65 #[.val (.long x0), .second, .val (.long x1), .second, .val (.long x2), .second, .val (.long x3), .second, .val (.int x4), .val (.int x5), .val (.int (3 : Int32)), .val (.int u1), .val (.int u2), .val (.int u3), .val (.ref o137), .unset, .unset, .unset, .unset] [(.int u2), (.long x1), (.ref o137)]) (fun _ kz => XS.iload X197.here hx rfl (hb hby at_63) rfl kz) ?_
    refine own_callV (rest := []) (a := o137) (as := [(.long x1), (.int u2)]) X197 hx hZ hown rfl (own_c_put l Z a0 hw o137 ob oc kf1 vf1 x1 u2 sz197 T197.heap n0 s204 (own_stop I1 (by decide) _) Fk197 Fv197 Ak197x Av197x nu2 (by omega) b138 gob goc nab nac nbc f198 Fs197) f198 (own_w hw 36 rfl) (own_w hw 37 rfl) (own_w hw 39 rfl) (own_w hw 38 rfl) (own_w hw 3 rfl) (own_w hw 40 rfl) (by decide) own_pd2 rfl (by rw [hml]; rfl) rfl (hb hby at_65) 0 (by show 2 * 0 + _ ≤ _; exact Nat.le_of_eq rfl) (by decide) (by decide) (by decide) (by decide) ?_
    rintro _ T205 L205 X205 ⟨rp205, sz205, rfl, Nq205, K205, lz205, Fk205, Fv205, Fs205, Ak205, Av205⟩
    have N205 := Fr.app N197 Nq205
    have f206 := Exa.keep f198 K205
    have s212 : n0 ≤ T205.heap.size := Nat.le_trans s204 K205.1
    show own_E p e below _ (T205.setTop (mkF m 68 #[.val (.long x0), .second, .val (.long x1), .second, .val (.long x2), .second, .val (.long x3), .second, .val (.int x4), .val (.int x5), .val (.int (3 : Int32)), .val (.int u1), .val (.int u2), .val (.int u3), .val (.ref o137), .unset, .unset, .unset, .unset] [(.int rp205)]))
    obtain ⟨kf2, vf2, ekf2, evf2, I2, G2, Ak205x, Av205x⟩ : ∃ K V, K = own_pk kf1 vf1 x1 ∧ V = own_pv kf1 vf1 x1 u2 ∧ own_Inv 2 K V ∧ (∀ x, V (own_at K V x) = if vf1 (own_at kf1 vf1 x1) = -1 ∧ x = x1 then u2 else vf1 (own_at kf1 vf1 x)) ∧ own_JA Z T205.heap ob 64 K ∧ own_IA Z T205.heap oc .int 64 V := ⟨_, _, rfl, rfl, own_inv1 I1 (own_nm nu2), fun x => own_get1 I1 (by decide) (own_nm nu2) x, Ak205, Av205⟩
    have lz205' : sz205 ≤ 2 := by omega
    refine own_g (mkF m 69 #[.val (.long x0), .second, .val (.long x1), .second, .val (.long x2), .second, .val (.long x3), .second, .val (.int x4), .val (.int x5), .val (.int (3 : Int32)), .val (.int u1), .val (.int u2), .val (.int u3), .val (.ref o137), .unset, .unset, .unset, .unset] []) (fun _ kz => XS.pop X205.here hx rfl (hb hby at_68) rfl rfl kz) ?_
    refine own_g (mkF m 71 #[.val (.long x0), .second, .val (.long x1), .second, .val (.long x2), .second, .val (.long x3), .second, .val (.int x4), .val (.int x5), .val (.int (3 : Int32)), .val (.int u1), .val (.int u2), .val (.int u3), .val (.ref o137), .unset, .unset, .unset, .unset] [(.int (3 : Int32))]) (fun _ kz => XS.iload X205.here hx rfl (hb hby at_69) rfl kz) ?_
    refine own_g (mkF m 72 #[.val (.long x0), .second, .val (.long x1), .second, .val (.long x2), .second, .val (.long x3), .second, .val (.int x4), .val (.int x5), .val (.int (3 : Int32)), .val (.int u1), .val (.int u2), .val (.int u3), .val (.ref o137), .unset, .unset, .unset, .unset] [(.int (3 : Int32)), (.int (3 : Int32))]) (fun _ kz => XS.iconst X205.here hx rfl (hb hby at_71) kz) ?_
    refine own_g (mkF m 75 #[.val (.long x0), .second, .val (.long x1), .second, .val (.long x2), .second, .val (.long x3), .second, .val (.int x4), .val (.int x5), .val (.int (3 : Int32)), .val (.int u1), .val (.int u2), .val (.int u3), .val (.ref o137), .unset, .unset, .unset, .unset] []) (fun _ kz => XS.icmpNo X205.here hx rfl (hb hby at_72) rfl (flt (by decide)).1 kz) ?_
    refine own_g (mkF m 77 #[.val (.long x0), .second, .val (.long x1), .second, .val (.long x2), .second, .val (.long x3), .second, .val (.int x4), .val (.int x5), .val (.int (3 : Int32)), .val (.int u1), .val (.int u2), .val (.int u3), .val (.ref o137), .unset, .unset, .unset, .unset] [(.ref o137)]) (fun _ kz => XS.aload X205.here hx rfl (hb hby at_75) rfl rfl kz) ?_
    refine own_g (mkF m 79 #[.val (.long x0), .second, .val (.long x1), .second, .val (.long x2), .second, .val (.long x3), .second, .val (.int x4), .val (.int x5), .val (.int (3 : Int32)), .val (.int u1), .val (.int u2), .val (.int u3), .val (.ref o137), .unset, .unset, .unset, .unset] [(.long x2), (.ref o137)]) (fun _ kz => XS.lload X205.here hx rfl (hb hby at_77) rfl kz) ?_
    refine own_g (mkF m 81 #[.val (.long x0), .second, .val (.long x1), .second, .val (.long x2), .second, .val (.long x3), .second, .val (.int x4), .val (.int x5), .val (.int (3 : Int32)), .val (.int u1), .val (.int u2), .val (.int u3), .val (.ref o137), .unset, .unset, .unset, .unset] [(.int u3), (.long x2), (.ref o137)]) (fun _ kz => XS.iload X205.here hx rfl (hb hby at_79) rfl kz) ?_
    refine own_callV (rest := []) (a := o137) (as := [(.long x2), (.int u3)]) X205 hx hZ hown rfl (own_c_put l Z a0 hw o137 ob oc kf2 vf2 x2 u3 sz205 T205.heap n0 s212 (own_stop I2 (by decide) _) Fk205 Fv205 Ak205x Av205x nu3 (by omega) b138 gob goc nab nac nbc f206 Fs205) f206 (own_w hw 36 rfl) (own_w hw 37 rfl) (own_w hw 39 rfl) (own_w hw 38 rfl) (own_w hw 3 rfl) (own_w hw 40 rfl) (by decide) own_pd2 rfl (by rw [hml]; rfl) rfl (hb hby at_81) 0 (by show 2 * 0 + _ ≤ _; exact Nat.le_of_eq rfl) (by decide) (by decide) (by decide) (by decide) ?_
    rintro _ T213 L213 X213 ⟨rp213, sz213, rfl, Nq213, K213, lz213, Fk213, Fv213, Fs213, Ak213, Av213⟩
    have N213 := Fr.app N205 Nq213
    have f214 := Exa.keep f206 K213
    have s220 : n0 ≤ T213.heap.size := Nat.le_trans s212 K213.1
    show own_E p e below _ (T213.setTop (mkF m 84 #[.val (.long x0), .second, .val (.long x1), .second, .val (.long x2), .second, .val (.long x3), .second, .val (.int x4), .val (.int x5), .val (.int (3 : Int32)), .val (.int u1), .val (.int u2), .val (.int u3), .val (.ref o137), .unset, .unset, .unset, .unset] [(.int rp213)]))
    obtain ⟨kf3, vf3, ekf3, evf3, I3, G3, Ak213x, Av213x⟩ : ∃ K V, K = own_pk kf2 vf2 x2 ∧ V = own_pv kf2 vf2 x2 u3 ∧ own_Inv 3 K V ∧ (∀ x, V (own_at K V x) = if vf2 (own_at kf2 vf2 x2) = -1 ∧ x = x2 then u3 else vf2 (own_at kf2 vf2 x)) ∧ own_JA Z T213.heap ob 64 K ∧ own_IA Z T213.heap oc .int 64 V := ⟨_, _, rfl, rfl, own_inv1 I2 (own_nm nu3), fun x => own_get1 I2 (by decide) (own_nm nu3) x, Ak213, Av213⟩
    have lz213' : sz213 ≤ 3 := by omega
    refine own_g (mkF m 85 #[.val (.long x0), .second, .val (.long x1), .second, .val (.long x2), .second, .val (.long x3), .second, .val (.int x4), .val (.int x5), .val (.int (3 : Int32)), .val (.int u1), .val (.int u2), .val (.int u3), .val (.ref o137), .unset, .unset, .unset, .unset] []) (fun _ kz => XS.pop X213.here hx rfl (hb hby at_84) rfl rfl kz) ?_
    refine own_g (mkF m 87 #[.val (.long x0), .second, .val (.long x1), .second, .val (.long x2), .second, .val (.long x3), .second, .val (.int x4), .val (.int x5), .val (.int (3 : Int32)), .val (.int u1), .val (.int u2), .val (.int u3), .val (.ref o137), .unset, .unset, .unset, .unset] [(.ref o137)]) (fun _ kz => XS.aload X213.here hx rfl (hb hby at_85) rfl rfl kz) ?_
    refine own_g (mkF m 88 #[.val (.long x0), .second, .val (.long x1), .second, .val (.long x2), .second, .val (.long x3), .second, .val (.int x4), .val (.int x5), .val (.int (3 : Int32)), .val (.int u1), .val (.int u2), .val (.int u3), .val (.ref o137), .unset, .unset, .unset, .unset] [(.long x0), (.ref o137)]) (fun _ kz => XS.lloadN X213.here hx rfl (hb hby at_87) rfl kz) ?_
    have hget : ∀ x, vf3 (own_at kf3 vf3 x) = own_exp x 3 x0 u1 x1 u2 x2 u3 := by
      intro x
      exact own_y3 (g0 := fun x => (fun _ => (-1 : Int32)) (own_at (fun _ => (0 : Int64)) (fun _ => (-1 : Int32)) x)) (g1 := fun x => vf1 (own_at kf1 vf1 x)) (g2 := fun x => vf2 (own_at kf2 vf2 x)) (g3 := fun x => vf3 (own_at kf3 vf3 x)) (own_nm nu1) (own_nm nu2) G0 G1 G2 G3 x
    refine own_callV (rest := []) (a := o137) (as := [(.long x0)]) X213 hx hZ hown rfl (own_c_get l Z a0 hw o137 ob oc kf3 vf3 x0 T213.heap (own_stop I3 (by decide) _) Fk213 Fv213 Ak213x Av213x) f214 (own_w hw 23 rfl) (own_w hw 24 rfl) (own_w hw 26 rfl) (own_w hw 25 rfl) (own_w hw 3 rfl) (own_w hw 27 rfl) (by decide) own_pd4 rfl (by rw [hml]; rfl) rfl (hb hby at_88) 0 (by show 2 * 0 + _ ≤ _; exact Nat.le_of_eq rfl) (by decide) (by decide) (by decide) (by decide) ?_
    rintro _ T221 L221 X221 ⟨rfl, rfl, e221⟩
    have N221 := Fr.app N213 (Fr.nil n0)
    show own_E p e below _ (T221.setTop (mkF m 91 #[.val (.long x0), .second, .val (.long x1), .second, .val (.long x2), .second, .val (.long x3), .second, .val (.int x4), .val (.int x5), .val (.int (3 : Int32)), .val (.int u1), .val (.int u2), .val (.int u3), .val (.ref o137), .unset, .unset, .unset, .unset] [(.int (vf3 (own_at kf3 vf3 x0)))]))
    refine own_g (mkF m 92 #[.val (.long x0), .second, .val (.long x1), .second, .val (.long x2), .second, .val (.long x3), .second, .val (.int x4), .val (.int x5), .val (.int (3 : Int32)), .val (.int u1), .val (.int u2), .val (.int u3), .val (.ref o137), .unset, .unset, .unset, .unset] [(.long x0), (.int (vf3 (own_at kf3 vf3 x0)))]) (fun _ kz => XS.lloadN X221.here hx rfl (hb hby at_91) rfl kz) ?_
    refine own_g (mkF m 94 #[.val (.long x0), .second, .val (.long x1), .second, .val (.long x2), .second, .val (.long x3), .second, .val (.int x4), .val (.int x5), .val (.int (3 : Int32)), .val (.int u1), .val (.int u2), .val (.int u3), .val (.ref o137), .unset, .unset, .unset, .unset] [(.int (3 : Int32)), (.long x0), (.int (vf3 (own_at kf3 vf3 x0)))]) (fun _ kz => XS.iload X221.here hx rfl (hb hby at_92) rfl kz) ?_
    refine own_g (mkF m 95 #[.val (.long x0), .second, .val (.long x1), .second, .val (.long x2), .second, .val (.long x3), .second, .val (.int x4), .val (.int x5), .val (.int (3 : Int32)), .val (.int u1), .val (.int u2), .val (.int u3), .val (.ref o137), .unset, .unset, .unset, .unset] [(.long x0), (.int (3 : Int32)), (.long x0), (.int (vf3 (own_at kf3 vf3 x0)))]) (fun _ kz => XS.lloadN X221.here hx rfl (hb hby at_94) rfl kz) ?_
    refine own_g (mkF m 97 #[.val (.long x0), .second, .val (.long x1), .second, .val (.long x2), .second, .val (.long x3), .second, .val (.int x4), .val (.int x5), .val (.int (3 : Int32)), .val (.int u1), .val (.int u2), .val (.int u3), .val (.ref o137), .unset, .unset, .unset, .unset] [(.int u1), (.long x0), (.int (3 : Int32)), (.long x0), (.int (vf3 (own_at kf3 vf3 x0)))]) (fun _ kz => XS.iload X221.here hx rfl (hb hby at_95) rfl kz) ?_
    refine own_g (mkF m 98 #[.val (.long x0), .second, .val (.long x1), .second, .val (.long x2), .second, .val (.long x3), .second, .val (.int x4), .val (.int x5), .val (.int (3 : Int32)), .val (.int u1), .val (.int u2), .val (.int u3), .val (.ref o137), .unset, .unset, .unset, .unset] [(.long x1), (.int u1), (.long x0), (.int (3 : Int32)), (.long x0), (.int (vf3 (own_at kf3 vf3 x0)))]) (fun _ kz => XS.lloadN X221.here hx rfl (hb hby at_97) rfl kz) ?_
    refine own_g (mkF m 100 #[.val (.long x0), .second, .val (.long x1), .second, .val (.long x2), .second, .val (.long x3), .second, .val (.int x4), .val (.int x5), .val (.int (3 : Int32)), .val (.int u1), .val (.int u2), .val (.int u3), .val (.ref o137), .unset, .unset, .unset, .unset] [(.int u2), (.long x1), (.int u1), (.long x0), (.int (3 : Int32)), (.long x0), (.int (vf3 (own_at kf3 vf3 x0)))]) (fun _ kz => XS.iload X221.here hx rfl (hb hby at_98) rfl kz) ?_
    refine own_g (mkF m 102 #[.val (.long x0), .second, .val (.long x1), .second, .val (.long x2), .second, .val (.long x3), .second, .val (.int x4), .val (.int x5), .val (.int (3 : Int32)), .val (.int u1), .val (.int u2), .val (.int u3), .val (.ref o137), .unset, .unset, .unset, .unset] [(.long x2), (.int u2), (.long x1), (.int u1), (.long x0), (.int (3 : Int32)), (.long x0), (.int (vf3 (own_at kf3 vf3 x0)))]) (fun _ kz => XS.lload X221.here hx rfl (hb hby at_100) rfl kz) ?_
    refine own_g (mkF m 104 #[.val (.long x0), .second, .val (.long x1), .second, .val (.long x2), .second, .val (.long x3), .second, .val (.int x4), .val (.int x5), .val (.int (3 : Int32)), .val (.int u1), .val (.int u2), .val (.int u3), .val (.ref o137), .unset, .unset, .unset, .unset] [(.int u3), (.long x2), (.int u2), (.long x1), (.int u1), (.long x0), (.int (3 : Int32)), (.long x0), (.int (vf3 (own_at kf3 vf3 x0)))]) (fun _ kz => XS.iload X221.here hx rfl (hb hby at_102) rfl kz) ?_
    refine own_callS (rest := [(.int (vf3 (own_at kf3 vf3 x0)))]) (as := [(.long x0), (.int (3 : Int32)), (.long x0), (.int u1), (.long x1), (.int u2), (.long x2), (.int u3)]) X221 hx hZ hown e221 (own_c_exp l Z a0 hw x0 (3 : Int32) x0 u1 x1 u2 x2 u3 T213.heap) (own_w hw 32 rfl) (own_w hw 33 rfl) (own_w hw 34 rfl) (own_w hw 35 rfl) (by decide) own_pd5 rfl (by rw [hml]; rfl) rfl (hb hby at_104) 1 (by show 2 * 0 + _ ≤ _; exact Nat.le_of_eq rfl) (by decide) (by decide) (by decide) (by decide) ?_
    rintro _ T222 L222 X222 ⟨rfl, rfl, e222⟩
    have N222 := Fr.app N221 (Fr.nil n0)
    show own_E p e below _ (T222.setTop (mkF m 107 #[.val (.long x0), .second, .val (.long x1), .second, .val (.long x2), .second, .val (.long x3), .second, .val (.int x4), .val (.int x5), .val (.int (3 : Int32)), .val (.int u1), .val (.int u2), .val (.int u3), .val (.ref o137), .unset, .unset, .unset, .unset] [(.int (own_exp x0 (3 : Int32) x0 u1 x1 u2 x2 u3)), (.int (vf3 (own_at kf3 vf3 x0)))]))
    refine own_g (mkF m 110 #[.val (.long x0), .second, .val (.long x1), .second, .val (.long x2), .second, .val (.long x3), .second, .val (.int x4), .val (.int x5), .val (.int (3 : Int32)), .val (.int u1), .val (.int u2), .val (.int u3), .val (.ref o137), .unset, .unset, .unset, .unset] []) (fun _ kz => XS.icmpNo X222.here hx rfl (hb hby at_107) rfl (teq (hget _)).2 kz) ?_
    refine own_g (mkF m 111 #[.val (.long x0), .second, .val (.long x1), .second, .val (.long x2), .second, .val (.long x3), .second, .val (.int x4), .val (.int x5), .val (.int (3 : Int32)), .val (.int u1), .val (.int u2), .val (.int u3), .val (.ref o137), .unset, .unset, .unset, .unset] [(.int (1 : Int32))]) (fun _ kz => XS.iconst X222.here hx rfl (hb hby at_110) kz) ?_
    refine own_g (mkF m 115 #[.val (.long x0), .second, .val (.long x1), .second, .val (.long x2), .second, .val (.long x3), .second, .val (.int x4), .val (.int x5), .val (.int (3 : Int32)), .val (.int u1), .val (.int u2), .val (.int u3), .val (.ref o137), .unset, .unset, .unset, .unset] [(.int (1 : Int32))]) (fun _ kz => XS.goto X222.here hx rfl (pc0 := 111) (pc' := 115) rfl (hb hby at_111) (by decide) (by decide) kz) ?_
    refine own_g (mkF m 117 #[.val (.long x0), .second, .val (.long x1), .second, .val (.long x2), .second, .val (.long x3), .second, .val (.int x4), .val (.int x5), .val (.int (3 : Int32)), .val (.int u1), .val (.int u2), .val (.int u3), .val (.ref o137), .val (.int (1 : Int32)), .unset, .unset, .unset] []) (fun _ kz => XS.istore X222.here hx rfl (hb hby at_115) rfl (l' := #[.val (.long x0), .second, .val (.long x1), .second, .val (.long x2), .second, .val (.long x3), .second, .val (.int x4), .val (.int x5), .val (.int (3 : Int32)), .val (.int u1), .val (.int u2), .val (.int u3), .val (.ref o137), .val (.int (1 : Int32)), .unset, .unset, .unset]) rfl kz) ?_
    refine own_g (mkF m 119 #[.val (.long x0), .second, .val (.long x1), .second, .val (.long x2), .second, .val (.long x3), .second, .val (.int x4), .val (.int x5), .val (.int (3 : Int32)), .val (.int u1), .val (.int u2), .val (.int u3), .val (.ref o137), .val (.int (1 : Int32)), .unset, .unset, .unset] [(.ref o137)]) (fun _ kz => XS.aload X222.here hx rfl (hb hby at_117) rfl rfl kz) ?_
    refine own_g (mkF m 120 #[.val (.long x0), .second, .val (.long x1), .second, .val (.long x2), .second, .val (.long x3), .second, .val (.int x4), .val (.int x5), .val (.int (3 : Int32)), .val (.int u1), .val (.int u2), .val (.int u3), .val (.ref o137), .val (.int (1 : Int32)), .unset, .unset, .unset] [(.long x1), (.ref o137)]) (fun _ kz => XS.lloadN X222.here hx rfl (hb hby at_119) rfl kz) ?_
    refine own_callV (rest := []) (a := o137) (as := [(.long x1)]) X222 hx hZ hown e222 (own_c_get l Z a0 hw o137 ob oc kf3 vf3 x1 T213.heap (own_stop I3 (by decide) _) Fk213 Fv213 Ak213x Av213x) f214 (own_w hw 23 rfl) (own_w hw 24 rfl) (own_w hw 26 rfl) (own_w hw 25 rfl) (own_w hw 3 rfl) (own_w hw 27 rfl) (by decide) own_pd4 rfl (by rw [hml]; rfl) rfl (hb hby at_120) 0 (by show 2 * 0 + _ ≤ _; exact Nat.le_of_eq rfl) (by decide) (by decide) (by decide) (by decide) ?_
    rintro _ T223 L223 X223 ⟨rfl, rfl, e223⟩
    have N223 := Fr.app N222 (Fr.nil n0)
    show own_E p e below _ (T223.setTop (mkF m 123 #[.val (.long x0), .second, .val (.long x1), .second, .val (.long x2), .second, .val (.long x3), .second, .val (.int x4), .val (.int x5), .val (.int (3 : Int32)), .val (.int u1), .val (.int u2), .val (.int u3), .val (.ref o137), .val (.int (1 : Int32)), .unset, .unset, .unset] [(.int (vf3 (own_at kf3 vf3 x1)))]))
    refine own_g (mkF m 124 #[.val (.long x0), .second, .val (.long x1), .second, .val (.long x2), .second, .val (.long x3), .second, .val (.int x4), .val (.int x5), .val (.int (3 : Int32)), .val (.int u1), .val (.int u2), .val (.int u3), .val (.ref o137), .val (.int (1 : Int32)), .unset, .unset, .unset] [(.long x1), (.int (vf3 (own_at kf3 vf3 x1)))]) (fun _ kz => XS.lloadN X223.here hx rfl (hb hby at_123) rfl kz) ?_
    refine own_g (mkF m 126 #[.val (.long x0), .second, .val (.long x1), .second, .val (.long x2), .second, .val (.long x3), .second, .val (.int x4), .val (.int x5), .val (.int (3 : Int32)), .val (.int u1), .val (.int u2), .val (.int u3), .val (.ref o137), .val (.int (1 : Int32)), .unset, .unset, .unset] [(.int (3 : Int32)), (.long x1), (.int (vf3 (own_at kf3 vf3 x1)))]) (fun _ kz => XS.iload X223.here hx rfl (hb hby at_124) rfl kz) ?_
    refine own_g (mkF m 127 #[.val (.long x0), .second, .val (.long x1), .second, .val (.long x2), .second, .val (.long x3), .second, .val (.int x4), .val (.int x5), .val (.int (3 : Int32)), .val (.int u1), .val (.int u2), .val (.int u3), .val (.ref o137), .val (.int (1 : Int32)), .unset, .unset, .unset] [(.long x0), (.int (3 : Int32)), (.long x1), (.int (vf3 (own_at kf3 vf3 x1)))]) (fun _ kz => XS.lloadN X223.here hx rfl (hb hby at_126) rfl kz) ?_
    refine own_g (mkF m 129 #[.val (.long x0), .second, .val (.long x1), .second, .val (.long x2), .second, .val (.long x3), .second, .val (.int x4), .val (.int x5), .val (.int (3 : Int32)), .val (.int u1), .val (.int u2), .val (.int u3), .val (.ref o137), .val (.int (1 : Int32)), .unset, .unset, .unset] [(.int u1), (.long x0), (.int (3 : Int32)), (.long x1), (.int (vf3 (own_at kf3 vf3 x1)))]) (fun _ kz => XS.iload X223.here hx rfl (hb hby at_127) rfl kz) ?_
    refine own_g (mkF m 130 #[.val (.long x0), .second, .val (.long x1), .second, .val (.long x2), .second, .val (.long x3), .second, .val (.int x4), .val (.int x5), .val (.int (3 : Int32)), .val (.int u1), .val (.int u2), .val (.int u3), .val (.ref o137), .val (.int (1 : Int32)), .unset, .unset, .unset] [(.long x1), (.int u1), (.long x0), (.int (3 : Int32)), (.long x1), (.int (vf3 (own_at kf3 vf3 x1)))]) (fun _ kz => XS.lloadN X223.here hx rfl (hb hby at_129) rfl kz) ?_
    refine own_g (mkF m 132 #[.val (.long x0), .second, .val (.long x1), .second, .val (.long x2), .second, .val (.long x3), .second, .val (.int x4), .val (.int x5), .val (.int (3 : Int32)), .val (.int u1), .val (.int u2), .val (.int u3), .val (.ref o137), .val (.int (1 : Int32)), .unset, .unset, .unset] [(.int u2), (.long x1), (.int u1), (.long x0), (.int (3 : Int32)), (.long x1), (.int (vf3 (own_at kf3 vf3 x1)))]) (fun _ kz => XS.iload X223.here hx rfl (hb hby at_130) rfl kz) ?_
    refine own_g (mkF m 134 #[.val (.long x0), .second, .val (.long x1), .second, .val (.long x2), .second, .val (.long x3), .second, .val (.int x4), .val (.int x5), .val (.int (3 : Int32)), .val (.int u1), .val (.int u2), .val (.int u3), .val (.ref o137), .val (.int (1 : Int32)), .unset, .unset, .unset] [(.long x2), (.int u2), (.long x1), (.int u1), (.long x0), (.int (3 : Int32)), (.long x1), (.int (vf3 (own_at kf3 vf3 x1)))]) (fun _ kz => XS.lload X223.here hx rfl (hb hby at_132) rfl kz) ?_
    refine own_g (mkF m 136 #[.val (.long x0), .second, .val (.long x1), .second, .val (.long x2), .second, .val (.long x3), .second, .val (.int x4), .val (.int x5), .val (.int (3 : Int32)), .val (.int u1), .val (.int u2), .val (.int u3), .val (.ref o137), .val (.int (1 : Int32)), .unset, .unset, .unset] [(.int u3), (.long x2), (.int u2), (.long x1), (.int u1), (.long x0), (.int (3 : Int32)), (.long x1), (.int (vf3 (own_at kf3 vf3 x1)))]) (fun _ kz => XS.iload X223.here hx rfl (hb hby at_134) rfl kz) ?_
    refine own_callS (rest := [(.int (vf3 (own_at kf3 vf3 x1)))]) (as := [(.long x1), (.int (3 : Int32)), (.long x0), (.int u1), (.long x1), (.int u2), (.long x2), (.int u3)]) X223 hx hZ hown e223 (own_c_exp l Z a0 hw x1 (3 : Int32) x0 u1 x1 u2 x2 u3 T213.heap) (own_w hw 32 rfl) (own_w hw 33 rfl) (own_w hw 34 rfl) (own_w hw 35 rfl) (by decide) own_pd5 rfl (by rw [hml]; rfl) rfl (hb hby at_136) 1 (by show 2 * 0 + _ ≤ _; exact Nat.le_of_eq rfl) (by decide) (by decide) (by decide) (by decide) ?_
    rintro _ T224 L224 X224 ⟨rfl, rfl, e224⟩
    have N224 := Fr.app N223 (Fr.nil n0)
    show own_E p e below _ (T224.setTop (mkF m 139 #[.val (.long x0), .second, .val (.long x1), .second, .val (.long x2), .second, .val (.long x3), .second, .val (.int x4), .val (.int x5), .val (.int (3 : Int32)), .val (.int u1), .val (.int u2), .val (.int u3), .val (.ref o137), .val (.int (1 : Int32)), .unset, .unset, .unset] [(.int (own_exp x1 (3 : Int32) x0 u1 x1 u2 x2 u3)), (.int (vf3 (own_at kf3 vf3 x1)))]))
    refine own_g (mkF m 142 #[.val (.long x0), .second, .val (.long x1), .second, .val (.long x2), .second, .val (.long x3), .second, .val (.int x4), .val (.int x5), .val (.int (3 : Int32)), .val (.int u1), .val (.int u2), .val (.int u3), .val (.ref o137), .val (.int (1 : Int32)), .unset, .unset, .unset] []) (fun _ kz => XS.icmpNo X224.here hx rfl (hb hby at_139) rfl (teq (hget _)).2 kz) ?_
    refine own_g (mkF m 143 #[.val (.long x0), .second, .val (.long x1), .second, .val (.long x2), .second, .val (.long x3), .second, .val (.int x4), .val (.int x5), .val (.int (3 : Int32)), .val (.int u1), .val (.int u2), .val (.int u3), .val (.ref o137), .val (.int (1 : Int32)), .unset, .unset, .unset] [(.int (1 : Int32))]) (fun _ kz => XS.iconst X224.here hx rfl (hb hby at_142) kz) ?_
    refine own_g (mkF m 147 #[.val (.long x0), .second, .val (.long x1), .second, .val (.long x2), .second, .val (.long x3), .second, .val (.int x4), .val (.int x5), .val (.int (3 : Int32)), .val (.int u1), .val (.int u2), .val (.int u3), .val (.ref o137), .val (.int (1 : Int32)), .unset, .unset, .unset] [(.int (1 : Int32))]) (fun _ kz => XS.goto X224.here hx rfl (pc0 := 143) (pc' := 147) rfl (hb hby at_143) (by decide) (by decide) kz) ?_
    refine own_g (mkF m 149 #[.val (.long x0), .second, .val (.long x1), .second, .val (.long x2), .second, .val (.long x3), .second, .val (.int x4), .val (.int x5), .val (.int (3 : Int32)), .val (.int u1), .val (.int u2), .val (.int u3), .val (.ref o137), .val (.int (1 : Int32)), .val (.int (1 : Int32)), .unset, .unset] []) (fun _ kz => XS.istore X224.here hx rfl (hb hby at_147) rfl (l' := #[.val (.long x0), .second, .val (.long x1), .second, .val (.long x2), .second, .val (.long x3), .second, .val (.int x4), .val (.int x5), .val (.int (3 : Int32)), .val (.int u1), .val (.int u2), .val (.int u3), .val (.ref o137), .val (.int (1 : Int32)), .val (.int (1 : Int32)), .unset, .unset]) rfl kz) ?_
    refine own_g (mkF m 151 #[.val (.long x0), .second, .val (.long x1), .second, .val (.long x2), .second, .val (.long x3), .second, .val (.int x4), .val (.int x5), .val (.int (3 : Int32)), .val (.int u1), .val (.int u2), .val (.int u3), .val (.ref o137), .val (.int (1 : Int32)), .val (.int (1 : Int32)), .unset, .unset] [(.ref o137)]) (fun _ kz => XS.aload X224.here hx rfl (hb hby at_149) rfl rfl kz) ?_
    refine own_g (mkF m 153 #[.val (.long x0), .second, .val (.long x1), .second, .val (.long x2), .second, .val (.long x3), .second, .val (.int x4), .val (.int x5), .val (.int (3 : Int32)), .val (.int u1), .val (.int u2), .val (.int u3), .val (.ref o137), .val (.int (1 : Int32)), .val (.int (1 : Int32)), .unset, .unset] [(.long x2), (.ref o137)]) (fun _ kz => XS.lload X224.here hx rfl (hb hby at_151) rfl kz) ?_
    refine own_callV (rest := []) (a := o137) (as := [(.long x2)]) X224 hx hZ hown e224 (own_c_get l Z a0 hw o137 ob oc kf3 vf3 x2 T213.heap (own_stop I3 (by decide) _) Fk213 Fv213 Ak213x Av213x) f214 (own_w hw 23 rfl) (own_w hw 24 rfl) (own_w hw 26 rfl) (own_w hw 25 rfl) (own_w hw 3 rfl) (own_w hw 27 rfl) (by decide) own_pd4 rfl (by rw [hml]; rfl) rfl (hb hby at_153) 0 (by show 2 * 0 + _ ≤ _; exact Nat.le_of_eq rfl) (by decide) (by decide) (by decide) (by decide) ?_
    rintro _ T225 L225 X225 ⟨rfl, rfl, e225⟩
    have N225 := Fr.app N224 (Fr.nil n0)
    show own_E p e below _ (T225.setTop (mkF m 156 #[.val (.long x0), .second, .val (.long x1), .second, .val (.long x2), .second, .val (.long x3), .second, .val (.int x4), .val (.int x5), .val (.int (3 : Int32)), .val (.int u1), .val (.int u2), .val (.int u3), .val (.ref o137), .val (.int (1 : Int32)), .val (.int (1 : Int32)), .unset, .unset] [(.int (vf3 (own_at kf3 vf3 x2)))]))
    refine own_g (mkF m 158 #[.val (.long x0), .second, .val (.long x1), .second, .val (.long x2), .second, .val (.long x3), .second, .val (.int x4), .val (.int x5), .val (.int (3 : Int32)), .val (.int u1), .val (.int u2), .val (.int u3), .val (.ref o137), .val (.int (1 : Int32)), .val (.int (1 : Int32)), .unset, .unset] [(.long x2), (.int (vf3 (own_at kf3 vf3 x2)))]) (fun _ kz => XS.lload X225.here hx rfl (hb hby at_156) rfl kz) ?_
    refine own_g (mkF m 160 #[.val (.long x0), .second, .val (.long x1), .second, .val (.long x2), .second, .val (.long x3), .second, .val (.int x4), .val (.int x5), .val (.int (3 : Int32)), .val (.int u1), .val (.int u2), .val (.int u3), .val (.ref o137), .val (.int (1 : Int32)), .val (.int (1 : Int32)), .unset, .unset] [(.int (3 : Int32)), (.long x2), (.int (vf3 (own_at kf3 vf3 x2)))]) (fun _ kz => XS.iload X225.here hx rfl (hb hby at_158) rfl kz) ?_
    refine own_g (mkF m 161 #[.val (.long x0), .second, .val (.long x1), .second, .val (.long x2), .second, .val (.long x3), .second, .val (.int x4), .val (.int x5), .val (.int (3 : Int32)), .val (.int u1), .val (.int u2), .val (.int u3), .val (.ref o137), .val (.int (1 : Int32)), .val (.int (1 : Int32)), .unset, .unset] [(.long x0), (.int (3 : Int32)), (.long x2), (.int (vf3 (own_at kf3 vf3 x2)))]) (fun _ kz => XS.lloadN X225.here hx rfl (hb hby at_160) rfl kz) ?_
    refine own_g (mkF m 163 #[.val (.long x0), .second, .val (.long x1), .second, .val (.long x2), .second, .val (.long x3), .second, .val (.int x4), .val (.int x5), .val (.int (3 : Int32)), .val (.int u1), .val (.int u2), .val (.int u3), .val (.ref o137), .val (.int (1 : Int32)), .val (.int (1 : Int32)), .unset, .unset] [(.int u1), (.long x0), (.int (3 : Int32)), (.long x2), (.int (vf3 (own_at kf3 vf3 x2)))]) (fun _ kz => XS.iload X225.here hx rfl (hb hby at_161) rfl kz) ?_
    refine own_g (mkF m 164 #[.val (.long x0), .second, .val (.long x1), .second, .val (.long x2), .second, .val (.long x3), .second, .val (.int x4), .val (.int x5), .val (.int (3 : Int32)), .val (.int u1), .val (.int u2), .val (.int u3), .val (.ref o137), .val (.int (1 : Int32)), .val (.int (1 : Int32)), .unset, .unset] [(.long x1), (.int u1), (.long x0), (.int (3 : Int32)), (.long x2), (.int (vf3 (own_at kf3 vf3 x2)))]) (fun _ kz => XS.lloadN X225.here hx rfl (hb hby at_163) rfl kz) ?_
    refine own_g (mkF m 166 #[.val (.long x0), .second, .val (.long x1), .second, .val (.long x2), .second, .val (.long x3), .second, .val (.int x4), .val (.int x5), .val (.int (3 : Int32)), .val (.int u1), .val (.int u2), .val (.int u3), .val (.ref o137), .val (.int (1 : Int32)), .val (.int (1 : Int32)), .unset, .unset] [(.int u2), (.long x1), (.int u1), (.long x0), (.int (3 : Int32)), (.long x2), (.int (vf3 (own_at kf3 vf3 x2)))]) (fun _ kz => XS.iload X225.here hx rfl (hb hby at_164) rfl kz) ?_
    refine own_g (mkF m 168 #[.val (.long x0), .second, .val (.long x1), .second, .val (.long x2), .second, .val (.long x3), .second, .val (.int x4), .val (.int x5), .val (.int (3 : Int32)), .val (.int u1), .val (.int u2), .val (.int u3), .val (.ref o137), .val (.int (1 : Int32)), .val (.int (1 : Int32)), .unset, .unset] [(.long x2), (.int u2), (.long x1), (.int u1), (.long x0), (.int (3 : Int32)), (.long x2), (.int (vf3 (own_at kf3 vf3 x2)))]) (fun _ kz => XS.lload X225.here hx rfl (hb hby at_166) rfl kz) ?_
    refine own_g (mkF m 170 #[.val (.long x0), .second, .val (.long x1), .second, .val (.long x2), .second, .val (.long x3), .second, .val (.int x4), .val (.int x5), .val (.int (3 : Int32)), .val (.int u1), .val (.int u2), .val (.int u3), .val (.ref o137), .val (.int (1 : Int32)), .val (.int (1 : Int32)), .unset, .unset] [(.int u3), (.long x2), (.int u2), (.long x1), (.int u1), (.long x0), (.int (3 : Int32)), (.long x2), (.int (vf3 (own_at kf3 vf3 x2)))]) (fun _ kz => XS.iload X225.here hx rfl (hb hby at_168) rfl kz) ?_
    refine own_callS (rest := [(.int (vf3 (own_at kf3 vf3 x2)))]) (as := [(.long x2), (.int (3 : Int32)), (.long x0), (.int u1), (.long x1), (.int u2), (.long x2), (.int u3)]) X225 hx hZ hown e225 (own_c_exp l Z a0 hw x2 (3 : Int32) x0 u1 x1 u2 x2 u3 T213.heap) (own_w hw 32 rfl) (own_w hw 33 rfl) (own_w hw 34 rfl) (own_w hw 35 rfl) (by decide) own_pd5 rfl (by rw [hml]; rfl) rfl (hb hby at_170) 1 (by show 2 * 0 + _ ≤ _; exact Nat.le_of_eq rfl) (by decide) (by decide) (by decide) (by decide) ?_
    rintro _ T226 L226 X226 ⟨rfl, rfl, e226⟩
    have N226 := Fr.app N225 (Fr.nil n0)
    show own_E p e below _ (T226.setTop (mkF m 173 #[.val (.long x0), .second, .val (.long x1), .second, .val (.long x2), .second, .val (.long x3), .second, .val (.int x4), .val (.int x5), .val (.int (3 : Int32)), .val (.int u1), .val (.int u2), .val (.int u3), .val (.ref o137), .val (.int (1 : Int32)), .val (.int (1 : Int32)), .unset, .unset] [(.int (own_exp x2 (3 : Int32) x0 u1 x1 u2 x2 u3)), (.int (vf3 (own_at kf3 vf3 x2)))]))
    refine own_g (mkF m 176 #[.val (.long x0), .second, .val (.long x1), .second, .val (.long x2), .second, .val (.long x3), .second, .val (.int x4), .val (.int x5), .val (.int (3 : Int32)), .val (.int u1), .val (.int u2), .val (.int u3), .val (.ref o137), .val (.int (1 : Int32)), .val (.int (1 : Int32)), .unset, .unset] []) (fun _ kz => XS.icmpNo X226.here hx rfl (hb hby at_173) rfl (teq (hget _)).2 kz) ?_
    refine own_g (mkF m 177 #[.val (.long x0), .second, .val (.long x1), .second, .val (.long x2), .second, .val (.long x3), .second, .val (.int x4), .val (.int x5), .val (.int (3 : Int32)), .val (.int u1), .val (.int u2), .val (.int u3), .val (.ref o137), .val (.int (1 : Int32)), .val (.int (1 : Int32)), .unset, .unset] [(.int (1 : Int32))]) (fun _ kz => XS.iconst X226.here hx rfl (hb hby at_176) kz) ?_
    refine own_g (mkF m 181 #[.val (.long x0), .second, .val (.long x1), .second, .val (.long x2), .second, .val (.long x3), .second, .val (.int x4), .val (.int x5), .val (.int (3 : Int32)), .val (.int u1), .val (.int u2), .val (.int u3), .val (.ref o137), .val (.int (1 : Int32)), .val (.int (1 : Int32)), .unset, .unset] [(.int (1 : Int32))]) (fun _ kz => XS.goto X226.here hx rfl (pc0 := 177) (pc' := 181) rfl (hb hby at_177) (by decide) (by decide) kz) ?_
    refine own_g (mkF m 183 #[.val (.long x0), .second, .val (.long x1), .second, .val (.long x2), .second, .val (.long x3), .second, .val (.int x4), .val (.int x5), .val (.int (3 : Int32)), .val (.int u1), .val (.int u2), .val (.int u3), .val (.ref o137), .val (.int (1 : Int32)), .val (.int (1 : Int32)), .val (.int (1 : Int32)), .unset] []) (fun _ kz => XS.istore X226.here hx rfl (hb hby at_181) rfl (l' := #[.val (.long x0), .second, .val (.long x1), .second, .val (.long x2), .second, .val (.long x3), .second, .val (.int x4), .val (.int x5), .val (.int (3 : Int32)), .val (.int u1), .val (.int u2), .val (.int u3), .val (.ref o137), .val (.int (1 : Int32)), .val (.int (1 : Int32)), .val (.int (1 : Int32)), .unset]) rfl kz) ?_
    refine own_g (mkF m 185 #[.val (.long x0), .second, .val (.long x1), .second, .val (.long x2), .second, .val (.long x3), .second, .val (.int x4), .val (.int x5), .val (.int (3 : Int32)), .val (.int u1), .val (.int u2), .val (.int u3), .val (.ref o137), .val (.int (1 : Int32)), .val (.int (1 : Int32)), .val (.int (1 : Int32)), .unset] [(.ref o137)]) (fun _ kz => XS.aload X226.here hx rfl (hb hby at_183) rfl rfl kz) ?_
    refine own_g (mkF m 187 #[.val (.long x0), .second, .val (.long x1), .second, .val (.long x2), .second, .val (.long x3), .second, .val (.int x4), .val (.int x5), .val (.int (3 : Int32)), .val (.int u1), .val (.int u2), .val (.int u3), .val (.ref o137), .val (.int (1 : Int32)), .val (.int (1 : Int32)), .val (.int (1 : Int32)), .unset] [(.long x3), (.ref o137)]) (fun _ kz => XS.lload X226.here hx rfl (hb hby at_185) rfl kz) ?_
    refine own_callV (rest := []) (a := o137) (as := [(.long x3)]) X226 hx hZ hown e226 (own_c_get l Z a0 hw o137 ob oc kf3 vf3 x3 T213.heap (own_stop I3 (by decide) _) Fk213 Fv213 Ak213x Av213x) f214 (own_w hw 23 rfl) (own_w hw 24 rfl) (own_w hw 26 rfl) (own_w hw 25 rfl) (own_w hw 3 rfl) (own_w hw 27 rfl) (by decide) own_pd4 rfl (by rw [hml]; rfl) rfl (hb hby at_187) 0 (by show 2 * 0 + _ ≤ _; exact Nat.le_of_eq rfl) (by decide) (by decide) (by decide) (by decide) ?_
    rintro _ T227 L227 X227 ⟨rfl, rfl, e227⟩
    have N227 := Fr.app N226 (Fr.nil n0)
    show own_E p e below _ (T227.setTop (mkF m 190 #[.val (.long x0), .second, .val (.long x1), .second, .val (.long x2), .second, .val (.long x3), .second, .val (.int x4), .val (.int x5), .val (.int (3 : Int32)), .val (.int u1), .val (.int u2), .val (.int u3), .val (.ref o137), .val (.int (1 : Int32)), .val (.int (1 : Int32)), .val (.int (1 : Int32)), .unset] [(.int (vf3 (own_at kf3 vf3 x3)))]))
    refine own_g (mkF m 192 #[.val (.long x0), .second, .val (.long x1), .second, .val (.long x2), .second, .val (.long x3), .second, .val (.int x4), .val (.int x5), .val (.int (3 : Int32)), .val (.int u1), .val (.int u2), .val (.int u3), .val (.ref o137), .val (.int (1 : Int32)), .val (.int (1 : Int32)), .val (.int (1 : Int32)), .unset] [(.long x3), (.int (vf3 (own_at kf3 vf3 x3)))]) (fun _ kz => XS.lload X227.here hx rfl (hb hby at_190) rfl kz) ?_
    refine own_g (mkF m 194 #[.val (.long x0), .second, .val (.long x1), .second, .val (.long x2), .second, .val (.long x3), .second, .val (.int x4), .val (.int x5), .val (.int (3 : Int32)), .val (.int u1), .val (.int u2), .val (.int u3), .val (.ref o137), .val (.int (1 : Int32)), .val (.int (1 : Int32)), .val (.int (1 : Int32)), .unset] [(.int (3 : Int32)), (.long x3), (.int (vf3 (own_at kf3 vf3 x3)))]) (fun _ kz => XS.iload X227.here hx rfl (hb hby at_192) rfl kz) ?_
    refine own_g (mkF m 195 #[.val (.long x0), .second, .val (.long x1), .second, .val (.long x2), .second, .val (.long x3), .second, .val (.int x4), .val (.int x5), .val (.int (3 : Int32)), .val (.int u1), .val (.int u2), .val (.int u3), .val (.ref o137), .val (.int (1 : Int32)), .val (.int (1 : Int32)), .val (.int (1 : Int32)), .unset] [(.long x0), (.int (3 : Int32)), (.long x3), (.int (vf3 (own_at kf3 vf3 x3)))]) (fun _ kz => XS.lloadN X227.here hx rfl (hb hby at_194) rfl kz) ?_
    refine own_g (mkF m 197 #[.val (.long x0), .second, .val (.long x1), .second, .val (.long x2), .second, .val (.long x3), .second, .val (.int x4), .val (.int x5), .val (.int (3 : Int32)), .val (.int u1), .val (.int u2), .val (.int u3), .val (.ref o137), .val (.int (1 : Int32)), .val (.int (1 : Int32)), .val (.int (1 : Int32)), .unset] [(.int u1), (.long x0), (.int (3 : Int32)), (.long x3), (.int (vf3 (own_at kf3 vf3 x3)))]) (fun _ kz => XS.iload X227.here hx rfl (hb hby at_195) rfl kz) ?_
    refine own_g (mkF m 198 #[.val (.long x0), .second, .val (.long x1), .second, .val (.long x2), .second, .val (.long x3), .second, .val (.int x4), .val (.int x5), .val (.int (3 : Int32)), .val (.int u1), .val (.int u2), .val (.int u3), .val (.ref o137), .val (.int (1 : Int32)), .val (.int (1 : Int32)), .val (.int (1 : Int32)), .unset] [(.long x1), (.int u1), (.long x0), (.int (3 : Int32)), (.long x3), (.int (vf3 (own_at kf3 vf3 x3)))]) (fun _ kz => XS.lloadN X227.here hx rfl (hb hby at_197) rfl kz) ?_
    refine own_g (mkF m 200 #[.val (.long x0), .second, .val (.long x1), .second, .val (.long x2), .second, .val (.long x3), .second, .val (.int x4), .val (.int x5), .val (.int (3 : Int32)), .val (.int u1), .val (.int u2), .val (.int u3), .val (.ref o137), .val (.int (1 : Int32)), .val (.int (1 : Int32)), .val (.int (1 : Int32)), .unset] [(.int u2), (.long x1), (.int u1), (.long x0), (.int (3 : Int32)), (.long x3), (.int (vf3 (own_at kf3 vf3 x3)))]) (fun _ kz => XS.iload X227.here hx rfl (hb hby at_198) rfl kz) ?_
    refine own_g (mkF m 202 #[.val (.long x0), .second, .val (.long x1), .second, .val (.long x2), .second, .val (.long x3), .second, .val (.int x4), .val (.int x5), .val (.int (3 : Int32)), .val (.int u1), .val (.int u2), .val (.int u3), .val (.ref o137), .val (.int (1 : Int32)), .val (.int (1 : Int32)), .val (.int (1 : Int32)), .unset] [(.long x2), (.int u2), (.long x1), (.int u1), (.long x0), (.int (3 : Int32)), (.long x3), (.int (vf3 (own_at kf3 vf3 x3)))]) (fun _ kz => XS.lload X227.here hx rfl (hb hby at_200) rfl kz) ?_
    refine own_g (mkF m 204 #[.val (.long x0), .second, .val (.long x1), .second, .val (.long x2), .second, .val (.long x3), .second, .val (.int x4), .val (.int x5), .val (.int (3 : Int32)), .val (.int u1), .val (.int u2), .val (.int u3), .val (.ref o137), .val (.int (1 : Int32)), .val (.int (1 : Int32)), .val (.int (1 : Int32)), .unset] [(.int u3), (.long x2), (.int u2), (.long x1), (.int u1), (.long x0), (.int (3 : Int32)), (.long x3), (.int (vf3 (own_at kf3 vf3 x3)))]) (fun _ kz => XS.iload X227.here hx rfl (hb hby at_202) rfl kz) ?_
    refine own_callS (rest := [(.int (vf3 (own_at kf3 vf3 x3)))]) (as := [(.long x3), (.int (3 : Int32)), (.long x0), (.int u1), (.long x1), (.int u2), (.long x2), (.int u3)]) X227 hx hZ hown e227 (own_c_exp l Z a0 hw x3 (3 : Int32) x0 u1 x1 u2 x2 u3 T213.heap) (own_w hw 32 rfl) (own_w hw 33 rfl) (own_w hw 34 rfl) (own_w hw 35 rfl) (by decide) own_pd5 rfl (by rw [hml]; rfl) rfl (hb hby at_204) 1 (by show 2 * 0 + _ ≤ _; exact Nat.le_of_eq rfl) (by decide) (by decide) (by decide) (by decide) ?_
    rintro _ T228 L228 X228 ⟨rfl, rfl, e228⟩
    have N228 := Fr.app N227 (Fr.nil n0)
    show own_E p e below _ (T228.setTop (mkF m 207 #[.val (.long x0), .second, .val (.long x1), .second, .val (.long x2), .second, .val (.long x3), .second, .val (.int x4), .val (.int x5), .val (.int (3 : Int32)), .val (.int u1), .val (.int u2), .val (.int u3), .val (.ref o137), .val (.int (1 : Int32)), .val (.int (1 : Int32)), .val (.int (1 : Int32)), .unset] [(.int (own_exp x3 (3 : Int32) x0 u1 x1 u2 x2 u3)), (.int (vf3 (own_at kf3 vf3 x3)))]))
    refine own_g (mkF m 210 #[.val (.long x0), .second, .val (.long x1), .second, .val (.long x2), .second, .val (.long x3), .second, .val (.int x4), .val (.int x5), .val (.int (3 : Int32)), .val (.int u1), .val (.int u2), .val (.int u3), .val (.ref o137), .val (.int (1 : Int32)), .val (.int (1 : Int32)), .val (.int (1 : Int32)), .unset] []) (fun _ kz => XS.icmpNo X228.here hx rfl (hb hby at_207) rfl (teq (hget _)).2 kz) ?_
    refine own_g (mkF m 211 #[.val (.long x0), .second, .val (.long x1), .second, .val (.long x2), .second, .val (.long x3), .second, .val (.int x4), .val (.int x5), .val (.int (3 : Int32)), .val (.int u1), .val (.int u2), .val (.int u3), .val (.ref o137), .val (.int (1 : Int32)), .val (.int (1 : Int32)), .val (.int (1 : Int32)), .unset] [(.int (1 : Int32))]) (fun _ kz => XS.iconst X228.here hx rfl (hb hby at_210) kz) ?_
    refine own_g (mkF m 215 #[.val (.long x0), .second, .val (.long x1), .second, .val (.long x2), .second, .val (.long x3), .second, .val (.int x4), .val (.int x5), .val (.int (3 : Int32)), .val (.int u1), .val (.int u2), .val (.int u3), .val (.ref o137), .val (.int (1 : Int32)), .val (.int (1 : Int32)), .val (.int (1 : Int32)), .unset] [(.int (1 : Int32))]) (fun _ kz => XS.goto X228.here hx rfl (pc0 := 211) (pc' := 215) rfl (hb hby at_211) (by decide) (by decide) kz) ?_
    refine own_g (mkF m 217 #[.val (.long x0), .second, .val (.long x1), .second, .val (.long x2), .second, .val (.long x3), .second, .val (.int x4), .val (.int x5), .val (.int (3 : Int32)), .val (.int u1), .val (.int u2), .val (.int u3), .val (.ref o137), .val (.int (1 : Int32)), .val (.int (1 : Int32)), .val (.int (1 : Int32)), .val (.int (1 : Int32))] []) (fun _ kz => XS.istore X228.here hx rfl (hb hby at_215) rfl (l' := #[.val (.long x0), .second, .val (.long x1), .second, .val (.long x2), .second, .val (.long x3), .second, .val (.int x4), .val (.int x5), .val (.int (3 : Int32)), .val (.int u1), .val (.int u2), .val (.int u3), .val (.ref o137), .val (.int (1 : Int32)), .val (.int (1 : Int32)), .val (.int (1 : Int32)), .val (.int (1 : Int32))]) rfl kz) ?_
    refine own_g (mkF m 219 #[.val (.long x0), .second, .val (.long x1), .second, .val (.long x2), .second, .val (.long x3), .second, .val (.int x4), .val (.int x5), .val (.int (3 : Int32)), .val (.int u1), .val (.int u2), .val (.int u3), .val (.ref o137), .val (.int (1 : Int32)), .val (.int (1 : Int32)), .val (.int (1 : Int32)), .val (.int (1 : Int32))] [(.int (1 : Int32))]) (fun _ kz => XS.iload X228.here hx rfl (hb hby at_217) rfl kz) ?_
    refine own_g (mkF m 222 #[.val (.long x0), .second, .val (.long x1), .second, .val (.long x2), .second, .val (.long x3), .second, .val (.int x4), .val (.int x5), .val (.int (3 : Int32)), .val (.int u1), .val (.int u2), .val (.int u3), .val (.ref o137), .val (.int (1 : Int32)), .val (.int (1 : Int32)), .val (.int (1 : Int32)), .val (.int (1 : Int32))] []) (fun _ kz => XS.ifNo X228.here hx rfl (hb hby at_219) rfl ((if0 _ _).trans (feq (by decide)).1) kz) ?_
    refine own_g (mkF m 224 #[.val (.long x0), .second, .val (.long x1), .second, .val (.long x2), .second, .val (.long x3), .second, .val (.int x4), .val (.int x5), .val (.int (3 : Int32)), .val (.int u1), .val (.int u2), .val (.int u3), .val (.ref o137), .val (.int (1 : Int32)), .val (.int (1 : Int32)), .val (.int (1 : Int32)), .val (.int (1 : Int32))] [(.int (1 : Int32))]) (fun _ kz => XS.iload X228.here hx rfl (hb hby at_222) rfl kz) ?_
    refine own_g (mkF m 227 #[.val (.long x0), .second, .val (.long x1), .second, .val (.long x2), .second, .val (.long x3), .second, .val (.int x4), .val (.int x5), .val (.int (3 : Int32)), .val (.int u1), .val (.int u2), .val (.int u3), .val (.ref o137), .val (.int (1 : Int32)), .val (.int (1 : Int32)), .val (.int (1 : Int32)), .val (.int (1 : Int32))] []) (fun _ kz => XS.ifNo X228.here hx rfl (hb hby at_224) rfl ((if0 _ _).trans (feq (by decide)).1) kz) ?_
    refine own_g (mkF m 229 #[.val (.long x0), .second, .val (.long x1), .second, .val (.long x2), .second, .val (.long x3), .second, .val (.int x4), .val (.int x5), .val (.int (3 : Int32)), .val (.int u1), .val (.int u2), .val (.int u3), .val (.ref o137), .val (.int (1 : Int32)), .val (.int (1 : Int32)), .val (.int (1 : Int32)), .val (.int (1 : Int32))] [(.int (1 : Int32))]) (fun _ kz => XS.iload X228.here hx rfl (hb hby at_227) rfl kz) ?_
    refine own_g (mkF m 232 #[.val (.long x0), .second, .val (.long x1), .second, .val (.long x2), .second, .val (.long x3), .second, .val (.int x4), .val (.int x5), .val (.int (3 : Int32)), .val (.int u1), .val (.int u2), .val (.int u3), .val (.ref o137), .val (.int (1 : Int32)), .val (.int (1 : Int32)), .val (.int (1 : Int32)), .val (.int (1 : Int32))] []) (fun _ kz => XS.ifNo X228.here hx rfl (hb hby at_229) rfl ((if0 _ _).trans (feq (by decide)).1) kz) ?_
    refine own_g (mkF m 234 #[.val (.long x0), .second, .val (.long x1), .second, .val (.long x2), .second, .val (.long x3), .second, .val (.int x4), .val (.int x5), .val (.int (3 : Int32)), .val (.int u1), .val (.int u2), .val (.int u3), .val (.ref o137), .val (.int (1 : Int32)), .val (.int (1 : Int32)), .val (.int (1 : Int32)), .val (.int (1 : Int32))] [(.int (1 : Int32))]) (fun _ kz => XS.iload X228.here hx rfl (hb hby at_232) rfl kz) ?_
    refine own_g (mkF m 237 #[.val (.long x0), .second, .val (.long x1), .second, .val (.long x2), .second, .val (.long x3), .second, .val (.int x4), .val (.int x5), .val (.int (3 : Int32)), .val (.int u1), .val (.int u2), .val (.int u3), .val (.ref o137), .val (.int (1 : Int32)), .val (.int (1 : Int32)), .val (.int (1 : Int32)), .val (.int (1 : Int32))] []) (fun _ kz => XS.ifNo X228.here hx rfl (hb hby at_234) rfl ((if0 _ _).trans (feq (by decide)).1) kz) ?_
    refine own_g (mkF m 238 #[.val (.long x0), .second, .val (.long x1), .second, .val (.long x2), .second, .val (.long x3), .second, .val (.int x4), .val (.int x5), .val (.int (3 : Int32)), .val (.int u1), .val (.int u2), .val (.int u3), .val (.ref o137), .val (.int (1 : Int32)), .val (.int (1 : Int32)), .val (.int (1 : Int32)), .val (.int (1 : Int32))] [(.int (1 : Int32))]) (fun _ kz => XS.iconst X228.here hx rfl (hb hby at_237) kz) ?_
    refine own_g (mkF m 242 #[.val (.long x0), .second, .val (.long x1), .second, .val (.long x2), .second, .val (.long x3), .second, .val (.int x4), .val (.int x5), .val (.int (3 : Int32)), .val (.int u1), .val (.int u2), .val (.int u3), .val (.ref o137), .val (.int (1 : Int32)), .val (.int (1 : Int32)), .val (.int (1 : Int32)), .val (.int (1 : Int32))] [(.int (1 : Int32))]) (fun _ kz => XS.goto X228.here hx rfl (pc0 := 238) (pc' := 242) rfl (hb hby at_238) (by decide) (by decide) kz) ?_
    exact own_retZ X228 hx hret hlk (hb hby at_242) rfl (by decide) (by decide) (by first | exact ⟨rfl, N228⟩ | (rw [e228]; exact ⟨rfl, N228⟩))
theorem own_comes {Post : Tables → Env → Array Value → State → Outcome → State → Prop} (hpost : ∀ tb e args s v u, (limb_1_1.after args s (.returned v) u = true ∧ limb_1_2.after args s (.returned v) u = true ∧ True) → FrameEnd s (.returned v) u (Jvm.fieldLocs frame_1_writes args s ++ Jvm.arrayLocs frame_1_arrays args s ++ Jvm.staticLocs frame_1_statics s) 16 384 → Post tb e args s (.returned v) u) :
    ArmFor flags0 classFile x code maxLocals ret World_1 tables_1 room_1 Calls_1 rest_1 Pre_1 Post := by
  intro l hfl _ _ p e ha hc hk s m args below hf hA hF happ hP
  obtain ⟨hcalls, hrest, hpre⟩ := hP
  obtain ⟨-, -, -, hnamed, -, -, -, hat⟩ := (Spec.applies_iff hf).mp happ
  obtain ⟨hg, hn⟩ := and_e (Cond.before_iff.mp (show (Jvm.Cond.and given_1 narrow_1).before args s = true from hpre))
  obtain ⟨hcount, r0⟩ := and_e hg
  obtain ⟨q0, r1⟩ := and_e r0
  obtain ⟨q1, r2⟩ := and_e r1
  obtain ⟨q2, r3⟩ := and_e r2
  obtain ⟨q3, r4⟩ := and_e r3
  obtain ⟨q4, r5⟩ := and_e r4
  obtain ⟨w0, w1, w2, w3, w4, w5, rfl⟩ : ∃ w0 w1 w2 w3 w4 w5 : Value, args = #[w0, w1, w2, w3, w4, w5] := by
    have hs : args.size = 6 := by simpa [Cond.value, given_1] using hcount
    obtain ⟨L⟩ := args
    match L, hs with
    | [w0, w1, w2, w3, w4, w5], _ => exact ⟨w0, w1, w2, w3, w4, w5, rfl⟩
  have hw := fun d (hd : d ∈ tables_1) => atoms_spec (ws := Jvm.Cond.code x code maxLocals ret :: tables_1) hat d (List.mem_cons_of_mem _ hd)
  obtain ⟨i0, e0⟩ := isL_v q0
  obtain rfl : w0 = (.long i0) := Option.some.inj e0
  obtain ⟨i1, e1⟩ := isL_v q1
  obtain rfl : w1 = (.long i1) := Option.some.inj e1
  obtain ⟨i2, e2⟩ := isL_v q2
  obtain rfl : w2 = (.long i2) := Option.some.inj e2
  obtain ⟨i3, e3⟩ := isL_v q3
  obtain rfl : w3 = (.long i3) := Option.some.inj e3
  obtain ⟨i4, e4⟩ := is_v q4
  obtain rfl : w4 = (.int i4) := Option.some.inj e4
  obtain ⟨i5, e5⟩ := is_v r5
  obtain rfl : w5 = (.int i5) := Option.some.inj e5
  obtain ⟨n, o, h1, h2, h3, _, L, rfl, ⟨rfl, N⟩, hq⟩ := own_c_law l s _ hw i0 i1 i2 i3 i4 i5 s.heap s.heap.size (Nat.le_refl _) p e ha hc hk s m _ below hf ((Spec.applies_iff_loose hf).mp happ).1 ⟨rfl, State.Warmed39.refl s, rfl⟩ trivial
  refine ⟨n, _, h1, h2, h3, hpost _ _ _ _ _ _ ⟨Cond.after_iff.mpr rfl, Cond.after_iff.mpr (eq_i res_at (Term.int_eval (1)) rfl), trivial⟩ ⟨hq.1, hq.2.1, (hq.2.2.sift fun y hy => Or.inr (N y hy)).mono (by decide) (by decide)⟩⟩
theorem main_1_1 : Claimed_1_1 := own_comes fun _ _ _ _ _ _ h hF => ⟨h.1, hF⟩
theorem main_1_2 : Claimed_1_2 := own_comes fun _ _ _ _ _ _ h hF => ⟨h.2.1, hF⟩
end Jvm.Pilot.@@N@@
namespace Jvm.Pilot.@@N@@
open Jvm Jvm.ClassFile Sem Op Lib Jvm.Free Jvm.Stand Jvm.Pilot.@@N@@.Jvm.D
/-! MADE BY PROGRAM (witnessworld.py) out of the Statement's table words and the real class files: 12 classes; the members and pool entries that the words name. The judged class is class 1, her method 2. -/
namespace start1
open Jvm.ClassFile
def u (s : String) : CpInfo := .utf8 (stringToUtf16 s)
/-- a pool by its gaps: so many unusable entries, then the entry; so many at the end -/
def gap : Nat → List CpInfo → List CpInfo
  | 0, r => r
  | n + 1, r => .unusable :: gap n r
def poolList (es : List (Nat × CpInfo)) (last : Nat) : List CpInfo := es.foldr (fun e r => gap e.1 (e.2 :: r)) (gap last [])
def pool (es : List (Nat × CpInfo)) (last : Nat) : Array CpInfo := ⟨poolList es last⟩
def fileOf (pool : Array CpInfo) (this : Nat) (attrs : Array Attribute := #[]) (ms : Array MethodInfo := #[]) (fl : Nat := 33) (sup : Nat := 0) (ifs : Array Nat := #[]) (fds : Array FieldInfo := #[]) : ClassFile where
  minorVersion := 0
  majorVersion := 65
  constantPool := pool
  accessFlags := fl
  thisClass := this
  superClass := sup
  interfaces := ifs
  fields := fds
  methods := ms
  attributes := attrs
def plain (name : String) (sup : Option ClassId) : Class where
  name := name
  kind := .ordinary
  loader := none
  accessFlags := 33
  super := sup
  interfaces := #[]
  cf := none
  fields := #[]
  methods := #[]
  instanceTypes := #[]
  staticTypes := #[]
  resolved := #[]
  callSites := []
  init := .initialized
  statics := none
  mirror := none

def pool0 : Array CpInfo := pool [(5, u "<init>"), (0, u "()V"), (1, .class_ 10), (1, u "java/lang/Object")] 113

def k0c0 : Code := { maxStack := 0, maxLocals := 1, code := object_method_1_code, exceptionTable := #[], attributes := #[] }
def k0m0 : Method := { name := "<init>", desc := "()V", sig := { parameters := [], returnType := none }, accessFlags := 1, code := some k0c0 }
/-- java/lang/Object -/
def k0 : Class := { plain "java/lang/Object" none with
  accessFlags := 33
  interfaces := #[]
  cf := some (fileOf pool0 8 #[] #[{ accessFlags := 1, nameIndex := 5, descriptorIndex := 6, attributes := #[] }] 33 0 #[] #[])
  fields := #[]
  methods := #[k0m0]
  instanceTypes := #[]
  staticTypes := #[]
  resolved := Array.replicate 124 none
  statics := none }

def pool1 : Array CpInfo := pool [(2, .class_ 4), (0, .nameAndType 5 6), (0, u "java/lang/Object"), (0, u "<init>"), (0, u "()V"), (0, .integer 65535), (0, .class_ 9), (0, u "com/example/demesne/demesne/core/LongIntMap"), (0, .methodref 8 3), (0, .methodref 8 12), (0, .nameAndType 13 14), (0, u "putIfAbsent"), (0, u "(JI)I"), (0, .methodref 8 16), (0, .nameAndType 17 18), (0, u "get"), (0, u "(J)I"), (0, .methodref 20 21), (0, .class_ 22), (0, .nameAndType 23 24), (0, u "com/example/demesne/demesne/core/LongIntMapGetPinLaw"), (0, u "expect"), (0, u "(JIJIJIJI)I"), (3, u "law"), (0, u "(JJJJII)Z")] 2

def k1m0 : Method := { name := "<init>", desc := "()V", sig := { parameters := [], returnType := none }, accessFlags := 1, code := none }
def k1c1 : Code := { maxStack := 4, maxLocals := 12, code := method_2_code, exceptionTable := #[], attributes := #[] }
def k1m1 : Method := { name := "expect", desc := "(JIJIJIJI)I", sig := { parameters := [.long, .int, .long, .int, .long, .int, .long, .int], returnType := some .int }, accessFlags := 10, code := some k1c1 }
def k1c2 : Code := { maxStack := 13, maxLocals := 19, code := code, exceptionTable := #[], attributes := #[] }
def k1m2 : Method := { name := "law", desc := "(JJJJII)Z", sig := { parameters := [.long, .long, .long, .long, .int, .int], returnType := some .boolean }, accessFlags := 9, code := some k1c2 }
/-- com/example/demesne/demesne/core/LongIntMapGetPinLaw -/
def k1 : Class := { plain "com/example/demesne/demesne/core/LongIntMapGetPinLaw" (some 0) with
  accessFlags := 49
  interfaces := #[]
  cf := some (fileOf pool1 20 #[] #[{ accessFlags := 1, nameIndex := 5, descriptorIndex := 6, attributes := #[] }, { accessFlags := 10, nameIndex := 23, descriptorIndex := 24, attributes := #[] }, { accessFlags := 9, nameIndex := 28, descriptorIndex := 29, attributes := #[] }] 49 2 #[] #[])
  fields := #[]
  methods := #[k1m0, k1m1, k1m2]
  instanceTypes := #[]
  staticTypes := #[]
  resolved := Array.replicate 32 none
  statics := none }

def pool2 : Array CpInfo := pool [(1, .methodref 2 3), (0, .class_ 4), (0, .nameAndType 5 6), (0, u "java/lang/Object"), (0, u "<init>"), (0, u "()V"), (0, .fieldref 8 9), (0, .class_ 10), (0, .nameAndType 11 12), (0, u "com/example/demesne/demesne/core/LongIntMap"), (0, u "keys"), (0, u "[J"), (0, .methodref 8 14), (0, .nameAndType 15 16), (0, u "emptyValues"), (0, u "(I)[I"), (0, .fieldref 8 18), (0, .nameAndType 19 20), (0, u "values"), (0, u "[I"), (2, .methodref 8 24), (0, .nameAndType 25 26), (0, u "slot"), (0, u "(JI)I"), (9, .fieldref 8 37), (0, .nameAndType 38 39), (0, u "size"), (0, u "I"), (5, u "putIfAbsent"), (0, .methodref 47 48), (0, .class_ 49), (0, .nameAndType 50 51), (0, u "java/util/Arrays"), (0, u "fill"), (0, u "([II)V"), (0, .long 11400714819323198485), (1, u "ABSENT"), (6, u "get"), (0, u "(J)I")] 20

def k2c0 : Code := { maxStack := 2, maxLocals := 1, code := prog_17_method_1_code, exceptionTable := #[], attributes := #[] }
def k2m0 : Method := { name := "<init>", desc := "()V", sig := { parameters := [], returnType := none }, accessFlags := 0, code := some k2c0 }
def k2c1 : Code := { maxStack := 4, maxLocals := 5, code := prog_17_method_3_code, exceptionTable := #[], attributes := #[] }
def k2m1 : Method := { name := "get", desc := "(J)I", sig := { parameters := [.long], returnType := some .int }, accessFlags := 0, code := some k2c1 }
def k2c2 : Code := { maxStack := 4, maxLocals := 6, code := prog_17_method_4_code, exceptionTable := #[], attributes := #[] }
def k2m2 : Method := { name := "putIfAbsent", desc := "(JI)I", sig := { parameters := [.long, .int], returnType := some .int }, accessFlags := 0, code := some k2c2 }
def k2c3 : Code := { maxStack := 2, maxLocals := 2, code := prog_17_method_6_code, exceptionTable := #[], attributes := #[] }
def k2m3 : Method := { name := "emptyValues", desc := "(I)[I", sig := { parameters := [.int], returnType := some (.array .int) }, accessFlags := 10, code := some k2c3 }
def k2c4 : Code := { maxStack := 5, maxLocals := 5, code := prog_17_method_7_code, exceptionTable := #[], attributes := #[] }
def k2m4 : Method := { name := "slot", desc := "(JI)I", sig := { parameters := [.long, .int], returnType := some .int }, accessFlags := 10, code := some k2c4 }
/-- com/example/demesne/demesne/core/LongIntMap -/
def k2 : Class := { plain "com/example/demesne/demesne/core/LongIntMap" (some 0) with
  accessFlags := 48
  interfaces := #[]
  cf := some (fileOf pool2 8 #[] #[{ accessFlags := 0, nameIndex := 5, descriptorIndex := 6, attributes := #[] }, { accessFlags := 0, nameIndex := 61, descriptorIndex := 62, attributes := #[] }, { accessFlags := 0, nameIndex := 45, descriptorIndex := 26, attributes := #[] }, { accessFlags := 10, nameIndex := 15, descriptorIndex := 16, attributes := #[] }, { accessFlags := 10, nameIndex := 25, descriptorIndex := 26, attributes := #[] }] 48 2 #[] #[{ accessFlags := 24, nameIndex := 54, descriptorIndex := 39, attributes := #[] }, { accessFlags := 2, nameIndex := 11, descriptorIndex := 12, attributes := #[] }, { accessFlags := 2, nameIndex := 19, descriptorIndex := 20, attributes := #[] }, { accessFlags := 2, nameIndex := 38, descriptorIndex := 39, attributes := #[] }])
  fields := #[{ name := "ABSENT", type := .int, accessFlags := 24, slot := 0, constantValue := 0 }, { name := "keys", type := (.array .long), accessFlags := 2, slot := 0, constantValue := 0 }, { name := "values", type := (.array .int), accessFlags := 2, slot := 1, constantValue := 0 }, { name := "size", type := .int, accessFlags := 2, slot := 2, constantValue := 0 }]
  methods := #[k2m0, k2m1, k2m2, k2m3, k2m4]
  instanceTypes := #[(.array .long), (.array .int), .int]
  staticTypes := #[.int]
  resolved := Array.replicate 83 none
  statics := none }

def pool3 : Array CpInfo := pool [(2, .class_ 4), (1, u "java/lang/Object"), (0, u "<init>"), (0, u "()V"), (7, .class_ 16), (1, u "java/util/Arrays"), (57, .class_ 76), (1, u "java/util/Arrays$NaturalOrder"), (36, .class_ 115), (1, u "java/util/Arrays$LegacyMergeSort"), (1, u "Z"), (257, .class_ 376), (0, u "java/util/Arrays$ArrayList"), (68, u "$assertionsDisabled"), (269, u "MIN_ARRAY_SORT_GRAN"), (0, u "I"), (2, u "INSERTIONSORT_THRESHOLD"), (120, u "fill"), (4, u "([II)V"), (129, .class_ 976), (0, u "java/util/Arrays$ArrayItr")] 52

def k3m0 : Method := { name := "<init>", desc := "()V", sig := { parameters := [], returnType := none }, accessFlags := 2, code := none }
def k3c1 : Code := { maxStack := 3, maxLocals := 4, code := jdk_65_method_103_code, exceptionTable := #[], attributes := #[] }
def k3m1 : Method := { name := "fill", desc := "([II)V", sig := { parameters := [(.array .int), .int], returnType := none }, accessFlags := 9, code := some k3c1 }
/-- java/util/Arrays -/
def k3 : Class := { plain "java/util/Arrays" (some 0) with
  accessFlags := 49
  interfaces := #[]
  cf := some (fileOf pool3 14 #[.nestMembers #[975, 375, 113, 74]] #[{ accessFlags := 2, nameIndex := 5, descriptorIndex := 6, attributes := #[] }, { accessFlags := 9, nameIndex := 840, descriptorIndex := 845, attributes := #[] }] 49 2 #[] #[{ accessFlags := 26, nameIndex := 715, descriptorIndex := 716, attributes := #[] }, { accessFlags := 26, nameIndex := 719, descriptorIndex := 716, attributes := #[] }, { accessFlags := 4120, nameIndex := 445, descriptorIndex := 117, attributes := #[] }])
  fields := #[{ name := "MIN_ARRAY_SORT_GRAN", type := .int, accessFlags := 26, slot := 0, constantValue := 0 }, { name := "INSERTIONSORT_THRESHOLD", type := .int, accessFlags := 26, slot := 1, constantValue := 0 }, { name := "$assertionsDisabled", type := .boolean, accessFlags := 4120, slot := 2, constantValue := 0 }]
  methods := #[k3m0, k3m1]
  instanceTypes := #[]
  staticTypes := #[.int, .int, .boolean]
  resolved := Array.replicate 1029 none
  statics := none }

def pool4 : Array CpInfo := pool [(1, u "java/lang/Cloneable"), (0, .class_ 1), (0, u "java/lang/Object"), (0, .class_ 3)] 3

/-- java/lang/Cloneable -/
def k4 : Class := { plain "java/lang/Cloneable" (some 0) with
  accessFlags := 1537
  interfaces := #[]
  cf := some (fileOf pool4 2 #[] #[] 1537 4 #[] #[])
  fields := #[]
  methods := #[]
  instanceTypes := #[]
  staticTypes := #[]
  resolved := Array.replicate 8 none
  statics := none }

def pool5 : Array CpInfo := pool [(1, u "java/io/Serializable"), (0, .class_ 1), (0, u "java/lang/Object"), (0, .class_ 3)] 3

/-- java/io/Serializable -/
def k5 : Class := { plain "java/io/Serializable" (some 0) with
  accessFlags := 1537
  interfaces := #[]
  cf := some (fileOf pool5 2 #[] #[] 1537 4 #[] #[])
  fields := #[]
  methods := #[]
  instanceTypes := #[]
  staticTypes := #[]
  resolved := Array.replicate 8 none
  statics := none }

/-- the primitive byte -/
def k6 : Class := { plain "byte" none with kind := .primitive 'B', accessFlags := 0x411 }
/-- [B -/
def k7 : Class := { plain "[B" (some 0) with kind := .array 6 .byte, interfaces := #[4, 5], accessFlags := 1041 }

/-- the primitive int -/
def k8 : Class := { plain "int" none with kind := .primitive 'I', accessFlags := 0x411 }
/-- [I -/
def k9 : Class := { plain "[I" (some 0) with kind := .array 8 .int, interfaces := #[4, 5], accessFlags := 1041 }

/-- the primitive long -/
def k10 : Class := { plain "long" none with kind := .primitive 'J', accessFlags := 0x411 }
/-- [J -/
def k11 : Class := { plain "[J" (some 0) with kind := .array 10 .long, interfaces := #[4, 5], accessFlags := 1041 }

def heap : Heap := #[]
def classes : Array Class := #[k0, k1, k2, k3, k4, k5, k6, k7, k8, k9, k10, k11]
def interned : List (Array UInt16 × Addr) := []
def slotsUsed : Nat := 0
def theMethod : MethodId := ⟨1, 2⟩
def args0 : Array Value := #[.long 5, .long 7, .long 1, .long 2, .int 3, .int 4]
def aboutOver (below : List Frame) : State where
  vm := { classes := classes, interned := interned.toArray }
  heap := heap
  slotsUsed := slotsUsed
  threads := #[{ frames := .invoking theMethod args0 :: below }]
def below0 : List Frame := [.native { method := ⟨0, 0⟩, args := #[] }]
def about1 : State := aboutOver below0
def p0 : Program := .bare "" "" ""
def e0 : Env := launch0.env 0 0 0
theorem w_frames : about1.frames = Frame.invoking theMethod args0 :: below0 := rfl
set_option maxRecDepth 65536 in
theorem w_args : argsFit about1.vm theMethod args0 = true := by decide +kernel
set_option maxRecDepth 65536 in
theorem w_heap : heapFits about1 = true := by decide +kernel
set_option maxRecDepth 65536 in
theorem w_runnable : about1.curStatus? = some .runnable := by decide +kernel
set_option maxRecDepth 65536 in
theorem w_alone : about1.alone = true := by decide +kernel
set_option maxRecDepth 65536 in
theorem w_named : about1.methodNamed? x = some theMethod := by decide +kernel
set_option maxRecDepth 65536 in
theorem w_hears : about1.hears theMethod below0 = true := by decide +kernel
set_option maxRecDepth 65536 in
theorem w_ripe : about1.ripe theMethod args0 below0 = true := by decide +kernel
theorem w_running : about1.status = .running := rfl
set_option maxRecDepth 65536 in
theorem w_room : about1.hasRoom e0.platform room_1 = true :=
  launch0.hasRoom_least _ room_1 (by decide +kernel) (by decide +kernel) (by decide +kernel) (by decide +kernel) (by decide +kernel) (by decide +kernel)
theorem allAtoms_all (ts : List Jvm.Cond) (a : Array Jvm.Value) (st : Jvm.State) : (allAtoms ts).before a st = ts.all (fun c => c.before a st) := by
  induction ts with
  | nil => rfl
  | cons c t ih =>
    show (Jvm.Cond.and c (allAtoms t)).before a st = _
    rw [Jvm.Cond.before_and, ih, List.all_cons]
def words1 : List Jvm.Cond := Jvm.Cond.code x code maxLocals ret :: tables_1
/-- a 'code' word, met by the world's own term for the bytes: nothing is compared byte by byte -/
theorem code_word {y : MethodName} {bytes : ByteArray} {mx : Nat} {rt : Option FieldType} {a : Array Value} {s : State} {m : MethodId} {meth : Method} {c : Code} (h1 : s.methodNamed? y = some m) (h2 : s.vm.method? m = some meth) (h3 : meth.code = some c) (h4 : c.code = bytes)
    (h5 : (c.maxLocals == mx && c.exceptionTable.isEmpty && decide (c.maxStack ≤ mostOperands) && decide (meth.sig.returnType = rt) && !meth.locks && decide (parseMethodDescriptor y.desc = some meth.sig)) = true) : (Jvm.Cond.code y bytes mx rt).before a s = true := by
  simp only [Bool.and_eq_true, beq_iff_eq, Bool.not_eq_true', decide_eq_true_eq] at h5
  obtain ⟨⟨⟨⟨⟨g1, g2⟩, g3⟩, g4⟩, g5⟩, g6⟩ := h5
  simp [Cond.before, Cond.holds, Cond.value, h1, h2, h3, h4, g1, g2, g3, g4, g5, g6]
def isCode : Jvm.Cond → Bool
  | .code _ _ _ _ => true
  | _ => false
theorem all_split {L : List Jvm.Cond} {P : Jvm.Cond → Bool} (h1 : L.all (fun c => isCode c || P c) = true) (h2 : ∀ c ∈ L.filter isCode, P c = true) : L.all P = true := by
  refine List.all_eq_true.mpr fun c hc => ?_
  have h := List.all_eq_true.mp h1 c hc
  rcases Bool.eq_false_or_eq_true (isCode c) with hi | hi
  · exact h2 c (List.mem_filter.mpr ⟨hc, hi⟩)
  · simpa [hi] using h
set_option maxRecDepth 65536 in
theorem w_c0 : (Jvm.Cond.code x code maxLocals ret).before args0 about1 = true := code_word (m := ⟨1, 2⟩) (meth := k1m2) (c := k1c2) (by decide +kernel) rfl rfl rfl (by decide +kernel)
set_option maxRecDepth 65536 in
theorem w_c1 : (Jvm.Cond.code ({ cls := "com/example/demesne/demesne/core/LongIntMap", name := "<init>", desc := "()V" } : Jvm.MethodName) prog_17_method_1_code (1 : Nat) (Option.none : Option Jvm.ClassFile.FieldType)).before args0 about1 = true := code_word (m := ⟨2, 0⟩) (meth := k2m0) (c := k2c0) (by decide +kernel) rfl rfl rfl (by decide +kernel)
set_option maxRecDepth 65536 in
theorem w_c2 : (Jvm.Cond.code ({ cls := "java/lang/Object", name := "<init>", desc := "()V" } : Jvm.MethodName) object_method_1_code (1 : Nat) (Option.none : Option Jvm.ClassFile.FieldType)).before args0 about1 = true := code_word (m := ⟨0, 0⟩) (meth := k0m0) (c := k0c0) (by decide +kernel) rfl rfl rfl (by decide +kernel)
set_option maxRecDepth 65536 in
theorem w_c3 : (Jvm.Cond.code ({ cls := "com/example/demesne/demesne/core/LongIntMap", name := "emptyValues", desc := "(I)[I" } : Jvm.MethodName) prog_17_method_6_code (2 : Nat) (Option.some (Jvm.ClassFile.FieldType.array Jvm.ClassFile.FieldType.int))).before args0 about1 = true := code_word (m := ⟨2, 3⟩) (meth := k2m3) (c := k2c3) (by decide +kernel) rfl rfl rfl (by decide +kernel)
set_option maxRecDepth 65536 in
theorem w_c4 : (Jvm.Cond.code ({ cls := "java/util/Arrays", name := "fill", desc := "([II)V" } : Jvm.MethodName) jdk_65_method_103_code (4 : Nat) (Option.none : Option Jvm.ClassFile.FieldType)).before args0 about1 = true := code_word (m := ⟨3, 1⟩) (meth := k3m1) (c := k3c1) (by decide +kernel) rfl rfl rfl (by decide +kernel)
set_option maxRecDepth 65536 in
theorem w_c5 : (Jvm.Cond.code ({ cls := "com/example/demesne/demesne/core/LongIntMap", name := "get", desc := "(J)I" } : Jvm.MethodName) prog_17_method_3_code (5 : Nat) (Option.some Jvm.ClassFile.FieldType.int)).before args0 about1 = true := code_word (m := ⟨2, 1⟩) (meth := k2m1) (c := k2c1) (by decide +kernel) rfl rfl rfl (by decide +kernel)
set_option maxRecDepth 65536 in
theorem w_c6 : (Jvm.Cond.code ({ cls := "com/example/demesne/demesne/core/LongIntMap", name := "slot", desc := "(JI)I" } : Jvm.MethodName) prog_17_method_7_code (5 : Nat) (Option.some Jvm.ClassFile.FieldType.int)).before args0 about1 = true := code_word (m := ⟨2, 4⟩) (meth := k2m4) (c := k2c4) (by decide +kernel) rfl rfl rfl (by decide +kernel)
set_option maxRecDepth 65536 in
theorem w_c7 : (Jvm.Cond.code ({ cls := "com/example/demesne/demesne/core/LongIntMapGetPinLaw", name := "expect", desc := "(JIJIJIJI)I" } : Jvm.MethodName) method_2_code (12 : Nat) (Option.some Jvm.ClassFile.FieldType.int)).before args0 about1 = true := code_word (m := ⟨1, 1⟩) (meth := k1m1) (c := k1c1) (by decide +kernel) rfl rfl rfl (by decide +kernel)
set_option maxRecDepth 65536 in
theorem w_c8 : (Jvm.Cond.code ({ cls := "com/example/demesne/demesne/core/LongIntMap", name := "putIfAbsent", desc := "(JI)I" } : Jvm.MethodName) prog_17_method_4_code (6 : Nat) (Option.some Jvm.ClassFile.FieldType.int)).before args0 about1 = true := code_word (m := ⟨2, 2⟩) (meth := k2m2) (c := k2c2) (by decide +kernel) rfl rfl rfl (by decide +kernel)
def codes1 : List Jvm.Cond := [Jvm.Cond.code x code maxLocals ret, Jvm.Cond.code ({ cls := "com/example/demesne/demesne/core/LongIntMap", name := "<init>", desc := "()V" } : Jvm.MethodName) prog_17_method_1_code (1 : Nat) (Option.none : Option Jvm.ClassFile.FieldType), Jvm.Cond.code ({ cls := "java/lang/Object", name := "<init>", desc := "()V" } : Jvm.MethodName) object_method_1_code (1 : Nat) (Option.none : Option Jvm.ClassFile.FieldType), Jvm.Cond.code ({ cls := "com/example/demesne/demesne/core/LongIntMap", name := "emptyValues", desc := "(I)[I" } : Jvm.MethodName) prog_17_method_6_code (2 : Nat) (Option.some (Jvm.ClassFile.FieldType.array Jvm.ClassFile.FieldType.int)), Jvm.Cond.code ({ cls := "java/util/Arrays", name := "fill", desc := "([II)V" } : Jvm.MethodName) jdk_65_method_103_code (4 : Nat) (Option.none : Option Jvm.ClassFile.FieldType), Jvm.Cond.code ({ cls := "com/example/demesne/demesne/core/LongIntMap", name := "get", desc := "(J)I" } : Jvm.MethodName) prog_17_method_3_code (5 : Nat) (Option.some Jvm.ClassFile.FieldType.int), Jvm.Cond.code ({ cls := "com/example/demesne/demesne/core/LongIntMap", name := "slot", desc := "(JI)I" } : Jvm.MethodName) prog_17_method_7_code (5 : Nat) (Option.some Jvm.ClassFile.FieldType.int), Jvm.Cond.code ({ cls := "com/example/demesne/demesne/core/LongIntMapGetPinLaw", name := "expect", desc := "(JIJIJIJI)I" } : Jvm.MethodName) method_2_code (12 : Nat) (Option.some Jvm.ClassFile.FieldType.int), Jvm.Cond.code ({ cls := "com/example/demesne/demesne/core/LongIntMap", name := "putIfAbsent", desc := "(JI)I" } : Jvm.MethodName) prog_17_method_4_code (6 : Nat) (Option.some Jvm.ClassFile.FieldType.int)]
set_option maxRecDepth 65536 in
theorem codes_eq : words1.filter isCode = codes1 := rfl
theorem w_codes : ∀ c ∈ words1.filter isCode, c.before args0 about1 = true := by
  rw [codes_eq]
  intro c hc
  simp only [codes1, List.mem_cons, List.not_mem_nil, or_false] at hc
  rcases hc with rfl | rfl | rfl | rfl | rfl | rfl | rfl | rfl | rfl
  · exact w_c0
  · exact w_c1
  · exact w_c2
  · exact w_c3
  · exact w_c4
  · exact w_c5
  · exact w_c6
  · exact w_c7
  · exact w_c8
set_option maxRecDepth 65536 in
theorem w_t1 : (words1.take 24).all (fun c => isCode c || c.before args0 about1) = true := by decide +kernel
set_option maxRecDepth 65536 in
theorem w_t2 : (words1.drop 24).all (fun c => isCode c || c.before args0 about1) = true := by decide +kernel
theorem w_tables : (allAtoms (Jvm.Cond.code x code maxLocals ret :: tables_1)).before args0 about1 = true := by
  rw [allAtoms_all]
  show words1.all (fun c => c.before args0 about1) = true
  refine all_split ?_ w_codes
  rw [← List.take_append_drop 24 words1, List.all_append, w_t1, w_t2]
  rfl
set_option maxRecDepth 65536 in
theorem w_case : (Jvm.Cond.and given_1 narrow_1).before args0 about1 = true := by decide +kernel
theorem w_applies : (headSpec (Jvm.Cond.code x code maxLocals ret :: tables_1) room_1).applies x e0.platform about1 = true :=
  (Spec.applies_iff w_frames).mpr ⟨w_running, w_runnable, w_alone, w_named, w_hears, w_ripe, w_room, w_tables⟩
theorem atStart : AtStart classFile x code maxLocals ret World_1 tables_1 room_1 Calls_1 rest_1 Pre_1 launch0 p0 e0 about1 theMethod args0 below0 :=
  ⟨lists_1, trivial, launch0.admits_env _ _ _, launch0.least_env, fairChoices_fair.cas, fairChoices_fair.clock, w_frames, w_args, w_heap, w_applies, trivial, trivial, w_case⟩
end start1
theorem witness_1 : WitnessClaimed_1 := ⟨start1.p0, start1.e0, start1.about1, start1.theMethod, start1.args0, start1.below0, start1.atStart⟩
end Jvm.Pilot.@@N@@
