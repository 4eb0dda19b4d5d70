import JvmDerived
import JvmDerived.Pilot.@@N@@Statement
import JvmDerived.Pilot.@@N@@Code
set_option linter.unusedVariables false
set_option linter.unusedSimpArgs false
namespace Jvm.Pilot.@@N@@
open Jvm Jvm.ClassFile Sem Op Lib Jvm.Free Jvm.Stand Jvm.LawKit Jvm.RoadKit Bundle Jvm.Pilot.@@N@@.Jvm.D
section Own
variable {p : Program} {l : Launch} {e : Env} {R : Room} {s : State} {m : MethodId} {args : Array Value} {below : List Frame} {meth : Method} {c : Code} {T : State} {locs : List Loc} {cells slots : Nat} {Z : State} {a0 : Array Value} {h : Heap} {P : State → Outcome → Prop} {pc pc' : Nat} {Ls Ls' : Array Slot} {st : List Value}
/-- from the state A the run comes to an end of which P speaks -/
def Dn (p : Program) (e : Env) (below : List Frame) (P : State → Outcome → Prop) (A : State) : Prop := ∃ s₂ o, Steps p.tables e below A s₂ ∧ P s₂ o
/-- the invocation has ended, returned, and Q holds of what it returned, the heap and the places written -/
def PQ (below : List Frame) (s : State) (Q : Option Value → Heap → List Loc → Prop) (k n : Nat) (s₂ : State) (o : Outcome) : Prop :=
  s₂.status = .running ∧ Ended s₂ below o ∧ ∃ v L, o = .returned v ∧ Q v s₂.heap L ∧ FrameEnd s o s₂ L k n
theorem go {A B : State} (w : ∀ t, Steps p.tables e below B t → Steps p.tables e below A t) (k : Dn p e below P B) : Dn p e below P A := by
  obtain ⟨s₂, o, h1, h2⟩ := k
  exact ⟨s₂, o, w _ h1, h2⟩
theorem goS {A B : State} (w : Steps p.tables e below A B) (k : Dn p e below P B) : Dn p e below P A := by
  obtain ⟨s₂, o, h1, h2⟩ := k
  exact ⟨s₂, o, w.trans h1, h2⟩
/-- a method's contract, at given arguments and a given heap -/
abbrev Ctr (l : Launch) (Z : State) (y : MethodName) (bytes : ByteArray) (maxL : Nat) (ret : Option FieldType) (ws : List Jvm.Cond) (R : Room) (as' : Array Value) (h0 : Heap) (Q : Option Value → Heap → List Loc → Prop) : Prop :=
  MetFree l y (head1 (Jvm.Cond.code y bytes maxL ret :: ws) R) (fun a U => a = as' ∧ Z.Warmed39 U.vm ∧ U.heap = h0) (fun _ _ _ _ _ => True) (fun _ U o U' => ∃ v L, o = .returned v ∧ Q v U'.heap L ∧ FrameEnd U o U' L R.cells R.slots)
theorem ctr_mk {y : MethodName} {bytes : ByteArray} {maxL : Nat} {ret : Option FieldType} {ws : List Jvm.Cond} {as' : Array Value} {h0 : Heap} {Q : Option Value → Heap → List Loc → Prop} {own mn : String} (hpl : plainFor y = true) (ho : y.cls = own) (hmn : y.name = mn)
    (body : ∀ (p : Program) (e : Env) (s : State) (m : MethodId) (below : List Frame) (meth : Method) (c : Code) (T : State), Stand p l e R s m as' below meth c T [] 0 0 → p.tables.exec = Jvm.exec → c.code = bytes → c.maxLocals = maxL → Z.Warmed39 s.vm → s.vm.findClass own = some m.cls → meth.name = mn → meth.sig.returnType = ret → meth.locks = false → T.heap = h0 →
      Dn p e below (PQ below s Q R.cells R.slots) (T.setTop (entryFrame m as' maxL))) : Ctr l Z y bytes maxL ret ws R as' h0 Q := by
  subst ho hmn
  refine MetFree.of_bodySF hpl hisR ?_
  intro p e s m args below meth c s₁ Bd hml hP hK
  obtain ⟨rfl, hZ, hh⟩ := hP
  have e0 : s₁.heap = h0 := by rw [← hh, Bd.state]; rfl
  obtain ⟨s₂, o, h1, h2, h3, h4⟩ := body p e s m below meth c s₁ (Stand.of_body Bd) Bd.exec Bd.bytes hml hZ (findClass_of_methodNamed Bd.named) (name_of_methodNamed Bd.named Bd.method).1 Bd.returns Bd.notSynchronized e0
  exact ⟨s₂, o, h1, h2, h3, h4⟩
theorem o_entry {g : JFrame} {as' : Array Value} {maxL : Nat} (q : entryFrame m as' maxL = g) (k : Dn p e below P (T.setTop g)) : Dn p e below P (T.setTop (entryFrame m as' maxL)) := q ▸ k
theorem fin_of {Q : Option Value → Heap → List Loc → Prop} {k n : Nat} {v : Option Value} {A : State} (X : Stand p l e R s m args below meth c T locs cells slots) (hlk : meth.locks = false) (hv : meth.sig.returnType = none → v = none) (hc : cells ≤ k) (hs : slots ≤ n) (hQ : Q v T.heap locs)
    (w : ∀ fs, (∀ (f : JFrame) (acts : List Action), f.method = m → f.locked = none → f.entered = [] → (doReturn e (T.setTop f) acts v).1 = T.setFrames fs) → Steps p.tables e below A (T.setFrames fs)) : Dn p e below (PQ below s Q k n) A := by
  obtain ⟨fs, hr, hrun, hended, hW, hsame⟩ := X.leave (v := v) hv hlk
  exact ⟨_, _, w fs hr, hrun, hended, _, _, rfl, hQ, ⟨_, rfl⟩, hW, hsame.mono hc hs⟩
theorem finI {Q : Option Value → Heap → List Loc → Prop} {k n : Nat} (X : Stand p l e R s m args below meth c T locs cells slots) (hx : p.tables.exec = Jvm.exec) (hlk : meth.locks = false) {z : Int32} (hret : meth.sig.returnType = some .int) (hd : decode c.code pc = .ok (.ireturn, 1)) (hc : cells ≤ k) (hs : slots ≤ n) (hQ : Q (some (.int z)) T.heap locs) :
    Dn p e below (PQ below s Q k n) (T.setTop (mkF m pc Ls (.int z :: st))) :=
  fin_of X hlk (fun q => by rw [hret] at q; cases q) hc hs hQ (fun fs hr => retOut X hx hret rfl (Or.inl ⟨rfl, Or.inl rfl, _, rfl⟩) hd hr)
theorem finN {Q : Option Value → Heap → List Loc → Prop} {k n : Nat} (X : Stand p l e R s m args below meth c T locs cells slots) (hx : p.tables.exec = Jvm.exec) (hlk : meth.locks = false) {z : Int32} {t : FieldType} (hret : meth.sig.returnType = some t) (ht : t = .boolean ∨ t = .byte ∨ t = .char ∨ t = .short) (hd : decode c.code pc = .ok (.ireturn, 1)) (hc : cells ≤ k) (hs : slots ≤ n) (hQ : Q (some (.int (nar t z))) T.heap locs) :
    Dn p e below (PQ below s Q k n) (T.setTop (mkF m pc Ls (.int z :: st))) :=
  fin_of X hlk (fun q => by rw [hret] at q; cases q) hc hs hQ (fun fs hr => retN X hx hret ht hd hr)
theorem finJ {Q : Option Value → Heap → List Loc → Prop} {k n : Nat} (X : Stand p l e R s m args below meth c T locs cells slots) (hx : p.tables.exec = Jvm.exec) (hlk : meth.locks = false) {z : Int64} (hret : meth.sig.returnType = some .long) (hd : decode c.code pc = .ok (.lreturn, 1)) (hc : cells ≤ k) (hs : slots ≤ n) (hQ : Q (some (.long z)) T.heap locs) :
    Dn p e below (PQ below s Q k n) (T.setTop (mkF m pc Ls (.long z :: st))) :=
  fin_of X hlk (fun q => by rw [hret] at q; cases q) hc hs hQ (fun fs hr => retOut X hx hret rfl (Or.inr (Or.inl ⟨rfl, rfl, _, rfl⟩)) hd hr)
theorem finA {Q : Option Value → Heap → List Loc → Prop} {k n : Nat} (X : Stand p l e R s m args below meth c T locs cells slots) (hx : p.tables.exec = Jvm.exec) (hlk : meth.locks = false) {w : Value} {t : FieldType} (hw : w.isRef = true) (hret : meth.sig.returnType = some t) (ht : t.isReference = true) (hn : narrow t w = w) (hd : decode c.code pc = .ok (.areturn, 1)) (hc : cells ≤ k) (hs : slots ≤ n) (hQ : Q (some w) T.heap locs) :
    Dn p e below (PQ below s Q k n) (T.setTop (mkF m pc Ls (w :: st))) :=
  fin_of X hlk (fun q => by rw [hret] at q; cases q) hc hs hQ (fun fs hr => retOut X hx hret hn (Or.inr (Or.inr (Or.inr (Or.inr ⟨rfl, ht, hw⟩)))) hd hr)
theorem finV {Q : Option Value → Heap → List Loc → Prop} {k n : Nat} (X : Stand p l e R s m args below meth c T locs cells slots) (hx : p.tables.exec = Jvm.exec) (hlk : meth.locks = false) (hret : meth.sig.returnType = none) (hd : decode c.code pc = .ok (.return_, 1)) (hc : cells ≤ k) (hs : slots ≤ n) (hQ : Q none T.heap locs) :
    Dn p e below (PQ below s Q k n) (T.setTop (mkF m pc Ls [])) :=
  fin_of X hlk (fun _ => rfl) hc hs hQ (fun fs hr => X.returnOut hx hret hd hr)
theorem o_iload (X : Stand p l e R s m args below meth c T locs cells slots) (hx : p.tables.exec = Jvm.exec) {k : Nat} {v : Int32} (hd : decode c.code pc = .ok (.iload k, 2)) (hp : pc + 2 = pc') (hl : Ls[k]? = some (.val (.int v))) (K : Dn p e below P (T.setTop (mkF m pc' Ls (.int v :: st)))) : Dn p e below P (T.setTop (mkF m pc Ls st)) := by
  subst hp
  obtain ⟨s₂, o, h1, h2⟩ := K
  exact ⟨s₂, o, XS.iload X.here hx rfl hd hl h1, h2⟩
theorem o_iloadN (X : Stand p l e R s m args below meth c T locs cells slots) (hx : p.tables.exec = Jvm.exec) {k : Fin 4} {v : Int32} (hd : decode c.code pc = .ok (.iload_n k, 1)) (hp : pc + 1 = pc') (hl : Ls[k.val]? = some (.val (.int v))) (K : Dn p e below P (T.setTop (mkF m pc' Ls (.int v :: st)))) : Dn p e below P (T.setTop (mkF m pc Ls st)) := by
  subst hp
  obtain ⟨s₂, o, h1, h2⟩ := K
  exact ⟨s₂, o, XS.iloadN X.here hx rfl hd hl h1, h2⟩
theorem o_istore (X : Stand p l e R s m args below meth c T locs cells slots) (hx : p.tables.exec = Jvm.exec) {k : Nat} {v : Int32} (hd : decode c.code pc = .ok (.istore k, 2)) (hp : pc + 2 = pc') (hl : storeLocals Ls k (.int v) = some Ls') (K : Dn p e below P (T.setTop (mkF m pc' Ls' st))) : Dn p e below P (T.setTop (mkF m pc Ls (.int v :: st))) := by
  subst hp
  obtain ⟨s₂, o, h1, h2⟩ := K
  exact ⟨s₂, o, XS.istore X.here hx rfl hd rfl hl h1, h2⟩
theorem o_istoreN (X : Stand p l e R s m args below meth c T locs cells slots) (hx : p.tables.exec = Jvm.exec) {k : Fin 4} {v : Int32} (hd : decode c.code pc = .ok (.istore_n k, 1)) (hp : pc + 1 = pc') (hl : storeLocals Ls k.val (.int v) = some Ls') (K : Dn p e below P (T.setTop (mkF m pc' Ls' st))) : Dn p e below P (T.setTop (mkF m pc Ls (.int v :: st))) := by
  subst hp
  obtain ⟨s₂, o, h1, h2⟩ := K
  exact ⟨s₂, o, XS.istoreN X.here hx rfl hd rfl hl h1, h2⟩
theorem o_lload (X : Stand p l e R s m args below meth c T locs cells slots) (hx : p.tables.exec = Jvm.exec) {k : Nat} {v : Int64} (hd : decode c.code pc = .ok (.lload k, 2)) (hp : pc + 2 = pc') (hl : Ls[k]? = some (.val (.long v))) (K : Dn p e below P (T.setTop (mkF m pc' Ls (.long v :: st)))) : Dn p e below P (T.setTop (mkF m pc Ls st)) := by
  subst hp
  obtain ⟨s₂, o, h1, h2⟩ := K
  exact ⟨s₂, o, XS.lload X.here hx rfl hd hl h1, h2⟩
theorem o_lloadN (X : Stand p l e R s m args below meth c T locs cells slots) (hx : p.tables.exec = Jvm.exec) {k : Fin 4} {v : Int64} (hd : decode c.code pc = .ok (.lload_n k, 1)) (hp : pc + 1 = pc') (hl : Ls[k.val]? = some (.val (.long v))) (K : Dn p e below P (T.setTop (mkF m pc' Ls (.long v :: st)))) : Dn p e below P (T.setTop (mkF m pc Ls st)) := by
  subst hp
  obtain ⟨s₂, o, h1, h2⟩ := K
  exact ⟨s₂, o, XS.lloadN X.here hx rfl hd hl h1, h2⟩
theorem o_lstore (X : Stand p l e R s m args below meth c T locs cells slots) (hx : p.tables.exec = Jvm.exec) {k : Nat} {v : Int64} (hd : decode c.code pc = .ok (.lstore k, 2)) (hp : pc + 2 = pc') (hl : storeLocals Ls k (.long v) = some Ls') (K : Dn p e below P (T.setTop (mkF m pc' Ls' st))) : Dn p e below P (T.setTop (mkF m pc Ls (.long v :: st))) := by
  subst hp
  obtain ⟨s₂, o, h1, h2⟩ := K
  exact ⟨s₂, o, XS.lstore X.here hx rfl hd rfl hl h1, h2⟩
theorem o_lstoreN (X : Stand p l e R s m args below meth c T locs cells slots) (hx : p.tables.exec = Jvm.exec) {k : Fin 4} {v : Int64} (hd : decode c.code pc = .ok (.lstore_n k, 1)) (hp : pc + 1 = pc') (hl : storeLocals Ls k.val (.long v) = some Ls') (K : Dn p e below P (T.setTop (mkF m pc' Ls' st))) : Dn p e below P (T.setTop (mkF m pc Ls (.long v :: st))) := by
  subst hp
  obtain ⟨s₂, o, h1, h2⟩ := K
  exact ⟨s₂, o, XS.lstoreN X.here hx rfl hd rfl hl h1, h2⟩
theorem o_aload (X : Stand p l e R s m args below meth c T locs cells slots) (hx : p.tables.exec = Jvm.exec) {k : Nat} {v : Value} (hd : decode c.code pc = .ok (.aload k, 2)) (hp : pc + 2 = pc') (hl : Ls[k]? = some (.val v)) (hv : v.isRef = true) (K : Dn p e below P (T.setTop (mkF m pc' Ls (v :: st)))) : Dn p e below P (T.setTop (mkF m pc Ls st)) := by
  subst hp
  obtain ⟨s₂, o, h1, h2⟩ := K
  exact ⟨s₂, o, XS.aload X.here hx rfl hd hl hv h1, h2⟩
theorem o_aloadN (X : Stand p l e R s m args below meth c T locs cells slots) (hx : p.tables.exec = Jvm.exec) {k : Fin 4} {v : Value} (hd : decode c.code pc = .ok (.aload_n k, 1)) (hp : pc + 1 = pc') (hl : Ls[k.val]? = some (.val v)) (hv : v.isRef = true) (K : Dn p e below P (T.setTop (mkF m pc' Ls (v :: st)))) : Dn p e below P (T.setTop (mkF m pc Ls st)) := by
  subst hp
  obtain ⟨s₂, o, h1, h2⟩ := K
  exact ⟨s₂, o, XS.aloadN X.here hx rfl hd hl hv h1, h2⟩
theorem o_astore (X : Stand p l e R s m args below meth c T locs cells slots) (hx : p.tables.exec = Jvm.exec) {k : Nat} {v : Value} (hd : decode c.code pc = .ok (.astore k, 2)) (hp : pc + 2 = pc') (hv : v.isRef = true) (hl : storeLocals Ls k v = some Ls') (K : Dn p e below P (T.setTop (mkF m pc' Ls' st))) : Dn p e below P (T.setTop (mkF m pc Ls (v :: st))) := by
  subst hp
  obtain ⟨s₂, o, h1, h2⟩ := K
  exact ⟨s₂, o, XS.astore X.here hx rfl hd rfl hv hl h1, h2⟩
theorem o_astoreN (X : Stand p l e R s m args below meth c T locs cells slots) (hx : p.tables.exec = Jvm.exec) {k : Fin 4} {v : Value} (hd : decode c.code pc = .ok (.astore_n k, 1)) (hp : pc + 1 = pc') (hv : v.isRef = true) (hl : storeLocals Ls k.val v = some Ls') (K : Dn p e below P (T.setTop (mkF m pc' Ls' st))) : Dn p e below P (T.setTop (mkF m pc Ls (v :: st))) := by
  subst hp
  obtain ⟨s₂, o, h1, h2⟩ := K
  exact ⟨s₂, o, XS.astoreN X.here hx rfl hd rfl hv hl h1, h2⟩
theorem o_iconst (X : Stand p l e R s m args below meth c T locs cells slots) (hx : p.tables.exec = Jvm.exec) {i : Int} {v : Int32} (hd : decode c.code pc = .ok (.iconst i, 1)) (hp : pc + 1 = pc') (hv : Int32.ofInt i = v) (K : Dn p e below P (T.setTop (mkF m pc' Ls (.int v :: st)))) : Dn p e below P (T.setTop (mkF m pc Ls st)) := by
  subst hp hv
  obtain ⟨s₂, o, h1, h2⟩ := K
  exact ⟨s₂, o, XS.iconst X.here hx rfl hd h1, h2⟩
theorem o_bipush (X : Stand p l e R s m args below meth c T locs cells slots) (hx : p.tables.exec = Jvm.exec) {i : Int} {v : Int32} (hd : decode c.code pc = .ok (.bipush i, 2)) (hp : pc + 2 = pc') (hv : (Int8.ofInt i).toInt32 = v) (K : Dn p e below P (T.setTop (mkF m pc' Ls (.int v :: st)))) : Dn p e below P (T.setTop (mkF m pc Ls st)) := by
  subst hp hv
  obtain ⟨s₂, o, h1, h2⟩ := K
  exact ⟨s₂, o, XS.bipush X.here hx rfl hd h1, h2⟩
theorem o_sipush (X : Stand p l e R s m args below meth c T locs cells slots) (hx : p.tables.exec = Jvm.exec) {i : Int} {v : Int32} (hd : decode c.code pc = .ok (.sipush i, 3)) (hp : pc + 3 = pc') (hv : (Int16.ofInt i).toInt32 = v) (K : Dn p e below P (T.setTop (mkF m pc' Ls (.int v :: st)))) : Dn p e below P (T.setTop (mkF m pc Ls st)) := by
  subst hp hv
  obtain ⟨s₂, o, h1, h2⟩ := K
  exact ⟨s₂, o, XS.sipush X.here hx rfl hd h1, h2⟩
theorem o_lconst (X : Stand p l e R s m args below meth c T locs cells slots) (hx : p.tables.exec = Jvm.exec) {k : Fin 2} {v : Int64} (hd : decode c.code pc = .ok (.lconst k, 1)) (hp : pc + 1 = pc') (hv : Int64.ofNat k = v) (K : Dn p e below P (T.setTop (mkF m pc' Ls (.long v :: st)))) : Dn p e below P (T.setTop (mkF m pc Ls st)) := by
  subst hp hv
  obtain ⟨s₂, o, h1, h2⟩ := K
  exact ⟨s₂, o, XS.lconst X.here hx rfl hd h1, h2⟩
theorem o_aconstNull (X : Stand p l e R s m args below meth c T locs cells slots) (hx : p.tables.exec = Jvm.exec)  (hd : decode c.code pc = .ok (.aconst_null, 1)) (hp : pc + 1 = pc')  (K : Dn p e below P (T.setTop (mkF m pc' Ls (.null :: st)))) : Dn p e below P (T.setTop (mkF m pc Ls st)) := by
  subst hp
  obtain ⟨s₂, o, h1, h2⟩ := K
  exact ⟨s₂, o, XS.aconstNull X.here hx rfl hd  h1, h2⟩
theorem o_iadd (X : Stand p l e R s m args below meth c T locs cells slots) (hx : p.tables.exec = Jvm.exec) {x y : Int32} (hd : decode c.code pc = .ok (.iadd, 1)) (hp : pc + 1 = pc')  (K : Dn p e below P (T.setTop (mkF m pc' Ls (.int (x + y) :: st)))) : Dn p e below P (T.setTop (mkF m pc Ls (.int y :: .int x :: st))) := by
  subst hp
  obtain ⟨s₂, o, h1, h2⟩ := K
  exact ⟨s₂, o, XS.iadd X.here hx rfl hd rfl h1, h2⟩
theorem o_isub (X : Stand p l e R s m args below meth c T locs cells slots) (hx : p.tables.exec = Jvm.exec) {x y : Int32} (hd : decode c.code pc = .ok (.isub, 1)) (hp : pc + 1 = pc')  (K : Dn p e below P (T.setTop (mkF m pc' Ls (.int (x - y) :: st)))) : Dn p e below P (T.setTop (mkF m pc Ls (.int y :: .int x :: st))) := by
  subst hp
  obtain ⟨s₂, o, h1, h2⟩ := K
  exact ⟨s₂, o, XS.isub X.here hx rfl hd rfl h1, h2⟩
theorem o_imul (X : Stand p l e R s m args below meth c T locs cells slots) (hx : p.tables.exec = Jvm.exec) {x y : Int32} (hd : decode c.code pc = .ok (.imul, 1)) (hp : pc + 1 = pc')  (K : Dn p e below P (T.setTop (mkF m pc' Ls (.int (x * y) :: st)))) : Dn p e below P (T.setTop (mkF m pc Ls (.int y :: .int x :: st))) := by
  subst hp
  obtain ⟨s₂, o, h1, h2⟩ := K
  exact ⟨s₂, o, XS.imul X.here hx rfl hd rfl h1, h2⟩
theorem o_iand (X : Stand p l e R s m args below meth c T locs cells slots) (hx : p.tables.exec = Jvm.exec) {x y : Int32} (hd : decode c.code pc = .ok (.iand, 1)) (hp : pc + 1 = pc')  (K : Dn p e below P (T.setTop (mkF m pc' Ls (.int (x &&& y) :: st)))) : Dn p e below P (T.setTop (mkF m pc Ls (.int y :: .int x :: st))) := by
  subst hp
  obtain ⟨s₂, o, h1, h2⟩ := K
  exact ⟨s₂, o, XS.iand X.here hx rfl hd rfl h1, h2⟩
theorem o_ior (X : Stand p l e R s m args below meth c T locs cells slots) (hx : p.tables.exec = Jvm.exec) {x y : Int32} (hd : decode c.code pc = .ok (.ior, 1)) (hp : pc + 1 = pc')  (K : Dn p e below P (T.setTop (mkF m pc' Ls (.int (x ||| y) :: st)))) : Dn p e below P (T.setTop (mkF m pc Ls (.int y :: .int x :: st))) := by
  subst hp
  obtain ⟨s₂, o, h1, h2⟩ := K
  exact ⟨s₂, o, XS.ior X.here hx rfl hd rfl h1, h2⟩
theorem o_ixor (X : Stand p l e R s m args below meth c T locs cells slots) (hx : p.tables.exec = Jvm.exec) {x y : Int32} (hd : decode c.code pc = .ok (.ixor, 1)) (hp : pc + 1 = pc')  (K : Dn p e below P (T.setTop (mkF m pc' Ls (.int (x ^^^ y) :: st)))) : Dn p e below P (T.setTop (mkF m pc Ls (.int y :: .int x :: st))) := by
  subst hp
  obtain ⟨s₂, o, h1, h2⟩ := K
  exact ⟨s₂, o, XS.ixor X.here hx rfl hd rfl h1, h2⟩
theorem o_ladd (X : Stand p l e R s m args below meth c T locs cells slots) (hx : p.tables.exec = Jvm.exec) {x y : Int64} (hd : decode c.code pc = .ok (.ladd, 1)) (hp : pc + 1 = pc')  (K : Dn p e below P (T.setTop (mkF m pc' Ls (.long (x + y) :: st)))) : Dn p e below P (T.setTop (mkF m pc Ls (.long y :: .long x :: st))) := by
  subst hp
  obtain ⟨s₂, o, h1, h2⟩ := K
  exact ⟨s₂, o, XS.ladd X.here hx rfl hd rfl h1, h2⟩
theorem o_lsub (X : Stand p l e R s m args below meth c T locs cells slots) (hx : p.tables.exec = Jvm.exec) {x y : Int64} (hd : decode c.code pc = .ok (.lsub, 1)) (hp : pc + 1 = pc')  (K : Dn p e below P (T.setTop (mkF m pc' Ls (.long (x - y) :: st)))) : Dn p e below P (T.setTop (mkF m pc Ls (.long y :: .long x :: st))) := by
  subst hp
  obtain ⟨s₂, o, h1, h2⟩ := K
  exact ⟨s₂, o, XS.lsub X.here hx rfl hd rfl h1, h2⟩
theorem o_lmul (X : Stand p l e R s m args below meth c T locs cells slots) (hx : p.tables.exec = Jvm.exec) {x y : Int64} (hd : decode c.code pc = .ok (.lmul, 1)) (hp : pc + 1 = pc')  (K : Dn p e below P (T.setTop (mkF m pc' Ls (.long (x * y) :: st)))) : Dn p e below P (T.setTop (mkF m pc Ls (.long y :: .long x :: st))) := by
  subst hp
  obtain ⟨s₂, o, h1, h2⟩ := K
  exact ⟨s₂, o, XS.lmul X.here hx rfl hd rfl h1, h2⟩
theorem o_land (X : Stand p l e R s m args below meth c T locs cells slots) (hx : p.tables.exec = Jvm.exec) {x y : Int64} (hd : decode c.code pc = .ok (.land, 1)) (hp : pc + 1 = pc')  (K : Dn p e below P (T.setTop (mkF m pc' Ls (.long (x &&& y) :: st)))) : Dn p e below P (T.setTop (mkF m pc Ls (.long y :: .long x :: st))) := by
  subst hp
  obtain ⟨s₂, o, h1, h2⟩ := K
  exact ⟨s₂, o, XS.land X.here hx rfl hd rfl h1, h2⟩
theorem o_lor (X : Stand p l e R s m args below meth c T locs cells slots) (hx : p.tables.exec = Jvm.exec) {x y : Int64} (hd : decode c.code pc = .ok (.lor, 1)) (hp : pc + 1 = pc')  (K : Dn p e below P (T.setTop (mkF m pc' Ls (.long (x ||| y) :: st)))) : Dn p e below P (T.setTop (mkF m pc Ls (.long y :: .long x :: st))) := by
  subst hp
  obtain ⟨s₂, o, h1, h2⟩ := K
  exact ⟨s₂, o, XS.lor X.here hx rfl hd rfl h1, h2⟩
theorem o_lxor (X : Stand p l e R s m args below meth c T locs cells slots) (hx : p.tables.exec = Jvm.exec) {x y : Int64} (hd : decode c.code pc = .ok (.lxor, 1)) (hp : pc + 1 = pc')  (K : Dn p e below P (T.setTop (mkF m pc' Ls (.long (x ^^^ y) :: st)))) : Dn p e below P (T.setTop (mkF m pc Ls (.long y :: .long x :: st))) := by
  subst hp
  obtain ⟨s₂, o, h1, h2⟩ := K
  exact ⟨s₂, o, XS.lxor X.here hx rfl hd rfl h1, h2⟩
theorem o_ishl (X : Stand p l e R s m args below meth c T locs cells slots) (hx : p.tables.exec = Jvm.exec) {x : Int32} {y : Int32} (hd : decode c.code pc = .ok (.ishl, 1)) (hp : pc + 1 = pc')  (K : Dn p e below P (T.setTop (mkF m pc' Ls (.int (x <<< (y &&& 31)) :: st)))) : Dn p e below P (T.setTop (mkF m pc Ls (.int y :: .int x :: st))) := by
  subst hp
  obtain ⟨s₂, o, h1, h2⟩ := K
  exact ⟨s₂, o, XS.ishl X.here hx rfl hd rfl h1, h2⟩
theorem o_ishr (X : Stand p l e R s m args below meth c T locs cells slots) (hx : p.tables.exec = Jvm.exec) {x : Int32} {y : Int32} (hd : decode c.code pc = .ok (.ishr, 1)) (hp : pc + 1 = pc')  (K : Dn p e below P (T.setTop (mkF m pc' Ls (.int (x >>> (y &&& 31)) :: st)))) : Dn p e below P (T.setTop (mkF m pc Ls (.int y :: .int x :: st))) := by
  subst hp
  obtain ⟨s₂, o, h1, h2⟩ := K
  exact ⟨s₂, o, XS.ishr X.here hx rfl hd rfl h1, h2⟩
theorem o_iushr (X : Stand p l e R s m args below meth c T locs cells slots) (hx : p.tables.exec = Jvm.exec) {x : Int32} {y : Int32} (hd : decode c.code pc = .ok (.iushr, 1)) (hp : pc + 1 = pc')  (K : Dn p e below P (T.setTop (mkF m pc' Ls (.int ((x.toUInt32 >>> (y &&& 31).toUInt32).toInt32) :: st)))) : Dn p e below P (T.setTop (mkF m pc Ls (.int y :: .int x :: st))) := by
  subst hp
  obtain ⟨s₂, o, h1, h2⟩ := K
  exact ⟨s₂, o, XS.iushr X.here hx rfl hd rfl h1, h2⟩
theorem o_lshl (X : Stand p l e R s m args below meth c T locs cells slots) (hx : p.tables.exec = Jvm.exec) {x : Int64} {y : Int32} (hd : decode c.code pc = .ok (.lshl, 1)) (hp : pc + 1 = pc')  (K : Dn p e below P (T.setTop (mkF m pc' Ls (.long (x <<< (y &&& 0x3f).toInt64) :: st)))) : Dn p e below P (T.setTop (mkF m pc Ls (.int y :: .long x :: st))) := by
  subst hp
  obtain ⟨s₂, o, h1, h2⟩ := K
  exact ⟨s₂, o, XS.lshl X.here hx rfl hd rfl h1, h2⟩
theorem o_lshr (X : Stand p l e R s m args below meth c T locs cells slots) (hx : p.tables.exec = Jvm.exec) {x : Int64} {y : Int32} (hd : decode c.code pc = .ok (.lshr, 1)) (hp : pc + 1 = pc')  (K : Dn p e below P (T.setTop (mkF m pc' Ls (.long (x >>> (y &&& 0x3f).toInt64) :: st)))) : Dn p e below P (T.setTop (mkF m pc Ls (.int y :: .long x :: st))) := by
  subst hp
  obtain ⟨s₂, o, h1, h2⟩ := K
  exact ⟨s₂, o, XS.lshr X.here hx rfl hd rfl h1, h2⟩
theorem o_lushr (X : Stand p l e R s m args below meth c T locs cells slots) (hx : p.tables.exec = Jvm.exec) {x : Int64} {y : Int32} (hd : decode c.code pc = .ok (.lushr, 1)) (hp : pc + 1 = pc')  (K : Dn p e below P (T.setTop (mkF m pc' Ls (.long ((x.toUInt64 >>> (y &&& 0x3f).toInt64.toUInt64).toInt64) :: st)))) : Dn p e below P (T.setTop (mkF m pc Ls (.int y :: .long x :: st))) := by
  subst hp
  obtain ⟨s₂, o, h1, h2⟩ := K
  exact ⟨s₂, o, XS.lushr X.here hx rfl hd rfl h1, h2⟩
theorem o_ineg (X : Stand p l e R s m args below meth c T locs cells slots) (hx : p.tables.exec = Jvm.exec) {x : Int32} (hd : decode c.code pc = .ok (.ineg, 1)) (hp : pc + 1 = pc')  (K : Dn p e below P (T.setTop (mkF m pc' Ls (.int (-x) :: st)))) : Dn p e below P (T.setTop (mkF m pc Ls (.int x :: st))) := by
  subst hp
  obtain ⟨s₂, o, h1, h2⟩ := K
  exact ⟨s₂, o, XS.ineg X.here hx rfl hd rfl h1, h2⟩
theorem o_lneg (X : Stand p l e R s m args below meth c T locs cells slots) (hx : p.tables.exec = Jvm.exec) {x : Int64} (hd : decode c.code pc = .ok (.lneg, 1)) (hp : pc + 1 = pc')  (K : Dn p e below P (T.setTop (mkF m pc' Ls (.long (-x) :: st)))) : Dn p e below P (T.setTop (mkF m pc Ls (.long x :: st))) := by
  subst hp
  obtain ⟨s₂, o, h1, h2⟩ := K
  exact ⟨s₂, o, XS.lneg X.here hx rfl hd rfl h1, h2⟩
theorem o_i2l (X : Stand p l e R s m args below meth c T locs cells slots) (hx : p.tables.exec = Jvm.exec) {x : Int32} (hd : decode c.code pc = .ok (.i2l, 1)) (hp : pc + 1 = pc')  (K : Dn p e below P (T.setTop (mkF m pc' Ls (.long (x.toInt64) :: st)))) : Dn p e below P (T.setTop (mkF m pc Ls (.int x :: st))) := by
  subst hp
  obtain ⟨s₂, o, h1, h2⟩ := K
  exact ⟨s₂, o, XS.i2l X.here hx rfl hd rfl h1, h2⟩
theorem o_l2i (X : Stand p l e R s m args below meth c T locs cells slots) (hx : p.tables.exec = Jvm.exec) {x : Int64} (hd : decode c.code pc = .ok (.l2i, 1)) (hp : pc + 1 = pc')  (K : Dn p e below P (T.setTop (mkF m pc' Ls (.int (x.toInt32) :: st)))) : Dn p e below P (T.setTop (mkF m pc Ls (.long x :: st))) := by
  subst hp
  obtain ⟨s₂, o, h1, h2⟩ := K
  exact ⟨s₂, o, XS.l2i X.here hx rfl hd rfl h1, h2⟩
theorem o_i2b (X : Stand p l e R s m args below meth c T locs cells slots) (hx : p.tables.exec = Jvm.exec) {x : Int32} (hd : decode c.code pc = .ok (.i2b, 1)) (hp : pc + 1 = pc')  (K : Dn p e below P (T.setTop (mkF m pc' Ls (.int (x.toInt8.toInt32) :: st)))) : Dn p e below P (T.setTop (mkF m pc Ls (.int x :: st))) := by
  subst hp
  obtain ⟨s₂, o, h1, h2⟩ := K
  exact ⟨s₂, o, XS.i2b X.here hx rfl hd rfl h1, h2⟩
theorem o_i2s (X : Stand p l e R s m args below meth c T locs cells slots) (hx : p.tables.exec = Jvm.exec) {x : Int32} (hd : decode c.code pc = .ok (.i2s, 1)) (hp : pc + 1 = pc')  (K : Dn p e below P (T.setTop (mkF m pc' Ls (.int (x.toInt16.toInt32) :: st)))) : Dn p e below P (T.setTop (mkF m pc Ls (.int x :: st))) := by
  subst hp
  obtain ⟨s₂, o, h1, h2⟩ := K
  exact ⟨s₂, o, XS.i2s X.here hx rfl hd rfl h1, h2⟩
theorem o_i2c (X : Stand p l e R s m args below meth c T locs cells slots) (hx : p.tables.exec = Jvm.exec) {x : Int32} (hd : decode c.code pc = .ok (.i2c, 1)) (hp : pc + 1 = pc')  (K : Dn p e below P (T.setTop (mkF m pc' Ls (.int (x.toUInt32.toUInt16.toUInt32.toInt32) :: st)))) : Dn p e below P (T.setTop (mkF m pc Ls (.int x :: st))) := by
  subst hp
  obtain ⟨s₂, o, h1, h2⟩ := K
  exact ⟨s₂, o, XS.i2c X.here hx rfl hd rfl h1, h2⟩
theorem o_idiv (X : Stand p l e R s m args below meth c T locs cells slots) (hx : p.tables.exec = Jvm.exec) {x y : Int32} (hd : decode c.code pc = .ok (.idiv, 1)) (hp : pc + 1 = pc') (hy : y ≠ 0) (K : Dn p e below P (T.setTop (mkF m pc' Ls (.int (x / y) :: st)))) : Dn p e below P (T.setTop (mkF m pc Ls (.int y :: .int x :: st))) := by
  subst hp
  obtain ⟨s₂, o, h1, h2⟩ := K
  exact ⟨s₂, o, XS.idiv X.here hx rfl hd rfl hy h1, h2⟩
theorem o_ldiv (X : Stand p l e R s m args below meth c T locs cells slots) (hx : p.tables.exec = Jvm.exec) {x y : Int64} (hd : decode c.code pc = .ok (.ldiv, 1)) (hp : pc + 1 = pc') (hy : y ≠ 0) (K : Dn p e below P (T.setTop (mkF m pc' Ls (.long (x / y) :: st)))) : Dn p e below P (T.setTop (mkF m pc Ls (.long y :: .long x :: st))) := by
  subst hp
  obtain ⟨s₂, o, h1, h2⟩ := K
  exact ⟨s₂, o, XS.ldiv X.here hx rfl hd rfl hy h1, h2⟩
theorem o_irem (X : Stand p l e R s m args below meth c T locs cells slots) (hx : p.tables.exec = Jvm.exec) {x y : Int32} (hd : decode c.code pc = .ok (.irem, 1)) (hp : pc + 1 = pc') (hy : y ≠ 0) (K : Dn p e below P (T.setTop (mkF m pc' Ls (.int (x % y) :: st)))) : Dn p e below P (T.setTop (mkF m pc Ls (.int y :: .int x :: st))) := by
  subst hp
  obtain ⟨s₂, o, h1, h2⟩ := K
  exact ⟨s₂, o, iremM X hx rfl hd rfl hy h1, h2⟩
theorem o_lcmp (X : Stand p l e R s m args below meth c T locs cells slots) (hx : p.tables.exec = Jvm.exec) {x y : Int64} (hd : decode c.code pc = .ok (.lcmp, 1)) (hp : pc + 1 = pc')  (K : Dn p e below P (T.setTop (mkF m pc' Ls (.int (lcmpW x y) :: st)))) : Dn p e below P (T.setTop (mkF m pc Ls (.long y :: .long x :: st))) := by
  subst hp
  obtain ⟨s₂, o, h1, h2⟩ := K
  exact ⟨s₂, o, XS.lcmp X.here hx rfl hd rfl h1, h2⟩
theorem o_dup (X : Stand p l e R s m args below meth c T locs cells slots) (hx : p.tables.exec = Jvm.exec) {v : Value} (hd : decode c.code pc = .ok (.dup, 1)) (hp : pc + 1 = pc') (hv : v.category = 1) (K : Dn p e below P (T.setTop (mkF m pc' Ls (v :: v :: st)))) : Dn p e below P (T.setTop (mkF m pc Ls (v :: st))) := by
  subst hp
  obtain ⟨s₂, o, h1, h2⟩ := K
  exact ⟨s₂, o, XS.dup X.here hx rfl hd rfl hv h1, h2⟩
theorem o_pop (X : Stand p l e R s m args below meth c T locs cells slots) (hx : p.tables.exec = Jvm.exec) {v : Value} (hd : decode c.code pc = .ok (.pop, 1)) (hp : pc + 1 = pc') (hv : v.category = 1) (K : Dn p e below P (T.setTop (mkF m pc' Ls st))) : Dn p e below P (T.setTop (mkF m pc Ls (v :: st))) := by
  subst hp
  obtain ⟨s₂, o, h1, h2⟩ := K
  exact ⟨s₂, o, XS.pop X.here hx rfl hd rfl hv h1, h2⟩
theorem o_dupX1 (X : Stand p l e R s m args below meth c T locs cells slots) (hx : p.tables.exec = Jvm.exec) {v w : Value} (hd : decode c.code pc = .ok (.dup_x1, 1)) (hp : pc + 1 = pc') (hv : v.category = 1) (hw : w.category = 1) (K : Dn p e below P (T.setTop (mkF m pc' Ls (v :: w :: v :: st)))) : Dn p e below P (T.setTop (mkF m pc Ls (v :: w :: st))) := by
  subst hp
  obtain ⟨s₂, o, h1, h2⟩ := K
  exact ⟨s₂, o, XS.dupX1 X.here hx rfl hd rfl hv hw h1, h2⟩
theorem o_iinc (X : Stand p l e R s m args below meth c T locs cells slots) (hx : p.tables.exec = Jvm.exec) {k : Nat} {i : Int} {x v : Int32} (hd : decode c.code pc = .ok (.iinc k i, 3)) (hp : pc + 3 = pc') (hv : Int32.ofInt i = v) (hl : Ls[k]? = some (.val (.int x))) (hl' : storeLocals Ls k (.int (x + v)) = some Ls') (K : Dn p e below P (T.setTop (mkF m pc' Ls' st))) : Dn p e below P (T.setTop (mkF m pc Ls st)) := by
  subst hp hv
  obtain ⟨s₂, o, h1, h2⟩ := K
  exact ⟨s₂, o, XS.iinc X.here hx rfl hd hl hl' h1, h2⟩
theorem o_goto (X : Stand p l e R s m args below meth c T locs cells slots) (hx : p.tables.exec = Jvm.exec) {i : Int} (hd : decode c.code pc = .ok (.goto i, 3)) (ho : 0 ≤ (pc : Int) + i) (hp : ((pc : Int) + i).toNat = pc') (K : Dn p e below P (T.setTop (mkF m pc' Ls st))) : Dn p e below P (T.setTop (mkF m pc Ls st)) := by
  obtain ⟨s₂, o, h1, h2⟩ := K
  exact ⟨s₂, o, XS.goto X.here hx rfl (pc0 := pc) rfl hd ho hp h1, h2⟩
theorem o_if_eq (X : Stand p l e R s m args below meth c T locs cells slots) (hx : p.tables.exec = Jvm.exec) {x : Int32} {i : Int} {pt : Nat} (hd : decode c.code pc = .ok (.ifCond .eq i, 3)) (hp : pc + 3 = pc') (ho : 0 ≤ (pc : Int) + i) (ht : ((pc : Int) + i).toNat = pt) (Kt : x = (0 : Int32) → Dn p e below P (T.setTop (mkF m pt Ls st))) (Kf : ¬ (x = (0 : Int32)) → Dn p e below P (T.setTop (mkF m pc' Ls st))) : Dn p e below P (T.setTop (mkF m pc Ls (.int x :: st))) := by
  subst hp
  by_cases hq : x = (0 : Int32)
  · obtain ⟨s₂, o, h1, h2⟩ := Kt hq
    exact ⟨s₂, o, XS.ifYes X.here hx rfl (pc0 := pc) rfl hd rfl ((if0 _ _).trans (teq hq).1) ho ht h1, h2⟩
  · obtain ⟨s₂, o, h1, h2⟩ := Kf hq
    exact ⟨s₂, o, XS.ifNo X.here hx rfl hd rfl ((if0 _ _).trans (feq hq).1) h1, h2⟩
theorem o_icmp_eq (X : Stand p l e R s m args below meth c T locs cells slots) (hx : p.tables.exec = Jvm.exec) {x y : Int32} {i : Int} {pt : Nat} (hd : decode c.code pc = .ok (.if_icmp .eq i, 3)) (hp : pc + 3 = pc') (ho : 0 ≤ (pc : Int) + i) (ht : ((pc : Int) + i).toNat = pt) (Kt : x = y → Dn p e below P (T.setTop (mkF m pt Ls st))) (Kf : ¬ (x = y) → Dn p e below P (T.setTop (mkF m pc' Ls st))) : Dn p e below P (T.setTop (mkF m pc Ls (.int y :: .int x :: st))) := by
  subst hp
  by_cases hq : x = y
  · obtain ⟨s₂, o, h1, h2⟩ := Kt hq
    exact ⟨s₂, o, XS.icmpYes X.here hx rfl (pc0 := pc) rfl hd rfl (teq hq).1 ho ht h1, h2⟩
  · obtain ⟨s₂, o, h1, h2⟩ := Kf hq
    exact ⟨s₂, o, XS.icmpNo X.here hx rfl hd rfl (feq hq).1 h1, h2⟩
theorem o_lif_eq (X : Stand p l e R s m args below meth c T locs cells slots) (hx : p.tables.exec = Jvm.exec) {x y : Int64} {i : Int} {pt : Nat} (hd : decode c.code pc = .ok (.ifCond .eq i, 3)) (hp : pc + 3 = pc') (ho : 0 ≤ (pc : Int) + i) (ht : ((pc : Int) + i).toNat = pt) (Kt : x = y → Dn p e below P (T.setTop (mkF m pt Ls st))) (Kf : ¬ (x = y) → Dn p e below P (T.setTop (mkF m pc' Ls st))) : Dn p e below P (T.setTop (mkF m pc Ls (.int (lcmpW x y) :: st))) := by
  subst hp
  by_cases hq : x = y
  · obtain ⟨s₂, o, h1, h2⟩ := Kt hq
    exact ⟨s₂, o, XS.ifYes X.here hx rfl (pc0 := pc) rfl hd rfl ((if0 _ _).trans (teq ((lw_eq x y).mpr hq)).1) ho ht h1, h2⟩
  · obtain ⟨s₂, o, h1, h2⟩ := Kf hq
    exact ⟨s₂, o, XS.ifNo X.here hx rfl hd rfl ((if0 _ _).trans (feq (fun z => hq ((lw_eq x y).mp z))).1) h1, h2⟩
theorem o_if_ne (X : Stand p l e R s m args below meth c T locs cells slots) (hx : p.tables.exec = Jvm.exec) {x : Int32} {i : Int} {pt : Nat} (hd : decode c.code pc = .ok (.ifCond .ne i, 3)) (hp : pc + 3 = pc') (ho : 0 ≤ (pc : Int) + i) (ht : ((pc : Int) + i).toNat = pt) (Kt : ¬ (x = (0 : Int32)) → Dn p e below P (T.setTop (mkF m pt Ls st))) (Kf : x = (0 : Int32) → Dn p e below P (T.setTop (mkF m pc' Ls st))) : Dn p e below P (T.setTop (mkF m pc Ls (.int x :: st))) := by
  subst hp
  by_cases hq : x = (0 : Int32)
  · obtain ⟨s₂, o, h1, h2⟩ := Kf hq
    exact ⟨s₂, o, XS.ifNo X.here hx rfl hd rfl ((if0 _ _).trans (teq hq).2) h1, h2⟩
  · obtain ⟨s₂, o, h1, h2⟩ := Kt hq
    exact ⟨s₂, o, XS.ifYes X.here hx rfl (pc0 := pc) rfl hd rfl ((if0 _ _).trans (feq hq).2) ho ht h1, h2⟩
theorem o_icmp_ne (X : Stand p l e R s m args below meth c T locs cells slots) (hx : p.tables.exec = Jvm.exec) {x y : Int32} {i : Int} {pt : Nat} (hd : decode c.code pc = .ok (.if_icmp .ne i, 3)) (hp : pc + 3 = pc') (ho : 0 ≤ (pc : Int) + i) (ht : ((pc : Int) + i).toNat = pt) (Kt : ¬ (x = y) → Dn p e below P (T.setTop (mkF m pt Ls st))) (Kf : x = y → Dn p e below P (T.setTop (mkF m pc' Ls st))) : Dn p e below P (T.setTop (mkF m pc Ls (.int y :: .int x :: st))) := by
  subst hp
  by_cases hq : x = y
  · obtain ⟨s₂, o, h1, h2⟩ := Kf hq
    exact ⟨s₂, o, XS.icmpNo X.here hx rfl hd rfl (teq hq).2 h1, h2⟩
  · obtain ⟨s₂, o, h1, h2⟩ := Kt hq
    exact ⟨s₂, o, XS.icmpYes X.here hx rfl (pc0 := pc) rfl hd rfl (feq hq).2 ho ht h1, h2⟩
theorem o_lif_ne (X : Stand p l e R s m args below meth c T locs cells slots) (hx : p.tables.exec = Jvm.exec) {x y : Int64} {i : Int} {pt : Nat} (hd : decode c.code pc = .ok (.ifCond .ne i, 3)) (hp : pc + 3 = pc') (ho : 0 ≤ (pc : Int) + i) (ht : ((pc : Int) + i).toNat = pt) (Kt : ¬ (x = y) → Dn p e below P (T.setTop (mkF m pt Ls st))) (Kf : x = y → Dn p e below P (T.setTop (mkF m pc' Ls st))) : Dn p e below P (T.setTop (mkF m pc Ls (.int (lcmpW x y) :: st))) := by
  subst hp
  by_cases hq : x = y
  · obtain ⟨s₂, o, h1, h2⟩ := Kf hq
    exact ⟨s₂, o, XS.ifNo X.here hx rfl hd rfl ((if0 _ _).trans (teq ((lw_eq x y).mpr hq)).2) h1, h2⟩
  · obtain ⟨s₂, o, h1, h2⟩ := Kt hq
    exact ⟨s₂, o, XS.ifYes X.here hx rfl (pc0 := pc) rfl hd rfl ((if0 _ _).trans (feq (fun z => hq ((lw_eq x y).mp z))).2) ho ht h1, h2⟩
theorem o_if_lt (X : Stand p l e R s m args below meth c T locs cells slots) (hx : p.tables.exec = Jvm.exec) {x : Int32} {i : Int} {pt : Nat} (hd : decode c.code pc = .ok (.ifCond .lt i, 3)) (hp : pc + 3 = pc') (ho : 0 ≤ (pc : Int) + i) (ht : ((pc : Int) + i).toNat = pt) (Kt : x < (0 : Int32) → Dn p e below P (T.setTop (mkF m pt Ls st))) (Kf : ¬ (x < (0 : Int32)) → Dn p e below P (T.setTop (mkF m pc' Ls st))) : Dn p e below P (T.setTop (mkF m pc Ls (.int x :: st))) := by
  subst hp
  by_cases hq : x < (0 : Int32)
  · obtain ⟨s₂, o, h1, h2⟩ := Kt hq
    exact ⟨s₂, o, XS.ifYes X.here hx rfl (pc0 := pc) rfl hd rfl ((if0 _ _).trans (tlt hq).1) ho ht h1, h2⟩
  · obtain ⟨s₂, o, h1, h2⟩ := Kf hq
    exact ⟨s₂, o, XS.ifNo X.here hx rfl hd rfl ((if0 _ _).trans (flt hq).1) h1, h2⟩
theorem o_icmp_lt (X : Stand p l e R s m args below meth c T locs cells slots) (hx : p.tables.exec = Jvm.exec) {x y : Int32} {i : Int} {pt : Nat} (hd : decode c.code pc = .ok (.if_icmp .lt i, 3)) (hp : pc + 3 = pc') (ho : 0 ≤ (pc : Int) + i) (ht : ((pc : Int) + i).toNat = pt) (Kt : x < y → Dn p e below P (T.setTop (mkF m pt Ls st))) (Kf : ¬ (x < y) → Dn p e below P (T.setTop (mkF m pc' Ls st))) : Dn p e below P (T.setTop (mkF m pc Ls (.int y :: .int x :: st))) := by
  subst hp
  by_cases hq : x < y
  · obtain ⟨s₂, o, h1, h2⟩ := Kt hq
    exact ⟨s₂, o, XS.icmpYes X.here hx rfl (pc0 := pc) rfl hd rfl (tlt hq).1 ho ht h1, h2⟩
  · obtain ⟨s₂, o, h1, h2⟩ := Kf hq
    exact ⟨s₂, o, XS.icmpNo X.here hx rfl hd rfl (flt hq).1 h1, h2⟩
theorem o_lif_lt (X : Stand p l e R s m args below meth c T locs cells slots) (hx : p.tables.exec = Jvm.exec) {x y : Int64} {i : Int} {pt : Nat} (hd : decode c.code pc = .ok (.ifCond .lt i, 3)) (hp : pc + 3 = pc') (ho : 0 ≤ (pc : Int) + i) (ht : ((pc : Int) + i).toNat = pt) (Kt : x < y → Dn p e below P (T.setTop (mkF m pt Ls st))) (Kf : ¬ (x < y) → Dn p e below P (T.setTop (mkF m pc' Ls st))) : Dn p e below P (T.setTop (mkF m pc Ls (.int (lcmpW x y) :: st))) := by
  subst hp
  by_cases hq : x < y
  · obtain ⟨s₂, o, h1, h2⟩ := Kt hq
    exact ⟨s₂, o, XS.ifYes X.here hx rfl (pc0 := pc) rfl hd rfl ((if0 _ _).trans (tlt ((lw_lt x y).mpr hq)).1) ho ht h1, h2⟩
  · obtain ⟨s₂, o, h1, h2⟩ := Kf hq
    exact ⟨s₂, o, XS.ifNo X.here hx rfl hd rfl ((if0 _ _).trans (flt (fun z => hq ((lw_lt x y).mp z))).1) h1, h2⟩
theorem o_if_ge (X : Stand p l e R s m args below meth c T locs cells slots) (hx : p.tables.exec = Jvm.exec) {x : Int32} {i : Int} {pt : Nat} (hd : decode c.code pc = .ok (.ifCond .ge i, 3)) (hp : pc + 3 = pc') (ho : 0 ≤ (pc : Int) + i) (ht : ((pc : Int) + i).toNat = pt) (Kt : ¬ (x < (0 : Int32)) → Dn p e below P (T.setTop (mkF m pt Ls st))) (Kf : x < (0 : Int32) → Dn p e below P (T.setTop (mkF m pc' Ls st))) : Dn p e below P (T.setTop (mkF m pc Ls (.int x :: st))) := by
  subst hp
  by_cases hq : x < (0 : Int32)
  · obtain ⟨s₂, o, h1, h2⟩ := Kf hq
    exact ⟨s₂, o, XS.ifNo X.here hx rfl hd rfl ((if0 _ _).trans (tlt hq).2.1) h1, h2⟩
  · obtain ⟨s₂, o, h1, h2⟩ := Kt hq
    exact ⟨s₂, o, XS.ifYes X.here hx rfl (pc0 := pc) rfl hd rfl ((if0 _ _).trans (flt hq).2.1) ho ht h1, h2⟩
theorem o_icmp_ge (X : Stand p l e R s m args below meth c T locs cells slots) (hx : p.tables.exec = Jvm.exec) {x y : Int32} {i : Int} {pt : Nat} (hd : decode c.code pc = .ok (.if_icmp .ge i, 3)) (hp : pc + 3 = pc') (ho : 0 ≤ (pc : Int) + i) (ht : ((pc : Int) + i).toNat = pt) (Kt : ¬ (x < y) → Dn p e below P (T.setTop (mkF m pt Ls st))) (Kf : x < y → Dn p e below P (T.setTop (mkF m pc' Ls st))) : Dn p e below P (T.setTop (mkF m pc Ls (.int y :: .int x :: st))) := by
  subst hp
  by_cases hq : x < y
  · obtain ⟨s₂, o, h1, h2⟩ := Kf hq
    exact ⟨s₂, o, XS.icmpNo X.here hx rfl hd rfl (tlt hq).2.1 h1, h2⟩
  · obtain ⟨s₂, o, h1, h2⟩ := Kt hq
    exact ⟨s₂, o, XS.icmpYes X.here hx rfl (pc0 := pc) rfl hd rfl (flt hq).2.1 ho ht h1, h2⟩
theorem o_lif_ge (X : Stand p l e R s m args below meth c T locs cells slots) (hx : p.tables.exec = Jvm.exec) {x y : Int64} {i : Int} {pt : Nat} (hd : decode c.code pc = .ok (.ifCond .ge i, 3)) (hp : pc + 3 = pc') (ho : 0 ≤ (pc : Int) + i) (ht : ((pc : Int) + i).toNat = pt) (Kt : ¬ (x < y) → Dn p e below P (T.setTop (mkF m pt Ls st))) (Kf : x < y → Dn p e below P (T.setTop (mkF m pc' Ls st))) : Dn p e below P (T.setTop (mkF m pc Ls (.int (lcmpW x y) :: st))) := by
  subst hp
  by_cases hq : x < y
  · obtain ⟨s₂, o, h1, h2⟩ := Kf hq
    exact ⟨s₂, o, XS.ifNo X.here hx rfl hd rfl ((if0 _ _).trans (tlt ((lw_lt x y).mpr hq)).2.1) h1, h2⟩
  · obtain ⟨s₂, o, h1, h2⟩ := Kt hq
    exact ⟨s₂, o, XS.ifYes X.here hx rfl (pc0 := pc) rfl hd rfl ((if0 _ _).trans (flt (fun z => hq ((lw_lt x y).mp z))).2.1) ho ht h1, h2⟩
theorem o_if_gt (X : Stand p l e R s m args below meth c T locs cells slots) (hx : p.tables.exec = Jvm.exec) {x : Int32} {i : Int} {pt : Nat} (hd : decode c.code pc = .ok (.ifCond .gt i, 3)) (hp : pc + 3 = pc') (ho : 0 ≤ (pc : Int) + i) (ht : ((pc : Int) + i).toNat = pt) (Kt : (0 : Int32) < x → Dn p e below P (T.setTop (mkF m pt Ls st))) (Kf : ¬ ((0 : Int32) < x) → Dn p e below P (T.setTop (mkF m pc' Ls st))) : Dn p e below P (T.setTop (mkF m pc Ls (.int x :: st))) := by
  subst hp
  by_cases hq : (0 : Int32) < x
  · obtain ⟨s₂, o, h1, h2⟩ := Kt hq
    exact ⟨s₂, o, XS.ifYes X.here hx rfl (pc0 := pc) rfl hd rfl ((if0 _ _).trans (tlt hq).2.2.1) ho ht h1, h2⟩
  · obtain ⟨s₂, o, h1, h2⟩ := Kf hq
    exact ⟨s₂, o, XS.ifNo X.here hx rfl hd rfl ((if0 _ _).trans (flt hq).2.2.1) h1, h2⟩
theorem o_icmp_gt (X : Stand p l e R s m args below meth c T locs cells slots) (hx : p.tables.exec = Jvm.exec) {x y : Int32} {i : Int} {pt : Nat} (hd : decode c.code pc = .ok (.if_icmp .gt i, 3)) (hp : pc + 3 = pc') (ho : 0 ≤ (pc : Int) + i) (ht : ((pc : Int) + i).toNat = pt) (Kt : y < x → Dn p e below P (T.setTop (mkF m pt Ls st))) (Kf : ¬ (y < x) → Dn p e below P (T.setTop (mkF m pc' Ls st))) : Dn p e below P (T.setTop (mkF m pc Ls (.int y :: .int x :: st))) := by
  subst hp
  by_cases hq : y < x
  · obtain ⟨s₂, o, h1, h2⟩ := Kt hq
    exact ⟨s₂, o, XS.icmpYes X.here hx rfl (pc0 := pc) rfl hd rfl (tlt hq).2.2.1 ho ht h1, h2⟩
  · obtain ⟨s₂, o, h1, h2⟩ := Kf hq
    exact ⟨s₂, o, XS.icmpNo X.here hx rfl hd rfl (flt hq).2.2.1 h1, h2⟩
theorem o_lif_gt (X : Stand p l e R s m args below meth c T locs cells slots) (hx : p.tables.exec = Jvm.exec) {x y : Int64} {i : Int} {pt : Nat} (hd : decode c.code pc = .ok (.ifCond .gt i, 3)) (hp : pc + 3 = pc') (ho : 0 ≤ (pc : Int) + i) (ht : ((pc : Int) + i).toNat = pt) (Kt : y < x → Dn p e below P (T.setTop (mkF m pt Ls st))) (Kf : ¬ (y < x) → Dn p e below P (T.setTop (mkF m pc' Ls st))) : Dn p e below P (T.setTop (mkF m pc Ls (.int (lcmpW x y) :: st))) := by
  subst hp
  by_cases hq : y < x
  · obtain ⟨s₂, o, h1, h2⟩ := Kt hq
    exact ⟨s₂, o, XS.ifYes X.here hx rfl (pc0 := pc) rfl hd rfl ((if0 _ _).trans (tlt ((lw_gt x y).mpr hq)).2.2.1) ho ht h1, h2⟩
  · obtain ⟨s₂, o, h1, h2⟩ := Kf hq
    exact ⟨s₂, o, XS.ifNo X.here hx rfl hd rfl ((if0 _ _).trans (flt (fun z => hq ((lw_gt x y).mp z))).2.2.1) h1, h2⟩
theorem o_if_le (X : Stand p l e R s m args below meth c T locs cells slots) (hx : p.tables.exec = Jvm.exec) {x : Int32} {i : Int} {pt : Nat} (hd : decode c.code pc = .ok (.ifCond .le i, 3)) (hp : pc + 3 = pc') (ho : 0 ≤ (pc : Int) + i) (ht : ((pc : Int) + i).toNat = pt) (Kt : ¬ ((0 : Int32) < x) → Dn p e below P (T.setTop (mkF m pt Ls st))) (Kf : (0 : Int32) < x → Dn p e below P (T.setTop (mkF m pc' Ls st))) : Dn p e below P (T.setTop (mkF m pc Ls (.int x :: st))) := by
  subst hp
  by_cases hq : (0 : Int32) < x
  · obtain ⟨s₂, o, h1, h2⟩ := Kf hq
    exact ⟨s₂, o, XS.ifNo X.here hx rfl hd rfl ((if0 _ _).trans (tlt hq).2.2.2) h1, h2⟩
  · obtain ⟨s₂, o, h1, h2⟩ := Kt hq
    exact ⟨s₂, o, XS.ifYes X.here hx rfl (pc0 := pc) rfl hd rfl ((if0 _ _).trans (flt hq).2.2.2) ho ht h1, h2⟩
theorem o_icmp_le (X : Stand p l e R s m args below meth c T locs cells slots) (hx : p.tables.exec = Jvm.exec) {x y : Int32} {i : Int} {pt : Nat} (hd : decode c.code pc = .ok (.if_icmp .le i, 3)) (hp : pc + 3 = pc') (ho : 0 ≤ (pc : Int) + i) (ht : ((pc : Int) + i).toNat = pt) (Kt : ¬ (y < x) → Dn p e below P (T.setTop (mkF m pt Ls st))) (Kf : y < x → Dn p e below P (T.setTop (mkF m pc' Ls st))) : Dn p e below P (T.setTop (mkF m pc Ls (.int y :: .int x :: st))) := by
  subst hp
  by_cases hq : y < x
  · obtain ⟨s₂, o, h1, h2⟩ := Kf hq
    exact ⟨s₂, o, XS.icmpNo X.here hx rfl hd rfl (tlt hq).2.2.2 h1, h2⟩
  · obtain ⟨s₂, o, h1, h2⟩ := Kt hq
    exact ⟨s₂, o, XS.icmpYes X.here hx rfl (pc0 := pc) rfl hd rfl (flt hq).2.2.2 ho ht h1, h2⟩
theorem o_lif_le (X : Stand p l e R s m args below meth c T locs cells slots) (hx : p.tables.exec = Jvm.exec) {x y : Int64} {i : Int} {pt : Nat} (hd : decode c.code pc = .ok (.ifCond .le i, 3)) (hp : pc + 3 = pc') (ho : 0 ≤ (pc : Int) + i) (ht : ((pc : Int) + i).toNat = pt) (Kt : ¬ (y < x) → Dn p e below P (T.setTop (mkF m pt Ls st))) (Kf : y < x → Dn p e below P (T.setTop (mkF m pc' Ls st))) : Dn p e below P (T.setTop (mkF m pc Ls (.int (lcmpW x y) :: st))) := by
  subst hp
  by_cases hq : y < x
  · obtain ⟨s₂, o, h1, h2⟩ := Kf hq
    exact ⟨s₂, o, XS.ifNo X.here hx rfl hd rfl ((if0 _ _).trans (tlt ((lw_gt x y).mpr hq)).2.2.2) h1, h2⟩
  · obtain ⟨s₂, o, h1, h2⟩ := Kt hq
    exact ⟨s₂, o, XS.ifYes X.here hx rfl (pc0 := pc) rfl hd rfl ((if0 _ _).trans (flt (fun z => hq ((lw_gt x y).mp z))).2.2.2) ho ht h1, h2⟩
theorem o_acmp_eq (X : Stand p l e R s m args below meth c T locs cells slots) (hx : p.tables.exec = Jvm.exec) {x y : Value} {i : Int} {pt : Nat} (hd : decode c.code pc = .ok (.if_acmp .eq i, 3)) (hp : pc + 3 = pc') (ho : 0 ≤ (pc : Int) + i) (ht : ((pc : Int) + i).toNat = pt) (hv : x.isRef = true) (hw : y.isRef = true) (Kt : x = y → Dn p e below P (T.setTop (mkF m pt Ls st))) (Kf : ¬ (x = y) → Dn p e below P (T.setTop (mkF m pc' Ls st))) : Dn p e below P (T.setTop (mkF m pc Ls (y :: x :: st))) := by
  subst hp
  by_cases hq : x = y
  · obtain ⟨s₂, o, h1, h2⟩ := Kt hq
    exact ⟨s₂, o, Jvm.RoadKit.acmp (g := mkF m pc Ls (y :: x :: st)) X hx rfl hv hw (pc0 := pc) (same := true) rfl hd rfl (decide_eq_true hq) ho ht.symm h1, h2⟩
  · obtain ⟨s₂, o, h1, h2⟩ := Kf hq
    exact ⟨s₂, o, Jvm.RoadKit.acmp (g := mkF m pc Ls (y :: x :: st)) X hx rfl hv hw (pc0 := pc) (same := false) rfl hd rfl (decide_eq_false hq) ho rfl h1, h2⟩
theorem o_acmp_ne (X : Stand p l e R s m args below meth c T locs cells slots) (hx : p.tables.exec = Jvm.exec) {x y : Value} {i : Int} {pt : Nat} (hd : decode c.code pc = .ok (.if_acmp .ne i, 3)) (hp : pc + 3 = pc') (ho : 0 ≤ (pc : Int) + i) (ht : ((pc : Int) + i).toNat = pt) (hv : x.isRef = true) (hw : y.isRef = true) (Kt : ¬ (x = y) → Dn p e below P (T.setTop (mkF m pt Ls st))) (Kf : x = y → Dn p e below P (T.setTop (mkF m pc' Ls st))) : Dn p e below P (T.setTop (mkF m pc Ls (y :: x :: st))) := by
  subst hp
  by_cases hq : x = y
  · obtain ⟨s₂, o, h1, h2⟩ := Kf hq
    exact ⟨s₂, o, Jvm.RoadKit.acmp (g := mkF m pc Ls (y :: x :: st)) X hx rfl hv hw (pc0 := pc) (same := true) rfl hd rfl (decide_eq_true hq) ho rfl h1, h2⟩
  · obtain ⟨s₂, o, h1, h2⟩ := Kt hq
    exact ⟨s₂, o, Jvm.RoadKit.acmp (g := mkF m pc Ls (y :: x :: st)) X hx rfl hv hw (pc0 := pc) (same := false) rfl hd rfl (decide_eq_false hq) ho ht.symm h1, h2⟩
theorem o_ifnull_no (X : Stand p l e R s m args below meth c T locs cells slots) (hx : p.tables.exec = Jvm.exec) {b : Addr} {i : Int} (hd : decode c.code pc = .ok (.ifnull i, 3)) (hp : pc + 3 = pc') (K : Dn p e below P (T.setTop (mkF m pc' Ls st))) : Dn p e below P (T.setTop (mkF m pc Ls (.ref b :: st))) := by
  subst hp
  obtain ⟨s₂, o, h1, h2⟩ := K
  exact ⟨s₂, o, XS.ifnullNo X.here hx rfl hd rfl h1, h2⟩
theorem o_ifnull_yes (X : Stand p l e R s m args below meth c T locs cells slots) (hx : p.tables.exec = Jvm.exec) {i : Int} (hd : decode c.code pc = .ok (.ifnull i, 3)) (ho : 0 ≤ (pc : Int) + i) (hp : ((pc : Int) + i).toNat = pc') (K : Dn p e below P (T.setTop (mkF m pc' Ls st))) : Dn p e below P (T.setTop (mkF m pc Ls (.null :: st))) := by
  obtain ⟨s₂, o, h1, h2⟩ := K
  exact ⟨s₂, o, XS.ifnullYes X.here hx rfl (pc0 := pc) rfl hd rfl ho hp h1, h2⟩
theorem o_ifnonnull_yes (X : Stand p l e R s m args below meth c T locs cells slots) (hx : p.tables.exec = Jvm.exec) {b : Addr} {i : Int} (hd : decode c.code pc = .ok (.ifnonnull i, 3)) (ho : 0 ≤ (pc : Int) + i) (hp : ((pc : Int) + i).toNat = pc') (K : Dn p e below P (T.setTop (mkF m pc' Ls st))) : Dn p e below P (T.setTop (mkF m pc Ls (.ref b :: st))) := by
  obtain ⟨s₂, o, h1, h2⟩ := K
  exact ⟨s₂, o, XS.ifnonnullYes X.here hx rfl (pc0 := pc) rfl hd rfl ho hp h1, h2⟩
theorem o_ldc2 (X : Stand p l e R s m args below meth c T locs cells slots) (hx : p.tables.exec = Jvm.exec) (hZ : Z.Warmed39 s.vm) {own : String} {index : Nat} {v : Int64} (hown : s.vm.findClass own = some m.cls) (w : (Jvm.Cond.constantLong own index v).before a0 Z = true) (hd : decode c.code pc = .ok (.ldc2_w index, 3)) (hp : pc + 3 = pc') (K : Dn p e below P (T.setTop (mkF m pc' Ls (.long v :: st)))) : Dn p e below P (T.setTop (mkF m pc Ls st)) := by
  subst hp
  exact go (X.ldc2Long hx hown (mvT hZ w) (g := mkF m pc Ls st) rfl hd) K
theorem o_ldc (X : Stand p l e R s m args below meth c T locs cells slots) (hx : p.tables.exec = Jvm.exec) (hZ : Z.Warmed39 s.vm) {own : String} {index : Nat} {v : Int32} (hown : s.vm.findClass own = some m.cls) (w : (Jvm.Cond.constant own index v).before a0 Z = true) (hd : decode c.code pc = .ok (.ldc index, 2)) (hp : pc + 2 = pc') (K : Dn p e below P (T.setTop (mkF m pc' Ls (.int v :: st)))) : Dn p e below P (T.setTop (mkF m pc Ls st)) := by
  subst hp
  exact go (X.ldcInt hx hown (mvT hZ w) (g := mkF m pc Ls st) rfl hd) K
theorem o_ldcw (X : Stand p l e R s m args below meth c T locs cells slots) (hx : p.tables.exec = Jvm.exec) (hZ : Z.Warmed39 s.vm) {own : String} {index : Nat} {v : Int32} (hown : s.vm.findClass own = some m.cls) (w : (Jvm.Cond.constant own index v).before a0 Z = true) (hd : decode c.code pc = .ok (.ldc_w index, 3)) (hp : pc + 3 = pc') (K : Dn p e below P (T.setTop (mkF m pc' Ls (.int v :: st)))) : Dn p e below P (T.setTop (mkF m pc Ls st)) := by
  subst hp
  exact go (X.ldcwInt hx hown (mvT hZ w) (g := mkF m pc Ls st) rfl hd) K
theorem o_dup2 (X : Stand p l e R s m args below meth c T locs cells slots) (hx : p.tables.exec = Jvm.exec) {v w : Value} (hd : decode c.code pc = .ok (.dup2, 1)) (hp : pc + 1 = pc') (hv : v.category = 1) (hw : w.category = 1) (K : Dn p e below P (T.setTop (mkF m pc' Ls (v :: w :: v :: w :: st)))) : Dn p e below P (T.setTop (mkF m pc Ls (v :: w :: st))) := by
  subst hp
  obtain ⟨s₂, o, h1, h2⟩ := K
  exact ⟨s₂, o, XT.dup2 X.here hx rfl hd rfl hv hw h1, h2⟩
theorem o_iaload (X : Stand p l e R s m args below meth c T locs cells slots) (hx : p.tables.exec = Jvm.exec) (hZ : Z.Warmed39 s.vm) (eT : T.heap = h) {a : Addr} {k : ClassId} {n j : Int32} {vs : List Value} {d v : Value} (V : Arv Z h a k .int n vs d) (hj : ¬ j < 0 ∧ j < n) (hv : vs.getD j.toNatClampNeg d = v) (hd : decode c.code pc = .ok (.iaload, 1)) (hp : pc + 1 = pc') (K : Dn p e below P (T.setTop (mkF m pc' Ls (v :: st)))) : Dn p e below P (T.setTop (mkF m pc Ls (.int j :: .ref a :: st))) := by
  subst hp
  obtain ⟨cl, A, -, S, N, H, -⟩ := V
  have hin := inb_of S hj
  exact go (X.iaload hx (j := j) (v := v) (by rw [eT]; exact A.1) (State.isArrayOf_alike hZ.alike A.2.1) A.2.2 hin (H.at hin hv) (g := mkF m pc Ls (.int j :: .ref a :: st)) rfl rfl hd) K
theorem o_laload (X : Stand p l e R s m args below meth c T locs cells slots) (hx : p.tables.exec = Jvm.exec) (hZ : Z.Warmed39 s.vm) (eT : T.heap = h) {a : Addr} {k : ClassId} {n j : Int32} {vs : List Value} {d v : Value} (V : Arv Z h a k .long n vs d) (hj : ¬ j < 0 ∧ j < n) (hv : vs.getD j.toNatClampNeg d = v) (hd : decode c.code pc = .ok (.laload, 1)) (hp : pc + 1 = pc') (K : Dn p e below P (T.setTop (mkF m pc' Ls (v :: st)))) : Dn p e below P (T.setTop (mkF m pc Ls (.int j :: .ref a :: st))) := by
  subst hp
  obtain ⟨cl, A, -, S, N, H, -⟩ := V
  have hin := inb_of S hj
  exact go (X.laload hx (j := j) (v := v) (by rw [eT]; exact A.1) (State.isArrayOf_alike hZ.alike A.2.1) A.2.2 hin (H.at hin hv) (g := mkF m pc Ls (.int j :: .ref a :: st)) rfl rfl hd) K
theorem o_caload (X : Stand p l e R s m args below meth c T locs cells slots) (hx : p.tables.exec = Jvm.exec) (hZ : Z.Warmed39 s.vm) (eT : T.heap = h) {a : Addr} {k : ClassId} {n j : Int32} {vs : List Value} {d v : Value} (V : Arv Z h a k .char n vs d) (hj : ¬ j < 0 ∧ j < n) (hv : vs.getD j.toNatClampNeg d = v) (hd : decode c.code pc = .ok (.caload, 1)) (hp : pc + 1 = pc') (K : Dn p e below P (T.setTop (mkF m pc' Ls (v :: st)))) : Dn p e below P (T.setTop (mkF m pc Ls (.int j :: .ref a :: st))) := by
  subst hp
  obtain ⟨cl, A, -, S, N, H, -⟩ := V
  have hin := inb_of S hj
  exact go (X.caload hx (j := j) (v := v) (by rw [eT]; exact A.1) (State.isArrayOf_alike hZ.alike A.2.1) A.2.2 hin (H.at hin hv) (g := mkF m pc Ls (.int j :: .ref a :: st)) rfl rfl hd) K
theorem o_baload (X : Stand p l e R s m args below meth c T locs cells slots) (hx : p.tables.exec = Jvm.exec) (hZ : Z.Warmed39 s.vm) (eT : T.heap = h) {a : Addr} {k : ClassId} {n j : Int32} {vs : List Value} {d v : Value} (V : Arv Z h a k .byte n vs d) (hj : ¬ j < 0 ∧ j < n) (hv : vs.getD j.toNatClampNeg d = v) (hd : decode c.code pc = .ok (.baload, 1)) (hp : pc + 1 = pc') (K : Dn p e below P (T.setTop (mkF m pc' Ls (v :: st)))) : Dn p e below P (T.setTop (mkF m pc Ls (.int j :: .ref a :: st))) := by
  subst hp
  obtain ⟨cl, A, -, S, N, H, -⟩ := V
  have hin := inb_of S hj
  exact go (X.baloadBytes hx (j := j) (v := v) (by rw [eT]; exact A.1) (State.isArrayOf_alike hZ.alike A.2.1) A.2.2 hin (H.at hin hv) (g := mkF m pc Ls (.int j :: .ref a :: st)) rfl rfl hd) K
theorem o_aaload (X : Stand p l e R s m args below meth c T locs cells slots) (hx : p.tables.exec = Jvm.exec) (hZ : Z.Warmed39 s.vm) (eT : T.heap = h) {a : Addr} {k : ClassId} {n j : Int32} {vs : List Value} {d v : Value} {ty : FieldType} (V : Arv Z h a k ty n vs d) (hty : ty.isReference = true) (hj : ¬ j < 0 ∧ j < n) (hv : vs.getD j.toNatClampNeg d = v) (hd : decode c.code pc = .ok (.aaload, 1)) (hp : pc + 1 = pc') (K : Dn p e below P (T.setTop (mkF m pc' Ls (v :: st)))) : Dn p e below P (T.setTop (mkF m pc Ls (.int j :: .ref a :: st))) := by
  subst hp
  obtain ⟨cl, A, -, S, N, H, -⟩ := V
  have hin := inb_of S hj
  exact go (X.aaload hx (j := j) (v := v) (by rw [eT]; exact A.1) (State.isArrayOf_alike hZ.alike A.2.1) hty A.2.2 hin (H.at hin hv) (g := mkF m pc Ls (.int j :: .ref a :: st)) rfl rfl hd) K
theorem o_arraylength (X : Stand p l e R s m args below meth c T locs cells slots) (hx : p.tables.exec = Jvm.exec) (hZ : Z.Warmed39 s.vm) (eT : T.heap = h) {a : Addr} {k : ClassId} {n : Int32} {vs : List Value} {d : Value} {ty : FieldType} (V : Arv Z h a k ty n vs d) (hd : decode c.code pc = .ok (.arraylength, 1)) (hp : pc + 1 = pc') (K : Dn p e below P (T.setTop (mkF m pc' Ls (.int n :: st)))) : Dn p e below P (T.setTop (mkF m pc Ls (.ref a :: st))) := by
  subst hp
  obtain ⟨cl, A, -, S, N, H, -⟩ := V
  refine go (X.arraylength hx (by rw [eT]; exact A.1) (State.isArrayOf_alike hZ.alike A.2.1) (g := mkF m pc Ls (.ref a :: st)) rfl rfl hd) ?_
  rw [len_of S N]
  exact K
theorem o_iastore (X : Stand p l e R s m args below meth c T locs cells slots) (hx : p.tables.exec = Jvm.exec) (hZ : Z.Warmed39 s.vm) (eT : T.heap = h) {a : Addr} {k : ClassId} {n j : Int32} {vs : List Value} {d : Value} {x : Int32} (V : Arv Z h a k .int n vs d) (hj : ¬ j < 0 ∧ j < n) (i : Nat) (hi : j.toNatClampNeg = i) (hl : i < vs.length) (hd : decode c.code pc = .ok (.iastore, 1)) (hp : pc + 1 = pc') (K : ∀ T' h', Stand p l e R s m args below meth c T' (locs ++ [⟨a, j.toNatClampNeg⟩]) cells slots → T'.heap = h' → Wr h h' a j.toNatClampNeg (.int x) → Arv Z h' a k .int n (vs.set i (.int x)) d → Dn p e below P (T'.setTop (mkF m pc' Ls st))) : Dn p e below P (T.setTop (mkF m pc Ls (.int x :: .int j :: .ref a :: st))) := by
  subst hp
  obtain ⟨cl, A, q, S, N, H, G⟩ := V
  have hin := inb_of S hj
  obtain ⟨T', h', X', e', W', st'⟩ := stI X hx hZ eT A (j := j) (x := x) hin (g := mkF m pc Ls (.int x :: .int j :: .ref a :: st)) rfl rfl hd
  exact go st' (K T' h' X' e' W' (Arv.set A q S N H G rfl W' i hi hl))
theorem o_lastore (X : Stand p l e R s m args below meth c T locs cells slots) (hx : p.tables.exec = Jvm.exec) (hZ : Z.Warmed39 s.vm) (eT : T.heap = h) {a : Addr} {k : ClassId} {n j : Int32} {vs : List Value} {d : Value} {x : Int64} (V : Arv Z h a k .long n vs d) (hj : ¬ j < 0 ∧ j < n) (i : Nat) (hi : j.toNatClampNeg = i) (hl : i < vs.length) (hd : decode c.code pc = .ok (.lastore, 1)) (hp : pc + 1 = pc') (K : ∀ T' h', Stand p l e R s m args below meth c T' (locs ++ [⟨a, j.toNatClampNeg⟩]) cells slots → T'.heap = h' → Wr h h' a j.toNatClampNeg (.long x) → Arv Z h' a k .long n (vs.set i (.long x)) d → Dn p e below P (T'.setTop (mkF m pc' Ls st))) : Dn p e below P (T.setTop (mkF m pc Ls (.long x :: .int j :: .ref a :: st))) := by
  subst hp
  obtain ⟨cl, A, q, S, N, H, G⟩ := V
  have hin := inb_of S hj
  obtain ⟨T', h', X', e', W', st'⟩ := stJ X hx hZ eT A (j := j) (x := x) hin (g := mkF m pc Ls (.long x :: .int j :: .ref a :: st)) rfl rfl hd
  exact go st' (K T' h' X' e' W' (Arv.set A q S N H G rfl W' i hi hl))
theorem o_castore (X : Stand p l e R s m args below meth c T locs cells slots) (hx : p.tables.exec = Jvm.exec) (hZ : Z.Warmed39 s.vm) (eT : T.heap = h) {a : Addr} {k : ClassId} {n j : Int32} {vs : List Value} {d : Value} {x : Int32} (V : Arv Z h a k .char n vs d) (hj : ¬ j < 0 ∧ j < n) (i : Nat) (hi : j.toNatClampNeg = i) (hl : i < vs.length) (hd : decode c.code pc = .ok (.castore, 1)) (hp : pc + 1 = pc') (K : ∀ T' h', Stand p l e R s m args below meth c T' (locs ++ [⟨a, j.toNatClampNeg⟩]) cells slots → T'.heap = h' → Wr h h' a j.toNatClampNeg (.int (nar .char x)) → Arv Z h' a k .char n (vs.set i (.int (nar .char x))) d → Dn p e below P (T'.setTop (mkF m pc' Ls st))) : Dn p e below P (T.setTop (mkF m pc Ls (.int x :: .int j :: .ref a :: st))) := by
  subst hp
  obtain ⟨cl, A, q, S, N, H, G⟩ := V
  have hin := inb_of S hj
  obtain ⟨T', h', X', e', W', st'⟩ := stC X hx hZ eT A (j := j) (x := x) hin (g := mkF m pc Ls (.int x :: .int j :: .ref a :: st)) rfl rfl hd
  exact go st' (K T' h' X' e' W' (Arv.set A q S N H G (fits_nar_char x) W' i hi hl))
theorem o_bastore (X : Stand p l e R s m args below meth c T locs cells slots) (hx : p.tables.exec = Jvm.exec) (hZ : Z.Warmed39 s.vm) (eT : T.heap = h) {a : Addr} {k : ClassId} {n j : Int32} {vs : List Value} {d : Value} {x : Int32} (V : Arv Z h a k .byte n vs d) (hj : ¬ j < 0 ∧ j < n) (i : Nat) (hi : j.toNatClampNeg = i) (hl : i < vs.length) (hd : decode c.code pc = .ok (.bastore, 1)) (hp : pc + 1 = pc') (K : ∀ T' h', Stand p l e R s m args below meth c T' (locs ++ [⟨a, j.toNatClampNeg⟩]) cells slots → T'.heap = h' → Wr h h' a j.toNatClampNeg (.int (nar .byte x)) → Arv Z h' a k .byte n (vs.set i (.int (nar .byte x))) d → Dn p e below P (T'.setTop (mkF m pc' Ls st))) : Dn p e below P (T.setTop (mkF m pc Ls (.int x :: .int j :: .ref a :: st))) := by
  subst hp
  obtain ⟨cl, A, q, S, N, H, G⟩ := V
  have hin := inb_of S hj
  obtain ⟨T', h', X', e', W', st'⟩ := stB X hx hZ eT A (j := j) (x := x) hin (g := mkF m pc Ls (.int x :: .int j :: .ref a :: st)) rfl rfl hd
  exact go st' (K T' h' X' e' W' (Arv.set A q S N H G (fits_nar_byte x) W' i hi hl))
theorem o_newarray (X : Stand p l e R s m args below meth c T locs cells slots) (hx : p.tables.exec = Jvm.exec) (hZ : Z.Warmed39 s.vm) (eT : T.heap = h) {aty : ArrayType} (w : (Jvm.Cond.arrayClass (newarray.typeOf aty)).before a0 Z = true) (hd : decode c.code pc = .ok (.newarray aty, 2)) (hp : pc + 2 = pc') {n : Int32} (hn : ¬ n < 0) (cap : Nat) (hcap : n.toNatClampNeg ≤ cap) (hb : cap * 8 ≤ 536870912) (hc : cells + 1 ≤ R.cells) (hs : slots + cap ≤ R.slots) (K : ∀ T' h' a k, a = h.size → Stand p l e R s m args below meth c T' locs (cells + 1) (slots + cap) → T'.heap = h' → Ext h h' → Arv Z h' a k (newarray.typeOf aty) n [] (defaultValue (newarray.typeOf aty)) → Dn p e below P (T'.setTop (mkF m pc' Ls (.ref a :: st)))) : Dn p e below P (T.setTop (mkF m pc Ls (.int n :: st))) := by
  subst hp
  obtain ⟨T', h', k, X', e', E', A', st'⟩ := newP X hx hZ w eT (g := mkF m pc Ls (.int n :: st)) rfl hd rfl hn hcap hb hc hs
  exact go st' (K T' h' _ k rfl X' e' E' (Arv.new A' hn))
theorem o_getfield (X : Stand p l e R s m args below meth c T locs cells slots) (hx : p.tables.exec = Jvm.exec) (hZ : Z.Warmed39 s.vm) {own O n d : String} {index : Nat} (hown : s.vm.findClass own = some m.cls) (w : (Jvm.Cond.fieldLink own index O n d).before a0 Z = true) (eT : T.heap = h) {a : Addr} {v : Value} (F : Fld Z h a O n d v) (hd : decode c.code pc = .ok (.getfield index, 3)) (hp : pc + 3 = pc') (K : ∀ T', Stand p l e R s m args below meth c T' locs cells slots → T'.heap = h → Dn p e below P (T'.setTop (mkF m pc' Ls (v :: st)))) : Dn p e below P (T.setTop (mkF m pc Ls (.ref a :: st))) := by
  subst hp
  obtain ⟨T', X', e', st'⟩ := getF X hx hZ hown (host := "") (Or.inl w) Via.refl eT F (g := mkF m pc Ls (.ref a :: st)) rfl rfl hd
  exact go st' (K T' X' e')
theorem o_getfieldN (X : Stand p l e R s m args below meth c T locs cells slots) (hx : p.tables.exec = Jvm.exec) (hZ : Z.Warmed39 s.vm) {own O n d host : String} {index : Nat} (hown : s.vm.findClass own = some m.cls) (w : (Jvm.Cond.fieldLinkNest own index O n d host).before a0 Z = true) (eT : T.heap = h) {a : Addr} {v : Value} (F : Fld Z h a O n d v) (hd : decode c.code pc = .ok (.getfield index, 3)) (hp : pc + 3 = pc') (K : ∀ T', Stand p l e R s m args below meth c T' locs cells slots → T'.heap = h → Dn p e below P (T'.setTop (mkF m pc' Ls (v :: st)))) : Dn p e below P (T.setTop (mkF m pc Ls (.ref a :: st))) := by
  subst hp
  obtain ⟨T', X', e', st'⟩ := getF X hx hZ hown (host := host) (Or.inr w) Via.refl eT F (g := mkF m pc Ls (.ref a :: st)) rfl rfl hd
  exact go st' (K T' X' e')
theorem o_putfield (X : Stand p l e R s m args below meth c T locs cells slots) (hx : p.tables.exec = Jvm.exec) (hZ : Z.Warmed39 s.vm) {own O n d C : String} {index kk : Nat} {ty : FieldType} (hown : s.vm.findClass own = some m.cls) (w : (Jvm.Cond.fieldLink own index O n d).before a0 Z = true) (eT : T.heap = h) {a : Addr} {v v' old : Value} (F : Fld Z h a O n d old) (E : Exa Z h a C) (L : (Jvm.Cond.lays C O n d).before a0 Z = true ∨ ((Jvm.Cond.laysFinal C O n d).before a0 Z = true ∧ own = O ∧ meth.name = "<init>")) (wi : (Jvm.Cond.instantiable C kk).before a0 Z = true) (hty : parseFieldDescriptor d = some ty) (hn : narrow ty v = v') (hf : fits ty v' = true) (hd : decode c.code pc = .ok (.putfield index, 3)) (hp : pc + 3 = pc') (K : ∀ T' h', Stand p l e R s m args below meth c T' (locs ++ [⟨a, Jvm.RoadKit.slotOf Z O n d⟩]) cells slots → T'.heap = h' → Wr h h' a (Jvm.RoadKit.slotOf Z O n d) v' → Fld Z h' a O n d v' → Exa Z h' a C → Dn p e below P (T'.setTop (mkF m pc' Ls st))) : Dn p e below P (T.setTop (mkF m pc Ls (v :: .ref a :: st))) := by
  subst hp
  obtain ⟨T', h', X', e', W', st'⟩ := putFN X hx hZ hown w Via.refl eT F E L wi hty hn hf (g := mkF m pc Ls (v :: .ref a :: st)) rfl rfl hd
  exact go st' (K T' h' X' e' W' (F.same W') (E.wr W'))
theorem o_getstatic (X : Stand p l e R s m args below meth c T locs cells slots) (hx : p.tables.exec = Jvm.exec) (hZ : Z.Warmed39 s.vm) {own O n d : String} {index : Nat} (hown : s.vm.findClass own = some m.cls) (w : (Jvm.Cond.fieldLink own index O n d).before a0 Z = true) (eT : T.heap = h) {v : Value} (F : Sta Z h O n d v) (hd : decode c.code pc = .ok (.getstatic index, 3)) (hp : pc + 3 = pc') (K : ∀ T', Stand p l e R s m args below meth c T' locs cells slots → T'.heap = h → Dn p e below P (T'.setTop (mkF m pc' Ls (v :: st)))) : Dn p e below P (T.setTop (mkF m pc Ls st)) := by
  subst hp
  obtain ⟨T', X', e', st'⟩ := getS2 X hx hZ hown (host := "") (Or.inl w) Via.refl eT F (g := mkF m pc Ls st) rfl hd
  exact go st' (K T' X' e')
theorem o_new (X : Stand p l e R s m args below meth c T locs cells slots) (hx : p.tables.exec = Jvm.exec) (hZ : Z.Warmed39 s.vm) {own C : String} {index n : Nat} (hown : s.vm.findClass own = some m.cls) (w : (Jvm.Cond.classLink own index C).before a0 Z = true) (wi : (Jvm.Cond.instantiable C n).before a0 Z = true) (wz : (Jvm.Cond.initialized C).before a0 Z = true) (eT : T.heap = h) (hd : decode c.code pc = .ok (.new index, 3)) (hp : pc + 3 = pc') (hc : cells + 1 ≤ R.cells) (hs : slots + n ≤ R.slots) (K : ∀ T' h' a, a = h.size → Stand p l e R s m args below meth c T' locs (cells + 1) (slots + n) → T'.heap = h' → Ext h h' → Exa Z h' a C → (∀ {O nm d : String} {ty : FieldType}, Laid Z a0 C O nm d → parseFieldDescriptor d = some ty → Fld Z h' a O nm d (defaultValue ty)) → Dn p e below P (T'.setTop (mkF m pc' Ls (.ref a :: st)))) : Dn p e below P (T.setTop (mkF m pc Ls st)) := by
  subst hp
  obtain ⟨T', h', X', e', E', A', D', -, st'⟩ := newO X hx hZ hown w wi wz eT (g := mkF m pc Ls st) rfl hd hc hs
  exact go st' (K T' h' _ rfl X' e' E' A' D')
theorem o_initO (X : Stand p l e R s m args below meth c T locs cells slots) (hx : p.tables.exec = Jvm.exec) (hZ : Z.Warmed39 s.vm) {own : String} {index : Nat} (hown : s.vm.findClass own = some m.cls) (w1 : (Jvm.Cond.methodLink own index Lib.objectInit).before a0 Z = true) (w2 : (Jvm.Cond.instanceMethod Lib.objectInit).before a0 Z = true) (w3 : (Jvm.Cond.code Lib.objectInit ⟨#[0xb1]⟩ 1 none).before a0 Z = true) (eT : T.heap = h) (hsize : Ls.size = c.maxLocals) {a : Addr} (hd : decode c.code pc = .ok (.invokespecial index, 3)) (hp : pc + 3 = pc') (hf : 1 ≤ R.frames) {W : Nat} (hW : 2 * 0 + (st.map fun v => v.category).sum ≤ W) (hl : W + 12 ≤ R.locals) (K : ∀ T', Stand p l e R s m args below meth c T' locs cells slots → T'.heap = h → Dn p e below P (T'.setTop (mkF m pc' Ls st))) : Dn p e below P (T.setTop (mkF m pc Ls (.ref a :: st))) := by
  subst hp
  obtain ⟨T', X', e', st'⟩ := initO X hx hZ hown w1 w2 w3 eT (g := mkF m pc Ls (.ref a :: st)) rfl hsize rfl hd hf (W := W) hW hl
  exact go st' (K T' X' e')
theorem o_callS (X : Stand p l e R s m args below meth c T locs cells slots) (hx : p.tables.exec = Jvm.exec) (hZ : Z.Warmed39 s.vm) {own : String} {index : Nat} {y : MethodName} {bytes : ByteArray} {maxL : Nat} {ret : Option FieldType} {Rm : Room} {Q : Option Value → Heap → List Loc → Prop} {ps : List FieldType} (argsL : List Value) {as' : Array Value} (C : Ctr l Z y bytes maxL ret [] Rm as' h Q) (hown : s.vm.findClass own = some m.cls) (w1 : (Jvm.Cond.methodLink own index y).before a0 Z = true) (w2 : (Jvm.Cond.static y).before a0 Z = true) (w3 : (Jvm.Cond.initialized y.cls).before a0 Z = true) (w4 : (Jvm.Cond.code y bytes maxL ret).before a0 Z = true) (hy : y.cls ≠ "java/lang/invoke/MethodHandle" ∧ y.cls ≠ "java/lang/invoke/VarHandle") (hpd : parseMethodDescriptor y.desc = some ⟨ps, ret⟩) (eT : T.heap = h) (hsize : Ls.size = c.maxLocals) {stk : List Value} (has : as' = argsL.toArray) (hln : argsL.length = ps.length) (hst : stk = argsL.reverse ++ st) (hd : decode c.code pc = .ok (.invokestatic index, 3)) (hp : pc + 3 = pc') (W : Nat) (hW : 2 * 0 + (st.map fun v => v.category).sum ≤ W) (hf : Rm.frames + 1 ≤ R.frames) (hl : W + (maxL + 11) + Rm.locals ≤ R.locals) (hc : cells + Rm.cells ≤ R.cells) (hs : slots + Rm.slots ≤ R.slots) (K : ∀ T' v L, Stand p l e R s m args below meth c T' (locs ++ L) (cells + Rm.cells) (slots + Rm.slots) → Q v T'.heap L → Dn p e below P (T'.setTop (mkF m pc' Ls (v.toList ++ st)))) : Dn p e below P (T.setTop (mkF m pc Ls stk)) := by
  subst hp has hst
  obtain ⟨v, vm₁, ⟨T', L', k', n'⟩, -, X', ⟨L, hQ, l1, y1, z1⟩, st'⟩ := Jvm.LawKit.callS X hx (y := y) hown (mvT hZ w1) (mvT hZ w2) (mvT hZ w3) (mvT hZ w4) hy (backOf (W := W) C hZ w4 w3 hf hl) (g := mkF m pc Ls (argsL.reverse ++ st)) rfl hsize (argsL := argsL) (rest := st) (lenOf hpd hln) rfl hW hd (fun _ _ => ⟨rfl, eT, hc, hs⟩)
  dsimp only [Pt.U, Pt.locs, Pt.cells, Pt.slots] at X' l1 y1 z1 st' hQ
  subst l1 y1 z1
  exact go st' (K T' v L X' hQ)
theorem o_callI (X : Stand p l e R s m args below meth c T locs cells slots) (hx : p.tables.exec = Jvm.exec) (hZ : Z.Warmed39 s.vm) {own : String} {index : Nat} {y : MethodName} {bytes : ByteArray} {maxL : Nat} {Rm : Room} {Q : Option Value → Heap → List Loc → Prop} {ps : List FieldType} (a : Addr) (argsL : List Value) {as' : Array Value} (C : Ctr l Z y bytes maxL none [] Rm as' h Q) (hy1 : y.name = "<init>") (hown : s.vm.findClass own = some m.cls) (w1 : (Jvm.Cond.methodLink own index y).before a0 Z = true) (w2 : (Jvm.Cond.instanceMethod y).before a0 Z = true) (w3 : (Jvm.Cond.initialized y.cls).before a0 Z = true) (w4 : (Jvm.Cond.code y bytes maxL none).before a0 Z = true) (hy : y.cls ≠ "java/lang/invoke/MethodHandle" ∧ y.cls ≠ "java/lang/invoke/VarHandle") (hpd : parseMethodDescriptor y.desc = some ⟨ps, none⟩) (eT : T.heap = h) (hsize : Ls.size = c.maxLocals) {stk : List Value} (has : as' = (.ref a :: argsL).toArray) (hln : argsL.length = ps.length) (hst : stk = argsL.reverse ++ .ref a :: st) (hd : decode c.code pc = .ok (.invokespecial index, 3)) (hp : pc + 3 = pc') (W : Nat) (hW : 2 * 0 + (st.map fun v => v.category).sum ≤ W) (hf : Rm.frames + 1 ≤ R.frames) (hl : W + (maxL + 11) + Rm.locals ≤ R.locals) (hc : cells + Rm.cells ≤ R.cells) (hs : slots + Rm.slots ≤ R.slots) (K : ∀ T' v L, Stand p l e R s m args below meth c T' (locs ++ L) (cells + Rm.cells) (slots + Rm.slots) → Q v T'.heap L → Dn p e below P (T'.setTop (mkF m pc' Ls (v.toList ++ st)))) : Dn p e below P (T.setTop (mkF m pc Ls stk)) := by
  subst hp has hst
  obtain ⟨v, vm₁, ⟨T', L', k', n'⟩, -, X', ⟨L, hQ, l1, y1, z1⟩, st'⟩ := X.specialBack hx (y := y) hy1 hown (mvT hZ w1) (mvT hZ w2) (mvT hZ w4) hy (backOf (W := W) C hZ w4 w3 hf hl) (g := mkF m pc Ls (argsL.reverse ++ .ref a :: st)) rfl hsize (Steps.refl _) (a := a) (argsL := argsL) (rest := st) (lenOf hpd hln) rfl hW hd (fun _ _ => ⟨rfl, eT, hc, hs⟩)
  dsimp only [Pt.U, Pt.locs, Pt.cells, Pt.slots] at X' l1 y1 z1 st' hQ
  subst l1 y1 z1
  exact goS st' (K T' v L X' hQ)
theorem o_callV (X : Stand p l e R s m args below meth c T locs cells slots) (hx : p.tables.exec = Jvm.exec) (hZ : Z.Warmed39 s.vm) {own Cc : String} {index : Nat} {y : MethodName} {bytes : ByteArray} {maxL : Nat} {ret : Option FieldType} {Rm : Room} {Q : Option Value → Heap → List Loc → Prop} {ps : List FieldType} (a : Addr) (argsL : List Value) {as' : Array Value} (C : Ctr l Z y bytes maxL ret [] Rm as' h Q) (hown : s.vm.findClass own = some m.cls) (w1 : (Jvm.Cond.methodLink own index y).before a0 Z = true) (w5 : (Jvm.Cond.declares y).before a0 Z = true) (w6 : (Jvm.Cond.selects Cc y y).before a0 Z = true) (w2 : (Jvm.Cond.instanceMethod y).before a0 Z = true) (w3 : (Jvm.Cond.initialized y.cls).before a0 Z = true) (w4 : (Jvm.Cond.code y bytes maxL ret).before a0 Z = true) (hy : y.cls ≠ "java/lang/invoke/MethodHandle" ∧ y.cls ≠ "java/lang/invoke/VarHandle") (E : Exa Z h a Cc) (hpd : parseMethodDescriptor y.desc = some ⟨ps, ret⟩) (eT : T.heap = h) (hsize : Ls.size = c.maxLocals) {stk : List Value} (has : as' = (.ref a :: argsL).toArray) (hln : argsL.length = ps.length) (hst : stk = argsL.reverse ++ .ref a :: st) (hd : decode c.code pc = .ok (.invokevirtual index, 3)) (hp : pc + 3 = pc') (W : Nat) (hW : 2 * 0 + (st.map fun v => v.category).sum ≤ W) (hf : Rm.frames + 1 ≤ R.frames) (hl : W + (maxL + 11) + Rm.locals ≤ R.locals) (hc : cells + Rm.cells ≤ R.cells) (hs : slots + Rm.slots ≤ R.slots) (K : ∀ T' v L, Stand p l e R s m args below meth c T' (locs ++ L) (cells + Rm.cells) (slots + Rm.slots) → Q v T'.heap L → Dn p e below P (T'.setTop (mkF m pc' Ls (v.toList ++ st)))) : Dn p e below P (T.setTop (mkF m pc Ls stk)) := by
  subst hp has hst
  obtain ⟨cq, kq, qa, qb, qc⟩ := isOf (T := T) hZ eT E
  obtain ⟨v, vm₁, ⟨T', L', k', n'⟩, -, X', ⟨L, hQ, l1, y1, z1⟩, st'⟩ := X.virtualBack hx (y := y) (z := y) hown (mvT hZ w1) (mvT hZ w5) (notFace_of_selects (args := #[]) (mvT hZ w6)) (mvT hZ w6) (mvT hZ w2) hy (backOf (W := W) C hZ w4 w3 hf hl) qa qc (g := mkF m pc Ls (argsL.reverse ++ .ref a :: st)) rfl hsize (Steps.refl _) (argsL := argsL) (rest := st) (lenOf hpd hln) rfl hW hd (fun _ _ => ⟨rfl, eT, hc, hs⟩)
  dsimp only [Pt.U, Pt.locs, Pt.cells, Pt.slots] at X' l1 y1 z1 st' hQ
  subst l1 y1 z1
  exact goS st' (K T' v L X' hQ)
theorem o_callP (X : Stand p l e R s m args below meth c T locs cells slots) (hx : p.tables.exec = Jvm.exec) (hZ : Z.Warmed39 s.vm) {own : String} {index : Nat} {y : MethodName} {bytes : ByteArray} {maxL : Nat} {ret : Option FieldType} {Rm : Room} {Q : Option Value → Heap → List Loc → Prop} {ps : List FieldType} (a : Addr) (argsL : List Value) {as' : Array Value} (C : Ctr l Z y bytes maxL ret [] Rm as' h Q) (hown : s.vm.findClass own = some m.cls) (w1 : (Jvm.Cond.methodLink own index y).before a0 Z = true) {kk : Nat} (w6 : (Jvm.Cond.instantiable y.cls kk).before a0 Z = true) (w7 : (Jvm.Cond.privateMethod y).before a0 Z = true) (w2 : (Jvm.Cond.instanceMethod y).before a0 Z = true) (w3 : (Jvm.Cond.initialized y.cls).before a0 Z = true) (w4 : (Jvm.Cond.code y bytes maxL ret).before a0 Z = true) (hy : y.cls ≠ "java/lang/invoke/MethodHandle" ∧ y.cls ≠ "java/lang/invoke/VarHandle") {Cc : String} (E : Exa Z h a Cc) (hpd : parseMethodDescriptor y.desc = some ⟨ps, ret⟩) (eT : T.heap = h) (hsize : Ls.size = c.maxLocals) {stk : List Value} (has : as' = (.ref a :: argsL).toArray) (hln : argsL.length = ps.length) (hst : stk = argsL.reverse ++ .ref a :: st) (hd : decode c.code pc = .ok (.invokevirtual index, 3)) (hp : pc + 3 = pc') (W : Nat) (hW : 2 * 0 + (st.map fun v => v.category).sum ≤ W) (hf : Rm.frames + 1 ≤ R.frames) (hl : W + (maxL + 11) + Rm.locals ≤ R.locals) (hc : cells + Rm.cells ≤ R.cells) (hs : slots + Rm.slots ≤ R.slots) (K : ∀ T' v L, Stand p l e R s m args below meth c T' (locs ++ L) (cells + Rm.cells) (slots + Rm.slots) → Q v T'.heap L → Dn p e below P (T'.setTop (mkF m pc' Ls (v.toList ++ st)))) : Dn p e below P (T.setTop (mkF m pc Ls stk)) := by
  subst hp has hst
  obtain ⟨cq, q1, q2⟩ := E.cell
  obtain ⟨cc, kc, hcc, hkc, -, hni, -, -⟩ := Jvm.Cond.instantiable_spec (mvT (args := args) hZ w6)
  have hpv := Jvm.Cond.privateMethod_at (mvP hZ w7 (args := #[]))
  have hsel := selects_self_of_private (args := args) hcc hkc (Bool.or_eq_false_iff.mp hni).1 hpv (mvT hZ w2) hy
  obtain ⟨v, vm₁, ⟨T', L', k', n'⟩, -, X', ⟨L, hQ, l1, y1, z1⟩, st'⟩ := X.privateBack hx (y := y) hown (mvT hZ w1) (mvT hZ w2) hsel hpv (mvT hZ w4) hy (backOf (W := W) C hZ w4 w3 hf hl) (g := mkF m pc Ls (argsL.reverse ++ .ref a :: st)) rfl hsize (Steps.refl _) (a := a) (by rw [eT]; exact q1) q2 (argsL := argsL) (rest := st) (lenOf hpd hln) rfl hW hd (fun _ _ => ⟨rfl, eT, hc, hs⟩)
  dsimp only [Pt.U, Pt.locs, Pt.cells, Pt.slots] at X' l1 y1 z1 st' hQ
  subst l1 y1 z1
  exact goS st' (K T' v L X' hQ)
abbrev Pure (v0 : Value) (h0 : Heap) : Option Value → Heap → List Loc → Prop := fun v h L => v = some v0 ∧ L = [] ∧ h = h0
theorem o_callSP (X : Stand p l e R s m args below meth c T locs cells slots) (hx : p.tables.exec = Jvm.exec) (hZ : Z.Warmed39 s.vm) {own : String} {index : Nat} {y : MethodName} {bytes : ByteArray} {maxL : Nat} {ret : Option FieldType} {Rm : Room} {v0 : Value} {ps : List FieldType} (argsL : List Value) {as' : Array Value} (C : Ctr l Z y bytes maxL ret [] Rm as' h (Pure v0 h)) (hown : s.vm.findClass own = some m.cls) (w1 : (Jvm.Cond.methodLink own index y).before a0 Z = true) (w2 : (Jvm.Cond.static y).before a0 Z = true) (w3 : (Jvm.Cond.initialized y.cls).before a0 Z = true) (w4 : (Jvm.Cond.code y bytes maxL ret).before a0 Z = true) (hy : y.cls ≠ "java/lang/invoke/MethodHandle" ∧ y.cls ≠ "java/lang/invoke/VarHandle") (hpd : parseMethodDescriptor y.desc = some ⟨ps, ret⟩) (eT : T.heap = h) (hsize : Ls.size = c.maxLocals) {stk : List Value} (has : as' = argsL.toArray) (hln : argsL.length = ps.length) (hst : stk = argsL.reverse ++ st) (hd : decode c.code pc = .ok (.invokestatic index, 3)) (hp : pc + 3 = pc') (W : Nat) (hW : 2 * 0 + (st.map fun v => v.category).sum ≤ W) (hf : Rm.frames + 1 ≤ R.frames) (hl : W + (maxL + 11) + Rm.locals ≤ R.locals) (hc0 : Rm.cells = 0) (hs0 : Rm.slots = 0) (hc : cells ≤ R.cells) (hs : slots ≤ R.slots) (K : ∀ T', Stand p l e R s m args below meth c T' locs cells slots → T'.heap = h → Dn p e below P (T'.setTop (mkF m pc' Ls (v0 :: st)))) : Dn p e below P (T.setTop (mkF m pc Ls stk)) := by
  refine o_callS X hx hZ argsL C hown w1 w2 w3 w4 hy hpd eT hsize has hln hst hd hp W hW hf hl (by rw [hc0]; exact hc) (by rw [hs0]; exact hs) ?_
  intro T' v L X' hQ
  obtain ⟨rfl, rfl, e'⟩ := hQ
  rw [List.append_nil, hc0, hs0] at X'
  exact K T' X' e'
theorem o_callVP (X : Stand p l e R s m args below meth c T locs cells slots) (hx : p.tables.exec = Jvm.exec) (hZ : Z.Warmed39 s.vm) {own Cc : String} {index : Nat} {y : MethodName} {bytes : ByteArray} {maxL : Nat} {ret : Option FieldType} {Rm : Room} {v0 : Value} {ps : List FieldType} (a : Addr) (argsL : List Value) {as' : Array Value} (C : Ctr l Z y bytes maxL ret [] Rm as' h (Pure v0 h)) (hown : s.vm.findClass own = some m.cls) (w1 : (Jvm.Cond.methodLink own index y).before a0 Z = true) (w5 : (Jvm.Cond.declares y).before a0 Z = true) (w6 : (Jvm.Cond.selects Cc y y).before a0 Z = true) (w2 : (Jvm.Cond.instanceMethod y).before a0 Z = true) (w3 : (Jvm.Cond.initialized y.cls).before a0 Z = true) (w4 : (Jvm.Cond.code y bytes maxL ret).before a0 Z = true) (hy : y.cls ≠ "java/lang/invoke/MethodHandle" ∧ y.cls ≠ "java/lang/invoke/VarHandle") (E : Exa Z h a Cc) (hpd : parseMethodDescriptor y.desc = some ⟨ps, ret⟩) (eT : T.heap = h) (hsize : Ls.size = c.maxLocals) {stk : List Value} (has : as' = (.ref a :: argsL).toArray) (hln : argsL.length = ps.length) (hst : stk = argsL.reverse ++ .ref a :: st) (hd : decode c.code pc = .ok (.invokevirtual index, 3)) (hp : pc + 3 = pc') (W : Nat) (hW : 2 * 0 + (st.map fun v => v.category).sum ≤ W) (hf : Rm.frames + 1 ≤ R.frames) (hl : W + (maxL + 11) + Rm.locals ≤ R.locals) (hc0 : Rm.cells = 0) (hs0 : Rm.slots = 0) (hc : cells ≤ R.cells) (hs : slots ≤ R.slots) (K : ∀ T', Stand p l e R s m args below meth c T' locs cells slots → T'.heap = h → Dn p e below P (T'.setTop (mkF m pc' Ls (v0 :: st)))) : Dn p e below P (T.setTop (mkF m pc Ls stk)) := by
  refine o_callV X hx hZ a argsL C hown w1 w5 w6 w2 w3 w4 hy E hpd eT hsize has hln hst hd hp W hW hf hl (by rw [hc0]; exact hc) (by rw [hs0]; exact hs) ?_
  intro T' v L X' hQ
  obtain ⟨rfl, rfl, e'⟩ := hQ
  rw [List.append_nil, hc0, hs0] at X'
  exact K T' X' e'
theorem o_callPP (X : Stand p l e R s m args below meth c T locs cells slots) (hx : p.tables.exec = Jvm.exec) (hZ : Z.Warmed39 s.vm) {own : String} {index : Nat} {y : MethodName} {bytes : ByteArray} {maxL : Nat} {ret : Option FieldType} {Rm : Room} {v0 : Value} {ps : List FieldType} (a : Addr) (argsL : List Value) {as' : Array Value} (C : Ctr l Z y bytes maxL ret [] Rm as' h (Pure v0 h)) (hown : s.vm.findClass own = some m.cls) (w1 : (Jvm.Cond.methodLink own index y).before a0 Z = true) {kk : Nat} (w6 : (Jvm.Cond.instantiable y.cls kk).before a0 Z = true) (w7 : (Jvm.Cond.privateMethod y).before a0 Z = true) (w2 : (Jvm.Cond.instanceMethod y).before a0 Z = true) (w3 : (Jvm.Cond.initialized y.cls).before a0 Z = true) (w4 : (Jvm.Cond.code y bytes maxL ret).before a0 Z = true) (hy : y.cls ≠ "java/lang/invoke/MethodHandle" ∧ y.cls ≠ "java/lang/invoke/VarHandle") {Cc : String} (E : Exa Z h a Cc) (hpd : parseMethodDescriptor y.desc = some ⟨ps, ret⟩) (eT : T.heap = h) (hsize : Ls.size = c.maxLocals) {stk : List Value} (has : as' = (.ref a :: argsL).toArray) (hln : argsL.length = ps.length) (hst : stk = argsL.reverse ++ .ref a :: st) (hd : decode c.code pc = .ok (.invokevirtual index, 3)) (hp : pc + 3 = pc') (W : Nat) (hW : 2 * 0 + (st.map fun v => v.category).sum ≤ W) (hf : Rm.frames + 1 ≤ R.frames) (hl : W + (maxL + 11) + Rm.locals ≤ R.locals) (hc0 : Rm.cells = 0) (hs0 : Rm.slots = 0) (hc : cells ≤ R.cells) (hs : slots ≤ R.slots) (K : ∀ T', Stand p l e R s m args below meth c T' locs cells slots → T'.heap = h → Dn p e below P (T'.setTop (mkF m pc' Ls (v0 :: st)))) : Dn p e below P (T.setTop (mkF m pc Ls stk)) := by
  refine o_callP X hx hZ a argsL C hown w1 w6 w7 w2 w3 w4 hy E hpd eT hsize has hln hst hd hp W hW hf hl (by rw [hc0]; exact hc) (by rw [hs0]; exact hs) ?_
  intro T' v L X' hQ
  obtain ⟨rfl, rfl, e'⟩ := hQ
  rw [List.append_nil, hc0, hs0] at X'
  exact K T' X' e'
end Own
theorem d5_0 : decode jdk_29_method_70_code 0 = .ok (.lload_n 0, 1) := by decide +kernel
theorem d5_1 : decode jdk_29_method_70_code 1 = .ok (.lload_n 2, 1) := by decide +kernel
theorem d5_2 : decode jdk_29_method_70_code 2 = .ok (.lcmp, 1) := by decide +kernel
theorem d5_3 : decode jdk_29_method_70_code 3 = .ok (.ifCond .gt 7, 3) := by decide +kernel
theorem d5_6 : decode jdk_29_method_70_code 6 = .ok (.lload_n 0, 1) := by decide +kernel
theorem d5_7 : decode jdk_29_method_70_code 7 = .ok (.goto 4, 3) := by decide +kernel
theorem d5_10 : decode jdk_29_method_70_code 10 = .ok (.lload_n 2, 1) := by decide +kernel
theorem d5_11 : decode jdk_29_method_70_code 11 = .ok (.lreturn, 1) := by decide +kernel
theorem pn_5 : plainFor (⟨"java/lang/Math", "min", "(JJ)J"⟩ : MethodName) = true := by decide +kernel
theorem ef_5 (m : MethodId) (q1 : Int64) (q2 : Int64) : entryFrame m #[(.long q1), (.long q2)] 4 = mkF m 0 #[.val (.long q1), .second, .val (.long q2), .second] [] := by first | (simp [entryFrame, mkF, argsToLocals, Value.category]; done) | rfl
def F5 (q1 : Int64) (q2 : Int64) : Int64 := 
  if q2 < q1 then q2
  else q1
set_option maxRecDepth 65536 in
set_option maxHeartbeats 40000000 in
theorem rm5 (l : Launch) (Z : State) (a0 : Array Value) (hw : ∀ d ∈ tables_1, d.before a0 Z = true) (h0 : Heap) (q1 : Int64) (q2 : Int64) : Ctr l Z (⟨"java/lang/Math", "min", "(JJ)J"⟩ : MethodName) jdk_29_method_70_code 4 (some .long) [] ({ frames := 0, cells := 0, slots := 0, locals := 0 } : Room) #[(.long q1), (.long q2)] h0 (Pure (.long (F5 q1 q2)) h0) := by
  refine ctr_mk pn_5 (own := "java/lang/Math") (mn := "min") rfl rfl ?_
  intro p e s m below meth c T0 X0 hx hby hml hZ hown hnm hret hlk e0
  refine o_entry (ef_5 m q1 q2) ?_
  refine o_lloadN X0 hx (pc' := 1) (hb hby d5_0) rfl rfl ?_
  refine o_lloadN X0 hx (pc' := 2) (hb hby d5_1) rfl rfl ?_
  refine o_lcmp X0 hx (pc' := 3) (hb hby d5_2) rfl ?_
  refine o_lif_gt X0 hx (pc' := 6) (pt := 10) (hb hby d5_3) rfl (by decide) (by decide) (fun hc3 => ?_) (fun hc3 => ?_)
  · skip
    refine o_lloadN X0 hx (pc' := 11) (hb hby d5_10) rfl rfl ?_
    exact finJ X0 hx hlk hret (hb hby d5_11) (by decide) (by decide) ⟨by show some (Value.long _) = some (Value.long (F5 q1 q2)); unfold F5; rw [if_pos hc3], rfl, e0⟩
  · skip
    refine o_lloadN X0 hx (pc' := 7) (hb hby d5_6) rfl rfl ?_
    refine o_goto X0 hx (pc' := 11) (hb hby d5_7) (by decide) (by decide) ?_
    exact finJ X0 hx hlk hret (hb hby d5_11) (by decide) (by decide) ⟨by show some (Value.long _) = some (Value.long (F5 q1 q2)); unfold F5; rw [if_neg hc3], rfl, e0⟩
theorem pd_0 : parseMethodDescriptor "(JJ)J" = some ⟨[.long, .long], some .long⟩ := by decide +kernel
theorem d4_0 : decode method_2_code 0 = .ok (.lload_n 0, 1) := by decide +kernel
theorem d4_1 : decode method_2_code 1 = .ok (.lload_n 2, 1) := by decide +kernel
theorem d4_2 : decode method_2_code 2 = .ok (.lmul, 1) := by decide +kernel
theorem d4_3 : decode method_2_code 3 = .ok (.lload_n 0, 1) := by decide +kernel
theorem d4_4 : decode method_2_code 4 = .ok (.lload 4, 2) := by decide +kernel
theorem d4_6 : decode method_2_code 6 = .ok (.invokestatic 7, 3) := by decide +kernel
theorem d4_9 : decode method_2_code 9 = .ok (.ladd, 1) := by decide +kernel
theorem d4_10 : decode method_2_code 10 = .ok (.lreturn, 1) := by decide +kernel
theorem pn_4 : plainFor (⟨"com/example/bellwether/bellwether/cluster/PartitionsOfPinLaw", "lo", "(JJJ)J"⟩ : MethodName) = true := plainFor_of_name (by show plainName "com/example/bellwether/bellwether/cluster/PartitionsOfPinLaw" = true; first | (simp [plainName, overriddenIn]; done) | decide +kernel)
theorem ef_4 (m : MethodId) (q1 : Int64) (q2 : Int64) (q3 : Int64) : entryFrame m #[(.long q1), (.long q2), (.long q3)] 6 = mkF m 0 #[.val (.long q1), .second, .val (.long q2), .second, .val (.long q3), .second] [] := by first | (simp [entryFrame, mkF, argsToLocals, Value.category]; done) | rfl
def F4 (q1 : Int64) (q2 : Int64) (q3 : Int64) : Int64 := ((q1 * q2) + (F5 q1 q3))
set_option maxRecDepth 65536 in
set_option maxHeartbeats 40000000 in
theorem rm4 (l : Launch) (Z : State) (a0 : Array Value) (hw : ∀ d ∈ tables_1, d.before a0 Z = true) (h0 : Heap) (q1 : Int64) (q2 : Int64) (q3 : Int64) : Ctr l Z (⟨"com/example/bellwether/bellwether/cluster/PartitionsOfPinLaw", "lo", "(JJJ)J"⟩ : MethodName) method_2_code 6 (some .long) [] ({ frames := 1, cells := 0, slots := 0, locals := 17 } : Room) #[(.long q1), (.long q2), (.long q3)] h0 (Pure (.long (F4 q1 q2 q3)) h0) := by
  refine ctr_mk pn_4 (own := "com/example/bellwether/bellwether/cluster/PartitionsOfPinLaw") (mn := "lo") rfl rfl ?_
  intro p e s m below meth c T0 X0 hx hby hml hZ hown hnm hret hlk e0
  refine o_entry (ef_4 m q1 q2 q3) ?_
  refine o_lloadN X0 hx (pc' := 1) (hb hby d4_0) rfl rfl ?_
  refine o_lloadN X0 hx (pc' := 2) (hb hby d4_1) rfl rfl ?_
  refine o_lmul X0 hx (pc' := 3) (hb hby d4_2) rfl ?_
  refine o_lloadN X0 hx (pc' := 4) (hb hby d4_3) rfl rfl ?_
  refine o_lload X0 hx (pc' := 6) (hb hby d4_4) rfl rfl ?_
  refine o_callSP X0 hx hZ [(.long q1), (.long q3)] (rm5 l Z a0 hw h0 q1 q3) hown (hw _ (List.mem_of_getElem? (i := 25) rfl)) (hw _ (List.mem_of_getElem? (i := 26) rfl)) (hw _ (List.mem_of_getElem? (i := 27) rfl)) (hw _ (List.mem_of_getElem? (i := 28) rfl)) (by decide) pd_0 e0 (by rw [hml]; rfl) rfl rfl rfl (hb hby d4_6) (pc' := 9) rfl 2 (Nat.le_of_eq rfl) (by decide) (by decide) rfl rfl (by decide) (by decide) ?_
  intro T1 X1 e1
  show Dn p e below _ (T1.setTop (mkF m 9 #[.val (.long q1), .second, .val (.long q2), .second, .val (.long q3), .second] [(.long (F5 q1 q3)), (.long (q1 * q2))]))
  refine o_ladd X1 hx (pc' := 10) (hb hby d4_9) rfl ?_
  exact finJ X1 hx hlk hret (hb hby d4_10) (by decide) (by decide) ⟨by show some (Value.long _) = some (Value.long (F4 q1 q2 q3)); unfold F4; rfl, rfl, e1⟩
theorem d1_0 : decode prog_69_method_1_code 0 = .ok (.aload_n 0, 1) := by decide +kernel
theorem d1_1 : decode prog_69_method_1_code 1 = .ok (.invokespecial 1, 3) := by decide +kernel
theorem d1_4 : decode prog_69_method_1_code 4 = .ok (.iload_n 1, 1) := by decide +kernel
theorem d1_5 : decode prog_69_method_1_code 5 = .ok (.ifCond .ge 17, 3) := by decide +kernel
theorem d1_22 : decode prog_69_method_1_code 22 = .ok (.iload_n 2, 1) := by decide +kernel
theorem d1_23 : decode prog_69_method_1_code 23 = .ok (.iconst 1, 1) := by decide +kernel
theorem d1_24 : decode prog_69_method_1_code 24 = .ok (.if_icmp .ge 13, 3) := by decide +kernel
theorem d1_37 : decode prog_69_method_1_code 37 = .ok (.aload_n 0, 1) := by decide +kernel
theorem d1_38 : decode prog_69_method_1_code 38 = .ok (.iload_n 2, 1) := by decide +kernel
theorem d1_39 : decode prog_69_method_1_code 39 = .ok (.putfield 18, 3) := by decide +kernel
theorem d1_42 : decode prog_69_method_1_code 42 = .ok (.aload_n 0, 1) := by decide +kernel
theorem d1_43 : decode prog_69_method_1_code 43 = .ok (.iload_n 1, 1) := by decide +kernel
theorem d1_44 : decode prog_69_method_1_code 44 = .ok (.iload_n 2, 1) := by decide +kernel
theorem d1_45 : decode prog_69_method_1_code 45 = .ok (.idiv, 1) := by decide +kernel
theorem d1_46 : decode prog_69_method_1_code 46 = .ok (.putfield 24, 3) := by decide +kernel
theorem d1_49 : decode prog_69_method_1_code 49 = .ok (.aload_n 0, 1) := by decide +kernel
theorem d1_50 : decode prog_69_method_1_code 50 = .ok (.iload_n 1, 1) := by decide +kernel
theorem d1_51 : decode prog_69_method_1_code 51 = .ok (.iload_n 2, 1) := by decide +kernel
theorem d1_52 : decode prog_69_method_1_code 52 = .ok (.irem, 1) := by decide +kernel
theorem d1_53 : decode prog_69_method_1_code 53 = .ok (.putfield 27, 3) := by decide +kernel
theorem d1_56 : decode prog_69_method_1_code 56 = .ok (.return_, 1) := by decide +kernel
theorem pn_1 : plainFor (⟨"com/example/bellwether/bellwether/cluster/Partitions", "<init>", "(II)V"⟩ : MethodName) = true := plainFor_of_name (by show plainName "com/example/bellwether/bellwether/cluster/Partitions" = true; first | (simp [plainName, overriddenIn]; done) | decide +kernel)
theorem ef_1 (m : MethodId) (a1 : Addr) (p2 : Int32) (p3 : Int32) : entryFrame m #[(.ref a1), (.int p2), (.int p3)] 3 = mkF m 0 #[.val (.ref a1), .val (.int p2), .val (.int p3)] [] := by first | (simp [entryFrame, mkF, argsToLocals, Value.category]; done) | rfl
set_option maxRecDepth 65536 in
set_option maxHeartbeats 40000000 in
theorem rm1 (l : Launch) (Z : State) (a0 : Array Value) (hw : ∀ d ∈ tables_1, d.before a0 Z = true) (h0 : Heap) (n0 : Nat) (Z0 : n0 ≤ h0.size) (a1 : Addr) (p2 : Int32) (p3 : Int32) (hE : Exa Z h0 a1 "com/example/bellwether/bellwether/cluster/Partitions") (hC : Fld Z h0 a1 "com/example/bellwether/bellwether/cluster/Partitions" "count" "I" (.int 0)) (hS : Fld Z h0 a1 "com/example/bellwether/bellwether/cluster/Partitions" "size" "I" (.int 0)) (hX : Fld Z h0 a1 "com/example/bellwether/bellwether/cluster/Partitions" "extra" "I" (.int 0)) (ga : n0 ≤ a1) (hn : ¬ p2 < (0 : Int32)) (hc : ¬ p3 < (1 : Int32)) (hz : p3 ≠ 0) : Ctr l Z (⟨"com/example/bellwether/bellwether/cluster/Partitions", "<init>", "(II)V"⟩ : MethodName) prog_69_method_1_code 3 none [] ({ frames := 1, cells := 0, slots := 0, locals := 12 } : Room) #[(.ref a1), (.int p2), (.int p3)] h0 (fun v h L => v = none ∧ Fr n0 L ∧ Keep h0 h [a1] ∧ Fld Z h a1 "com/example/bellwether/bellwether/cluster/Partitions" "size" "I" (.int (p2 / p3)) ∧ Fld Z h a1 "com/example/bellwether/bellwether/cluster/Partitions" "extra" "I" (.int (p2 % p3))) := by
  refine ctr_mk pn_1 (own := "com/example/bellwether/bellwether/cluster/Partitions") (mn := "<init>") rfl rfl ?_
  intro p e s m below meth c T0 X0 hx hby hml hZ hown hnm hret hlk e0
  refine o_entry (ef_1 m a1 p2 p3) ?_
  have g_a1 := ga
  have NN := Fr.nil n0
  have ZZ := Z0
  have KK := Keep.refl h0 [a1]
  refine o_aloadN X0 hx (pc' := 1) (hb hby d1_0) rfl rfl rfl ?_
  refine o_initO X0 hx hZ hown (hw _ (List.mem_of_getElem? (i := 7) rfl)) (hw _ (List.mem_of_getElem? (i := 8) rfl)) (hw _ (List.mem_of_getElem? (i := 9) rfl)) e0 (by rw [hml]; rfl) (hb hby d1_1) (pc' := 4) rfl (by decide) (W := 0) (Nat.le_of_eq rfl) (by decide) ?_
  intro T1 X1 e1
  refine o_iloadN X1 hx (pc' := 5) (hb hby d1_4) rfl rfl ?_
  refine o_if_ge X1 hx (pc' := 8) (pt := 22) (hb hby d1_5) rfl (by decide) (by decide) (fun _ => ?_) (fun q => absurd q hn)
  refine o_iloadN X1 hx (pc' := 23) (hb hby d1_22) rfl rfl ?_
  refine o_iconst X1 hx (pc' := 24) (v := (1 : Int32)) (hb hby d1_23) rfl rfl ?_
  refine o_icmp_ge X1 hx (pc' := 27) (pt := 37) (hb hby d1_24) rfl (by decide) (by decide) (fun _ => ?_) (fun q => absurd q hc)
  refine o_aloadN X1 hx (pc' := 38) (hb hby d1_37) rfl rfl rfl ?_
  refine o_iloadN X1 hx (pc' := 39) (hb hby d1_38) rfl rfl ?_
  refine o_putfield X1 hx hZ hown (hw _ (List.mem_of_getElem? (i := 10) rfl)) e1 hC hE (Or.inr ⟨(hw _ (List.mem_of_getElem? (i := 11) rfl)), rfl, hnm⟩) (hw _ (List.mem_of_getElem? (i := 2) rfl)) (ty := .int) (v' := (.int p3)) (by decide) rfl rfl (hb hby d1_39) (pc' := 42) rfl ?_
  intro T2 h2 X2 e2 W2 F2 E2
  have NN := Fr.snoc X2 NN g_a1
  have KK := KK.wr W2 (Or.inl (List.mem_of_getElem? (i := 0) rfl))
  have ZZ := Nat.le_trans ZZ (Keep.of_wr W2).1
  have hS := hS.other W2 (Or.inr (slot_ne (Or.inr (hw _ (List.mem_of_getElem? (i := 13) rfl))) (Or.inr (hw _ (List.mem_of_getElem? (i := 11) rfl))) (by decide) (t := .int) (t' := .int) (by decide) (by decide)))
  have hX := hX.other W2 (Or.inr (slot_ne (Or.inr (hw _ (List.mem_of_getElem? (i := 15) rfl))) (Or.inr (hw _ (List.mem_of_getElem? (i := 11) rfl))) (by decide) (t := .int) (t' := .int) (by decide) (by decide)))
  have hC := F2
  have hE := E2
  refine o_aloadN X2 hx (pc' := 43) (hb hby d1_42) rfl rfl rfl ?_
  refine o_iloadN X2 hx (pc' := 44) (hb hby d1_43) rfl rfl ?_
  refine o_iloadN X2 hx (pc' := 45) (hb hby d1_44) rfl rfl ?_
  refine o_idiv X2 hx (pc' := 46) (hb hby d1_45) rfl hz ?_
  refine o_putfield X2 hx hZ hown (hw _ (List.mem_of_getElem? (i := 12) rfl)) e2 hS hE (Or.inr ⟨(hw _ (List.mem_of_getElem? (i := 13) rfl)), rfl, hnm⟩) (hw _ (List.mem_of_getElem? (i := 2) rfl)) (ty := .int) (v' := (.int (p2 / p3))) (by decide) rfl rfl (hb hby d1_46) (pc' := 49) rfl ?_
  intro T3 h3 X3 e3 W3 F3 E3
  have NN := Fr.snoc X3 NN g_a1
  have KK := KK.wr W3 (Or.inl (List.mem_of_getElem? (i := 0) rfl))
  have ZZ := Nat.le_trans ZZ (Keep.of_wr W3).1
  have hC := hC.other W3 (Or.inr (slot_ne (Or.inr (hw _ (List.mem_of_getElem? (i := 11) rfl))) (Or.inr (hw _ (List.mem_of_getElem? (i := 13) rfl))) (by decide) (t := .int) (t' := .int) (by decide) (by decide)))
  have hX := hX.other W3 (Or.inr (slot_ne (Or.inr (hw _ (List.mem_of_getElem? (i := 15) rfl))) (Or.inr (hw _ (List.mem_of_getElem? (i := 13) rfl))) (by decide) (t := .int) (t' := .int) (by decide) (by decide)))
  have hS := F3
  have hE := E3
  refine o_aloadN X3 hx (pc' := 50) (hb hby d1_49) rfl rfl rfl ?_
  refine o_iloadN X3 hx (pc' := 51) (hb hby d1_50) rfl rfl ?_
  refine o_iloadN X3 hx (pc' := 52) (hb hby d1_51) rfl rfl ?_
  refine o_irem X3 hx (pc' := 53) (hb hby d1_52) rfl hz ?_
  refine o_putfield X3 hx hZ hown (hw _ (List.mem_of_getElem? (i := 14) rfl)) e3 hX hE (Or.inr ⟨(hw _ (List.mem_of_getElem? (i := 15) rfl)), rfl, hnm⟩) (hw _ (List.mem_of_getElem? (i := 2) rfl)) (ty := .int) (v' := (.int (p2 % p3))) (by decide) rfl rfl (hb hby d1_53) (pc' := 56) rfl ?_
  intro T4 h4 X4 e4 W4 F4 E4
  have NN := Fr.snoc X4 NN g_a1
  have KK := KK.wr W4 (Or.inl (List.mem_of_getElem? (i := 0) rfl))
  have ZZ := Nat.le_trans ZZ (Keep.of_wr W4).1
  have hC := hC.other W4 (Or.inr (slot_ne (Or.inr (hw _ (List.mem_of_getElem? (i := 11) rfl))) (Or.inr (hw _ (List.mem_of_getElem? (i := 15) rfl))) (by decide) (t := .int) (t' := .int) (by decide) (by decide)))
  have hS := hS.other W4 (Or.inr (slot_ne (Or.inr (hw _ (List.mem_of_getElem? (i := 13) rfl))) (Or.inr (hw _ (List.mem_of_getElem? (i := 15) rfl))) (by decide) (t := .int) (t' := .int) (by decide) (by decide)))
  have hX := F4
  have hE := E4
  exact finV X4 hx hlk hret (hb hby d1_56) (by decide) (by decide) ⟨rfl, NN, by rw [e4]; exact KK, by rw [e4]; exact hS, by rw [e4]; exact hX⟩
def Fof (d x s : Int32) : Int32 := if (d.toInt64) < ((x.toInt64) * ((s + (1 : Int32)).toInt64)) then ((d / (s + (1 : Int32))).toInt64).toInt32 else ((x.toInt64) + (((d.toInt64) - ((x.toInt64) * ((s + (1 : Int32)).toInt64))) / (s.toInt64))).toInt32
theorem d3_0 : decode prog_69_method_4_code 0 = .ok (.aload_n 0, 1) := by decide +kernel
theorem d3_1 : decode prog_69_method_4_code 1 = .ok (.getfield 27, 3) := by decide +kernel
theorem d3_4 : decode prog_69_method_4_code 4 = .ok (.i2l, 1) := by decide +kernel
theorem d3_5 : decode prog_69_method_4_code 5 = .ok (.aload_n 0, 1) := by decide +kernel
theorem d3_6 : decode prog_69_method_4_code 6 = .ok (.getfield 24, 3) := by decide +kernel
theorem d3_9 : decode prog_69_method_4_code 9 = .ok (.iconst 1, 1) := by decide +kernel
theorem d3_10 : decode prog_69_method_4_code 10 = .ok (.iadd, 1) := by decide +kernel
theorem d3_11 : decode prog_69_method_4_code 11 = .ok (.i2l, 1) := by decide +kernel
theorem d3_12 : decode prog_69_method_4_code 12 = .ok (.lmul, 1) := by decide +kernel
theorem d3_13 : decode prog_69_method_4_code 13 = .ok (.lstore_n 2, 1) := by decide +kernel
theorem d3_14 : decode prog_69_method_4_code 14 = .ok (.iload_n 1, 1) := by decide +kernel
theorem d3_15 : decode prog_69_method_4_code 15 = .ok (.i2l, 1) := by decide +kernel
theorem d3_16 : decode prog_69_method_4_code 16 = .ok (.lload_n 2, 1) := by decide +kernel
theorem d3_17 : decode prog_69_method_4_code 17 = .ok (.lcmp, 1) := by decide +kernel
theorem d3_18 : decode prog_69_method_4_code 18 = .ok (.ifCond .ge 15, 3) := by decide +kernel
theorem d3_21 : decode prog_69_method_4_code 21 = .ok (.iload_n 1, 1) := by decide +kernel
theorem d3_22 : decode prog_69_method_4_code 22 = .ok (.aload_n 0, 1) := by decide +kernel
theorem d3_23 : decode prog_69_method_4_code 23 = .ok (.getfield 24, 3) := by decide +kernel
theorem d3_26 : decode prog_69_method_4_code 26 = .ok (.iconst 1, 1) := by decide +kernel
theorem d3_27 : decode prog_69_method_4_code 27 = .ok (.iadd, 1) := by decide +kernel
theorem d3_28 : decode prog_69_method_4_code 28 = .ok (.idiv, 1) := by decide +kernel
theorem d3_29 : decode prog_69_method_4_code 29 = .ok (.i2l, 1) := by decide +kernel
theorem d3_30 : decode prog_69_method_4_code 30 = .ok (.goto 19, 3) := by decide +kernel
theorem d3_33 : decode prog_69_method_4_code 33 = .ok (.aload_n 0, 1) := by decide +kernel
theorem d3_34 : decode prog_69_method_4_code 34 = .ok (.getfield 27, 3) := by decide +kernel
theorem d3_37 : decode prog_69_method_4_code 37 = .ok (.i2l, 1) := by decide +kernel
theorem d3_38 : decode prog_69_method_4_code 38 = .ok (.iload_n 1, 1) := by decide +kernel
theorem d3_39 : decode prog_69_method_4_code 39 = .ok (.i2l, 1) := by decide +kernel
theorem d3_40 : decode prog_69_method_4_code 40 = .ok (.lload_n 2, 1) := by decide +kernel
theorem d3_41 : decode prog_69_method_4_code 41 = .ok (.lsub, 1) := by decide +kernel
theorem d3_42 : decode prog_69_method_4_code 42 = .ok (.aload_n 0, 1) := by decide +kernel
theorem d3_43 : decode prog_69_method_4_code 43 = .ok (.getfield 24, 3) := by decide +kernel
theorem d3_46 : decode prog_69_method_4_code 46 = .ok (.i2l, 1) := by decide +kernel
theorem d3_47 : decode prog_69_method_4_code 47 = .ok (.ldiv, 1) := by decide +kernel
theorem d3_48 : decode prog_69_method_4_code 48 = .ok (.ladd, 1) := by decide +kernel
theorem d3_49 : decode prog_69_method_4_code 49 = .ok (.l2i, 1) := by decide +kernel
theorem d3_50 : decode prog_69_method_4_code 50 = .ok (.ireturn, 1) := by decide +kernel
theorem pn_3 : plainFor (⟨"com/example/bellwether/bellwether/cluster/Partitions", "of", "(I)I"⟩ : MethodName) = true := plainFor_of_name (by show plainName "com/example/bellwether/bellwether/cluster/Partitions" = true; first | (simp [plainName, overriddenIn]; done) | decide +kernel)
theorem ef_3 (m : MethodId) (a1 : Addr) (p2 : Int32) : entryFrame m #[(.ref a1), (.int p2)] 4 = mkF m 0 #[.val (.ref a1), .val (.int p2), .unset, .unset] [] := by first | (simp [entryFrame, mkF, argsToLocals, Value.category]; done) | rfl
set_option maxRecDepth 65536 in
set_option maxHeartbeats 40000000 in
theorem rm3 (l : Launch) (Z : State) (a0 : Array Value) (hw : ∀ d ∈ tables_1, d.before a0 Z = true) (h0 : Heap) (n0 : Nat) (Z0 : n0 ≤ h0.size) (a1 : Addr) (p2 : Int32) (x sz : Int32) (hX : Fld Z h0 a1 "com/example/bellwether/bellwether/cluster/Partitions" "extra" "I" (.int x)) (hS : Fld Z h0 a1 "com/example/bellwether/bellwether/cluster/Partitions" "size" "I" (.int sz)) (hz1 : (p2.toInt64) < ((x.toInt64) * ((sz + (1 : Int32)).toInt64)) → sz + (1 : Int32) ≠ 0) (hz2 : ¬ ((p2.toInt64) < ((x.toInt64) * ((sz + (1 : Int32)).toInt64))) → sz.toInt64 ≠ 0) : Ctr l Z (⟨"com/example/bellwether/bellwether/cluster/Partitions", "of", "(I)I"⟩ : MethodName) prog_69_method_4_code 4 (some .int) [] ({ frames := 0, cells := 0, slots := 0, locals := 0 } : Room) #[(.ref a1), (.int p2)] h0 (Pure (.int (Fof p2 x sz)) h0) := by
  refine ctr_mk pn_3 (own := "com/example/bellwether/bellwether/cluster/Partitions") (mn := "of") rfl rfl ?_
  intro p e s m below meth c T0 X0 hx hby hml hZ hown hnm hret hlk e0
  refine o_entry (ef_3 m a1 p2) ?_
  refine o_aloadN X0 hx (pc' := 1) (hb hby d3_0) rfl rfl rfl ?_
  refine o_getfield X0 hx hZ hown (hw _ (List.mem_of_getElem? (i := 14) rfl)) e0 hX (hb hby d3_1) (pc' := 4) rfl ?_
  intro T1 X1 e1
  refine o_i2l X1 hx (pc' := 5) (hb hby d3_4) rfl ?_
  refine o_aloadN X1 hx (pc' := 6) (hb hby d3_5) rfl rfl rfl ?_
  refine o_getfield X1 hx hZ hown (hw _ (List.mem_of_getElem? (i := 12) rfl)) e1 hS (hb hby d3_6) (pc' := 9) rfl ?_
  intro T2 X2 e2
  refine o_iconst X2 hx (pc' := 10) (v := (1 : Int32)) (hb hby d3_9) rfl rfl ?_
  refine o_iadd X2 hx (pc' := 11) (hb hby d3_10) rfl ?_
  refine o_i2l X2 hx (pc' := 12) (hb hby d3_11) rfl ?_
  refine o_lmul X2 hx (pc' := 13) (hb hby d3_12) rfl ?_
  refine o_lstoreN X2 hx (pc' := 14) (Ls' := #[.val (.ref a1), .val (.int p2), .val (.long ((x.toInt64) * ((sz + (1 : Int32)).toInt64))), .second]) (hb hby d3_13) rfl rfl ?_
  refine o_iloadN X2 hx (pc' := 15) (hb hby d3_14) rfl rfl ?_
  refine o_i2l X2 hx (pc' := 16) (hb hby d3_15) rfl ?_
  refine o_lloadN X2 hx (pc' := 17) (hb hby d3_16) rfl rfl ?_
  refine o_lcmp X2 hx (pc' := 18) (hb hby d3_17) rfl ?_
  refine o_lif_ge X2 hx (pc' := 21) (pt := 33) (hb hby d3_18) rfl (by decide) (by decide) (fun hc18 => ?_) (fun hc18 => ?_)
  · skip
    refine o_aloadN X2 hx (pc' := 34) (hb hby d3_33) rfl rfl rfl ?_
    refine o_getfield X2 hx hZ hown (hw _ (List.mem_of_getElem? (i := 14) rfl)) e2 hX (hb hby d3_34) (pc' := 37) rfl ?_
    intro T3 X3 e3
    refine o_i2l X3 hx (pc' := 38) (hb hby d3_37) rfl ?_
    refine o_iloadN X3 hx (pc' := 39) (hb hby d3_38) rfl rfl ?_
    refine o_i2l X3 hx (pc' := 40) (hb hby d3_39) rfl ?_
    refine o_lloadN X3 hx (pc' := 41) (hb hby d3_40) rfl rfl ?_
    refine o_lsub X3 hx (pc' := 42) (hb hby d3_41) rfl ?_
    refine o_aloadN X3 hx (pc' := 43) (hb hby d3_42) rfl rfl rfl ?_
    refine o_getfield X3 hx hZ hown (hw _ (List.mem_of_getElem? (i := 12) rfl)) e3 hS (hb hby d3_43) (pc' := 46) rfl ?_
    intro T4 X4 e4
    refine o_i2l X4 hx (pc' := 47) (hb hby d3_46) rfl ?_
    refine o_ldiv X4 hx (pc' := 48) (hb hby d3_47) rfl (hz2 hc18) ?_
    refine o_ladd X4 hx (pc' := 49) (hb hby d3_48) rfl ?_
    refine o_l2i X4 hx (pc' := 50) (hb hby d3_49) rfl ?_
    exact finI X4 hx hlk hret (hb hby d3_50) (by decide) (by decide) ⟨by show some (Value.int _) = some (Value.int (Fof p2 x sz)); unfold Fof; rw [if_neg hc18], rfl, e4⟩
  · skip
    refine o_iloadN X2 hx (pc' := 22) (hb hby d3_21) rfl rfl ?_
    refine o_aloadN X2 hx (pc' := 23) (hb hby d3_22) rfl rfl rfl ?_
    refine o_getfield X2 hx hZ hown (hw _ (List.mem_of_getElem? (i := 12) rfl)) e2 hS (hb hby d3_23) (pc' := 26) rfl ?_
    intro T5 X5 e5
    refine o_iconst X5 hx (pc' := 27) (v := (1 : Int32)) (hb hby d3_26) rfl rfl ?_
    refine o_iadd X5 hx (pc' := 28) (hb hby d3_27) rfl ?_
    refine o_idiv X5 hx (pc' := 29) (hb hby d3_28) rfl (hz1 hc18) ?_
    refine o_i2l X5 hx (pc' := 30) (hb hby d3_29) rfl ?_
    refine o_goto X5 hx (pc' := 49) (hb hby d3_30) (by decide) (by decide) ?_
    refine o_l2i X5 hx (pc' := 50) (hb hby d3_49) rfl ?_
    exact finI X5 hx hlk hret (hb hby d3_50) (by decide) (by decide) ⟨by show some (Value.int _) = some (Value.int (Fof p2 x sz)); unfold Fof; rw [if_pos hc18], rfl, e5⟩
theorem own_int (n c d : Int) (hc : 1 ≤ c) (hd : 0 ≤ d) (hdn : d < n) :
    0 ≤ n / c ∧ 0 ≤ n % c ∧ n % c < c ∧ n / c * c + n % c = n ∧ n / c ≤ n ∧ 0 ≤ (n % c) * (n / c + 1) ∧ (n % c) * (n / c + 1) ≤ n ∧
    (d < (n % c) * (n / c + 1) → 0 ≤ d / (n / c + 1) ∧ d / (n / c + 1) < n % c ∧ (d / (n / c + 1)) * (n / c) + d / (n / c + 1) ≤ d ∧ d < (d / (n / c + 1) + 1) * (n / c) + (d / (n / c + 1) + 1)) ∧
    (¬ d < (n % c) * (n / c + 1) → 0 < n / c ∧ 0 ≤ (d - (n % c) * (n / c + 1)) / (n / c) ∧ n % c + (d - (n % c) * (n / c + 1)) / (n / c) < c ∧ (n % c + (d - (n % c) * (n / c + 1)) / (n / c)) * (n / c) + n % c ≤ d ∧ d < (n % c + (d - (n % c) * (n / c + 1)) / (n / c) + 1) * (n / c) + n % c) := by
  have h1 : 0 ≤ n / c := Int.ediv_nonneg (by omega) (by omega)
  have h2 : 0 ≤ n % c := Int.emod_nonneg _ (by omega)
  have h3 : n % c < c := Int.emod_lt_of_pos _ (by omega)
  have h4 : n / c * c + n % c = n := by rw [Int.mul_comm]; exact Int.mul_ediv_add_emod n c
  have h5 : n / c ≤ n := Int.ediv_le_self _ (by omega)
  generalize n / c = s at *
  generalize n % c = x at *
  have h6 : 0 ≤ x * (s + 1) := Int.mul_nonneg h2 (by omega)
  have e6 : x * (s + 1) = x * s + x := by rw [Int.mul_add, Int.mul_one]
  have h7 : x * s ≤ s * c := by rw [Int.mul_comm]; exact Int.mul_le_mul_of_nonneg_left (by omega) h1
  refine ⟨h1, h2, h3, h4, h5, h6, by omega, ?_, ?_⟩
  · intro q
    have p1 : 0 ≤ d / (s + 1) := Int.ediv_nonneg hd (by omega)
    have p2 : d / (s + 1) < x := Int.ediv_lt_of_lt_mul (by omega) q
    have p3 : d / (s + 1) * (s + 1) ≤ d := Int.ediv_mul_le _ (by omega)
    have p4 : d < (d / (s + 1) + 1) * (s + 1) := Int.lt_ediv_add_one_mul_self _ (by omega)
    rw [Int.mul_add, Int.mul_one] at p3 p4
    exact ⟨p1, p2, p3, p4⟩
  · intro q
    have s0 : 0 < s := by
      rcases Int.lt_or_eq_of_le h1 with z | z
      · exact z
      · exfalso
        subst z
        simp at q h4
        omega
    have d0 : 0 ≤ d - x * (s + 1) := by omega
    have p1 : 0 ≤ (d - x * (s + 1)) / s := Int.ediv_nonneg d0 h1
    have e1 : (c - x) * s = s * c - x * s := by rw [Int.sub_mul, Int.mul_comm c s]
    have p2 : (d - x * (s + 1)) / s < c - x := Int.ediv_lt_of_lt_mul s0 (by rw [e1]; omega)
    have p3 : (d - x * (s + 1)) / s * s ≤ d - x * (s + 1) := Int.ediv_mul_le _ (by omega)
    have p4 : d - x * (s + 1) < ((d - x * (s + 1)) / s + 1) * s := Int.lt_ediv_add_one_mul_self _ s0
    generalize (d - x * (s + 1)) / s = r at *
    refine ⟨s0, p1, by omega, ?_, ?_⟩
    · rw [Int.add_mul]; omega
    · rw [Int.add_mul] at p4
      rw [Int.add_mul, Int.add_mul]; omega
theorem own_min (a b : Int64) : (F5 a b).toInt = min a.toInt b.toInt := by
  unfold F5
  by_cases q : b < a
  · rw [if_pos q]; rw [Int64.lt_iff_toInt_lt] at q; omega
  · rw [if_neg q]; rw [Int64.lt_iff_toInt_lt] at q; omega
theorem own_main (n c d : Int32) (hn : 0 < n.toInt) (hc : 1 ≤ c.toInt) (hd : 0 ≤ d.toInt) (hdn : d.toInt < n.toInt) :
    ((d.toInt64) < (((n % c).toInt64) * (((n / c) + (1 : Int32)).toInt64)) → (n / c) + (1 : Int32) ≠ 0) ∧ (¬ ((d.toInt64) < (((n % c).toInt64) * (((n / c) + (1 : Int32)).toInt64))) → (n / c).toInt64 ≠ 0) ∧
    ¬ Fof d (n % c) (n / c) < 0 ∧ Fof d (n % c) (n / c) < c ∧
    ¬ d.toInt64 < F4 (Fof d (n % c) (n / c)).toInt64 (n / c).toInt64 (n % c).toInt64 ∧ d.toInt64 < F4 ((Fof d (n % c) (n / c)).toInt64 + (1 : Int64)) (n / c).toInt64 (n % c).toInt64 := by
  have cm : c ≠ -1 := fun q => by rw [q] at hc; exact absurd hc (by decide)
  have es := (c_idiv n c c.toInt rfl cm).1 (by omega)
  have ex := (c_irem n c c.toInt rfl).1 (by omega)
  obtain ⟨h1, h2, h3, h4, h5, h6, h7, h8, h9⟩ := own_int n.toInt c.toInt d.toInt hc hd hdn
  generalize n / c = S at *
  generalize n % c = X at *
  simp only [← es, ← ex] at h1 h2 h3 h4 h5 h6 h7 h8 h9
  have rn := rng32 n
  have rc := rng32 c
  have rd := rng32 d
  have rS := rng32 S
  have rX := rng32 X
  have z0 : (0 : Int32).toInt = 0 := by decide
  have z1 : (1 : Int32).toInt = 1 := by decide
  have l1 : (1 : Int64).toInt = 1 := by decide
  -- what is compared
  have e1 := c_iadd S 1
  have r1 := rng32 (S + 1)
  have e2 := c_lmul X.toInt64 (S + 1).toInt64
  have r2 := rng64 (X.toInt64 * (S + 1).toInt64)
  rw [c_i2l, c_i2l] at e2
  have inl : (X.toInt64 * (S + 1).toInt64).toInt = X.toInt * (S.toInt + 1) := by
    rcases Int.lt_or_eq_of_le (show S.toInt ≤ 2147483647 by omega) with q | q
    · have : (S + 1).toInt = S.toInt + 1 := by omega
      rw [this] at e2
      generalize X.toInt * (S.toInt + 1) = P at *
      omega
    · have c1 : X.toInt = 0 := by
        rcases Int.lt_or_eq_of_le hc with w | w
        · exfalso
          have : S.toInt * 2 ≤ S.toInt * c.toInt := Int.mul_le_mul_of_nonneg_left (by omega) h1
          omega
        · omega
      rw [c1] at e2 ⊢
      rw [Int.zero_mul] at e2 ⊢
      omega
  generalize hI : X.toInt64 * (S + 1).toInt64 = I at *
  have hlt : d.toInt64 < I ↔ d.toInt < X.toInt * (S.toInt + 1) := by rw [Int64.lt_iff_toInt_lt, inl, c_i2l]
  generalize hP : X.toInt * (S.toInt + 1) = P at *
  by_cases q : d.toInt < P
  · obtain ⟨p1, p2, p3, p4⟩ := h8 q
    have S1 : (S + 1).toInt = S.toInt + 1 := by
      have : S.toInt ≠ 2147483647 := by
        intro w
        have : c.toInt = 1 := by
          rcases Int.lt_or_eq_of_le hc with v | v
          · exfalso
            have : S.toInt * 2 ≤ S.toInt * c.toInt := Int.mul_le_mul_of_nonneg_left (by omega) h1
            omega
          · omega
        have : X.toInt = 0 := by omega
        rw [this, Int.zero_mul] at hP
        omega
      omega
    have S0 : S + 1 ≠ 0 := fun w => by rw [w, z0] at S1; omega
    have ed := (c_idiv d (S + 1) (S.toInt + 1) S1 (fun w => by rw [w] at S1; have : (-1 : Int32).toInt = -1 := by decide
                                                               omega)).1 hd
    have F1 : (Fof d X S).toInt = d.toInt / (S.toInt + 1) := by
      unfold Fof
      rw [hI, if_pos (hlt.mpr q)]
      have a1 := c_l2i (d / (S + 1)).toInt64
      rw [c_i2l] at a1
      have a2 := rng32 ((d / (S + 1)).toInt64.toInt32)
      have a3 := rng32 (d / (S + 1))
      omega
    generalize Fof d X S = p at *
    generalize d.toInt / (S.toInt + 1) = r at *
    refine ⟨fun _ => S0, fun w => absurd (hlt.mpr q) w, ?_, ?_, ?_, ?_⟩
    · rw [Int32.lt_iff_toInt_lt, z0]; omega
    · rw [Int32.lt_iff_toInt_lt]; omega
    · rw [Int64.lt_iff_toInt_lt]
      have b1 := c_lmul p.toInt64 S.toInt64
      have b2 := c_ladd (p.toInt64 * S.toInt64) (F5 p.toInt64 X.toInt64)
      have b3 := own_min p.toInt64 X.toInt64
      have b4 := rng64 (p.toInt64 * S.toInt64)
      have b5 := rng64 (p.toInt64 * S.toInt64 + F5 p.toInt64 X.toInt64)
      unfold F4
      rw [c_i2l, c_i2l] at b1 b3
      rw [c_i2l]
      rw [F1] at b1 b3
      have b6 : 0 ≤ r * S.toInt := Int.mul_nonneg p1 h1
      generalize r * S.toInt = m at *
      omega
    · rw [Int64.lt_iff_toInt_lt]
      have b0 := c_ladd p.toInt64 1
      have c0 := rng64 (p.toInt64 + 1)
      rw [c_i2l, l1, F1] at b0
      have F2 : (p.toInt64 + 1).toInt = r + 1 := by omega
      have b1 := c_lmul (p.toInt64 + 1) S.toInt64
      have b2 := c_ladd ((p.toInt64 + 1) * S.toInt64) (F5 (p.toInt64 + 1) X.toInt64)
      have b3 := own_min (p.toInt64 + 1) X.toInt64
      have b4 := rng64 ((p.toInt64 + 1) * S.toInt64)
      have b5 := rng64 ((p.toInt64 + 1) * S.toInt64 + F5 (p.toInt64 + 1) X.toInt64)
      unfold F4
      rw [c_i2l] at b1 b3
      rw [c_i2l]
      rw [F2] at b1 b3
      have b6 : 0 ≤ (r + 1) * S.toInt := Int.mul_nonneg (by omega) h1
      have b7 : (r + 1) * S.toInt ≤ X.toInt * S.toInt := Int.mul_le_mul_of_nonneg_right (by omega) h1
      have b8 : X.toInt * (S.toInt + 1) = X.toInt * S.toInt + X.toInt := by rw [Int.mul_add, Int.mul_one]
      generalize (r + 1) * S.toInt = m at *
      generalize X.toInt * S.toInt = m2 at *
      omega
  · obtain ⟨s0, p1, p2, p3, p4⟩ := h9 q
    have S0 : S.toInt64 ≠ 0 := fun w => by
      have := congrArg Int64.toInt w
      rw [c_i2l] at this
      have z : (0 : Int64).toInt = 0 := by decide
      omega
    have a0 := c_lsub d.toInt64 I
    have a1 := rng64 (d.toInt64 - I)
    rw [c_i2l, inl] at a0
    have a2 : (d.toInt64 - I).toInt = d.toInt - P := by omega
    have a3 := (c_ldiv (d.toInt64 - I) S.toInt64 S.toInt (c_i2l S) (fun w => by
      have := congrArg Int64.toInt w
      rw [c_i2l] at this
      have z : (-1 : Int64).toInt = -1 := by decide
      omega)).1 (by omega)
    rw [a2] at a3
    have F1 : (Fof d X S).toInt = X.toInt + (d.toInt - P) / S.toInt := by
      unfold Fof
      rw [hI, if_neg (fun w => q (hlt.mp w))]
      have b1 := c_ladd X.toInt64 ((d.toInt64 - I) / S.toInt64)
      have b2 := rng64 (X.toInt64 + (d.toInt64 - I) / S.toInt64)
      have b3 := c_l2i (X.toInt64 + (d.toInt64 - I) / S.toInt64)
      have b4 := rng32 (X.toInt64 + (d.toInt64 - I) / S.toInt64).toInt32
      rw [c_i2l, a3] at b1
      generalize (d.toInt - P) / S.toInt = r at *
      omega
    generalize Fof d X S = p at *
    generalize (d.toInt - P) / S.toInt = r at *
    have x0 : 0 ≤ X.toInt + r := by omega
    refine ⟨fun w => absurd (hlt.mp w) q, fun _ => S0, ?_, ?_, ?_, ?_⟩
    · rw [Int32.lt_iff_toInt_lt, z0]; omega
    · rw [Int32.lt_iff_toInt_lt]; omega
    · rw [Int64.lt_iff_toInt_lt]
      have b1 := c_lmul p.toInt64 S.toInt64
      have b2 := c_ladd (p.toInt64 * S.toInt64) (F5 p.toInt64 X.toInt64)
      have b3 := own_min p.toInt64 X.toInt64
      have b4 := rng64 (p.toInt64 * S.toInt64)
      have b5 := rng64 (p.toInt64 * S.toInt64 + F5 p.toInt64 X.toInt64)
      unfold F4
      rw [c_i2l, c_i2l] at b1 b3
      rw [c_i2l]
      rw [F1] at b1 b3
      have b6 : 0 ≤ (X.toInt + r) * S.toInt := Int.mul_nonneg x0 h1
      generalize (X.toInt + r) * S.toInt = m at *
      omega
    · rw [Int64.lt_iff_toInt_lt]
      have b0 := c_ladd p.toInt64 1
      have c0 := rng64 (p.toInt64 + 1)
      rw [c_i2l, l1, F1] at b0
      have F2 : (p.toInt64 + 1).toInt = X.toInt + r + 1 := by omega
      have b1 := c_lmul (p.toInt64 + 1) S.toInt64
      have b2 := c_ladd ((p.toInt64 + 1) * S.toInt64) (F5 (p.toInt64 + 1) X.toInt64)
      have b3 := own_min (p.toInt64 + 1) X.toInt64
      have b4 := rng64 ((p.toInt64 + 1) * S.toInt64)
      have b5 := rng64 ((p.toInt64 + 1) * S.toInt64 + F5 (p.toInt64 + 1) X.toInt64)
      unfold F4
      rw [c_i2l] at b1 b3
      rw [c_i2l]
      rw [F2] at b1 b3
      have b6 : 0 ≤ (X.toInt + r + 1) * S.toInt := Int.mul_nonneg (by omega) h1
      have b7 : (X.toInt + r + 1) * S.toInt ≤ c.toInt * S.toInt := Int.mul_le_mul_of_nonneg_right (by omega) h1
      have b8 : c.toInt * S.toInt = S.toInt * c.toInt := Int.mul_comm _ _
      generalize (X.toInt + r + 1) * S.toInt = m at *
      generalize c.toInt * S.toInt = m2 at *
      omega
theorem own_nodes (x : Int32) : 0 ≤ (x &&& (2147483647 : Int32)).toInt := (c_and x 2147483647 (by decide)).1
theorem own_cnt (x : Int32) : 1 ≤ ((1 : Int32) + ((x &&& (2147483647 : Int32)) % (2147483647 : Int32))).toInt := by
  have r := c_and x 2147483647 (by decide)
  have m := (c_irem (x &&& 2147483647) 2147483647 2147483647 (by decide)).1 r.1
  have a := c_iadd 1 ((x &&& (2147483647 : Int32)) % (2147483647 : Int32))
  have b := rng32 ((1 : Int32) + ((x &&& (2147483647 : Int32)) % (2147483647 : Int32)))
  have o : (1 : Int32).toInt = 1 := by decide
  omega
theorem own_node (x n : Int32) (h : 0 < n.toInt) : 0 ≤ ((x &&& (2147483647 : Int32)) % n).toInt ∧ ((x &&& (2147483647 : Int32)) % n).toInt < n.toInt := by
  have r := c_and x 2147483647 (by decide)
  have m := (c_iremV (x &&& 2147483647) n).1 r.1 h
  exact ⟨m.1, m.2.1⟩
def g0_1 (p1 : Int32) (p2 : Int32) (p3 : Int32) : Int32 := (p1 &&& (2147483647 : Int32))
def g0_2 (p1 : Int32) (p2 : Int32) (p3 : Int32) : Int32 := ((1 : Int32) + ((p2 &&& (2147483647 : Int32)) % (2147483647 : Int32)))
def g0_3 (p1 : Int32) (p2 : Int32) (p3 : Int32) : Int32 := ((p3 &&& (2147483647 : Int32)) % (g0_1 p1 p2 p3))
theorem pd_1 : parseMethodDescriptor "(II)V" = some ⟨[.int, .int], none⟩ := by decide +kernel
theorem pd_2 : parseMethodDescriptor "(I)I" = some ⟨[.int], some .int⟩ := by decide +kernel
theorem pd_3 : parseMethodDescriptor "(JJJ)J" = some ⟨[.long, .long, .long], some .long⟩ := by decide +kernel
theorem pn_0 : plainFor x = true := plainFor_of_name (by show plainName "com/example/bellwether/bellwether/cluster/PartitionsOfPinLaw" = true; first | (simp [plainName, overriddenIn]; done) | decide +kernel)
theorem ef_0 (m : MethodId) (p1 : Int32) (p2 : Int32) (p3 : Int32) : entryFrame m #[(.int p1), (.int p2), (.int p3)] maxLocals = mkF m 0 #[.val (.int p1), .val (.int p2), .val (.int p3), .unset, .unset, .unset, .unset, .unset, .unset, .unset, .unset, .unset, .unset, .unset, .unset, .unset] [] := by first | (simp [entryFrame, mkF, argsToLocals, Value.category, maxLocals]; done) | rfl
set_option maxRecDepth 65536 in
set_option maxHeartbeats 40000000 in
theorem rm0 (l : Launch) (Z : State) (a0 : Array Value) (hw : ∀ d ∈ tables_1, d.before a0 Z = true) (ws : List Jvm.Cond) (h0 : Heap) (n0 : Nat) (Z0 : n0 ≤ h0.size) (p1 : Int32) (p2 : Int32) (p3 : Int32)  : Ctr l Z x code maxLocals ret ws room_1 #[(.int p1), (.int p2), (.int p3)] h0 (fun v h L => v = some (.int 1) ∧ Fr n0 L) := by
  refine ctr_mk pn_0 (own := "com/example/bellwether/bellwether/cluster/PartitionsOfPinLaw") (mn := "law") rfl rfl ?_
  intro p e s m below meth c T0 X0 hx hby hml hZ hown hnm hret hlk e0
  refine o_entry (ef_0 m p1 p2 p3) ?_
  have NN := Fr.nil n0
  have ZZ := Z0
  refine o_iloadN X0 hx (pc' := 1) (hb hby at_0) rfl rfl ?_
  refine o_ldc X0 hx hZ hown (hw _ (List.mem_of_getElem? (i := 0) rfl)) (pc' := 3) (hb hby at_1) rfl ?_
  refine o_iand X0 hx (pc' := 4) (hb hby at_3) rfl ?_
  refine o_istoreN X0 hx (pc' := 5) (Ls' := #[.val (.int p1), .val (.int p2), .val (.int p3), .val (.int (g0_1 p1 p2 p3)), .unset, .unset, .unset, .unset, .unset, .unset, .unset, .unset, .unset, .unset, .unset, .unset]) (hb hby at_4) rfl rfl ?_
  refine o_iconst X0 hx (pc' := 6) (v := (1 : Int32)) (hb hby at_5) rfl rfl ?_
  refine o_iloadN X0 hx (pc' := 7) (hb hby at_6) rfl rfl ?_
  refine o_ldc X0 hx hZ hown (hw _ (List.mem_of_getElem? (i := 0) rfl)) (pc' := 9) (hb hby at_7) rfl ?_
  refine o_iand X0 hx (pc' := 10) (hb hby at_9) rfl ?_
  refine o_ldc X0 hx hZ hown (hw _ (List.mem_of_getElem? (i := 0) rfl)) (pc' := 12) (hb hby at_10) rfl ?_
  refine o_irem X0 hx (pc' := 13) (hb hby at_12) rfl (by decide) ?_
  refine o_iadd X0 hx (pc' := 14) (hb hby at_13) rfl ?_
  refine o_istore X0 hx (pc' := 16) (Ls' := #[.val (.int p1), .val (.int p2), .val (.int p3), .val (.int (g0_1 p1 p2 p3)), .val (.int (g0_2 p1 p2 p3)), .unset, .unset, .unset, .unset, .unset, .unset, .unset, .unset, .unset, .unset, .unset]) (hb hby at_14) rfl rfl ?_
  refine o_iloadN X0 hx (pc' := 17) (hb hby at_16) rfl rfl ?_
  refine o_if_ne X0 hx (pc' := 20) (pt := 22) (hb hby at_17) rfl (by decide) (by decide) (fun hc17 => ?_) (fun hc17 => ?_)
  · skip
    have hn1 : 0 < (g0_1 p1 p2 p3).toInt := by
      have r := own_nodes p1
      have z : (g0_1 p1 p2 p3).toInt ≠ 0 := fun q => hc17 (Int32.toInt_inj.mp (by rw [q]; decide))
      show 0 < (p1 &&& (2147483647 : Int32)).toInt
      have z' : (p1 &&& (2147483647 : Int32)).toInt ≠ 0 := z
      omega
    have hc1 : 1 ≤ (g0_2 p1 p2 p3).toInt := own_cnt p2
    refine o_iloadN X0 hx (pc' := 23) (hb hby at_22) rfl rfl ?_
    refine o_ldc X0 hx hZ hown (hw _ (List.mem_of_getElem? (i := 0) rfl)) (pc' := 25) (hb hby at_23) rfl ?_
    refine o_iand X0 hx (pc' := 26) (hb hby at_25) rfl ?_
    refine o_iloadN X0 hx (pc' := 27) (hb hby at_26) rfl rfl ?_
    refine o_irem X0 hx (pc' := 28) (hb hby at_27) rfl hc17 ?_
    refine o_istore X0 hx (pc' := 30) (Ls' := #[.val (.int p1), .val (.int p2), .val (.int p3), .val (.int (g0_1 p1 p2 p3)), .val (.int (g0_2 p1 p2 p3)), .val (.int (g0_3 p1 p2 p3)), .unset, .unset, .unset, .unset, .unset, .unset, .unset, .unset, .unset, .unset]) (hb hby at_28) rfl rfl ?_
    have hd1 : 0 ≤ (g0_3 p1 p2 p3).toInt ∧ (g0_3 p1 p2 p3).toInt < (g0_1 p1 p2 p3).toInt := own_node p3 (g0_1 p1 p2 p3) hn1
    obtain ⟨q1, q2, q3, q4, q5, q6⟩ := own_main (g0_1 p1 p2 p3) (g0_2 p1 p2 p3) (g0_3 p1 p2 p3) hn1 hc1 hd1.1 hd1.2
    have hc0 : (g0_2 p1 p2 p3) ≠ 0 := fun q => by rw [q] at hc1; exact absurd hc1 (by decide)
    refine o_new X0 hx hZ hown (hw _ (List.mem_of_getElem? (i := 1) rfl)) (hw _ (List.mem_of_getElem? (i := 2) rfl)) (hw _ (List.mem_of_getElem? (i := 3) rfl)) e0 (hb hby at_30) (pc' := 33) rfl (by decide) (by decide) ?_
    intro T1 h1 b1 g1 X1 e1 E1 A1 D1
    have g_b1 : n0 ≤ b1 := Nat.le_trans ZZ (Nat.le_of_eq g1.symm)
    have ZZ := Nat.le_trans ZZ E1.1
    have hE := A1
    have hC : Fld Z h1 b1 "com/example/bellwether/bellwether/cluster/Partitions" "count" "I" (.int 0) := D1 (Or.inr (hw _ (List.mem_of_getElem? (i := 11) rfl))) (ty := .int) (by decide)
    have hS : Fld Z h1 b1 "com/example/bellwether/bellwether/cluster/Partitions" "size" "I" (.int 0) := D1 (Or.inr (hw _ (List.mem_of_getElem? (i := 13) rfl))) (ty := .int) (by decide)
    have hX : Fld Z h1 b1 "com/example/bellwether/bellwether/cluster/Partitions" "extra" "I" (.int 0) := D1 (Or.inr (hw _ (List.mem_of_getElem? (i := 15) rfl))) (ty := .int) (by decide)
    refine o_dup X1 hx (pc' := 34) (hb hby at_33) rfl rfl ?_
    refine o_iloadN X1 hx (pc' := 35) (hb hby at_34) rfl rfl ?_
    refine o_iload X1 hx (pc' := 37) (hb hby at_35) rfl rfl ?_
    have hn2 : ¬ (g0_1 p1 p2 p3) < (0 : Int32) := by
      rw [Int32.lt_iff_toInt_lt]
      have z : (0 : Int32).toInt = 0 := by decide
      omega
    have hc2 : ¬ (g0_2 p1 p2 p3) < (1 : Int32) := by
      rw [Int32.lt_iff_toInt_lt]
      have z : (1 : Int32).toInt = 1 := by decide
      omega
    refine o_callI X1 hx hZ b1 [(.int (g0_1 p1 p2 p3)), (.int (g0_2 p1 p2 p3))] (rm1 l Z a0 hw h1 n0 ZZ b1 (g0_1 p1 p2 p3) (g0_2 p1 p2 p3) hE hC hS hX g_b1 hn2 hc2 hc0) rfl hown (hw _ (List.mem_of_getElem? (i := 4) rfl)) (hw _ (List.mem_of_getElem? (i := 5) rfl)) (hw _ (List.mem_of_getElem? (i := 3) rfl)) (hw _ (List.mem_of_getElem? (i := 6) rfl)) (by decide) pd_1 e1 (by rw [hml]; rfl) rfl rfl rfl (hb hby at_37) (pc' := 40) rfl 1 (Nat.le_of_eq rfl) (by decide) (by decide) (by decide) (by decide) ?_
    intro T2 v2 L2 X2 hQ2
    obtain ⟨rfl, Nq, Kq, hSq, hXq⟩ := hQ2
    have NN := Fr.app NN Nq
    have ZZ := Nat.le_trans ZZ Kq.1
    have hE := hE.keep Kq
    have hS := hSq
    have hX := hXq
    show Dn p e below _ (T2.setTop (mkF m 40 #[.val (.int p1), .val (.int p2), .val (.int p3), .val (.int (g0_1 p1 p2 p3)), .val (.int (g0_2 p1 p2 p3)), .val (.int (g0_3 p1 p2 p3)), .unset, .unset, .unset, .unset, .unset, .unset, .unset, .unset, .unset, .unset] [(.ref b1)]))
    refine o_astore X2 hx (pc' := 42) (Ls' := #[.val (.int p1), .val (.int p2), .val (.int p3), .val (.int (g0_1 p1 p2 p3)), .val (.int (g0_2 p1 p2 p3)), .val (.int (g0_3 p1 p2 p3)), .val (.ref b1), .unset, .unset, .unset, .unset, .unset, .unset, .unset, .unset, .unset]) (hb hby at_40) rfl rfl rfl ?_
    refine o_aload X2 hx (pc' := 44) (hb hby at_42) rfl rfl rfl ?_
    refine o_iload X2 hx (pc' := 46) (hb hby at_44) rfl rfl ?_
    refine o_callVP X2 hx hZ b1 [(.int (g0_3 p1 p2 p3))] (rm3 l Z a0 hw T2.heap n0 ZZ b1 (g0_3 p1 p2 p3) ((g0_1 p1 p2 p3) % (g0_2 p1 p2 p3)) ((g0_1 p1 p2 p3) / (g0_2 p1 p2 p3)) hX hS q1 q2) hown (hw _ (List.mem_of_getElem? (i := 16) rfl)) (hw _ (List.mem_of_getElem? (i := 17) rfl)) (hw _ (List.mem_of_getElem? (i := 19) rfl)) (hw _ (List.mem_of_getElem? (i := 18) rfl)) (hw _ (List.mem_of_getElem? (i := 3) rfl)) (hw _ (List.mem_of_getElem? (i := 20) rfl)) (by decide) hE pd_2 rfl (by rw [hml]; rfl) rfl rfl rfl (hb hby at_46) (pc' := 49) rfl 0 (Nat.le_of_eq rfl) (by decide) (by decide) rfl rfl (by decide) (by decide) ?_
    intro T3 X3 e3
    show Dn p e below _ (T3.setTop (mkF m 49 #[.val (.int p1), .val (.int p2), .val (.int p3), .val (.int (g0_1 p1 p2 p3)), .val (.int (g0_2 p1 p2 p3)), .val (.int (g0_3 p1 p2 p3)), .val (.ref b1), .unset, .unset, .unset, .unset, .unset, .unset, .unset, .unset, .unset] [(.int (Fof (g0_3 p1 p2 p3) ((g0_1 p1 p2 p3) % (g0_2 p1 p2 p3)) ((g0_1 p1 p2 p3) / (g0_2 p1 p2 p3))))]))
    refine o_istore X3 hx (pc' := 51) (Ls' := #[.val (.int p1), .val (.int p2), .val (.int p3), .val (.int (g0_1 p1 p2 p3)), .val (.int (g0_2 p1 p2 p3)), .val (.int (g0_3 p1 p2 p3)), .val (.ref b1), .val (.int (Fof (g0_3 p1 p2 p3) ((g0_1 p1 p2 p3) % (g0_2 p1 p2 p3)) ((g0_1 p1 p2 p3) / (g0_2 p1 p2 p3)))), .unset, .unset, .unset, .unset, .unset, .unset, .unset, .unset]) (hb hby at_49) rfl rfl ?_
    refine o_iload X3 hx (pc' := 53) (hb hby at_51) rfl rfl ?_
    refine o_if_lt X3 hx (pc' := 56) (pt := 63) (hb hby at_53) rfl (by decide) (by decide) (fun q => absurd q q3) (fun _ => ?_)
    refine o_iload X3 hx (pc' := 58) (hb hby at_56) rfl rfl ?_
    refine o_iload X3 hx (pc' := 60) (hb hby at_58) rfl rfl ?_
    refine o_icmp_lt X3 hx (pc' := 63) (pt := 65) (hb hby at_60) rfl (by decide) (by decide) (fun _ => ?_) (fun q => absurd q4 q)
    refine o_iloadN X3 hx (pc' := 66) (hb hby at_65) rfl rfl ?_
    refine o_iload X3 hx (pc' := 68) (hb hby at_66) rfl rfl ?_
    refine o_idiv X3 hx (pc' := 69) (hb hby at_68) rfl hc0 ?_
    refine o_i2l X3 hx (pc' := 70) (hb hby at_69) rfl ?_
    refine o_lstore X3 hx (pc' := 72) (Ls' := #[.val (.int p1), .val (.int p2), .val (.int p3), .val (.int (g0_1 p1 p2 p3)), .val (.int (g0_2 p1 p2 p3)), .val (.int (g0_3 p1 p2 p3)), .val (.ref b1), .val (.int (Fof (g0_3 p1 p2 p3) ((g0_1 p1 p2 p3) % (g0_2 p1 p2 p3)) ((g0_1 p1 p2 p3) / (g0_2 p1 p2 p3)))), .val (.long (((g0_1 p1 p2 p3) / (g0_2 p1 p2 p3)).toInt64)), .second, .unset, .unset, .unset, .unset, .unset, .unset]) (hb hby at_70) rfl rfl ?_
    refine o_iloadN X3 hx (pc' := 73) (hb hby at_72) rfl rfl ?_
    refine o_iload X3 hx (pc' := 75) (hb hby at_73) rfl rfl ?_
    refine o_irem X3 hx (pc' := 76) (hb hby at_75) rfl hc0 ?_
    refine o_i2l X3 hx (pc' := 77) (hb hby at_76) rfl ?_
    refine o_lstore X3 hx (pc' := 79) (Ls' := #[.val (.int p1), .val (.int p2), .val (.int p3), .val (.int (g0_1 p1 p2 p3)), .val (.int (g0_2 p1 p2 p3)), .val (.int (g0_3 p1 p2 p3)), .val (.ref b1), .val (.int (Fof (g0_3 p1 p2 p3) ((g0_1 p1 p2 p3) % (g0_2 p1 p2 p3)) ((g0_1 p1 p2 p3) / (g0_2 p1 p2 p3)))), .val (.long (((g0_1 p1 p2 p3) / (g0_2 p1 p2 p3)).toInt64)), .second, .val (.long (((g0_1 p1 p2 p3) % (g0_2 p1 p2 p3)).toInt64)), .second, .unset, .unset, .unset, .unset]) (hb hby at_77) rfl rfl ?_
    refine o_iload X3 hx (pc' := 81) (hb hby at_79) rfl rfl ?_
    refine o_i2l X3 hx (pc' := 82) (hb hby at_81) rfl ?_
    refine o_lload X3 hx (pc' := 84) (hb hby at_82) rfl rfl ?_
    refine o_lload X3 hx (pc' := 86) (hb hby at_84) rfl rfl ?_
    refine o_callSP X3 hx hZ [(.long ((Fof (g0_3 p1 p2 p3) ((g0_1 p1 p2 p3) % (g0_2 p1 p2 p3)) ((g0_1 p1 p2 p3) / (g0_2 p1 p2 p3))).toInt64)), (.long (((g0_1 p1 p2 p3) / (g0_2 p1 p2 p3)).toInt64)), (.long (((g0_1 p1 p2 p3) % (g0_2 p1 p2 p3)).toInt64))] (rm4 l Z a0 hw T2.heap ((Fof (g0_3 p1 p2 p3) ((g0_1 p1 p2 p3) % (g0_2 p1 p2 p3)) ((g0_1 p1 p2 p3) / (g0_2 p1 p2 p3))).toInt64) (((g0_1 p1 p2 p3) / (g0_2 p1 p2 p3)).toInt64) (((g0_1 p1 p2 p3) % (g0_2 p1 p2 p3)).toInt64)) hown (hw _ (List.mem_of_getElem? (i := 21) rfl)) (hw _ (List.mem_of_getElem? (i := 22) rfl)) (hw _ (List.mem_of_getElem? (i := 23) rfl)) (hw _ (List.mem_of_getElem? (i := 24) rfl)) (by decide) pd_3 e3 (by rw [hml]; rfl) rfl rfl rfl (hb hby at_86) (pc' := 89) rfl 0 (Nat.le_of_eq rfl) (by decide) (by decide) rfl rfl (by decide) (by decide) ?_
    intro T4 X4 e4
    show Dn p e below _ (T4.setTop (mkF m 89 #[.val (.int p1), .val (.int p2), .val (.int p3), .val (.int (g0_1 p1 p2 p3)), .val (.int (g0_2 p1 p2 p3)), .val (.int (g0_3 p1 p2 p3)), .val (.ref b1), .val (.int (Fof (g0_3 p1 p2 p3) ((g0_1 p1 p2 p3) % (g0_2 p1 p2 p3)) ((g0_1 p1 p2 p3) / (g0_2 p1 p2 p3)))), .val (.long (((g0_1 p1 p2 p3) / (g0_2 p1 p2 p3)).toInt64)), .second, .val (.long (((g0_1 p1 p2 p3) % (g0_2 p1 p2 p3)).toInt64)), .second, .unset, .unset, .unset, .unset] [(.long (F4 ((Fof (g0_3 p1 p2 p3) ((g0_1 p1 p2 p3) % (g0_2 p1 p2 p3)) ((g0_1 p1 p2 p3) / (g0_2 p1 p2 p3))).toInt64) (((g0_1 p1 p2 p3) / (g0_2 p1 p2 p3)).toInt64) (((g0_1 p1 p2 p3) % (g0_2 p1 p2 p3)).toInt64)))]))
    refine o_lstore X4 hx (pc' := 91) (Ls' := #[.val (.int p1), .val (.int p2), .val (.int p3), .val (.int (g0_1 p1 p2 p3)), .val (.int (g0_2 p1 p2 p3)), .val (.int (g0_3 p1 p2 p3)), .val (.ref b1), .val (.int (Fof (g0_3 p1 p2 p3) ((g0_1 p1 p2 p3) % (g0_2 p1 p2 p3)) ((g0_1 p1 p2 p3) / (g0_2 p1 p2 p3)))), .val (.long (((g0_1 p1 p2 p3) / (g0_2 p1 p2 p3)).toInt64)), .second, .val (.long (((g0_1 p1 p2 p3) % (g0_2 p1 p2 p3)).toInt64)), .second, .val (.long (F4 ((Fof (g0_3 p1 p2 p3) ((g0_1 p1 p2 p3) % (g0_2 p1 p2 p3)) ((g0_1 p1 p2 p3) / (g0_2 p1 p2 p3))).toInt64) (((g0_1 p1 p2 p3) / (g0_2 p1 p2 p3)).toInt64) (((g0_1 p1 p2 p3) % (g0_2 p1 p2 p3)).toInt64))), .second, .unset, .unset]) (hb hby at_89) rfl rfl ?_
    refine o_iload X4 hx (pc' := 93) (hb hby at_91) rfl rfl ?_
    refine o_i2l X4 hx (pc' := 94) (hb hby at_93) rfl ?_
    refine o_lconst X4 hx (pc' := 95) (v := (1 : Int64)) (hb hby at_94) rfl rfl ?_
    refine o_ladd X4 hx (pc' := 96) (hb hby at_95) rfl ?_
    refine o_lload X4 hx (pc' := 98) (hb hby at_96) rfl rfl ?_
    refine o_lload X4 hx (pc' := 100) (hb hby at_98) rfl rfl ?_
    refine o_callSP X4 hx hZ [(.long (((Fof (g0_3 p1 p2 p3) ((g0_1 p1 p2 p3) % (g0_2 p1 p2 p3)) ((g0_1 p1 p2 p3) / (g0_2 p1 p2 p3))).toInt64) + (1 : Int64))), (.long (((g0_1 p1 p2 p3) / (g0_2 p1 p2 p3)).toInt64)), (.long (((g0_1 p1 p2 p3) % (g0_2 p1 p2 p3)).toInt64))] (rm4 l Z a0 hw T2.heap (((Fof (g0_3 p1 p2 p3) ((g0_1 p1 p2 p3) % (g0_2 p1 p2 p3)) ((g0_1 p1 p2 p3) / (g0_2 p1 p2 p3))).toInt64) + (1 : Int64)) (((g0_1 p1 p2 p3) / (g0_2 p1 p2 p3)).toInt64) (((g0_1 p1 p2 p3) % (g0_2 p1 p2 p3)).toInt64)) hown (hw _ (List.mem_of_getElem? (i := 21) rfl)) (hw _ (List.mem_of_getElem? (i := 22) rfl)) (hw _ (List.mem_of_getElem? (i := 23) rfl)) (hw _ (List.mem_of_getElem? (i := 24) rfl)) (by decide) pd_3 e4 (by rw [hml]; rfl) rfl rfl rfl (hb hby at_100) (pc' := 103) rfl 0 (Nat.le_of_eq rfl) (by decide) (by decide) rfl rfl (by decide) (by decide) ?_
    intro T5 X5 e5
    show Dn p e below _ (T5.setTop (mkF m 103 #[.val (.int p1), .val (.int p2), .val (.int p3), .val (.int (g0_1 p1 p2 p3)), .val (.int (g0_2 p1 p2 p3)), .val (.int (g0_3 p1 p2 p3)), .val (.ref b1), .val (.int (Fof (g0_3 p1 p2 p3) ((g0_1 p1 p2 p3) % (g0_2 p1 p2 p3)) ((g0_1 p1 p2 p3) / (g0_2 p1 p2 p3)))), .val (.long (((g0_1 p1 p2 p3) / (g0_2 p1 p2 p3)).toInt64)), .second, .val (.long (((g0_1 p1 p2 p3) % (g0_2 p1 p2 p3)).toInt64)), .second, .val (.long (F4 ((Fof (g0_3 p1 p2 p3) ((g0_1 p1 p2 p3) % (g0_2 p1 p2 p3)) ((g0_1 p1 p2 p3) / (g0_2 p1 p2 p3))).toInt64) (((g0_1 p1 p2 p3) / (g0_2 p1 p2 p3)).toInt64) (((g0_1 p1 p2 p3) % (g0_2 p1 p2 p3)).toInt64))), .second, .unset, .unset] [(.long (F4 (((Fof (g0_3 p1 p2 p3) ((g0_1 p1 p2 p3) % (g0_2 p1 p2 p3)) ((g0_1 p1 p2 p3) / (g0_2 p1 p2 p3))).toInt64) + (1 : Int64)) (((g0_1 p1 p2 p3) / (g0_2 p1 p2 p3)).toInt64) (((g0_1 p1 p2 p3) % (g0_2 p1 p2 p3)).toInt64)))]))
    refine o_lstore X5 hx (pc' := 105) (Ls' := #[.val (.int p1), .val (.int p2), .val (.int p3), .val (.int (g0_1 p1 p2 p3)), .val (.int (g0_2 p1 p2 p3)), .val (.int (g0_3 p1 p2 p3)), .val (.ref b1), .val (.int (Fof (g0_3 p1 p2 p3) ((g0_1 p1 p2 p3) % (g0_2 p1 p2 p3)) ((g0_1 p1 p2 p3) / (g0_2 p1 p2 p3)))), .val (.long (((g0_1 p1 p2 p3) / (g0_2 p1 p2 p3)).toInt64)), .second, .val (.long (((g0_1 p1 p2 p3) % (g0_2 p1 p2 p3)).toInt64)), .second, .val (.long (F4 ((Fof (g0_3 p1 p2 p3) ((g0_1 p1 p2 p3) % (g0_2 p1 p2 p3)) ((g0_1 p1 p2 p3) / (g0_2 p1 p2 p3))).toInt64) (((g0_1 p1 p2 p3) / (g0_2 p1 p2 p3)).toInt64) (((g0_1 p1 p2 p3) % (g0_2 p1 p2 p3)).toInt64))), .second, .val (.long (F4 (((Fof (g0_3 p1 p2 p3) ((g0_1 p1 p2 p3) % (g0_2 p1 p2 p3)) ((g0_1 p1 p2 p3) / (g0_2 p1 p2 p3))).toInt64) + (1 : Int64)) (((g0_1 p1 p2 p3) / (g0_2 p1 p2 p3)).toInt64) (((g0_1 p1 p2 p3) % (g0_2 p1 p2 p3)).toInt64))), .second]) (hb hby at_103) rfl rfl ?_
    refine o_lload X5 hx (pc' := 107) (hb hby at_105) rfl rfl ?_
    refine o_iload X5 hx (pc' := 109) (hb hby at_107) rfl rfl ?_
    refine o_i2l X5 hx (pc' := 110) (hb hby at_109) rfl ?_
    refine o_lcmp X5 hx (pc' := 111) (hb hby at_110) rfl ?_
    refine o_lif_gt X5 hx (pc' := 114) (pt := 127) (hb hby at_111) rfl (by decide) (by decide) (fun q => absurd q q5) (fun _ => ?_)
    refine o_iload X5 hx (pc' := 116) (hb hby at_114) rfl rfl ?_
    refine o_i2l X5 hx (pc' := 117) (hb hby at_116) rfl ?_
    refine o_lload X5 hx (pc' := 119) (hb hby at_117) rfl rfl ?_
    refine o_lcmp X5 hx (pc' := 120) (hb hby at_119) rfl ?_
    refine o_lif_ge X5 hx (pc' := 123) (pt := 127) (hb hby at_120) rfl (by decide) (by decide) (fun q => absurd q6 q) (fun _ => ?_)
    refine o_iconst X5 hx (pc' := 124) (v := (1 : Int32)) (hb hby at_123) rfl rfl ?_
    refine o_goto X5 hx (pc' := 128) (hb hby at_124) (by decide) (by decide) ?_
    exact finN X5 hx hlk (t := .boolean) hret (by simp) (hb hby at_128) (by decide) (by decide) ⟨rfl, NN⟩
  · skip
    refine o_iconst X0 hx (pc' := 21) (v := (1 : Int32)) (hb hby at_20) rfl rfl ?_
    exact finN X0 hx hlk (t := .boolean) hret (by simp) (hb hby at_21) (by decide) (by decide) ⟨rfl, NN⟩
set_option maxRecDepth 65536 in
set_option maxHeartbeats 40000000 in
theorem comes_1 {Post : Tables → Env → Array Value → State → Outcome → State → Prop} (hpost : ∀ tb e args s v u, (limb_1_1.after args s (.returned v) u = true ∧ limb_1_2.after args s (.returned v) u = true ∧ True) → FrameEnd s (.returned v) u (Jvm.fieldLocs frame_1_writes args s ++ Jvm.arrayLocs frame_1_arrays args s ++ Jvm.staticLocs frame_1_statics s) 16 128 → Post tb e args s (.returned v) u) :
    ArmFor flags0 classFile x code maxLocals ret World_1 tables_1 room_1 Calls_1 rest_1 Pre_1 Post := by
  intro l hfl _ _ p e ha hc hk s m args below hf hA hF happ hP
  obtain ⟨hcalls, hrest, hpre⟩ := hP
  obtain ⟨-, -, -, hnamed, -, -, -, hat⟩ := (Spec.applies_iff hf).mp happ
  obtain ⟨hg, hn⟩ := and_e (Cond.before_iff.mp (show (Jvm.Cond.and given_1 narrow_1).before args s = true from hpre))
  obtain ⟨g0, r0⟩ := and_e hg
  obtain ⟨g1, r1⟩ := and_e r0
  obtain ⟨g2, r2⟩ := and_e r1
  have g3 := r2
  obtain ⟨w0, w1, w2, rfl⟩ : ∃ w0 w1 w2 : Value, args = #[w0, w1, w2] := by
    have hs : args.size = 3 := by simpa [Cond.value, given_1] using g0
    obtain ⟨L⟩ := args
    match L, hs with
    | [w0, w1, w2], _ => exact ⟨w0, w1, w2, rfl⟩
  have hw := fun d (hd : d ∈ tables_1) => atoms_spec (ws := Jvm.Cond.code x code maxLocals ret :: tables_1) hat d (List.mem_cons_of_mem _ hd)
  have hfit : Fit s := fun {y c} hc i hi => by
    obtain ⟨ha, rfl⟩ := Array.getElem?_eq_some_iff.mp hc
    have q := List.all_eq_true.mp ((Array.all_eq_true_iff_forall_mem.mp hF) _ (Array.getElem_mem ha)) i (List.mem_range.mpr hi)
    simpa [Array.getElem?_eq_getElem hi] using q
  obtain ⟨i0, ei0⟩ := is_v g1
  obtain rfl : w0 = (.int i0) := Option.some.inj ei0
  obtain ⟨i1, ei1⟩ := is_v g2
  obtain rfl : w1 = (.int i1) := Option.some.inj ei1
  obtain ⟨i2, ei2⟩ := is_v g3
  obtain rfl : w2 = (.int i2) := Option.some.inj ei2
  obtain ⟨n, o, h1, h2, h3, v, L, rfl, hQ, hq⟩ := rm0 l s _ hw tables_1 s.heap s.heap.size (Nat.le_refl _) i0 i1 i2 p e ha hc hk s m _ below hf ((Spec.applies_iff_loose hf).mp happ).1 ⟨rfl, State.Warmed39.refl s, rfl⟩ trivial
  obtain ⟨rfl, N⟩ := hQ
  refine ⟨n, _, h1, h2, h3, hpost _ _ _ _ _ _ ⟨Cond.after_iff.mpr rfl, Cond.after_iff.mpr (eq_i res_at (Term.int_eval (1)) rfl), trivial⟩ ⟨hq.1, hq.2.1, (hq.2.2.sift fun y hy => Or.inr (N y hy)).mono (by decide) (by decide)⟩⟩
theorem main_1_1 : Claimed_1_1 := comes_1 fun _ _ _ _ _ _ h hF => ⟨h.1, hF⟩
theorem main_1_2 : Claimed_1_2 := comes_1 fun _ _ _ _ _ _ h hF => ⟨h.2.1, hF⟩
end Jvm.Pilot.@@N@@
namespace Jvm.Pilot.@@N@@
open Jvm Jvm.ClassFile Sem Op Lib Jvm.Free Jvm.Stand Jvm.Pilot.@@N@@.Jvm.D
/-! MADE BY PROGRAM (witnessworld.py) out of the Statement's table words and the real class files: 10 classes; the members and pool entries that the words name. The judged class is class 1, her method 2. -/
namespace start1
open Jvm.ClassFile
def u (s : String) : CpInfo := .utf8 (stringToUtf16 s)
/-- a pool by its gaps: so many unusable entries, then the entry; so many at the end -/
def gap : Nat → List CpInfo → List CpInfo
  | 0, r => r
  | n + 1, r => .unusable :: gap n r
def poolList (es : List (Nat × CpInfo)) (last : Nat) : List CpInfo := es.foldr (fun e r => gap e.1 (e.2 :: r)) (gap last [])
def pool (es : List (Nat × CpInfo)) (last : Nat) : Array CpInfo := ⟨poolList es last⟩
def fileOf (pool : Array CpInfo) (this : Nat) (attrs : Array Attribute := #[]) (ms : Array MethodInfo := #[]) (fl : Nat := 33) (sup : Nat := 0) (ifs : Array Nat := #[]) (fds : Array FieldInfo := #[]) : ClassFile where
  minorVersion := 0
  majorVersion := 65
  constantPool := pool
  accessFlags := fl
  thisClass := this
  superClass := sup
  interfaces := ifs
  fields := fds
  methods := ms
  attributes := attrs
def plain (name : String) (sup : Option ClassId) : Class where
  name := name
  kind := .ordinary
  loader := none
  accessFlags := 33
  super := sup
  interfaces := #[]
  cf := none
  fields := #[]
  methods := #[]
  instanceTypes := #[]
  staticTypes := #[]
  resolved := #[]
  callSites := []
  init := .initialized
  statics := none
  mirror := none

def pool0 : Array CpInfo := pool [(5, u "<init>"), (0, u "()V"), (1, .class_ 10), (1, u "java/lang/Object")] 113

def k0c0 : Code := { maxStack := 0, maxLocals := 1, code := object_method_1_code, exceptionTable := #[], attributes := #[] }
def k0m0 : Method := { name := "<init>", desc := "()V", sig := { parameters := [], returnType := none }, accessFlags := 1, code := some k0c0 }
/-- java/lang/Object -/
def k0 : Class := { plain "java/lang/Object" none with
  accessFlags := 33
  interfaces := #[]
  cf := some (fileOf pool0 8 #[] #[{ accessFlags := 1, nameIndex := 5, descriptorIndex := 6, attributes := #[] }] 33 0 #[] #[])
  fields := #[]
  methods := #[k0m0]
  instanceTypes := #[]
  staticTypes := #[]
  resolved := Array.replicate 124 none
  statics := none }

def pool1 : Array CpInfo := pool [(2, .class_ 4), (1, u "java/lang/Object"), (0, u "<init>"), (0, u "()V"), (0, .methodref 8 9), (0, .class_ 10), (0, .nameAndType 11 12), (0, u "java/lang/Math"), (0, u "min"), (0, u "(JJ)J"), (0, .integer 2147483647), (0, .class_ 15), (0, u "com/example/bellwether/bellwether/cluster/Partitions"), (0, .methodref 14 17), (0, .nameAndType 5 18), (0, u "(II)V"), (0, .methodref 14 20), (0, .nameAndType 21 22), (0, u "of"), (0, u "(I)I"), (0, .methodref 24 25), (0, .class_ 26), (0, .nameAndType 27 28), (0, u "com/example/bellwether/bellwether/cluster/PartitionsOfPinLaw"), (0, u "lo"), (0, u "(JJJ)J"), (2, u "law"), (0, u "(III)Z")] 3

def k1m0 : Method := { name := "<init>", desc := "()V", sig := { parameters := [], returnType := none }, accessFlags := 1, code := none }
def k1c1 : Code := { maxStack := 6, maxLocals := 6, code := method_2_code, exceptionTable := #[], attributes := #[] }
def k1m1 : Method := { name := "lo", desc := "(JJJ)J", sig := { parameters := [.long, .long, .long], returnType := some .long }, accessFlags := 10, code := some k1c1 }
def k1c2 : Code := { maxStack := 6, maxLocals := 16, code := code, exceptionTable := #[], attributes := #[] }
def k1m2 : Method := { name := "law", desc := "(III)Z", sig := { parameters := [.int, .int, .int], returnType := some .boolean }, accessFlags := 9, code := some k1c2 }
/-- com/example/bellwether/bellwether/cluster/PartitionsOfPinLaw -/
def k1 : Class := { plain "com/example/bellwether/bellwether/cluster/PartitionsOfPinLaw" (some 0) with
  accessFlags := 49
  interfaces := #[]
  cf := some (fileOf pool1 24 #[] #[{ accessFlags := 1, nameIndex := 5, descriptorIndex := 6, attributes := #[] }, { accessFlags := 10, nameIndex := 27, descriptorIndex := 28, attributes := #[] }, { accessFlags := 9, nameIndex := 31, descriptorIndex := 32, attributes := #[] }] 49 2 #[] #[])
  fields := #[]
  methods := #[k1m0, k1m1, k1m2]
  instanceTypes := #[]
  staticTypes := #[]
  resolved := Array.replicate 36 none
  statics := none }

def pool2 : Array CpInfo := pool [(1, .methodref 2 3), (0, .class_ 4), (0, .nameAndType 5 6), (0, u "java/lang/Object"), (0, u "<init>"), (0, u "()V"), (11, .fieldref 19 20), (0, .class_ 21), (0, .nameAndType 22 23), (0, u "com/example/bellwether/bellwether/cluster/Partitions"), (0, u "count"), (0, u "I"), (0, .fieldref 19 25), (0, .nameAndType 26 23), (0, u "size"), (0, .fieldref 19 28), (0, .nameAndType 29 23), (0, u "extra"), (9, u "(I)I"), (0, u "(II)V"), (5, u "of")] 18

def k2c0 : Code := { maxStack := 3, maxLocals := 3, code := prog_69_method_1_code, exceptionTable := #[], attributes := #[] }
def k2m0 : Method := { name := "<init>", desc := "(II)V", sig := { parameters := [.int, .int], returnType := none }, accessFlags := 1, code := some k2c0 }
def k2c1 : Code := { maxStack := 6, maxLocals := 4, code := prog_69_method_4_code, exceptionTable := #[], attributes := #[] }
def k2m1 : Method := { name := "of", desc := "(I)I", sig := { parameters := [.int], returnType := some .int }, accessFlags := 1, code := some k2c1 }
/-- com/example/bellwether/bellwether/cluster/Partitions -/
def k2 : Class := { plain "com/example/bellwether/bellwether/cluster/Partitions" (some 0) with
  accessFlags := 49
  interfaces := #[]
  cf := some (fileOf pool2 19 #[] #[{ accessFlags := 1, nameIndex := 5, descriptorIndex := 40, attributes := #[] }, { accessFlags := 1, nameIndex := 46, descriptorIndex := 39, attributes := #[] }] 49 2 #[] #[{ accessFlags := 18, nameIndex := 22, descriptorIndex := 23, attributes := #[] }, { accessFlags := 18, nameIndex := 26, descriptorIndex := 23, attributes := #[] }, { accessFlags := 18, nameIndex := 29, descriptorIndex := 23, attributes := #[] }])
  fields := #[{ name := "count", type := .int, accessFlags := 18, slot := 0, constantValue := 0 }, { name := "size", type := .int, accessFlags := 18, slot := 1, constantValue := 0 }, { name := "extra", type := .int, accessFlags := 18, slot := 2, constantValue := 0 }]
  methods := #[k2m0, k2m1]
  instanceTypes := #[.int, .int, .int]
  staticTypes := #[]
  resolved := Array.replicate 65 none
  statics := none }

def pool3 : Array CpInfo := pool [(1, .class_ 2), (0, u "java/lang/Math"), (1, .class_ 6), (1, u "java/lang/Object"), (0, u "<init>"), (0, u "()V"), (89, .class_ 100), (1, u "java/lang/Math$RandomNumberGeneratorHolder"), (20, u "(JJ)J"), (50, u "negativeZeroFloatBits"), (0, u "J"), (2, u "negativeZeroDoubleBits"), (24, u "min"), (43, u "$assertionsDisabled"), (0, u "Z"), (91, u "twoToTheDoubleScaleDown"), (0, u "D"), (4, u "twoToTheDoubleScaleUp"), (9, u "E"), (3, u "PI"), (2, u "TAU"), (2, u "DEGREES_TO_RADIANS"), (0, u "RADIANS_TO_DEGREES")] 94

def k3m0 : Method := { name := "<init>", desc := "()V", sig := { parameters := [], returnType := none }, accessFlags := 2, code := none }
def k3c1 : Code := { maxStack := 4, maxLocals := 4, code := jdk_29_method_70_code, exceptionTable := #[], attributes := #[] }
def k3m1 : Method := { name := "min", desc := "(JJ)J", sig := { parameters := [.long, .long], returnType := some .long }, accessFlags := 9, code := some k3c1 }
/-- java/lang/Math -/
def k3 : Class := { plain "java/lang/Math" (some 0) with
  accessFlags := 49
  interfaces := #[]
  cf := some (fileOf pool3 1 #[.nestMembers #[98]] #[{ accessFlags := 2, nameIndex := 7, descriptorIndex := 8, attributes := #[] }, { accessFlags := 9, nameIndex := 201, descriptorIndex := 121, attributes := #[] }] 49 4 #[] #[{ accessFlags := 25, nameIndex := 354, descriptorIndex := 339, attributes := #[] }, { accessFlags := 25, nameIndex := 358, descriptorIndex := 339, attributes := #[] }, { accessFlags := 25, nameIndex := 361, descriptorIndex := 339, attributes := #[] }, { accessFlags := 26, nameIndex := 364, descriptorIndex := 339, attributes := #[] }, { accessFlags := 26, nameIndex := 365, descriptorIndex := 339, attributes := #[] }, { accessFlags := 26, nameIndex := 172, descriptorIndex := 173, attributes := #[] }, { accessFlags := 26, nameIndex := 176, descriptorIndex := 173, attributes := #[] }, { accessFlags := 8, nameIndex := 344, descriptorIndex := 339, attributes := #[] }, { accessFlags := 8, nameIndex := 338, descriptorIndex := 339, attributes := #[] }, { accessFlags := 4120, nameIndex := 245, descriptorIndex := 246, attributes := #[] }])
  fields := #[{ name := "E", type := .double, accessFlags := 25, slot := 0, constantValue := 0 }, { name := "PI", type := .double, accessFlags := 25, slot := 1, constantValue := 0 }, { name := "TAU", type := .double, accessFlags := 25, slot := 2, constantValue := 0 }, { name := "DEGREES_TO_RADIANS", type := .double, accessFlags := 26, slot := 3, constantValue := 0 }, { name := "RADIANS_TO_DEGREES", type := .double, accessFlags := 26, slot := 4, constantValue := 0 }, { name := "negativeZeroFloatBits", type := .long, accessFlags := 26, slot := 5, constantValue := 0 }, { name := "negativeZeroDoubleBits", type := .long, accessFlags := 26, slot := 6, constantValue := 0 }, { name := "twoToTheDoubleScaleUp", type := .double, accessFlags := 8, slot := 7, constantValue := 0 }, { name := "twoToTheDoubleScaleDown", type := .double, accessFlags := 8, slot := 8, constantValue := 0 }, { name := "$assertionsDisabled", type := .boolean, accessFlags := 4120, slot := 9, constantValue := 0 }]
  methods := #[k3m0, k3m1]
  instanceTypes := #[]
  staticTypes := #[.double, .double, .double, .double, .double, .long, .long, .double, .double, .boolean]
  resolved := Array.replicate 460 none
  statics := none }

def pool4 : Array CpInfo := pool [(1, u "java/lang/Cloneable"), (0, .class_ 1), (0, u "java/lang/Object"), (0, .class_ 3)] 3

/-- java/lang/Cloneable -/
def k4 : Class := { plain "java/lang/Cloneable" (some 0) with
  accessFlags := 1537
  interfaces := #[]
  cf := some (fileOf pool4 2 #[] #[] 1537 4 #[] #[])
  fields := #[]
  methods := #[]
  instanceTypes := #[]
  staticTypes := #[]
  resolved := Array.replicate 8 none
  statics := none }

def pool5 : Array CpInfo := pool [(1, u "java/io/Serializable"), (0, .class_ 1), (0, u "java/lang/Object"), (0, .class_ 3)] 3

/-- java/io/Serializable -/
def k5 : Class := { plain "java/io/Serializable" (some 0) with
  accessFlags := 1537
  interfaces := #[]
  cf := some (fileOf pool5 2 #[] #[] 1537 4 #[] #[])
  fields := #[]
  methods := #[]
  instanceTypes := #[]
  staticTypes := #[]
  resolved := Array.replicate 8 none
  statics := none }

/-- the primitive byte -/
def k6 : Class := { plain "byte" none with kind := .primitive 'B', accessFlags := 0x411 }
/-- [B -/
def k7 : Class := { plain "[B" (some 0) with kind := .array 6 .byte, interfaces := #[4, 5], accessFlags := 1041 }

/-- the primitive int -/
def k8 : Class := { plain "int" none with kind := .primitive 'I', accessFlags := 0x411 }
/-- [I -/
def k9 : Class := { plain "[I" (some 0) with kind := .array 8 .int, interfaces := #[4, 5], accessFlags := 1041 }

def heap : Heap := #[]
def classes : Array Class := #[k0, k1, k2, k3, k4, k5, k6, k7, k8, k9]
def interned : List (Array UInt16 × Addr) := []
def slotsUsed : Nat := 0
def theMethod : MethodId := ⟨1, 2⟩
def args0 : Array Value := #[.int 17, .int 4, .int 5]
def aboutOver (below : List Frame) : State where
  vm := { classes := classes, interned := interned.toArray }
  heap := heap
  slotsUsed := slotsUsed
  threads := #[{ frames := .invoking theMethod args0 :: below }]
def below0 : List Frame := [.native { method := ⟨0, 0⟩, args := #[] }]
def about1 : State := aboutOver below0
def p0 : Program := .bare "" "" ""
def e0 : Env := launch0.env 0 0 0
theorem w_frames : about1.frames = Frame.invoking theMethod args0 :: below0 := rfl
set_option maxRecDepth 65536 in
theorem w_args : argsFit about1.vm theMethod args0 = true := by decide +kernel
set_option maxRecDepth 65536 in
theorem w_heap : heapFits about1 = true := by decide +kernel
set_option maxRecDepth 65536 in
theorem w_runnable : about1.curStatus? = some .runnable := by decide +kernel
set_option maxRecDepth 65536 in
theorem w_alone : about1.alone = true := by decide +kernel
set_option maxRecDepth 65536 in
theorem w_named : about1.methodNamed? x = some theMethod := by decide +kernel
set_option maxRecDepth 65536 in
theorem w_hears : about1.hears theMethod below0 = true := by decide +kernel
set_option maxRecDepth 65536 in
theorem w_ripe : about1.ripe theMethod args0 below0 = true := by decide +kernel
theorem w_running : about1.status = .running := rfl
set_option maxRecDepth 65536 in
theorem w_room : about1.hasRoom e0.platform room_1 = true :=
  launch0.hasRoom_least _ room_1 (by decide +kernel) (by decide +kernel) (by decide +kernel) (by decide +kernel) (by decide +kernel) (by decide +kernel)
theorem allAtoms_all (ts : List Jvm.Cond) (a : Array Jvm.Value) (st : Jvm.State) : (allAtoms ts).before a st = ts.all (fun c => c.before a st) := by
  induction ts with
  | nil => rfl
  | cons c t ih =>
    show (Jvm.Cond.and c (allAtoms t)).before a st = _
    rw [Jvm.Cond.before_and, ih, List.all_cons]
def words1 : List Jvm.Cond := Jvm.Cond.code x code maxLocals ret :: tables_1
/-- a 'code' word, met by the world's own term for the bytes: nothing is compared byte by byte -/
theorem code_word {y : MethodName} {bytes : ByteArray} {mx : Nat} {rt : Option FieldType} {a : Array Value} {s : State} {m : MethodId} {meth : Method} {c : Code} (h1 : s.methodNamed? y = some m) (h2 : s.vm.method? m = some meth) (h3 : meth.code = some c) (h4 : c.code = bytes)
    (h5 : (c.maxLocals == mx && c.exceptionTable.isEmpty && decide (c.maxStack ≤ mostOperands) && decide (meth.sig.returnType = rt) && !meth.locks && decide (parseMethodDescriptor y.desc = some meth.sig)) = true) : (Jvm.Cond.code y bytes mx rt).before a s = true := by
  simp only [Bool.and_eq_true, beq_iff_eq, Bool.not_eq_true', decide_eq_true_eq] at h5
  obtain ⟨⟨⟨⟨⟨g1, g2⟩, g3⟩, g4⟩, g5⟩, g6⟩ := h5
  simp [Cond.before, Cond.holds, Cond.value, h1, h2, h3, h4, g1, g2, g3, g4, g5, g6]
def isCode : Jvm.Cond → Bool
  | .code _ _ _ _ => true
  | _ => false
theorem all_split {L : List Jvm.Cond} {P : Jvm.Cond → Bool} (h1 : L.all (fun c => isCode c || P c) = true) (h2 : ∀ c ∈ L.filter isCode, P c = true) : L.all P = true := by
  refine List.all_eq_true.mpr fun c hc => ?_
  have h := List.all_eq_true.mp h1 c hc
  rcases Bool.eq_false_or_eq_true (isCode c) with hi | hi
  · exact h2 c (List.mem_filter.mpr ⟨hc, hi⟩)
  · simpa [hi] using h
set_option maxRecDepth 65536 in
theorem w_c0 : (Jvm.Cond.code x code maxLocals ret).before args0 about1 = true := code_word (m := ⟨1, 2⟩) (meth := k1m2) (c := k1c2) (by decide +kernel) rfl rfl rfl (by decide +kernel)
set_option maxRecDepth 65536 in
theorem w_c1 : (Jvm.Cond.code ({ cls := "com/example/bellwether/bellwether/cluster/Partitions", name := "<init>", desc := "(II)V" } : Jvm.MethodName) prog_69_method_1_code (3 : Nat) (Option.none : Option Jvm.ClassFile.FieldType)).before args0 about1 = true := code_word (m := ⟨2, 0⟩) (meth := k2m0) (c := k2c0) (by decide +kernel) rfl rfl rfl (by decide +kernel)
set_option maxRecDepth 65536 in
theorem w_c2 : (Jvm.Cond.code ({ cls := "java/lang/Object", name := "<init>", desc := "()V" } : Jvm.MethodName) object_method_1_code (1 : Nat) (Option.none : Option Jvm.ClassFile.FieldType)).before args0 about1 = true := code_word (m := ⟨0, 0⟩) (meth := k0m0) (c := k0c0) (by decide +kernel) rfl rfl rfl (by decide +kernel)
set_option maxRecDepth 65536 in
theorem w_c3 : (Jvm.Cond.code ({ cls := "com/example/bellwether/bellwether/cluster/Partitions", name := "of", desc := "(I)I" } : Jvm.MethodName) prog_69_method_4_code (4 : Nat) (Option.some Jvm.ClassFile.FieldType.int)).before args0 about1 = true := code_word (m := ⟨2, 1⟩) (meth := k2m1) (c := k2c1) (by decide +kernel) rfl rfl rfl (by decide +kernel)
set_option maxRecDepth 65536 in
theorem w_c4 : (Jvm.Cond.code ({ cls := "com/example/bellwether/bellwether/cluster/PartitionsOfPinLaw", name := "lo", desc := "(JJJ)J" } : Jvm.MethodName) method_2_code (6 : Nat) (Option.some Jvm.ClassFile.FieldType.long)).before args0 about1 = true := code_word (m := ⟨1, 1⟩) (meth := k1m1) (c := k1c1) (by decide +kernel) rfl rfl rfl (by decide +kernel)
set_option maxRecDepth 65536 in
theorem w_c5 : (Jvm.Cond.code ({ cls := "java/lang/Math", name := "min", desc := "(JJ)J" } : Jvm.MethodName) jdk_29_method_70_code (4 : Nat) (Option.some Jvm.ClassFile.FieldType.long)).before args0 about1 = true := code_word (m := ⟨3, 1⟩) (meth := k3m1) (c := k3c1) (by decide +kernel) rfl rfl rfl (by decide +kernel)
def codes1 : List Jvm.Cond := [Jvm.Cond.code x code maxLocals ret, Jvm.Cond.code ({ cls := "com/example/bellwether/bellwether/cluster/Partitions", name := "<init>", desc := "(II)V" } : Jvm.MethodName) prog_69_method_1_code (3 : Nat) (Option.none : Option Jvm.ClassFile.FieldType), Jvm.Cond.code ({ cls := "java/lang/Object", name := "<init>", desc := "()V" } : Jvm.MethodName) object_method_1_code (1 : Nat) (Option.none : Option Jvm.ClassFile.FieldType), Jvm.Cond.code ({ cls := "com/example/bellwether/bellwether/cluster/Partitions", name := "of", desc := "(I)I" } : Jvm.MethodName) prog_69_method_4_code (4 : Nat) (Option.some Jvm.ClassFile.FieldType.int), Jvm.Cond.code ({ cls := "com/example/bellwether/bellwether/cluster/PartitionsOfPinLaw", name := "lo", desc := "(JJJ)J" } : Jvm.MethodName) method_2_code (6 : Nat) (Option.some Jvm.ClassFile.FieldType.long), Jvm.Cond.code ({ cls := "java/lang/Math", name := "min", desc := "(JJ)J" } : Jvm.MethodName) jdk_29_method_70_code (4 : Nat) (Option.some Jvm.ClassFile.FieldType.long)]
set_option maxRecDepth 65536 in
theorem codes_eq : words1.filter isCode = codes1 := rfl
theorem w_codes : ∀ c ∈ words1.filter isCode, c.before args0 about1 = true := by
  rw [codes_eq]
  intro c hc
  simp only [codes1, List.mem_cons, List.not_mem_nil, or_false] at hc
  rcases hc with rfl | rfl | rfl | rfl | rfl | rfl
  · exact w_c0
  · exact w_c1
  · exact w_c2
  · exact w_c3
  · exact w_c4
  · exact w_c5
set_option maxRecDepth 65536 in
theorem w_t1 : (words1.take 24).all (fun c => isCode c || c.before args0 about1) = true := by decide +kernel
set_option maxRecDepth 65536 in
theorem w_t2 : (words1.drop 24).all (fun c => isCode c || c.before args0 about1) = true := by decide +kernel
theorem w_tables : (allAtoms (Jvm.Cond.code x code maxLocals ret :: tables_1)).before args0 about1 = true := by
  rw [allAtoms_all]
  show words1.all (fun c => c.before args0 about1) = true
  refine all_split ?_ w_codes
  rw [← List.take_append_drop 24 words1, List.all_append, w_t1, w_t2]
  rfl
set_option maxRecDepth 65536 in
theorem w_case : (Jvm.Cond.and given_1 narrow_1).before args0 about1 = true := by decide +kernel
theorem w_applies : (headSpec (Jvm.Cond.code x code maxLocals ret :: tables_1) room_1).applies x e0.platform about1 = true :=
  (Spec.applies_iff w_frames).mpr ⟨w_running, w_runnable, w_alone, w_named, w_hears, w_ripe, w_room, w_tables⟩
theorem atStart : AtStart classFile x code maxLocals ret World_1 tables_1 room_1 Calls_1 rest_1 Pre_1 launch0 p0 e0 about1 theMethod args0 below0 :=
  ⟨lists_1, trivial, launch0.admits_env _ _ _, launch0.least_env, fairChoices_fair.cas, fairChoices_fair.clock, w_frames, w_args, w_heap, w_applies, trivial, trivial, w_case⟩
end start1
theorem witness_1 : WitnessClaimed_1 := ⟨start1.p0, start1.e0, start1.about1, start1.theMethod, start1.args0, start1.below0, start1.atStart⟩
end Jvm.Pilot.@@N@@
