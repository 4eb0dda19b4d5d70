import JvmDerived
import JvmDerived.Pilot.@@N@@Statement
import JvmDerived.Pilot.@@N@@Code
set_option linter.unusedVariables false
set_option linter.unusedSimpArgs false
namespace Jvm.Pilot.@@N@@
open Jvm Jvm.ClassFile Sem Op Lib Jvm.Free Jvm.Stand Jvm.LawKit Jvm.RoadKit Bundle Jvm.Pilot.@@N@@.Jvm.D
section Own
variable {p : Program} {l : Launch} {e : Env} {R : Room} {s : State} {m : MethodId} {args : Array Value} {below : List Frame} {meth : Method} {c : Code} {T : State} {locs : List Loc} {cells slots : Nat} {Z : State} {a0 : Array Value} {h : Heap} {P : State → Outcome → Prop} {pc pc' : Nat} {Ls Ls' : Array Slot} {st : List Value}
/-- from the state A the run comes to an end of which P speaks -/
def Dn (p : Program) (e : Env) (below : List Frame) (P : State → Outcome → Prop) (A : State) : Prop := ∃ s₂ o, Steps p.tables e below A s₂ ∧ P s₂ o
/-- the invocation has ended, returned, and Q holds of what it returned, the heap and the places written -/
def PQ (below : List Frame) (s : State) (Q : Option Value → Heap → List Loc → Prop) (k n : Nat) (s₂ : State) (o : Outcome) : Prop :=
  s₂.status = .running ∧ Ended s₂ below o ∧ ∃ v L, o = .returned v ∧ Q v s₂.heap L ∧ FrameEnd s o s₂ L k n
theorem go {A B : State} (w : ∀ t, Steps p.tables e below B t → Steps p.tables e below A t) (k : Dn p e below P B) : Dn p e below P A := by
  obtain ⟨s₂, o, h1, h2⟩ := k
  exact ⟨s₂, o, w _ h1, h2⟩
theorem goS {A B : State} (w : Steps p.tables e below A B) (k : Dn p e below P B) : Dn p e below P A := by
  obtain ⟨s₂, o, h1, h2⟩ := k
  exact ⟨s₂, o, w.trans h1, h2⟩
/-- a method's contract, at given arguments and a given heap -/
abbrev Ctr (l : Launch) (Z : State) (y : MethodName) (bytes : ByteArray) (maxL : Nat) (ret : Option FieldType) (ws : List Jvm.Cond) (R : Room) (as' : Array Value) (h0 : Heap) (Q : Option Value → Heap → List Loc → Prop) : Prop :=
  MetFree l y (head1 (Jvm.Cond.code y bytes maxL ret :: ws) R) (fun a U => a = as' ∧ Z.Warmed39 U.vm ∧ U.heap = h0) (fun _ _ _ _ _ => True) (fun _ U o U' => ∃ v L, o = .returned v ∧ Q v U'.heap L ∧ FrameEnd U o U' L R.cells R.slots)
theorem ctr_mk {y : MethodName} {bytes : ByteArray} {maxL : Nat} {ret : Option FieldType} {ws : List Jvm.Cond} {as' : Array Value} {h0 : Heap} {Q : Option Value → Heap → List Loc → Prop} {own mn : String} (hpl : plainFor y = true) (ho : y.cls = own) (hmn : y.name = mn)
    (body : ∀ (p : Program) (e : Env) (s : State) (m : MethodId) (below : List Frame) (meth : Method) (c : Code) (T : State), Stand p l e R s m as' below meth c T [] 0 0 → p.tables.exec = Jvm.exec → c.code = bytes → c.maxLocals = maxL → Z.Warmed39 s.vm → s.vm.findClass own = some m.cls → meth.name = mn → meth.sig.returnType = ret → meth.locks = false → T.heap = h0 →
      Dn p e below (PQ below s Q R.cells R.slots) (T.setTop (entryFrame m as' maxL))) : Ctr l Z y bytes maxL ret ws R as' h0 Q := by
  subst ho hmn
  refine MetFree.of_bodySF hpl hisR ?_
  intro p e s m args below meth c s₁ Bd hml hP hK
  obtain ⟨rfl, hZ, hh⟩ := hP
  have e0 : s₁.heap = h0 := by rw [← hh, Bd.state]; rfl
  obtain ⟨s₂, o, h1, h2, h3, h4⟩ := body p e s m below meth c s₁ (Stand.of_body Bd) Bd.exec Bd.bytes hml hZ (findClass_of_methodNamed Bd.named) (name_of_methodNamed Bd.named Bd.method).1 Bd.returns Bd.notSynchronized e0
  exact ⟨s₂, o, h1, h2, h3, h4⟩
theorem o_entry {g : JFrame} {as' : Array Value} {maxL : Nat} (q : entryFrame m as' maxL = g) (k : Dn p e below P (T.setTop g)) : Dn p e below P (T.setTop (entryFrame m as' maxL)) := q ▸ k
theorem fin_of {Q : Option Value → Heap → List Loc → Prop} {k n : Nat} {v : Option Value} {A : State} (X : Stand p l e R s m args below meth c T locs cells slots) (hlk : meth.locks = false) (hv : meth.sig.returnType = none → v = none) (hc : cells ≤ k) (hs : slots ≤ n) (hQ : Q v T.heap locs)
    (w : ∀ fs, (∀ (f : JFrame) (acts : List Action), f.method = m → f.locked = none → f.entered = [] → (doReturn e (T.setTop f) acts v).1 = T.setFrames fs) → Steps p.tables e below A (T.setFrames fs)) : Dn p e below (PQ below s Q k n) A := by
  obtain ⟨fs, hr, hrun, hended, hW, hsame⟩ := X.leave (v := v) hv hlk
  exact ⟨_, _, w fs hr, hrun, hended, _, _, rfl, hQ, ⟨_, rfl⟩, hW, hsame.mono hc hs⟩
theorem finI {Q : Option Value → Heap → List Loc → Prop} {k n : Nat} (X : Stand p l e R s m args below meth c T locs cells slots) (hx : p.tables.exec = Jvm.exec) (hlk : meth.locks = false) {z : Int32} (hret : meth.sig.returnType = some .int) (hd : decode c.code pc = .ok (.ireturn, 1)) (hc : cells ≤ k) (hs : slots ≤ n) (hQ : Q (some (.int z)) T.heap locs) :
    Dn p e below (PQ below s Q k n) (T.setTop (mkF m pc Ls (.int z :: st))) :=
  fin_of X hlk (fun q => by rw [hret] at q; cases q) hc hs hQ (fun fs hr => retOut X hx hret rfl (Or.inl ⟨rfl, Or.inl rfl, _, rfl⟩) hd hr)
theorem finN {Q : Option Value → Heap → List Loc → Prop} {k n : Nat} (X : Stand p l e R s m args below meth c T locs cells slots) (hx : p.tables.exec = Jvm.exec) (hlk : meth.locks = false) {z : Int32} {t : FieldType} (hret : meth.sig.returnType = some t) (ht : t = .boolean ∨ t = .byte ∨ t = .char ∨ t = .short) (hd : decode c.code pc = .ok (.ireturn, 1)) (hc : cells ≤ k) (hs : slots ≤ n) (hQ : Q (some (.int (nar t z))) T.heap locs) :
    Dn p e below (PQ below s Q k n) (T.setTop (mkF m pc Ls (.int z :: st))) :=
  fin_of X hlk (fun q => by rw [hret] at q; cases q) hc hs hQ (fun fs hr => retN X hx hret ht hd hr)
theorem finJ {Q : Option Value → Heap → List Loc → Prop} {k n : Nat} (X : Stand p l e R s m args below meth c T locs cells slots) (hx : p.tables.exec = Jvm.exec) (hlk : meth.locks = false) {z : Int64} (hret : meth.sig.returnType = some .long) (hd : decode c.code pc = .ok (.lreturn, 1)) (hc : cells ≤ k) (hs : slots ≤ n) (hQ : Q (some (.long z)) T.heap locs) :
    Dn p e below (PQ below s Q k n) (T.setTop (mkF m pc Ls (.long z :: st))) :=
  fin_of X hlk (fun q => by rw [hret] at q; cases q) hc hs hQ (fun fs hr => retOut X hx hret rfl (Or.inr (Or.inl ⟨rfl, rfl, _, rfl⟩)) hd hr)
theorem finA {Q : Option Value → Heap → List Loc → Prop} {k n : Nat} (X : Stand p l e R s m args below meth c T locs cells slots) (hx : p.tables.exec = Jvm.exec) (hlk : meth.locks = false) {w : Value} {t : FieldType} (hw : w.isRef = true) (hret : meth.sig.returnType = some t) (ht : t.isReference = true) (hn : narrow t w = w) (hd : decode c.code pc = .ok (.areturn, 1)) (hc : cells ≤ k) (hs : slots ≤ n) (hQ : Q (some w) T.heap locs) :
    Dn p e below (PQ below s Q k n) (T.setTop (mkF m pc Ls (w :: st))) :=
  fin_of X hlk (fun q => by rw [hret] at q; cases q) hc hs hQ (fun fs hr => retOut X hx hret hn (Or.inr (Or.inr (Or.inr (Or.inr ⟨rfl, ht, hw⟩)))) hd hr)
theorem finV {Q : Option Value → Heap → List Loc → Prop} {k n : Nat} (X : Stand p l e R s m args below meth c T locs cells slots) (hx : p.tables.exec = Jvm.exec) (hlk : meth.locks = false) (hret : meth.sig.returnType = none) (hd : decode c.code pc = .ok (.return_, 1)) (hc : cells ≤ k) (hs : slots ≤ n) (hQ : Q none T.heap locs) :
    Dn p e below (PQ below s Q k n) (T.setTop (mkF m pc Ls [])) :=
  fin_of X hlk (fun _ => rfl) hc hs hQ (fun fs hr => X.returnOut hx hret hd hr)
theorem o_iload (X : Stand p l e R s m args below meth c T locs cells slots) (hx : p.tables.exec = Jvm.exec) {k : Nat} {v : Int32} (hd : decode c.code pc = .ok (.iload k, 2)) (hp : pc + 2 = pc') (hl : Ls[k]? = some (.val (.int v))) (K : Dn p e below P (T.setTop (mkF m pc' Ls (.int v :: st)))) : Dn p e below P (T.setTop (mkF m pc Ls st)) := by
  subst hp
  obtain ⟨s₂, o, h1, h2⟩ := K
  exact ⟨s₂, o, XS.iload X.here hx rfl hd hl h1, h2⟩
theorem o_iloadN (X : Stand p l e R s m args below meth c T locs cells slots) (hx : p.tables.exec = Jvm.exec) {k : Fin 4} {v : Int32} (hd : decode c.code pc = .ok (.iload_n k, 1)) (hp : pc + 1 = pc') (hl : Ls[k.val]? = some (.val (.int v))) (K : Dn p e below P (T.setTop (mkF m pc' Ls (.int v :: st)))) : Dn p e below P (T.setTop (mkF m pc Ls st)) := by
  subst hp
  obtain ⟨s₂, o, h1, h2⟩ := K
  exact ⟨s₂, o, XS.iloadN X.here hx rfl hd hl h1, h2⟩
theorem o_istore (X : Stand p l e R s m args below meth c T locs cells slots) (hx : p.tables.exec = Jvm.exec) {k : Nat} {v : Int32} (hd : decode c.code pc = .ok (.istore k, 2)) (hp : pc + 2 = pc') (hl : storeLocals Ls k (.int v) = some Ls') (K : Dn p e below P (T.setTop (mkF m pc' Ls' st))) : Dn p e below P (T.setTop (mkF m pc Ls (.int v :: st))) := by
  subst hp
  obtain ⟨s₂, o, h1, h2⟩ := K
  exact ⟨s₂, o, XS.istore X.here hx rfl hd rfl hl h1, h2⟩
theorem o_istoreN (X : Stand p l e R s m args below meth c T locs cells slots) (hx : p.tables.exec = Jvm.exec) {k : Fin 4} {v : Int32} (hd : decode c.code pc = .ok (.istore_n k, 1)) (hp : pc + 1 = pc') (hl : storeLocals Ls k.val (.int v) = some Ls') (K : Dn p e below P (T.setTop (mkF m pc' Ls' st))) : Dn p e below P (T.setTop (mkF m pc Ls (.int v :: st))) := by
  subst hp
  obtain ⟨s₂, o, h1, h2⟩ := K
  exact ⟨s₂, o, XS.istoreN X.here hx rfl hd rfl hl h1, h2⟩
theorem o_lload (X : Stand p l e R s m args below meth c T locs cells slots) (hx : p.tables.exec = Jvm.exec) {k : Nat} {v : Int64} (hd : decode c.code pc = .ok (.lload k, 2)) (hp : pc + 2 = pc') (hl : Ls[k]? = some (.val (.long v))) (K : Dn p e below P (T.setTop (mkF m pc' Ls (.long v :: st)))) : Dn p e below P (T.setTop (mkF m pc Ls st)) := by
  subst hp
  obtain ⟨s₂, o, h1, h2⟩ := K
  exact ⟨s₂, o, XS.lload X.here hx rfl hd hl h1, h2⟩
theorem o_lloadN (X : Stand p l e R s m args below meth c T locs cells slots) (hx : p.tables.exec = Jvm.exec) {k : Fin 4} {v : Int64} (hd : decode c.code pc = .ok (.lload_n k, 1)) (hp : pc + 1 = pc') (hl : Ls[k.val]? = some (.val (.long v))) (K : Dn p e below P (T.setTop (mkF m pc' Ls (.long v :: st)))) : Dn p e below P (T.setTop (mkF m pc Ls st)) := by
  subst hp
  obtain ⟨s₂, o, h1, h2⟩ := K
  exact ⟨s₂, o, XS.lloadN X.here hx rfl hd hl h1, h2⟩
theorem o_lstore (X : Stand p l e R s m args below meth c T locs cells slots) (hx : p.tables.exec = Jvm.exec) {k : Nat} {v : Int64} (hd : decode c.code pc = .ok (.lstore k, 2)) (hp : pc + 2 = pc') (hl : storeLocals Ls k (.long v) = some Ls') (K : Dn p e below P (T.setTop (mkF m pc' Ls' st))) : Dn p e below P (T.setTop (mkF m pc Ls (.long v :: st))) := by
  subst hp
  obtain ⟨s₂, o, h1, h2⟩ := K
  exact ⟨s₂, o, XS.lstore X.here hx rfl hd rfl hl h1, h2⟩
theorem o_lstoreN (X : Stand p l e R s m args below meth c T locs cells slots) (hx : p.tables.exec = Jvm.exec) {k : Fin 4} {v : Int64} (hd : decode c.code pc = .ok (.lstore_n k, 1)) (hp : pc + 1 = pc') (hl : storeLocals Ls k.val (.long v) = some Ls') (K : Dn p e below P (T.setTop (mkF m pc' Ls' st))) : Dn p e below P (T.setTop (mkF m pc Ls (.long v :: st))) := by
  subst hp
  obtain ⟨s₂, o, h1, h2⟩ := K
  exact ⟨s₂, o, XS.lstoreN X.here hx rfl hd rfl hl h1, h2⟩
theorem o_aload (X : Stand p l e R s m args below meth c T locs cells slots) (hx : p.tables.exec = Jvm.exec) {k : Nat} {v : Value} (hd : decode c.code pc = .ok (.aload k, 2)) (hp : pc + 2 = pc') (hl : Ls[k]? = some (.val v)) (hv : v.isRef = true) (K : Dn p e below P (T.setTop (mkF m pc' Ls (v :: st)))) : Dn p e below P (T.setTop (mkF m pc Ls st)) := by
  subst hp
  obtain ⟨s₂, o, h1, h2⟩ := K
  exact ⟨s₂, o, XS.aload X.here hx rfl hd hl hv h1, h2⟩
theorem o_aloadN (X : Stand p l e R s m args below meth c T locs cells slots) (hx : p.tables.exec = Jvm.exec) {k : Fin 4} {v : Value} (hd : decode c.code pc = .ok (.aload_n k, 1)) (hp : pc + 1 = pc') (hl : Ls[k.val]? = some (.val v)) (hv : v.isRef = true) (K : Dn p e below P (T.setTop (mkF m pc' Ls (v :: st)))) : Dn p e below P (T.setTop (mkF m pc Ls st)) := by
  subst hp
  obtain ⟨s₂, o, h1, h2⟩ := K
  exact ⟨s₂, o, XS.aloadN X.here hx rfl hd hl hv h1, h2⟩
theorem o_astore (X : Stand p l e R s m args below meth c T locs cells slots) (hx : p.tables.exec = Jvm.exec) {k : Nat} {v : Value} (hd : decode c.code pc = .ok (.astore k, 2)) (hp : pc + 2 = pc') (hv : v.isRef = true) (hl : storeLocals Ls k v = some Ls') (K : Dn p e below P (T.setTop (mkF m pc' Ls' st))) : Dn p e below P (T.setTop (mkF m pc Ls (v :: st))) := by
  subst hp
  obtain ⟨s₂, o, h1, h2⟩ := K
  exact ⟨s₂, o, XS.astore X.here hx rfl hd rfl hv hl h1, h2⟩
theorem o_astoreN (X : Stand p l e R s m args below meth c T locs cells slots) (hx : p.tables.exec = Jvm.exec) {k : Fin 4} {v : Value} (hd : decode c.code pc = .ok (.astore_n k, 1)) (hp : pc + 1 = pc') (hv : v.isRef = true) (hl : storeLocals Ls k.val v = some Ls') (K : Dn p e below P (T.setTop (mkF m pc' Ls' st))) : Dn p e below P (T.setTop (mkF m pc Ls (v :: st))) := by
  subst hp
  obtain ⟨s₂, o, h1, h2⟩ := K
  exact ⟨s₂, o, XS.astoreN X.here hx rfl hd rfl hv hl h1, h2⟩
theorem o_iconst (X : Stand p l e R s m args below meth c T locs cells slots) (hx : p.tables.exec = Jvm.exec) {i : Int} {v : Int32} (hd : decode c.code pc = .ok (.iconst i, 1)) (hp : pc + 1 = pc') (hv : Int32.ofInt i = v) (K : Dn p e below P (T.setTop (mkF m pc' Ls (.int v :: st)))) : Dn p e below P (T.setTop (mkF m pc Ls st)) := by
  subst hp hv
  obtain ⟨s₂, o, h1, h2⟩ := K
  exact ⟨s₂, o, XS.iconst X.here hx rfl hd h1, h2⟩
theorem o_bipush (X : Stand p l e R s m args below meth c T locs cells slots) (hx : p.tables.exec = Jvm.exec) {i : Int} {v : Int32} (hd : decode c.code pc = .ok (.bipush i, 2)) (hp : pc + 2 = pc') (hv : (Int8.ofInt i).toInt32 = v) (K : Dn p e below P (T.setTop (mkF m pc' Ls (.int v :: st)))) : Dn p e below P (T.setTop (mkF m pc Ls st)) := by
  subst hp hv
  obtain ⟨s₂, o, h1, h2⟩ := K
  exact ⟨s₂, o, XS.bipush X.here hx rfl hd h1, h2⟩
theorem o_sipush (X : Stand p l e R s m args below meth c T locs cells slots) (hx : p.tables.exec = Jvm.exec) {i : Int} {v : Int32} (hd : decode c.code pc = .ok (.sipush i, 3)) (hp : pc + 3 = pc') (hv : (Int16.ofInt i).toInt32 = v) (K : Dn p e below P (T.setTop (mkF m pc' Ls (.int v :: st)))) : Dn p e below P (T.setTop (mkF m pc Ls st)) := by
  subst hp hv
  obtain ⟨s₂, o, h1, h2⟩ := K
  exact ⟨s₂, o, XS.sipush X.here hx rfl hd h1, h2⟩
theorem o_lconst (X : Stand p l e R s m args below meth c T locs cells slots) (hx : p.tables.exec = Jvm.exec) {k : Fin 2} {v : Int64} (hd : decode c.code pc = .ok (.lconst k, 1)) (hp : pc + 1 = pc') (hv : Int64.ofNat k = v) (K : Dn p e below P (T.setTop (mkF m pc' Ls (.long v :: st)))) : Dn p e below P (T.setTop (mkF m pc Ls st)) := by
  subst hp hv
  obtain ⟨s₂, o, h1, h2⟩ := K
  exact ⟨s₂, o, XS.lconst X.here hx rfl hd h1, h2⟩
theorem o_aconstNull (X : Stand p l e R s m args below meth c T locs cells slots) (hx : p.tables.exec = Jvm.exec)  (hd : decode c.code pc = .ok (.aconst_null, 1)) (hp : pc + 1 = pc')  (K : Dn p e below P (T.setTop (mkF m pc' Ls (.null :: st)))) : Dn p e below P (T.setTop (mkF m pc Ls st)) := by
  subst hp
  obtain ⟨s₂, o, h1, h2⟩ := K
  exact ⟨s₂, o, XS.aconstNull X.here hx rfl hd  h1, h2⟩
theorem o_iadd (X : Stand p l e R s m args below meth c T locs cells slots) (hx : p.tables.exec = Jvm.exec) {x y : Int32} (hd : decode c.code pc = .ok (.iadd, 1)) (hp : pc + 1 = pc')  (K : Dn p e below P (T.setTop (mkF m pc' Ls (.int (x + y) :: st)))) : Dn p e below P (T.setTop (mkF m pc Ls (.int y :: .int x :: st))) := by
  subst hp
  obtain ⟨s₂, o, h1, h2⟩ := K
  exact ⟨s₂, o, XS.iadd X.here hx rfl hd rfl h1, h2⟩
theorem o_isub (X : Stand p l e R s m args below meth c T locs cells slots) (hx : p.tables.exec = Jvm.exec) {x y : Int32} (hd : decode c.code pc = .ok (.isub, 1)) (hp : pc + 1 = pc')  (K : Dn p e below P (T.setTop (mkF m pc' Ls (.int (x - y) :: st)))) : Dn p e below P (T.setTop (mkF m pc Ls (.int y :: .int x :: st))) := by
  subst hp
  obtain ⟨s₂, o, h1, h2⟩ := K
  exact ⟨s₂, o, XS.isub X.here hx rfl hd rfl h1, h2⟩
theorem o_imul (X : Stand p l e R s m args below meth c T locs cells slots) (hx : p.tables.exec = Jvm.exec) {x y : Int32} (hd : decode c.code pc = .ok (.imul, 1)) (hp : pc + 1 = pc')  (K : Dn p e below P (T.setTop (mkF m pc' Ls (.int (x * y) :: st)))) : Dn p e below P (T.setTop (mkF m pc Ls (.int y :: .int x :: st))) := by
  subst hp
  obtain ⟨s₂, o, h1, h2⟩ := K
  exact ⟨s₂, o, XS.imul X.here hx rfl hd rfl h1, h2⟩
theorem o_iand (X : Stand p l e R s m args below meth c T locs cells slots) (hx : p.tables.exec = Jvm.exec) {x y : Int32} (hd : decode c.code pc = .ok (.iand, 1)) (hp : pc + 1 = pc')  (K : Dn p e below P (T.setTop (mkF m pc' Ls (.int (x &&& y) :: st)))) : Dn p e below P (T.setTop (mkF m pc Ls (.int y :: .int x :: st))) := by
  subst hp
  obtain ⟨s₂, o, h1, h2⟩ := K
  exact ⟨s₂, o, XS.iand X.here hx rfl hd rfl h1, h2⟩
theorem o_ior (X : Stand p l e R s m args below meth c T locs cells slots) (hx : p.tables.exec = Jvm.exec) {x y : Int32} (hd : decode c.code pc = .ok (.ior, 1)) (hp : pc + 1 = pc')  (K : Dn p e below P (T.setTop (mkF m pc' Ls (.int (x ||| y) :: st)))) : Dn p e below P (T.setTop (mkF m pc Ls (.int y :: .int x :: st))) := by
  subst hp
  obtain ⟨s₂, o, h1, h2⟩ := K
  exact ⟨s₂, o, XS.ior X.here hx rfl hd rfl h1, h2⟩
theorem o_ixor (X : Stand p l e R s m args below meth c T locs cells slots) (hx : p.tables.exec = Jvm.exec) {x y : Int32} (hd : decode c.code pc = .ok (.ixor, 1)) (hp : pc + 1 = pc')  (K : Dn p e below P (T.setTop (mkF m pc' Ls (.int (x ^^^ y) :: st)))) : Dn p e below P (T.setTop (mkF m pc Ls (.int y :: .int x :: st))) := by
  subst hp
  obtain ⟨s₂, o, h1, h2⟩ := K
  exact ⟨s₂, o, XS.ixor X.here hx rfl hd rfl h1, h2⟩
theorem o_ladd (X : Stand p l e R s m args below meth c T locs cells slots) (hx : p.tables.exec = Jvm.exec) {x y : Int64} (hd : decode c.code pc = .ok (.ladd, 1)) (hp : pc + 1 = pc')  (K : Dn p e below P (T.setTop (mkF m pc' Ls (.long (x + y) :: st)))) : Dn p e below P (T.setTop (mkF m pc Ls (.long y :: .long x :: st))) := by
  subst hp
  obtain ⟨s₂, o, h1, h2⟩ := K
  exact ⟨s₂, o, XS.ladd X.here hx rfl hd rfl h1, h2⟩
theorem o_lsub (X : Stand p l e R s m args below meth c T locs cells slots) (hx : p.tables.exec = Jvm.exec) {x y : Int64} (hd : decode c.code pc = .ok (.lsub, 1)) (hp : pc + 1 = pc')  (K : Dn p e below P (T.setTop (mkF m pc' Ls (.long (x - y) :: st)))) : Dn p e below P (T.setTop (mkF m pc Ls (.long y :: .long x :: st))) := by
  subst hp
  obtain ⟨s₂, o, h1, h2⟩ := K
  exact ⟨s₂, o, XS.lsub X.here hx rfl hd rfl h1, h2⟩
theorem o_lmul (X : Stand p l e R s m args below meth c T locs cells slots) (hx : p.tables.exec = Jvm.exec) {x y : Int64} (hd : decode c.code pc = .ok (.lmul, 1)) (hp : pc + 1 = pc')  (K : Dn p e below P (T.setTop (mkF m pc' Ls (.long (x * y) :: st)))) : Dn p e below P (T.setTop (mkF m pc Ls (.long y :: .long x :: st))) := by
  subst hp
  obtain ⟨s₂, o, h1, h2⟩ := K
  exact ⟨s₂, o, XS.lmul X.here hx rfl hd rfl h1, h2⟩
theorem o_land (X : Stand p l e R s m args below meth c T locs cells slots) (hx : p.tables.exec = Jvm.exec) {x y : Int64} (hd : decode c.code pc = .ok (.land, 1)) (hp : pc + 1 = pc')  (K : Dn p e below P (T.setTop (mkF m pc' Ls (.long (x &&& y) :: st)))) : Dn p e below P (T.setTop (mkF m pc Ls (.long y :: .long x :: st))) := by
  subst hp
  obtain ⟨s₂, o, h1, h2⟩ := K
  exact ⟨s₂, o, XS.land X.here hx rfl hd rfl h1, h2⟩
theorem o_lor (X : Stand p l e R s m args below meth c T locs cells slots) (hx : p.tables.exec = Jvm.exec) {x y : Int64} (hd : decode c.code pc = .ok (.lor, 1)) (hp : pc + 1 = pc')  (K : Dn p e below P (T.setTop (mkF m pc' Ls (.long (x ||| y) :: st)))) : Dn p e below P (T.setTop (mkF m pc Ls (.long y :: .long x :: st))) := by
  subst hp
  obtain ⟨s₂, o, h1, h2⟩ := K
  exact ⟨s₂, o, XS.lor X.here hx rfl hd rfl h1, h2⟩
theorem o_lxor (X : Stand p l e R s m args below meth c T locs cells slots) (hx : p.tables.exec = Jvm.exec) {x y : Int64} (hd : decode c.code pc = .ok (.lxor, 1)) (hp : pc + 1 = pc')  (K : Dn p e below P (T.setTop (mkF m pc' Ls (.long (x ^^^ y) :: st)))) : Dn p e below P (T.setTop (mkF m pc Ls (.long y :: .long x :: st))) := by
  subst hp
  obtain ⟨s₂, o, h1, h2⟩ := K
  exact ⟨s₂, o, XS.lxor X.here hx rfl hd rfl h1, h2⟩
theorem o_ishl (X : Stand p l e R s m args below meth c T locs cells slots) (hx : p.tables.exec = Jvm.exec) {x : Int32} {y : Int32} (hd : decode c.code pc = .ok (.ishl, 1)) (hp : pc + 1 = pc')  (K : Dn p e below P (T.setTop (mkF m pc' Ls (.int (x <<< (y &&& 31)) :: st)))) : Dn p e below P (T.setTop (mkF m pc Ls (.int y :: .int x :: st))) := by
  subst hp
  obtain ⟨s₂, o, h1, h2⟩ := K
  exact ⟨s₂, o, XS.ishl X.here hx rfl hd rfl h1, h2⟩
theorem o_ishr (X : Stand p l e R s m args below meth c T locs cells slots) (hx : p.tables.exec = Jvm.exec) {x : Int32} {y : Int32} (hd : decode c.code pc = .ok (.ishr, 1)) (hp : pc + 1 = pc')  (K : Dn p e below P (T.setTop (mkF m pc' Ls (.int (x >>> (y &&& 31)) :: st)))) : Dn p e below P (T.setTop (mkF m pc Ls (.int y :: .int x :: st))) := by
  subst hp
  obtain ⟨s₂, o, h1, h2⟩ := K
  exact ⟨s₂, o, XS.ishr X.here hx rfl hd rfl h1, h2⟩
theorem o_iushr (X : Stand p l e R s m args below meth c T locs cells slots) (hx : p.tables.exec = Jvm.exec) {x : Int32} {y : Int32} (hd : decode c.code pc = .ok (.iushr, 1)) (hp : pc + 1 = pc')  (K : Dn p e below P (T.setTop (mkF m pc' Ls (.int ((x.toUInt32 >>> (y &&& 31).toUInt32).toInt32) :: st)))) : Dn p e below P (T.setTop (mkF m pc Ls (.int y :: .int x :: st))) := by
  subst hp
  obtain ⟨s₂, o, h1, h2⟩ := K
  exact ⟨s₂, o, XS.iushr X.here hx rfl hd rfl h1, h2⟩
theorem o_lshl (X : Stand p l e R s m args below meth c T locs cells slots) (hx : p.tables.exec = Jvm.exec) {x : Int64} {y : Int32} (hd : decode c.code pc = .ok (.lshl, 1)) (hp : pc + 1 = pc')  (K : Dn p e below P (T.setTop (mkF m pc' Ls (.long (x <<< (y &&& 0x3f).toInt64) :: st)))) : Dn p e below P (T.setTop (mkF m pc Ls (.int y :: .long x :: st))) := by
  subst hp
  obtain ⟨s₂, o, h1, h2⟩ := K
  exact ⟨s₂, o, XS.lshl X.here hx rfl hd rfl h1, h2⟩
theorem o_lshr (X : Stand p l e R s m args below meth c T locs cells slots) (hx : p.tables.exec = Jvm.exec) {x : Int64} {y : Int32} (hd : decode c.code pc = .ok (.lshr, 1)) (hp : pc + 1 = pc')  (K : Dn p e below P (T.setTop (mkF m pc' Ls (.long (x >>> (y &&& 0x3f).toInt64) :: st)))) : Dn p e below P (T.setTop (mkF m pc Ls (.int y :: .long x :: st))) := by
  subst hp
  obtain ⟨s₂, o, h1, h2⟩ := K
  exact ⟨s₂, o, XS.lshr X.here hx rfl hd rfl h1, h2⟩
theorem o_lushr (X : Stand p l e R s m args below meth c T locs cells slots) (hx : p.tables.exec = Jvm.exec) {x : Int64} {y : Int32} (hd : decode c.code pc = .ok (.lushr, 1)) (hp : pc + 1 = pc')  (K : Dn p e below P (T.setTop (mkF m pc' Ls (.long ((x.toUInt64 >>> (y &&& 0x3f).toInt64.toUInt64).toInt64) :: st)))) : Dn p e below P (T.setTop (mkF m pc Ls (.int y :: .long x :: st))) := by
  subst hp
  obtain ⟨s₂, o, h1, h2⟩ := K
  exact ⟨s₂, o, XS.lushr X.here hx rfl hd rfl h1, h2⟩
theorem o_ineg (X : Stand p l e R s m args below meth c T locs cells slots) (hx : p.tables.exec = Jvm.exec) {x : Int32} (hd : decode c.code pc = .ok (.ineg, 1)) (hp : pc + 1 = pc')  (K : Dn p e below P (T.setTop (mkF m pc' Ls (.int (-x) :: st)))) : Dn p e below P (T.setTop (mkF m pc Ls (.int x :: st))) := by
  subst hp
  obtain ⟨s₂, o, h1, h2⟩ := K
  exact ⟨s₂, o, XS.ineg X.here hx rfl hd rfl h1, h2⟩
theorem o_lneg (X : Stand p l e R s m args below meth c T locs cells slots) (hx : p.tables.exec = Jvm.exec) {x : Int64} (hd : decode c.code pc = .ok (.lneg, 1)) (hp : pc + 1 = pc')  (K : Dn p e below P (T.setTop (mkF m pc' Ls (.long (-x) :: st)))) : Dn p e below P (T.setTop (mkF m pc Ls (.long x :: st))) := by
  subst hp
  obtain ⟨s₂, o, h1, h2⟩ := K
  exact ⟨s₂, o, XS.lneg X.here hx rfl hd rfl h1, h2⟩
theorem o_i2l (X : Stand p l e R s m args below meth c T locs cells slots) (hx : p.tables.exec = Jvm.exec) {x : Int32} (hd : decode c.code pc = .ok (.i2l, 1)) (hp : pc + 1 = pc')  (K : Dn p e below P (T.setTop (mkF m pc' Ls (.long (x.toInt64) :: st)))) : Dn p e below P (T.setTop (mkF m pc Ls (.int x :: st))) := by
  subst hp
  obtain ⟨s₂, o, h1, h2⟩ := K
  exact ⟨s₂, o, XS.i2l X.here hx rfl hd rfl h1, h2⟩
theorem o_l2i (X : Stand p l e R s m args below meth c T locs cells slots) (hx : p.tables.exec = Jvm.exec) {x : Int64} (hd : decode c.code pc = .ok (.l2i, 1)) (hp : pc + 1 = pc')  (K : Dn p e below P (T.setTop (mkF m pc' Ls (.int (x.toInt32) :: st)))) : Dn p e below P (T.setTop (mkF m pc Ls (.long x :: st))) := by
  subst hp
  obtain ⟨s₂, o, h1, h2⟩ := K
  exact ⟨s₂, o, XS.l2i X.here hx rfl hd rfl h1, h2⟩
theorem o_i2b (X : Stand p l e R s m args below meth c T locs cells slots) (hx : p.tables.exec = Jvm.exec) {x : Int32} (hd : decode c.code pc = .ok (.i2b, 1)) (hp : pc + 1 = pc')  (K : Dn p e below P (T.setTop (mkF m pc' Ls (.int (x.toInt8.toInt32) :: st)))) : Dn p e below P (T.setTop (mkF m pc Ls (.int x :: st))) := by
  subst hp
  obtain ⟨s₂, o, h1, h2⟩ := K
  exact ⟨s₂, o, XS.i2b X.here hx rfl hd rfl h1, h2⟩
theorem o_i2s (X : Stand p l e R s m args below meth c T locs cells slots) (hx : p.tables.exec = Jvm.exec) {x : Int32} (hd : decode c.code pc = .ok (.i2s, 1)) (hp : pc + 1 = pc')  (K : Dn p e below P (T.setTop (mkF m pc' Ls (.int (x.toInt16.toInt32) :: st)))) : Dn p e below P (T.setTop (mkF m pc Ls (.int x :: st))) := by
  subst hp
  obtain ⟨s₂, o, h1, h2⟩ := K
  exact ⟨s₂, o, XS.i2s X.here hx rfl hd rfl h1, h2⟩
theorem o_i2c (X : Stand p l e R s m args below meth c T locs cells slots) (hx : p.tables.exec = Jvm.exec) {x : Int32} (hd : decode c.code pc = .ok (.i2c, 1)) (hp : pc + 1 = pc')  (K : Dn p e below P (T.setTop (mkF m pc' Ls (.int (x.toUInt32.toUInt16.toUInt32.toInt32) :: st)))) : Dn p e below P (T.setTop (mkF m pc Ls (.int x :: st))) := by
  subst hp
  obtain ⟨s₂, o, h1, h2⟩ := K
  exact ⟨s₂, o, XS.i2c X.here hx rfl hd rfl h1, h2⟩
theorem o_idiv (X : Stand p l e R s m args below meth c T locs cells slots) (hx : p.tables.exec = Jvm.exec) {x y : Int32} (hd : decode c.code pc = .ok (.idiv, 1)) (hp : pc + 1 = pc') (hy : y ≠ 0) (K : Dn p e below P (T.setTop (mkF m pc' Ls (.int (x / y) :: st)))) : Dn p e below P (T.setTop (mkF m pc Ls (.int y :: .int x :: st))) := by
  subst hp
  obtain ⟨s₂, o, h1, h2⟩ := K
  exact ⟨s₂, o, XS.idiv X.here hx rfl hd rfl hy h1, h2⟩
theorem o_ldiv (X : Stand p l e R s m args below meth c T locs cells slots) (hx : p.tables.exec = Jvm.exec) {x y : Int64} (hd : decode c.code pc = .ok (.ldiv, 1)) (hp : pc + 1 = pc') (hy : y ≠ 0) (K : Dn p e below P (T.setTop (mkF m pc' Ls (.long (x / y) :: st)))) : Dn p e below P (T.setTop (mkF m pc Ls (.long y :: .long x :: st))) := by
  subst hp
  obtain ⟨s₂, o, h1, h2⟩ := K
  exact ⟨s₂, o, XS.ldiv X.here hx rfl hd rfl hy h1, h2⟩
theorem o_irem (X : Stand p l e R s m args below meth c T locs cells slots) (hx : p.tables.exec = Jvm.exec) {x y : Int32} (hd : decode c.code pc = .ok (.irem, 1)) (hp : pc + 1 = pc') (hy : y ≠ 0) (K : Dn p e below P (T.setTop (mkF m pc' Ls (.int (x % y) :: st)))) : Dn p e below P (T.setTop (mkF m pc Ls (.int y :: .int x :: st))) := by
  subst hp
  obtain ⟨s₂, o, h1, h2⟩ := K
  exact ⟨s₂, o, iremM X hx rfl hd rfl hy h1, h2⟩
theorem o_lcmp (X : Stand p l e R s m args below meth c T locs cells slots) (hx : p.tables.exec = Jvm.exec) {x y : Int64} (hd : decode c.code pc = .ok (.lcmp, 1)) (hp : pc + 1 = pc')  (K : Dn p e below P (T.setTop (mkF m pc' Ls (.int (lcmpW x y) :: st)))) : Dn p e below P (T.setTop (mkF m pc Ls (.long y :: .long x :: st))) := by
  subst hp
  obtain ⟨s₂, o, h1, h2⟩ := K
  exact ⟨s₂, o, XS.lcmp X.here hx rfl hd rfl h1, h2⟩
theorem o_dup (X : Stand p l e R s m args below meth c T locs cells slots) (hx : p.tables.exec = Jvm.exec) {v : Value} (hd : decode c.code pc = .ok (.dup, 1)) (hp : pc + 1 = pc') (hv : v.category = 1) (K : Dn p e below P (T.setTop (mkF m pc' Ls (v :: v :: st)))) : Dn p e below P (T.setTop (mkF m pc Ls (v :: st))) := by
  subst hp
  obtain ⟨s₂, o, h1, h2⟩ := K
  exact ⟨s₂, o, XS.dup X.here hx rfl hd rfl hv h1, h2⟩
theorem o_pop (X : Stand p l e R s m args below meth c T locs cells slots) (hx : p.tables.exec = Jvm.exec) {v : Value} (hd : decode c.code pc = .ok (.pop, 1)) (hp : pc + 1 = pc') (hv : v.category = 1) (K : Dn p e below P (T.setTop (mkF m pc' Ls st))) : Dn p e below P (T.setTop (mkF m pc Ls (v :: st))) := by
  subst hp
  obtain ⟨s₂, o, h1, h2⟩ := K
  exact ⟨s₂, o, XS.pop X.here hx rfl hd rfl hv h1, h2⟩
theorem o_dupX1 (X : Stand p l e R s m args below meth c T locs cells slots) (hx : p.tables.exec = Jvm.exec) {v w : Value} (hd : decode c.code pc = .ok (.dup_x1, 1)) (hp : pc + 1 = pc') (hv : v.category = 1) (hw : w.category = 1) (K : Dn p e below P (T.setTop (mkF m pc' Ls (v :: w :: v :: st)))) : Dn p e below P (T.setTop (mkF m pc Ls (v :: w :: st))) := by
  subst hp
  obtain ⟨s₂, o, h1, h2⟩ := K
  exact ⟨s₂, o, XS.dupX1 X.here hx rfl hd rfl hv hw h1, h2⟩
theorem o_iinc (X : Stand p l e R s m args below meth c T locs cells slots) (hx : p.tables.exec = Jvm.exec) {k : Nat} {i : Int} {x v : Int32} (hd : decode c.code pc = .ok (.iinc k i, 3)) (hp : pc + 3 = pc') (hv : Int32.ofInt i = v) (hl : Ls[k]? = some (.val (.int x))) (hl' : storeLocals Ls k (.int (x + v)) = some Ls') (K : Dn p e below P (T.setTop (mkF m pc' Ls' st))) : Dn p e below P (T.setTop (mkF m pc Ls st)) := by
  subst hp hv
  obtain ⟨s₂, o, h1, h2⟩ := K
  exact ⟨s₂, o, XS.iinc X.here hx rfl hd hl hl' h1, h2⟩
theorem o_goto (X : Stand p l e R s m args below meth c T locs cells slots) (hx : p.tables.exec = Jvm.exec) {i : Int} (hd : decode c.code pc = .ok (.goto i, 3)) (ho : 0 ≤ (pc : Int) + i) (hp : ((pc : Int) + i).toNat = pc') (K : Dn p e below P (T.setTop (mkF m pc' Ls st))) : Dn p e below P (T.setTop (mkF m pc Ls st)) := by
  obtain ⟨s₂, o, h1, h2⟩ := K
  exact ⟨s₂, o, XS.goto X.here hx rfl (pc0 := pc) rfl hd ho hp h1, h2⟩
theorem o_if_eq (X : Stand p l e R s m args below meth c T locs cells slots) (hx : p.tables.exec = Jvm.exec) {x : Int32} {i : Int} {pt : Nat} (hd : decode c.code pc = .ok (.ifCond .eq i, 3)) (hp : pc + 3 = pc') (ho : 0 ≤ (pc : Int) + i) (ht : ((pc : Int) + i).toNat = pt) (Kt : x = (0 : Int32) → Dn p e below P (T.setTop (mkF m pt Ls st))) (Kf : ¬ (x = (0 : Int32)) → Dn p e below P (T.setTop (mkF m pc' Ls st))) : Dn p e below P (T.setTop (mkF m pc Ls (.int x :: st))) := by
  subst hp
  by_cases hq : x = (0 : Int32)
  · obtain ⟨s₂, o, h1, h2⟩ := Kt hq
    exact ⟨s₂, o, XS.ifYes X.here hx rfl (pc0 := pc) rfl hd rfl ((if0 _ _).trans (teq hq).1) ho ht h1, h2⟩
  · obtain ⟨s₂, o, h1, h2⟩ := Kf hq
    exact ⟨s₂, o, XS.ifNo X.here hx rfl hd rfl ((if0 _ _).trans (feq hq).1) h1, h2⟩
theorem o_icmp_eq (X : Stand p l e R s m args below meth c T locs cells slots) (hx : p.tables.exec = Jvm.exec) {x y : Int32} {i : Int} {pt : Nat} (hd : decode c.code pc = .ok (.if_icmp .eq i, 3)) (hp : pc + 3 = pc') (ho : 0 ≤ (pc : Int) + i) (ht : ((pc : Int) + i).toNat = pt) (Kt : x = y → Dn p e below P (T.setTop (mkF m pt Ls st))) (Kf : ¬ (x = y) → Dn p e below P (T.setTop (mkF m pc' Ls st))) : Dn p e below P (T.setTop (mkF m pc Ls (.int y :: .int x :: st))) := by
  subst hp
  by_cases hq : x = y
  · obtain ⟨s₂, o, h1, h2⟩ := Kt hq
    exact ⟨s₂, o, XS.icmpYes X.here hx rfl (pc0 := pc) rfl hd rfl (teq hq).1 ho ht h1, h2⟩
  · obtain ⟨s₂, o, h1, h2⟩ := Kf hq
    exact ⟨s₂, o, XS.icmpNo X.here hx rfl hd rfl (feq hq).1 h1, h2⟩
theorem o_lif_eq (X : Stand p l e R s m args below meth c T locs cells slots) (hx : p.tables.exec = Jvm.exec) {x y : Int64} {i : Int} {pt : Nat} (hd : decode c.code pc = .ok (.ifCond .eq i, 3)) (hp : pc + 3 = pc') (ho : 0 ≤ (pc : Int) + i) (ht : ((pc : Int) + i).toNat = pt) (Kt : x = y → Dn p e below P (T.setTop (mkF m pt Ls st))) (Kf : ¬ (x = y) → Dn p e below P (T.setTop (mkF m pc' Ls st))) : Dn p e below P (T.setTop (mkF m pc Ls (.int (lcmpW x y) :: st))) := by
  subst hp
  by_cases hq : x = y
  · obtain ⟨s₂, o, h1, h2⟩ := Kt hq
    exact ⟨s₂, o, XS.ifYes X.here hx rfl (pc0 := pc) rfl hd rfl ((if0 _ _).trans (teq ((lw_eq x y).mpr hq)).1) ho ht h1, h2⟩
  · obtain ⟨s₂, o, h1, h2⟩ := Kf hq
    exact ⟨s₂, o, XS.ifNo X.here hx rfl hd rfl ((if0 _ _).trans (feq (fun z => hq ((lw_eq x y).mp z))).1) h1, h2⟩
theorem o_if_ne (X : Stand p l e R s m args below meth c T locs cells slots) (hx : p.tables.exec = Jvm.exec) {x : Int32} {i : Int} {pt : Nat} (hd : decode c.code pc = .ok (.ifCond .ne i, 3)) (hp : pc + 3 = pc') (ho : 0 ≤ (pc : Int) + i) (ht : ((pc : Int) + i).toNat = pt) (Kt : ¬ (x = (0 : Int32)) → Dn p e below P (T.setTop (mkF m pt Ls st))) (Kf : x = (0 : Int32) → Dn p e below P (T.setTop (mkF m pc' Ls st))) : Dn p e below P (T.setTop (mkF m pc Ls (.int x :: st))) := by
  subst hp
  by_cases hq : x = (0 : Int32)
  · obtain ⟨s₂, o, h1, h2⟩ := Kf hq
    exact ⟨s₂, o, XS.ifNo X.here hx rfl hd rfl ((if0 _ _).trans (teq hq).2) h1, h2⟩
  · obtain ⟨s₂, o, h1, h2⟩ := Kt hq
    exact ⟨s₂, o, XS.ifYes X.here hx rfl (pc0 := pc) rfl hd rfl ((if0 _ _).trans (feq hq).2) ho ht h1, h2⟩
theorem o_icmp_ne (X : Stand p l e R s m args below meth c T locs cells slots) (hx : p.tables.exec = Jvm.exec) {x y : Int32} {i : Int} {pt : Nat} (hd : decode c.code pc = .ok (.if_icmp .ne i, 3)) (hp : pc + 3 = pc') (ho : 0 ≤ (pc : Int) + i) (ht : ((pc : Int) + i).toNat = pt) (Kt : ¬ (x = y) → Dn p e below P (T.setTop (mkF m pt Ls st))) (Kf : x = y → Dn p e below P (T.setTop (mkF m pc' Ls st))) : Dn p e below P (T.setTop (mkF m pc Ls (.int y :: .int x :: st))) := by
  subst hp
  by_cases hq : x = y
  · obtain ⟨s₂, o, h1, h2⟩ := Kf hq
    exact ⟨s₂, o, XS.icmpNo X.here hx rfl hd rfl (teq hq).2 h1, h2⟩
  · obtain ⟨s₂, o, h1, h2⟩ := Kt hq
    exact ⟨s₂, o, XS.icmpYes X.here hx rfl (pc0 := pc) rfl hd rfl (feq hq).2 ho ht h1, h2⟩
theorem o_lif_ne (X : Stand p l e R s m args below meth c T locs cells slots) (hx : p.tables.exec = Jvm.exec) {x y : Int64} {i : Int} {pt : Nat} (hd : decode c.code pc = .ok (.ifCond .ne i, 3)) (hp : pc + 3 = pc') (ho : 0 ≤ (pc : Int) + i) (ht : ((pc : Int) + i).toNat = pt) (Kt : ¬ (x = y) → Dn p e below P (T.setTop (mkF m pt Ls st))) (Kf : x = y → Dn p e below P (T.setTop (mkF m pc' Ls st))) : Dn p e below P (T.setTop (mkF m pc Ls (.int (lcmpW x y) :: st))) := by
  subst hp
  by_cases hq : x = y
  · obtain ⟨s₂, o, h1, h2⟩ := Kf hq
    exact ⟨s₂, o, XS.ifNo X.here hx rfl hd rfl ((if0 _ _).trans (teq ((lw_eq x y).mpr hq)).2) h1, h2⟩
  · obtain ⟨s₂, o, h1, h2⟩ := Kt hq
    exact ⟨s₂, o, XS.ifYes X.here hx rfl (pc0 := pc) rfl hd rfl ((if0 _ _).trans (feq (fun z => hq ((lw_eq x y).mp z))).2) ho ht h1, h2⟩
theorem o_if_lt (X : Stand p l e R s m args below meth c T locs cells slots) (hx : p.tables.exec = Jvm.exec) {x : Int32} {i : Int} {pt : Nat} (hd : decode c.code pc = .ok (.ifCond .lt i, 3)) (hp : pc + 3 = pc') (ho : 0 ≤ (pc : Int) + i) (ht : ((pc : Int) + i).toNat = pt) (Kt : x < (0 : Int32) → Dn p e below P (T.setTop (mkF m pt Ls st))) (Kf : ¬ (x < (0 : Int32)) → Dn p e below P (T.setTop (mkF m pc' Ls st))) : Dn p e below P (T.setTop (mkF m pc Ls (.int x :: st))) := by
  subst hp
  by_cases hq : x < (0 : Int32)
  · obtain ⟨s₂, o, h1, h2⟩ := Kt hq
    exact ⟨s₂, o, XS.ifYes X.here hx rfl (pc0 := pc) rfl hd rfl ((if0 _ _).trans (tlt hq).1) ho ht h1, h2⟩
  · obtain ⟨s₂, o, h1, h2⟩ := Kf hq
    exact ⟨s₂, o, XS.ifNo X.here hx rfl hd rfl ((if0 _ _).trans (flt hq).1) h1, h2⟩
theorem o_icmp_lt (X : Stand p l e R s m args below meth c T locs cells slots) (hx : p.tables.exec = Jvm.exec) {x y : Int32} {i : Int} {pt : Nat} (hd : decode c.code pc = .ok (.if_icmp .lt i, 3)) (hp : pc + 3 = pc') (ho : 0 ≤ (pc : Int) + i) (ht : ((pc : Int) + i).toNat = pt) (Kt : x < y → Dn p e below P (T.setTop (mkF m pt Ls st))) (Kf : ¬ (x < y) → Dn p e below P (T.setTop (mkF m pc' Ls st))) : Dn p e below P (T.setTop (mkF m pc Ls (.int y :: .int x :: st))) := by
  subst hp
  by_cases hq : x < y
  · obtain ⟨s₂, o, h1, h2⟩ := Kt hq
    exact ⟨s₂, o, XS.icmpYes X.here hx rfl (pc0 := pc) rfl hd rfl (tlt hq).1 ho ht h1, h2⟩
  · obtain ⟨s₂, o, h1, h2⟩ := Kf hq
    exact ⟨s₂, o, XS.icmpNo X.here hx rfl hd rfl (flt hq).1 h1, h2⟩
theorem o_lif_lt (X : Stand p l e R s m args below meth c T locs cells slots) (hx : p.tables.exec = Jvm.exec) {x y : Int64} {i : Int} {pt : Nat} (hd : decode c.code pc = .ok (.ifCond .lt i, 3)) (hp : pc + 3 = pc') (ho : 0 ≤ (pc : Int) + i) (ht : ((pc : Int) + i).toNat = pt) (Kt : x < y → Dn p e below P (T.setTop (mkF m pt Ls st))) (Kf : ¬ (x < y) → Dn p e below P (T.setTop (mkF m pc' Ls st))) : Dn p e below P (T.setTop (mkF m pc Ls (.int (lcmpW x y) :: st))) := by
  subst hp
  by_cases hq : x < y
  · obtain ⟨s₂, o, h1, h2⟩ := Kt hq
    exact ⟨s₂, o, XS.ifYes X.here hx rfl (pc0 := pc) rfl hd rfl ((if0 _ _).trans (tlt ((lw_lt x y).mpr hq)).1) ho ht h1, h2⟩
  · obtain ⟨s₂, o, h1, h2⟩ := Kf hq
    exact ⟨s₂, o, XS.ifNo X.here hx rfl hd rfl ((if0 _ _).trans (flt (fun z => hq ((lw_lt x y).mp z))).1) h1, h2⟩
theorem o_if_ge (X : Stand p l e R s m args below meth c T locs cells slots) (hx : p.tables.exec = Jvm.exec) {x : Int32} {i : Int} {pt : Nat} (hd : decode c.code pc = .ok (.ifCond .ge i, 3)) (hp : pc + 3 = pc') (ho : 0 ≤ (pc : Int) + i) (ht : ((pc : Int) + i).toNat = pt) (Kt : ¬ (x < (0 : Int32)) → Dn p e below P (T.setTop (mkF m pt Ls st))) (Kf : x < (0 : Int32) → Dn p e below P (T.setTop (mkF m pc' Ls st))) : Dn p e below P (T.setTop (mkF m pc Ls (.int x :: st))) := by
  subst hp
  by_cases hq : x < (0 : Int32)
  · obtain ⟨s₂, o, h1, h2⟩ := Kf hq
    exact ⟨s₂, o, XS.ifNo X.here hx rfl hd rfl ((if0 _ _).trans (tlt hq).2.1) h1, h2⟩
  · obtain ⟨s₂, o, h1, h2⟩ := Kt hq
    exact ⟨s₂, o, XS.ifYes X.here hx rfl (pc0 := pc) rfl hd rfl ((if0 _ _).trans (flt hq).2.1) ho ht h1, h2⟩
theorem o_icmp_ge (X : Stand p l e R s m args below meth c T locs cells slots) (hx : p.tables.exec = Jvm.exec) {x y : Int32} {i : Int} {pt : Nat} (hd : decode c.code pc = .ok (.if_icmp .ge i, 3)) (hp : pc + 3 = pc') (ho : 0 ≤ (pc : Int) + i) (ht : ((pc : Int) + i).toNat = pt) (Kt : ¬ (x < y) → Dn p e below P (T.setTop (mkF m pt Ls st))) (Kf : x < y → Dn p e below P (T.setTop (mkF m pc' Ls st))) : Dn p e below P (T.setTop (mkF m pc Ls (.int y :: .int x :: st))) := by
  subst hp
  by_cases hq : x < y
  · obtain ⟨s₂, o, h1, h2⟩ := Kf hq
    exact ⟨s₂, o, XS.icmpNo X.here hx rfl hd rfl (tlt hq).2.1 h1, h2⟩
  · obtain ⟨s₂, o, h1, h2⟩ := Kt hq
    exact ⟨s₂, o, XS.icmpYes X.here hx rfl (pc0 := pc) rfl hd rfl (flt hq).2.1 ho ht h1, h2⟩
theorem o_lif_ge (X : Stand p l e R s m args below meth c T locs cells slots) (hx : p.tables.exec = Jvm.exec) {x y : Int64} {i : Int} {pt : Nat} (hd : decode c.code pc = .ok (.ifCond .ge i, 3)) (hp : pc + 3 = pc') (ho : 0 ≤ (pc : Int) + i) (ht : ((pc : Int) + i).toNat = pt) (Kt : ¬ (x < y) → Dn p e below P (T.setTop (mkF m pt Ls st))) (Kf : x < y → Dn p e below P (T.setTop (mkF m pc' Ls st))) : Dn p e below P (T.setTop (mkF m pc Ls (.int (lcmpW x y) :: st))) := by
  subst hp
  by_cases hq : x < y
  · obtain ⟨s₂, o, h1, h2⟩ := Kf hq
    exact ⟨s₂, o, XS.ifNo X.here hx rfl hd rfl ((if0 _ _).trans (tlt ((lw_lt x y).mpr hq)).2.1) h1, h2⟩
  · obtain ⟨s₂, o, h1, h2⟩ := Kt hq
    exact ⟨s₂, o, XS.ifYes X.here hx rfl (pc0 := pc) rfl hd rfl ((if0 _ _).trans (flt (fun z => hq ((lw_lt x y).mp z))).2.1) ho ht h1, h2⟩
theorem o_if_gt (X : Stand p l e R s m args below meth c T locs cells slots) (hx : p.tables.exec = Jvm.exec) {x : Int32} {i : Int} {pt : Nat} (hd : decode c.code pc = .ok (.ifCond .gt i, 3)) (hp : pc + 3 = pc') (ho : 0 ≤ (pc : Int) + i) (ht : ((pc : Int) + i).toNat = pt) (Kt : (0 : Int32) < x → Dn p e below P (T.setTop (mkF m pt Ls st))) (Kf : ¬ ((0 : Int32) < x) → Dn p e below P (T.setTop (mkF m pc' Ls st))) : Dn p e below P (T.setTop (mkF m pc Ls (.int x :: st))) := by
  subst hp
  by_cases hq : (0 : Int32) < x
  · obtain ⟨s₂, o, h1, h2⟩ := Kt hq
    exact ⟨s₂, o, XS.ifYes X.here hx rfl (pc0 := pc) rfl hd rfl ((if0 _ _).trans (tlt hq).2.2.1) ho ht h1, h2⟩
  · obtain ⟨s₂, o, h1, h2⟩ := Kf hq
    exact ⟨s₂, o, XS.ifNo X.here hx rfl hd rfl ((if0 _ _).trans (flt hq).2.2.1) h1, h2⟩
theorem o_icmp_gt (X : Stand p l e R s m args below meth c T locs cells slots) (hx : p.tables.exec = Jvm.exec) {x y : Int32} {i : Int} {pt : Nat} (hd : decode c.code pc = .ok (.if_icmp .gt i, 3)) (hp : pc + 3 = pc') (ho : 0 ≤ (pc : Int) + i) (ht : ((pc : Int) + i).toNat = pt) (Kt : y < x → Dn p e below P (T.setTop (mkF m pt Ls st))) (Kf : ¬ (y < x) → Dn p e below P (T.setTop (mkF m pc' Ls st))) : Dn p e below P (T.setTop (mkF m pc Ls (.int y :: .int x :: st))) := by
  subst hp
  by_cases hq : y < x
  · obtain ⟨s₂, o, h1, h2⟩ := Kt hq
    exact ⟨s₂, o, XS.icmpYes X.here hx rfl (pc0 := pc) rfl hd rfl (tlt hq).2.2.1 ho ht h1, h2⟩
  · obtain ⟨s₂, o, h1, h2⟩ := Kf hq
    exact ⟨s₂, o, XS.icmpNo X.here hx rfl hd rfl (flt hq).2.2.1 h1, h2⟩
theorem o_lif_gt (X : Stand p l e R s m args below meth c T locs cells slots) (hx : p.tables.exec = Jvm.exec) {x y : Int64} {i : Int} {pt : Nat} (hd : decode c.code pc = .ok (.ifCond .gt i, 3)) (hp : pc + 3 = pc') (ho : 0 ≤ (pc : Int) + i) (ht : ((pc : Int) + i).toNat = pt) (Kt : y < x → Dn p e below P (T.setTop (mkF m pt Ls st))) (Kf : ¬ (y < x) → Dn p e below P (T.setTop (mkF m pc' Ls st))) : Dn p e below P (T.setTop (mkF m pc Ls (.int (lcmpW x y) :: st))) := by
  subst hp
  by_cases hq : y < x
  · obtain ⟨s₂, o, h1, h2⟩ := Kt hq
    exact ⟨s₂, o, XS.ifYes X.here hx rfl (pc0 := pc) rfl hd rfl ((if0 _ _).trans (tlt ((lw_gt x y).mpr hq)).2.2.1) ho ht h1, h2⟩
  · obtain ⟨s₂, o, h1, h2⟩ := Kf hq
    exact ⟨s₂, o, XS.ifNo X.here hx rfl hd rfl ((if0 _ _).trans (flt (fun z => hq ((lw_gt x y).mp z))).2.2.1) h1, h2⟩
theorem o_if_le (X : Stand p l e R s m args below meth c T locs cells slots) (hx : p.tables.exec = Jvm.exec) {x : Int32} {i : Int} {pt : Nat} (hd : decode c.code pc = .ok (.ifCond .le i, 3)) (hp : pc + 3 = pc') (ho : 0 ≤ (pc : Int) + i) (ht : ((pc : Int) + i).toNat = pt) (Kt : ¬ ((0 : Int32) < x) → Dn p e below P (T.setTop (mkF m pt Ls st))) (Kf : (0 : Int32) < x → Dn p e below P (T.setTop (mkF m pc' Ls st))) : Dn p e below P (T.setTop (mkF m pc Ls (.int x :: st))) := by
  subst hp
  by_cases hq : (0 : Int32) < x
  · obtain ⟨s₂, o, h1, h2⟩ := Kf hq
    exact ⟨s₂, o, XS.ifNo X.here hx rfl hd rfl ((if0 _ _).trans (tlt hq).2.2.2) h1, h2⟩
  · obtain ⟨s₂, o, h1, h2⟩ := Kt hq
    exact ⟨s₂, o, XS.ifYes X.here hx rfl (pc0 := pc) rfl hd rfl ((if0 _ _).trans (flt hq).2.2.2) ho ht h1, h2⟩
theorem o_icmp_le (X : Stand p l e R s m args below meth c T locs cells slots) (hx : p.tables.exec = Jvm.exec) {x y : Int32} {i : Int} {pt : Nat} (hd : decode c.code pc = .ok (.if_icmp .le i, 3)) (hp : pc + 3 = pc') (ho : 0 ≤ (pc : Int) + i) (ht : ((pc : Int) + i).toNat = pt) (Kt : ¬ (y < x) → Dn p e below P (T.setTop (mkF m pt Ls st))) (Kf : y < x → Dn p e below P (T.setTop (mkF m pc' Ls st))) : Dn p e below P (T.setTop (mkF m pc Ls (.int y :: .int x :: st))) := by
  subst hp
  by_cases hq : y < x
  · obtain ⟨s₂, o, h1, h2⟩ := Kf hq
    exact ⟨s₂, o, XS.icmpNo X.here hx rfl hd rfl (tlt hq).2.2.2 h1, h2⟩
  · obtain ⟨s₂, o, h1, h2⟩ := Kt hq
    exact ⟨s₂, o, XS.icmpYes X.here hx rfl (pc0 := pc) rfl hd rfl (flt hq).2.2.2 ho ht h1, h2⟩
theorem o_lif_le (X : Stand p l e R s m args below meth c T locs cells slots) (hx : p.tables.exec = Jvm.exec) {x y : Int64} {i : Int} {pt : Nat} (hd : decode c.code pc = .ok (.ifCond .le i, 3)) (hp : pc + 3 = pc') (ho : 0 ≤ (pc : Int) + i) (ht : ((pc : Int) + i).toNat = pt) (Kt : ¬ (y < x) → Dn p e below P (T.setTop (mkF m pt Ls st))) (Kf : y < x → Dn p e below P (T.setTop (mkF m pc' Ls st))) : Dn p e below P (T.setTop (mkF m pc Ls (.int (lcmpW x y) :: st))) := by
  subst hp
  by_cases hq : y < x
  · obtain ⟨s₂, o, h1, h2⟩ := Kf hq
    exact ⟨s₂, o, XS.ifNo X.here hx rfl hd rfl ((if0 _ _).trans (tlt ((lw_gt x y).mpr hq)).2.2.2) h1, h2⟩
  · obtain ⟨s₂, o, h1, h2⟩ := Kt hq
    exact ⟨s₂, o, XS.ifYes X.here hx rfl (pc0 := pc) rfl hd rfl ((if0 _ _).trans (flt (fun z => hq ((lw_gt x y).mp z))).2.2.2) ho ht h1, h2⟩
theorem o_acmp_eq (X : Stand p l e R s m args below meth c T locs cells slots) (hx : p.tables.exec = Jvm.exec) {x y : Value} {i : Int} {pt : Nat} (hd : decode c.code pc = .ok (.if_acmp .eq i, 3)) (hp : pc + 3 = pc') (ho : 0 ≤ (pc : Int) + i) (ht : ((pc : Int) + i).toNat = pt) (hv : x.isRef = true) (hw : y.isRef = true) (Kt : x = y → Dn p e below P (T.setTop (mkF m pt Ls st))) (Kf : ¬ (x = y) → Dn p e below P (T.setTop (mkF m pc' Ls st))) : Dn p e below P (T.setTop (mkF m pc Ls (y :: x :: st))) := by
  subst hp
  by_cases hq : x = y
  · obtain ⟨s₂, o, h1, h2⟩ := Kt hq
    exact ⟨s₂, o, Jvm.RoadKit.acmp (g := mkF m pc Ls (y :: x :: st)) X hx rfl hv hw (pc0 := pc) (same := true) rfl hd rfl (decide_eq_true hq) ho ht.symm h1, h2⟩
  · obtain ⟨s₂, o, h1, h2⟩ := Kf hq
    exact ⟨s₂, o, Jvm.RoadKit.acmp (g := mkF m pc Ls (y :: x :: st)) X hx rfl hv hw (pc0 := pc) (same := false) rfl hd rfl (decide_eq_false hq) ho rfl h1, h2⟩
theorem o_acmp_ne (X : Stand p l e R s m args below meth c T locs cells slots) (hx : p.tables.exec = Jvm.exec) {x y : Value} {i : Int} {pt : Nat} (hd : decode c.code pc = .ok (.if_acmp .ne i, 3)) (hp : pc + 3 = pc') (ho : 0 ≤ (pc : Int) + i) (ht : ((pc : Int) + i).toNat = pt) (hv : x.isRef = true) (hw : y.isRef = true) (Kt : ¬ (x = y) → Dn p e below P (T.setTop (mkF m pt Ls st))) (Kf : x = y → Dn p e below P (T.setTop (mkF m pc' Ls st))) : Dn p e below P (T.setTop (mkF m pc Ls (y :: x :: st))) := by
  subst hp
  by_cases hq : x = y
  · obtain ⟨s₂, o, h1, h2⟩ := Kf hq
    exact ⟨s₂, o, Jvm.RoadKit.acmp (g := mkF m pc Ls (y :: x :: st)) X hx rfl hv hw (pc0 := pc) (same := true) rfl hd rfl (decide_eq_true hq) ho rfl h1, h2⟩
  · obtain ⟨s₂, o, h1, h2⟩ := Kt hq
    exact ⟨s₂, o, Jvm.RoadKit.acmp (g := mkF m pc Ls (y :: x :: st)) X hx rfl hv hw (pc0 := pc) (same := false) rfl hd rfl (decide_eq_false hq) ho ht.symm h1, h2⟩
theorem o_ifnull_no (X : Stand p l e R s m args below meth c T locs cells slots) (hx : p.tables.exec = Jvm.exec) {b : Addr} {i : Int} (hd : decode c.code pc = .ok (.ifnull i, 3)) (hp : pc + 3 = pc') (K : Dn p e below P (T.setTop (mkF m pc' Ls st))) : Dn p e below P (T.setTop (mkF m pc Ls (.ref b :: st))) := by
  subst hp
  obtain ⟨s₂, o, h1, h2⟩ := K
  exact ⟨s₂, o, XS.ifnullNo X.here hx rfl hd rfl h1, h2⟩
theorem o_ifnull_yes (X : Stand p l e R s m args below meth c T locs cells slots) (hx : p.tables.exec = Jvm.exec) {i : Int} (hd : decode c.code pc = .ok (.ifnull i, 3)) (ho : 0 ≤ (pc : Int) + i) (hp : ((pc : Int) + i).toNat = pc') (K : Dn p e below P (T.setTop (mkF m pc' Ls st))) : Dn p e below P (T.setTop (mkF m pc Ls (.null :: st))) := by
  obtain ⟨s₂, o, h1, h2⟩ := K
  exact ⟨s₂, o, XS.ifnullYes X.here hx rfl (pc0 := pc) rfl hd rfl ho hp h1, h2⟩
theorem o_ifnonnull_yes (X : Stand p l e R s m args below meth c T locs cells slots) (hx : p.tables.exec = Jvm.exec) {b : Addr} {i : Int} (hd : decode c.code pc = .ok (.ifnonnull i, 3)) (ho : 0 ≤ (pc : Int) + i) (hp : ((pc : Int) + i).toNat = pc') (K : Dn p e below P (T.setTop (mkF m pc' Ls st))) : Dn p e below P (T.setTop (mkF m pc Ls (.ref b :: st))) := by
  obtain ⟨s₂, o, h1, h2⟩ := K
  exact ⟨s₂, o, XS.ifnonnullYes X.here hx rfl (pc0 := pc) rfl hd rfl ho hp h1, h2⟩
theorem o_ldc2 (X : Stand p l e R s m args below meth c T locs cells slots) (hx : p.tables.exec = Jvm.exec) (hZ : Z.Warmed39 s.vm) {own : String} {index : Nat} {v : Int64} (hown : s.vm.findClass own = some m.cls) (w : (Jvm.Cond.constantLong own index v).before a0 Z = true) (hd : decode c.code pc = .ok (.ldc2_w index, 3)) (hp : pc + 3 = pc') (K : Dn p e below P (T.setTop (mkF m pc' Ls (.long v :: st)))) : Dn p e below P (T.setTop (mkF m pc Ls st)) := by
  subst hp
  exact go (X.ldc2Long hx hown (mvT hZ w) (g := mkF m pc Ls st) rfl hd) K
theorem o_ldc (X : Stand p l e R s m args below meth c T locs cells slots) (hx : p.tables.exec = Jvm.exec) (hZ : Z.Warmed39 s.vm) {own : String} {index : Nat} {v : Int32} (hown : s.vm.findClass own = some m.cls) (w : (Jvm.Cond.constant own index v).before a0 Z = true) (hd : decode c.code pc = .ok (.ldc index, 2)) (hp : pc + 2 = pc') (K : Dn p e below P (T.setTop (mkF m pc' Ls (.int v :: st)))) : Dn p e below P (T.setTop (mkF m pc Ls st)) := by
  subst hp
  exact go (X.ldcInt hx hown (mvT hZ w) (g := mkF m pc Ls st) rfl hd) K
theorem o_ldcw (X : Stand p l e R s m args below meth c T locs cells slots) (hx : p.tables.exec = Jvm.exec) (hZ : Z.Warmed39 s.vm) {own : String} {index : Nat} {v : Int32} (hown : s.vm.findClass own = some m.cls) (w : (Jvm.Cond.constant own index v).before a0 Z = true) (hd : decode c.code pc = .ok (.ldc_w index, 3)) (hp : pc + 3 = pc') (K : Dn p e below P (T.setTop (mkF m pc' Ls (.int v :: st)))) : Dn p e below P (T.setTop (mkF m pc Ls st)) := by
  subst hp
  exact go (X.ldcwInt hx hown (mvT hZ w) (g := mkF m pc Ls st) rfl hd) K
theorem o_dup2 (X : Stand p l e R s m args below meth c T locs cells slots) (hx : p.tables.exec = Jvm.exec) {v w : Value} (hd : decode c.code pc = .ok (.dup2, 1)) (hp : pc + 1 = pc') (hv : v.category = 1) (hw : w.category = 1) (K : Dn p e below P (T.setTop (mkF m pc' Ls (v :: w :: v :: w :: st)))) : Dn p e below P (T.setTop (mkF m pc Ls (v :: w :: st))) := by
  subst hp
  obtain ⟨s₂, o, h1, h2⟩ := K
  exact ⟨s₂, o, XT.dup2 X.here hx rfl hd rfl hv hw h1, h2⟩
theorem o_iaload (X : Stand p l e R s m args below meth c T locs cells slots) (hx : p.tables.exec = Jvm.exec) (hZ : Z.Warmed39 s.vm) (eT : T.heap = h) {a : Addr} {k : ClassId} {n j : Int32} {vs : List Value} {d v : Value} (V : Arv Z h a k .int n vs d) (hj : ¬ j < 0 ∧ j < n) (hv : vs.getD j.toNatClampNeg d = v) (hd : decode c.code pc = .ok (.iaload, 1)) (hp : pc + 1 = pc') (K : Dn p e below P (T.setTop (mkF m pc' Ls (v :: st)))) : Dn p e below P (T.setTop (mkF m pc Ls (.int j :: .ref a :: st))) := by
  subst hp
  obtain ⟨cl, A, -, S, N, H, -⟩ := V
  have hin := inb_of S hj
  exact go (X.iaload hx (j := j) (v := v) (by rw [eT]; exact A.1) (State.isArrayOf_alike hZ.alike A.2.1) A.2.2 hin (H.at hin hv) (g := mkF m pc Ls (.int j :: .ref a :: st)) rfl rfl hd) K
theorem o_laload (X : Stand p l e R s m args below meth c T locs cells slots) (hx : p.tables.exec = Jvm.exec) (hZ : Z.Warmed39 s.vm) (eT : T.heap = h) {a : Addr} {k : ClassId} {n j : Int32} {vs : List Value} {d v : Value} (V : Arv Z h a k .long n vs d) (hj : ¬ j < 0 ∧ j < n) (hv : vs.getD j.toNatClampNeg d = v) (hd : decode c.code pc = .ok (.laload, 1)) (hp : pc + 1 = pc') (K : Dn p e below P (T.setTop (mkF m pc' Ls (v :: st)))) : Dn p e below P (T.setTop (mkF m pc Ls (.int j :: .ref a :: st))) := by
  subst hp
  obtain ⟨cl, A, -, S, N, H, -⟩ := V
  have hin := inb_of S hj
  exact go (X.laload hx (j := j) (v := v) (by rw [eT]; exact A.1) (State.isArrayOf_alike hZ.alike A.2.1) A.2.2 hin (H.at hin hv) (g := mkF m pc Ls (.int j :: .ref a :: st)) rfl rfl hd) K
theorem o_caload (X : Stand p l e R s m args below meth c T locs cells slots) (hx : p.tables.exec = Jvm.exec) (hZ : Z.Warmed39 s.vm) (eT : T.heap = h) {a : Addr} {k : ClassId} {n j : Int32} {vs : List Value} {d v : Value} (V : Arv Z h a k .char n vs d) (hj : ¬ j < 0 ∧ j < n) (hv : vs.getD j.toNatClampNeg d = v) (hd : decode c.code pc = .ok (.caload, 1)) (hp : pc + 1 = pc') (K : Dn p e below P (T.setTop (mkF m pc' Ls (v :: st)))) : Dn p e below P (T.setTop (mkF m pc Ls (.int j :: .ref a :: st))) := by
  subst hp
  obtain ⟨cl, A, -, S, N, H, -⟩ := V
  have hin := inb_of S hj
  exact go (X.caload hx (j := j) (v := v) (by rw [eT]; exact A.1) (State.isArrayOf_alike hZ.alike A.2.1) A.2.2 hin (H.at hin hv) (g := mkF m pc Ls (.int j :: .ref a :: st)) rfl rfl hd) K
theorem o_baload (X : Stand p l e R s m args below meth c T locs cells slots) (hx : p.tables.exec = Jvm.exec) (hZ : Z.Warmed39 s.vm) (eT : T.heap = h) {a : Addr} {k : ClassId} {n j : Int32} {vs : List Value} {d v : Value} (V : Arv Z h a k .byte n vs d) (hj : ¬ j < 0 ∧ j < n) (hv : vs.getD j.toNatClampNeg d = v) (hd : decode c.code pc = .ok (.baload, 1)) (hp : pc + 1 = pc') (K : Dn p e below P (T.setTop (mkF m pc' Ls (v :: st)))) : Dn p e below P (T.setTop (mkF m pc Ls (.int j :: .ref a :: st))) := by
  subst hp
  obtain ⟨cl, A, -, S, N, H, -⟩ := V
  have hin := inb_of S hj
  exact go (X.baloadBytes hx (j := j) (v := v) (by rw [eT]; exact A.1) (State.isArrayOf_alike hZ.alike A.2.1) A.2.2 hin (H.at hin hv) (g := mkF m pc Ls (.int j :: .ref a :: st)) rfl rfl hd) K
theorem o_aaload (X : Stand p l e R s m args below meth c T locs cells slots) (hx : p.tables.exec = Jvm.exec) (hZ : Z.Warmed39 s.vm) (eT : T.heap = h) {a : Addr} {k : ClassId} {n j : Int32} {vs : List Value} {d v : Value} {ty : FieldType} (V : Arv Z h a k ty n vs d) (hty : ty.isReference = true) (hj : ¬ j < 0 ∧ j < n) (hv : vs.getD j.toNatClampNeg d = v) (hd : decode c.code pc = .ok (.aaload, 1)) (hp : pc + 1 = pc') (K : Dn p e below P (T.setTop (mkF m pc' Ls (v :: st)))) : Dn p e below P (T.setTop (mkF m pc Ls (.int j :: .ref a :: st))) := by
  subst hp
  obtain ⟨cl, A, -, S, N, H, -⟩ := V
  have hin := inb_of S hj
  exact go (X.aaload hx (j := j) (v := v) (by rw [eT]; exact A.1) (State.isArrayOf_alike hZ.alike A.2.1) hty A.2.2 hin (H.at hin hv) (g := mkF m pc Ls (.int j :: .ref a :: st)) rfl rfl hd) K
theorem o_arraylength (X : Stand p l e R s m args below meth c T locs cells slots) (hx : p.tables.exec = Jvm.exec) (hZ : Z.Warmed39 s.vm) (eT : T.heap = h) {a : Addr} {k : ClassId} {n : Int32} {vs : List Value} {d : Value} {ty : FieldType} (V : Arv Z h a k ty n vs d) (hd : decode c.code pc = .ok (.arraylength, 1)) (hp : pc + 1 = pc') (K : Dn p e below P (T.setTop (mkF m pc' Ls (.int n :: st)))) : Dn p e below P (T.setTop (mkF m pc Ls (.ref a :: st))) := by
  subst hp
  obtain ⟨cl, A, -, S, N, H, -⟩ := V
  refine go (X.arraylength hx (by rw [eT]; exact A.1) (State.isArrayOf_alike hZ.alike A.2.1) (g := mkF m pc Ls (.ref a :: st)) rfl rfl hd) ?_
  rw [len_of S N]
  exact K
theorem o_iastore (X : Stand p l e R s m args below meth c T locs cells slots) (hx : p.tables.exec = Jvm.exec) (hZ : Z.Warmed39 s.vm) (eT : T.heap = h) {a : Addr} {k : ClassId} {n j : Int32} {vs : List Value} {d : Value} {x : Int32} (V : Arv Z h a k .int n vs d) (hj : ¬ j < 0 ∧ j < n) (i : Nat) (hi : j.toNatClampNeg = i) (hl : i < vs.length) (hd : decode c.code pc = .ok (.iastore, 1)) (hp : pc + 1 = pc') (K : ∀ T' h', Stand p l e R s m args below meth c T' (locs ++ [⟨a, j.toNatClampNeg⟩]) cells slots → T'.heap = h' → Wr h h' a j.toNatClampNeg (.int x) → Arv Z h' a k .int n (vs.set i (.int x)) d → Dn p e below P (T'.setTop (mkF m pc' Ls st))) : Dn p e below P (T.setTop (mkF m pc Ls (.int x :: .int j :: .ref a :: st))) := by
  subst hp
  obtain ⟨cl, A, q, S, N, H, G⟩ := V
  have hin := inb_of S hj
  obtain ⟨T', h', X', e', W', st'⟩ := stI X hx hZ eT A (j := j) (x := x) hin (g := mkF m pc Ls (.int x :: .int j :: .ref a :: st)) rfl rfl hd
  exact go st' (K T' h' X' e' W' (Arv.set A q S N H G rfl W' i hi hl))
theorem o_lastore (X : Stand p l e R s m args below meth c T locs cells slots) (hx : p.tables.exec = Jvm.exec) (hZ : Z.Warmed39 s.vm) (eT : T.heap = h) {a : Addr} {k : ClassId} {n j : Int32} {vs : List Value} {d : Value} {x : Int64} (V : Arv Z h a k .long n vs d) (hj : ¬ j < 0 ∧ j < n) (i : Nat) (hi : j.toNatClampNeg = i) (hl : i < vs.length) (hd : decode c.code pc = .ok (.lastore, 1)) (hp : pc + 1 = pc') (K : ∀ T' h', Stand p l e R s m args below meth c T' (locs ++ [⟨a, j.toNatClampNeg⟩]) cells slots → T'.heap = h' → Wr h h' a j.toNatClampNeg (.long x) → Arv Z h' a k .long n (vs.set i (.long x)) d → Dn p e below P (T'.setTop (mkF m pc' Ls st))) : Dn p e below P (T.setTop (mkF m pc Ls (.long x :: .int j :: .ref a :: st))) := by
  subst hp
  obtain ⟨cl, A, q, S, N, H, G⟩ := V
  have hin := inb_of S hj
  obtain ⟨T', h', X', e', W', st'⟩ := stJ X hx hZ eT A (j := j) (x := x) hin (g := mkF m pc Ls (.long x :: .int j :: .ref a :: st)) rfl rfl hd
  exact go st' (K T' h' X' e' W' (Arv.set A q S N H G rfl W' i hi hl))
theorem o_castore (X : Stand p l e R s m args below meth c T locs cells slots) (hx : p.tables.exec = Jvm.exec) (hZ : Z.Warmed39 s.vm) (eT : T.heap = h) {a : Addr} {k : ClassId} {n j : Int32} {vs : List Value} {d : Value} {x : Int32} (V : Arv Z h a k .char n vs d) (hj : ¬ j < 0 ∧ j < n) (i : Nat) (hi : j.toNatClampNeg = i) (hl : i < vs.length) (hd : decode c.code pc = .ok (.castore, 1)) (hp : pc + 1 = pc') (K : ∀ T' h', Stand p l e R s m args below meth c T' (locs ++ [⟨a, j.toNatClampNeg⟩]) cells slots → T'.heap = h' → Wr h h' a j.toNatClampNeg (.int (nar .char x)) → Arv Z h' a k .char n (vs.set i (.int (nar .char x))) d → Dn p e below P (T'.setTop (mkF m pc' Ls st))) : Dn p e below P (T.setTop (mkF m pc Ls (.int x :: .int j :: .ref a :: st))) := by
  subst hp
  obtain ⟨cl, A, q, S, N, H, G⟩ := V
  have hin := inb_of S hj
  obtain ⟨T', h', X', e', W', st'⟩ := stC X hx hZ eT A (j := j) (x := x) hin (g := mkF m pc Ls (.int x :: .int j :: .ref a :: st)) rfl rfl hd
  exact go st' (K T' h' X' e' W' (Arv.set A q S N H G (fits_nar_char x) W' i hi hl))
theorem o_bastore (X : Stand p l e R s m args below meth c T locs cells slots) (hx : p.tables.exec = Jvm.exec) (hZ : Z.Warmed39 s.vm) (eT : T.heap = h) {a : Addr} {k : ClassId} {n j : Int32} {vs : List Value} {d : Value} {x : Int32} (V : Arv Z h a k .byte n vs d) (hj : ¬ j < 0 ∧ j < n) (i : Nat) (hi : j.toNatClampNeg = i) (hl : i < vs.length) (hd : decode c.code pc = .ok (.bastore, 1)) (hp : pc + 1 = pc') (K : ∀ T' h', Stand p l e R s m args below meth c T' (locs ++ [⟨a, j.toNatClampNeg⟩]) cells slots → T'.heap = h' → Wr h h' a j.toNatClampNeg (.int (nar .byte x)) → Arv Z h' a k .byte n (vs.set i (.int (nar .byte x))) d → Dn p e below P (T'.setTop (mkF m pc' Ls st))) : Dn p e below P (T.setTop (mkF m pc Ls (.int x :: .int j :: .ref a :: st))) := by
  subst hp
  obtain ⟨cl, A, q, S, N, H, G⟩ := V
  have hin := inb_of S hj
  obtain ⟨T', h', X', e', W', st'⟩ := stB X hx hZ eT A (j := j) (x := x) hin (g := mkF m pc Ls (.int x :: .int j :: .ref a :: st)) rfl rfl hd
  exact go st' (K T' h' X' e' W' (Arv.set A q S N H G (fits_nar_byte x) W' i hi hl))
theorem o_newarray (X : Stand p l e R s m args below meth c T locs cells slots) (hx : p.tables.exec = Jvm.exec) (hZ : Z.Warmed39 s.vm) (eT : T.heap = h) {aty : ArrayType} (w : (Jvm.Cond.arrayClass (newarray.typeOf aty)).before a0 Z = true) (hd : decode c.code pc = .ok (.newarray aty, 2)) (hp : pc + 2 = pc') {n : Int32} (hn : ¬ n < 0) (cap : Nat) (hcap : n.toNatClampNeg ≤ cap) (hb : cap * 8 ≤ 536870912) (hc : cells + 1 ≤ R.cells) (hs : slots + cap ≤ R.slots) (K : ∀ T' h' a k, a = h.size → Stand p l e R s m args below meth c T' locs (cells + 1) (slots + cap) → T'.heap = h' → Ext h h' → Arv Z h' a k (newarray.typeOf aty) n [] (defaultValue (newarray.typeOf aty)) → Dn p e below P (T'.setTop (mkF m pc' Ls (.ref a :: st)))) : Dn p e below P (T.setTop (mkF m pc Ls (.int n :: st))) := by
  subst hp
  obtain ⟨T', h', k, X', e', E', A', st'⟩ := newP X hx hZ w eT (g := mkF m pc Ls (.int n :: st)) rfl hd rfl hn hcap hb hc hs
  exact go st' (K T' h' _ k rfl X' e' E' (Arv.new A' hn))
theorem o_getfield (X : Stand p l e R s m args below meth c T locs cells slots) (hx : p.tables.exec = Jvm.exec) (hZ : Z.Warmed39 s.vm) {own O n d : String} {index : Nat} (hown : s.vm.findClass own = some m.cls) (w : (Jvm.Cond.fieldLink own index O n d).before a0 Z = true) (eT : T.heap = h) {a : Addr} {v : Value} (F : Fld Z h a O n d v) (hd : decode c.code pc = .ok (.getfield index, 3)) (hp : pc + 3 = pc') (K : ∀ T', Stand p l e R s m args below meth c T' locs cells slots → T'.heap = h → Dn p e below P (T'.setTop (mkF m pc' Ls (v :: st)))) : Dn p e below P (T.setTop (mkF m pc Ls (.ref a :: st))) := by
  subst hp
  obtain ⟨T', X', e', st'⟩ := getF X hx hZ hown (host := "") (Or.inl w) Via.refl eT F (g := mkF m pc Ls (.ref a :: st)) rfl rfl hd
  exact go st' (K T' X' e')
theorem o_getfieldN (X : Stand p l e R s m args below meth c T locs cells slots) (hx : p.tables.exec = Jvm.exec) (hZ : Z.Warmed39 s.vm) {own O n d host : String} {index : Nat} (hown : s.vm.findClass own = some m.cls) (w : (Jvm.Cond.fieldLinkNest own index O n d host).before a0 Z = true) (eT : T.heap = h) {a : Addr} {v : Value} (F : Fld Z h a O n d v) (hd : decode c.code pc = .ok (.getfield index, 3)) (hp : pc + 3 = pc') (K : ∀ T', Stand p l e R s m args below meth c T' locs cells slots → T'.heap = h → Dn p e below P (T'.setTop (mkF m pc' Ls (v :: st)))) : Dn p e below P (T.setTop (mkF m pc Ls (.ref a :: st))) := by
  subst hp
  obtain ⟨T', X', e', st'⟩ := getF X hx hZ hown (host := host) (Or.inr w) Via.refl eT F (g := mkF m pc Ls (.ref a :: st)) rfl rfl hd
  exact go st' (K T' X' e')
theorem o_putfield (X : Stand p l e R s m args below meth c T locs cells slots) (hx : p.tables.exec = Jvm.exec) (hZ : Z.Warmed39 s.vm) {own O n d C : String} {index kk : Nat} {ty : FieldType} (hown : s.vm.findClass own = some m.cls) (w : (Jvm.Cond.fieldLink own index O n d).before a0 Z = true) (eT : T.heap = h) {a : Addr} {v v' old : Value} (F : Fld Z h a O n d old) (E : Exa Z h a C) (L : (Jvm.Cond.lays C O n d).before a0 Z = true ∨ ((Jvm.Cond.laysFinal C O n d).before a0 Z = true ∧ own = O ∧ meth.name = "<init>")) (wi : (Jvm.Cond.instantiable C kk).before a0 Z = true) (hty : parseFieldDescriptor d = some ty) (hn : narrow ty v = v') (hf : fits ty v' = true) (hd : decode c.code pc = .ok (.putfield index, 3)) (hp : pc + 3 = pc') (K : ∀ T' h', Stand p l e R s m args below meth c T' (locs ++ [⟨a, Jvm.RoadKit.slotOf Z O n d⟩]) cells slots → T'.heap = h' → Wr h h' a (Jvm.RoadKit.slotOf Z O n d) v' → Fld Z h' a O n d v' → Exa Z h' a C → Dn p e below P (T'.setTop (mkF m pc' Ls st))) : Dn p e below P (T.setTop (mkF m pc Ls (v :: .ref a :: st))) := by
  subst hp
  obtain ⟨T', h', X', e', W', st'⟩ := putFN X hx hZ hown w Via.refl eT F E L wi hty hn hf (g := mkF m pc Ls (v :: .ref a :: st)) rfl rfl hd
  exact go st' (K T' h' X' e' W' (F.same W') (E.wr W'))
theorem o_getstatic (X : Stand p l e R s m args below meth c T locs cells slots) (hx : p.tables.exec = Jvm.exec) (hZ : Z.Warmed39 s.vm) {own O n d : String} {index : Nat} (hown : s.vm.findClass own = some m.cls) (w : (Jvm.Cond.fieldLink own index O n d).before a0 Z = true) (eT : T.heap = h) {v : Value} (F : Sta Z h O n d v) (hd : decode c.code pc = .ok (.getstatic index, 3)) (hp : pc + 3 = pc') (K : ∀ T', Stand p l e R s m args below meth c T' locs cells slots → T'.heap = h → Dn p e below P (T'.setTop (mkF m pc' Ls (v :: st)))) : Dn p e below P (T.setTop (mkF m pc Ls st)) := by
  subst hp
  obtain ⟨T', X', e', st'⟩ := getS2 X hx hZ hown (host := "") (Or.inl w) Via.refl eT F (g := mkF m pc Ls st) rfl hd
  exact go st' (K T' X' e')
theorem o_new (X : Stand p l e R s m args below meth c T locs cells slots) (hx : p.tables.exec = Jvm.exec) (hZ : Z.Warmed39 s.vm) {own C : String} {index n : Nat} (hown : s.vm.findClass own = some m.cls) (w : (Jvm.Cond.classLink own index C).before a0 Z = true) (wi : (Jvm.Cond.instantiable C n).before a0 Z = true) (wz : (Jvm.Cond.initialized C).before a0 Z = true) (eT : T.heap = h) (hd : decode c.code pc = .ok (.new index, 3)) (hp : pc + 3 = pc') (hc : cells + 1 ≤ R.cells) (hs : slots + n ≤ R.slots) (K : ∀ T' h' a, a = h.size → Stand p l e R s m args below meth c T' locs (cells + 1) (slots + n) → T'.heap = h' → Ext h h' → Exa Z h' a C → (∀ {O nm d : String} {ty : FieldType}, Laid Z a0 C O nm d → parseFieldDescriptor d = some ty → Fld Z h' a O nm d (defaultValue ty)) → Dn p e below P (T'.setTop (mkF m pc' Ls (.ref a :: st)))) : Dn p e below P (T.setTop (mkF m pc Ls st)) := by
  subst hp
  obtain ⟨T', h', X', e', E', A', D', -, st'⟩ := newO X hx hZ hown w wi wz eT (g := mkF m pc Ls st) rfl hd hc hs
  exact go st' (K T' h' _ rfl X' e' E' A' D')
theorem o_initO (X : Stand p l e R s m args below meth c T locs cells slots) (hx : p.tables.exec = Jvm.exec) (hZ : Z.Warmed39 s.vm) {own : String} {index : Nat} (hown : s.vm.findClass own = some m.cls) (w1 : (Jvm.Cond.methodLink own index Lib.objectInit).before a0 Z = true) (w2 : (Jvm.Cond.instanceMethod Lib.objectInit).before a0 Z = true) (w3 : (Jvm.Cond.code Lib.objectInit ⟨#[0xb1]⟩ 1 none).before a0 Z = true) (eT : T.heap = h) (hsize : Ls.size = c.maxLocals) {a : Addr} (hd : decode c.code pc = .ok (.invokespecial index, 3)) (hp : pc + 3 = pc') (hf : 1 ≤ R.frames) {W : Nat} (hW : 2 * 0 + (st.map fun v => v.category).sum ≤ W) (hl : W + 12 ≤ R.locals) (K : ∀ T', Stand p l e R s m args below meth c T' locs cells slots → T'.heap = h → Dn p e below P (T'.setTop (mkF m pc' Ls st))) : Dn p e below P (T.setTop (mkF m pc Ls (.ref a :: st))) := by
  subst hp
  obtain ⟨T', X', e', st'⟩ := initO X hx hZ hown w1 w2 w3 eT (g := mkF m pc Ls (.ref a :: st)) rfl hsize rfl hd hf (W := W) hW hl
  exact go st' (K T' X' e')
theorem o_callS (X : Stand p l e R s m args below meth c T locs cells slots) (hx : p.tables.exec = Jvm.exec) (hZ : Z.Warmed39 s.vm) {own : String} {index : Nat} {y : MethodName} {bytes : ByteArray} {maxL : Nat} {ret : Option FieldType} {Rm : Room} {Q : Option Value → Heap → List Loc → Prop} {ps : List FieldType} (argsL : List Value) {as' : Array Value} (C : Ctr l Z y bytes maxL ret [] Rm as' h Q) (hown : s.vm.findClass own = some m.cls) (w1 : (Jvm.Cond.methodLink own index y).before a0 Z = true) (w2 : (Jvm.Cond.static y).before a0 Z = true) (w3 : (Jvm.Cond.initialized y.cls).before a0 Z = true) (w4 : (Jvm.Cond.code y bytes maxL ret).before a0 Z = true) (hy : y.cls ≠ "java/lang/invoke/MethodHandle" ∧ y.cls ≠ "java/lang/invoke/VarHandle") (hpd : parseMethodDescriptor y.desc = some ⟨ps, ret⟩) (eT : T.heap = h) (hsize : Ls.size = c.maxLocals) {stk : List Value} (has : as' = argsL.toArray) (hln : argsL.length = ps.length) (hst : stk = argsL.reverse ++ st) (hd : decode c.code pc = .ok (.invokestatic index, 3)) (hp : pc + 3 = pc') (W : Nat) (hW : 2 * 0 + (st.map fun v => v.category).sum ≤ W) (hf : Rm.frames + 1 ≤ R.frames) (hl : W + (maxL + 11) + Rm.locals ≤ R.locals) (hc : cells + Rm.cells ≤ R.cells) (hs : slots + Rm.slots ≤ R.slots) (K : ∀ T' v L, Stand p l e R s m args below meth c T' (locs ++ L) (cells + Rm.cells) (slots + Rm.slots) → Q v T'.heap L → Dn p e below P (T'.setTop (mkF m pc' Ls (v.toList ++ st)))) : Dn p e below P (T.setTop (mkF m pc Ls stk)) := by
  subst hp has hst
  obtain ⟨v, vm₁, ⟨T', L', k', n'⟩, -, X', ⟨L, hQ, l1, y1, z1⟩, st'⟩ := Jvm.LawKit.callS X hx (y := y) hown (mvT hZ w1) (mvT hZ w2) (mvT hZ w3) (mvT hZ w4) hy (backOf (W := W) C hZ w4 w3 hf hl) (g := mkF m pc Ls (argsL.reverse ++ st)) rfl hsize (argsL := argsL) (rest := st) (lenOf hpd hln) rfl hW hd (fun _ _ => ⟨rfl, eT, hc, hs⟩)
  dsimp only [Pt.U, Pt.locs, Pt.cells, Pt.slots] at X' l1 y1 z1 st' hQ
  subst l1 y1 z1
  exact go st' (K T' v L X' hQ)
theorem o_callI (X : Stand p l e R s m args below meth c T locs cells slots) (hx : p.tables.exec = Jvm.exec) (hZ : Z.Warmed39 s.vm) {own : String} {index : Nat} {y : MethodName} {bytes : ByteArray} {maxL : Nat} {Rm : Room} {Q : Option Value → Heap → List Loc → Prop} {ps : List FieldType} (a : Addr) (argsL : List Value) {as' : Array Value} (C : Ctr l Z y bytes maxL none [] Rm as' h Q) (hy1 : y.name = "<init>") (hown : s.vm.findClass own = some m.cls) (w1 : (Jvm.Cond.methodLink own index y).before a0 Z = true) (w2 : (Jvm.Cond.instanceMethod y).before a0 Z = true) (w3 : (Jvm.Cond.initialized y.cls).before a0 Z = true) (w4 : (Jvm.Cond.code y bytes maxL none).before a0 Z = true) (hy : y.cls ≠ "java/lang/invoke/MethodHandle" ∧ y.cls ≠ "java/lang/invoke/VarHandle") (hpd : parseMethodDescriptor y.desc = some ⟨ps, none⟩) (eT : T.heap = h) (hsize : Ls.size = c.maxLocals) {stk : List Value} (has : as' = (.ref a :: argsL).toArray) (hln : argsL.length = ps.length) (hst : stk = argsL.reverse ++ .ref a :: st) (hd : decode c.code pc = .ok (.invokespecial index, 3)) (hp : pc + 3 = pc') (W : Nat) (hW : 2 * 0 + (st.map fun v => v.category).sum ≤ W) (hf : Rm.frames + 1 ≤ R.frames) (hl : W + (maxL + 11) + Rm.locals ≤ R.locals) (hc : cells + Rm.cells ≤ R.cells) (hs : slots + Rm.slots ≤ R.slots) (K : ∀ T' v L, Stand p l e R s m args below meth c T' (locs ++ L) (cells + Rm.cells) (slots + Rm.slots) → Q v T'.heap L → Dn p e below P (T'.setTop (mkF m pc' Ls (v.toList ++ st)))) : Dn p e below P (T.setTop (mkF m pc Ls stk)) := by
  subst hp has hst
  obtain ⟨v, vm₁, ⟨T', L', k', n'⟩, -, X', ⟨L, hQ, l1, y1, z1⟩, st'⟩ := X.specialBack hx (y := y) hy1 hown (mvT hZ w1) (mvT hZ w2) (mvT hZ w4) hy (backOf (W := W) C hZ w4 w3 hf hl) (g := mkF m pc Ls (argsL.reverse ++ .ref a :: st)) rfl hsize (Steps.refl _) (a := a) (argsL := argsL) (rest := st) (lenOf hpd hln) rfl hW hd (fun _ _ => ⟨rfl, eT, hc, hs⟩)
  dsimp only [Pt.U, Pt.locs, Pt.cells, Pt.slots] at X' l1 y1 z1 st' hQ
  subst l1 y1 z1
  exact goS st' (K T' v L X' hQ)
theorem o_callV (X : Stand p l e R s m args below meth c T locs cells slots) (hx : p.tables.exec = Jvm.exec) (hZ : Z.Warmed39 s.vm) {own Cc : String} {index : Nat} {y : MethodName} {bytes : ByteArray} {maxL : Nat} {ret : Option FieldType} {Rm : Room} {Q : Option Value → Heap → List Loc → Prop} {ps : List FieldType} (a : Addr) (argsL : List Value) {as' : Array Value} (C : Ctr l Z y bytes maxL ret [] Rm as' h Q) (hown : s.vm.findClass own = some m.cls) (w1 : (Jvm.Cond.methodLink own index y).before a0 Z = true) (w5 : (Jvm.Cond.declares y).before a0 Z = true) (w6 : (Jvm.Cond.selects Cc y y).before a0 Z = true) (w2 : (Jvm.Cond.instanceMethod y).before a0 Z = true) (w3 : (Jvm.Cond.initialized y.cls).before a0 Z = true) (w4 : (Jvm.Cond.code y bytes maxL ret).before a0 Z = true) (hy : y.cls ≠ "java/lang/invoke/MethodHandle" ∧ y.cls ≠ "java/lang/invoke/VarHandle") (E : Exa Z h a Cc) (hpd : parseMethodDescriptor y.desc = some ⟨ps, ret⟩) (eT : T.heap = h) (hsize : Ls.size = c.maxLocals) {stk : List Value} (has : as' = (.ref a :: argsL).toArray) (hln : argsL.length = ps.length) (hst : stk = argsL.reverse ++ .ref a :: st) (hd : decode c.code pc = .ok (.invokevirtual index, 3)) (hp : pc + 3 = pc') (W : Nat) (hW : 2 * 0 + (st.map fun v => v.category).sum ≤ W) (hf : Rm.frames + 1 ≤ R.frames) (hl : W + (maxL + 11) + Rm.locals ≤ R.locals) (hc : cells + Rm.cells ≤ R.cells) (hs : slots + Rm.slots ≤ R.slots) (K : ∀ T' v L, Stand p l e R s m args below meth c T' (locs ++ L) (cells + Rm.cells) (slots + Rm.slots) → Q v T'.heap L → Dn p e below P (T'.setTop (mkF m pc' Ls (v.toList ++ st)))) : Dn p e below P (T.setTop (mkF m pc Ls stk)) := by
  subst hp has hst
  obtain ⟨cq, kq, qa, qb, qc⟩ := isOf (T := T) hZ eT E
  obtain ⟨v, vm₁, ⟨T', L', k', n'⟩, -, X', ⟨L, hQ, l1, y1, z1⟩, st'⟩ := X.virtualBack hx (y := y) (z := y) hown (mvT hZ w1) (mvT hZ w5) (notFace_of_selects (args := #[]) (mvT hZ w6)) (mvT hZ w6) (mvT hZ w2) hy (backOf (W := W) C hZ w4 w3 hf hl) qa qc (g := mkF m pc Ls (argsL.reverse ++ .ref a :: st)) rfl hsize (Steps.refl _) (argsL := argsL) (rest := st) (lenOf hpd hln) rfl hW hd (fun _ _ => ⟨rfl, eT, hc, hs⟩)
  dsimp only [Pt.U, Pt.locs, Pt.cells, Pt.slots] at X' l1 y1 z1 st' hQ
  subst l1 y1 z1
  exact goS st' (K T' v L X' hQ)
theorem o_callP (X : Stand p l e R s m args below meth c T locs cells slots) (hx : p.tables.exec = Jvm.exec) (hZ : Z.Warmed39 s.vm) {own : String} {index : Nat} {y : MethodName} {bytes : ByteArray} {maxL : Nat} {ret : Option FieldType} {Rm : Room} {Q : Option Value → Heap → List Loc → Prop} {ps : List FieldType} (a : Addr) (argsL : List Value) {as' : Array Value} (C : Ctr l Z y bytes maxL ret [] Rm as' h Q) (hown : s.vm.findClass own = some m.cls) (w1 : (Jvm.Cond.methodLink own index y).before a0 Z = true) {kk : Nat} (w6 : (Jvm.Cond.instantiable y.cls kk).before a0 Z = true) (w7 : (Jvm.Cond.privateMethod y).before a0 Z = true) (w2 : (Jvm.Cond.instanceMethod y).before a0 Z = true) (w3 : (Jvm.Cond.initialized y.cls).before a0 Z = true) (w4 : (Jvm.Cond.code y bytes maxL ret).before a0 Z = true) (hy : y.cls ≠ "java/lang/invoke/MethodHandle" ∧ y.cls ≠ "java/lang/invoke/VarHandle") {Cc : String} (E : Exa Z h a Cc) (hpd : parseMethodDescriptor y.desc = some ⟨ps, ret⟩) (eT : T.heap = h) (hsize : Ls.size = c.maxLocals) {stk : List Value} (has : as' = (.ref a :: argsL).toArray) (hln : argsL.length = ps.length) (hst : stk = argsL.reverse ++ .ref a :: st) (hd : decode c.code pc = .ok (.invokevirtual index, 3)) (hp : pc + 3 = pc') (W : Nat) (hW : 2 * 0 + (st.map fun v => v.category).sum ≤ W) (hf : Rm.frames + 1 ≤ R.frames) (hl : W + (maxL + 11) + Rm.locals ≤ R.locals) (hc : cells + Rm.cells ≤ R.cells) (hs : slots + Rm.slots ≤ R.slots) (K : ∀ T' v L, Stand p l e R s m args below meth c T' (locs ++ L) (cells + Rm.cells) (slots + Rm.slots) → Q v T'.heap L → Dn p e below P (T'.setTop (mkF m pc' Ls (v.toList ++ st)))) : Dn p e below P (T.setTop (mkF m pc Ls stk)) := by
  subst hp has hst
  obtain ⟨cq, q1, q2⟩ := E.cell
  obtain ⟨cc, kc, hcc, hkc, -, hni, -, -⟩ := Jvm.Cond.instantiable_spec (mvT (args := args) hZ w6)
  have hpv := Jvm.Cond.privateMethod_at (mvP hZ w7 (args := #[]))
  have hsel := selects_self_of_private (args := args) hcc hkc (Bool.or_eq_false_iff.mp hni).1 hpv (mvT hZ w2) hy
  obtain ⟨v, vm₁, ⟨T', L', k', n'⟩, -, X', ⟨L, hQ, l1, y1, z1⟩, st'⟩ := X.privateBack hx (y := y) hown (mvT hZ w1) (mvT hZ w2) hsel hpv (mvT hZ w4) hy (backOf (W := W) C hZ w4 w3 hf hl) (g := mkF m pc Ls (argsL.reverse ++ .ref a :: st)) rfl hsize (Steps.refl _) (a := a) (by rw [eT]; exact q1) q2 (argsL := argsL) (rest := st) (lenOf hpd hln) rfl hW hd (fun _ _ => ⟨rfl, eT, hc, hs⟩)
  dsimp only [Pt.U, Pt.locs, Pt.cells, Pt.slots] at X' l1 y1 z1 st' hQ
  subst l1 y1 z1
  exact goS st' (K T' v L X' hQ)
abbrev Pure (v0 : Value) (h0 : Heap) : Option Value → Heap → List Loc → Prop := fun v h L => v = some v0 ∧ L = [] ∧ h = h0
theorem o_callSP (X : Stand p l e R s m args below meth c T locs cells slots) (hx : p.tables.exec = Jvm.exec) (hZ : Z.Warmed39 s.vm) {own : String} {index : Nat} {y : MethodName} {bytes : ByteArray} {maxL : Nat} {ret : Option FieldType} {Rm : Room} {v0 : Value} {ps : List FieldType} (argsL : List Value) {as' : Array Value} (C : Ctr l Z y bytes maxL ret [] Rm as' h (Pure v0 h)) (hown : s.vm.findClass own = some m.cls) (w1 : (Jvm.Cond.methodLink own index y).before a0 Z = true) (w2 : (Jvm.Cond.static y).before a0 Z = true) (w3 : (Jvm.Cond.initialized y.cls).before a0 Z = true) (w4 : (Jvm.Cond.code y bytes maxL ret).before a0 Z = true) (hy : y.cls ≠ "java/lang/invoke/MethodHandle" ∧ y.cls ≠ "java/lang/invoke/VarHandle") (hpd : parseMethodDescriptor y.desc = some ⟨ps, ret⟩) (eT : T.heap = h) (hsize : Ls.size = c.maxLocals) {stk : List Value} (has : as' = argsL.toArray) (hln : argsL.length = ps.length) (hst : stk = argsL.reverse ++ st) (hd : decode c.code pc = .ok (.invokestatic index, 3)) (hp : pc + 3 = pc') (W : Nat) (hW : 2 * 0 + (st.map fun v => v.category).sum ≤ W) (hf : Rm.frames + 1 ≤ R.frames) (hl : W + (maxL + 11) + Rm.locals ≤ R.locals) (hc0 : Rm.cells = 0) (hs0 : Rm.slots = 0) (hc : cells ≤ R.cells) (hs : slots ≤ R.slots) (K : ∀ T', Stand p l e R s m args below meth c T' locs cells slots → T'.heap = h → Dn p e below P (T'.setTop (mkF m pc' Ls (v0 :: st)))) : Dn p e below P (T.setTop (mkF m pc Ls stk)) := by
  refine o_callS X hx hZ argsL C hown w1 w2 w3 w4 hy hpd eT hsize has hln hst hd hp W hW hf hl (by rw [hc0]; exact hc) (by rw [hs0]; exact hs) ?_
  intro T' v L X' hQ
  obtain ⟨rfl, rfl, e'⟩ := hQ
  rw [List.append_nil, hc0, hs0] at X'
  exact K T' X' e'
theorem o_callVP (X : Stand p l e R s m args below meth c T locs cells slots) (hx : p.tables.exec = Jvm.exec) (hZ : Z.Warmed39 s.vm) {own Cc : String} {index : Nat} {y : MethodName} {bytes : ByteArray} {maxL : Nat} {ret : Option FieldType} {Rm : Room} {v0 : Value} {ps : List FieldType} (a : Addr) (argsL : List Value) {as' : Array Value} (C : Ctr l Z y bytes maxL ret [] Rm as' h (Pure v0 h)) (hown : s.vm.findClass own = some m.cls) (w1 : (Jvm.Cond.methodLink own index y).before a0 Z = true) (w5 : (Jvm.Cond.declares y).before a0 Z = true) (w6 : (Jvm.Cond.selects Cc y y).before a0 Z = true) (w2 : (Jvm.Cond.instanceMethod y).before a0 Z = true) (w3 : (Jvm.Cond.initialized y.cls).before a0 Z = true) (w4 : (Jvm.Cond.code y bytes maxL ret).before a0 Z = true) (hy : y.cls ≠ "java/lang/invoke/MethodHandle" ∧ y.cls ≠ "java/lang/invoke/VarHandle") (E : Exa Z h a Cc) (hpd : parseMethodDescriptor y.desc = some ⟨ps, ret⟩) (eT : T.heap = h) (hsize : Ls.size = c.maxLocals) {stk : List Value} (has : as' = (.ref a :: argsL).toArray) (hln : argsL.length = ps.length) (hst : stk = argsL.reverse ++ .ref a :: st) (hd : decode c.code pc = .ok (.invokevirtual index, 3)) (hp : pc + 3 = pc') (W : Nat) (hW : 2 * 0 + (st.map fun v => v.category).sum ≤ W) (hf : Rm.frames + 1 ≤ R.frames) (hl : W + (maxL + 11) + Rm.locals ≤ R.locals) (hc0 : Rm.cells = 0) (hs0 : Rm.slots = 0) (hc : cells ≤ R.cells) (hs : slots ≤ R.slots) (K : ∀ T', Stand p l e R s m args below meth c T' locs cells slots → T'.heap = h → Dn p e below P (T'.setTop (mkF m pc' Ls (v0 :: st)))) : Dn p e below P (T.setTop (mkF m pc Ls stk)) := by
  refine o_callV X hx hZ a argsL C hown w1 w5 w6 w2 w3 w4 hy E hpd eT hsize has hln hst hd hp W hW hf hl (by rw [hc0]; exact hc) (by rw [hs0]; exact hs) ?_
  intro T' v L X' hQ
  obtain ⟨rfl, rfl, e'⟩ := hQ
  rw [List.append_nil, hc0, hs0] at X'
  exact K T' X' e'
theorem o_callPP (X : Stand p l e R s m args below meth c T locs cells slots) (hx : p.tables.exec = Jvm.exec) (hZ : Z.Warmed39 s.vm) {own : String} {index : Nat} {y : MethodName} {bytes : ByteArray} {maxL : Nat} {ret : Option FieldType} {Rm : Room} {v0 : Value} {ps : List FieldType} (a : Addr) (argsL : List Value) {as' : Array Value} (C : Ctr l Z y bytes maxL ret [] Rm as' h (Pure v0 h)) (hown : s.vm.findClass own = some m.cls) (w1 : (Jvm.Cond.methodLink own index y).before a0 Z = true) {kk : Nat} (w6 : (Jvm.Cond.instantiable y.cls kk).before a0 Z = true) (w7 : (Jvm.Cond.privateMethod y).before a0 Z = true) (w2 : (Jvm.Cond.instanceMethod y).before a0 Z = true) (w3 : (Jvm.Cond.initialized y.cls).before a0 Z = true) (w4 : (Jvm.Cond.code y bytes maxL ret).before a0 Z = true) (hy : y.cls ≠ "java/lang/invoke/MethodHandle" ∧ y.cls ≠ "java/lang/invoke/VarHandle") {Cc : String} (E : Exa Z h a Cc) (hpd : parseMethodDescriptor y.desc = some ⟨ps, ret⟩) (eT : T.heap = h) (hsize : Ls.size = c.maxLocals) {stk : List Value} (has : as' = (.ref a :: argsL).toArray) (hln : argsL.length = ps.length) (hst : stk = argsL.reverse ++ .ref a :: st) (hd : decode c.code pc = .ok (.invokevirtual index, 3)) (hp : pc + 3 = pc') (W : Nat) (hW : 2 * 0 + (st.map fun v => v.category).sum ≤ W) (hf : Rm.frames + 1 ≤ R.frames) (hl : W + (maxL + 11) + Rm.locals ≤ R.locals) (hc0 : Rm.cells = 0) (hs0 : Rm.slots = 0) (hc : cells ≤ R.cells) (hs : slots ≤ R.slots) (K : ∀ T', Stand p l e R s m args below meth c T' locs cells slots → T'.heap = h → Dn p e below P (T'.setTop (mkF m pc' Ls (v0 :: st)))) : Dn p e below P (T.setTop (mkF m pc Ls stk)) := by
  refine o_callP X hx hZ a argsL C hown w1 w6 w7 w2 w3 w4 hy E hpd eT hsize has hln hst hd hp W hW hf hl (by rw [hc0]; exact hc) (by rw [hs0]; exact hs) ?_
  intro T' v L X' hQ
  obtain ⟨rfl, rfl, e'⟩ := hQ
  rw [List.append_nil, hc0, hs0] at X'
  exact K T' X' e'
end Own
section OwnS
variable {p : Program} {l : Launch} {e : Env} {R : Room} {s : State} {m : MethodId} {args : Array Value} {below : List Frame} {meth : Method} {c : Code} {T : State} {locs : List Loc} {cells slots : Nat} {Z : State} {a0 : Array Value} {h h' : Heap} {P : State → Outcome → Prop} {pc pc' : Nat} {Ls Ls' : Array Slot} {st : List Value} {vm0 : Vm} {EL : List (String × Nat)} {h0 : Heap}
/-- what a walk that may intern keeps beside its Stand -/
def Sw (Z : State) (EL : List (String × Nat)) (s : State) (h0 : Heap) (vm0 : Vm) (h : Heap) : Prop := s.Since vm0 h.size ∧ Z.Warmed39 vm0 ∧ CHr Z EL s.vm h0 vm0 h
theorem Sw.start (hZ : Z.Warmed39 s.vm) (H : CHv Z EL s.vm h0) : Sw Z EL s h0 s.vm h0 := ⟨(State.WarmedH.refl s).since _, hZ, CHr.refl H⟩
theorem Sw.ext (W : Sw Z EL s h0 vm0 h) (E : Ext h h') : Sw Z EL s h0 vm0 h' := ⟨⟨W.1.1, W.1.2.mono E.1⟩, W.2.1, W.2.2.trans (CHr.ext E W.2.2.1)⟩
theorem Sw.wr {a : Addr} {sl : Nat} {v : Value} (W : Sw Z EL s h0 vm0 h) (Wx : Wr h h' a sl v) (S : Safe Z EL vm0 h a) : Sw Z EL s h0 vm0 h' := ⟨⟨W.1.1, W.1.2.mono (Keep.of_wr Wx).1⟩, W.2.1, W.2.2.trans (CHr.wr Wx S W.2.2.1)⟩
theorem Sw.keep {ws : List Addr} (W : Sw Z EL s h0 vm0 h) (K : Keep h h' ws) (S : ∀ x ∈ ws, Safe Z EL vm0 h x) : Sw Z EL s h0 vm0 h' := ⟨⟨W.1.1, W.1.2.mono K.1⟩, W.2.1, W.2.2.trans (CHr.keep K S W.2.2.1)⟩
theorem Sw.chv (W : Sw Z EL s h0 vm0 h) : CHv Z EL vm0 h := W.2.2.1
def PQS (below : List Frame) (s : State) (Z : State) (EL : List (String × Nat)) (h0 : Heap) (Q : Option Value → Heap → List Loc → Prop) (k n : Nat) (s₂ : State) (o : Outcome) : Prop :=
  s₂.status = .running ∧ Ended s₂ below o ∧ ∃ v L, o = .returned v ∧ Q v s₂.heap L ∧ CHr Z EL s.vm h0 s₂.vm s₂.heap ∧ ReturnedEndW s o s₂ L k n
abbrev CtrS (l : Launch) (Z : State) (EL : List (String × Nat)) (y : MethodName) (bytes : ByteArray) (maxL : Nat) (ret : Option FieldType) (ws : List Jvm.Cond) (R : Room) (as' : Array Value) (h0 : Heap) (Q : Option Value → Heap → List Loc → Prop) : Prop :=
  MetFree l y (head1 (Jvm.Cond.code y bytes maxL ret :: ws) R) (fun a U => a = as' ∧ Z.Warmed39 U.vm ∧ U.heap = h0 ∧ CHv Z EL U.vm h0) (fun _ _ _ _ _ => True) (fun _ U o U' => ∃ v L, o = .returned v ∧ Q v U'.heap L ∧ CHr Z EL U.vm U.heap U'.vm U'.heap ∧ ReturnedEndW U o U' L R.cells R.slots)
theorem ctrS_mk {y : MethodName} {bytes : ByteArray} {maxL : Nat} {ret : Option FieldType} {ws : List Jvm.Cond} {as' : Array Value} {Q : Option Value → Heap → List Loc → Prop} {own mn : String} (hpl : plainFor y = true) (ho : y.cls = own) (hmn : y.name = mn)
    (body : ∀ (p : Program) (e : Env) (s : State) (m : MethodId) (below : List Frame) (meth : Method) (c : Code) (T : State), Stand p l e R (s.setVm s.vm) m as' below meth c T [] 0 0 → p.tables.exec = Jvm.exec → c.code = bytes → c.maxLocals = maxL → Z.Warmed39 s.vm → s.vm.findClass own = some m.cls → meth.name = mn → meth.sig.returnType = ret → meth.locks = false → T.heap = h0 → Sw Z EL s h0 s.vm h0 →
      Dn p e below (PQS below s Z EL h0 Q R.cells R.slots) (T.setTop (entryFrame m as' maxL))) : CtrS l Z EL y bytes maxL ret ws R as' h0 Q := by
  subst ho hmn
  refine MetFree.of_bodySF hpl hisR ?_
  intro p e s m args below meth c s₁ Bd hml hP hK
  obtain ⟨rfl, hZ, hh, hC⟩ := hP
  have e0 : s₁.heap = h0 := by rw [← hh, Bd.state]; rfl
  obtain ⟨s₂, o, h1, h2, h3, v, L, h4, h5, h6, h7⟩ := body p e s m below meth c s₁ (Stand.of_body Bd) Bd.exec Bd.bytes hml hZ (findClass_of_methodNamed Bd.named) (name_of_methodNamed Bd.named Bd.method).1 Bd.returns Bd.notSynchronized e0 (Sw.start hZ hC)
  exact ⟨s₂, o, h1, h2, h3, v, L, h4, h5, hh ▸ h6, h7⟩
theorem finS_of {Q : Option Value → Heap → List Loc → Prop} {k n : Nat} {v : Option Value} {A : State} (X : Stand p l e R (s.setVm vm0) m args below meth c T locs cells slots) (hEL : EW Z a0 EL) (W : Sw Z EL s h0 vm0 h) (eT : T.heap = h) (hlk : meth.locks = false) (hv : meth.sig.returnType = none → v = none) (hc : cells ≤ k) (hs : slots ≤ n) (hQ : Q v h locs)
    (w : ∀ fs, (∀ (f : JFrame) (acts : List Action), f.method = m → f.locked = none → f.entered = [] → (doReturn e (T.setTop f) acts v).1 = T.setFrames fs) → Steps p.tables e below A (T.setFrames fs)) : Dn p e below (PQS below s Z EL h0 Q k n) A := by
  subst eT
  obtain ⟨fs, hr, hrun, hended, ⟨hq, hW1, hW2, hW3⟩⟩ := X.leaveW (s := s) W.1 (Nat.le_refl _) (v := v) hv hlk
  have qq := W.2.2.trans (CHv.at (h := T.heap) X W.2.1 hEL W.2.2.1)
  exact ⟨_, _, w fs hr, hrun, hended, _, _, rfl, hQ, qq, hq, hW1, hW2, hW3.mono hc hs⟩
theorem finSI {Q : Option Value → Heap → List Loc → Prop} {k n : Nat} (X : Stand p l e R (s.setVm vm0) m args below meth c T locs cells slots) (hx : p.tables.exec = Jvm.exec) (hEL : EW Z a0 EL) (W : Sw Z EL s h0 vm0 h) (eT : T.heap = h) (hlk : meth.locks = false) {z : Int32} (hret : meth.sig.returnType = some .int) (hd : decode c.code pc = .ok (.ireturn, 1)) (hc : cells ≤ k) (hs : slots ≤ n) (hQ : Q (some (.int z)) h locs) :
    Dn p e below (PQS below s Z EL h0 Q k n) (T.setTop (mkF m pc Ls (.int z :: st))) :=
  finS_of X hEL W eT hlk (fun q => by rw [hret] at q; cases q) hc hs hQ (fun fs hr => retOut X hx hret rfl (Or.inl ⟨rfl, Or.inl rfl, _, rfl⟩) hd hr)
theorem finSN {Q : Option Value → Heap → List Loc → Prop} {k n : Nat} (X : Stand p l e R (s.setVm vm0) m args below meth c T locs cells slots) (hx : p.tables.exec = Jvm.exec) (hEL : EW Z a0 EL) (W : Sw Z EL s h0 vm0 h) (eT : T.heap = h) (hlk : meth.locks = false) {z : Int32} {t : FieldType} (hret : meth.sig.returnType = some t) (ht : t = .boolean ∨ t = .byte ∨ t = .char ∨ t = .short) (hd : decode c.code pc = .ok (.ireturn, 1)) (hc : cells ≤ k) (hs : slots ≤ n) (hQ : Q (some (.int (nar t z))) h locs) :
    Dn p e below (PQS below s Z EL h0 Q k n) (T.setTop (mkF m pc Ls (.int z :: st))) :=
  finS_of X hEL W eT hlk (fun q => by rw [hret] at q; cases q) hc hs hQ (fun fs hr => retN X hx hret ht hd hr)
theorem finSA {Q : Option Value → Heap → List Loc → Prop} {k n : Nat} (X : Stand p l e R (s.setVm vm0) m args below meth c T locs cells slots) (hx : p.tables.exec = Jvm.exec) (hEL : EW Z a0 EL) (W : Sw Z EL s h0 vm0 h) (eT : T.heap = h) (hlk : meth.locks = false) {w : Value} {t : FieldType} (hw : w.isRef = true) (hret : meth.sig.returnType = some t) (ht : t.isReference = true) (hn : narrow t w = w) (hd : decode c.code pc = .ok (.areturn, 1)) (hc : cells ≤ k) (hs : slots ≤ n) (hQ : Q (some w) h locs) :
    Dn p e below (PQS below s Z EL h0 Q k n) (T.setTop (mkF m pc Ls (w :: st))) :=
  finS_of X hEL W eT hlk (fun q => by rw [hret] at q; cases q) hc hs hQ (fun fs hr => retOut X hx hret hn (Or.inr (Or.inr (Or.inr (Or.inr ⟨rfl, ht, hw⟩)))) hd hr)
theorem finSV {Q : Option Value → Heap → List Loc → Prop} {k n : Nat} (X : Stand p l e R (s.setVm vm0) m args below meth c T locs cells slots) (hx : p.tables.exec = Jvm.exec) (hEL : EW Z a0 EL) (W : Sw Z EL s h0 vm0 h) (eT : T.heap = h) (hlk : meth.locks = false) (hret : meth.sig.returnType = none) (hd : decode c.code pc = .ok (.return_, 1)) (hc : cells ≤ k) (hs : slots ≤ n) (hQ : Q none h locs) :
    Dn p e below (PQS below s Z EL h0 Q k n) (T.setTop (mkF m pc Ls [])) :=
  finS_of X hEL W eT hlk (fun _ => rfl) hc hs hQ (fun fs hr => X.returnOut hx hret hd hr)
theorem o_ldcO (X : Stand p l e R (s.setVm vm0) m args below meth c T locs cells slots) (hx : p.tables.exec = Jvm.exec) {own text : String} {index : Nat} (hown : vm0.findClass own = some m.cls) (w : (Jvm.Cond.stringLink own index text).before a0 Z = true) (wS : ∀ a ∈ Bundle.stringAtoms, a.before a0 Z = true) (eT : T.heap = h) (W : Sw Z EL s h0 vm0 h) (hEL : EW Z a0 EL) (n : Nat) (hn : 4 * text.toList.length ≤ n) (hbig : n ≤ 536870912) (hc : cells + 2 ≤ R.cells) (hs : slots + (n + 4) ≤ R.slots) (hd : decode c.code pc = .ok (.ldc index, 2)) (hp : pc + 2 = pc') (K : ∀ a T' h', Stand p l e R (s.setVm T'.vm) m args below meth c T' locs (cells + 2) (slots + (n + 4)) → T'.heap = h' → Ext h h' → Sw Z EL s h0 T'.vm h' → T'.vm.findClass own = some m.cls → CHr Z EL vm0 h T'.vm h' → Dn p e below P (T'.setTop (mkF m pc' Ls (.ref a :: st)))) : Dn p e below P (T.setTop (mkF m pc Ls st)) := by
  subst hp
  obtain ⟨a, T', h', k1, X', e', E', hS', hk', hZ', hown', hC', -, st'⟩ := ldcOH X hx W.2.1 hown w wS eT W.1 (Nat.le_refl _) hEL W.2.2.1 (g := mkF m pc Ls st) rfl hd hn hbig hc hs
  exact go st' (K a T' h' X' e' E' ⟨⟨hS'.1, hS'.2.mono hk'⟩, hZ', W.2.2.trans hC'⟩ hown' hC')
theorem o_ldcR (X : Stand p l e R (s.setVm vm0) m args below meth c T locs cells slots) (hx : p.tables.exec = Jvm.exec) {own text : String} {index : Nat} (hown : vm0.findClass own = some m.cls) (w : (Jvm.Cond.stringLink own index text).before a0 Z = true) (wS : ∀ a ∈ Bundle.stringAtoms, a.before a0 Z = true) (eT : T.heap = h) (W : Sw Z EL s h0 vm0 h) (hEL : EW Z a0 EL) (hmem : (own, index) ∈ EL) {vs : List Value} {z : Int32} (ht : (∀ c ∈ text.toList, c.toNat < 256) ∧ text.toList.map (fun c => Value.int (Jvm.Lit.byteI c.toNat.toUInt16)) = vs) (hz : ¬ z < 0) (hlz : z.toNatClampNeg = vs.length) (n : Nat) (hn : 4 * text.toList.length ≤ n) (hbig : n ≤ 536870912) (hc : cells + 2 ≤ R.cells) (hs : slots + (n + 4) ≤ R.slots) (hd : decode c.code pc = .ok (.ldc index, 2)) (hp : pc + 2 = pc') (K : ∀ a T' h' b k, Stand p l e R (s.setVm T'.vm) m args below meth c T' locs (cells + 2) (slots + (n + 4)) → T'.heap = h' → Ext h h' → Sw Z EL s h0 T'.vm h' → T'.vm.findClass own = some m.cls → CHr Z EL vm0 h T'.vm h' → Exa Z h' a "java/lang/String" → Fld Z h' a "java/lang/String" "coder" "B" (.int 0) → Fld Z h' a "java/lang/String" "value" "[B" (.ref b) → Arv Z h' b k .byte z vs (.int 0) → (∀ x, Safe Z EL T'.vm h' x → x ≠ a ∧ x ≠ b) → Dn p e below P (T'.setTop (mkF m pc' Ls (.ref a :: st)))) : Dn p e below P (T.setTop (mkF m pc Ls st)) := by
  subst hp
  obtain ⟨a, T', h', k1, b, k, X', e', E', hS', hk', hZ', hown', q1, q2, q3, q4, -, -, hC', -, q5, st'⟩ := ldcCH X hx W.2.1 hown w wS eT W.1 (Nat.le_refl _) hEL hmem W.2.2.1 ht hz hlz (g := mkF m pc Ls st) rfl hd hn hbig hc hs
  exact go st' (K a T' h' b k X' e' E' ⟨⟨hS'.1, hS'.2.mono hk'⟩, hZ', W.2.2.trans hC'⟩ hown' hC' q1 q2 q3 q4 q5)
theorem own_find {own : String} {vm1 : Vm} {k : ClassId} (h : (s.setVm vm0).Warmed39 vm1) (q : vm0.findClass own = some k) : vm1.findClass own = some k := by
  rw [h.alike.findClass]
  exact q
theorem o_callSS (X : Stand p l e R (s.setVm vm0) m args below meth c T locs cells slots) (hx : p.tables.exec = Jvm.exec) (hEL : EW Z a0 EL) (W0 : Sw Z EL s h0 vm0 h) {own : String} {index : Nat} {y : MethodName} {bytes : ByteArray} {maxL : Nat} {ret : Option FieldType} {Rm : Room} {Q : Option Value → Heap → List Loc → Prop} {ps : List FieldType} (argsL : List Value) {as' : Array Value} (C : CtrS l Z EL y bytes maxL ret [] Rm as' h Q) (hown : vm0.findClass own = some m.cls) (w1 : (Jvm.Cond.methodLink own index y).before a0 Z = true) (w2 : (Jvm.Cond.static y).before a0 Z = true) (w3 : (Jvm.Cond.initialized y.cls).before a0 Z = true) (w4 : (Jvm.Cond.code y bytes maxL ret).before a0 Z = true) (hy : y.cls ≠ "java/lang/invoke/MethodHandle" ∧ y.cls ≠ "java/lang/invoke/VarHandle") (hpd : parseMethodDescriptor y.desc = some ⟨ps, ret⟩) (eT : T.heap = h) (hsize : Ls.size = c.maxLocals) {stk : List Value} (has : as' = argsL.toArray) (hln : argsL.length = ps.length) (hst : stk = argsL.reverse ++ st) (hd : decode c.code pc = .ok (.invokestatic index, 3)) (hp : pc + 3 = pc') (W : Nat) (hW : 2 * 0 + (st.map fun v => v.category).sum ≤ W) (hf : Rm.frames + 1 ≤ R.frames) (hl : W + (maxL + 11) + Rm.locals ≤ R.locals) (hc : cells + Rm.cells ≤ R.cells) (hs : slots + Rm.slots ≤ R.slots) (K : ∀ T' v L, Stand p l e R (s.setVm T'.vm) m args below meth c T' (locs ++ L) (cells + Rm.cells) (slots + Rm.slots) → Q v T'.heap L → Sw Z EL s h0 T'.vm T'.heap → T'.vm.findClass own = some m.cls → CHr Z EL vm0 h T'.vm T'.heap → Dn p e below P (T'.setTop (mkF m pc' Ls (v.toList ++ st)))) : Dn p e below P (T.setTop (mkF m pc Ls stk)) := by
  subst hp has hst
  obtain ⟨v, vm₁, ⟨T', L', k', n'⟩, -, X', hS', hg', ⟨L, hQ, l1, y1, z1, hC'⟩, st'⟩ := callSS X hx (y := y) hown (mvT (s := s.setVm vm0) W0.2.1 w1) (mvT (s := s.setVm vm0) W0.2.1 w2) (mvT (s := s.setVm vm0) W0.2.1 w3) (mvT (s := s.setVm vm0) W0.2.1 w4) hy (backOfSH (s := s) (W := W) C W0.2.1 w4 w3 hf hl hEL W0.2.2.1) (g := mkF m pc Ls (argsL.reverse ++ st)) rfl hsize (argsL := argsL) (rest := st) (lenOf hpd hln) rfl hW hd (fun _ _ => ⟨rfl, eT, hc, hs⟩)
  dsimp only [Pt.U, Pt.locs, Pt.cells, Pt.slots] at X' l1 y1 z1 st' hQ hS' hg' hC'
  subst l1 y1 z1
  have hS2 : s.Since T'.vm T'.heap.size := W0.1.trans hS' (by rw [← eT]; exact hg')
  exact goS st' (K T' v L X' hQ ⟨hS2, State.Warmed39.trans (t := s.setVm vm0) W0.2.1 hS'.1, W0.2.2.trans hC'⟩ (own_find hS'.1 hown) hC')
theorem o_callIS (X : Stand p l e R (s.setVm vm0) m args below meth c T locs cells slots) (hx : p.tables.exec = Jvm.exec) (hEL : EW Z a0 EL) (W0 : Sw Z EL s h0 vm0 h) {own : String} {index : Nat} {y : MethodName} {bytes : ByteArray} {maxL : Nat} {Rm : Room} {Q : Option Value → Heap → List Loc → Prop} {ps : List FieldType} (a : Addr) (argsL : List Value) {as' : Array Value} (C : CtrS l Z EL y bytes maxL none [] Rm as' h Q) (hy1 : y.name = "<init>") (hown : vm0.findClass own = some m.cls) (w1 : (Jvm.Cond.methodLink own index y).before a0 Z = true) (w2 : (Jvm.Cond.instanceMethod y).before a0 Z = true) (w3 : (Jvm.Cond.initialized y.cls).before a0 Z = true) (w4 : (Jvm.Cond.code y bytes maxL none).before a0 Z = true) (hy : y.cls ≠ "java/lang/invoke/MethodHandle" ∧ y.cls ≠ "java/lang/invoke/VarHandle") (hpd : parseMethodDescriptor y.desc = some ⟨ps, none⟩) (eT : T.heap = h) (hsize : Ls.size = c.maxLocals) {stk : List Value} (has : as' = (.ref a :: argsL).toArray) (hln : argsL.length = ps.length) (hst : stk = argsL.reverse ++ .ref a :: st) (hd : decode c.code pc = .ok (.invokespecial index, 3)) (hp : pc + 3 = pc') (W : Nat) (hW : 2 * 0 + (st.map fun v => v.category).sum ≤ W) (hf : Rm.frames + 1 ≤ R.frames) (hl : W + (maxL + 11) + Rm.locals ≤ R.locals) (hc : cells + Rm.cells ≤ R.cells) (hs : slots + Rm.slots ≤ R.slots) (K : ∀ T' v L, Stand p l e R (s.setVm T'.vm) m args below meth c T' (locs ++ L) (cells + Rm.cells) (slots + Rm.slots) → Q v T'.heap L → Sw Z EL s h0 T'.vm T'.heap → T'.vm.findClass own = some m.cls → CHr Z EL vm0 h T'.vm T'.heap → Dn p e below P (T'.setTop (mkF m pc' Ls (v.toList ++ st)))) : Dn p e below P (T.setTop (mkF m pc Ls stk)) := by
  subst hp has hst
  obtain ⟨v, vm₁, ⟨T', L', k', n'⟩, -, X', hS', hg', ⟨L, hQ, l1, y1, z1, hC'⟩, st'⟩ := X.specialBackS hx (y := y) hy1 hown (mvT (s := s.setVm vm0) W0.2.1 w1) (mvT (s := s.setVm vm0) W0.2.1 w2) (mvT (s := s.setVm vm0) W0.2.1 w4) hy (backOfSH (s := s) (W := W) C W0.2.1 w4 w3 hf hl hEL W0.2.2.1) (g := mkF m pc Ls (argsL.reverse ++ .ref a :: st)) rfl hsize (Steps.refl _) (a := a) (argsL := argsL) (rest := st) (lenOf hpd hln) rfl hW hd (fun _ _ => ⟨rfl, eT, hc, hs⟩)
  dsimp only [Pt.U, Pt.locs, Pt.cells, Pt.slots] at X' l1 y1 z1 st' hQ hS' hg' hC'
  subst l1 y1 z1
  have hS2 : s.Since T'.vm T'.heap.size := W0.1.trans hS' (by rw [← eT]; exact hg')
  exact goS st' (K T' v L X' hQ ⟨hS2, State.Warmed39.trans (t := s.setVm vm0) W0.2.1 hS'.1, W0.2.2.trans hC'⟩ (own_find hS'.1 hown) hC')
end OwnS
def own_EL : List (String × Nat) := [("com/example/shelfkey/shelfkey/http/PrivateKeys", 29), ("com/example/shelfkey/shelfkey/http/PrivateKeysIsEncryptedPinLaw", 7), ("com/example/shelfkey/shelfkey/http/PrivateKeysIsEncryptedPinLaw", 19), ("com/example/shelfkey/shelfkey/http/PrivateKeysIsEncryptedPinLaw", 21), ("com/example/shelfkey/shelfkey/http/PrivateKeysIsEncryptedPinLaw", 23), ("com/example/shelfkey/shelfkey/http/PrivateKeysIsEncryptedPinLaw", 25), ("com/example/shelfkey/shelfkey/http/PrivateKeysIsEncryptedPinLaw", 27)]
theorem own_wS {Z : State} {a0 : Array Value} (hw : ∀ d ∈ tables_1, d.before a0 Z = true) : ∀ a ∈ Bundle.stringAtoms, a.before a0 Z = true := by
  intro a ha
  simp only [Bundle.stringAtoms, List.mem_cons, List.not_mem_nil, or_false] at ha
  rcases ha with rfl | rfl | rfl | rfl | rfl | rfl | rfl
  · exact (hw _ (List.mem_of_getElem? (i := 1) rfl))
  · exact (hw _ (List.mem_of_getElem? (i := 2) rfl))
  · exact (hw _ (List.mem_of_getElem? (i := 3) rfl))
  · exact (hw _ (List.mem_of_getElem? (i := 4) rfl))
  · exact (hw _ (List.mem_of_getElem? (i := 5) rfl))
  · exact (hw _ (List.mem_of_getElem? (i := 6) rfl))
  · exact (hw _ (List.mem_of_getElem? (i := 7) rfl))
theorem own_EW {Z : State} {a0 : Array Value} (hw : ∀ d ∈ tables_1, d.before a0 Z = true) : EW Z a0 own_EL := (EW.cons (hw _ (List.mem_of_getElem? (i := 67) rfl)) (by decide) (EW.cons (hw _ (List.mem_of_getElem? (i := 0) rfl)) (by decide) (EW.cons (hw _ (List.mem_of_getElem? (i := 90) rfl)) (by decide) (EW.cons (hw _ (List.mem_of_getElem? (i := 112) rfl)) (by decide) (EW.cons (hw _ (List.mem_of_getElem? (i := 61) rfl)) (by decide) (EW.cons (hw _ (List.mem_of_getElem? (i := 114) rfl)) (by decide) (EW.cons (hw _ (List.mem_of_getElem? (i := 113) rfl)) (by decide) EW.nil)))))))
theorem own_safe {Z : State} {h : Heap} {vm : Vm} {EL : List (String × Nat)} {x : Addr} (hal : Z.vm.Alike vm) (E : Exa Z h x "java/lang/String") (V : Fld Z h x "java/lang/String" "value" "[B" .null) : Safe Z EL vm h x := fun B => by
  obtain ⟨cell, k, e1, e2, e3, -, -⟩ := E
  obtain ⟨p, -, u, a, -, q, -, F, rfl | rfl⟩ := B
  · cases (show h[q.sa]? = some q.sC from F.ha).symm.trans e1
    obtain ⟨cS, ⟨⟨-, -, -, ⟨cv, kv, iv, s4, -⟩, -, -, -, s8, -⟩, -, -⟩, -⟩ := F
    obtain ⟨kv', z4⟩ := ff_back (U := Wst Z vm h) hal s4
    obtain ⟨cl2, cf2, k2, i2, f2, v1, v2, -, -, -, -, v7⟩ := V
    cases e1.symm.trans v1
    cases (show some _ = some _ from z4.symm.trans v2)
    cases s8.symm.trans v7
  · cases (show h[q.sd]? = some q.SA from F.hd).symm.trans e1
    obtain ⟨cS, -, -, f, -⟩ := F
    rw [show (Wst Z vm h).vm = vm from rfl, hal.findClass] at f
    obtain ⟨k1, q1, q2⟩ := Vm.findClass_spec f
    obtain ⟨k2, q3, q4⟩ := Vm.findClass_spec e2
    cases q1.symm.trans q3
    exact absurd (q2.symm.trans q4) (by decide)
theorem own_ns {Z : State} {a0 : Array Value} {K : String} {n : Nat} (w : (Jvm.Cond.superclass "java/lang/String" "java/lang/Object").before a0 Z = true) (w0 : (Jvm.Cond.noSuperclass "java/lang/Object").before a0 Z = true) (wi : (Jvm.Cond.instantiable K n).before a0 Z = true) (h1 : "java/lang/String" ≠ K) (h2 : "java/lang/Object" ≠ K) : ∃ c t, Z.vm.findClass "java/lang/String" = some c ∧ Z.vm.findClass K = some t ∧ Z.vm.assignable c t = false := by
  obtain ⟨t, k', g0, g2, g5, g7, -⟩ := Jvm.Cond.instantiable_spec wi
  obtain ⟨oc, ok, o1, o2, o3, -, -⟩ := Jvm.Cond.noSuperclass_spec w0
  obtain ⟨c, h0⟩ := found_sup w
  obtain ⟨p, k, kp, q1, q2, q3, q4, q5, -, q7⟩ := Jvm.Cond.superclass_spec h0 w
  cases o1.symm.trans q1
  have ne1 := ids_ne h0 g0 h1
  have ne2 := ids_ne o1 g0 h2
  have n2 : ∀ fuel, Z.vm.isSubclassAux fuel oc t = false := by
    intro fuel
    cases fuel with
    | zero => rfl
    | succ f => simp [Vm.isSubclassAux, ne2, o2, o3]
  have n3 : ∀ fuel, Z.vm.isSubclassAux fuel c t = false := by
    intro fuel
    cases fuel with
    | zero => rfl
    | succ f => simp [Vm.isSubclassAux, ne1, q2, q4, n2]
  refine ⟨c, t, h0, g0, ?_⟩
  show Z.vm.assignableAux (255 + 1) c t = false
  simp [Vm.assignableAux, ne1, q2, g2, q5, g5, (Bool.or_eq_false_iff.mp g7).1, Vm.isSubclass, n3]
theorem own_up (n : Nat) : Int32.ofNat n + (1 : Int32) = Int32.ofNat (n + 1) := by rw [Int32.ofNat_add]; rfl
theorem own_ti {n : Nat} (h : n ≤ 1000) : (Int32.ofNat n).toInt = n := Int32.toInt_ofNat_of_lt (by omega)
theorem own_ci {n : Nat} (h : n ≤ 1000) : (Int32.ofNat n).toNatClampNeg = n := by
  show (Int32.ofNat n).toInt.toNat = n
  rw [own_ti h]; rfl
theorem own_lt {i n : Nat} (h : i ≤ 1000) (h' : n ≤ 1000) : Int32.ofNat i < Int32.ofNat n ↔ i < n := by
  rw [Int32.lt_iff_toInt_lt, own_ti h, own_ti h']; omega
theorem own_nn {n : Nat} (h : n ≤ 1000) : ¬ Int32.ofNat n < 0 := by
  rw [Int32.lt_iff_toInt_lt, own_ti h]
  have : (0 : Int32).toInt = 0 := by decide
  omega
theorem own_inj {i n : Nat} (h : i ≤ 1000) (h' : n ≤ 1000) (q : Int32.ofNat i = Int32.ofNat n) : i = n := by
  have := congrArg Int32.toInt q
  rw [own_ti h, own_ti h'] at this; omega
theorem own_pos {n : Nat} (h : n ≤ 1000) (p : 0 < n) : ¬ Int32.ofNat n = (0 : Int32) := fun q => absurd (own_inj h (Nat.zero_le _) q) (by omega)
def own_b (c : Int32) : Int32 := nar .byte c.toInt8.toInt32
def iv (l : List Int32) : List Value := l.map .int
theorem iv_len (l : List Int32) : (iv l).length = l.length := List.length_map ..
theorem iv_get {l : List Int32} {i : Nat} (h : i < l.length) (d : Value) : (iv l).getD i d = .int (l.getD i 0) := by
  simp [iv, List.getD, h]
theorem iv_rep (n : Nat) : iv (List.replicate n 0) = List.replicate n (.int 0) := by simp [iv]
theorem iv_set (l : List Int32) (i : Nat) (c : Int32) : (iv l).set i (.int c) = iv (l.set i c) := by simp [iv]
theorem own_seti {cs : List Int32} {i r : Nat} (h : i + (r + 1) = cs.length) : ((cs.take i).map own_b ++ List.replicate (r + 1) 0).set i (own_b (cs.getD i 0)) = (cs.take (i + 1)).map own_b ++ List.replicate r 0 := by
  have hi : i < cs.length := by omega
  have hl : ((cs.take i).map own_b).length = i := by simp; omega
  rw [List.set_append_right _ _ (by omega), hl, Nat.sub_self, List.replicate_succ, List.set_cons_zero, List.take_add_one, List.map_append, List.append_assoc]
  simp [List.getD, hi]
theorem own_all {cs : List Int32} (h : ∀ c ∈ cs, ¬ 255 < c) {i : Nat} (hi : i < cs.length) : ¬ 255 < cs.getD i 0 := by
  have : cs.getD i 0 = cs[i] := by simp [List.getD, hi]
  rw [this]; exact h _ (List.getElem_mem hi)
theorem own_nb {cs ds : List Int32} {i : Nat} (h : cs.length = ds.length) (q : ¬ cs.getD i 0 = ds.getD i 0) : ¬ cs = ds := fun z => q (by rw [z])
theorem own_step {cs ds : List Int32} {i : Nat} (h1 : i < cs.length) (h2 : i < ds.length) (t : cs.take i = ds.take i) (q : cs.getD i 0 = ds.getD i 0) : cs.take (i + 1) = ds.take (i + 1) := by
  have e1 : cs.getD i 0 = cs[i] := by simp [List.getD, h1]
  have e2 : ds.getD i 0 = ds[i] := by simp [List.getD, h2]
  rw [e1, e2] at q
  rw [List.take_add_one, List.take_add_one, t, List.getElem?_eq_getElem h1, List.getElem?_eq_getElem h2, q]
/-- the String at a holds the bytes bs; it and its array lie below t -/
def Str (Z : State) (h : Heap) (t : Nat) (a : Addr) (bs : List Int32) : Prop :=
  ∃ (b : Addr) (k : ClassId), a < t ∧ b < t ∧ Exa Z h a "java/lang/String" ∧ Fld Z h a "java/lang/String" "value" "[B" (.ref b) ∧ Fld Z h a "java/lang/String" "coder" "B" (.int 0) ∧ Arv Z h b k .byte (Int32.ofNat bs.length) (iv bs) (.int 0)
theorem Str.keep {Z : State} {h h' : Heap} {t : Nat} {a : Addr} {bs : List Int32} {ws : List Addr} (F : Str Z h t a bs) (K : Keep h h' ws) (q : ∀ x ∈ ws, t ≤ x) : Str Z h' t a bs := by
  obtain ⟨b, k, h1, h2, E, f1, f2, v⟩ := F
  have n1 : a ∉ ws := fun z => absurd (q a z) (Nat.not_le.mpr h1)
  have n2 : b ∉ ws := fun z => absurd (q b z) (Nat.not_le.mpr h2)
  exact ⟨b, k, h1, h2, E.keep K, f1.keep K n1, f2.keep K n1, v.keep K n2⟩
theorem Str.ext {Z : State} {h h' : Heap} {t : Nat} {a : Addr} {bs : List Int32} (F : Str Z h t a bs) (E' : Ext h h') : Str Z h' t a bs := F.keep ((Keep.refl h []).ext E') (fun x hx => nomatch hx)
theorem Str.exa {Z : State} {h : Heap} {t : Nat} {a : Addr} {bs : List Int32} (F : Str Z h t a bs) : Exa Z h a "java/lang/String" := by
  obtain ⟨b, k, -, -, E, -⟩ := F
  exact E
theorem Str.lt {Z : State} {h : Heap} {t : Nat} {a : Addr} {bs : List Int32} (F : Str Z h t a bs) : a < t := by
  obtain ⟨b, k, q, -⟩ := F
  exact q
theorem own_one {t x : Nat} (h : t ≤ x) : ∀ y ∈ [x], t ≤ y := by
  intro y hy
  simp only [List.mem_cons, List.not_mem_nil, or_false] at hy
  subst hy; exact h
theorem d5_0 : decode jdk_52_method_21_code 0 = .ok (.iconst 0, 1) := by decide +kernel
theorem d5_1 : decode jdk_52_method_21_code 1 = .ok (.istore 5, 2) := by decide +kernel
theorem d5_3 : decode jdk_52_method_21_code 3 = .ok (.iload 5, 2) := by decide +kernel
theorem d5_5 : decode jdk_52_method_21_code 5 = .ok (.iload 4, 2) := by decide +kernel
theorem d5_7 : decode jdk_52_method_21_code 7 = .ok (.if_icmp .ge 37, 3) := by decide +kernel
theorem d5_10 : decode jdk_52_method_21_code 10 = .ok (.aload_n 0, 1) := by decide +kernel
theorem d5_11 : decode jdk_52_method_21_code 11 = .ok (.iload_n 1, 1) := by decide +kernel
theorem d5_12 : decode jdk_52_method_21_code 12 = .ok (.caload, 1) := by decide +kernel
theorem d5_13 : decode jdk_52_method_21_code 13 = .ok (.istore 6, 2) := by decide +kernel
theorem d5_15 : decode jdk_52_method_21_code 15 = .ok (.iload 6, 2) := by decide +kernel
theorem d5_17 : decode jdk_52_method_21_code 17 = .ok (.sipush 255, 3) := by decide +kernel
theorem d5_20 : decode jdk_52_method_21_code 20 = .ok (.if_icmp .le 6, 3) := by decide +kernel
theorem d5_26 : decode jdk_52_method_21_code 26 = .ok (.aload_n 2, 1) := by decide +kernel
theorem d5_27 : decode jdk_52_method_21_code 27 = .ok (.iload_n 3, 1) := by decide +kernel
theorem d5_28 : decode jdk_52_method_21_code 28 = .ok (.iload 6, 2) := by decide +kernel
theorem d5_30 : decode jdk_52_method_21_code 30 = .ok (.i2b, 1) := by decide +kernel
theorem d5_31 : decode jdk_52_method_21_code 31 = .ok (.bastore, 1) := by decide +kernel
theorem d5_32 : decode jdk_52_method_21_code 32 = .ok (.iinc 1 1, 3) := by decide +kernel
theorem d5_35 : decode jdk_52_method_21_code 35 = .ok (.iinc 3 1, 3) := by decide +kernel
theorem d5_38 : decode jdk_52_method_21_code 38 = .ok (.iinc 5 1, 3) := by decide +kernel
theorem d5_41 : decode jdk_52_method_21_code 41 = .ok (.goto (-38), 3) := by decide +kernel
theorem d5_44 : decode jdk_52_method_21_code 44 = .ok (.iload 4, 2) := by decide +kernel
theorem d5_46 : decode jdk_52_method_21_code 46 = .ok (.ireturn, 1) := by decide +kernel
theorem pn_5 : plainFor (⟨"java/lang/StringUTF16", "compress", "([CI[BII)I"⟩ : MethodName) = true := plainFor_of_name (by show plainName "java/lang/StringUTF16" = true; first | (simp [plainName, overriddenIn]; done) | decide +kernel)
theorem ef_5_a1_0_a3_0_p5 (m : MethodId) (a1 : Addr) (a3 : Addr) (p5 : Int32) : entryFrame m #[(.ref a1), (.int (0 : Int32)), (.ref a3), (.int (0 : Int32)), (.int p5)] 7 = mkF m 0 #[.val (.ref a1), .val (.int (0 : Int32)), .val (.ref a3), .val (.int (0 : Int32)), .val (.int p5), .unset, .unset] [] := by first | (simp [entryFrame, mkF, argsToLocals, Value.category]; done) | rfl
set_option maxRecDepth 65536 in
set_option maxHeartbeats 40000000 in
theorem rmC5 (l : Launch) (Z : State) (a0 : Array Value) (hw : ∀ d ∈ tables_1, d.before a0 Z = true) (h0 : Heap) (n0 : Nat) (Z0 : n0 ≤ h0.size) (a1 : Addr) (a3 : Addr) (p5 : Int32) (cs : List Int32) (hc : ∀ c ∈ cs, ¬ 255 < c) (hl : cs.length ≤ 24) (hp : p5 = (Int32.ofNat cs.length)) (k kb : ClassId) (d : Value) (hV : Arv Z h0 a1 k .char (Int32.ofNat cs.length) (iv cs) d) (hB : Arv Z h0 a3 kb .byte (Int32.ofNat cs.length) (iv (List.replicate cs.length 0)) (.int 0)) (ne : a1 ≠ a3) (ga : n0 ≤ a3) : Ctr l Z (⟨"java/lang/StringUTF16", "compress", "([CI[BII)I"⟩ : MethodName) jdk_52_method_21_code 7 (some .int) [] ({ frames := 0, cells := 0, slots := 0, locals := 0 } : Room) #[(.ref a1), (.int (0 : Int32)), (.ref a3), (.int (0 : Int32)), (.int p5)] h0 (fun v h L => v = some (.int p5) ∧ Fr n0 L ∧ Keep h0 h [a3] ∧ Arv Z h a3 kb .byte (Int32.ofNat cs.length) (iv (cs.map own_b)) (.int 0)) := by
  refine ctr_mk pn_5 (own := "java/lang/StringUTF16") (mn := "compress") rfl rfl ?_
  intro p e s m below meth c T0 X0 hx hby hml hZ hown hnm hret hlk e0
  refine o_entry (ef_5_a1_0_a3_0_p5 m a1 a3 p5) ?_
  subst hp
  refine o_iconst X0 hx (pc' := 1) (v := (0 : Int32)) (hb hby d5_0) rfl rfl ?_
  refine o_istore X0 hx (pc' := 3) (Ls' := #[.val (.ref a1), .val (.int (0 : Int32)), .val (.ref a3), .val (.int (0 : Int32)), .val (.int (Int32.ofNat cs.length)), .val (.int (0 : Int32)), .unset]) (hb hby d5_1) rfl rfl ?_
  have loop : ∀ r i, i + r = cs.length → ∀ (T : State) (h : Heap) (L : List Loc) (q6 : Slot), (q6 = .unset ∨ ∃ v, q6 = .val (.int v)) → Stand p l e ({ frames := 0, cells := 0, slots := 0, locals := 0 } : Room) s m #[.ref a1, .int (0 : Int32), .ref a3, .int (0 : Int32), .int (Int32.ofNat cs.length)] below meth c T L 0 0 → T.heap = h → Fr n0 L → Keep h0 h [a3] → Arv Z h a3 kb .byte (Int32.ofNat cs.length) (iv ((cs.take i).map own_b ++ List.replicate r 0)) (.int 0) → Dn p e below (PQ below s (fun v h L => v = some (.int (Int32.ofNat cs.length)) ∧ Fr n0 L ∧ Keep h0 h [a3] ∧ Arv Z h a3 kb .byte (Int32.ofNat cs.length) (iv (cs.map own_b)) (.int 0)) 0 0) (T.setTop (mkF m 3 #[.val (.ref a1), .val (.int (Int32.ofNat i)), .val (.ref a3), .val (.int (Int32.ofNat i)), .val (.int (Int32.ofNat cs.length)), .val (.int (Int32.ofNat i)), q6] [])) := by
    intro r
    induction r with
    | zero =>
      intro i hi T h L q6 hq6 X eh N K V
      obtain rfl : i = cs.length := hi
      have V2 : Arv Z h a3 kb .byte (Int32.ofNat cs.length) (iv (cs.map own_b)) (.int 0) := by
        rw [List.take_length, List.replicate_zero, List.append_nil] at V
        exact V
      refine o_iload X hx (pc' := 5) (hb hby d5_3) rfl rfl ?_
      refine o_iload X hx (pc' := 7) (hb hby d5_5) rfl rfl ?_
      refine o_icmp_ge X hx (pc' := 10) (pt := 44) (hb hby d5_7) rfl (by decide) (by decide) (fun _ => ?_) (fun q => absurd q (fun q => absurd ((own_lt (Nat.le_trans hl (by decide)) (Nat.le_trans hl (by decide))).mp q) (Nat.lt_irrefl _)))
      refine o_iload X hx (pc' := 46) (hb hby d5_44) rfl rfl ?_
      exact finI X hx hlk hret (hb hby d5_46) (by decide) (by decide) ⟨rfl, N, by rw [eh]; exact K, by rw [eh]; exact V2⟩
    | succ r ih =>
      intro i hi T h L q6 hq6 X eh N K V
      have hi1 : i < cs.length := by omega
      have hi2 : i ≤ 1000 := Nat.le_trans (Nat.le_of_lt hi1) (Nat.le_trans hl (by decide))
      have hlt := (own_lt hi2 (Nat.le_trans hl (by decide))).mpr hi1
      have hVh := hV.keep K (by simp only [List.mem_cons, List.not_mem_nil, or_false]; exact ne)
      refine o_iload X hx (pc' := 5) (hb hby d5_3) rfl rfl ?_
      refine o_iload X hx (pc' := 7) (hb hby d5_5) rfl rfl ?_
      refine o_icmp_ge X hx (pc' := 10) (pt := 44) (hb hby d5_7) rfl (by decide) (by decide) (fun q => absurd hlt q) (fun _ => ?_)
      refine o_aloadN X hx (pc' := 11) (hb hby d5_10) rfl rfl rfl ?_
      refine o_iloadN X hx (pc' := 12) (hb hby d5_11) rfl rfl ?_
      refine o_caload X hx hZ eh hVh ⟨own_nn hi2, hlt⟩ (v := (.int (cs.getD i 0))) (by rw [own_ci hi2]; exact iv_get hi1 _) (hb hby d5_12) (pc' := 13) rfl ?_
      refine o_istore X hx (pc' := 15) (Ls' := #[.val (.ref a1), .val (.int (Int32.ofNat i)), .val (.ref a3), .val (.int (Int32.ofNat i)), .val (.int (Int32.ofNat cs.length)), .val (.int (Int32.ofNat i)), .val (.int (cs.getD i 0))]) (hb hby d5_13) rfl (by rcases hq6 with rfl | ⟨v, rfl⟩ <;> rfl) ?_
      refine o_iload X hx (pc' := 17) (hb hby d5_15) rfl rfl ?_
      refine o_sipush X hx (pc' := 20) (v := (255 : Int32)) (hb hby d5_17) rfl rfl ?_
      refine o_icmp_le X hx (pc' := 23) (pt := 26) (hb hby d5_20) rfl (by decide) (by decide) (fun _ => ?_) (fun q => absurd q (own_all hc hi1))
      refine o_aloadN X hx (pc' := 27) (hb hby d5_26) rfl rfl rfl ?_
      refine o_iloadN X hx (pc' := 28) (hb hby d5_27) rfl rfl ?_
      refine o_iload X hx (pc' := 30) (hb hby d5_28) rfl rfl ?_
      refine o_i2b X hx (pc' := 31) (hb hby d5_30) rfl ?_
      refine o_bastore X hx hZ eh V ⟨own_nn hi2, hlt⟩ i (own_ci hi2) (by rw [iv_len]; simp; omega) (hb hby d5_31) (pc' := 32) rfl ?_
      intro T1 h1 X1 e1 W1 V1
      have V2 : Arv Z h1 a3 kb .byte (Int32.ofNat cs.length) (iv ((cs.take (i + 1)).map own_b ++ List.replicate r 0)) (.int 0) := by
        rw [← own_seti hi, ← iv_set]
        exact V1
      refine o_iinc X1 hx (pc' := 35) (Ls' := #[.val (.ref a1), .val (.int ((Int32.ofNat i) + (1 : Int32))), .val (.ref a3), .val (.int (Int32.ofNat i)), .val (.int (Int32.ofNat cs.length)), .val (.int (Int32.ofNat i)), .val (.int (cs.getD i 0))]) (v := (1 : Int32)) (hb hby d5_32) rfl rfl rfl rfl ?_
      refine o_iinc X1 hx (pc' := 38) (Ls' := #[.val (.ref a1), .val (.int ((Int32.ofNat i) + (1 : Int32))), .val (.ref a3), .val (.int ((Int32.ofNat i) + (1 : Int32))), .val (.int (Int32.ofNat cs.length)), .val (.int (Int32.ofNat i)), .val (.int (cs.getD i 0))]) (v := (1 : Int32)) (hb hby d5_35) rfl rfl rfl rfl ?_
      refine o_iinc X1 hx (pc' := 41) (Ls' := #[.val (.ref a1), .val (.int ((Int32.ofNat i) + (1 : Int32))), .val (.ref a3), .val (.int ((Int32.ofNat i) + (1 : Int32))), .val (.int (Int32.ofNat cs.length)), .val (.int ((Int32.ofNat i) + (1 : Int32))), .val (.int (cs.getD i 0))]) (v := (1 : Int32)) (hb hby d5_38) rfl rfl rfl rfl ?_
      refine o_goto X1 hx (pc' := 3) (hb hby d5_41) (by decide) (by decide) ?_
      rw [own_up i]
      exact ih (i + 1) (by omega) _ _ _ _ (Or.inr ⟨_, rfl⟩) X1 e1 (Fr.snoc X1 N ga) (K.wr W1 (Or.inl (List.mem_of_getElem? (i := 0) rfl))) V2
  exact loop cs.length 0 (Nat.zero_add _) _ _ _ _ (Or.inl rfl) X0 e0 (Fr.nil n0) (Keep.refl h0 [a3]) hB
theorem pd_0 : parseMethodDescriptor "([CI[BII)I" = some ⟨[(.array .char), .int, (.array .byte), .int, .int], some .int⟩ := by decide +kernel
theorem d4_0 : decode jdk_52_method_16_code 0 = .ok (.iload_n 2, 1) := by decide +kernel
theorem d4_1 : decode jdk_52_method_16_code 1 = .ok (.newarray .byte, 2) := by decide +kernel
theorem d4_3 : decode jdk_52_method_16_code 3 = .ok (.astore_n 3, 1) := by decide +kernel
theorem d4_4 : decode jdk_52_method_16_code 4 = .ok (.aload_n 0, 1) := by decide +kernel
theorem d4_5 : decode jdk_52_method_16_code 5 = .ok (.iload_n 1, 1) := by decide +kernel
theorem d4_6 : decode jdk_52_method_16_code 6 = .ok (.aload_n 3, 1) := by decide +kernel
theorem d4_7 : decode jdk_52_method_16_code 7 = .ok (.iconst 0, 1) := by decide +kernel
theorem d4_8 : decode jdk_52_method_16_code 8 = .ok (.iload_n 2, 1) := by decide +kernel
theorem d4_9 : decode jdk_52_method_16_code 9 = .ok (.invokestatic 115, 3) := by decide +kernel
theorem d4_12 : decode jdk_52_method_16_code 12 = .ok (.istore 4, 2) := by decide +kernel
theorem d4_14 : decode jdk_52_method_16_code 14 = .ok (.iload 4, 2) := by decide +kernel
theorem d4_16 : decode jdk_52_method_16_code 16 = .ok (.iload_n 2, 1) := by decide +kernel
theorem d4_17 : decode jdk_52_method_16_code 17 = .ok (.if_icmp .eq 40, 3) := by decide +kernel
theorem d4_57 : decode jdk_52_method_16_code 57 = .ok (.aload_n 3, 1) := by decide +kernel
theorem d4_58 : decode jdk_52_method_16_code 58 = .ok (.areturn, 1) := by decide +kernel
theorem pn_4 : plainFor (⟨"java/lang/StringUTF16", "compress", "([CII)[B"⟩ : MethodName) = true := plainFor_of_name (by show plainName "java/lang/StringUTF16" = true; first | (simp [plainName, overriddenIn]; done) | decide +kernel)
theorem ef_4_a1_0_p3 (m : MethodId) (a1 : Addr) (p3 : Int32) : entryFrame m #[(.ref a1), (.int (0 : Int32)), (.int p3)] 6 = mkF m 0 #[.val (.ref a1), .val (.int (0 : Int32)), .val (.int p3), .unset, .unset, .unset] [] := by first | (simp [entryFrame, mkF, argsToLocals, Value.category]; done) | rfl
set_option maxRecDepth 65536 in
set_option maxHeartbeats 40000000 in
theorem rmC3 (l : Launch) (Z : State) (a0 : Array Value) (hw : ∀ d ∈ tables_1, d.before a0 Z = true) (h0 : Heap) (n0 : Nat) (Z0 : n0 ≤ h0.size) (a1 : Addr) (p3 : Int32) (cs : List Int32) (hc : ∀ c ∈ cs, ¬ 255 < c) (hl : cs.length ≤ 24) (hp : p3 = (Int32.ofNat cs.length)) (k : ClassId) (d : Value) (hV : Arv Z h0 a1 k .char (Int32.ofNat cs.length) (iv cs) d) : Ctr l Z (⟨"java/lang/StringUTF16", "compress", "([CII)[B"⟩ : MethodName) jdk_52_method_16_code 6 (some (.array .byte)) [] ({ frames := 1, cells := 1, slots := 24, locals := 18 } : Room) #[(.ref a1), (.int (0 : Int32)), (.int p3)] h0 (fun v h L => ∃ (b : Addr) (kb : ClassId), v = some (.ref b) ∧ h0.size ≤ b ∧ Fr n0 L ∧ Keep h0 h [] ∧ Arv Z h b kb .byte (Int32.ofNat cs.length) (iv (cs.map own_b)) (.int 0)) := by
  refine ctr_mk pn_4 (own := "java/lang/StringUTF16") (mn := "compress") rfl rfl ?_
  intro p e s m below meth c T0 X0 hx hby hml hZ hown hnm hret hlk e0
  refine o_entry (ef_4_a1_0_p3 m a1 p3) ?_
  subst hp
  have NN := Fr.nil n0
  have ZZ := Z0
  have KK := Keep.refl h0 []
  refine o_iloadN X0 hx (pc' := 1) (hb hby d4_0) rfl rfl ?_
  refine o_newarray X0 hx hZ e0 (hw _ (List.mem_of_getElem? (i := 3) rfl)) (hb hby d4_1) (pc' := 3) rfl (own_nn (Nat.le_trans hl (by decide))) 24 (by rw [own_ci (Nat.le_trans hl (by decide))]; exact hl) (by decide) (by decide) (by decide) ?_
  intro T1 h1 b1 k1 g1 X1 e1 E1 V1
  have lt_a1_b1 : a1 < b1 := Nat.lt_of_lt_of_le hV.lt (Nat.le_of_eq g1.symm)
  have ne_a1_b1 : a1 ≠ b1 := Nat.ne_of_lt lt_a1_b1
  have g_b1 : n0 ≤ b1 := Nat.le_trans ZZ (Nat.le_of_eq g1.symm)
  have sz_b1 : h0.size ≤ b1 := Nat.le_trans KK.1 (Nat.le_of_eq g1.symm)
  have KK := KK.ext E1
  have ZZ := Nat.le_trans ZZ E1.1
  have hV := hV.ext E1
  have hB := V1
  have hB : Arv Z h1 b1 k1 .byte (Int32.ofNat cs.length) (iv (List.replicate cs.length 0)) (.int 0) := by
    rw [iv_rep]
    exact hB.pad (pad_rep [] _ cs.length)
  refine o_astoreN X1 hx (pc' := 4) (Ls' := #[.val (.ref a1), .val (.int (0 : Int32)), .val (.int (Int32.ofNat cs.length)), .val (.ref b1), .unset, .unset]) (hb hby d4_3) rfl rfl rfl ?_
  refine o_aloadN X1 hx (pc' := 5) (hb hby d4_4) rfl rfl rfl ?_
  refine o_iloadN X1 hx (pc' := 6) (hb hby d4_5) rfl rfl ?_
  refine o_aloadN X1 hx (pc' := 7) (hb hby d4_6) rfl rfl rfl ?_
  refine o_iconst X1 hx (pc' := 8) (v := (0 : Int32)) (hb hby d4_7) rfl rfl ?_
  refine o_iloadN X1 hx (pc' := 9) (hb hby d4_8) rfl rfl ?_
  refine o_callS X1 hx hZ [(.ref a1), (.int (0 : Int32)), (.ref b1), (.int (0 : Int32)), (.int (Int32.ofNat cs.length))] (rmC5 l Z a0 hw h1 n0 ZZ a1 b1 (Int32.ofNat cs.length) cs hc hl rfl k k1 d hV hB ne_a1_b1 g_b1) hown (hw _ (List.mem_of_getElem? (i := 26) rfl)) (hw _ (List.mem_of_getElem? (i := 27) rfl)) (hw _ (List.mem_of_getElem? (i := 24) rfl)) (hw _ (List.mem_of_getElem? (i := 28) rfl)) (by decide) pd_0 e1 (by rw [hml]; rfl) rfl rfl rfl (hb hby d4_9) (pc' := 12) rfl 0 (Nat.le_of_eq rfl) (by decide) (by decide) (by decide) (by decide) ?_
  intro T2 v2 L2 X2 hQ2
  obtain ⟨rfl, Nq, Kq, hBq⟩ := hQ2
  have NN := Fr.app NN Nq
  have KK := KK.trans Kq (by intro x hx; simp only [List.mem_cons, List.not_mem_nil, or_false] at hx; subst hx; first | (left; simp; done) | (right; first | exact sz_b1))
  have ZZ := Nat.le_trans ZZ Kq.1
  have hV := hV.keep Kq (by simp only [List.mem_cons, List.not_mem_nil, or_false, not_or]; exact ne_a1_b1)
  have hB := hBq
  show Dn p e below _ (T2.setTop (mkF m 12 #[.val (.ref a1), .val (.int (0 : Int32)), .val (.int (Int32.ofNat cs.length)), .val (.ref b1), .unset, .unset] [(.int (Int32.ofNat cs.length))]))
  refine o_istore X2 hx (pc' := 14) (Ls' := #[.val (.ref a1), .val (.int (0 : Int32)), .val (.int (Int32.ofNat cs.length)), .val (.ref b1), .val (.int (Int32.ofNat cs.length)), .unset]) (hb hby d4_12) rfl rfl ?_
  refine o_iload X2 hx (pc' := 16) (hb hby d4_14) rfl rfl ?_
  refine o_iloadN X2 hx (pc' := 17) (hb hby d4_16) rfl rfl ?_
  refine o_icmp_eq X2 hx (pc' := 20) (pt := 57) (hb hby d4_17) rfl (by decide) (by decide) (fun _ => ?_) (fun q => absurd rfl q)
  refine o_aloadN X2 hx (pc' := 58) (hb hby d4_57) rfl rfl rfl ?_
  exact finA X2 hx hlk rfl hret rfl rfl (hb hby d4_58) (by decide) (by decide) ⟨b1, k1, rfl, sz_b1, NN, KK, hB⟩
theorem d6_0 : decode jdk_52_method_15_code 0 = .ok (.iload_n 1, 1) := by decide +kernel
theorem d6_1 : decode jdk_52_method_15_code 1 = .ok (.aload_n 0, 1) := by decide +kernel
theorem d6_2 : decode jdk_52_method_15_code 2 = .ok (.arraylength, 1) := by decide +kernel
theorem d6_3 : decode jdk_52_method_15_code 3 = .ok (.isub, 1) := by decide +kernel
theorem d6_4 : decode jdk_52_method_15_code 4 = .ok (.bipush 31, 2) := by decide +kernel
theorem d6_6 : decode jdk_52_method_15_code 6 = .ok (.iushr, 1) := by decide +kernel
theorem d6_7 : decode jdk_52_method_15_code 7 = .ok (.i2b, 1) := by decide +kernel
theorem d6_8 : decode jdk_52_method_15_code 8 = .ok (.ireturn, 1) := by decide +kernel
theorem pn_6 : plainFor (⟨"java/lang/StringUTF16", "coderFromArrayLen", "([BI)B"⟩ : MethodName) = true := plainFor_of_name (by show plainName "java/lang/StringUTF16" = true; first | (simp [plainName, overriddenIn]; done) | decide +kernel)
theorem ef_6 (m : MethodId) (a1 : Addr) (p2 : Int32) : entryFrame m #[(.ref a1), (.int p2)] 2 = mkF m 0 #[.val (.ref a1), .val (.int p2)] [] := by first | (simp [entryFrame, mkF, argsToLocals, Value.category]; done) | rfl
set_option maxRecDepth 65536 in
set_option maxHeartbeats 40000000 in
theorem rmCA (l : Launch) (Z : State) (a0 : Array Value) (hw : ∀ d ∈ tables_1, d.before a0 Z = true) (h0 : Heap) (n0 : Nat) (Z0 : n0 ≤ h0.size) (a1 : Addr) (p2 : Int32) (k : ClassId) (vs : List Value) (d : Value) (hV : Arv Z h0 a1 k .byte p2 vs d) : Ctr l Z (⟨"java/lang/StringUTF16", "coderFromArrayLen", "([BI)B"⟩ : MethodName) jdk_52_method_15_code 2 (some .byte) [] ({ frames := 0, cells := 0, slots := 0, locals := 0 } : Room) #[(.ref a1), (.int p2)] h0 (Pure (.int 0) h0) := by
  refine ctr_mk pn_6 (own := "java/lang/StringUTF16") (mn := "coderFromArrayLen") rfl rfl ?_
  intro p e s m below meth c T0 X0 hx hby hml hZ hown hnm hret hlk e0
  refine o_entry (ef_6 m a1 p2) ?_
  refine o_iloadN X0 hx (pc' := 1) (hb hby d6_0) rfl rfl ?_
  refine o_aloadN X0 hx (pc' := 2) (hb hby d6_1) rfl rfl rfl ?_
  refine o_arraylength X0 hx hZ e0 hV (hb hby d6_2) (pc' := 3) rfl ?_
  refine o_isub X0 hx (pc' := 4) (hb hby d6_3) rfl ?_
  rw [show (p2 - p2) = (0 : Int32) from Int32.sub_self _]
  refine o_bipush X0 hx (pc' := 6) (v := (31 : Int32)) (hb hby d6_4) rfl rfl ?_
  refine o_iushr X0 hx (pc' := 7) (hb hby d6_6) rfl ?_
  rw [show (((0 : Int32).toUInt32 >>> ((31 : Int32) &&& 31).toUInt32).toInt32) = (0 : Int32) from by decide +kernel]
  refine o_i2b X0 hx (pc' := 8) (hb hby d6_7) rfl ?_
  rw [show ((0 : Int32).toInt8.toInt32) = (0 : Int32) from by decide +kernel]
  exact finN X0 hx hlk (t := .byte) hret (by simp) (hb hby d6_8) (by decide) (by decide) ⟨rfl, rfl, e0⟩
theorem pd_1 : parseMethodDescriptor "([CII)[B" = some ⟨[(.array .char), .int, .int], some (.array .byte)⟩ := by decide +kernel
theorem pd_2 : parseMethodDescriptor "([BI)B" = some ⟨[(.array .byte), .int], some .byte⟩ := by decide +kernel
theorem d2_0 : decode jdk_42_method_149_code 0 = .ok (.aload_n 0, 1) := by decide +kernel
theorem d2_1 : decode jdk_42_method_149_code 1 = .ok (.invokespecial 1, 3) := by decide +kernel
theorem d2_4 : decode jdk_42_method_149_code 4 = .ok (.iload_n 3, 1) := by decide +kernel
theorem d2_5 : decode jdk_42_method_149_code 5 = .ok (.ifCond .ne 22, 3) := by decide +kernel
theorem d2_27 : decode jdk_42_method_149_code 27 = .ok (.getstatic 38, 3) := by decide +kernel
theorem d2_30 : decode jdk_42_method_149_code 30 = .ok (.ifCond .eq 28, 3) := by decide +kernel
theorem d2_33 : decode jdk_42_method_149_code 33 = .ok (.aload_n 1, 1) := by decide +kernel
theorem d2_34 : decode jdk_42_method_149_code 34 = .ok (.iload_n 2, 1) := by decide +kernel
theorem d2_35 : decode jdk_42_method_149_code 35 = .ok (.iload_n 3, 1) := by decide +kernel
theorem d2_36 : decode jdk_42_method_149_code 36 = .ok (.invokestatic 177, 3) := by decide +kernel
theorem d2_39 : decode jdk_42_method_149_code 39 = .ok (.astore 5, 2) := by decide +kernel
theorem d2_41 : decode jdk_42_method_149_code 41 = .ok (.aload_n 0, 1) := by decide +kernel
theorem d2_42 : decode jdk_42_method_149_code 42 = .ok (.aload 5, 2) := by decide +kernel
theorem d2_44 : decode jdk_42_method_149_code 44 = .ok (.iload_n 3, 1) := by decide +kernel
theorem d2_45 : decode jdk_42_method_149_code 45 = .ok (.invokestatic 47, 3) := by decide +kernel
theorem d2_48 : decode jdk_42_method_149_code 48 = .ok (.putfield 15, 3) := by decide +kernel
theorem d2_51 : decode jdk_42_method_149_code 51 = .ok (.aload_n 0, 1) := by decide +kernel
theorem d2_52 : decode jdk_42_method_149_code 52 = .ok (.aload 5, 2) := by decide +kernel
theorem d2_54 : decode jdk_42_method_149_code 54 = .ok (.putfield 9, 3) := by decide +kernel
theorem d2_57 : decode jdk_42_method_149_code 57 = .ok (.return_, 1) := by decide +kernel
theorem pn_2 : plainFor (⟨"java/lang/String", "<init>", "([CIILjava/lang/Void;)V"⟩ : MethodName) = true := plainFor_of_name (by show plainName "java/lang/String" = true; first | (simp [plainName, overriddenIn]; done) | decide +kernel)
theorem ef_2_a1_a2_0_p4_null (m : MethodId) (a1 : Addr) (a2 : Addr) (p4 : Int32) : entryFrame m #[(.ref a1), (.ref a2), (.int (0 : Int32)), (.int p4), .null] 6 = mkF m 0 #[.val (.ref a1), .val (.ref a2), .val (.int (0 : Int32)), .val (.int p4), .val .null, .unset] [] := by first | (simp [entryFrame, mkF, argsToLocals, Value.category]; done) | rfl
set_option maxRecDepth 65536 in
set_option maxHeartbeats 40000000 in
theorem rmSI4 (l : Launch) (Z : State) (a0 : Array Value) (hw : ∀ d ∈ tables_1, d.before a0 Z = true) (h0 : Heap) (n0 : Nat) (Z0 : n0 ≤ h0.size) (a1 : Addr) (a2 : Addr) (p4 : Int32) (cs : List Int32) (hc : ∀ c ∈ cs, ¬ 255 < c) (hl : cs.length ≤ 24) (h1 : 0 < cs.length) (hp : p4 = (Int32.ofNat cs.length)) (k : ClassId) (d : Value) (hV : Arv Z h0 a2 k .char (Int32.ofNat cs.length) (iv cs) d) (u : Value) (u2 : Value) (hE : Exa Z h0 a1 "java/lang/String") (hVa : Fld Z h0 a1 "java/lang/String" "value" "[B" u) (hCo : Fld Z h0 a1 "java/lang/String" "coder" "B" u2) (ga : n0 ≤ a1) (ne : a1 ≠ a2) (cs0 : Int32) (S0 : Sta Z Z.heap "java/lang/String" "COMPACT_STRINGS" "Z" (.int cs0)) (hcs : ¬ cs0 = 0) (O : Old Z n0 h0) : Ctr l Z (⟨"java/lang/String", "<init>", "([CIILjava/lang/Void;)V"⟩ : MethodName) jdk_42_method_149_code 6 none [] ({ frames := 2, cells := 1, slots := 24, locals := 35 } : Room) #[(.ref a1), (.ref a2), (.int (0 : Int32)), (.int p4), .null] h0 (fun v h L => v = none ∧ Fr n0 L ∧ Keep h0 h [a1] ∧ Str Z h h.size a1 (cs.map own_b)) := by
  refine ctr_mk pn_2 (own := "java/lang/String") (mn := "<init>") rfl rfl ?_
  intro p e s m below meth c T0 X0 hx hby hml hZ hown hnm hret hlk e0
  refine o_entry (ef_2_a1_a2_0_p4_null m a1 a2 p4) ?_
  subst hp
  have g_a1 := ga
  have ne_a1_a2 := ne
  have NN := Fr.nil n0
  have ZZ := Z0
  have KK := Keep.refl h0 [a1]
  refine o_aloadN X0 hx (pc' := 1) (hb hby d2_0) rfl rfl rfl ?_
  refine o_initO X0 hx hZ hown (hw _ (List.mem_of_getElem? (i := 18) rfl)) (hw _ (List.mem_of_getElem? (i := 19) rfl)) (hw _ (List.mem_of_getElem? (i := 20) rfl)) e0 (by rw [hml]; rfl) (hb hby d2_1) (pc' := 4) rfl (by decide) (W := 0) (Nat.le_of_eq rfl) (by decide) ?_
  intro T1 X1 e1
  refine o_iloadN X1 hx (pc' := 5) (hb hby d2_4) rfl rfl ?_
  refine o_if_ne X1 hx (pc' := 8) (pt := 27) (hb hby d2_5) rfl (by decide) (by decide) (fun _ => ?_) (fun q => absurd q (own_pos (Nat.le_trans hl (by decide)) h1))
  refine o_getstatic X1 hx hZ hown (hw _ (List.mem_of_getElem? (i := 21) rfl)) e1 (S0.ext O.2) (hb hby d2_27) (pc' := 30) rfl ?_
  intro T2 X2 e2
  refine o_if_eq X2 hx (pc' := 33) (pt := 58) (hb hby d2_30) rfl (by decide) (by decide) (fun q => absurd q hcs) (fun _ => ?_)
  refine o_aloadN X2 hx (pc' := 34) (hb hby d2_33) rfl rfl rfl ?_
  refine o_iloadN X2 hx (pc' := 35) (hb hby d2_34) rfl rfl ?_
  refine o_iloadN X2 hx (pc' := 36) (hb hby d2_35) rfl rfl ?_
  refine o_callS X2 hx hZ [(.ref a2), (.int (0 : Int32)), (.int (Int32.ofNat cs.length))] (rmC3 l Z a0 hw h0 n0 ZZ a2 (Int32.ofNat cs.length) cs hc hl rfl k d hV) hown (hw _ (List.mem_of_getElem? (i := 22) rfl)) (hw _ (List.mem_of_getElem? (i := 23) rfl)) (hw _ (List.mem_of_getElem? (i := 24) rfl)) (hw _ (List.mem_of_getElem? (i := 25) rfl)) (by decide) pd_1 e2 (by rw [hml]; rfl) rfl rfl rfl (hb hby d2_36) (pc' := 39) rfl 0 (Nat.le_of_eq rfl) (by decide) (by decide) (by decide) (by decide) ?_
  intro T3 v3 L3 X3 hQ3
  obtain ⟨b, kb, rfl, gb, Nq, Kq, hB⟩ := hQ3
  have lt_a1_b : a1 < b := Nat.lt_of_lt_of_le hE.lt gb
  have ne_a1_b : a1 ≠ b := Nat.ne_of_lt lt_a1_b
  have lt_a2_b : a2 < b := Nat.lt_of_lt_of_le hV.lt gb
  have ne_a2_b : a2 ≠ b := Nat.ne_of_lt lt_a2_b
  have g_b : n0 ≤ b := Nat.le_trans ZZ gb
  have sz_b : h0.size ≤ b := Nat.le_trans KK.1 gb
  have NN := Fr.app NN Nq
  have KK := KK.trans Kq (fun x hx => nomatch hx)
  have ZZ := Nat.le_trans ZZ Kq.1
  have O := O.keep Kq (fun x hx => nomatch hx)
  have hE := hE.keep Kq
  have hVa := hVa.keep Kq (fun z => nomatch z)
  have hCo := hCo.keep Kq (fun z => nomatch z)
  have hV := hV.keep Kq (fun z => nomatch z)
  show Dn p e below _ (T3.setTop (mkF m 39 #[.val (.ref a1), .val (.ref a2), .val (.int (0 : Int32)), .val (.int (Int32.ofNat cs.length)), .val .null, .unset] [(.ref b)]))
  refine o_astore X3 hx (pc' := 41) (Ls' := #[.val (.ref a1), .val (.ref a2), .val (.int (0 : Int32)), .val (.int (Int32.ofNat cs.length)), .val .null, .val (.ref b)]) (hb hby d2_39) rfl rfl rfl ?_
  refine o_aloadN X3 hx (pc' := 42) (hb hby d2_41) rfl rfl rfl ?_
  refine o_aload X3 hx (pc' := 44) (hb hby d2_42) rfl rfl rfl ?_
  refine o_iloadN X3 hx (pc' := 45) (hb hby d2_44) rfl rfl ?_
  have hBl : Arv Z T3.heap b kb .byte (Int32.ofNat cs.length) (iv (cs.map own_b)) (.int 0) := hB
  refine o_callSP X3 hx hZ [(.ref b), (.int (Int32.ofNat cs.length))] (rmCA l Z a0 hw T3.heap n0 ZZ b (Int32.ofNat cs.length) kb _ _ hBl) hown (hw _ (List.mem_of_getElem? (i := 29) rfl)) (hw _ (List.mem_of_getElem? (i := 30) rfl)) (hw _ (List.mem_of_getElem? (i := 24) rfl)) (hw _ (List.mem_of_getElem? (i := 31) rfl)) (by decide) pd_2 rfl (by rw [hml]; rfl) rfl rfl rfl (hb hby d2_45) (pc' := 48) rfl 1 (Nat.le_of_eq rfl) (by decide) (by decide) rfl rfl (by decide) (by decide) ?_
  intro T4 X4 e4
  show Dn p e below _ (T4.setTop (mkF m 48 #[.val (.ref a1), .val (.ref a2), .val (.int (0 : Int32)), .val (.int (Int32.ofNat cs.length)), .val .null, .val (.ref b)] [(.int (0 : Int32)), (.ref a1)]))
  refine o_putfield X4 hx hZ hown (hw _ (List.mem_of_getElem? (i := 32) rfl)) e4 hCo hE (Or.inr ⟨(hw _ (List.mem_of_getElem? (i := 5) rfl)), rfl, hnm⟩) (hw _ (List.mem_of_getElem? (i := 2) rfl)) (ty := .byte) (v' := (.int (0 : Int32))) (by decide) rfl rfl (hb hby d2_48) (pc' := 51) rfl ?_
  intro T5 h5 X5 e5 W5 F5 E5
  have NN := Fr.snoc X5 NN g_a1
  have KK := KK.wr W5 (Or.inl (List.mem_of_getElem? (i := 0) rfl))
  have ZZ := Nat.le_trans ZZ (Keep.of_wr W5).1
  have O := O.wr W5 g_a1
  have hVa := hVa.other W5 (Or.inr (slot_ne (Or.inr (hw _ (List.mem_of_getElem? (i := 4) rfl))) (Or.inr (hw _ (List.mem_of_getElem? (i := 5) rfl))) (by decide) (t := (.array .byte)) (t' := .byte) (by decide) (by decide)))
  have hV := hV.other W5 ne_a1_a2.symm
  have hB := hB.other W5 ne_a1_b.symm
  have hCo := F5
  have hE := E5
  refine o_aloadN X5 hx (pc' := 52) (hb hby d2_51) rfl rfl rfl ?_
  refine o_aload X5 hx (pc' := 54) (hb hby d2_52) rfl rfl rfl ?_
  refine o_putfield X5 hx hZ hown (hw _ (List.mem_of_getElem? (i := 33) rfl)) e5 hVa hE (Or.inr ⟨(hw _ (List.mem_of_getElem? (i := 4) rfl)), rfl, hnm⟩) (hw _ (List.mem_of_getElem? (i := 2) rfl)) (ty := (.array .byte)) (v' := (.ref b)) (by decide) rfl rfl (hb hby d2_54) (pc' := 57) rfl ?_
  intro T6 h6 X6 e6 W6 F6 E6
  have NN := Fr.snoc X6 NN g_a1
  have KK := KK.wr W6 (Or.inl (List.mem_of_getElem? (i := 0) rfl))
  have ZZ := Nat.le_trans ZZ (Keep.of_wr W6).1
  have O := O.wr W6 g_a1
  have hCo := hCo.other W6 (Or.inr (slot_ne (Or.inr (hw _ (List.mem_of_getElem? (i := 5) rfl))) (Or.inr (hw _ (List.mem_of_getElem? (i := 4) rfl))) (by decide) (t := .byte) (t' := (.array .byte)) (by decide) (by decide)))
  have hV := hV.other W6 ne_a1_a2.symm
  have hB := hB.other W6 ne_a1_b.symm
  have hVa := F6
  have hE := E6
  exact finV X6 hx hlk hret (hb hby d2_57) (by decide) (by decide) ⟨rfl, NN, (by rw [e6]; exact KK), (by rw [e6]; exact ⟨b, kb, hE.lt, hB.lt, hE, hVa, hCo, by rw [show (cs.map own_b).length = cs.length from List.length_map ..]; exact hB⟩)⟩
theorem pd_3 : parseMethodDescriptor "([CIILjava/lang/Void;)V" = some ⟨[(.array .char), .int, .int, (.object "java/lang/Void")], none⟩ := by decide +kernel
theorem d1_0 : decode jdk_42_method_3_code 0 = .ok (.aload_n 0, 1) := by decide +kernel
theorem d1_1 : decode jdk_42_method_3_code 1 = .ok (.aload_n 1, 1) := by decide +kernel
theorem d1_2 : decode jdk_42_method_3_code 2 = .ok (.iconst 0, 1) := by decide +kernel
theorem d1_3 : decode jdk_42_method_3_code 3 = .ok (.aload_n 1, 1) := by decide +kernel
theorem d1_4 : decode jdk_42_method_3_code 4 = .ok (.arraylength, 1) := by decide +kernel
theorem d1_5 : decode jdk_42_method_3_code 5 = .ok (.aconst_null, 1) := by decide +kernel
theorem d1_6 : decode jdk_42_method_3_code 6 = .ok (.invokespecial 27, 3) := by decide +kernel
theorem d1_9 : decode jdk_42_method_3_code 9 = .ok (.return_, 1) := by decide +kernel
theorem pn_1 : plainFor (⟨"java/lang/String", "<init>", "([C)V"⟩ : MethodName) = true := plainFor_of_name (by show plainName "java/lang/String" = true; first | (simp [plainName, overriddenIn]; done) | decide +kernel)
theorem ef_1 (m : MethodId) (a1 : Addr) (a2 : Addr) : entryFrame m #[(.ref a1), (.ref a2)] 2 = mkF m 0 #[.val (.ref a1), .val (.ref a2)] [] := by first | (simp [entryFrame, mkF, argsToLocals, Value.category]; done) | rfl
set_option maxRecDepth 65536 in
set_option maxHeartbeats 40000000 in
theorem rmSI2 (l : Launch) (Z : State) (a0 : Array Value) (hw : ∀ d ∈ tables_1, d.before a0 Z = true) (h0 : Heap) (n0 : Nat) (Z0 : n0 ≤ h0.size) (a1 : Addr) (a2 : Addr) (cs : List Int32) (hc : ∀ c ∈ cs, ¬ 255 < c) (hl : cs.length ≤ 24) (h1 : 0 < cs.length) (k : ClassId) (d : Value) (hV : Arv Z h0 a2 k .char (Int32.ofNat cs.length) (iv cs) d) (u : Value) (u2 : Value) (hE : Exa Z h0 a1 "java/lang/String") (hVa : Fld Z h0 a1 "java/lang/String" "value" "[B" u) (hCo : Fld Z h0 a1 "java/lang/String" "coder" "B" u2) (ga : n0 ≤ a1) (ne : a1 ≠ a2) (cs0 : Int32) (S0 : Sta Z Z.heap "java/lang/String" "COMPACT_STRINGS" "Z" (.int cs0)) (hcs : ¬ cs0 = 0) (O : Old Z n0 h0) : Ctr l Z (⟨"java/lang/String", "<init>", "([C)V"⟩ : MethodName) jdk_42_method_3_code 2 none [] ({ frames := 3, cells := 1, slots := 24, locals := 52 } : Room) #[(.ref a1), (.ref a2)] h0 (fun v h L => v = none ∧ Fr n0 L ∧ Keep h0 h [a1] ∧ Str Z h h.size a1 (cs.map own_b)) := by
  refine ctr_mk pn_1 (own := "java/lang/String") (mn := "<init>") rfl rfl ?_
  intro p e s m below meth c T0 X0 hx hby hml hZ hown hnm hret hlk e0
  refine o_entry (ef_1 m a1 a2) ?_
  refine o_aloadN X0 hx (pc' := 1) (hb hby d1_0) rfl rfl rfl ?_
  refine o_aloadN X0 hx (pc' := 2) (hb hby d1_1) rfl rfl rfl ?_
  refine o_iconst X0 hx (pc' := 3) (v := (0 : Int32)) (hb hby d1_2) rfl rfl ?_
  refine o_aloadN X0 hx (pc' := 4) (hb hby d1_3) rfl rfl rfl ?_
  refine o_arraylength X0 hx hZ e0 hV (hb hby d1_4) (pc' := 5) rfl ?_
  refine o_aconstNull X0 hx (pc' := 6) (hb hby d1_5) rfl ?_
  refine o_callI X0 hx hZ a1 [(.ref a2), (.int (0 : Int32)), (.int (Int32.ofNat cs.length)), .null] (rmSI4 l Z a0 hw h0 n0 Z0 a1 a2 (Int32.ofNat cs.length) cs hc hl h1 rfl k d hV u u2 hE hVa hCo ga ne cs0 S0 hcs O) rfl hown (hw _ (List.mem_of_getElem? (i := 14) rfl)) (hw _ (List.mem_of_getElem? (i := 15) rfl)) (hw _ (List.mem_of_getElem? (i := 1) rfl)) (hw _ (List.mem_of_getElem? (i := 17) rfl)) (by decide) pd_3 e0 (by rw [hml]; rfl) rfl rfl rfl (hb hby d1_6) (pc' := 9) rfl 0 (Nat.le_of_eq rfl) (by decide) (by decide) (by decide) (by decide) ?_
  intro T1 v1 L1 X1 hQ1
  obtain ⟨rfl, Nq, Kq, Sq⟩ := hQ1
  show Dn p e below _ (T1.setTop (mkF m 9 #[.val (.ref a1), .val (.ref a2)] []))
  exact finV X1 hx hlk hret (hb hby d1_9) (by decide) (by decide) ⟨rfl, Nq, Kq, Sq⟩
theorem d15_0 : decode jdk_43_method_3_code 0 = .ok (.iload_n 0, 1) := by decide +kernel
theorem d15_1 : decode jdk_43_method_3_code 1 = .ok (.sipush 255, 3) := by decide +kernel
theorem d15_4 : decode jdk_43_method_3_code 4 = .ok (.if_icmp .gt 7, 3) := by decide +kernel
theorem d15_7 : decode jdk_43_method_3_code 7 = .ok (.iconst 1, 1) := by decide +kernel
theorem d15_8 : decode jdk_43_method_3_code 8 = .ok (.goto 4, 3) := by decide +kernel
theorem d15_11 : decode jdk_43_method_3_code 11 = .ok (.iconst 0, 1) := by decide +kernel
theorem d15_12 : decode jdk_43_method_3_code 12 = .ok (.ireturn, 1) := by decide +kernel
theorem pn_15 : plainFor (⟨"java/lang/StringLatin1", "canEncode", "(C)Z"⟩ : MethodName) = true := plainFor_of_name (by show plainName "java/lang/StringLatin1" = true; first | (simp [plainName, overriddenIn]; done) | decide +kernel)
theorem ef_15 (m : MethodId) (p1 : Int32) : entryFrame m #[(.int p1)] 1 = mkF m 0 #[.val (.int p1)] [] := by first | (simp [entryFrame, mkF, argsToLocals, Value.category]; done) | rfl
def F15 (p1 : Int32) : Int32 := 
  if (255 : Int32) < p1 then (0 : Int32)
  else (1 : Int32)
set_option maxRecDepth 65536 in
set_option maxHeartbeats 40000000 in
theorem rm15 (l : Launch) (Z : State) (a0 : Array Value) (hw : ∀ d ∈ tables_1, d.before a0 Z = true) (h0 : Heap) (p1 : Int32) : Ctr l Z (⟨"java/lang/StringLatin1", "canEncode", "(C)Z"⟩ : MethodName) jdk_43_method_3_code 1 (some .boolean) [] ({ frames := 0, cells := 0, slots := 0, locals := 0 } : Room) #[(.int p1)] h0 (Pure (.int (F15 p1)) h0) := by
  refine ctr_mk pn_15 (own := "java/lang/StringLatin1") (mn := "canEncode") rfl rfl ?_
  intro p e s m below meth c T0 X0 hx hby hml hZ hown hnm hret hlk e0
  refine o_entry (ef_15 m p1) ?_
  refine o_iloadN X0 hx (pc' := 1) (hb hby d15_0) rfl rfl ?_
  refine o_sipush X0 hx (pc' := 4) (v := (255 : Int32)) (hb hby d15_1) rfl rfl ?_
  refine o_icmp_gt X0 hx (pc' := 7) (pt := 11) (hb hby d15_4) rfl (by decide) (by decide) (fun hc4 => ?_) (fun hc4 => ?_)
  · skip
    refine o_iconst X0 hx (pc' := 12) (v := (0 : Int32)) (hb hby d15_11) rfl rfl ?_
    exact finN X0 hx hlk (t := .boolean) hret (by simp) (hb hby d15_12) (by decide) (by decide) ⟨by show some (Value.int _) = some (Value.int (F15 p1)); unfold F15; rw [if_pos hc4]; rfl, rfl, e0⟩
  · skip
    refine o_iconst X0 hx (pc' := 8) (v := (1 : Int32)) (hb hby d15_7) rfl rfl ?_
    refine o_goto X0 hx (pc' := 12) (hb hby d15_8) (by decide) (by decide) ?_
    exact finN X0 hx hlk (t := .boolean) hret (by simp) (hb hby d15_12) (by decide) (by decide) ⟨by show some (Value.int _) = some (Value.int (F15 p1)); unfold F15; rw [if_neg hc4]; rfl, rfl, e0⟩
theorem d16_0 : decode jdk_43_method_46_code 0 = .ok (.iconst 1, 1) := by decide +kernel
theorem d16_1 : decode jdk_43_method_46_code 1 = .ok (.newarray .byte, 2) := by decide +kernel
theorem d16_3 : decode jdk_43_method_46_code 3 = .ok (.dup, 1) := by decide +kernel
theorem d16_4 : decode jdk_43_method_46_code 4 = .ok (.iconst 0, 1) := by decide +kernel
theorem d16_5 : decode jdk_43_method_46_code 5 = .ok (.iload_n 0, 1) := by decide +kernel
theorem d16_6 : decode jdk_43_method_46_code 6 = .ok (.i2b, 1) := by decide +kernel
theorem d16_7 : decode jdk_43_method_46_code 7 = .ok (.bastore, 1) := by decide +kernel
theorem d16_8 : decode jdk_43_method_46_code 8 = .ok (.areturn, 1) := by decide +kernel
theorem pn_16 : plainFor (⟨"java/lang/StringLatin1", "toBytes", "(C)[B"⟩ : MethodName) = true := plainFor_of_name (by show plainName "java/lang/StringLatin1" = true; first | (simp [plainName, overriddenIn]; done) | decide +kernel)
theorem ef_16 (m : MethodId) (p1 : Int32) : entryFrame m #[(.int p1)] 1 = mkF m 0 #[.val (.int p1)] [] := by first | (simp [entryFrame, mkF, argsToLocals, Value.category]; done) | rfl
set_option maxRecDepth 65536 in
set_option maxHeartbeats 40000000 in
theorem rmTB (l : Launch) (Z : State) (a0 : Array Value) (hw : ∀ d ∈ tables_1, d.before a0 Z = true) (h0 : Heap) (n0 : Nat) (Z0 : n0 ≤ h0.size) (p1 : Int32)  : Ctr l Z (⟨"java/lang/StringLatin1", "toBytes", "(C)[B"⟩ : MethodName) jdk_43_method_46_code 1 (some (.array .byte)) [] ({ frames := 0, cells := 1, slots := 1, locals := 0 } : Room) #[(.int p1)] h0 (fun v h L => ∃ (b : Addr) (kb : ClassId), v = some (.ref b) ∧ h0.size ≤ b ∧ Fr n0 L ∧ Keep h0 h [] ∧ Arv Z h b kb .byte 1 (iv [own_b p1]) (.int 0)) := by
  refine ctr_mk pn_16 (own := "java/lang/StringLatin1") (mn := "toBytes") rfl rfl ?_
  intro p e s m below meth c T0 X0 hx hby hml hZ hown hnm hret hlk e0
  refine o_entry (ef_16 m p1) ?_
  have NN := Fr.nil n0
  have ZZ := Z0
  have KK := Keep.refl h0 []
  refine o_iconst X0 hx (pc' := 1) (v := (1 : Int32)) (hb hby d16_0) rfl rfl ?_
  refine o_newarray X0 hx hZ e0 (hw _ (List.mem_of_getElem? (i := 3) rfl)) (hb hby d16_1) (pc' := 3) rfl (by decide) 1 (by decide) (by decide) (by decide) (by decide) ?_
  intro T1 h1 b1 k1 g1 X1 e1 E1 V1
  have g_b1 : n0 ≤ b1 := Nat.le_trans ZZ (Nat.le_of_eq g1.symm)
  have sz_b1 : h0.size ≤ b1 := Nat.le_trans KK.1 (Nat.le_of_eq g1.symm)
  have KK := KK.ext E1
  have ZZ := Nat.le_trans ZZ E1.1
  have hB : Arv Z h1 b1 k1 .byte (1 : Int32) [.int 0] (.int 0) := V1.pad (pad_rep [] _ 1)
  refine o_dup X1 hx (pc' := 4) (hb hby d16_3) rfl rfl ?_
  refine o_iconst X1 hx (pc' := 5) (v := (0 : Int32)) (hb hby d16_4) rfl rfl ?_
  refine o_iloadN X1 hx (pc' := 6) (hb hby d16_5) rfl rfl ?_
  refine o_i2b X1 hx (pc' := 7) (hb hby d16_6) rfl ?_
  refine o_bastore X1 hx hZ e1 hB (by decide) 0 rfl (Nat.le_of_ble_eq_true rfl) (hb hby d16_7) (pc' := 8) rfl ?_
  intro T2 h2 X2 e2 W2 V2
  have NN := Fr.snoc X2 NN g_b1
  have KK := KK.wr W2 (Or.inr sz_b1)
  have ZZ := Nat.le_trans ZZ (Keep.of_wr W2).1
  have hB : Arv Z h2 b1 k1 .byte 1 (iv [own_b p1]) (.int 0) := V2
  exact finA X2 hx hlk rfl hret rfl rfl (hb hby d16_8) (by decide) (by decide) ⟨b1, k1, rfl, sz_b1, NN, (by rw [e2]; exact KK), (by rw [e2]; exact hB)⟩
theorem d17_0 : decode jdk_42_method_151_code 0 = .ok (.aload_n 0, 1) := by decide +kernel
theorem d17_1 : decode jdk_42_method_151_code 1 = .ok (.invokespecial 1, 3) := by decide +kernel
theorem d17_4 : decode jdk_42_method_151_code 4 = .ok (.aload_n 0, 1) := by decide +kernel
theorem d17_5 : decode jdk_42_method_151_code 5 = .ok (.aload_n 1, 1) := by decide +kernel
theorem d17_6 : decode jdk_42_method_151_code 6 = .ok (.putfield 9, 3) := by decide +kernel
theorem d17_9 : decode jdk_42_method_151_code 9 = .ok (.aload_n 0, 1) := by decide +kernel
theorem d17_10 : decode jdk_42_method_151_code 10 = .ok (.iload_n 2, 1) := by decide +kernel
theorem d17_11 : decode jdk_42_method_151_code 11 = .ok (.putfield 15, 3) := by decide +kernel
theorem d17_14 : decode jdk_42_method_151_code 14 = .ok (.return_, 1) := by decide +kernel
theorem pn_17 : plainFor (⟨"java/lang/String", "<init>", "([BB)V"⟩ : MethodName) = true := plainFor_of_name (by show plainName "java/lang/String" = true; first | (simp [plainName, overriddenIn]; done) | decide +kernel)
theorem ef_17_a1_a2_0 (m : MethodId) (a1 : Addr) (a2 : Addr) : entryFrame m #[(.ref a1), (.ref a2), (.int (0 : Int32))] 3 = mkF m 0 #[.val (.ref a1), .val (.ref a2), .val (.int (0 : Int32))] [] := by first | (simp [entryFrame, mkF, argsToLocals, Value.category]; done) | rfl
set_option maxRecDepth 65536 in
set_option maxHeartbeats 40000000 in
theorem rmSB (l : Launch) (Z : State) (a0 : Array Value) (hw : ∀ d ∈ tables_1, d.before a0 Z = true) (h0 : Heap) (n0 : Nat) (Z0 : n0 ≤ h0.size) (a1 : Addr) (a2 : Addr) (u u2 : Value) (hE : Exa Z h0 a1 "java/lang/String") (hVa : Fld Z h0 a1 "java/lang/String" "value" "[B" u) (hCo : Fld Z h0 a1 "java/lang/String" "coder" "B" u2) (ga : n0 ≤ a1) : Ctr l Z (⟨"java/lang/String", "<init>", "([BB)V"⟩ : MethodName) jdk_42_method_151_code 3 none [] ({ frames := 1, cells := 0, slots := 0, locals := 12 } : Room) #[(.ref a1), (.ref a2), (.int (0 : Int32))] h0 (fun v h L => v = none ∧ Fr n0 L ∧ Keep h0 h [a1] ∧ Exa Z h a1 "java/lang/String" ∧ Fld Z h a1 "java/lang/String" "value" "[B" (.ref a2) ∧ Fld Z h a1 "java/lang/String" "coder" "B" (.int 0)) := by
  refine ctr_mk pn_17 (own := "java/lang/String") (mn := "<init>") rfl rfl ?_
  intro p e s m below meth c T0 X0 hx hby hml hZ hown hnm hret hlk e0
  refine o_entry (ef_17_a1_a2_0 m a1 a2) ?_
  have g_a1 := ga
  have NN := Fr.nil n0
  have ZZ := Z0
  have KK := Keep.refl h0 [a1]
  refine o_aloadN X0 hx (pc' := 1) (hb hby d17_0) rfl rfl rfl ?_
  refine o_initO X0 hx hZ hown (hw _ (List.mem_of_getElem? (i := 18) rfl)) (hw _ (List.mem_of_getElem? (i := 19) rfl)) (hw _ (List.mem_of_getElem? (i := 20) rfl)) e0 (by rw [hml]; rfl) (hb hby d17_1) (pc' := 4) rfl (by decide) (W := 0) (Nat.le_of_eq rfl) (by decide) ?_
  intro T1 X1 e1
  refine o_aloadN X1 hx (pc' := 5) (hb hby d17_4) rfl rfl rfl ?_
  refine o_aloadN X1 hx (pc' := 6) (hb hby d17_5) rfl rfl rfl ?_
  refine o_putfield X1 hx hZ hown (hw _ (List.mem_of_getElem? (i := 33) rfl)) e1 hVa hE (Or.inr ⟨(hw _ (List.mem_of_getElem? (i := 4) rfl)), rfl, hnm⟩) (hw _ (List.mem_of_getElem? (i := 2) rfl)) (ty := (.array .byte)) (v' := (.ref a2)) (by decide) rfl rfl (hb hby d17_6) (pc' := 9) rfl ?_
  intro T2 h2 X2 e2 W2 F2 E2
  have NN := Fr.snoc X2 NN g_a1
  have KK := KK.wr W2 (Or.inl (List.mem_of_getElem? (i := 0) rfl))
  have ZZ := Nat.le_trans ZZ (Keep.of_wr W2).1
  have hCo := hCo.other W2 (Or.inr (slot_ne (Or.inr (hw _ (List.mem_of_getElem? (i := 5) rfl))) (Or.inr (hw _ (List.mem_of_getElem? (i := 4) rfl))) (by decide) (t := .byte) (t' := (.array .byte)) (by decide) (by decide)))
  have hVa := F2
  have hE := E2
  refine o_aloadN X2 hx (pc' := 10) (hb hby d17_9) rfl rfl rfl ?_
  refine o_iloadN X2 hx (pc' := 11) (hb hby d17_10) rfl rfl ?_
  refine o_putfield X2 hx hZ hown (hw _ (List.mem_of_getElem? (i := 32) rfl)) e2 hCo hE (Or.inr ⟨(hw _ (List.mem_of_getElem? (i := 5) rfl)), rfl, hnm⟩) (hw _ (List.mem_of_getElem? (i := 2) rfl)) (ty := .byte) (v' := (.int (0 : Int32))) (by decide) rfl rfl (hb hby d17_11) (pc' := 14) rfl ?_
  intro T3 h3 X3 e3 W3 F3 E3
  have NN := Fr.snoc X3 NN g_a1
  have KK := KK.wr W3 (Or.inl (List.mem_of_getElem? (i := 0) rfl))
  have ZZ := Nat.le_trans ZZ (Keep.of_wr W3).1
  have hVa := hVa.other W3 (Or.inr (slot_ne (Or.inr (hw _ (List.mem_of_getElem? (i := 4) rfl))) (Or.inr (hw _ (List.mem_of_getElem? (i := 5) rfl))) (by decide) (t := (.array .byte)) (t' := .byte) (by decide) (by decide)))
  have hCo := F3
  have hE := E3
  exact finV X3 hx hlk hret (hb hby d17_14) (by decide) (by decide) ⟨rfl, NN, (by rw [e3]; exact KK), (by rw [e3]; exact hE), (by rw [e3]; exact hVa), (by rw [e3]; exact hCo)⟩
theorem pd_4 : parseMethodDescriptor "(C)Z" = some ⟨[.char], some .boolean⟩ := by decide +kernel
theorem pd_5 : parseMethodDescriptor "(C)[B" = some ⟨[.char], some (.array .byte)⟩ := by decide +kernel
theorem pd_6 : parseMethodDescriptor "([BB)V" = some ⟨[(.array .byte), .byte], none⟩ := by decide +kernel
theorem d14_0 : decode jdk_42_method_139_code 0 = .ok (.getstatic 38, 3) := by decide +kernel
theorem d14_3 : decode jdk_42_method_139_code 3 = .ok (.ifCond .eq 23, 3) := by decide +kernel
theorem d14_6 : decode jdk_42_method_139_code 6 = .ok (.iload_n 0, 1) := by decide +kernel
theorem d14_7 : decode jdk_42_method_139_code 7 = .ok (.invokestatic 1015, 3) := by decide +kernel
theorem d14_10 : decode jdk_42_method_139_code 10 = .ok (.ifCond .eq 16, 3) := by decide +kernel
theorem d14_13 : decode jdk_42_method_139_code 13 = .ok (.new 10, 3) := by decide +kernel
theorem d14_16 : decode jdk_42_method_139_code 16 = .ok (.dup, 1) := by decide +kernel
theorem d14_17 : decode jdk_42_method_139_code 17 = .ok (.iload_n 0, 1) := by decide +kernel
theorem d14_18 : decode jdk_42_method_139_code 18 = .ok (.invokestatic 1018, 3) := by decide +kernel
theorem d14_21 : decode jdk_42_method_139_code 21 = .ok (.iconst 0, 1) := by decide +kernel
theorem d14_22 : decode jdk_42_method_139_code 22 = .ok (.invokespecial 209, 3) := by decide +kernel
theorem d14_25 : decode jdk_42_method_139_code 25 = .ok (.areturn, 1) := by decide +kernel
theorem pn_14 : plainFor (⟨"java/lang/String", "valueOf", "(C)Ljava/lang/String;"⟩ : MethodName) = true := plainFor_of_name (by show plainName "java/lang/String" = true; first | (simp [plainName, overriddenIn]; done) | decide +kernel)
theorem ef_14 (m : MethodId) (p1 : Int32) : entryFrame m #[(.int p1)] 1 = mkF m 0 #[.val (.int p1)] [] := by first | (simp [entryFrame, mkF, argsToLocals, Value.category]; done) | rfl
set_option maxRecDepth 65536 in
set_option maxHeartbeats 40000000 in
theorem rmVO (l : Launch) (Z : State) (a0 : Array Value) (hw : ∀ d ∈ tables_1, d.before a0 Z = true) (h0 : Heap) (n0 : Nat) (Z0 : n0 ≤ h0.size) (p1 : Int32) (hc : ¬ 255 < p1) (cs0 : Int32) (S0 : Sta Z Z.heap "java/lang/String" "COMPACT_STRINGS" "Z" (.int cs0)) (hcs : ¬ cs0 = 0) (O : Old Z n0 h0) : Ctr l Z (⟨"java/lang/String", "valueOf", "(C)Ljava/lang/String;"⟩ : MethodName) jdk_42_method_139_code 1 (some (.object "java/lang/String")) [] ({ frames := 2, cells := 2, slots := 5, locals := 27 } : Room) #[(.int p1)] h0 (fun v h L => ∃ a : Addr, v = some (.ref a) ∧ h0.size ≤ a ∧ Fr n0 L ∧ Keep h0 h [] ∧ Str Z h h.size a [own_b p1]) := by
  refine ctr_mk pn_14 (own := "java/lang/String") (mn := "valueOf") rfl rfl ?_
  intro p e s m below meth c T0 X0 hx hby hml hZ hown hnm hret hlk e0
  refine o_entry (ef_14 m p1) ?_
  have NN := Fr.nil n0
  have ZZ := Z0
  have KK := Keep.refl h0 []
  refine o_getstatic X0 hx hZ hown (hw _ (List.mem_of_getElem? (i := 21) rfl)) e0 (S0.ext O.2) (hb hby d14_0) (pc' := 3) rfl ?_
  intro T1 X1 e1
  refine o_if_eq X1 hx (pc' := 6) (pt := 26) (hb hby d14_3) rfl (by decide) (by decide) (fun q => absurd q hcs) (fun _ => ?_)
  refine o_iloadN X1 hx (pc' := 7) (hb hby d14_6) rfl rfl ?_
  refine o_callSP X1 hx hZ [(.int p1)] (rm15 l Z a0 hw h0 p1) hown (hw _ (List.mem_of_getElem? (i := 81) rfl)) (hw _ (List.mem_of_getElem? (i := 82) rfl)) (hw _ (List.mem_of_getElem? (i := 76) rfl)) (hw _ (List.mem_of_getElem? (i := 83) rfl)) (by decide) pd_4 e1 (by rw [hml]; rfl) rfl rfl rfl (hb hby d14_7) (pc' := 10) rfl 0 (Nat.le_of_eq rfl) (by decide) (by decide) rfl rfl (by decide) (by decide) ?_
  intro T2 X2 e2
  show Dn p e below _ (T2.setTop (mkF m 10 #[.val (.int p1)] [(.int (F15 p1))]))
  refine o_if_eq X2 hx (pc' := 13) (pt := 26) (hb hby d14_10) rfl (by decide) (by decide) (fun q => absurd q (by unfold F15; rw [if_neg hc]; decide)) (fun _ => ?_)
  refine o_new X2 hx hZ hown (hw _ (List.mem_of_getElem? (i := 73) rfl)) (hw _ (List.mem_of_getElem? (i := 2) rfl)) (hw _ (List.mem_of_getElem? (i := 1) rfl)) e2 (hb hby d14_13) (pc' := 16) rfl (by decide) (by decide) ?_
  intro T3 h3 b3 g3 X3 e3 E3 A3 D3
  have g_b3 : n0 ≤ b3 := Nat.le_trans ZZ (Nat.le_of_eq g3.symm)
  have sz_b3 : h0.size ≤ b3 := Nat.le_trans KK.1 (Nat.le_of_eq g3.symm)
  have KK := KK.ext E3
  have ZZ := Nat.le_trans ZZ E3.1
  have O := O.ext E3
  have hE := A3
  have hVa : Fld Z h3 b3 "java/lang/String" "value" "[B" .null := D3 (Or.inr (hw _ (List.mem_of_getElem? (i := 4) rfl))) (ty := (.array .byte)) (by decide)
  have hCo : Fld Z h3 b3 "java/lang/String" "coder" "B" (.int 0) := D3 (Or.inr (hw _ (List.mem_of_getElem? (i := 5) rfl))) (ty := .byte) (by decide)
  refine o_dup X3 hx (pc' := 17) (hb hby d14_16) rfl rfl ?_
  refine o_iloadN X3 hx (pc' := 18) (hb hby d14_17) rfl rfl ?_
  refine o_callS X3 hx hZ [(.int p1)] (rmTB l Z a0 hw h3 n0 ZZ p1) hown (hw _ (List.mem_of_getElem? (i := 84) rfl)) (hw _ (List.mem_of_getElem? (i := 85) rfl)) (hw _ (List.mem_of_getElem? (i := 76) rfl)) (hw _ (List.mem_of_getElem? (i := 86) rfl)) (by decide) pd_5 e3 (by rw [hml]; rfl) rfl rfl rfl (hb hby d14_18) (pc' := 21) rfl 2 (Nat.le_of_eq rfl) (by decide) (by decide) (by decide) (by decide) ?_
  intro T4 v4 L4 X4 hQ4
  obtain ⟨b, kb, rfl, gb, Nq, Kq, hB⟩ := hQ4
  have lt_b3_b : b3 < b := Nat.lt_of_lt_of_le hVa.lt gb
  have ne_b3_b : b3 ≠ b := Nat.ne_of_lt lt_b3_b
  have g_b : n0 ≤ b := Nat.le_trans ZZ gb
  have sz_b : h0.size ≤ b := Nat.le_trans KK.1 gb
  have NN := Fr.app NN Nq
  have KK := KK.trans Kq (fun x hx => nomatch hx)
  have ZZ := Nat.le_trans ZZ Kq.1
  have O := O.keep Kq (fun x hx => nomatch hx)
  have hVa := hVa.keep Kq (fun z => nomatch z)
  have hCo := hCo.keep Kq (fun z => nomatch z)
  have hE := hE.keep Kq
  show Dn p e below _ (T4.setTop (mkF m 21 #[.val (.int p1)] [(.ref b), (.ref b3), (.ref b3)]))
  refine o_iconst X4 hx (pc' := 22) (v := (0 : Int32)) (hb hby d14_21) rfl rfl ?_
  refine o_callI X4 hx hZ b3 [(.ref b), (.int (0 : Int32))] (rmSB l Z a0 hw T4.heap n0 ZZ b3 b _ _ hE hVa hCo g_b3) rfl hown (hw _ (List.mem_of_getElem? (i := 87) rfl)) (hw _ (List.mem_of_getElem? (i := 88) rfl)) (hw _ (List.mem_of_getElem? (i := 1) rfl)) (hw _ (List.mem_of_getElem? (i := 89) rfl)) (by decide) pd_6 rfl (by rw [hml]; rfl) rfl rfl rfl (hb hby d14_22) (pc' := 25) rfl 1 (Nat.le_of_eq rfl) (by decide) (by decide) (by decide) (by decide) ?_
  intro T5 v5 L5 X5 hQ5
  obtain ⟨rfl, Nr, Kr, rE, rV, rC⟩ := hQ5
  have NN := Fr.app NN Nr
  have KK := KK.trans Kr (by intro x hx; simp only [List.mem_cons, List.not_mem_nil, or_false] at hx; subst hx; first | (left; simp; done) | (right; first | exact sz_b3 | exact sz_b))
  have ZZ := Nat.le_trans ZZ Kr.1
  have O := O.keep Kr (by intro x hx; simp only [List.mem_cons, List.not_mem_nil, or_false] at hx; subst hx; exact g_b3)
  have hE := hE.keep Kr
  have hB := hB.keep Kr (by simp only [List.mem_cons, List.not_mem_nil, or_false, not_or]; exact ne_b3_b.symm)
  have hE := rE
  have hVa := rV
  have hCo := rC
  show Dn p e below _ (T5.setTop (mkF m 25 #[.val (.int p1)] [(.ref b3)]))
  exact finA X5 hx hlk rfl hret rfl rfl (hb hby d14_25) (by decide) (by decide) ⟨b3, rfl, sz_b3, NN, KK, ⟨b, kb, hE.lt, hB.lt, hE, hVa, hCo, hB⟩⟩
theorem d13_0 : decode jdk_43_method_13_code 0 = .ok (.aload_n 0, 1) := by decide +kernel
theorem d13_1 : decode jdk_43_method_13_code 1 = .ok (.arraylength, 1) := by decide +kernel
theorem d13_2 : decode jdk_43_method_13_code 2 = .ok (.aload_n 1, 1) := by decide +kernel
theorem d13_3 : decode jdk_43_method_13_code 3 = .ok (.arraylength, 1) := by decide +kernel
theorem d13_4 : decode jdk_43_method_13_code 4 = .ok (.if_icmp .ne 30, 3) := by decide +kernel
theorem d13_7 : decode jdk_43_method_13_code 7 = .ok (.iconst 0, 1) := by decide +kernel
theorem d13_8 : decode jdk_43_method_13_code 8 = .ok (.istore_n 2, 1) := by decide +kernel
theorem d13_9 : decode jdk_43_method_13_code 9 = .ok (.iload_n 2, 1) := by decide +kernel
theorem d13_10 : decode jdk_43_method_13_code 10 = .ok (.aload_n 0, 1) := by decide +kernel
theorem d13_11 : decode jdk_43_method_13_code 11 = .ok (.arraylength, 1) := by decide +kernel
theorem d13_12 : decode jdk_43_method_13_code 12 = .ok (.if_icmp .ge 20, 3) := by decide +kernel
theorem d13_15 : decode jdk_43_method_13_code 15 = .ok (.aload_n 0, 1) := by decide +kernel
theorem d13_16 : decode jdk_43_method_13_code 16 = .ok (.iload_n 2, 1) := by decide +kernel
theorem d13_17 : decode jdk_43_method_13_code 17 = .ok (.baload, 1) := by decide +kernel
theorem d13_18 : decode jdk_43_method_13_code 18 = .ok (.aload_n 1, 1) := by decide +kernel
theorem d13_19 : decode jdk_43_method_13_code 19 = .ok (.iload_n 2, 1) := by decide +kernel
theorem d13_20 : decode jdk_43_method_13_code 20 = .ok (.baload, 1) := by decide +kernel
theorem d13_21 : decode jdk_43_method_13_code 21 = .ok (.if_icmp .eq 5, 3) := by decide +kernel
theorem d13_24 : decode jdk_43_method_13_code 24 = .ok (.iconst 0, 1) := by decide +kernel
theorem d13_25 : decode jdk_43_method_13_code 25 = .ok (.ireturn, 1) := by decide +kernel
theorem d13_26 : decode jdk_43_method_13_code 26 = .ok (.iinc 2 1, 3) := by decide +kernel
theorem d13_29 : decode jdk_43_method_13_code 29 = .ok (.goto (-20), 3) := by decide +kernel
theorem d13_32 : decode jdk_43_method_13_code 32 = .ok (.iconst 1, 1) := by decide +kernel
theorem d13_33 : decode jdk_43_method_13_code 33 = .ok (.ireturn, 1) := by decide +kernel
theorem d13_34 : decode jdk_43_method_13_code 34 = .ok (.iconst 0, 1) := by decide +kernel
theorem d13_35 : decode jdk_43_method_13_code 35 = .ok (.ireturn, 1) := by decide +kernel
theorem pn_13 : plainFor (⟨"java/lang/StringLatin1", "equals", "([B[B)Z"⟩ : MethodName) = true := plainFor_of_name (by show plainName "java/lang/StringLatin1" = true; first | (simp [plainName, overriddenIn]; done) | decide +kernel)
theorem ef_13 (m : MethodId) (a1 : Addr) (a2 : Addr) : entryFrame m #[(.ref a1), (.ref a2)] 3 = mkF m 0 #[.val (.ref a1), .val (.ref a2), .unset] [] := by first | (simp [entryFrame, mkF, argsToLocals, Value.category]; done) | rfl
set_option maxRecDepth 65536 in
set_option maxHeartbeats 40000000 in
theorem rmLE (l : Launch) (Z : State) (a0 : Array Value) (hw : ∀ d ∈ tables_1, d.before a0 Z = true) (h0 : Heap) (n0 : Nat) (Z0 : n0 ≤ h0.size) (a1 : Addr) (a2 : Addr) (cs ds : List Int32) (hl : cs.length ≤ 24) (hm : ds.length ≤ 24) (k1 k2 : ClassId) (d1 d2 : Value) (hV : Arv Z h0 a1 k1 .byte (Int32.ofNat cs.length) (iv cs) d1) (hW : Arv Z h0 a2 k2 .byte (Int32.ofNat ds.length) (iv ds) d2) : Ctr l Z (⟨"java/lang/StringLatin1", "equals", "([B[B)Z"⟩ : MethodName) jdk_43_method_13_code 3 (some .boolean) [] ({ frames := 0, cells := 0, slots := 0, locals := 0 } : Room) #[(.ref a1), (.ref a2)] h0 (Pure (.int (if cs = ds then 1 else 0)) h0) := by
  refine ctr_mk pn_13 (own := "java/lang/StringLatin1") (mn := "equals") rfl rfl ?_
  intro p e s m below meth c T0 X0 hx hby hml hZ hown hnm hret hlk e0
  refine o_entry (ef_13 m a1 a2) ?_
  refine o_aloadN X0 hx (pc' := 1) (hb hby d13_0) rfl rfl rfl ?_
  refine o_arraylength X0 hx hZ e0 hV (hb hby d13_1) (pc' := 2) rfl ?_
  refine o_aloadN X0 hx (pc' := 3) (hb hby d13_2) rfl rfl rfl ?_
  refine o_arraylength X0 hx hZ e0 hW (hb hby d13_3) (pc' := 4) rfl ?_
  refine o_icmp_ne X0 hx (pc' := 7) (pt := 34) (hb hby d13_4) rfl (by decide) (by decide) (fun hc4 => ?_) (fun hc4 => ?_)
  · skip
    refine o_iconst X0 hx (pc' := 35) (v := (0 : Int32)) (hb hby d13_34) rfl rfl ?_
    exact finN X0 hx hlk (t := .boolean) hret (by simp) (hb hby d13_35) (by decide) (by decide) ⟨by rw [if_neg (fun q => hc4 (by rw [q]))]; rfl, rfl, e0⟩
  · skip
    have hcd : cs.length = ds.length := own_inj (Nat.le_trans hl (by decide)) (Nat.le_trans hm (by decide)) hc4
    refine o_iconst X0 hx (pc' := 8) (v := (0 : Int32)) (hb hby d13_7) rfl rfl ?_
    refine o_istoreN X0 hx (pc' := 9) (Ls' := #[.val (.ref a1), .val (.ref a2), .val (.int (0 : Int32))]) (hb hby d13_8) rfl rfl ?_
    have loop : ∀ r i, i + r = cs.length → cs.take i = ds.take i → Dn p e below (PQ below s (Pure (.int (if cs = ds then 1 else 0)) h0) 0 0) (T0.setTop (mkF m 9 #[.val (.ref a1), .val (.ref a2), .val (.int (Int32.ofNat i))] [])) := by
      intro r
      induction r with
      | zero =>
        intro i hi ht
        obtain rfl : i = cs.length := hi
        have hcd2 : cs = ds := by
          rw [List.take_length] at ht
          rw [hcd, List.take_length] at ht
          exact ht
        refine o_iloadN X0 hx (pc' := 10) (hb hby d13_9) rfl rfl ?_
        refine o_aloadN X0 hx (pc' := 11) (hb hby d13_10) rfl rfl rfl ?_
        refine o_arraylength X0 hx hZ e0 hV (hb hby d13_11) (pc' := 12) rfl ?_
        refine o_icmp_ge X0 hx (pc' := 15) (pt := 32) (hb hby d13_12) rfl (by decide) (by decide) (fun _ => ?_) (fun q => absurd q (fun q => absurd ((own_lt (Nat.le_trans hl (by decide)) (Nat.le_trans hl (by decide))).mp q) (Nat.lt_irrefl _)))
        refine o_iconst X0 hx (pc' := 33) (v := (1 : Int32)) (hb hby d13_32) rfl rfl ?_
        exact finN X0 hx hlk (t := .boolean) hret (by simp) (hb hby d13_33) (by decide) (by decide) ⟨by rw [if_pos hcd2]; rfl, rfl, e0⟩
      | succ r ih =>
        intro i hi ht
        have hi1 : i < cs.length := by omega
        have hi3 : i < ds.length := by omega
        have hi2 : i ≤ 1000 := Nat.le_trans (Nat.le_of_lt hi1) (Nat.le_trans hl (by decide))
        have hlt := (own_lt hi2 (Nat.le_trans hl (by decide))).mpr hi1
        have hlt2 := (own_lt hi2 (Nat.le_trans hm (by decide))).mpr hi3
        refine o_iloadN X0 hx (pc' := 10) (hb hby d13_9) rfl rfl ?_
        refine o_aloadN X0 hx (pc' := 11) (hb hby d13_10) rfl rfl rfl ?_
        refine o_arraylength X0 hx hZ e0 hV (hb hby d13_11) (pc' := 12) rfl ?_
        refine o_icmp_ge X0 hx (pc' := 15) (pt := 32) (hb hby d13_12) rfl (by decide) (by decide) (fun q => absurd hlt q) (fun _ => ?_)
        refine o_aloadN X0 hx (pc' := 16) (hb hby d13_15) rfl rfl rfl ?_
        refine o_iloadN X0 hx (pc' := 17) (hb hby d13_16) rfl rfl ?_
        refine o_baload X0 hx hZ e0 hV ⟨own_nn hi2, hlt⟩ (v := (.int (cs.getD i 0))) (by rw [own_ci hi2]; exact iv_get hi1 _) (hb hby d13_17) (pc' := 18) rfl ?_
        refine o_aloadN X0 hx (pc' := 19) (hb hby d13_18) rfl rfl rfl ?_
        refine o_iloadN X0 hx (pc' := 20) (hb hby d13_19) rfl rfl ?_
        refine o_baload X0 hx hZ e0 hW ⟨own_nn hi2, hlt2⟩ (v := (.int (ds.getD i 0))) (by rw [own_ci hi2]; exact iv_get hi3 _) (hb hby d13_20) (pc' := 21) rfl ?_
        refine o_icmp_eq X0 hx (pc' := 24) (pt := 26) (hb hby d13_21) rfl (by decide) (by decide) (fun hc21 => ?_) (fun hc21 => ?_)
        · skip
          refine o_iinc X0 hx (pc' := 29) (Ls' := #[.val (.ref a1), .val (.ref a2), .val (.int ((Int32.ofNat i) + (1 : Int32)))]) (v := (1 : Int32)) (hb hby d13_26) rfl rfl rfl rfl ?_
          refine o_goto X0 hx (pc' := 9) (hb hby d13_29) (by decide) (by decide) ?_
          rw [own_up i]
          exact ih (i + 1) (by omega) (own_step hi1 hi3 ht hc21)
        · skip
          refine o_iconst X0 hx (pc' := 25) (v := (0 : Int32)) (hb hby d13_24) rfl rfl ?_
          exact finN X0 hx hlk (t := .boolean) hret (by simp) (hb hby d13_25) (by decide) (by decide) ⟨by rw [if_neg (own_nb hcd hc21)]; rfl, rfl, e0⟩
    exact loop cs.length 0 (Nat.zero_add _) rfl
theorem d12_0 : decode jdk_42_method_66_code 0 = .ok (.aload_n 0, 1) := by decide +kernel
theorem d12_1 : decode jdk_42_method_66_code 1 = .ok (.aload_n 1, 1) := by decide +kernel
theorem d12_2 : decode jdk_42_method_66_code 2 = .ok (.if_acmp .ne 5, 3) := by decide +kernel
theorem d12_5 : decode jdk_42_method_66_code 5 = .ok (.iconst 1, 1) := by decide +kernel
theorem d12_6 : decode jdk_42_method_66_code 6 = .ok (.ireturn, 1) := by decide +kernel
theorem pn_12 : plainFor (⟨"java/lang/String", "equals", "(Ljava/lang/Object;)Z"⟩ : MethodName) = true := plainFor_of_name (by show plainName "java/lang/String" = true; first | (simp [plainName, overriddenIn]; done) | decide +kernel)
theorem ef_12_a1_a1 (m : MethodId) (a1 : Addr) (a1 : Addr) : entryFrame m #[(.ref a1), (.ref a1)] 3 = mkF m 0 #[.val (.ref a1), .val (.ref a1), .unset] [] := by first | (simp [entryFrame, mkF, argsToLocals, Value.category]; done) | rfl
set_option maxRecDepth 65536 in
set_option maxHeartbeats 40000000 in
theorem rmSE1 (l : Launch) (Z : State) (a0 : Array Value) (hw : ∀ d ∈ tables_1, d.before a0 Z = true) (h0 : Heap) (n0 : Nat) (Z0 : n0 ≤ h0.size) (a1 : Addr)  : Ctr l Z (⟨"java/lang/String", "equals", "(Ljava/lang/Object;)Z"⟩ : MethodName) jdk_42_method_66_code 3 (some .boolean) [] ({ frames := 0, cells := 0, slots := 0, locals := 0 } : Room) #[(.ref a1), (.ref a1)] h0 (Pure (.int 1) h0) := by
  refine ctr_mk pn_12 (own := "java/lang/String") (mn := "equals") rfl rfl ?_
  intro p e s m below meth c T0 X0 hx hby hml hZ hown hnm hret hlk e0
  refine o_entry (ef_12_a1_a1 m a1 a1) ?_
  refine o_aloadN X0 hx (pc' := 1) (hb hby d12_0) rfl rfl rfl ?_
  refine o_aloadN X0 hx (pc' := 2) (hb hby d12_1) rfl rfl rfl ?_
  refine o_acmp_ne X0 hx (pc' := 5) (pt := 7) (hb hby d12_2) rfl (by decide) (by decide) rfl rfl (fun q => absurd rfl q) (fun _ => ?_)
  refine o_iconst X0 hx (pc' := 6) (v := (1 : Int32)) (hb hby d12_5) rfl rfl ?_
  exact finN X0 hx hlk (t := .boolean) hret (by simp) (hb hby d12_6) (by decide) (by decide) ⟨rfl, rfl, e0⟩
theorem pd_7 : parseMethodDescriptor "([B[B)Z" = some ⟨[(.array .byte), (.array .byte)], some .boolean⟩ := by decide +kernel
theorem d12_7 : decode jdk_42_method_66_code 7 = .ok (.aload_n 1, 1) := by decide +kernel
theorem d12_8 : decode jdk_42_method_66_code 8 = .ok (.instanceof 10, 3) := by decide +kernel
theorem d12_11 : decode jdk_42_method_66_code 11 = .ok (.ifCond .eq 43, 3) := by decide +kernel
theorem d12_14 : decode jdk_42_method_66_code 14 = .ok (.aload_n 1, 1) := by decide +kernel
theorem d12_15 : decode jdk_42_method_66_code 15 = .ok (.checkcast 10, 3) := by decide +kernel
theorem d12_18 : decode jdk_42_method_66_code 18 = .ok (.astore_n 2, 1) := by decide +kernel
theorem d12_19 : decode jdk_42_method_66_code 19 = .ok (.getstatic 38, 3) := by decide +kernel
theorem d12_22 : decode jdk_42_method_66_code 22 = .ok (.ifCond .eq 14, 3) := by decide +kernel
theorem d12_25 : decode jdk_42_method_66_code 25 = .ok (.aload_n 0, 1) := by decide +kernel
theorem d12_26 : decode jdk_42_method_66_code 26 = .ok (.getfield 15, 3) := by decide +kernel
theorem d12_29 : decode jdk_42_method_66_code 29 = .ok (.aload_n 2, 1) := by decide +kernel
theorem d12_30 : decode jdk_42_method_66_code 30 = .ok (.getfield 15, 3) := by decide +kernel
theorem d12_33 : decode jdk_42_method_66_code 33 = .ok (.if_icmp .ne 21, 3) := by decide +kernel
theorem d12_36 : decode jdk_42_method_66_code 36 = .ok (.aload_n 0, 1) := by decide +kernel
theorem d12_37 : decode jdk_42_method_66_code 37 = .ok (.getfield 9, 3) := by decide +kernel
theorem d12_40 : decode jdk_42_method_66_code 40 = .ok (.aload_n 2, 1) := by decide +kernel
theorem d12_41 : decode jdk_42_method_66_code 41 = .ok (.getfield 9, 3) := by decide +kernel
theorem d12_44 : decode jdk_42_method_66_code 44 = .ok (.invokestatic 541, 3) := by decide +kernel
theorem d12_47 : decode jdk_42_method_66_code 47 = .ok (.ifCond .eq 7, 3) := by decide +kernel
theorem d12_50 : decode jdk_42_method_66_code 50 = .ok (.iconst 1, 1) := by decide +kernel
theorem d12_51 : decode jdk_42_method_66_code 51 = .ok (.goto 4, 3) := by decide +kernel
theorem d12_54 : decode jdk_42_method_66_code 54 = .ok (.iconst 0, 1) := by decide +kernel
theorem d12_55 : decode jdk_42_method_66_code 55 = .ok (.ireturn, 1) := by decide +kernel
theorem ef_12 (m : MethodId) (a1 : Addr) (a2 : Addr) : entryFrame m #[(.ref a1), (.ref a2)] 3 = mkF m 0 #[.val (.ref a1), .val (.ref a2), .unset] [] := by first | (simp [entryFrame, mkF, argsToLocals, Value.category]; done) | rfl
set_option maxRecDepth 65536 in
set_option maxHeartbeats 40000000 in
theorem rmSE2 (l : Launch) (Z : State) (a0 : Array Value) (hw : ∀ d ∈ tables_1, d.before a0 Z = true) (h0 : Heap) (n0 : Nat) (Z0 : n0 ≤ h0.size) (a1 : Addr) (a2 : Addr) (cs ds : List Int32) (hl : cs.length ≤ 24) (hm : ds.length ≤ 24) (t1 t2 : Nat) (hS1 : Str Z h0 t1 a1 cs) (hS2 : Str Z h0 t2 a2 ds) (ne : ¬ a1 = a2) (cs0 : Int32) (S0 : Sta Z Z.heap "java/lang/String" "COMPACT_STRINGS" "Z" (.int cs0)) (hcs : ¬ cs0 = 0) (O : Old Z n0 h0) : Ctr l Z (⟨"java/lang/String", "equals", "(Ljava/lang/Object;)Z"⟩ : MethodName) jdk_42_method_66_code 3 (some .boolean) [] ({ frames := 1, cells := 0, slots := 0, locals := 14 } : Room) #[(.ref a1), (.ref a2)] h0 (Pure (.int (if cs = ds then 1 else 0)) h0) := by
  refine ctr_mk pn_12 (own := "java/lang/String") (mn := "equals") rfl rfl ?_
  intro p e s m below meth c T0 X0 hx hby hml hZ hown hnm hret hlk e0
  refine o_entry (ef_12 m a1 a2) ?_
  obtain ⟨b1, k1, -, -, hE1, f1, c1, v1⟩ := hS1
  obtain ⟨b2, k2, -, -, hE2, f2, c2, v2⟩ := hS2
  refine o_aloadN X0 hx (pc' := 1) (hb hby d12_0) rfl rfl rfl ?_
  refine o_aloadN X0 hx (pc' := 2) (hb hby d12_1) rfl rfl rfl ?_
  refine o_acmp_ne X0 hx (pc' := 5) (pt := 7) (hb hby d12_2) rfl (by decide) (by decide) rfl rfl (fun _ => ?_) (fun q => absurd q (fun q => ne (by injection q)))
  refine o_aloadN X0 hx (pc' := 8) (hb hby d12_7) rfl rfl rfl ?_
  obtain ⟨T1, X1, e1, st1⟩ := instY X0 hx hZ hown (hw _ (List.mem_of_getElem? (i := 73) rfl)) e0 (Ins.self hE2) (g := (mkF m 8 #[.val (.ref a1), .val (.ref a2), .unset] [(.ref a2)])) rfl rfl (hb hby d12_8)
  refine go st1 ?_
  show Dn p e below _ (T1.setTop (mkF m 11 #[.val (.ref a1), .val (.ref a2), .unset] [(.int (1 : Int32))]))
  refine o_if_eq X1 hx (pc' := 14) (pt := 54) (hb hby d12_11) rfl (by decide) (by decide) (fun q => absurd q (by decide)) (fun _ => ?_)
  refine o_aloadN X1 hx (pc' := 15) (hb hby d12_14) rfl rfl rfl ?_
  obtain ⟨T2, X2, e2, st2⟩ := castY X1 hx hZ hown (hw _ (List.mem_of_getElem? (i := 73) rfl)) e1 (Ins.self hE2) (g := (mkF m 15 #[.val (.ref a1), .val (.ref a2), .unset] [(.ref a2)])) rfl rfl (hb hby d12_15)
  refine go st2 ?_
  show Dn p e below _ (T2.setTop (mkF m 18 #[.val (.ref a1), .val (.ref a2), .unset] [(.ref a2)]))
  refine o_astoreN X2 hx (pc' := 19) (Ls' := #[.val (.ref a1), .val (.ref a2), .val (.ref a2)]) (hb hby d12_18) rfl rfl rfl ?_
  refine o_getstatic X2 hx hZ hown (hw _ (List.mem_of_getElem? (i := 21) rfl)) e2 (S0.ext O.2) (hb hby d12_19) (pc' := 22) rfl ?_
  intro T3 X3 e3
  refine o_if_eq X3 hx (pc' := 25) (pt := 36) (hb hby d12_22) rfl (by decide) (by decide) (fun q => absurd q hcs) (fun _ => ?_)
  refine o_aloadN X3 hx (pc' := 26) (hb hby d12_25) rfl rfl rfl ?_
  refine o_getfield X3 hx hZ hown (hw _ (List.mem_of_getElem? (i := 32) rfl)) e3 c1 (hb hby d12_26) (pc' := 29) rfl ?_
  intro T4 X4 e4
  refine o_aloadN X4 hx (pc' := 30) (hb hby d12_29) rfl rfl rfl ?_
  refine o_getfield X4 hx hZ hown (hw _ (List.mem_of_getElem? (i := 32) rfl)) e4 c2 (hb hby d12_30) (pc' := 33) rfl ?_
  intro T5 X5 e5
  refine o_icmp_ne X5 hx (pc' := 36) (pt := 54) (hb hby d12_33) rfl (by decide) (by decide) (fun q => absurd (by decide) q) (fun _ => ?_)
  refine o_aloadN X5 hx (pc' := 37) (hb hby d12_36) rfl rfl rfl ?_
  refine o_getfield X5 hx hZ hown (hw _ (List.mem_of_getElem? (i := 33) rfl)) e5 f1 (hb hby d12_37) (pc' := 40) rfl ?_
  intro T6 X6 e6
  refine o_aloadN X6 hx (pc' := 41) (hb hby d12_40) rfl rfl rfl ?_
  refine o_getfield X6 hx hZ hown (hw _ (List.mem_of_getElem? (i := 33) rfl)) e6 f2 (hb hby d12_41) (pc' := 44) rfl ?_
  intro T7 X7 e7
  refine o_callSP X7 hx hZ [(.ref b1), (.ref b2)] (rmLE l Z a0 hw h0 n0 Z0 b1 b2 cs ds hl hm k1 k2 _ _ v1 v2) hown (hw _ (List.mem_of_getElem? (i := 74) rfl)) (hw _ (List.mem_of_getElem? (i := 75) rfl)) (hw _ (List.mem_of_getElem? (i := 76) rfl)) (hw _ (List.mem_of_getElem? (i := 77) rfl)) (by decide) pd_7 e7 (by rw [hml]; rfl) rfl rfl rfl (hb hby d12_44) (pc' := 47) rfl 0 (Nat.le_of_eq rfl) (by decide) (by decide) rfl rfl (by decide) (by decide) ?_
  intro T8 X8 e8
  show Dn p e below _ (T8.setTop (mkF m 47 #[.val (.ref a1), .val (.ref a2), .val (.ref a2)] [(.int (if cs = ds then 1 else 0))]))
  by_cases hq : cs = ds
  · rw [if_pos hq]
    show Dn p e below _ (T8.setTop (mkF m 47 #[.val (.ref a1), .val (.ref a2), .val (.ref a2)] [(.int (1 : Int32))]))
    refine o_if_eq X8 hx (pc' := 50) (pt := 54) (hb hby d12_47) rfl (by decide) (by decide) (fun q => absurd q (by decide)) (fun _ => ?_)
    refine o_iconst X8 hx (pc' := 51) (v := (1 : Int32)) (hb hby d12_50) rfl rfl ?_
    refine o_goto X8 hx (pc' := 55) (hb hby d12_51) (by decide) (by decide) ?_
    exact finN X8 hx hlk (t := .boolean) hret (by simp) (hb hby d12_55) (by decide) (by decide) ⟨rfl, rfl, e8⟩
  · rw [if_neg hq]
    show Dn p e below _ (T8.setTop (mkF m 47 #[.val (.ref a1), .val (.ref a2), .val (.ref a2)] [(.int (0 : Int32))]))
    refine o_if_eq X8 hx (pc' := 50) (pt := 54) (hb hby d12_47) rfl (by decide) (by decide) (fun _ => ?_) (fun q => absurd (by decide) q)
    refine o_iconst X8 hx (pc' := 55) (v := (0 : Int32)) (hb hby d12_54) rfl rfl ?_
    exact finN X8 hx hlk (t := .boolean) hret (by simp) (hb hby d12_55) (by decide) (by decide) ⟨rfl, rfl, e8⟩
theorem own_and (y : Int32) : ∃ k : Fin 256, y &&& (255 : Int32) = Int32.ofNat k.val := by
  refine ⟨⟨y.toBitVec.toNat % 256, Nat.mod_lt _ (by decide)⟩, ?_⟩
  apply Int32.toBitVec_inj.mp
  apply BitVec.eq_of_toNat_eq
  have q : (255 : Nat) = 2 ^ 8 - 1 := rfl
  have e : (y &&& (255 : Int32)).toBitVec.toNat = y.toBitVec.toNat % 256 := by
    rw [Int32.toBitVec_and, BitVec.toNat_and]
    show y.toBitVec.toNat &&& 255 = _
    rw [q, Nat.and_two_pow_sub_one_eq_mod]
  rw [e]
  show y.toBitVec.toNat % 256 = (BitVec.ofNat 32 (y.toBitVec.toNat % 256)).toNat
  rw [BitVec.toNat_ofNat, Nat.mod_eq_of_lt (a := y.toBitVec.toNat % 256)]
  omega
theorem own_tab : ∀ k : Fin 256, (Int32.ofNat k.val).toUInt32.toUInt16.toUInt32.toInt32 = Int32.ofNat k.val ∧ nar .char (Int32.ofNat k.val) = Int32.ofNat k.val ∧ ¬ 255 < Int32.ofNat k.val ∧ own_b (Int32.ofNat k.val) &&& 255 = Int32.ofNat k.val := by decide +kernel
/-- a char below 256 -/
def Chr (c : Int32) : Prop := ∃ k : Fin 256, c = Int32.ofNat k.val
theorem own_c8 (y : Int32) : Chr (y &&& (255 : Int32)).toUInt32.toUInt16.toUInt32.toInt32 := by
  obtain ⟨k, hk⟩ := own_and y
  exact ⟨k, by rw [hk]; exact (own_tab k).1⟩
theorem Chr.le {c : Int32} (h : Chr c) : ¬ 255 < c := by
  obtain ⟨k, rfl⟩ := h
  exact (own_tab k).2.2.1
theorem Chr.nar {c : Int32} (h : Chr c) : nar .char c = c := by
  obtain ⟨k, rfl⟩ := h
  exact (own_tab k).2.1
theorem Chr.back {c : Int32} (h : Chr c) : own_b c &&& 255 = c := by
  obtain ⟨k, rfl⟩ := h
  exact (own_tab k).2.2.2
def TGT : List Int32 := [69, 78, 67, 82, 89, 80, 84, 69, 68, 32, 80, 82, 73, 86, 65, 84, 69, 32, 75, 69, 89]
theorem own_tgt : TGT.map own_b = TGT ∧ (∀ c ∈ TGT, ¬ 255 < c) ∧ TGT.length = 21 := by decide +kernel
theorem own_tj : ∀ j : Fin 21, nar .char ((TGT.getD j.val 0 &&& 255).toUInt32.toUInt16.toUInt32.toInt32) = TGT.getD j.val 0 ∧ TGT.getD j.val 0 &&& 255 = TGT.getD j.val 0 ∧ TGT.set j.val (TGT.getD j.val 0) = TGT := by decide +kernel
theorem own_set {c : Int32} (hc : Chr c) {j : Nat} (hj : j < 21) : ∀ x ∈ TGT.set j c, ¬ 255 < x := by
  intro x hx
  rcases List.mem_or_eq_of_mem_set hx with h | rfl
  · exact own_tgt.2.1 x h
  · exact hc.le
theorem own_eqk {c : Int32} (hc : Chr c) {j : Nat} (hj : j < 21) : (TGT.set j c).map own_b = TGT ↔ c = TGT.getD j 0 := by
  have t := own_tj ⟨j, hj⟩
  constructor
  · intro q
    have e := congrArg (fun l => l.getD j 0) q
    have hl : j < TGT.length := by rw [own_tgt.2.2]; exact hj
    have e1 : ((TGT.set j c).map own_b).getD j 0 = own_b c := by simp [List.getD, hl]
    have e2 : own_b c = TGT.getD j 0 := e1.symm.trans e
    rw [← hc.back, e2]
    exact t.2.1
  · intro q
    rw [q, t.2.2, own_tgt.1]
theorem own_r21 (x : Int32) : ∃ j : Nat, j < 21 ∧ (x &&& (2147483647 : Int32)) % (21 : Int32) = Int32.ofNat j := by
  have e := c_mask x 2147483647 31 (by decide) (by decide)
  have r := (c_irem (x &&& (2147483647 : Int32)) 21 21 (by decide)).1 (by omega)
  have h0 : 0 ≤ ((x &&& (2147483647 : Int32)) % (21 : Int32)).toInt := by omega
  refine ⟨((x &&& (2147483647 : Int32)) % (21 : Int32)).toInt.toNat, by omega, ?_⟩
  apply Int32.toInt_inj.mp
  rw [own_ti (by omega)]
  omega
theorem own_funiq {Z : State} {h : Heap} {a : Addr} {C n d : String} {v w : Value} (F : Fld Z h a C n d v) (G : Fld Z h a C n d w) : v = w := by
  obtain ⟨c1, f1, k1, i1, g1, p1, p2, -, -, -, -, p7⟩ := F
  obtain ⟨c2, f2, k2, i2, g2, q1, q2, -, -, -, -, q7⟩ := G
  cases p1.symm.trans q1
  cases p2.symm.trans q2
  exact Option.some.inj (p7.symm.trans q7)
theorem Str.uniq {Z : State} {h : Heap} {t t' : Nat} {a : Addr} {cs ds : List Int32} (F : Str Z h t a cs) (G : Str Z h t' a ds) (hl : cs.length ≤ 24) (hm : ds.length ≤ 24) : cs = ds := by
  obtain ⟨b, k, -, -, -, f1, -, c, A, -, n1, -, H1, -⟩ := F
  obtain ⟨b', k', -, -, -, f2, -, c', A', -, n2, -, H2, -⟩ := G
  have q := own_funiq f1 f2
  injection q with q
  subst q
  cases A.1.symm.trans A'.1
  rw [own_ci (Nat.le_trans hl (by decide))] at n1
  rw [own_ci (Nat.le_trans hm (by decide))] at n2
  have le : cs.length = ds.length := n1.symm.trans n2
  apply List.ext_getElem le
  intro i h1 h2
  have e1 := H1 i (by omega)
  have e2 := H2 i (by omega)
  rw [iv_get h1] at e1
  rw [iv_get h2] at e2
  have e3 := Option.some.inj (e1.symm.trans e2)
  injection e3 with e3
  simpa [List.getD, h1, h2] using e3
set_option maxRecDepth 65536 in
set_option maxHeartbeats 40000000 in
theorem rmSE1b (l : Launch) (Z : State) (a0 : Array Value) (hw : ∀ d ∈ tables_1, d.before a0 Z = true) (h0 : Heap) (n0 : Nat) (Z0 : n0 ≤ h0.size) (a1 : Addr)  : Ctr l Z (⟨"java/lang/String", "equals", "(Ljava/lang/Object;)Z"⟩ : MethodName) jdk_42_method_66_code 3 (some .boolean) [] ({ frames := 1, cells := 0, slots := 0, locals := 14 } : Room) #[(.ref a1), (.ref a1)] h0 (Pure (.int 1) h0) := by
  refine ctr_mk pn_12 (own := "java/lang/String") (mn := "equals") rfl rfl ?_
  intro p e s m below meth c T0 X0 hx hby hml hZ hown hnm hret hlk e0
  refine o_entry (ef_12_a1_a1 m a1 a1) ?_
  refine o_aloadN X0 hx (pc' := 1) (hb hby d12_0) rfl rfl rfl ?_
  refine o_aloadN X0 hx (pc' := 2) (hb hby d12_1) rfl rfl rfl ?_
  refine o_acmp_ne X0 hx (pc' := 5) (pt := 7) (hb hby d12_2) rfl (by decide) (by decide) rfl rfl (fun q => absurd rfl q) (fun _ => ?_)
  refine o_iconst X0 hx (pc' := 6) (v := (1 : Int32)) (hb hby d12_5) rfl rfl ?_
  exact finN X0 hx hlk (t := .boolean) hret (by simp) (hb hby d12_6) (by decide) (by decide) ⟨rfl, rfl, e0⟩
theorem rmSE3 (l : Launch) (Z : State) (a0 : Array Value) (hw : ∀ d ∈ tables_1, d.before a0 Z = true) (h0 : Heap) (n0 : Nat) (Z0 : n0 ≤ h0.size) (a1 a2 : Addr) (cs ds : List Int32) (hl : cs.length ≤ 24) (hm : ds.length ≤ 24) (t1 t2 : Nat) (hS1 : Str Z h0 t1 a1 cs) (hS2 : Str Z h0 t2 a2 ds) (cs0 : Int32) (S0 : Sta Z Z.heap "java/lang/String" "COMPACT_STRINGS" "Z" (.int cs0)) (hcs : ¬ cs0 = 0) (O : Old Z n0 h0) : Ctr l Z (⟨"java/lang/String", "equals", "(Ljava/lang/Object;)Z"⟩ : MethodName) jdk_42_method_66_code 3 (some .boolean) [] ({ frames := 1, cells := 0, slots := 0, locals := 14 } : Room) #[(.ref a1), (.ref a2)] h0 (Pure (.int (if cs = ds then 1 else 0)) h0) := by
  by_cases ha : a1 = a2
  · subst ha
    rw [if_pos (hS1.uniq hS2 hl hm)]
    exact rmSE1b l Z a0 hw h0 n0 Z0 a1
  · exact rmSE2 l Z a0 hw h0 n0 Z0 a1 a2 cs ds hl hm t1 t2 hS1 hS2 ha cs0 S0 hcs O
theorem d22_0 : decode jdk_41_method_11_code 0 = .ok (.iload_n 0, 1) := by decide +kernel
theorem d22_1 : decode jdk_41_method_11_code 1 = .ok (.ifCond .lt 8, 3) := by decide +kernel
theorem d22_4 : decode jdk_41_method_11_code 4 = .ok (.iload_n 0, 1) := by decide +kernel
theorem d22_5 : decode jdk_41_method_11_code 5 = .ok (.iload_n 1, 1) := by decide +kernel
theorem d22_6 : decode jdk_41_method_11_code 6 = .ok (.if_icmp .lt 10, 3) := by decide +kernel
theorem d22_16 : decode jdk_41_method_11_code 16 = .ok (.iload_n 0, 1) := by decide +kernel
theorem d22_17 : decode jdk_41_method_11_code 17 = .ok (.ireturn, 1) := by decide +kernel
theorem pn_22 : plainFor (⟨"jdk/internal/util/Preconditions", "checkIndex", "(IILjava/util/function/BiFunction;)I"⟩ : MethodName) = true := plainFor_of_name (by show plainName "jdk/internal/util/Preconditions" = true; first | (simp [plainName, overriddenIn]; done) | decide +kernel)
theorem ef_22 (m : MethodId) (p1 : Int32) (p2 : Int32) (a3 : Addr) : entryFrame m #[(.int p1), (.int p2), (.ref a3)] 3 = mkF m 0 #[.val (.int p1), .val (.int p2), .val (.ref a3)] [] := by first | (simp [entryFrame, mkF, argsToLocals, Value.category]; done) | rfl
set_option maxRecDepth 65536 in
set_option maxHeartbeats 40000000 in
theorem rmPCR (l : Launch) (Z : State) (a0 : Array Value) (hw : ∀ d ∈ tables_1, d.before a0 Z = true) (h0 : Heap) (n0 : Nat) (Z0 : n0 ≤ h0.size) (p1 : Int32) (p2 : Int32) (a3 : Addr) (hj : ¬ p1 < 0 ∧ p1 < p2) : Ctr l Z (⟨"jdk/internal/util/Preconditions", "checkIndex", "(IILjava/util/function/BiFunction;)I"⟩ : MethodName) jdk_41_method_11_code 3 (some .int) [] ({ frames := 0, cells := 0, slots := 0, locals := 0 } : Room) #[(.int p1), (.int p2), (.ref a3)] h0 (Pure (.int p1) h0) := by
  refine ctr_mk pn_22 (own := "jdk/internal/util/Preconditions") (mn := "checkIndex") rfl rfl ?_
  intro p e s m below meth c T0 X0 hx hby hml hZ hown hnm hret hlk e0
  refine o_entry (ef_22 m p1 p2 a3) ?_
  refine o_iloadN X0 hx (pc' := 1) (hb hby d22_0) rfl rfl ?_
  refine o_if_lt X0 hx (pc' := 4) (pt := 9) (hb hby d22_1) rfl (by decide) (by decide) (fun q => absurd q hj.1) (fun _ => ?_)
  refine o_iloadN X0 hx (pc' := 5) (hb hby d22_4) rfl rfl ?_
  refine o_iloadN X0 hx (pc' := 6) (hb hby d22_5) rfl rfl ?_
  refine o_icmp_lt X0 hx (pc' := 9) (pt := 16) (hb hby d22_6) rfl (by decide) (by decide) (fun _ => ?_) (fun q => absurd hj.2 q)
  refine o_iloadN X0 hx (pc' := 17) (hb hby d22_16) rfl rfl ?_
  exact finI X0 hx hlk hret (hb hby d22_17) (by decide) (by decide) ⟨rfl, rfl, e0⟩
theorem ef_22_p1_p2_null (m : MethodId) (p1 : Int32) (p2 : Int32) : entryFrame m #[(.int p1), (.int p2), .null] 3 = mkF m 0 #[.val (.int p1), .val (.int p2), .val .null] [] := by first | (simp [entryFrame, mkF, argsToLocals, Value.category]; done) | rfl
set_option maxRecDepth 65536 in
set_option maxHeartbeats 40000000 in
theorem rmPCN (l : Launch) (Z : State) (a0 : Array Value) (hw : ∀ d ∈ tables_1, d.before a0 Z = true) (h0 : Heap) (n0 : Nat) (Z0 : n0 ≤ h0.size) (p1 : Int32) (p2 : Int32) (hj : ¬ p1 < 0 ∧ p1 < p2) : Ctr l Z (⟨"jdk/internal/util/Preconditions", "checkIndex", "(IILjava/util/function/BiFunction;)I"⟩ : MethodName) jdk_41_method_11_code 3 (some .int) [] ({ frames := 0, cells := 0, slots := 0, locals := 0 } : Room) #[(.int p1), (.int p2), .null] h0 (Pure (.int p1) h0) := by
  refine ctr_mk pn_22 (own := "jdk/internal/util/Preconditions") (mn := "checkIndex") rfl rfl ?_
  intro p e s m below meth c T0 X0 hx hby hml hZ hown hnm hret hlk e0
  refine o_entry (ef_22_p1_p2_null m p1 p2) ?_
  refine o_iloadN X0 hx (pc' := 1) (hb hby d22_0) rfl rfl ?_
  refine o_if_lt X0 hx (pc' := 4) (pt := 9) (hb hby d22_1) rfl (by decide) (by decide) (fun q => absurd q hj.1) (fun _ => ?_)
  refine o_iloadN X0 hx (pc' := 5) (hb hby d22_4) rfl rfl ?_
  refine o_iloadN X0 hx (pc' := 6) (hb hby d22_5) rfl rfl ?_
  refine o_icmp_lt X0 hx (pc' := 9) (pt := 16) (hb hby d22_6) rfl (by decide) (by decide) (fun _ => ?_) (fun q => absurd hj.2 q)
  refine o_iloadN X0 hx (pc' := 17) (hb hby d22_16) rfl rfl ?_
  exact finI X0 hx hlk hret (hb hby d22_17) (by decide) (by decide) ⟨rfl, rfl, e0⟩
theorem pd_8 : parseMethodDescriptor "(IILjava/util/function/BiFunction;)I" = some ⟨[.int, .int, (.object "java/util/function/BiFunction")], some .int⟩ := by decide +kernel
theorem d21_0 : decode jdk_42_method_155_code 0 = .ok (.iload_n 0, 1) := by decide +kernel
theorem d21_1 : decode jdk_42_method_155_code 1 = .ok (.iload_n 1, 1) := by decide +kernel
theorem d21_2 : decode jdk_42_method_155_code 2 = .ok (.getstatic 1053, 3) := by decide +kernel
theorem d21_5 : decode jdk_42_method_155_code 5 = .ok (.invokestatic 1059, 3) := by decide +kernel
theorem d21_8 : decode jdk_42_method_155_code 8 = .ok (.pop, 1) := by decide +kernel
theorem d21_9 : decode jdk_42_method_155_code 9 = .ok (.return_, 1) := by decide +kernel
theorem pn_21 : plainFor (⟨"java/lang/String", "checkIndex", "(II)V"⟩ : MethodName) = true := plainFor_of_name (by show plainName "java/lang/String" = true; first | (simp [plainName, overriddenIn]; done) | decide +kernel)
theorem ef_21 (m : MethodId) (p1 : Int32) (p2 : Int32) : entryFrame m #[(.int p1), (.int p2)] 2 = mkF m 0 #[.val (.int p1), .val (.int p2)] [] := by first | (simp [entryFrame, mkF, argsToLocals, Value.category]; done) | rfl
set_option maxRecDepth 65536 in
set_option maxHeartbeats 40000000 in
theorem rmCI (l : Launch) (Z : State) (a0 : Array Value) (hw : ∀ d ∈ tables_1, d.before a0 Z = true) (h0 : Heap) (n0 : Nat) (Z0 : n0 ≤ h0.size) (p1 : Int32) (p2 : Int32) (hj : ¬ p1 < 0 ∧ p1 < p2) (vf : Value) (SF0 : Sta Z Z.heap "jdk/internal/util/Preconditions" "SIOOBE_FORMATTER" "Ljava/util/function/BiFunction;" vf) (hvf : vf.isRef = true) (O : Old Z n0 h0) : Ctr l Z (⟨"java/lang/String", "checkIndex", "(II)V"⟩ : MethodName) jdk_42_method_155_code 2 none [] ({ frames := 1, cells := 0, slots := 0, locals := 14 } : Room) #[(.int p1), (.int p2)] h0 (fun v h L => v = none ∧ L = [] ∧ h = h0) := by
  refine ctr_mk pn_21 (own := "java/lang/String") (mn := "checkIndex") rfl rfl ?_
  intro p e s m below meth c T0 X0 hx hby hml hZ hown hnm hret hlk e0
  refine o_entry (ef_21 m p1 p2) ?_
  obtain rfl | ⟨f, rfl⟩ : vf = .null ∨ ∃ f, vf = .ref f := by cases vf <;> first | exact Or.inl rfl | exact Or.inr ⟨_, rfl⟩ | cases hvf
  · skip
    refine o_iloadN X0 hx (pc' := 1) (hb hby d21_0) rfl rfl ?_
    refine o_iloadN X0 hx (pc' := 2) (hb hby d21_1) rfl rfl ?_
    refine o_getstatic X0 hx hZ hown (hw _ (List.mem_of_getElem? (i := 107) rfl)) e0 (SF0.ext O.2) (hb hby d21_2) (pc' := 5) rfl ?_
    intro T1 X1 e1
    refine o_callSP X1 hx hZ [(.int p1), (.int p2), .null] (rmPCN l Z a0 hw h0 n0 Z0 p1 p2 hj) hown (hw _ (List.mem_of_getElem? (i := 109) rfl)) (hw _ (List.mem_of_getElem? (i := 110) rfl)) (hw _ (List.mem_of_getElem? (i := 108) rfl)) (hw _ (List.mem_of_getElem? (i := 111) rfl)) (by decide) pd_8 e1 (by rw [hml]; rfl) rfl rfl rfl (hb hby d21_5) (pc' := 8) rfl 0 (Nat.le_of_eq rfl) (by decide) (by decide) rfl rfl (by decide) (by decide) ?_
    intro T2 X2 e2
    show Dn p e below _ (T2.setTop (mkF m 8 #[.val (.int p1), .val (.int p2)] [(.int p1)]))
    refine o_pop X2 hx (pc' := 9) (hb hby d21_8) rfl rfl ?_
    exact finV X2 hx hlk hret (hb hby d21_9) (by decide) (by decide) ⟨rfl, rfl, e2⟩
  · skip
    refine o_iloadN X0 hx (pc' := 1) (hb hby d21_0) rfl rfl ?_
    refine o_iloadN X0 hx (pc' := 2) (hb hby d21_1) rfl rfl ?_
    refine o_getstatic X0 hx hZ hown (hw _ (List.mem_of_getElem? (i := 107) rfl)) e0 (SF0.ext O.2) (hb hby d21_2) (pc' := 5) rfl ?_
    intro T3 X3 e3
    refine o_callSP X3 hx hZ [(.int p1), (.int p2), (.ref f)] (rmPCR l Z a0 hw h0 n0 Z0 p1 p2 f hj) hown (hw _ (List.mem_of_getElem? (i := 109) rfl)) (hw _ (List.mem_of_getElem? (i := 110) rfl)) (hw _ (List.mem_of_getElem? (i := 108) rfl)) (hw _ (List.mem_of_getElem? (i := 111) rfl)) (by decide) pd_8 e3 (by rw [hml]; rfl) rfl rfl rfl (hb hby d21_5) (pc' := 8) rfl 0 (Nat.le_of_eq rfl) (by decide) (by decide) rfl rfl (by decide) (by decide) ?_
    intro T4 X4 e4
    show Dn p e below _ (T4.setTop (mkF m 8 #[.val (.int p1), .val (.int p2)] [(.int p1)]))
    refine o_pop X4 hx (pc' := 9) (hb hby d21_8) rfl rfl ?_
    exact finV X4 hx hlk hret (hb hby d21_9) (by decide) (by decide) ⟨rfl, rfl, e4⟩
theorem pd_9 : parseMethodDescriptor "(II)V" = some ⟨[.int, .int], none⟩ := by decide +kernel
theorem d20_0 : decode jdk_43_method_2_code 0 = .ok (.iload_n 1, 1) := by decide +kernel
theorem d20_1 : decode jdk_43_method_2_code 1 = .ok (.aload_n 0, 1) := by decide +kernel
theorem d20_2 : decode jdk_43_method_2_code 2 = .ok (.arraylength, 1) := by decide +kernel
theorem d20_3 : decode jdk_43_method_2_code 3 = .ok (.invokestatic 9, 3) := by decide +kernel
theorem d20_6 : decode jdk_43_method_2_code 6 = .ok (.aload_n 0, 1) := by decide +kernel
theorem d20_7 : decode jdk_43_method_2_code 7 = .ok (.iload_n 1, 1) := by decide +kernel
theorem d20_8 : decode jdk_43_method_2_code 8 = .ok (.baload, 1) := by decide +kernel
theorem d20_9 : decode jdk_43_method_2_code 9 = .ok (.sipush 255, 3) := by decide +kernel
theorem d20_12 : decode jdk_43_method_2_code 12 = .ok (.iand, 1) := by decide +kernel
theorem d20_13 : decode jdk_43_method_2_code 13 = .ok (.i2c, 1) := by decide +kernel
theorem d20_14 : decode jdk_43_method_2_code 14 = .ok (.ireturn, 1) := by decide +kernel
theorem pn_20 : plainFor (⟨"java/lang/StringLatin1", "charAt", "([BI)C"⟩ : MethodName) = true := plainFor_of_name (by show plainName "java/lang/StringLatin1" = true; first | (simp [plainName, overriddenIn]; done) | decide +kernel)
theorem ef_20 (m : MethodId) (a1 : Addr) (p2 : Int32) : entryFrame m #[(.ref a1), (.int p2)] 2 = mkF m 0 #[.val (.ref a1), .val (.int p2)] [] := by first | (simp [entryFrame, mkF, argsToLocals, Value.category]; done) | rfl
set_option maxRecDepth 65536 in
set_option maxHeartbeats 40000000 in
theorem rmLC (l : Launch) (Z : State) (a0 : Array Value) (hw : ∀ d ∈ tables_1, d.before a0 Z = true) (h0 : Heap) (n0 : Nat) (Z0 : n0 ≤ h0.size) (a1 : Addr) (p2 : Int32) (k : ClassId) (z r : Int32) (vs : List Value) (d : Value) (hV : Arv Z h0 a1 k .byte z vs d) (hj : ¬ p2 < 0 ∧ p2 < z) (hv : vs.getD p2.toNatClampNeg d = .int r) (vf : Value) (SF0 : Sta Z Z.heap "jdk/internal/util/Preconditions" "SIOOBE_FORMATTER" "Ljava/util/function/BiFunction;" vf) (hvf : vf.isRef = true) (O : Old Z n0 h0) : Ctr l Z (⟨"java/lang/StringLatin1", "charAt", "([BI)C"⟩ : MethodName) jdk_43_method_2_code 2 (some .char) [] ({ frames := 2, cells := 0, slots := 0, locals := 27 } : Room) #[(.ref a1), (.int p2)] h0 (Pure (.int (nar .char ((r &&& 255).toUInt32.toUInt16.toUInt32.toInt32))) h0) := by
  refine ctr_mk pn_20 (own := "java/lang/StringLatin1") (mn := "charAt") rfl rfl ?_
  intro p e s m below meth c T0 X0 hx hby hml hZ hown hnm hret hlk e0
  refine o_entry (ef_20 m a1 p2) ?_
  refine o_iloadN X0 hx (pc' := 1) (hb hby d20_0) rfl rfl ?_
  refine o_aloadN X0 hx (pc' := 2) (hb hby d20_1) rfl rfl rfl ?_
  refine o_arraylength X0 hx hZ e0 hV (hb hby d20_2) (pc' := 3) rfl ?_
  refine o_callS X0 hx hZ [(.int p2), (.int z)] (rmCI l Z a0 hw h0 n0 Z0 p2 z hj vf SF0 hvf O) hown (hw _ (List.mem_of_getElem? (i := 104) rfl)) (hw _ (List.mem_of_getElem? (i := 105) rfl)) (hw _ (List.mem_of_getElem? (i := 1) rfl)) (hw _ (List.mem_of_getElem? (i := 106) rfl)) (by decide) pd_9 e0 (by rw [hml]; rfl) rfl rfl rfl (hb hby d20_3) (pc' := 6) rfl 0 (Nat.le_of_eq rfl) (by decide) (by decide) (by decide) (by decide) ?_
  intro T1 v1 L1 X1 hQ1
  obtain ⟨rfl, rfl, hh1⟩ := hQ1
  rw [List.append_nil] at X1
  have e1 := hh1
  show Dn p e below _ (T1.setTop (mkF m 6 #[.val (.ref a1), .val (.int p2)] []))
  refine o_aloadN X1 hx (pc' := 7) (hb hby d20_6) rfl rfl rfl ?_
  refine o_iloadN X1 hx (pc' := 8) (hb hby d20_7) rfl rfl ?_
  refine o_baload X1 hx hZ e1 hV hj (v := (.int r)) hv (hb hby d20_8) (pc' := 9) rfl ?_
  refine o_sipush X1 hx (pc' := 12) (v := (255 : Int32)) (hb hby d20_9) rfl rfl ?_
  refine o_iand X1 hx (pc' := 13) (hb hby d20_12) rfl ?_
  refine o_i2c X1 hx (pc' := 14) (hb hby d20_13) rfl ?_
  exact finN X1 hx hlk (t := .char) hret (by simp) (hb hby d20_14) (by decide) (by decide) ⟨rfl, rfl, e1⟩
theorem d19_0 : decode jdk_42_method_154_code 0 = .ok (.getstatic 38, 3) := by decide +kernel
theorem d19_3 : decode jdk_42_method_154_code 3 = .ok (.ifCond .eq 14, 3) := by decide +kernel
theorem d19_6 : decode jdk_42_method_154_code 6 = .ok (.aload_n 0, 1) := by decide +kernel
theorem d19_7 : decode jdk_42_method_154_code 7 = .ok (.getfield 15, 3) := by decide +kernel
theorem d19_10 : decode jdk_42_method_154_code 10 = .ok (.ifCond .ne 7, 3) := by decide +kernel
theorem d19_13 : decode jdk_42_method_154_code 13 = .ok (.iconst 1, 1) := by decide +kernel
theorem d19_14 : decode jdk_42_method_154_code 14 = .ok (.goto 4, 3) := by decide +kernel
theorem d19_18 : decode jdk_42_method_154_code 18 = .ok (.ireturn, 1) := by decide +kernel
theorem pn_19 : plainFor (⟨"java/lang/String", "isLatin1", "()Z"⟩ : MethodName) = true := plainFor_of_name (by show plainName "java/lang/String" = true; first | (simp [plainName, overriddenIn]; done) | decide +kernel)
theorem ef_19 (m : MethodId) (a1 : Addr) : entryFrame m #[(.ref a1)] 1 = mkF m 0 #[.val (.ref a1)] [] := by first | (simp [entryFrame, mkF, argsToLocals, Value.category]; done) | rfl
set_option maxRecDepth 65536 in
set_option maxHeartbeats 40000000 in
theorem rmIL (l : Launch) (Z : State) (a0 : Array Value) (hw : ∀ d ∈ tables_1, d.before a0 Z = true) (h0 : Heap) (n0 : Nat) (Z0 : n0 ≤ h0.size) (a1 : Addr) (hCo : Fld Z h0 a1 "java/lang/String" "coder" "B" (.int 0)) (cs0 : Int32) (S0 : Sta Z Z.heap "java/lang/String" "COMPACT_STRINGS" "Z" (.int cs0)) (hcs : ¬ cs0 = 0) (O : Old Z n0 h0) : Ctr l Z (⟨"java/lang/String", "isLatin1", "()Z"⟩ : MethodName) jdk_42_method_154_code 1 (some .boolean) [] ({ frames := 0, cells := 0, slots := 0, locals := 0 } : Room) #[(.ref a1)] h0 (Pure (.int 1) h0) := by
  refine ctr_mk pn_19 (own := "java/lang/String") (mn := "isLatin1") rfl rfl ?_
  intro p e s m below meth c T0 X0 hx hby hml hZ hown hnm hret hlk e0
  refine o_entry (ef_19 m a1) ?_
  refine o_getstatic X0 hx hZ hown (hw _ (List.mem_of_getElem? (i := 21) rfl)) e0 (S0.ext O.2) (hb hby d19_0) (pc' := 3) rfl ?_
  intro T1 X1 e1
  refine o_if_eq X1 hx (pc' := 6) (pt := 17) (hb hby d19_3) rfl (by decide) (by decide) (fun q => absurd q hcs) (fun _ => ?_)
  refine o_aloadN X1 hx (pc' := 7) (hb hby d19_6) rfl rfl rfl ?_
  refine o_getfield X1 hx hZ hown (hw _ (List.mem_of_getElem? (i := 32) rfl)) e1 hCo (hb hby d19_7) (pc' := 10) rfl ?_
  intro T2 X2 e2
  refine o_if_ne X2 hx (pc' := 13) (pt := 17) (hb hby d19_10) rfl (by decide) (by decide) (fun q => absurd (by decide) q) (fun _ => ?_)
  refine o_iconst X2 hx (pc' := 14) (v := (1 : Int32)) (hb hby d19_13) rfl rfl ?_
  refine o_goto X2 hx (pc' := 18) (hb hby d19_14) (by decide) (by decide) ?_
  exact finN X2 hx hlk (t := .boolean) hret (by simp) (hb hby d19_18) (by decide) (by decide) ⟨rfl, rfl, e2⟩
theorem pd_10 : parseMethodDescriptor "()Z" = some ⟨[], some .boolean⟩ := by decide +kernel
theorem pd_11 : parseMethodDescriptor "([BI)C" = some ⟨[(.array .byte), .int], some .char⟩ := by decide +kernel
theorem d18_0 : decode jdk_42_method_56_code 0 = .ok (.aload_n 0, 1) := by decide +kernel
theorem d18_1 : decode jdk_42_method_56_code 1 = .ok (.invokevirtual 492, 3) := by decide +kernel
theorem d18_4 : decode jdk_42_method_56_code 4 = .ok (.ifCond .eq 12, 3) := by decide +kernel
theorem d18_7 : decode jdk_42_method_56_code 7 = .ok (.aload_n 0, 1) := by decide +kernel
theorem d18_8 : decode jdk_42_method_56_code 8 = .ok (.getfield 9, 3) := by decide +kernel
theorem d18_11 : decode jdk_42_method_56_code 11 = .ok (.iload_n 1, 1) := by decide +kernel
theorem d18_12 : decode jdk_42_method_56_code 12 = .ok (.invokestatic 495, 3) := by decide +kernel
theorem d18_15 : decode jdk_42_method_56_code 15 = .ok (.ireturn, 1) := by decide +kernel
theorem pn_18 : plainFor (⟨"java/lang/String", "charAt", "(I)C"⟩ : MethodName) = true := plainFor_of_name (by show plainName "java/lang/String" = true; first | (simp [plainName, overriddenIn]; done) | decide +kernel)
theorem ef_18 (m : MethodId) (a1 : Addr) (p2 : Int32) : entryFrame m #[(.ref a1), (.int p2)] 2 = mkF m 0 #[.val (.ref a1), .val (.int p2)] [] := by first | (simp [entryFrame, mkF, argsToLocals, Value.category]; done) | rfl
set_option maxRecDepth 65536 in
set_option maxHeartbeats 40000000 in
theorem rmCA2 (l : Launch) (Z : State) (a0 : Array Value) (hw : ∀ d ∈ tables_1, d.before a0 Z = true) (h0 : Heap) (n0 : Nat) (Z0 : n0 ≤ h0.size) (a1 : Addr) (p2 : Int32) (j : Nat) (hp : p2 = Int32.ofNat j) (cs : List Int32) (hl : cs.length ≤ 24) (hj : j < cs.length) (t1 : Nat) (hS1 : Str Z h0 t1 a1 cs) (r : Int32) (hr : nar .char (nar .char ((cs.getD j 0 &&& 255).toUInt32.toUInt16.toUInt32.toInt32)) = r) (cs0 : Int32) (S0 : Sta Z Z.heap "java/lang/String" "COMPACT_STRINGS" "Z" (.int cs0)) (hcs : ¬ cs0 = 0) (O : Old Z n0 h0) (vf : Value) (SF0 : Sta Z Z.heap "jdk/internal/util/Preconditions" "SIOOBE_FORMATTER" "Ljava/util/function/BiFunction;" vf) (hvf : vf.isRef = true) : Ctr l Z (⟨"java/lang/String", "charAt", "(I)C"⟩ : MethodName) jdk_42_method_56_code 2 (some .char) [] ({ frames := 3, cells := 0, slots := 0, locals := 40 } : Room) #[(.ref a1), (.int p2)] h0 (Pure (.int r) h0) := by
  refine ctr_mk pn_18 (own := "java/lang/String") (mn := "charAt") rfl rfl ?_
  intro p e s m below meth c T0 X0 hx hby hml hZ hown hnm hret hlk e0
  refine o_entry (ef_18 m a1 p2) ?_
  subst hp
  obtain ⟨b1, k1, -, -, hE1, f1, c1, v1⟩ := hS1
  have hi2 : j ≤ 1000 := by omega
  have hlt := (own_lt hi2 (Nat.le_trans hl (by decide))).mpr hj
  refine o_aloadN X0 hx (pc' := 1) (hb hby d18_0) rfl rfl rfl ?_
  refine o_callVP X0 hx hZ a1 [] (rmIL l Z a0 hw h0 n0 Z0 a1 c1 cs0 S0 hcs O) hown (hw _ (List.mem_of_getElem? (i := 96) rfl)) (hw _ (List.mem_of_getElem? (i := 97) rfl)) (hw _ (List.mem_of_getElem? (i := 99) rfl)) (hw _ (List.mem_of_getElem? (i := 98) rfl)) (hw _ (List.mem_of_getElem? (i := 1) rfl)) (hw _ (List.mem_of_getElem? (i := 100) rfl)) (by decide) hE1 pd_10 e0 (by rw [hml]; rfl) rfl rfl rfl (hb hby d18_1) (pc' := 4) rfl 0 (Nat.le_of_eq rfl) (by decide) (by decide) rfl rfl (by decide) (by decide) ?_
  intro T1 X1 e1
  show Dn p e below _ (T1.setTop (mkF m 4 #[.val (.ref a1), .val (.int (Int32.ofNat j))] [(.int (1 : Int32))]))
  refine o_if_eq X1 hx (pc' := 7) (pt := 16) (hb hby d18_4) rfl (by decide) (by decide) (fun q => absurd q (by decide)) (fun _ => ?_)
  refine o_aloadN X1 hx (pc' := 8) (hb hby d18_7) rfl rfl rfl ?_
  refine o_getfield X1 hx hZ hown (hw _ (List.mem_of_getElem? (i := 33) rfl)) e1 f1 (hb hby d18_8) (pc' := 11) rfl ?_
  intro T2 X2 e2
  refine o_iloadN X2 hx (pc' := 12) (hb hby d18_11) rfl rfl ?_
  refine o_callSP X2 hx hZ [(.ref b1), (.int (Int32.ofNat j))] (rmLC l Z a0 hw h0 n0 Z0 b1 (Int32.ofNat j) k1 _ (cs.getD j 0) _ _ v1 ⟨own_nn hi2, hlt⟩ (by rw [own_ci hi2]; exact iv_get hj _) vf SF0 hvf O) hown (hw _ (List.mem_of_getElem? (i := 101) rfl)) (hw _ (List.mem_of_getElem? (i := 102) rfl)) (hw _ (List.mem_of_getElem? (i := 76) rfl)) (hw _ (List.mem_of_getElem? (i := 103) rfl)) (by decide) pd_11 e2 (by rw [hml]; rfl) rfl rfl rfl (hb hby d18_12) (pc' := 15) rfl 0 (Nat.le_of_eq rfl) (by decide) (by decide) rfl rfl (by decide) (by decide) ?_
  intro T3 X3 e3
  show Dn p e below _ (T3.setTop (mkF m 15 #[.val (.ref a1), .val (.int (Int32.ofNat j))] [(.int (nar .char ((cs.getD j 0 &&& 255).toUInt32.toUInt16.toUInt32.toInt32)))]))
  exact finN X3 hx hlk (t := .char) hret (by simp) (hb hby d18_15) (by decide) (by decide) ⟨by rw [← hr], rfl, e3⟩
theorem d8_0 : decode jdk_30_method_1_code 0 = .ok (.aload_n 0, 1) := by decide +kernel
theorem d8_1 : decode jdk_30_method_1_code 1 = .ok (.invokespecial 1, 3) := by decide +kernel
theorem d8_4 : decode jdk_30_method_1_code 4 = .ok (.return_, 1) := by decide +kernel
theorem pn_8 : plainFor (⟨"java/lang/Record", "<init>", "()V"⟩ : MethodName) = true := plainFor_of_name (by show plainName "java/lang/Record" = true; first | (simp [plainName, overriddenIn]; done) | decide +kernel)
theorem ef_8 (m : MethodId) (a1 : Addr) : entryFrame m #[(.ref a1)] 1 = mkF m 0 #[.val (.ref a1)] [] := by first | (simp [entryFrame, mkF, argsToLocals, Value.category]; done) | rfl
set_option maxRecDepth 65536 in
set_option maxHeartbeats 40000000 in
theorem rmRI (l : Launch) (Z : State) (a0 : Array Value) (hw : ∀ d ∈ tables_1, d.before a0 Z = true) (h0 : Heap) (n0 : Nat) (Z0 : n0 ≤ h0.size) (a1 : Addr)  : Ctr l Z (⟨"java/lang/Record", "<init>", "()V"⟩ : MethodName) jdk_30_method_1_code 1 none [] ({ frames := 1, cells := 0, slots := 0, locals := 12 } : Room) #[(.ref a1)] h0 (fun v h L => v = none ∧ L = [] ∧ h = h0) := by
  refine ctr_mk pn_8 (own := "java/lang/Record") (mn := "<init>") rfl rfl ?_
  intro p e s m below meth c T0 X0 hx hby hml hZ hown hnm hret hlk e0
  refine o_entry (ef_8 m a1) ?_
  refine o_aloadN X0 hx (pc' := 1) (hb hby d8_0) rfl rfl rfl ?_
  refine o_initO X0 hx hZ hown (hw _ (List.mem_of_getElem? (i := 45) rfl)) (hw _ (List.mem_of_getElem? (i := 19) rfl)) (hw _ (List.mem_of_getElem? (i := 20) rfl)) e0 (by rw [hml]; rfl) (hb hby d8_1) (pc' := 4) rfl (by decide) (W := 0) (Nat.le_of_eq rfl) (by decide) ?_
  intro T1 X1 e1
  exact finV X1 hx hlk hret (hb hby d8_4) (by decide) (by decide) ⟨rfl, rfl, e1⟩
theorem pd_12 : parseMethodDescriptor "()V" = some ⟨[], none⟩ := by decide +kernel
theorem d7_0 : decode prog_38_method_1_code 0 = .ok (.aload_n 0, 1) := by decide +kernel
theorem d7_1 : decode prog_38_method_1_code 1 = .ok (.invokespecial 1, 3) := by decide +kernel
theorem d7_4 : decode prog_38_method_1_code 4 = .ok (.aload_n 0, 1) := by decide +kernel
theorem d7_5 : decode prog_38_method_1_code 5 = .ok (.aload_n 1, 1) := by decide +kernel
theorem d7_6 : decode prog_38_method_1_code 6 = .ok (.putfield 7, 3) := by decide +kernel
theorem d7_9 : decode prog_38_method_1_code 9 = .ok (.aload_n 0, 1) := by decide +kernel
theorem d7_10 : decode prog_38_method_1_code 10 = .ok (.iload_n 2, 1) := by decide +kernel
theorem d7_11 : decode prog_38_method_1_code 11 = .ok (.putfield 13, 3) := by decide +kernel
theorem d7_14 : decode prog_38_method_1_code 14 = .ok (.aload_n 0, 1) := by decide +kernel
theorem d7_15 : decode prog_38_method_1_code 15 = .ok (.aload_n 3, 1) := by decide +kernel
theorem d7_16 : decode prog_38_method_1_code 16 = .ok (.putfield 17, 3) := by decide +kernel
theorem d7_19 : decode prog_38_method_1_code 19 = .ok (.return_, 1) := by decide +kernel
theorem pn_7 : plainFor (⟨"com/example/shelfkey/shelfkey/http/Pem$Block", "<init>", "(Ljava/lang/String;Z[B)V"⟩ : MethodName) = true := plainFor_of_name (by show plainName "com/example/shelfkey/shelfkey/http/Pem$Block" = true; first | (simp [plainName, overriddenIn]; done) | decide +kernel)
theorem ef_7_a1_a2_0_a4 (m : MethodId) (a1 : Addr) (a2 : Addr) (a4 : Addr) : entryFrame m #[(.ref a1), (.ref a2), (.int (0 : Int32)), (.ref a4)] 4 = mkF m 0 #[.val (.ref a1), .val (.ref a2), .val (.int (0 : Int32)), .val (.ref a4)] [] := by first | (simp [entryFrame, mkF, argsToLocals, Value.category]; done) | rfl
set_option maxRecDepth 65536 in
set_option maxHeartbeats 40000000 in
theorem rmPB0 (l : Launch) (Z : State) (a0 : Array Value) (hw : ∀ d ∈ tables_1, d.before a0 Z = true) (h0 : Heap) (n0 : Nat) (Z0 : n0 ≤ h0.size) (a1 : Addr) (a2 : Addr) (a4 : Addr) (hE : Exa Z h0 a1 "com/example/shelfkey/shelfkey/http/Pem$Block") (hL : Fld Z h0 a1 "com/example/shelfkey/shelfkey/http/Pem$Block" "label" "Ljava/lang/String;" .null) (hN : Fld Z h0 a1 "com/example/shelfkey/shelfkey/http/Pem$Block" "encrypted" "Z" (.int 0)) (hC : Fld Z h0 a1 "com/example/shelfkey/shelfkey/http/Pem$Block" "contents" "[B" .null) (ga : n0 ≤ a1) : Ctr l Z (⟨"com/example/shelfkey/shelfkey/http/Pem$Block", "<init>", "(Ljava/lang/String;Z[B)V"⟩ : MethodName) prog_38_method_1_code 4 none [] ({ frames := 2, cells := 0, slots := 0, locals := 24 } : Room) #[(.ref a1), (.ref a2), (.int (0 : Int32)), (.ref a4)] h0 (fun v h L => v = none ∧ Fr n0 L ∧ Keep h0 h [a1] ∧ Exa Z h a1 "com/example/shelfkey/shelfkey/http/Pem$Block" ∧ Fld Z h a1 "com/example/shelfkey/shelfkey/http/Pem$Block" "label" "Ljava/lang/String;" (.ref a2) ∧ Fld Z h a1 "com/example/shelfkey/shelfkey/http/Pem$Block" "encrypted" "Z" (.int 0)) := by
  refine ctr_mk pn_7 (own := "com/example/shelfkey/shelfkey/http/Pem$Block") (mn := "<init>") rfl rfl ?_
  intro p e s m below meth c T0 X0 hx hby hml hZ hown hnm hret hlk e0
  refine o_entry (ef_7_a1_a2_0_a4 m a1 a2 a4) ?_
  have g_a1 := ga
  have NN := Fr.nil n0
  have ZZ := Z0
  have KK := Keep.refl h0 [a1]
  refine o_aloadN X0 hx (pc' := 1) (hb hby d7_0) rfl rfl rfl ?_
  refine o_callI X0 hx hZ a1 [] (rmRI l Z a0 hw h0 n0 Z0 a1) rfl hown (hw _ (List.mem_of_getElem? (i := 40) rfl)) (hw _ (List.mem_of_getElem? (i := 41) rfl)) (hw _ (List.mem_of_getElem? (i := 43) rfl)) (hw _ (List.mem_of_getElem? (i := 44) rfl)) (by decide) pd_12 e0 (by rw [hml]; rfl) rfl rfl rfl (hb hby d7_1) (pc' := 4) rfl 0 (Nat.le_of_eq rfl) (by decide) (by decide) (by decide) (by decide) ?_
  intro T1 v1 L1 X1 hQ1
  obtain ⟨rfl, rfl, hh1⟩ := hQ1
  rw [List.append_nil] at X1
  have e1 := hh1
  show Dn p e below _ (T1.setTop (mkF m 4 #[.val (.ref a1), .val (.ref a2), .val (.int (0 : Int32)), .val (.ref a4)] []))
  refine o_aloadN X1 hx (pc' := 5) (hb hby d7_4) rfl rfl rfl ?_
  refine o_aloadN X1 hx (pc' := 6) (hb hby d7_5) rfl rfl rfl ?_
  refine o_putfield X1 hx hZ hown (hw _ (List.mem_of_getElem? (i := 46) rfl)) e1 hL hE (Or.inr ⟨(hw _ (List.mem_of_getElem? (i := 47) rfl)), rfl, hnm⟩) (hw _ (List.mem_of_getElem? (i := 35) rfl)) (ty := (.object "java/lang/String")) (v' := (.ref a2)) (by decide) rfl rfl (hb hby d7_6) (pc' := 9) rfl ?_
  intro T2 h2 X2 e2 W2 F2 E2
  have NN := Fr.snoc X2 NN g_a1
  have KK := KK.wr W2 (Or.inl (List.mem_of_getElem? (i := 0) rfl))
  have ZZ := Nat.le_trans ZZ (Keep.of_wr W2).1
  have hN := hN.other W2 (Or.inr (slot_ne (Or.inr (hw _ (List.mem_of_getElem? (i := 49) rfl))) (Or.inr (hw _ (List.mem_of_getElem? (i := 47) rfl))) (by decide) (t := .boolean) (t' := (.object "java/lang/String")) (by decide) (by decide)))
  have hC := hC.other W2 (Or.inr (slot_ne (Or.inr (hw _ (List.mem_of_getElem? (i := 51) rfl))) (Or.inr (hw _ (List.mem_of_getElem? (i := 47) rfl))) (by decide) (t := (.array .byte)) (t' := (.object "java/lang/String")) (by decide) (by decide)))
  have hL := F2
  have hE := E2
  refine o_aloadN X2 hx (pc' := 10) (hb hby d7_9) rfl rfl rfl ?_
  refine o_iloadN X2 hx (pc' := 11) (hb hby d7_10) rfl rfl ?_
  refine o_putfield X2 hx hZ hown (hw _ (List.mem_of_getElem? (i := 48) rfl)) e2 hN hE (Or.inr ⟨(hw _ (List.mem_of_getElem? (i := 49) rfl)), rfl, hnm⟩) (hw _ (List.mem_of_getElem? (i := 35) rfl)) (ty := .boolean) (v' := (.int (0 : Int32))) (by decide) rfl rfl (hb hby d7_11) (pc' := 14) rfl ?_
  intro T3 h3 X3 e3 W3 F3 E3
  have NN := Fr.snoc X3 NN g_a1
  have KK := KK.wr W3 (Or.inl (List.mem_of_getElem? (i := 0) rfl))
  have ZZ := Nat.le_trans ZZ (Keep.of_wr W3).1
  have hL := hL.other W3 (Or.inr (slot_ne (Or.inr (hw _ (List.mem_of_getElem? (i := 47) rfl))) (Or.inr (hw _ (List.mem_of_getElem? (i := 49) rfl))) (by decide) (t := (.object "java/lang/String")) (t' := .boolean) (by decide) (by decide)))
  have hC := hC.other W3 (Or.inr (slot_ne (Or.inr (hw _ (List.mem_of_getElem? (i := 51) rfl))) (Or.inr (hw _ (List.mem_of_getElem? (i := 49) rfl))) (by decide) (t := (.array .byte)) (t' := .boolean) (by decide) (by decide)))
  have hN := F3
  have hE := E3
  refine o_aloadN X3 hx (pc' := 15) (hb hby d7_14) rfl rfl rfl ?_
  refine o_aloadN X3 hx (pc' := 16) (hb hby d7_15) rfl rfl rfl ?_
  refine o_putfield X3 hx hZ hown (hw _ (List.mem_of_getElem? (i := 50) rfl)) e3 hC hE (Or.inr ⟨(hw _ (List.mem_of_getElem? (i := 51) rfl)), rfl, hnm⟩) (hw _ (List.mem_of_getElem? (i := 35) rfl)) (ty := (.array .byte)) (v' := (.ref a4)) (by decide) rfl rfl (hb hby d7_16) (pc' := 19) rfl ?_
  intro T4 h4 X4 e4 W4 F4 E4
  have NN := Fr.snoc X4 NN g_a1
  have KK := KK.wr W4 (Or.inl (List.mem_of_getElem? (i := 0) rfl))
  have ZZ := Nat.le_trans ZZ (Keep.of_wr W4).1
  have hL := hL.other W4 (Or.inr (slot_ne (Or.inr (hw _ (List.mem_of_getElem? (i := 47) rfl))) (Or.inr (hw _ (List.mem_of_getElem? (i := 51) rfl))) (by decide) (t := (.object "java/lang/String")) (t' := (.array .byte)) (by decide) (by decide)))
  have hN := hN.other W4 (Or.inr (slot_ne (Or.inr (hw _ (List.mem_of_getElem? (i := 49) rfl))) (Or.inr (hw _ (List.mem_of_getElem? (i := 51) rfl))) (by decide) (t := .boolean) (t' := (.array .byte)) (by decide) (by decide)))
  have hC := F4
  have hE := E4
  exact finV X4 hx hlk hret (hb hby d7_19) (by decide) (by decide) ⟨rfl, NN, (by rw [e4]; exact KK), (by rw [e4]; exact hE), (by rw [e4]; exact hL), (by rw [e4]; exact hN)⟩
theorem d10_0 : decode prog_38_method_6_code 0 = .ok (.aload_n 0, 1) := by decide +kernel
theorem d10_1 : decode prog_38_method_6_code 1 = .ok (.getfield 13, 3) := by decide +kernel
theorem d10_4 : decode prog_38_method_6_code 4 = .ok (.ireturn, 1) := by decide +kernel
theorem pn_10 : plainFor (⟨"com/example/shelfkey/shelfkey/http/Pem$Block", "encrypted", "()Z"⟩ : MethodName) = true := plainFor_of_name (by show plainName "com/example/shelfkey/shelfkey/http/Pem$Block" = true; first | (simp [plainName, overriddenIn]; done) | decide +kernel)
theorem ef_10 (m : MethodId) (a1 : Addr) : entryFrame m #[(.ref a1)] 1 = mkF m 0 #[.val (.ref a1)] [] := by first | (simp [entryFrame, mkF, argsToLocals, Value.category]; done) | rfl
set_option maxRecDepth 65536 in
set_option maxHeartbeats 40000000 in
theorem rmGE0 (l : Launch) (Z : State) (a0 : Array Value) (hw : ∀ d ∈ tables_1, d.before a0 Z = true) (h0 : Heap) (n0 : Nat) (Z0 : n0 ≤ h0.size) (a1 : Addr) (hF : Fld Z h0 a1 "com/example/shelfkey/shelfkey/http/Pem$Block" "encrypted" "Z" (.int (0 : Int32))) : Ctr l Z (⟨"com/example/shelfkey/shelfkey/http/Pem$Block", "encrypted", "()Z"⟩ : MethodName) prog_38_method_6_code 1 (some .boolean) [] ({ frames := 0, cells := 0, slots := 0, locals := 0 } : Room) #[(.ref a1)] h0 (Pure (.int 0) h0) := by
  refine ctr_mk pn_10 (own := "com/example/shelfkey/shelfkey/http/Pem$Block") (mn := "encrypted") rfl rfl ?_
  intro p e s m below meth c T0 X0 hx hby hml hZ hown hnm hret hlk e0
  refine o_entry (ef_10 m a1) ?_
  refine o_aloadN X0 hx (pc' := 1) (hb hby d10_0) rfl rfl rfl ?_
  refine o_getfield X0 hx hZ hown (hw _ (List.mem_of_getElem? (i := 48) rfl)) e0 hF (hb hby d10_1) (pc' := 4) rfl ?_
  intro T1 X1 e1
  exact finN X1 hx hlk (t := .boolean) hret (by simp) (hb hby d10_4) (by decide) (by decide) ⟨rfl, rfl, e1⟩
theorem ef_7_a1_a2_1_a4 (m : MethodId) (a1 : Addr) (a2 : Addr) (a4 : Addr) : entryFrame m #[(.ref a1), (.ref a2), (.int (1 : Int32)), (.ref a4)] 4 = mkF m 0 #[.val (.ref a1), .val (.ref a2), .val (.int (1 : Int32)), .val (.ref a4)] [] := by first | (simp [entryFrame, mkF, argsToLocals, Value.category]; done) | rfl
set_option maxRecDepth 65536 in
set_option maxHeartbeats 40000000 in
theorem rmPB1 (l : Launch) (Z : State) (a0 : Array Value) (hw : ∀ d ∈ tables_1, d.before a0 Z = true) (h0 : Heap) (n0 : Nat) (Z0 : n0 ≤ h0.size) (a1 : Addr) (a2 : Addr) (a4 : Addr) (hE : Exa Z h0 a1 "com/example/shelfkey/shelfkey/http/Pem$Block") (hL : Fld Z h0 a1 "com/example/shelfkey/shelfkey/http/Pem$Block" "label" "Ljava/lang/String;" .null) (hN : Fld Z h0 a1 "com/example/shelfkey/shelfkey/http/Pem$Block" "encrypted" "Z" (.int 0)) (hC : Fld Z h0 a1 "com/example/shelfkey/shelfkey/http/Pem$Block" "contents" "[B" .null) (ga : n0 ≤ a1) : Ctr l Z (⟨"com/example/shelfkey/shelfkey/http/Pem$Block", "<init>", "(Ljava/lang/String;Z[B)V"⟩ : MethodName) prog_38_method_1_code 4 none [] ({ frames := 2, cells := 0, slots := 0, locals := 24 } : Room) #[(.ref a1), (.ref a2), (.int (1 : Int32)), (.ref a4)] h0 (fun v h L => v = none ∧ Fr n0 L ∧ Keep h0 h [a1] ∧ Exa Z h a1 "com/example/shelfkey/shelfkey/http/Pem$Block" ∧ Fld Z h a1 "com/example/shelfkey/shelfkey/http/Pem$Block" "label" "Ljava/lang/String;" (.ref a2) ∧ Fld Z h a1 "com/example/shelfkey/shelfkey/http/Pem$Block" "encrypted" "Z" (.int 1)) := by
  refine ctr_mk pn_7 (own := "com/example/shelfkey/shelfkey/http/Pem$Block") (mn := "<init>") rfl rfl ?_
  intro p e s m below meth c T0 X0 hx hby hml hZ hown hnm hret hlk e0
  refine o_entry (ef_7_a1_a2_1_a4 m a1 a2 a4) ?_
  have g_a1 := ga
  have NN := Fr.nil n0
  have ZZ := Z0
  have KK := Keep.refl h0 [a1]
  refine o_aloadN X0 hx (pc' := 1) (hb hby d7_0) rfl rfl rfl ?_
  refine o_callI X0 hx hZ a1 [] (rmRI l Z a0 hw h0 n0 Z0 a1) rfl hown (hw _ (List.mem_of_getElem? (i := 40) rfl)) (hw _ (List.mem_of_getElem? (i := 41) rfl)) (hw _ (List.mem_of_getElem? (i := 43) rfl)) (hw _ (List.mem_of_getElem? (i := 44) rfl)) (by decide) pd_12 e0 (by rw [hml]; rfl) rfl rfl rfl (hb hby d7_1) (pc' := 4) rfl 0 (Nat.le_of_eq rfl) (by decide) (by decide) (by decide) (by decide) ?_
  intro T1 v1 L1 X1 hQ1
  obtain ⟨rfl, rfl, hh1⟩ := hQ1
  rw [List.append_nil] at X1
  have e1 := hh1
  show Dn p e below _ (T1.setTop (mkF m 4 #[.val (.ref a1), .val (.ref a2), .val (.int (1 : Int32)), .val (.ref a4)] []))
  refine o_aloadN X1 hx (pc' := 5) (hb hby d7_4) rfl rfl rfl ?_
  refine o_aloadN X1 hx (pc' := 6) (hb hby d7_5) rfl rfl rfl ?_
  refine o_putfield X1 hx hZ hown (hw _ (List.mem_of_getElem? (i := 46) rfl)) e1 hL hE (Or.inr ⟨(hw _ (List.mem_of_getElem? (i := 47) rfl)), rfl, hnm⟩) (hw _ (List.mem_of_getElem? (i := 35) rfl)) (ty := (.object "java/lang/String")) (v' := (.ref a2)) (by decide) rfl rfl (hb hby d7_6) (pc' := 9) rfl ?_
  intro T2 h2 X2 e2 W2 F2 E2
  have NN := Fr.snoc X2 NN g_a1
  have KK := KK.wr W2 (Or.inl (List.mem_of_getElem? (i := 0) rfl))
  have ZZ := Nat.le_trans ZZ (Keep.of_wr W2).1
  have hN := hN.other W2 (Or.inr (slot_ne (Or.inr (hw _ (List.mem_of_getElem? (i := 49) rfl))) (Or.inr (hw _ (List.mem_of_getElem? (i := 47) rfl))) (by decide) (t := .boolean) (t' := (.object "java/lang/String")) (by decide) (by decide)))
  have hC := hC.other W2 (Or.inr (slot_ne (Or.inr (hw _ (List.mem_of_getElem? (i := 51) rfl))) (Or.inr (hw _ (List.mem_of_getElem? (i := 47) rfl))) (by decide) (t := (.array .byte)) (t' := (.object "java/lang/String")) (by decide) (by decide)))
  have hL := F2
  have hE := E2
  refine o_aloadN X2 hx (pc' := 10) (hb hby d7_9) rfl rfl rfl ?_
  refine o_iloadN X2 hx (pc' := 11) (hb hby d7_10) rfl rfl ?_
  refine o_putfield X2 hx hZ hown (hw _ (List.mem_of_getElem? (i := 48) rfl)) e2 hN hE (Or.inr ⟨(hw _ (List.mem_of_getElem? (i := 49) rfl)), rfl, hnm⟩) (hw _ (List.mem_of_getElem? (i := 35) rfl)) (ty := .boolean) (v' := (.int (1 : Int32))) (by decide) rfl rfl (hb hby d7_11) (pc' := 14) rfl ?_
  intro T3 h3 X3 e3 W3 F3 E3
  have NN := Fr.snoc X3 NN g_a1
  have KK := KK.wr W3 (Or.inl (List.mem_of_getElem? (i := 0) rfl))
  have ZZ := Nat.le_trans ZZ (Keep.of_wr W3).1
  have hL := hL.other W3 (Or.inr (slot_ne (Or.inr (hw _ (List.mem_of_getElem? (i := 47) rfl))) (Or.inr (hw _ (List.mem_of_getElem? (i := 49) rfl))) (by decide) (t := (.object "java/lang/String")) (t' := .boolean) (by decide) (by decide)))
  have hC := hC.other W3 (Or.inr (slot_ne (Or.inr (hw _ (List.mem_of_getElem? (i := 51) rfl))) (Or.inr (hw _ (List.mem_of_getElem? (i := 49) rfl))) (by decide) (t := (.array .byte)) (t' := .boolean) (by decide) (by decide)))
  have hN := F3
  have hE := E3
  refine o_aloadN X3 hx (pc' := 15) (hb hby d7_14) rfl rfl rfl ?_
  refine o_aloadN X3 hx (pc' := 16) (hb hby d7_15) rfl rfl rfl ?_
  refine o_putfield X3 hx hZ hown (hw _ (List.mem_of_getElem? (i := 50) rfl)) e3 hC hE (Or.inr ⟨(hw _ (List.mem_of_getElem? (i := 51) rfl)), rfl, hnm⟩) (hw _ (List.mem_of_getElem? (i := 35) rfl)) (ty := (.array .byte)) (v' := (.ref a4)) (by decide) rfl rfl (hb hby d7_16) (pc' := 19) rfl ?_
  intro T4 h4 X4 e4 W4 F4 E4
  have NN := Fr.snoc X4 NN g_a1
  have KK := KK.wr W4 (Or.inl (List.mem_of_getElem? (i := 0) rfl))
  have ZZ := Nat.le_trans ZZ (Keep.of_wr W4).1
  have hL := hL.other W4 (Or.inr (slot_ne (Or.inr (hw _ (List.mem_of_getElem? (i := 47) rfl))) (Or.inr (hw _ (List.mem_of_getElem? (i := 51) rfl))) (by decide) (t := (.object "java/lang/String")) (t' := (.array .byte)) (by decide) (by decide)))
  have hN := hN.other W4 (Or.inr (slot_ne (Or.inr (hw _ (List.mem_of_getElem? (i := 49) rfl))) (Or.inr (hw _ (List.mem_of_getElem? (i := 51) rfl))) (by decide) (t := .boolean) (t' := (.array .byte)) (by decide) (by decide)))
  have hC := F4
  have hE := E4
  exact finV X4 hx hlk hret (hb hby d7_19) (by decide) (by decide) ⟨rfl, NN, (by rw [e4]; exact KK), (by rw [e4]; exact hE), (by rw [e4]; exact hL), (by rw [e4]; exact hN)⟩
set_option maxRecDepth 65536 in
set_option maxHeartbeats 40000000 in
theorem rmGE1 (l : Launch) (Z : State) (a0 : Array Value) (hw : ∀ d ∈ tables_1, d.before a0 Z = true) (h0 : Heap) (n0 : Nat) (Z0 : n0 ≤ h0.size) (a1 : Addr) (hF : Fld Z h0 a1 "com/example/shelfkey/shelfkey/http/Pem$Block" "encrypted" "Z" (.int (1 : Int32))) : Ctr l Z (⟨"com/example/shelfkey/shelfkey/http/Pem$Block", "encrypted", "()Z"⟩ : MethodName) prog_38_method_6_code 1 (some .boolean) [] ({ frames := 0, cells := 0, slots := 0, locals := 0 } : Room) #[(.ref a1)] h0 (Pure (.int 1) h0) := by
  refine ctr_mk pn_10 (own := "com/example/shelfkey/shelfkey/http/Pem$Block") (mn := "encrypted") rfl rfl ?_
  intro p e s m below meth c T0 X0 hx hby hml hZ hown hnm hret hlk e0
  refine o_entry (ef_10 m a1) ?_
  refine o_aloadN X0 hx (pc' := 1) (hb hby d10_0) rfl rfl rfl ?_
  refine o_getfield X0 hx hZ hown (hw _ (List.mem_of_getElem? (i := 48) rfl)) e0 hF (hb hby d10_1) (pc' := 4) rfl ?_
  intro T1 X1 e1
  exact finN X1 hx hlk (t := .boolean) hret (by simp) (hb hby d10_4) (by decide) (by decide) ⟨rfl, rfl, e1⟩
theorem d11_0 : decode prog_38_method_5_code 0 = .ok (.aload_n 0, 1) := by decide +kernel
theorem d11_1 : decode prog_38_method_5_code 1 = .ok (.getfield 7, 3) := by decide +kernel
theorem d11_4 : decode prog_38_method_5_code 4 = .ok (.areturn, 1) := by decide +kernel
theorem pn_11 : plainFor (⟨"com/example/shelfkey/shelfkey/http/Pem$Block", "label", "()Ljava/lang/String;"⟩ : MethodName) = true := plainFor_of_name (by show plainName "com/example/shelfkey/shelfkey/http/Pem$Block" = true; first | (simp [plainName, overriddenIn]; done) | decide +kernel)
theorem ef_11 (m : MethodId) (a1 : Addr) : entryFrame m #[(.ref a1)] 1 = mkF m 0 #[.val (.ref a1)] [] := by first | (simp [entryFrame, mkF, argsToLocals, Value.category]; done) | rfl
set_option maxRecDepth 65536 in
set_option maxHeartbeats 40000000 in
theorem rmGL (l : Launch) (Z : State) (a0 : Array Value) (hw : ∀ d ∈ tables_1, d.before a0 Z = true) (h0 : Heap) (n0 : Nat) (Z0 : n0 ≤ h0.size) (a1 : Addr) (sl : Addr) (hF : Fld Z h0 a1 "com/example/shelfkey/shelfkey/http/Pem$Block" "label" "Ljava/lang/String;" (.ref sl)) : Ctr l Z (⟨"com/example/shelfkey/shelfkey/http/Pem$Block", "label", "()Ljava/lang/String;"⟩ : MethodName) prog_38_method_5_code 1 (some (.object "java/lang/String")) [] ({ frames := 0, cells := 0, slots := 0, locals := 0 } : Room) #[(.ref a1)] h0 (Pure (.ref sl) h0) := by
  refine ctr_mk pn_11 (own := "com/example/shelfkey/shelfkey/http/Pem$Block") (mn := "label") rfl rfl ?_
  intro p e s m below meth c T0 X0 hx hby hml hZ hown hnm hret hlk e0
  refine o_entry (ef_11 m a1) ?_
  refine o_aloadN X0 hx (pc' := 1) (hb hby d11_0) rfl rfl rfl ?_
  refine o_getfield X0 hx hZ hown (hw _ (List.mem_of_getElem? (i := 46) rfl)) e0 hF (hb hby d11_1) (pc' := 4) rfl ?_
  intro T1 X1 e1
  exact finA X1 hx hlk rfl hret rfl rfl (hb hby d11_4) (by decide) (by decide) ⟨rfl, rfl, e1⟩
theorem d9_0 : decode prog_40_method_3_code 0 = .ok (.aload_n 0, 1) := by decide +kernel
theorem d9_1 : decode prog_40_method_3_code 1 = .ok (.invokevirtual 25, 3) := by decide +kernel
theorem d9_4 : decode prog_40_method_3_code 4 = .ok (.ifCond .ne 15, 3) := by decide +kernel
theorem d9_19 : decode prog_40_method_3_code 19 = .ok (.iconst 1, 1) := by decide +kernel
theorem d9_20 : decode prog_40_method_3_code 20 = .ok (.goto 4, 3) := by decide +kernel
theorem d9_24 : decode prog_40_method_3_code 24 = .ok (.ireturn, 1) := by decide +kernel
theorem pn_9 : plainFor (⟨"com/example/shelfkey/shelfkey/http/PrivateKeys", "isEncrypted", "(Lcom/example/shelfkey/shelfkey/http/Pem$Block;)Z"⟩ : MethodName) = true := plainFor_of_name (by show plainName "com/example/shelfkey/shelfkey/http/PrivateKeys" = true; first | (simp [plainName, overriddenIn]; done) | decide +kernel)
theorem ef_9 (m : MethodId) (a1 : Addr) : entryFrame m #[(.ref a1)] 1 = mkF m 0 #[.val (.ref a1)] [] := by first | (simp [entryFrame, mkF, argsToLocals, Value.category]; done) | rfl
set_option maxRecDepth 65536 in
set_option maxHeartbeats 40000000 in
theorem rmIE1 (l : Launch) (Z : State) (a0 : Array Value) (hw : ∀ d ∈ tables_1, d.before a0 Z = true) (h0 : Heap) (n0 : Nat) (Z0 : n0 ≤ h0.size) (a1 : Addr) (hE : Exa Z h0 a1 "com/example/shelfkey/shelfkey/http/Pem$Block") (hN : Fld Z h0 a1 "com/example/shelfkey/shelfkey/http/Pem$Block" "encrypted" "Z" (.int (1 : Int32))) : Ctr l Z (⟨"com/example/shelfkey/shelfkey/http/PrivateKeys", "isEncrypted", "(Lcom/example/shelfkey/shelfkey/http/Pem$Block;)Z"⟩ : MethodName) prog_40_method_3_code 1 (some .boolean) [] ({ frames := 1, cells := 0, slots := 0, locals := 12 } : Room) #[(.ref a1)] h0 (Pure (.int 1) h0) := by
  refine ctr_mk pn_9 (own := "com/example/shelfkey/shelfkey/http/PrivateKeys") (mn := "isEncrypted") rfl rfl ?_
  intro p e s m below meth c T0 X0 hx hby hml hZ hown hnm hret hlk e0
  refine o_entry (ef_9 m a1) ?_
  refine o_aloadN X0 hx (pc' := 1) (hb hby d9_0) rfl rfl rfl ?_
  refine o_callVP X0 hx hZ a1 [] (rmGE1 l Z a0 hw h0 n0 Z0 a1 hN) hown (hw _ (List.mem_of_getElem? (i := 56) rfl)) (hw _ (List.mem_of_getElem? (i := 57) rfl)) (hw _ (List.mem_of_getElem? (i := 59) rfl)) (hw _ (List.mem_of_getElem? (i := 58) rfl)) (hw _ (List.mem_of_getElem? (i := 36) rfl)) (hw _ (List.mem_of_getElem? (i := 60) rfl)) (by decide) hE pd_10 e0 (by rw [hml]; rfl) rfl rfl rfl (hb hby d9_1) (pc' := 4) rfl 0 (Nat.le_of_eq rfl) (by decide) (by decide) rfl rfl (by decide) (by decide) ?_
  intro T1 X1 e1
  show Dn p e below _ (T1.setTop (mkF m 4 #[.val (.ref a1)] [(.int (1 : Int32))]))
  refine o_if_ne X1 hx (pc' := 7) (pt := 19) (hb hby d9_4) rfl (by decide) (by decide) (fun _ => ?_) (fun q => absurd q (by decide))
  refine o_iconst X1 hx (pc' := 20) (v := (1 : Int32)) (hb hby d9_19) rfl rfl ?_
  refine o_goto X1 hx (pc' := 24) (hb hby d9_20) (by decide) (by decide) ?_
  exact finN X1 hx hlk (t := .boolean) hret (by simp) (hb hby d9_24) (by decide) (by decide) ⟨rfl, rfl, e1⟩
theorem pd_13 : parseMethodDescriptor "()Ljava/lang/String;" = some ⟨[], some (.object "java/lang/String")⟩ := by decide +kernel
theorem pd_14 : parseMethodDescriptor "(Ljava/lang/Object;)Z" = some ⟨[(.object "java/lang/Object")], some .boolean⟩ := by decide +kernel
theorem d9_7 : decode prog_40_method_3_code 7 = .ok (.aload_n 0, 1) := by decide +kernel
theorem d9_8 : decode prog_40_method_3_code 8 = .ok (.invokevirtual 13, 3) := by decide +kernel
theorem d9_11 : decode prog_40_method_3_code 11 = .ok (.ldc 29, 2) := by decide +kernel
theorem d9_13 : decode prog_40_method_3_code 13 = .ok (.invokevirtual 31, 3) := by decide +kernel
theorem d9_16 : decode prog_40_method_3_code 16 = .ok (.ifCond .eq 7, 3) := by decide +kernel
theorem d9_23 : decode prog_40_method_3_code 23 = .ok (.iconst 0, 1) := by decide +kernel
set_option maxRecDepth 65536 in
set_option maxHeartbeats 40000000 in
theorem rmIE0 (l : Launch) (Z : State) (a0 : Array Value) (hw : ∀ d ∈ tables_1, d.before a0 Z = true) (h0 : Heap) (n0 : Nat) (Z0 : n0 ≤ h0.size) (a1 : Addr) (sl : Addr) (bs : List Int32) (hl : bs.length ≤ 24) (t : Nat) (hE : Exa Z h0 a1 "com/example/shelfkey/shelfkey/http/Pem$Block") (hN : Fld Z h0 a1 "com/example/shelfkey/shelfkey/http/Pem$Block" "encrypted" "Z" (.int (0 : Int32))) (hL : Fld Z h0 a1 "com/example/shelfkey/shelfkey/http/Pem$Block" "label" "Ljava/lang/String;" (.ref sl)) (hS : Str Z h0 t sl bs) (cs0 : Int32) (S0 : Sta Z Z.heap "java/lang/String" "COMPACT_STRINGS" "Z" (.int cs0)) (hcs : ¬ cs0 = 0) (O : Old Z n0 h0) : CtrS l Z own_EL (⟨"com/example/shelfkey/shelfkey/http/PrivateKeys", "isEncrypted", "(Lcom/example/shelfkey/shelfkey/http/Pem$Block;)Z"⟩ : MethodName) prog_40_method_3_code 1 (some .boolean) [] ({ frames := 2, cells := 2, slots := 88, locals := 28 } : Room) #[(.ref a1)] h0 (fun v h L => v = some (.int (if bs = TGT then 1 else 0)) ∧ Fr n0 L ∧ Keep h0 h []) := by
  refine ctrS_mk pn_9 (own := "com/example/shelfkey/shelfkey/http/PrivateKeys") (mn := "isEncrypted") rfl rfl ?_
  intro p e s m below meth c T0 X0 hx hby hml hZ hown hnm hret hlk e0 SW
  refine o_entry (ef_9 m a1) ?_
  have NN := Fr.nil n0
  have ZZ := Z0
  have KK := Keep.refl h0 []
  refine o_aloadN X0 hx (pc' := 1) (hb hby d9_0) rfl rfl rfl ?_
  refine o_callVP X0 hx hZ a1 [] (rmGE0 l Z a0 hw h0 n0 Z0 a1 hN) hown (hw _ (List.mem_of_getElem? (i := 56) rfl)) (hw _ (List.mem_of_getElem? (i := 57) rfl)) (hw _ (List.mem_of_getElem? (i := 59) rfl)) (hw _ (List.mem_of_getElem? (i := 58) rfl)) (hw _ (List.mem_of_getElem? (i := 36) rfl)) (hw _ (List.mem_of_getElem? (i := 60) rfl)) (by decide) hE pd_10 e0 (by rw [hml]; rfl) rfl rfl rfl (hb hby d9_1) (pc' := 4) rfl 0 (Nat.le_of_eq rfl) (by decide) (by decide) rfl rfl (by decide) (by decide) ?_
  intro T1 X1 e1
  show Dn p e below _ (T1.setTop (mkF m 4 #[.val (.ref a1)] [(.int (0 : Int32))]))
  refine o_if_ne X1 hx (pc' := 7) (pt := 19) (hb hby d9_4) rfl (by decide) (by decide) (fun q => absurd (by decide) q) (fun _ => ?_)
  refine o_aloadN X1 hx (pc' := 8) (hb hby d9_7) rfl rfl rfl ?_
  refine o_callVP X1 hx hZ a1 [] (rmGL l Z a0 hw h0 n0 Z0 a1 sl hL) hown (hw _ (List.mem_of_getElem? (i := 62) rfl)) (hw _ (List.mem_of_getElem? (i := 63) rfl)) (hw _ (List.mem_of_getElem? (i := 65) rfl)) (hw _ (List.mem_of_getElem? (i := 64) rfl)) (hw _ (List.mem_of_getElem? (i := 36) rfl)) (hw _ (List.mem_of_getElem? (i := 66) rfl)) (by decide) hE pd_13 e1 (by rw [hml]; rfl) rfl rfl rfl (hb hby d9_8) (pc' := 11) rfl 0 (Nat.le_of_eq rfl) (by decide) (by decide) rfl rfl (by decide) (by decide) ?_
  intro T2 X2 e2
  show Dn p e below _ (T2.setTop (mkF m 11 #[.val (.ref a1)] [(.ref sl)]))
  refine o_ldcR X2 hx hown (hw _ (List.mem_of_getElem? (i := 67) rfl)) (own_wS hw) e2 SW (own_EW hw) (by decide) (vs := (iv TGT)) (z := (21 : Int32)) ⟨by decide, rfl⟩ (by decide) (by decide) 84 (by decide) (by decide) (by decide) (by decide) (hb hby d9_11) (pc' := 13) rfl ?_
  intro la3 T3 h3 b3 k3 X3 e3 E3 SW hown hC3 lE3 lC3 lV3 lA3 hN3
  have hZ := SW.2.1
  have ZZ := Nat.le_trans ZZ E3.1
  have KK := KK.ext E3
  have O := O.ext E3
  have hS := hS.ext E3
  have S29 : Str Z h3 h3.size la3 TGT := ⟨b3, k3, lE3.lt, lA3.lt, lE3, lV3, lC3, lA3⟩
  refine o_callVP X3 hx hZ sl [(.ref la3)] (rmSE3 l Z a0 hw h3 n0 ZZ sl la3 bs TGT hl (by decide) _ _ hS S29 cs0 S0 hcs O) hown (hw _ (List.mem_of_getElem? (i := 68) rfl)) (hw _ (List.mem_of_getElem? (i := 69) rfl)) (hw _ (List.mem_of_getElem? (i := 71) rfl)) (hw _ (List.mem_of_getElem? (i := 70) rfl)) (hw _ (List.mem_of_getElem? (i := 1) rfl)) (hw _ (List.mem_of_getElem? (i := 72) rfl)) (by decide) hS.exa pd_14 e3 (by rw [hml]; rfl) rfl rfl rfl (hb hby d9_13) (pc' := 16) rfl 0 (Nat.le_of_eq rfl) (by decide) (by decide) rfl rfl (by decide) (by decide) ?_
  intro T4 X4 e4
  show Dn p e below _ (T4.setTop (mkF m 16 #[.val (.ref a1)] [(.int (if bs = TGT then 1 else 0))]))
  by_cases hq : bs = TGT
  · rw [if_pos hq]
    show Dn p e below _ (T4.setTop (mkF m 16 #[.val (.ref a1)] [(.int (1 : Int32))]))
    refine o_if_eq X4 hx (pc' := 19) (pt := 23) (hb hby d9_16) rfl (by decide) (by decide) (fun q => absurd q (by decide)) (fun _ => ?_)
    refine o_iconst X4 hx (pc' := 20) (v := (1 : Int32)) (hb hby d9_19) rfl rfl ?_
    refine o_goto X4 hx (pc' := 24) (hb hby d9_20) (by decide) (by decide) ?_
    exact finSN X4 hx (own_EW hw) SW e4 hlk (t := .boolean) hret (by simp) (hb hby d9_24) (by decide) (by decide) ⟨rfl, NN, KK⟩
  · rw [if_neg hq]
    show Dn p e below _ (T4.setTop (mkF m 16 #[.val (.ref a1)] [(.int (0 : Int32))]))
    refine o_if_eq X4 hx (pc' := 19) (pt := 23) (hb hby d9_16) rfl (by decide) (by decide) (fun _ => ?_) (fun q => absurd (by decide) q)
    refine o_iconst X4 hx (pc' := 24) (v := (0 : Int32)) (hb hby d9_23) rfl rfl ?_
    exact finSN X4 hx (own_EW hw) SW e4 hlk (t := .boolean) hret (by simp) (hb hby d9_24) (by decide) (by decide) ⟨rfl, NN, KK⟩
theorem own_tn : ∀ j : Fin 21, nar .char (nar .char ((TGT.getD j.val 0 &&& 255).toUInt32.toUInt16.toUInt32.toInt32)) = TGT.getD j.val 0 := by decide +kernel
theorem own_long {c : Int32} (hc : Chr c) : ∀ x ∈ TGT ++ [c], ¬ 255 < x := by
  intro x hx
  rcases List.mem_append.mp hx with h | h
  · exact own_tgt.2.1 x h
  · rw [List.mem_singleton.mp h]
    exact hc.le
theorem own_nl (c : Int32) : ¬ (TGT ++ [c]).map own_b = TGT := fun q => absurd (congrArg List.length q) (by rw [List.length_map, List.length_append, own_tgt.2.2]; simp)
theorem own_nv (c : Int32) : ¬ [own_b c] = TGT := fun q => absurd (congrArg List.length q) (by rw [own_tgt.2.2]; simp)
theorem own_sl {c : Int32} {j : Nat} : (TGT.set j c).length = 21 := by rw [List.length_set, own_tgt.2.2]
theorem own_al (c : Int32) : (TGT ++ [c]).length = 22 := by rw [List.length_append, own_tgt.2.2]; rfl
theorem pd_15 : parseMethodDescriptor "(C)Ljava/lang/String;" = some ⟨[.char], some (.object "java/lang/String")⟩ := by decide +kernel
theorem pd_16 : parseMethodDescriptor "(Ljava/lang/String;Z[B)V" = some ⟨[(.object "java/lang/String"), .boolean, (.array .byte)], none⟩ := by decide +kernel
theorem pd_17 : parseMethodDescriptor "(Lcom/example/shelfkey/shelfkey/http/Pem$Block;)Z" = some ⟨[(.object "com/example/shelfkey/shelfkey/http/Pem$Block")], some .boolean⟩ := by decide +kernel
theorem pd_18 : parseMethodDescriptor "([C)V" = some ⟨[(.array .char)], none⟩ := by decide +kernel
theorem pd_19 : parseMethodDescriptor "(I)C" = some ⟨[.int], some .char⟩ := by decide +kernel
theorem pn_0 : plainFor x = true := plainFor_of_name (by show plainName "com/example/shelfkey/shelfkey/http/PrivateKeysIsEncryptedPinLaw" = true; first | (simp [plainName, overriddenIn]; done) | decide +kernel)
theorem ef_0 (m : MethodId) (p1 : Int32) (p2 : Int32) (p3 : Int32) (p4 : Int32) : entryFrame m #[(.int p1), (.int p2), (.int p3), (.int p4)] maxLocals = mkF m 0 #[.val (.int p1), .val (.int p2), .val (.int p3), .val (.int p4), .unset, .unset, .unset, .unset, .unset, .unset, .unset, .unset, .unset, .unset] [] := by first | (simp [entryFrame, mkF, argsToLocals, Value.category, maxLocals]; done) | rfl
set_option maxRecDepth 65536 in
set_option maxHeartbeats 40000000 in
theorem rm0 (l : Launch) (Z : State) (a0 : Array Value) (hw : ∀ d ∈ tables_1, d.before a0 Z = true) (ws : List Jvm.Cond) (h0 : Heap) (n0 : Nat) (Z0 : n0 ≤ h0.size) (p1 : Int32) (p2 : Int32) (p3 : Int32) (p4 : Int32) (cs0 : Int32) (S0 : Sta Z Z.heap "java/lang/String" "COMPACT_STRINGS" "Z" (.int cs0)) (hcs : ¬ cs0 = 0) (O : Old Z n0 h0) (vf : Value) (SF0 : Sta Z Z.heap "jdk/internal/util/Preconditions" "SIOOBE_FORMATTER" "Ljava/util/function/BiFunction;" vf) (hvf : vf.isRef = true) : CtrS l Z own_EL x code maxLocals ret ws room_1 #[(.int p1), (.int p2), (.int p3), (.int p4)] h0 (fun v h L => v = some (.int 1) ∧ Fr n0 L) := by
  refine ctrS_mk pn_0 (own := "com/example/shelfkey/shelfkey/http/PrivateKeysIsEncryptedPinLaw") (mn := "law") rfl rfl ?_
  intro p e s m below meth c T0 X0 hx hby hml hZ hown hnm hret hlk e0 SW
  refine o_entry (ef_0 m p1 p2 p3 p4) ?_
  have NN := Fr.nil n0
  have ZZ := Z0
  have J13 : ∀ en : Int32, en = 0 ∨ en = 1 → Dn p e below (PQS below s Z own_EL h0 (fun v h L => v = some (.int 1) ∧ Fr n0 L) room_1.cells room_1.slots) (T0.setTop (mkF m 13 #[.val (.int p1), .val (.int p2), .val (.int p3), .val (.int p4), .val (.int en), .unset, .unset, .unset, .unset, .unset, .unset, .unset, .unset, .unset] [])) := by
    intro en hen
    refine o_ldcR X0 hx hown (hw _ (List.mem_of_getElem? (i := 0) rfl)) (own_wS hw) e0 SW (own_EW hw) (by decide) (vs := (iv TGT)) (z := (21 : Int32)) ⟨by decide, rfl⟩ (by decide) (by decide) 84 (by decide) (by decide) (by decide) (by decide) (hb hby at_13) (pc' := 15) rfl ?_
    intro la1 T1 h1 b1 k1 X1 e1 E1 SW hown hC1 lE1 lC1 lV1 lA1 hN1
    have hZ := SW.2.1
    have ZZ := Nat.le_trans ZZ E1.1
    have O := O.ext E1
    have S7 : Str Z h1 h1.size la1 TGT := ⟨b1, k1, lE1.lt, lA1.lt, lE1, lV1, lC1, lA1⟩
    have tz_S7 : h1.size ≤ h1.size := Nat.le_refl _
    refine o_astore X1 hx (pc' := 17) (Ls' := #[.val (.int p1), .val (.int p2), .val (.int p3), .val (.int p4), .val (.int en), .val (.ref la1), .unset, .unset, .unset, .unset, .unset, .unset, .unset, .unset]) (hb hby at_15) rfl rfl rfl ?_
    refine o_iloadN X1 hx (pc' := 18) (hb hby at_17) rfl rfl ?_
    refine o_sipush X1 hx (pc' := 21) (v := (255 : Int32)) (hb hby at_18) rfl rfl ?_
    refine o_iand X1 hx (pc' := 22) (hb hby at_21) rfl ?_
    refine o_i2c X1 hx (pc' := 23) (hb hby at_22) rfl ?_
    refine o_istore X1 hx (pc' := 25) (Ls' := #[.val (.int p1), .val (.int p2), .val (.int p3), .val (.int p4), .val (.int en), .val (.ref la1), .val (.int ((p3 &&& (255 : Int32)).toUInt32.toUInt16.toUInt32.toInt32)), .unset, .unset, .unset, .unset, .unset, .unset, .unset]) (hb hby at_23) rfl rfl ?_
    refine o_iloadN X1 hx (pc' := 26) (hb hby at_25) rfl rfl ?_
    refine o_ldc X1 hx hZ hown (hw _ (List.mem_of_getElem? (i := 8) rfl)) (pc' := 28) (hb hby at_26) rfl ?_
    refine o_iand X1 hx (pc' := 29) (hb hby at_28) rfl ?_
    refine o_bipush X1 hx (pc' := 31) (v := (21 : Int32)) (hb hby at_29) rfl rfl ?_
    refine o_irem X1 hx (pc' := 32) (hb hby at_31) rfl (by decide) ?_
    refine o_istore X1 hx (pc' := 34) (Ls' := #[.val (.int p1), .val (.int p2), .val (.int p3), .val (.int p4), .val (.int en), .val (.ref la1), .val (.int ((p3 &&& (255 : Int32)).toUInt32.toUInt16.toUInt32.toInt32)), .val (.int ((p2 &&& (2147483647 : Int32)) % (21 : Int32))), .unset, .unset, .unset, .unset, .unset, .unset]) (hb hby at_32) rfl rfl ?_
    have Jc : ∀ (c6 : Int32) (j : Nat), Chr c6 → j < 21 → Dn p e below (PQS below s Z own_EL h0 (fun v h L => v = some (.int 1) ∧ Fr n0 L) room_1.cells room_1.slots) (T1.setTop (mkF m 34 #[.val (.int p1), .val (.int p2), .val (.int p3), .val (.int p4), .val (.int en), .val (.ref la1), .val (.int c6), .val (.int (Int32.ofNat j)), .unset, .unset, .unset, .unset, .unset, .unset] [])) := by
      intro c6 j hch hj
      have hj2 : j ≤ 1000 := by omega
      have hjl : Int32.ofNat j < (21 : Int32) := (own_lt (n := 21) hj2 (by decide)).mpr hj
      refine o_bipush X1 hx (pc' := 36) (v := (21 : Int32)) (hb hby at_34) rfl rfl ?_
      refine o_newarray X1 hx hZ e1 (hw _ (List.mem_of_getElem? (i := 9) rfl)) (hb hby at_36) (pc' := 38) rfl (by decide) 21 (by decide) (by decide) (by decide) (by decide) ?_
      intro T2 h2 b2 k2 g2 X2 e2 E2 V2
      have g_b2 : n0 ≤ b2 := Nat.le_trans ZZ (Nat.le_of_eq g2.symm)
      have le_S7_b2 := Nat.le_trans tz_S7 (Nat.le_of_eq g2.symm)
      have ZZ := Nat.le_trans ZZ E2.1
      have SW := SW.ext E2
      have O := O.ext E2
      have S7 := S7.ext E2
      have tz_S7 := Nat.le_trans tz_S7 E2.1
      have hV : Arv Z h2 b2 k2 .char (21 : Int32) [.int 0, .int 0, .int 0, .int 0, .int 0, .int 0, .int 0, .int 0, .int 0, .int 0, .int 0, .int 0, .int 0, .int 0, .int 0, .int 0, .int 0, .int 0, .int 0, .int 0, .int 0] (.int 0) := V2.pad (pad_rep [] _ 21)
      refine o_dup X2 hx (pc' := 39) (hb hby at_38) rfl rfl ?_
      refine o_iconst X2 hx (pc' := 40) (v := (0 : Int32)) (hb hby at_39) rfl rfl ?_
      refine o_bipush X2 hx (pc' := 42) (v := (69 : Int32)) (hb hby at_40) rfl rfl ?_
      refine o_castore X2 hx hZ e2 hV (by decide) 0 rfl (Nat.le_of_ble_eq_true rfl) (hb hby at_42) (pc' := 43) rfl ?_
      intro T3 h3 X3 e3 W3 V3
      have NN := Fr.snoc X3 NN g_b2
      have ZZ := Nat.le_trans ZZ (Keep.of_wr W3).1
      have SWo := SW
      have SW := SW.wr W3 (Safe.arv SW.2.1.alike hV (by decide))
      have O := O.wr W3 g_b2
      have S7 := S7.keep (Keep.of_wr W3) (own_one le_S7_b2)
      have tz_S7 := Nat.le_trans tz_S7 (Keep.of_wr W3).1
      have hV : Arv Z h3 b2 k2 .char (21 : Int32) [.int 69, .int 0, .int 0, .int 0, .int 0, .int 0, .int 0, .int 0, .int 0, .int 0, .int 0, .int 0, .int 0, .int 0, .int 0, .int 0, .int 0, .int 0, .int 0, .int 0, .int 0] (.int 0) := by
          have q := V3
          rw [show nar .char (69 : Int32) = 69 from by decide +kernel] at q
          exact q
      refine o_dup X3 hx (pc' := 44) (hb hby at_43) rfl rfl ?_
      refine o_iconst X3 hx (pc' := 45) (v := (1 : Int32)) (hb hby at_44) rfl rfl ?_
      refine o_bipush X3 hx (pc' := 47) (v := (78 : Int32)) (hb hby at_45) rfl rfl ?_
      refine o_castore X3 hx hZ e3 hV (by decide) 1 rfl (Nat.le_of_ble_eq_true rfl) (hb hby at_47) (pc' := 48) rfl ?_
      intro T4 h4 X4 e4 W4 V4
      have NN := Fr.snoc X4 NN g_b2
      have ZZ := Nat.le_trans ZZ (Keep.of_wr W4).1
      have SWo := SW
      have SW := SW.wr W4 (Safe.arv SW.2.1.alike hV (by decide))
      have O := O.wr W4 g_b2
      have S7 := S7.keep (Keep.of_wr W4) (own_one le_S7_b2)
      have tz_S7 := Nat.le_trans tz_S7 (Keep.of_wr W4).1
      have hV : Arv Z h4 b2 k2 .char (21 : Int32) [.int 69, .int 78, .int 0, .int 0, .int 0, .int 0, .int 0, .int 0, .int 0, .int 0, .int 0, .int 0, .int 0, .int 0, .int 0, .int 0, .int 0, .int 0, .int 0, .int 0, .int 0] (.int 0) := by
          have q := V4
          rw [show nar .char (78 : Int32) = 78 from by decide +kernel] at q
          exact q
      refine o_dup X4 hx (pc' := 49) (hb hby at_48) rfl rfl ?_
      refine o_iconst X4 hx (pc' := 50) (v := (2 : Int32)) (hb hby at_49) rfl rfl ?_
      refine o_bipush X4 hx (pc' := 52) (v := (67 : Int32)) (hb hby at_50) rfl rfl ?_
      refine o_castore X4 hx hZ e4 hV (by decide) 2 rfl (Nat.le_of_ble_eq_true rfl) (hb hby at_52) (pc' := 53) rfl ?_
      intro T5 h5 X5 e5 W5 V5
      have NN := Fr.snoc X5 NN g_b2
      have ZZ := Nat.le_trans ZZ (Keep.of_wr W5).1
      have SWo := SW
      have SW := SW.wr W5 (Safe.arv SW.2.1.alike hV (by decide))
      have O := O.wr W5 g_b2
      have S7 := S7.keep (Keep.of_wr W5) (own_one le_S7_b2)
      have tz_S7 := Nat.le_trans tz_S7 (Keep.of_wr W5).1
      have hV : Arv Z h5 b2 k2 .char (21 : Int32) [.int 69, .int 78, .int 67, .int 0, .int 0, .int 0, .int 0, .int 0, .int 0, .int 0, .int 0, .int 0, .int 0, .int 0, .int 0, .int 0, .int 0, .int 0, .int 0, .int 0, .int 0] (.int 0) := by
          have q := V5
          rw [show nar .char (67 : Int32) = 67 from by decide +kernel] at q
          exact q
      refine o_dup X5 hx (pc' := 54) (hb hby at_53) rfl rfl ?_
      refine o_iconst X5 hx (pc' := 55) (v := (3 : Int32)) (hb hby at_54) rfl rfl ?_
      refine o_bipush X5 hx (pc' := 57) (v := (82 : Int32)) (hb hby at_55) rfl rfl ?_
      refine o_castore X5 hx hZ e5 hV (by decide) 3 rfl (Nat.le_of_ble_eq_true rfl) (hb hby at_57) (pc' := 58) rfl ?_
      intro T6 h6 X6 e6 W6 V6
      have NN := Fr.snoc X6 NN g_b2
      have ZZ := Nat.le_trans ZZ (Keep.of_wr W6).1
      have SWo := SW
      have SW := SW.wr W6 (Safe.arv SW.2.1.alike hV (by decide))
      have O := O.wr W6 g_b2
      have S7 := S7.keep (Keep.of_wr W6) (own_one le_S7_b2)
      have tz_S7 := Nat.le_trans tz_S7 (Keep.of_wr W6).1
      have hV : Arv Z h6 b2 k2 .char (21 : Int32) [.int 69, .int 78, .int 67, .int 82, .int 0, .int 0, .int 0, .int 0, .int 0, .int 0, .int 0, .int 0, .int 0, .int 0, .int 0, .int 0, .int 0, .int 0, .int 0, .int 0, .int 0] (.int 0) := by
          have q := V6
          rw [show nar .char (82 : Int32) = 82 from by decide +kernel] at q
          exact q
      refine o_dup X6 hx (pc' := 59) (hb hby at_58) rfl rfl ?_
      refine o_iconst X6 hx (pc' := 60) (v := (4 : Int32)) (hb hby at_59) rfl rfl ?_
      refine o_bipush X6 hx (pc' := 62) (v := (89 : Int32)) (hb hby at_60) rfl rfl ?_
      refine o_castore X6 hx hZ e6 hV (by decide) 4 rfl (Nat.le_of_ble_eq_true rfl) (hb hby at_62) (pc' := 63) rfl ?_
      intro T7 h7 X7 e7 W7 V7
      have NN := Fr.snoc X7 NN g_b2
      have ZZ := Nat.le_trans ZZ (Keep.of_wr W7).1
      have SWo := SW
      have SW := SW.wr W7 (Safe.arv SW.2.1.alike hV (by decide))
      have O := O.wr W7 g_b2
      have S7 := S7.keep (Keep.of_wr W7) (own_one le_S7_b2)
      have tz_S7 := Nat.le_trans tz_S7 (Keep.of_wr W7).1
      have hV : Arv Z h7 b2 k2 .char (21 : Int32) [.int 69, .int 78, .int 67, .int 82, .int 89, .int 0, .int 0, .int 0, .int 0, .int 0, .int 0, .int 0, .int 0, .int 0, .int 0, .int 0, .int 0, .int 0, .int 0, .int 0, .int 0] (.int 0) := by
          have q := V7
          rw [show nar .char (89 : Int32) = 89 from by decide +kernel] at q
          exact q
      refine o_dup X7 hx (pc' := 64) (hb hby at_63) rfl rfl ?_
      refine o_iconst X7 hx (pc' := 65) (v := (5 : Int32)) (hb hby at_64) rfl rfl ?_
      refine o_bipush X7 hx (pc' := 67) (v := (80 : Int32)) (hb hby at_65) rfl rfl ?_
      refine o_castore X7 hx hZ e7 hV (by decide) 5 rfl (Nat.le_of_ble_eq_true rfl) (hb hby at_67) (pc' := 68) rfl ?_
      intro T8 h8 X8 e8 W8 V8
      have NN := Fr.snoc X8 NN g_b2
      have ZZ := Nat.le_trans ZZ (Keep.of_wr W8).1
      have SWo := SW
      have SW := SW.wr W8 (Safe.arv SW.2.1.alike hV (by decide))
      have O := O.wr W8 g_b2
      have S7 := S7.keep (Keep.of_wr W8) (own_one le_S7_b2)
      have tz_S7 := Nat.le_trans tz_S7 (Keep.of_wr W8).1
      have hV : Arv Z h8 b2 k2 .char (21 : Int32) [.int 69, .int 78, .int 67, .int 82, .int 89, .int 80, .int 0, .int 0, .int 0, .int 0, .int 0, .int 0, .int 0, .int 0, .int 0, .int 0, .int 0, .int 0, .int 0, .int 0, .int 0] (.int 0) := by
          have q := V8
          rw [show nar .char (80 : Int32) = 80 from by decide +kernel] at q
          exact q
      refine o_dup X8 hx (pc' := 69) (hb hby at_68) rfl rfl ?_
      refine o_bipush X8 hx (pc' := 71) (v := (6 : Int32)) (hb hby at_69) rfl rfl ?_
      refine o_bipush X8 hx (pc' := 73) (v := (84 : Int32)) (hb hby at_71) rfl rfl ?_
      refine o_castore X8 hx hZ e8 hV (by decide) 6 rfl (Nat.le_of_ble_eq_true rfl) (hb hby at_73) (pc' := 74) rfl ?_
      intro T9 h9 X9 e9 W9 V9
      have NN := Fr.snoc X9 NN g_b2
      have ZZ := Nat.le_trans ZZ (Keep.of_wr W9).1
      have SWo := SW
      have SW := SW.wr W9 (Safe.arv SW.2.1.alike hV (by decide))
      have O := O.wr W9 g_b2
      have S7 := S7.keep (Keep.of_wr W9) (own_one le_S7_b2)
      have tz_S7 := Nat.le_trans tz_S7 (Keep.of_wr W9).1
      have hV : Arv Z h9 b2 k2 .char (21 : Int32) [.int 69, .int 78, .int 67, .int 82, .int 89, .int 80, .int 84, .int 0, .int 0, .int 0, .int 0, .int 0, .int 0, .int 0, .int 0, .int 0, .int 0, .int 0, .int 0, .int 0, .int 0] (.int 0) := by
          have q := V9
          rw [show nar .char (84 : Int32) = 84 from by decide +kernel] at q
          exact q
      refine o_dup X9 hx (pc' := 75) (hb hby at_74) rfl rfl ?_
      refine o_bipush X9 hx (pc' := 77) (v := (7 : Int32)) (hb hby at_75) rfl rfl ?_
      refine o_bipush X9 hx (pc' := 79) (v := (69 : Int32)) (hb hby at_77) rfl rfl ?_
      refine o_castore X9 hx hZ e9 hV (by decide) 7 rfl (Nat.le_of_ble_eq_true rfl) (hb hby at_79) (pc' := 80) rfl ?_
      intro T10 h10 X10 e10 W10 V10
      have NN := Fr.snoc X10 NN g_b2
      have ZZ := Nat.le_trans ZZ (Keep.of_wr W10).1
      have SWo := SW
      have SW := SW.wr W10 (Safe.arv SW.2.1.alike hV (by decide))
      have O := O.wr W10 g_b2
      have S7 := S7.keep (Keep.of_wr W10) (own_one le_S7_b2)
      have tz_S7 := Nat.le_trans tz_S7 (Keep.of_wr W10).1
      have hV : Arv Z h10 b2 k2 .char (21 : Int32) [.int 69, .int 78, .int 67, .int 82, .int 89, .int 80, .int 84, .int 69, .int 0, .int 0, .int 0, .int 0, .int 0, .int 0, .int 0, .int 0, .int 0, .int 0, .int 0, .int 0, .int 0] (.int 0) := by
          have q := V10
          rw [show nar .char (69 : Int32) = 69 from by decide +kernel] at q
          exact q
      refine o_dup X10 hx (pc' := 81) (hb hby at_80) rfl rfl ?_
      refine o_bipush X10 hx (pc' := 83) (v := (8 : Int32)) (hb hby at_81) rfl rfl ?_
      refine o_bipush X10 hx (pc' := 85) (v := (68 : Int32)) (hb hby at_83) rfl rfl ?_
      refine o_castore X10 hx hZ e10 hV (by decide) 8 rfl (Nat.le_of_ble_eq_true rfl) (hb hby at_85) (pc' := 86) rfl ?_
      intro T11 h11 X11 e11 W11 V11
      have NN := Fr.snoc X11 NN g_b2
      have ZZ := Nat.le_trans ZZ (Keep.of_wr W11).1
      have SWo := SW
      have SW := SW.wr W11 (Safe.arv SW.2.1.alike hV (by decide))
      have O := O.wr W11 g_b2
      have S7 := S7.keep (Keep.of_wr W11) (own_one le_S7_b2)
      have tz_S7 := Nat.le_trans tz_S7 (Keep.of_wr W11).1
      have hV : Arv Z h11 b2 k2 .char (21 : Int32) [.int 69, .int 78, .int 67, .int 82, .int 89, .int 80, .int 84, .int 69, .int 68, .int 0, .int 0, .int 0, .int 0, .int 0, .int 0, .int 0, .int 0, .int 0, .int 0, .int 0, .int 0] (.int 0) := by
          have q := V11
          rw [show nar .char (68 : Int32) = 68 from by decide +kernel] at q
          exact q
      refine o_dup X11 hx (pc' := 87) (hb hby at_86) rfl rfl ?_
      refine o_bipush X11 hx (pc' := 89) (v := (9 : Int32)) (hb hby at_87) rfl rfl ?_
      refine o_bipush X11 hx (pc' := 91) (v := (32 : Int32)) (hb hby at_89) rfl rfl ?_
      refine o_castore X11 hx hZ e11 hV (by decide) 9 rfl (Nat.le_of_ble_eq_true rfl) (hb hby at_91) (pc' := 92) rfl ?_
      intro T12 h12 X12 e12 W12 V12
      have NN := Fr.snoc X12 NN g_b2
      have ZZ := Nat.le_trans ZZ (Keep.of_wr W12).1
      have SWo := SW
      have SW := SW.wr W12 (Safe.arv SW.2.1.alike hV (by decide))
      have O := O.wr W12 g_b2
      have S7 := S7.keep (Keep.of_wr W12) (own_one le_S7_b2)
      have tz_S7 := Nat.le_trans tz_S7 (Keep.of_wr W12).1
      have hV : Arv Z h12 b2 k2 .char (21 : Int32) [.int 69, .int 78, .int 67, .int 82, .int 89, .int 80, .int 84, .int 69, .int 68, .int 32, .int 0, .int 0, .int 0, .int 0, .int 0, .int 0, .int 0, .int 0, .int 0, .int 0, .int 0] (.int 0) := by
          have q := V12
          rw [show nar .char (32 : Int32) = 32 from by decide +kernel] at q
          exact q
      refine o_dup X12 hx (pc' := 93) (hb hby at_92) rfl rfl ?_
      refine o_bipush X12 hx (pc' := 95) (v := (10 : Int32)) (hb hby at_93) rfl rfl ?_
      refine o_bipush X12 hx (pc' := 97) (v := (80 : Int32)) (hb hby at_95) rfl rfl ?_
      refine o_castore X12 hx hZ e12 hV (by decide) 10 rfl (Nat.le_of_ble_eq_true rfl) (hb hby at_97) (pc' := 98) rfl ?_
      intro T13 h13 X13 e13 W13 V13
      have NN := Fr.snoc X13 NN g_b2
      have ZZ := Nat.le_trans ZZ (Keep.of_wr W13).1
      have SWo := SW
      have SW := SW.wr W13 (Safe.arv SW.2.1.alike hV (by decide))
      have O := O.wr W13 g_b2
      have S7 := S7.keep (Keep.of_wr W13) (own_one le_S7_b2)
      have tz_S7 := Nat.le_trans tz_S7 (Keep.of_wr W13).1
      have hV : Arv Z h13 b2 k2 .char (21 : Int32) [.int 69, .int 78, .int 67, .int 82, .int 89, .int 80, .int 84, .int 69, .int 68, .int 32, .int 80, .int 0, .int 0, .int 0, .int 0, .int 0, .int 0, .int 0, .int 0, .int 0, .int 0] (.int 0) := by
          have q := V13
          rw [show nar .char (80 : Int32) = 80 from by decide +kernel] at q
          exact q
      refine o_dup X13 hx (pc' := 99) (hb hby at_98) rfl rfl ?_
      refine o_bipush X13 hx (pc' := 101) (v := (11 : Int32)) (hb hby at_99) rfl rfl ?_
      refine o_bipush X13 hx (pc' := 103) (v := (82 : Int32)) (hb hby at_101) rfl rfl ?_
      refine o_castore X13 hx hZ e13 hV (by decide) 11 rfl (Nat.le_of_ble_eq_true rfl) (hb hby at_103) (pc' := 104) rfl ?_
      intro T14 h14 X14 e14 W14 V14
      have NN := Fr.snoc X14 NN g_b2
      have ZZ := Nat.le_trans ZZ (Keep.of_wr W14).1
      have SWo := SW
      have SW := SW.wr W14 (Safe.arv SW.2.1.alike hV (by decide))
      have O := O.wr W14 g_b2
      have S7 := S7.keep (Keep.of_wr W14) (own_one le_S7_b2)
      have tz_S7 := Nat.le_trans tz_S7 (Keep.of_wr W14).1
      have hV : Arv Z h14 b2 k2 .char (21 : Int32) [.int 69, .int 78, .int 67, .int 82, .int 89, .int 80, .int 84, .int 69, .int 68, .int 32, .int 80, .int 82, .int 0, .int 0, .int 0, .int 0, .int 0, .int 0, .int 0, .int 0, .int 0] (.int 0) := by
          have q := V14
          rw [show nar .char (82 : Int32) = 82 from by decide +kernel] at q
          exact q
      refine o_dup X14 hx (pc' := 105) (hb hby at_104) rfl rfl ?_
      refine o_bipush X14 hx (pc' := 107) (v := (12 : Int32)) (hb hby at_105) rfl rfl ?_
      refine o_bipush X14 hx (pc' := 109) (v := (73 : Int32)) (hb hby at_107) rfl rfl ?_
      refine o_castore X14 hx hZ e14 hV (by decide) 12 rfl (Nat.le_of_ble_eq_true rfl) (hb hby at_109) (pc' := 110) rfl ?_
      intro T15 h15 X15 e15 W15 V15
      have NN := Fr.snoc X15 NN g_b2
      have ZZ := Nat.le_trans ZZ (Keep.of_wr W15).1
      have SWo := SW
      have SW := SW.wr W15 (Safe.arv SW.2.1.alike hV (by decide))
      have O := O.wr W15 g_b2
      have S7 := S7.keep (Keep.of_wr W15) (own_one le_S7_b2)
      have tz_S7 := Nat.le_trans tz_S7 (Keep.of_wr W15).1
      have hV : Arv Z h15 b2 k2 .char (21 : Int32) [.int 69, .int 78, .int 67, .int 82, .int 89, .int 80, .int 84, .int 69, .int 68, .int 32, .int 80, .int 82, .int 73, .int 0, .int 0, .int 0, .int 0, .int 0, .int 0, .int 0, .int 0] (.int 0) := by
          have q := V15
          rw [show nar .char (73 : Int32) = 73 from by decide +kernel] at q
          exact q
      refine o_dup X15 hx (pc' := 111) (hb hby at_110) rfl rfl ?_
      refine o_bipush X15 hx (pc' := 113) (v := (13 : Int32)) (hb hby at_111) rfl rfl ?_
      refine o_bipush X15 hx (pc' := 115) (v := (86 : Int32)) (hb hby at_113) rfl rfl ?_
      refine o_castore X15 hx hZ e15 hV (by decide) 13 rfl (Nat.le_of_ble_eq_true rfl) (hb hby at_115) (pc' := 116) rfl ?_
      intro T16 h16 X16 e16 W16 V16
      have NN := Fr.snoc X16 NN g_b2
      have ZZ := Nat.le_trans ZZ (Keep.of_wr W16).1
      have SWo := SW
      have SW := SW.wr W16 (Safe.arv SW.2.1.alike hV (by decide))
      have O := O.wr W16 g_b2
      have S7 := S7.keep (Keep.of_wr W16) (own_one le_S7_b2)
      have tz_S7 := Nat.le_trans tz_S7 (Keep.of_wr W16).1
      have hV : Arv Z h16 b2 k2 .char (21 : Int32) [.int 69, .int 78, .int 67, .int 82, .int 89, .int 80, .int 84, .int 69, .int 68, .int 32, .int 80, .int 82, .int 73, .int 86, .int 0, .int 0, .int 0, .int 0, .int 0, .int 0, .int 0] (.int 0) := by
          have q := V16
          rw [show nar .char (86 : Int32) = 86 from by decide +kernel] at q
          exact q
      refine o_dup X16 hx (pc' := 117) (hb hby at_116) rfl rfl ?_
      refine o_bipush X16 hx (pc' := 119) (v := (14 : Int32)) (hb hby at_117) rfl rfl ?_
      refine o_bipush X16 hx (pc' := 121) (v := (65 : Int32)) (hb hby at_119) rfl rfl ?_
      refine o_castore X16 hx hZ e16 hV (by decide) 14 rfl (Nat.le_of_ble_eq_true rfl) (hb hby at_121) (pc' := 122) rfl ?_
      intro T17 h17 X17 e17 W17 V17
      have NN := Fr.snoc X17 NN g_b2
      have ZZ := Nat.le_trans ZZ (Keep.of_wr W17).1
      have SWo := SW
      have SW := SW.wr W17 (Safe.arv SW.2.1.alike hV (by decide))
      have O := O.wr W17 g_b2
      have S7 := S7.keep (Keep.of_wr W17) (own_one le_S7_b2)
      have tz_S7 := Nat.le_trans tz_S7 (Keep.of_wr W17).1
      have hV : Arv Z h17 b2 k2 .char (21 : Int32) [.int 69, .int 78, .int 67, .int 82, .int 89, .int 80, .int 84, .int 69, .int 68, .int 32, .int 80, .int 82, .int 73, .int 86, .int 65, .int 0, .int 0, .int 0, .int 0, .int 0, .int 0] (.int 0) := by
          have q := V17
          rw [show nar .char (65 : Int32) = 65 from by decide +kernel] at q
          exact q
      refine o_dup X17 hx (pc' := 123) (hb hby at_122) rfl rfl ?_
      refine o_bipush X17 hx (pc' := 125) (v := (15 : Int32)) (hb hby at_123) rfl rfl ?_
      refine o_bipush X17 hx (pc' := 127) (v := (84 : Int32)) (hb hby at_125) rfl rfl ?_
      refine o_castore X17 hx hZ e17 hV (by decide) 15 rfl (Nat.le_of_ble_eq_true rfl) (hb hby at_127) (pc' := 128) rfl ?_
      intro T18 h18 X18 e18 W18 V18
      have NN := Fr.snoc X18 NN g_b2
      have ZZ := Nat.le_trans ZZ (Keep.of_wr W18).1
      have SWo := SW
      have SW := SW.wr W18 (Safe.arv SW.2.1.alike hV (by decide))
      have O := O.wr W18 g_b2
      have S7 := S7.keep (Keep.of_wr W18) (own_one le_S7_b2)
      have tz_S7 := Nat.le_trans tz_S7 (Keep.of_wr W18).1
      have hV : Arv Z h18 b2 k2 .char (21 : Int32) [.int 69, .int 78, .int 67, .int 82, .int 89, .int 80, .int 84, .int 69, .int 68, .int 32, .int 80, .int 82, .int 73, .int 86, .int 65, .int 84, .int 0, .int 0, .int 0, .int 0, .int 0] (.int 0) := by
          have q := V18
          rw [show nar .char (84 : Int32) = 84 from by decide +kernel] at q
          exact q
      refine o_dup X18 hx (pc' := 129) (hb hby at_128) rfl rfl ?_
      refine o_bipush X18 hx (pc' := 131) (v := (16 : Int32)) (hb hby at_129) rfl rfl ?_
      refine o_bipush X18 hx (pc' := 133) (v := (69 : Int32)) (hb hby at_131) rfl rfl ?_
      refine o_castore X18 hx hZ e18 hV (by decide) 16 rfl (Nat.le_of_ble_eq_true rfl) (hb hby at_133) (pc' := 134) rfl ?_
      intro T19 h19 X19 e19 W19 V19
      have NN := Fr.snoc X19 NN g_b2
      have ZZ := Nat.le_trans ZZ (Keep.of_wr W19).1
      have SWo := SW
      have SW := SW.wr W19 (Safe.arv SW.2.1.alike hV (by decide))
      have O := O.wr W19 g_b2
      have S7 := S7.keep (Keep.of_wr W19) (own_one le_S7_b2)
      have tz_S7 := Nat.le_trans tz_S7 (Keep.of_wr W19).1
      have hV : Arv Z h19 b2 k2 .char (21 : Int32) [.int 69, .int 78, .int 67, .int 82, .int 89, .int 80, .int 84, .int 69, .int 68, .int 32, .int 80, .int 82, .int 73, .int 86, .int 65, .int 84, .int 69, .int 0, .int 0, .int 0, .int 0] (.int 0) := by
          have q := V19
          rw [show nar .char (69 : Int32) = 69 from by decide +kernel] at q
          exact q
      refine o_dup X19 hx (pc' := 135) (hb hby at_134) rfl rfl ?_
      refine o_bipush X19 hx (pc' := 137) (v := (17 : Int32)) (hb hby at_135) rfl rfl ?_
      refine o_bipush X19 hx (pc' := 139) (v := (32 : Int32)) (hb hby at_137) rfl rfl ?_
      refine o_castore X19 hx hZ e19 hV (by decide) 17 rfl (Nat.le_of_ble_eq_true rfl) (hb hby at_139) (pc' := 140) rfl ?_
      intro T20 h20 X20 e20 W20 V20
      have NN := Fr.snoc X20 NN g_b2
      have ZZ := Nat.le_trans ZZ (Keep.of_wr W20).1
      have SWo := SW
      have SW := SW.wr W20 (Safe.arv SW.2.1.alike hV (by decide))
      have O := O.wr W20 g_b2
      have S7 := S7.keep (Keep.of_wr W20) (own_one le_S7_b2)
      have tz_S7 := Nat.le_trans tz_S7 (Keep.of_wr W20).1
      have hV : Arv Z h20 b2 k2 .char (21 : Int32) [.int 69, .int 78, .int 67, .int 82, .int 89, .int 80, .int 84, .int 69, .int 68, .int 32, .int 80, .int 82, .int 73, .int 86, .int 65, .int 84, .int 69, .int 32, .int 0, .int 0, .int 0] (.int 0) := by
          have q := V20
          rw [show nar .char (32 : Int32) = 32 from by decide +kernel] at q
          exact q
      refine o_dup X20 hx (pc' := 141) (hb hby at_140) rfl rfl ?_
      refine o_bipush X20 hx (pc' := 143) (v := (18 : Int32)) (hb hby at_141) rfl rfl ?_
      refine o_bipush X20 hx (pc' := 145) (v := (75 : Int32)) (hb hby at_143) rfl rfl ?_
      refine o_castore X20 hx hZ e20 hV (by decide) 18 rfl (Nat.le_of_ble_eq_true rfl) (hb hby at_145) (pc' := 146) rfl ?_
      intro T21 h21 X21 e21 W21 V21
      have NN := Fr.snoc X21 NN g_b2
      have ZZ := Nat.le_trans ZZ (Keep.of_wr W21).1
      have SWo := SW
      have SW := SW.wr W21 (Safe.arv SW.2.1.alike hV (by decide))
      have O := O.wr W21 g_b2
      have S7 := S7.keep (Keep.of_wr W21) (own_one le_S7_b2)
      have tz_S7 := Nat.le_trans tz_S7 (Keep.of_wr W21).1
      have hV : Arv Z h21 b2 k2 .char (21 : Int32) [.int 69, .int 78, .int 67, .int 82, .int 89, .int 80, .int 84, .int 69, .int 68, .int 32, .int 80, .int 82, .int 73, .int 86, .int 65, .int 84, .int 69, .int 32, .int 75, .int 0, .int 0] (.int 0) := by
          have q := V21
          rw [show nar .char (75 : Int32) = 75 from by decide +kernel] at q
          exact q
      refine o_dup X21 hx (pc' := 147) (hb hby at_146) rfl rfl ?_
      refine o_bipush X21 hx (pc' := 149) (v := (19 : Int32)) (hb hby at_147) rfl rfl ?_
      refine o_bipush X21 hx (pc' := 151) (v := (69 : Int32)) (hb hby at_149) rfl rfl ?_
      refine o_castore X21 hx hZ e21 hV (by decide) 19 rfl (Nat.le_of_ble_eq_true rfl) (hb hby at_151) (pc' := 152) rfl ?_
      intro T22 h22 X22 e22 W22 V22
      have NN := Fr.snoc X22 NN g_b2
      have ZZ := Nat.le_trans ZZ (Keep.of_wr W22).1
      have SWo := SW
      have SW := SW.wr W22 (Safe.arv SW.2.1.alike hV (by decide))
      have O := O.wr W22 g_b2
      have S7 := S7.keep (Keep.of_wr W22) (own_one le_S7_b2)
      have tz_S7 := Nat.le_trans tz_S7 (Keep.of_wr W22).1
      have hV : Arv Z h22 b2 k2 .char (21 : Int32) [.int 69, .int 78, .int 67, .int 82, .int 89, .int 80, .int 84, .int 69, .int 68, .int 32, .int 80, .int 82, .int 73, .int 86, .int 65, .int 84, .int 69, .int 32, .int 75, .int 69, .int 0] (.int 0) := by
          have q := V22
          rw [show nar .char (69 : Int32) = 69 from by decide +kernel] at q
          exact q
      refine o_dup X22 hx (pc' := 153) (hb hby at_152) rfl rfl ?_
      refine o_bipush X22 hx (pc' := 155) (v := (20 : Int32)) (hb hby at_153) rfl rfl ?_
      refine o_bipush X22 hx (pc' := 157) (v := (89 : Int32)) (hb hby at_155) rfl rfl ?_
      refine o_castore X22 hx hZ e22 hV (by decide) 20 rfl (Nat.le_of_ble_eq_true rfl) (hb hby at_157) (pc' := 158) rfl ?_
      intro T23 h23 X23 e23 W23 V23
      have NN := Fr.snoc X23 NN g_b2
      have ZZ := Nat.le_trans ZZ (Keep.of_wr W23).1
      have SWo := SW
      have SW := SW.wr W23 (Safe.arv SW.2.1.alike hV (by decide))
      have O := O.wr W23 g_b2
      have S7 := S7.keep (Keep.of_wr W23) (own_one le_S7_b2)
      have tz_S7 := Nat.le_trans tz_S7 (Keep.of_wr W23).1
      have hV : Arv Z h23 b2 k2 .char (21 : Int32) [.int 69, .int 78, .int 67, .int 82, .int 89, .int 80, .int 84, .int 69, .int 68, .int 32, .int 80, .int 82, .int 73, .int 86, .int 65, .int 84, .int 69, .int 32, .int 75, .int 69, .int 89] (.int 0) := by
          have q := V23
          rw [show nar .char (89 : Int32) = 89 from by decide +kernel] at q
          exact q
      have hV : Arv Z h23 b2 k2 .char (21 : Int32) (iv TGT) (.int 0) := hV
      refine o_astore X23 hx (pc' := 160) (Ls' := #[.val (.int p1), .val (.int p2), .val (.int p3), .val (.int p4), .val (.int en), .val (.ref la1), .val (.int c6), .val (.int (Int32.ofNat j)), .val (.ref b2), .unset, .unset, .unset, .unset, .unset]) (hb hby at_158) rfl rfl rfl ?_
      refine o_bipush X23 hx (pc' := 162) (v := (22 : Int32)) (hb hby at_160) rfl rfl ?_
      refine o_newarray X23 hx hZ e23 (hw _ (List.mem_of_getElem? (i := 9) rfl)) (hb hby at_162) (pc' := 164) rfl (by decide) 22 (by decide) (by decide) (by decide) (by decide) ?_
      intro T24 h24 b24 k24 g24 X24 e24 E24 V24
      have lt_b2_b24 : b2 < b24 := Nat.lt_of_lt_of_le hV.lt (Nat.le_of_eq g24.symm)
      have ne_b2_b24 : b2 ≠ b24 := Nat.ne_of_lt lt_b2_b24
      have g_b24 : n0 ≤ b24 := Nat.le_trans ZZ (Nat.le_of_eq g24.symm)
      have le_S7_b24 := Nat.le_trans tz_S7 (Nat.le_of_eq g24.symm)
      have ZZ := Nat.le_trans ZZ E24.1
      have SW := SW.ext E24
      have O := O.ext E24
      have S7 := S7.ext E24
      have tz_S7 := Nat.le_trans tz_S7 E24.1
      have hV := hV.ext E24
      have hW : Arv Z h24 b24 k24 .char (22 : Int32) [.int 0, .int 0, .int 0, .int 0, .int 0, .int 0, .int 0, .int 0, .int 0, .int 0, .int 0, .int 0, .int 0, .int 0, .int 0, .int 0, .int 0, .int 0, .int 0, .int 0, .int 0, .int 0] (.int 0) := V24.pad (pad_rep [] _ 22)
      refine o_dup X24 hx (pc' := 165) (hb hby at_164) rfl rfl ?_
      refine o_iconst X24 hx (pc' := 166) (v := (0 : Int32)) (hb hby at_165) rfl rfl ?_
      refine o_bipush X24 hx (pc' := 168) (v := (69 : Int32)) (hb hby at_166) rfl rfl ?_
      refine o_castore X24 hx hZ e24 hW (by decide) 0 rfl (Nat.le_of_ble_eq_true rfl) (hb hby at_168) (pc' := 169) rfl ?_
      intro T25 h25 X25 e25 W25 V25
      have NN := Fr.snoc X25 NN g_b24
      have ZZ := Nat.le_trans ZZ (Keep.of_wr W25).1
      have SWo := SW
      have SW := SW.wr W25 (Safe.arv SW.2.1.alike hW (by decide))
      have O := O.wr W25 g_b24
      have S7 := S7.keep (Keep.of_wr W25) (own_one le_S7_b24)
      have tz_S7 := Nat.le_trans tz_S7 (Keep.of_wr W25).1
      have hV := hV.other W25 ne_b2_b24
      have hW : Arv Z h25 b24 k24 .char (22 : Int32) [.int 69, .int 0, .int 0, .int 0, .int 0, .int 0, .int 0, .int 0, .int 0, .int 0, .int 0, .int 0, .int 0, .int 0, .int 0, .int 0, .int 0, .int 0, .int 0, .int 0, .int 0, .int 0] (.int 0) := by
          have q := V25
          rw [show nar .char (69 : Int32) = 69 from by decide +kernel] at q
          exact q
      refine o_dup X25 hx (pc' := 170) (hb hby at_169) rfl rfl ?_
      refine o_iconst X25 hx (pc' := 171) (v := (1 : Int32)) (hb hby at_170) rfl rfl ?_
      refine o_bipush X25 hx (pc' := 173) (v := (78 : Int32)) (hb hby at_171) rfl rfl ?_
      refine o_castore X25 hx hZ e25 hW (by decide) 1 rfl (Nat.le_of_ble_eq_true rfl) (hb hby at_173) (pc' := 174) rfl ?_
      intro T26 h26 X26 e26 W26 V26
      have NN := Fr.snoc X26 NN g_b24
      have ZZ := Nat.le_trans ZZ (Keep.of_wr W26).1
      have SWo := SW
      have SW := SW.wr W26 (Safe.arv SW.2.1.alike hW (by decide))
      have O := O.wr W26 g_b24
      have S7 := S7.keep (Keep.of_wr W26) (own_one le_S7_b24)
      have tz_S7 := Nat.le_trans tz_S7 (Keep.of_wr W26).1
      have hV := hV.other W26 ne_b2_b24
      have hW : Arv Z h26 b24 k24 .char (22 : Int32) [.int 69, .int 78, .int 0, .int 0, .int 0, .int 0, .int 0, .int 0, .int 0, .int 0, .int 0, .int 0, .int 0, .int 0, .int 0, .int 0, .int 0, .int 0, .int 0, .int 0, .int 0, .int 0] (.int 0) := by
          have q := V26
          rw [show nar .char (78 : Int32) = 78 from by decide +kernel] at q
          exact q
      refine o_dup X26 hx (pc' := 175) (hb hby at_174) rfl rfl ?_
      refine o_iconst X26 hx (pc' := 176) (v := (2 : Int32)) (hb hby at_175) rfl rfl ?_
      refine o_bipush X26 hx (pc' := 178) (v := (67 : Int32)) (hb hby at_176) rfl rfl ?_
      refine o_castore X26 hx hZ e26 hW (by decide) 2 rfl (Nat.le_of_ble_eq_true rfl) (hb hby at_178) (pc' := 179) rfl ?_
      intro T27 h27 X27 e27 W27 V27
      have NN := Fr.snoc X27 NN g_b24
      have ZZ := Nat.le_trans ZZ (Keep.of_wr W27).1
      have SWo := SW
      have SW := SW.wr W27 (Safe.arv SW.2.1.alike hW (by decide))
      have O := O.wr W27 g_b24
      have S7 := S7.keep (Keep.of_wr W27) (own_one le_S7_b24)
      have tz_S7 := Nat.le_trans tz_S7 (Keep.of_wr W27).1
      have hV := hV.other W27 ne_b2_b24
      have hW : Arv Z h27 b24 k24 .char (22 : Int32) [.int 69, .int 78, .int 67, .int 0, .int 0, .int 0, .int 0, .int 0, .int 0, .int 0, .int 0, .int 0, .int 0, .int 0, .int 0, .int 0, .int 0, .int 0, .int 0, .int 0, .int 0, .int 0] (.int 0) := by
          have q := V27
          rw [show nar .char (67 : Int32) = 67 from by decide +kernel] at q
          exact q
      refine o_dup X27 hx (pc' := 180) (hb hby at_179) rfl rfl ?_
      refine o_iconst X27 hx (pc' := 181) (v := (3 : Int32)) (hb hby at_180) rfl rfl ?_
      refine o_bipush X27 hx (pc' := 183) (v := (82 : Int32)) (hb hby at_181) rfl rfl ?_
      refine o_castore X27 hx hZ e27 hW (by decide) 3 rfl (Nat.le_of_ble_eq_true rfl) (hb hby at_183) (pc' := 184) rfl ?_
      intro T28 h28 X28 e28 W28 V28
      have NN := Fr.snoc X28 NN g_b24
      have ZZ := Nat.le_trans ZZ (Keep.of_wr W28).1
      have SWo := SW
      have SW := SW.wr W28 (Safe.arv SW.2.1.alike hW (by decide))
      have O := O.wr W28 g_b24
      have S7 := S7.keep (Keep.of_wr W28) (own_one le_S7_b24)
      have tz_S7 := Nat.le_trans tz_S7 (Keep.of_wr W28).1
      have hV := hV.other W28 ne_b2_b24
      have hW : Arv Z h28 b24 k24 .char (22 : Int32) [.int 69, .int 78, .int 67, .int 82, .int 0, .int 0, .int 0, .int 0, .int 0, .int 0, .int 0, .int 0, .int 0, .int 0, .int 0, .int 0, .int 0, .int 0, .int 0, .int 0, .int 0, .int 0] (.int 0) := by
          have q := V28
          rw [show nar .char (82 : Int32) = 82 from by decide +kernel] at q
          exact q
      refine o_dup X28 hx (pc' := 185) (hb hby at_184) rfl rfl ?_
      refine o_iconst X28 hx (pc' := 186) (v := (4 : Int32)) (hb hby at_185) rfl rfl ?_
      refine o_bipush X28 hx (pc' := 188) (v := (89 : Int32)) (hb hby at_186) rfl rfl ?_
      refine o_castore X28 hx hZ e28 hW (by decide) 4 rfl (Nat.le_of_ble_eq_true rfl) (hb hby at_188) (pc' := 189) rfl ?_
      intro T29 h29 X29 e29 W29 V29
      have NN := Fr.snoc X29 NN g_b24
      have ZZ := Nat.le_trans ZZ (Keep.of_wr W29).1
      have SWo := SW
      have SW := SW.wr W29 (Safe.arv SW.2.1.alike hW (by decide))
      have O := O.wr W29 g_b24
      have S7 := S7.keep (Keep.of_wr W29) (own_one le_S7_b24)
      have tz_S7 := Nat.le_trans tz_S7 (Keep.of_wr W29).1
      have hV := hV.other W29 ne_b2_b24
      have hW : Arv Z h29 b24 k24 .char (22 : Int32) [.int 69, .int 78, .int 67, .int 82, .int 89, .int 0, .int 0, .int 0, .int 0, .int 0, .int 0, .int 0, .int 0, .int 0, .int 0, .int 0, .int 0, .int 0, .int 0, .int 0, .int 0, .int 0] (.int 0) := by
          have q := V29
          rw [show nar .char (89 : Int32) = 89 from by decide +kernel] at q
          exact q
      refine o_dup X29 hx (pc' := 190) (hb hby at_189) rfl rfl ?_
      refine o_iconst X29 hx (pc' := 191) (v := (5 : Int32)) (hb hby at_190) rfl rfl ?_
      refine o_bipush X29 hx (pc' := 193) (v := (80 : Int32)) (hb hby at_191) rfl rfl ?_
      refine o_castore X29 hx hZ e29 hW (by decide) 5 rfl (Nat.le_of_ble_eq_true rfl) (hb hby at_193) (pc' := 194) rfl ?_
      intro T30 h30 X30 e30 W30 V30
      have NN := Fr.snoc X30 NN g_b24
      have ZZ := Nat.le_trans ZZ (Keep.of_wr W30).1
      have SWo := SW
      have SW := SW.wr W30 (Safe.arv SW.2.1.alike hW (by decide))
      have O := O.wr W30 g_b24
      have S7 := S7.keep (Keep.of_wr W30) (own_one le_S7_b24)
      have tz_S7 := Nat.le_trans tz_S7 (Keep.of_wr W30).1
      have hV := hV.other W30 ne_b2_b24
      have hW : Arv Z h30 b24 k24 .char (22 : Int32) [.int 69, .int 78, .int 67, .int 82, .int 89, .int 80, .int 0, .int 0, .int 0, .int 0, .int 0, .int 0, .int 0, .int 0, .int 0, .int 0, .int 0, .int 0, .int 0, .int 0, .int 0, .int 0] (.int 0) := by
          have q := V30
          rw [show nar .char (80 : Int32) = 80 from by decide +kernel] at q
          exact q
      refine o_dup X30 hx (pc' := 195) (hb hby at_194) rfl rfl ?_
      refine o_bipush X30 hx (pc' := 197) (v := (6 : Int32)) (hb hby at_195) rfl rfl ?_
      refine o_bipush X30 hx (pc' := 199) (v := (84 : Int32)) (hb hby at_197) rfl rfl ?_
      refine o_castore X30 hx hZ e30 hW (by decide) 6 rfl (Nat.le_of_ble_eq_true rfl) (hb hby at_199) (pc' := 200) rfl ?_
      intro T31 h31 X31 e31 W31 V31
      have NN := Fr.snoc X31 NN g_b24
      have ZZ := Nat.le_trans ZZ (Keep.of_wr W31).1
      have SWo := SW
      have SW := SW.wr W31 (Safe.arv SW.2.1.alike hW (by decide))
      have O := O.wr W31 g_b24
      have S7 := S7.keep (Keep.of_wr W31) (own_one le_S7_b24)
      have tz_S7 := Nat.le_trans tz_S7 (Keep.of_wr W31).1
      have hV := hV.other W31 ne_b2_b24
      have hW : Arv Z h31 b24 k24 .char (22 : Int32) [.int 69, .int 78, .int 67, .int 82, .int 89, .int 80, .int 84, .int 0, .int 0, .int 0, .int 0, .int 0, .int 0, .int 0, .int 0, .int 0, .int 0, .int 0, .int 0, .int 0, .int 0, .int 0] (.int 0) := by
          have q := V31
          rw [show nar .char (84 : Int32) = 84 from by decide +kernel] at q
          exact q
      refine o_dup X31 hx (pc' := 201) (hb hby at_200) rfl rfl ?_
      refine o_bipush X31 hx (pc' := 203) (v := (7 : Int32)) (hb hby at_201) rfl rfl ?_
      refine o_bipush X31 hx (pc' := 205) (v := (69 : Int32)) (hb hby at_203) rfl rfl ?_
      refine o_castore X31 hx hZ e31 hW (by decide) 7 rfl (Nat.le_of_ble_eq_true rfl) (hb hby at_205) (pc' := 206) rfl ?_
      intro T32 h32 X32 e32 W32 V32
      have NN := Fr.snoc X32 NN g_b24
      have ZZ := Nat.le_trans ZZ (Keep.of_wr W32).1
      have SWo := SW
      have SW := SW.wr W32 (Safe.arv SW.2.1.alike hW (by decide))
      have O := O.wr W32 g_b24
      have S7 := S7.keep (Keep.of_wr W32) (own_one le_S7_b24)
      have tz_S7 := Nat.le_trans tz_S7 (Keep.of_wr W32).1
      have hV := hV.other W32 ne_b2_b24
      have hW : Arv Z h32 b24 k24 .char (22 : Int32) [.int 69, .int 78, .int 67, .int 82, .int 89, .int 80, .int 84, .int 69, .int 0, .int 0, .int 0, .int 0, .int 0, .int 0, .int 0, .int 0, .int 0, .int 0, .int 0, .int 0, .int 0, .int 0] (.int 0) := by
          have q := V32
          rw [show nar .char (69 : Int32) = 69 from by decide +kernel] at q
          exact q
      refine o_dup X32 hx (pc' := 207) (hb hby at_206) rfl rfl ?_
      refine o_bipush X32 hx (pc' := 209) (v := (8 : Int32)) (hb hby at_207) rfl rfl ?_
      refine o_bipush X32 hx (pc' := 211) (v := (68 : Int32)) (hb hby at_209) rfl rfl ?_
      refine o_castore X32 hx hZ e32 hW (by decide) 8 rfl (Nat.le_of_ble_eq_true rfl) (hb hby at_211) (pc' := 212) rfl ?_
      intro T33 h33 X33 e33 W33 V33
      have NN := Fr.snoc X33 NN g_b24
      have ZZ := Nat.le_trans ZZ (Keep.of_wr W33).1
      have SWo := SW
      have SW := SW.wr W33 (Safe.arv SW.2.1.alike hW (by decide))
      have O := O.wr W33 g_b24
      have S7 := S7.keep (Keep.of_wr W33) (own_one le_S7_b24)
      have tz_S7 := Nat.le_trans tz_S7 (Keep.of_wr W33).1
      have hV := hV.other W33 ne_b2_b24
      have hW : Arv Z h33 b24 k24 .char (22 : Int32) [.int 69, .int 78, .int 67, .int 82, .int 89, .int 80, .int 84, .int 69, .int 68, .int 0, .int 0, .int 0, .int 0, .int 0, .int 0, .int 0, .int 0, .int 0, .int 0, .int 0, .int 0, .int 0] (.int 0) := by
          have q := V33
          rw [show nar .char (68 : Int32) = 68 from by decide +kernel] at q
          exact q
      refine o_dup X33 hx (pc' := 213) (hb hby at_212) rfl rfl ?_
      refine o_bipush X33 hx (pc' := 215) (v := (9 : Int32)) (hb hby at_213) rfl rfl ?_
      refine o_bipush X33 hx (pc' := 217) (v := (32 : Int32)) (hb hby at_215) rfl rfl ?_
      refine o_castore X33 hx hZ e33 hW (by decide) 9 rfl (Nat.le_of_ble_eq_true rfl) (hb hby at_217) (pc' := 218) rfl ?_
      intro T34 h34 X34 e34 W34 V34
      have NN := Fr.snoc X34 NN g_b24
      have ZZ := Nat.le_trans ZZ (Keep.of_wr W34).1
      have SWo := SW
      have SW := SW.wr W34 (Safe.arv SW.2.1.alike hW (by decide))
      have O := O.wr W34 g_b24
      have S7 := S7.keep (Keep.of_wr W34) (own_one le_S7_b24)
      have tz_S7 := Nat.le_trans tz_S7 (Keep.of_wr W34).1
      have hV := hV.other W34 ne_b2_b24
      have hW : Arv Z h34 b24 k24 .char (22 : Int32) [.int 69, .int 78, .int 67, .int 82, .int 89, .int 80, .int 84, .int 69, .int 68, .int 32, .int 0, .int 0, .int 0, .int 0, .int 0, .int 0, .int 0, .int 0, .int 0, .int 0, .int 0, .int 0] (.int 0) := by
          have q := V34
          rw [show nar .char (32 : Int32) = 32 from by decide +kernel] at q
          exact q
      refine o_dup X34 hx (pc' := 219) (hb hby at_218) rfl rfl ?_
      refine o_bipush X34 hx (pc' := 221) (v := (10 : Int32)) (hb hby at_219) rfl rfl ?_
      refine o_bipush X34 hx (pc' := 223) (v := (80 : Int32)) (hb hby at_221) rfl rfl ?_
      refine o_castore X34 hx hZ e34 hW (by decide) 10 rfl (Nat.le_of_ble_eq_true rfl) (hb hby at_223) (pc' := 224) rfl ?_
      intro T35 h35 X35 e35 W35 V35
      have NN := Fr.snoc X35 NN g_b24
      have ZZ := Nat.le_trans ZZ (Keep.of_wr W35).1
      have SWo := SW
      have SW := SW.wr W35 (Safe.arv SW.2.1.alike hW (by decide))
      have O := O.wr W35 g_b24
      have S7 := S7.keep (Keep.of_wr W35) (own_one le_S7_b24)
      have tz_S7 := Nat.le_trans tz_S7 (Keep.of_wr W35).1
      have hV := hV.other W35 ne_b2_b24
      have hW : Arv Z h35 b24 k24 .char (22 : Int32) [.int 69, .int 78, .int 67, .int 82, .int 89, .int 80, .int 84, .int 69, .int 68, .int 32, .int 80, .int 0, .int 0, .int 0, .int 0, .int 0, .int 0, .int 0, .int 0, .int 0, .int 0, .int 0] (.int 0) := by
          have q := V35
          rw [show nar .char (80 : Int32) = 80 from by decide +kernel] at q
          exact q
      refine o_dup X35 hx (pc' := 225) (hb hby at_224) rfl rfl ?_
      refine o_bipush X35 hx (pc' := 227) (v := (11 : Int32)) (hb hby at_225) rfl rfl ?_
      refine o_bipush X35 hx (pc' := 229) (v := (82 : Int32)) (hb hby at_227) rfl rfl ?_
      refine o_castore X35 hx hZ e35 hW (by decide) 11 rfl (Nat.le_of_ble_eq_true rfl) (hb hby at_229) (pc' := 230) rfl ?_
      intro T36 h36 X36 e36 W36 V36
      have NN := Fr.snoc X36 NN g_b24
      have ZZ := Nat.le_trans ZZ (Keep.of_wr W36).1
      have SWo := SW
      have SW := SW.wr W36 (Safe.arv SW.2.1.alike hW (by decide))
      have O := O.wr W36 g_b24
      have S7 := S7.keep (Keep.of_wr W36) (own_one le_S7_b24)
      have tz_S7 := Nat.le_trans tz_S7 (Keep.of_wr W36).1
      have hV := hV.other W36 ne_b2_b24
      have hW : Arv Z h36 b24 k24 .char (22 : Int32) [.int 69, .int 78, .int 67, .int 82, .int 89, .int 80, .int 84, .int 69, .int 68, .int 32, .int 80, .int 82, .int 0, .int 0, .int 0, .int 0, .int 0, .int 0, .int 0, .int 0, .int 0, .int 0] (.int 0) := by
          have q := V36
          rw [show nar .char (82 : Int32) = 82 from by decide +kernel] at q
          exact q
      refine o_dup X36 hx (pc' := 231) (hb hby at_230) rfl rfl ?_
      refine o_bipush X36 hx (pc' := 233) (v := (12 : Int32)) (hb hby at_231) rfl rfl ?_
      refine o_bipush X36 hx (pc' := 235) (v := (73 : Int32)) (hb hby at_233) rfl rfl ?_
      refine o_castore X36 hx hZ e36 hW (by decide) 12 rfl (Nat.le_of_ble_eq_true rfl) (hb hby at_235) (pc' := 236) rfl ?_
      intro T37 h37 X37 e37 W37 V37
      have NN := Fr.snoc X37 NN g_b24
      have ZZ := Nat.le_trans ZZ (Keep.of_wr W37).1
      have SWo := SW
      have SW := SW.wr W37 (Safe.arv SW.2.1.alike hW (by decide))
      have O := O.wr W37 g_b24
      have S7 := S7.keep (Keep.of_wr W37) (own_one le_S7_b24)
      have tz_S7 := Nat.le_trans tz_S7 (Keep.of_wr W37).1
      have hV := hV.other W37 ne_b2_b24
      have hW : Arv Z h37 b24 k24 .char (22 : Int32) [.int 69, .int 78, .int 67, .int 82, .int 89, .int 80, .int 84, .int 69, .int 68, .int 32, .int 80, .int 82, .int 73, .int 0, .int 0, .int 0, .int 0, .int 0, .int 0, .int 0, .int 0, .int 0] (.int 0) := by
          have q := V37
          rw [show nar .char (73 : Int32) = 73 from by decide +kernel] at q
          exact q
      refine o_dup X37 hx (pc' := 237) (hb hby at_236) rfl rfl ?_
      refine o_bipush X37 hx (pc' := 239) (v := (13 : Int32)) (hb hby at_237) rfl rfl ?_
      refine o_bipush X37 hx (pc' := 241) (v := (86 : Int32)) (hb hby at_239) rfl rfl ?_
      refine o_castore X37 hx hZ e37 hW (by decide) 13 rfl (Nat.le_of_ble_eq_true rfl) (hb hby at_241) (pc' := 242) rfl ?_
      intro T38 h38 X38 e38 W38 V38
      have NN := Fr.snoc X38 NN g_b24
      have ZZ := Nat.le_trans ZZ (Keep.of_wr W38).1
      have SWo := SW
      have SW := SW.wr W38 (Safe.arv SW.2.1.alike hW (by decide))
      have O := O.wr W38 g_b24
      have S7 := S7.keep (Keep.of_wr W38) (own_one le_S7_b24)
      have tz_S7 := Nat.le_trans tz_S7 (Keep.of_wr W38).1
      have hV := hV.other W38 ne_b2_b24
      have hW : Arv Z h38 b24 k24 .char (22 : Int32) [.int 69, .int 78, .int 67, .int 82, .int 89, .int 80, .int 84, .int 69, .int 68, .int 32, .int 80, .int 82, .int 73, .int 86, .int 0, .int 0, .int 0, .int 0, .int 0, .int 0, .int 0, .int 0] (.int 0) := by
          have q := V38
          rw [show nar .char (86 : Int32) = 86 from by decide +kernel] at q
          exact q
      refine o_dup X38 hx (pc' := 243) (hb hby at_242) rfl rfl ?_
      refine o_bipush X38 hx (pc' := 245) (v := (14 : Int32)) (hb hby at_243) rfl rfl ?_
      refine o_bipush X38 hx (pc' := 247) (v := (65 : Int32)) (hb hby at_245) rfl rfl ?_
      refine o_castore X38 hx hZ e38 hW (by decide) 14 rfl (Nat.le_of_ble_eq_true rfl) (hb hby at_247) (pc' := 248) rfl ?_
      intro T39 h39 X39 e39 W39 V39
      have NN := Fr.snoc X39 NN g_b24
      have ZZ := Nat.le_trans ZZ (Keep.of_wr W39).1
      have SWo := SW
      have SW := SW.wr W39 (Safe.arv SW.2.1.alike hW (by decide))
      have O := O.wr W39 g_b24
      have S7 := S7.keep (Keep.of_wr W39) (own_one le_S7_b24)
      have tz_S7 := Nat.le_trans tz_S7 (Keep.of_wr W39).1
      have hV := hV.other W39 ne_b2_b24
      have hW : Arv Z h39 b24 k24 .char (22 : Int32) [.int 69, .int 78, .int 67, .int 82, .int 89, .int 80, .int 84, .int 69, .int 68, .int 32, .int 80, .int 82, .int 73, .int 86, .int 65, .int 0, .int 0, .int 0, .int 0, .int 0, .int 0, .int 0] (.int 0) := by
          have q := V39
          rw [show nar .char (65 : Int32) = 65 from by decide +kernel] at q
          exact q
      refine o_dup X39 hx (pc' := 249) (hb hby at_248) rfl rfl ?_
      refine o_bipush X39 hx (pc' := 251) (v := (15 : Int32)) (hb hby at_249) rfl rfl ?_
      refine o_bipush X39 hx (pc' := 253) (v := (84 : Int32)) (hb hby at_251) rfl rfl ?_
      refine o_castore X39 hx hZ e39 hW (by decide) 15 rfl (Nat.le_of_ble_eq_true rfl) (hb hby at_253) (pc' := 254) rfl ?_
      intro T40 h40 X40 e40 W40 V40
      have NN := Fr.snoc X40 NN g_b24
      have ZZ := Nat.le_trans ZZ (Keep.of_wr W40).1
      have SWo := SW
      have SW := SW.wr W40 (Safe.arv SW.2.1.alike hW (by decide))
      have O := O.wr W40 g_b24
      have S7 := S7.keep (Keep.of_wr W40) (own_one le_S7_b24)
      have tz_S7 := Nat.le_trans tz_S7 (Keep.of_wr W40).1
      have hV := hV.other W40 ne_b2_b24
      have hW : Arv Z h40 b24 k24 .char (22 : Int32) [.int 69, .int 78, .int 67, .int 82, .int 89, .int 80, .int 84, .int 69, .int 68, .int 32, .int 80, .int 82, .int 73, .int 86, .int 65, .int 84, .int 0, .int 0, .int 0, .int 0, .int 0, .int 0] (.int 0) := by
          have q := V40
          rw [show nar .char (84 : Int32) = 84 from by decide +kernel] at q
          exact q
      refine o_dup X40 hx (pc' := 255) (hb hby at_254) rfl rfl ?_
      refine o_bipush X40 hx (pc' := 257) (v := (16 : Int32)) (hb hby at_255) rfl rfl ?_
      refine o_bipush X40 hx (pc' := 259) (v := (69 : Int32)) (hb hby at_257) rfl rfl ?_
      refine o_castore X40 hx hZ e40 hW (by decide) 16 rfl (Nat.le_of_ble_eq_true rfl) (hb hby at_259) (pc' := 260) rfl ?_
      intro T41 h41 X41 e41 W41 V41
      have NN := Fr.snoc X41 NN g_b24
      have ZZ := Nat.le_trans ZZ (Keep.of_wr W41).1
      have SWo := SW
      have SW := SW.wr W41 (Safe.arv SW.2.1.alike hW (by decide))
      have O := O.wr W41 g_b24
      have S7 := S7.keep (Keep.of_wr W41) (own_one le_S7_b24)
      have tz_S7 := Nat.le_trans tz_S7 (Keep.of_wr W41).1
      have hV := hV.other W41 ne_b2_b24
      have hW : Arv Z h41 b24 k24 .char (22 : Int32) [.int 69, .int 78, .int 67, .int 82, .int 89, .int 80, .int 84, .int 69, .int 68, .int 32, .int 80, .int 82, .int 73, .int 86, .int 65, .int 84, .int 69, .int 0, .int 0, .int 0, .int 0, .int 0] (.int 0) := by
          have q := V41
          rw [show nar .char (69 : Int32) = 69 from by decide +kernel] at q
          exact q
      refine o_dup X41 hx (pc' := 261) (hb hby at_260) rfl rfl ?_
      refine o_bipush X41 hx (pc' := 263) (v := (17 : Int32)) (hb hby at_261) rfl rfl ?_
      refine o_bipush X41 hx (pc' := 265) (v := (32 : Int32)) (hb hby at_263) rfl rfl ?_
      refine o_castore X41 hx hZ e41 hW (by decide) 17 rfl (Nat.le_of_ble_eq_true rfl) (hb hby at_265) (pc' := 266) rfl ?_
      intro T42 h42 X42 e42 W42 V42
      have NN := Fr.snoc X42 NN g_b24
      have ZZ := Nat.le_trans ZZ (Keep.of_wr W42).1
      have SWo := SW
      have SW := SW.wr W42 (Safe.arv SW.2.1.alike hW (by decide))
      have O := O.wr W42 g_b24
      have S7 := S7.keep (Keep.of_wr W42) (own_one le_S7_b24)
      have tz_S7 := Nat.le_trans tz_S7 (Keep.of_wr W42).1
      have hV := hV.other W42 ne_b2_b24
      have hW : Arv Z h42 b24 k24 .char (22 : Int32) [.int 69, .int 78, .int 67, .int 82, .int 89, .int 80, .int 84, .int 69, .int 68, .int 32, .int 80, .int 82, .int 73, .int 86, .int 65, .int 84, .int 69, .int 32, .int 0, .int 0, .int 0, .int 0] (.int 0) := by
          have q := V42
          rw [show nar .char (32 : Int32) = 32 from by decide +kernel] at q
          exact q
      refine o_dup X42 hx (pc' := 267) (hb hby at_266) rfl rfl ?_
      refine o_bipush X42 hx (pc' := 269) (v := (18 : Int32)) (hb hby at_267) rfl rfl ?_
      refine o_bipush X42 hx (pc' := 271) (v := (75 : Int32)) (hb hby at_269) rfl rfl ?_
      refine o_castore X42 hx hZ e42 hW (by decide) 18 rfl (Nat.le_of_ble_eq_true rfl) (hb hby at_271) (pc' := 272) rfl ?_
      intro T43 h43 X43 e43 W43 V43
      have NN := Fr.snoc X43 NN g_b24
      have ZZ := Nat.le_trans ZZ (Keep.of_wr W43).1
      have SWo := SW
      have SW := SW.wr W43 (Safe.arv SW.2.1.alike hW (by decide))
      have O := O.wr W43 g_b24
      have S7 := S7.keep (Keep.of_wr W43) (own_one le_S7_b24)
      have tz_S7 := Nat.le_trans tz_S7 (Keep.of_wr W43).1
      have hV := hV.other W43 ne_b2_b24
      have hW : Arv Z h43 b24 k24 .char (22 : Int32) [.int 69, .int 78, .int 67, .int 82, .int 89, .int 80, .int 84, .int 69, .int 68, .int 32, .int 80, .int 82, .int 73, .int 86, .int 65, .int 84, .int 69, .int 32, .int 75, .int 0, .int 0, .int 0] (.int 0) := by
          have q := V43
          rw [show nar .char (75 : Int32) = 75 from by decide +kernel] at q
          exact q
      refine o_dup X43 hx (pc' := 273) (hb hby at_272) rfl rfl ?_
      refine o_bipush X43 hx (pc' := 275) (v := (19 : Int32)) (hb hby at_273) rfl rfl ?_
      refine o_bipush X43 hx (pc' := 277) (v := (69 : Int32)) (hb hby at_275) rfl rfl ?_
      refine o_castore X43 hx hZ e43 hW (by decide) 19 rfl (Nat.le_of_ble_eq_true rfl) (hb hby at_277) (pc' := 278) rfl ?_
      intro T44 h44 X44 e44 W44 V44
      have NN := Fr.snoc X44 NN g_b24
      have ZZ := Nat.le_trans ZZ (Keep.of_wr W44).1
      have SWo := SW
      have SW := SW.wr W44 (Safe.arv SW.2.1.alike hW (by decide))
      have O := O.wr W44 g_b24
      have S7 := S7.keep (Keep.of_wr W44) (own_one le_S7_b24)
      have tz_S7 := Nat.le_trans tz_S7 (Keep.of_wr W44).1
      have hV := hV.other W44 ne_b2_b24
      have hW : Arv Z h44 b24 k24 .char (22 : Int32) [.int 69, .int 78, .int 67, .int 82, .int 89, .int 80, .int 84, .int 69, .int 68, .int 32, .int 80, .int 82, .int 73, .int 86, .int 65, .int 84, .int 69, .int 32, .int 75, .int 69, .int 0, .int 0] (.int 0) := by
          have q := V44
          rw [show nar .char (69 : Int32) = 69 from by decide +kernel] at q
          exact q
      refine o_dup X44 hx (pc' := 279) (hb hby at_278) rfl rfl ?_
      refine o_bipush X44 hx (pc' := 281) (v := (20 : Int32)) (hb hby at_279) rfl rfl ?_
      refine o_bipush X44 hx (pc' := 283) (v := (89 : Int32)) (hb hby at_281) rfl rfl ?_
      refine o_castore X44 hx hZ e44 hW (by decide) 20 rfl (Nat.le_of_ble_eq_true rfl) (hb hby at_283) (pc' := 284) rfl ?_
      intro T45 h45 X45 e45 W45 V45
      have NN := Fr.snoc X45 NN g_b24
      have ZZ := Nat.le_trans ZZ (Keep.of_wr W45).1
      have SWo := SW
      have SW := SW.wr W45 (Safe.arv SW.2.1.alike hW (by decide))
      have O := O.wr W45 g_b24
      have S7 := S7.keep (Keep.of_wr W45) (own_one le_S7_b24)
      have tz_S7 := Nat.le_trans tz_S7 (Keep.of_wr W45).1
      have hV := hV.other W45 ne_b2_b24
      have hW : Arv Z h45 b24 k24 .char (22 : Int32) [.int 69, .int 78, .int 67, .int 82, .int 89, .int 80, .int 84, .int 69, .int 68, .int 32, .int 80, .int 82, .int 73, .int 86, .int 65, .int 84, .int 69, .int 32, .int 75, .int 69, .int 89, .int 0] (.int 0) := by
          have q := V45
          rw [show nar .char (89 : Int32) = 89 from by decide +kernel] at q
          exact q
      refine o_dup X45 hx (pc' := 285) (hb hby at_284) rfl rfl ?_
      refine o_bipush X45 hx (pc' := 287) (v := (21 : Int32)) (hb hby at_285) rfl rfl ?_
      refine o_iload X45 hx (pc' := 289) (hb hby at_287) rfl rfl ?_
      refine o_castore X45 hx hZ e45 hW (by decide) 21 rfl (Nat.le_of_ble_eq_true rfl) (hb hby at_289) (pc' := 290) rfl ?_
      intro T46 h46 X46 e46 W46 V46
      have NN := Fr.snoc X46 NN g_b24
      have ZZ := Nat.le_trans ZZ (Keep.of_wr W46).1
      have SWo := SW
      have SW := SW.wr W46 (Safe.arv SW.2.1.alike hW (by decide))
      have O := O.wr W46 g_b24
      have S7 := S7.keep (Keep.of_wr W46) (own_one le_S7_b24)
      have tz_S7 := Nat.le_trans tz_S7 (Keep.of_wr W46).1
      have hV := hV.other W46 ne_b2_b24
      have hW : Arv Z h46 b24 k24 .char (22 : Int32) [.int 69, .int 78, .int 67, .int 82, .int 89, .int 80, .int 84, .int 69, .int 68, .int 32, .int 80, .int 82, .int 73, .int 86, .int 65, .int 84, .int 69, .int 32, .int 75, .int 69, .int 89, .int c6] (.int 0) := by
          have q := V46
          rw [hch.nar] at q
          exact q
      have hW : Arv Z h46 b24 k24 .char (22 : Int32) (iv (TGT ++ [c6])) (.int 0) := hW
      refine o_astore X46 hx (pc' := 292) (Ls' := #[.val (.int p1), .val (.int p2), .val (.int p3), .val (.int p4), .val (.int en), .val (.ref la1), .val (.int c6), .val (.int (Int32.ofNat j)), .val (.ref b2), .val (.ref b24), .unset, .unset, .unset, .unset]) (hb hby at_290) rfl rfl rfl ?_
      refine o_iloadN X46 hx (pc' := 293) (hb hby at_292) rfl rfl ?_
      refine o_bipush X46 hx (pc' := 295) (v := (7 : Int32)) (hb hby at_293) rfl rfl ?_
      refine o_iand X46 hx (pc' := 296) (hb hby at_295) rfl ?_
      refine o_istore X46 hx (pc' := 298) (Ls' := #[.val (.int p1), .val (.int p2), .val (.int p3), .val (.int p4), .val (.int en), .val (.ref la1), .val (.int c6), .val (.int (Int32.ofNat j)), .val (.ref b2), .val (.ref b24), .val (.int (p1 &&& (7 : Int32))), .unset, .unset, .unset]) (hb hby at_296) rfl rfl ?_
      refine o_iload X46 hx (pc' := 300) (hb hby at_298) rfl rfl ?_
      refine o_if_ne X46 hx (pc' := 303) (pt := 320) (hb hby at_300) rfl (by decide) (by decide) (fun hc300 => ?_) (fun hc300 => ?_)
      · skip
        refine o_iload X46 hx (pc' := 322) (hb hby at_320) rfl rfl ?_
        refine o_iconst X46 hx (pc' := 323) (v := (1 : Int32)) (hb hby at_322) rfl rfl ?_
        refine o_icmp_ne X46 hx (pc' := 326) (pt := 366) (hb hby at_323) rfl (by decide) (by decide) (fun hc323 => ?_) (fun hc323 => ?_)
        · skip
          refine o_iload X46 hx (pc' := 368) (hb hby at_366) rfl rfl ?_
          refine o_iconst X46 hx (pc' := 369) (v := (2 : Int32)) (hb hby at_368) rfl rfl ?_
          refine o_icmp_ne X46 hx (pc' := 372) (pt := 382) (hb hby at_369) rfl (by decide) (by decide) (fun hc369 => ?_) (fun hc369 => ?_)
          · skip
            refine o_iload X46 hx (pc' := 384) (hb hby at_382) rfl rfl ?_
            refine o_iconst X46 hx (pc' := 385) (v := (3 : Int32)) (hb hby at_384) rfl rfl ?_
            refine o_icmp_ne X46 hx (pc' := 388) (pt := 398) (hb hby at_385) rfl (by decide) (by decide) (fun hc385 => ?_) (fun hc385 => ?_)
            · skip
              refine o_iload X46 hx (pc' := 400) (hb hby at_398) rfl rfl ?_
              refine o_iconst X46 hx (pc' := 401) (v := (4 : Int32)) (hb hby at_400) rfl rfl ?_
              refine o_icmp_ne X46 hx (pc' := 404) (pt := 414) (hb hby at_401) rfl (by decide) (by decide) (fun hc401 => ?_) (fun hc401 => ?_)
              · skip
                refine o_iload X46 hx (pc' := 416) (hb hby at_414) rfl rfl ?_
                refine o_iconst X46 hx (pc' := 417) (v := (5 : Int32)) (hb hby at_416) rfl rfl ?_
                refine o_icmp_ne X46 hx (pc' := 420) (pt := 430) (hb hby at_417) rfl (by decide) (by decide) (fun hc417 => ?_) (fun hc417 => ?_)
                · skip
                  refine o_iload X46 hx (pc' := 432) (hb hby at_430) rfl rfl ?_
                  refine o_bipush X46 hx (pc' := 434) (v := (6 : Int32)) (hb hby at_432) rfl rfl ?_
                  refine o_icmp_ne X46 hx (pc' := 437) (pt := 454) (hb hby at_434) rfl (by decide) (by decide) (fun hc434 => ?_) (fun hc434 => ?_)
                  · skip
                    refine o_iloadN X46 hx (pc' := 455) (hb hby at_454) rfl rfl ?_
                    refine o_iconst X46 hx (pc' := 456) (v := (1 : Int32)) (hb hby at_455) rfl rfl ?_
                    refine o_iand X46 hx (pc' := 457) (hb hby at_456) rfl ?_
                    refine o_if_ne X46 hx (pc' := 460) (pt := 465) (hb hby at_457) rfl (by decide) (by decide) (fun hc457 => ?_) (fun hc457 => ?_)
                    · skip
                      refine o_iload X46 hx (pc' := 467) (hb hby at_465) rfl rfl ?_
                      refine o_callS X46 hx hZ [(.int c6)] (rmVO l Z a0 hw h46 n0 ZZ c6 hch.le cs0 S0 hcs O) hown (hw _ (List.mem_of_getElem? (i := 78) rfl)) (hw _ (List.mem_of_getElem? (i := 79) rfl)) (hw _ (List.mem_of_getElem? (i := 1) rfl)) (hw _ (List.mem_of_getElem? (i := 80) rfl)) (by decide) pd_15 e46 (by rw [hml]; rfl) rfl rfl rfl (hb hby at_467) (pc' := 470) rfl 0 (Nat.le_of_eq rfl) (by decide) (by decide) (by decide) (by decide) ?_
                      intro T47 v47 L47 X47 hQ47
                      obtain ⟨sv, rfl, sz_sv, Nq, Kq, SL⟩ := hQ47
                      have NN := Fr.app NN Nq
                      have ZZ := Nat.le_trans ZZ Kq.1
                      have SWo := SW
                      have SW := SW.keep Kq sf0
                      have O := O.keep Kq (fun x hx => nomatch hx)
                      have S7 := S7.keep Kq (fun x hx => nomatch hx)
                      have tz_S7 := Nat.le_trans tz_S7 Kq.1
                      have tz_SL : T47.heap.size ≤ T47.heap.size := Nat.le_refl _
                      show Dn p e below _ (T47.setTop (mkF m 470 #[.val (.int p1), .val (.int p2), .val (.int p3), .val (.int p4), .val (.int en), .val (.ref la1), .val (.int c6), .val (.int (Int32.ofNat j)), .val (.ref b2), .val (.ref b24), .val (.int (p1 &&& (7 : Int32))), .unset, .unset, .unset] [(.ref sv)]))
                      refine o_astore X47 hx (pc' := 472) (Ls' := #[.val (.int p1), .val (.int p2), .val (.int p3), .val (.int p4), .val (.int en), .val (.ref la1), .val (.int c6), .val (.int (Int32.ofNat j)), .val (.ref b2), .val (.ref b24), .val (.int (p1 &&& (7 : Int32))), .val (.ref sv), .unset, .unset]) (hb hby at_470) rfl rfl rfl ?_
                      refine o_iconst X47 hx (pc' := 473) (v := (0 : Int32)) (hb hby at_472) rfl rfl ?_
                      refine o_istore X47 hx (pc' := 475) (Ls' := #[.val (.int p1), .val (.int p2), .val (.int p3), .val (.int p4), .val (.int en), .val (.ref la1), .val (.int c6), .val (.int (Int32.ofNat j)), .val (.ref b2), .val (.ref b24), .val (.int (p1 &&& (7 : Int32))), .val (.ref sv), .val (.int (0 : Int32)), .unset]) (hb hby at_473) rfl rfl ?_
                      rcases hen with rfl | rfl
                      · skip
                        show Dn p e below _ (T47.setTop (mkF m 475 #[.val (.int p1), .val (.int p2), .val (.int p3), .val (.int p4), .val (.int (0 : Int32)), .val (.ref la1), .val (.int c6), .val (.int (Int32.ofNat j)), .val (.ref b2), .val (.ref b24), .val (.int (p1 &&& (7 : Int32))), .val (.ref sv), .val (.int (0 : Int32)), .unset] []))
                        refine o_iload X47 hx (pc' := 477) (hb hby at_475) rfl rfl ?_
                        refine o_if_ne X47 hx (pc' := 480) (pt := 485) (hb hby at_477) rfl (by decide) (by decide) (fun q => absurd (by decide) q) (fun _ => ?_)
                        refine o_iload X47 hx (pc' := 482) (hb hby at_480) rfl rfl ?_
                        refine o_if_eq X47 hx (pc' := 485) (pt := 489) (hb hby at_482) rfl (by decide) (by decide) (fun _ => ?_) (fun q => absurd (by decide) q)
                        refine o_iconst X47 hx (pc' := 490) (v := (0 : Int32)) (hb hby at_489) rfl rfl ?_
                        refine o_istore X47 hx (pc' := 492) (Ls' := #[.val (.int p1), .val (.int p2), .val (.int p3), .val (.int p4), .val (.int (0 : Int32)), .val (.ref la1), .val (.int c6), .val (.int (Int32.ofNat j)), .val (.ref b2), .val (.ref b24), .val (.int (p1 &&& (7 : Int32))), .val (.ref sv), .val (.int (0 : Int32)), .val (.int (0 : Int32))]) (hb hby at_490) rfl rfl ?_
                        refine o_new X47 hx hZ hown (hw _ (List.mem_of_getElem? (i := 34) rfl)) (hw _ (List.mem_of_getElem? (i := 35) rfl)) (hw _ (List.mem_of_getElem? (i := 36) rfl)) rfl (hb hby at_492) (pc' := 495) rfl (by decide) (by decide) ?_
                        intro T48 h48 b48 g48 X48 e48 E48 A48 D48
                        have g_b48 : n0 ≤ b48 := Nat.le_trans ZZ (Nat.le_of_eq g48.symm)
                        have le_SL_b48 := Nat.le_trans tz_SL (Nat.le_of_eq g48.symm)
                        have ZZ := Nat.le_trans ZZ E48.1
                        have SW := SW.ext E48
                        have O := O.ext E48
                        have SL := SL.ext E48
                        have tz_SL := Nat.le_trans tz_SL E48.1
                        have hE := A48
                        have hL : Fld Z h48 b48 "com/example/shelfkey/shelfkey/http/Pem$Block" "label" "Ljava/lang/String;" .null := D48 (Or.inr (hw _ (List.mem_of_getElem? (i := 47) rfl))) (ty := (.object "java/lang/String")) (by decide)
                        have hN : Fld Z h48 b48 "com/example/shelfkey/shelfkey/http/Pem$Block" "encrypted" "Z" (.int 0) := D48 (Or.inr (hw _ (List.mem_of_getElem? (i := 49) rfl))) (ty := .boolean) (by decide)
                        have hC : Fld Z h48 b48 "com/example/shelfkey/shelfkey/http/Pem$Block" "contents" "[B" .null := D48 (Or.inr (hw _ (List.mem_of_getElem? (i := 51) rfl))) (ty := (.array .byte)) (by decide)
                        refine o_dup X48 hx (pc' := 496) (hb hby at_495) rfl rfl ?_
                        refine o_aload X48 hx (pc' := 498) (hb hby at_496) rfl rfl rfl ?_
                        refine o_iload X48 hx (pc' := 500) (hb hby at_498) rfl rfl ?_
                        refine o_iconst X48 hx (pc' := 501) (v := (0 : Int32)) (hb hby at_500) rfl rfl ?_
                        refine o_newarray X48 hx hZ e48 (hw _ (List.mem_of_getElem? (i := 3) rfl)) (hb hby at_501) (pc' := 503) rfl (by decide) 0 (by decide) (by decide) (by decide) (by decide) ?_
                        intro T49 h49 b49 k49 g49 X49 e49 E49 V49
                        have lt_b48_b49 : b48 < b49 := Nat.lt_of_lt_of_le hL.lt (Nat.le_of_eq g49.symm)
                        have ne_b48_b49 : b48 ≠ b49 := Nat.ne_of_lt lt_b48_b49
                        have g_b49 : n0 ≤ b49 := Nat.le_trans ZZ (Nat.le_of_eq g49.symm)
                        have le_SL_b49 := Nat.le_trans tz_SL (Nat.le_of_eq g49.symm)
                        have ZZ := Nat.le_trans ZZ E49.1
                        have SW := SW.ext E49
                        have O := O.ext E49
                        have SL := SL.ext E49
                        have tz_SL := Nat.le_trans tz_SL E49.1
                        have hL := hL.ext E49
                        have hN := hN.ext E49
                        have hC := hC.ext E49
                        have hE := hE.ext E49
                        have hA : Arv Z h49 b49 k49 .byte (0 : Int32) [] (.int 0) := V49.pad (pad_rep [] _ 0)
                        refine o_callI X49 hx hZ b48 [(.ref sv), (.int (0 : Int32)), (.ref b49)] (rmPB0 l Z a0 hw h49 n0 ZZ b48 sv b49 hE hL hN hC g_b48) rfl hown (hw _ (List.mem_of_getElem? (i := 37) rfl)) (hw _ (List.mem_of_getElem? (i := 38) rfl)) (hw _ (List.mem_of_getElem? (i := 36) rfl)) (hw _ (List.mem_of_getElem? (i := 39) rfl)) (by decide) pd_16 e49 (by rw [hml]; rfl) rfl rfl rfl (hb hby at_503) (pc' := 506) rfl 1 (Nat.le_of_eq rfl) (by decide) (by decide) (by decide) (by decide) ?_
                        intro T50 v50 L50 X50 hQ50
                        obtain ⟨rfl, Nb, Kb, rE, rL, rN⟩ := hQ50
                        have NN := Fr.app NN Nb
                        have ZZ := Nat.le_trans ZZ Kb.1
                        have SWo := SW
                        have SW := SW.keep Kb (sfS (Safe.exa SW.2.1.alike hE (by decide) (by decide)) sf0)
                        have O := O.keep Kb (by intro x hx; simp only [List.mem_cons, List.not_mem_nil, or_false] at hx; subst hx; exact g_b48)
                        have SL := SL.keep Kb (own_one le_SL_b48)
                        have tz_SL := Nat.le_trans tz_SL Kb.1
                        have hE := hE.keep Kb
                        have hE := rE
                        have hL := rL
                        have hN := rN
                        show Dn p e below _ (T50.setTop (mkF m 506 #[.val (.int p1), .val (.int p2), .val (.int p3), .val (.int p4), .val (.int (0 : Int32)), .val (.ref la1), .val (.int c6), .val (.int (Int32.ofNat j)), .val (.ref b2), .val (.ref b24), .val (.int (p1 &&& (7 : Int32))), .val (.ref sv), .val (.int (0 : Int32)), .val (.int (0 : Int32))] [(.ref b48)]))
                        refine o_callSS X50 hx (own_EW hw) SW [(.ref b48)] (rmIE0 l Z a0 hw T50.heap n0 ZZ b48 sv [own_b c6] (by simp) _ hE hN hL SL cs0 S0 hcs O) hown (hw _ (List.mem_of_getElem? (i := 52) rfl)) (hw _ (List.mem_of_getElem? (i := 53) rfl)) (hw _ (List.mem_of_getElem? (i := 54) rfl)) (hw _ (List.mem_of_getElem? (i := 55) rfl)) (by decide) pd_17 rfl (by rw [hml]; rfl) rfl rfl rfl (hb hby at_506) (pc' := 509) rfl 0 (Nat.le_of_eq rfl) (by decide) (by decide) (by decide) (by decide) ?_
                        intro T51 v51 L51 X51 hQ51 SW hown hC51
                        have hZ := SW.2.1
                        obtain ⟨rfl, Nc, Kc⟩ := hQ51
                        have NN := Fr.app NN Nc
                        have ZZ := Nat.le_trans ZZ Kc.1
                        have O := O.keep Kc (fun x hx => nomatch hx)
                        rw [if_neg (show ¬ [own_b c6] = TGT from (own_nv c6))]
                        show Dn p e below _ (T51.setTop (mkF m 509 #[.val (.int p1), .val (.int p2), .val (.int p3), .val (.int p4), .val (.int (0 : Int32)), .val (.ref la1), .val (.int c6), .val (.int (Int32.ofNat j)), .val (.ref b2), .val (.ref b24), .val (.int (p1 &&& (7 : Int32))), .val (.ref sv), .val (.int (0 : Int32)), .val (.int (0 : Int32))] [(.int (0 : Int32))]))
                        refine o_iload X51 hx (pc' := 511) (hb hby at_509) rfl rfl ?_
                        refine o_icmp_ne X51 hx (pc' := 514) (pt := 518) (hb hby at_511) rfl (by decide) (by decide) (fun q => absurd (by decide) q) (fun _ => ?_)
                        refine o_iconst X51 hx (pc' := 515) (v := (1 : Int32)) (hb hby at_514) rfl rfl ?_
                        refine o_goto X51 hx (pc' := 519) (hb hby at_515) (by decide) (by decide) ?_
                        exact finSN X51 hx (own_EW hw) SW rfl hlk (t := .boolean) hret (by simp) (hb hby at_519) (by decide) (by decide) ⟨rfl, NN⟩
                      · skip
                        show Dn p e below _ (T47.setTop (mkF m 475 #[.val (.int p1), .val (.int p2), .val (.int p3), .val (.int p4), .val (.int (1 : Int32)), .val (.ref la1), .val (.int c6), .val (.int (Int32.ofNat j)), .val (.ref b2), .val (.ref b24), .val (.int (p1 &&& (7 : Int32))), .val (.ref sv), .val (.int (0 : Int32)), .unset] []))
                        refine o_iload X47 hx (pc' := 477) (hb hby at_475) rfl rfl ?_
                        refine o_if_ne X47 hx (pc' := 480) (pt := 485) (hb hby at_477) rfl (by decide) (by decide) (fun _ => ?_) (fun q => absurd q (by decide))
                        refine o_iconst X47 hx (pc' := 486) (v := (1 : Int32)) (hb hby at_485) rfl rfl ?_
                        refine o_goto X47 hx (pc' := 490) (hb hby at_486) (by decide) (by decide) ?_
                        refine o_istore X47 hx (pc' := 492) (Ls' := #[.val (.int p1), .val (.int p2), .val (.int p3), .val (.int p4), .val (.int (1 : Int32)), .val (.ref la1), .val (.int c6), .val (.int (Int32.ofNat j)), .val (.ref b2), .val (.ref b24), .val (.int (p1 &&& (7 : Int32))), .val (.ref sv), .val (.int (0 : Int32)), .val (.int (1 : Int32))]) (hb hby at_490) rfl rfl ?_
                        refine o_new X47 hx hZ hown (hw _ (List.mem_of_getElem? (i := 34) rfl)) (hw _ (List.mem_of_getElem? (i := 35) rfl)) (hw _ (List.mem_of_getElem? (i := 36) rfl)) rfl (hb hby at_492) (pc' := 495) rfl (by decide) (by decide) ?_
                        intro T52 h52 b52 g52 X52 e52 E52 A52 D52
                        have g_b52 : n0 ≤ b52 := Nat.le_trans ZZ (Nat.le_of_eq g52.symm)
                        have le_SL_b52 := Nat.le_trans tz_SL (Nat.le_of_eq g52.symm)
                        have ZZ := Nat.le_trans ZZ E52.1
                        have SW := SW.ext E52
                        have O := O.ext E52
                        have SL := SL.ext E52
                        have tz_SL := Nat.le_trans tz_SL E52.1
                        have hE := A52
                        have hL : Fld Z h52 b52 "com/example/shelfkey/shelfkey/http/Pem$Block" "label" "Ljava/lang/String;" .null := D52 (Or.inr (hw _ (List.mem_of_getElem? (i := 47) rfl))) (ty := (.object "java/lang/String")) (by decide)
                        have hN : Fld Z h52 b52 "com/example/shelfkey/shelfkey/http/Pem$Block" "encrypted" "Z" (.int 0) := D52 (Or.inr (hw _ (List.mem_of_getElem? (i := 49) rfl))) (ty := .boolean) (by decide)
                        have hC : Fld Z h52 b52 "com/example/shelfkey/shelfkey/http/Pem$Block" "contents" "[B" .null := D52 (Or.inr (hw _ (List.mem_of_getElem? (i := 51) rfl))) (ty := (.array .byte)) (by decide)
                        refine o_dup X52 hx (pc' := 496) (hb hby at_495) rfl rfl ?_
                        refine o_aload X52 hx (pc' := 498) (hb hby at_496) rfl rfl rfl ?_
                        refine o_iload X52 hx (pc' := 500) (hb hby at_498) rfl rfl ?_
                        refine o_iconst X52 hx (pc' := 501) (v := (0 : Int32)) (hb hby at_500) rfl rfl ?_
                        refine o_newarray X52 hx hZ e52 (hw _ (List.mem_of_getElem? (i := 3) rfl)) (hb hby at_501) (pc' := 503) rfl (by decide) 0 (by decide) (by decide) (by decide) (by decide) ?_
                        intro T53 h53 b53 k53 g53 X53 e53 E53 V53
                        have lt_b52_b53 : b52 < b53 := Nat.lt_of_lt_of_le hL.lt (Nat.le_of_eq g53.symm)
                        have ne_b52_b53 : b52 ≠ b53 := Nat.ne_of_lt lt_b52_b53
                        have g_b53 : n0 ≤ b53 := Nat.le_trans ZZ (Nat.le_of_eq g53.symm)
                        have le_SL_b53 := Nat.le_trans tz_SL (Nat.le_of_eq g53.symm)
                        have ZZ := Nat.le_trans ZZ E53.1
                        have SW := SW.ext E53
                        have O := O.ext E53
                        have SL := SL.ext E53
                        have tz_SL := Nat.le_trans tz_SL E53.1
                        have hL := hL.ext E53
                        have hN := hN.ext E53
                        have hC := hC.ext E53
                        have hE := hE.ext E53
                        have hA : Arv Z h53 b53 k53 .byte (0 : Int32) [] (.int 0) := V53.pad (pad_rep [] _ 0)
                        refine o_callI X53 hx hZ b52 [(.ref sv), (.int (1 : Int32)), (.ref b53)] (rmPB1 l Z a0 hw h53 n0 ZZ b52 sv b53 hE hL hN hC g_b52) rfl hown (hw _ (List.mem_of_getElem? (i := 37) rfl)) (hw _ (List.mem_of_getElem? (i := 38) rfl)) (hw _ (List.mem_of_getElem? (i := 36) rfl)) (hw _ (List.mem_of_getElem? (i := 39) rfl)) (by decide) pd_16 e53 (by rw [hml]; rfl) rfl rfl rfl (hb hby at_503) (pc' := 506) rfl 1 (Nat.le_of_eq rfl) (by decide) (by decide) (by decide) (by decide) ?_
                        intro T54 v54 L54 X54 hQ54
                        obtain ⟨rfl, Nb, Kb, rE, rL, rN⟩ := hQ54
                        have NN := Fr.app NN Nb
                        have ZZ := Nat.le_trans ZZ Kb.1
                        have SWo := SW
                        have SW := SW.keep Kb (sfS (Safe.exa SW.2.1.alike hE (by decide) (by decide)) sf0)
                        have O := O.keep Kb (by intro x hx; simp only [List.mem_cons, List.not_mem_nil, or_false] at hx; subst hx; exact g_b52)
                        have SL := SL.keep Kb (own_one le_SL_b52)
                        have tz_SL := Nat.le_trans tz_SL Kb.1
                        have hE := hE.keep Kb
                        have hE := rE
                        have hL := rL
                        have hN := rN
                        show Dn p e below _ (T54.setTop (mkF m 506 #[.val (.int p1), .val (.int p2), .val (.int p3), .val (.int p4), .val (.int (1 : Int32)), .val (.ref la1), .val (.int c6), .val (.int (Int32.ofNat j)), .val (.ref b2), .val (.ref b24), .val (.int (p1 &&& (7 : Int32))), .val (.ref sv), .val (.int (0 : Int32)), .val (.int (1 : Int32))] [(.ref b52)]))
                        refine o_callSP X54 hx hZ [(.ref b52)] (rmIE1 l Z a0 hw T54.heap n0 ZZ b52 hE hN) hown (hw _ (List.mem_of_getElem? (i := 52) rfl)) (hw _ (List.mem_of_getElem? (i := 53) rfl)) (hw _ (List.mem_of_getElem? (i := 54) rfl)) (hw _ (List.mem_of_getElem? (i := 55) rfl)) (by decide) pd_17 rfl (by rw [hml]; rfl) rfl rfl rfl (hb hby at_506) (pc' := 509) rfl 0 (Nat.le_of_eq rfl) (by decide) (by decide) rfl rfl (by decide) (by decide) ?_
                        intro T55 X55 e55
                        show Dn p e below _ (T55.setTop (mkF m 509 #[.val (.int p1), .val (.int p2), .val (.int p3), .val (.int p4), .val (.int (1 : Int32)), .val (.ref la1), .val (.int c6), .val (.int (Int32.ofNat j)), .val (.ref b2), .val (.ref b24), .val (.int (p1 &&& (7 : Int32))), .val (.ref sv), .val (.int (0 : Int32)), .val (.int (1 : Int32))] [(.int (1 : Int32))]))
                        refine o_iload X55 hx (pc' := 511) (hb hby at_509) rfl rfl ?_
                        refine o_icmp_ne X55 hx (pc' := 514) (pt := 518) (hb hby at_511) rfl (by decide) (by decide) (fun q => absurd (by decide) q) (fun _ => ?_)
                        refine o_iconst X55 hx (pc' := 515) (v := (1 : Int32)) (hb hby at_514) rfl rfl ?_
                        refine o_goto X55 hx (pc' := 519) (hb hby at_515) (by decide) (by decide) ?_
                        exact finSN X55 hx (own_EW hw) SW e55 hlk (t := .boolean) hret (by simp) (hb hby at_519) (by decide) (by decide) ⟨rfl, NN⟩
                    · skip
                      refine o_ldcR X46 hx hown (hw _ (List.mem_of_getElem? (i := 113) rfl)) (own_wS hw) e46 SW (own_EW hw) (by decide) (vs := (iv [])) (z := (0 : Int32)) ⟨by decide, rfl⟩ (by decide) (by decide) 0 (by decide) (by decide) (by decide) (by decide) (hb hby at_460) (pc' := 462) rfl ?_
                      intro la56 T56 h56 b56 k56 X56 e56 E56 SW hown hC56 lE56 lC56 lV56 lA56 hN56
                      have hZ := SW.2.1
                      have ZZ := Nat.le_trans ZZ E56.1
                      have O := O.ext E56
                      have S7 := S7.ext E56
                      have tz_S7 := Nat.le_trans tz_S7 E56.1
                      have hV := hV.ext E56
                      have hW := hW.ext E56
                      have SL : Str Z h56 h56.size la56 [] := ⟨b56, k56, lE56.lt, lA56.lt, lE56, lV56, lC56, lA56⟩
                      have tz_SL : h56.size ≤ h56.size := Nat.le_refl _
                      refine o_goto X56 hx (pc' := 470) (hb hby at_462) (by decide) (by decide) ?_
                      refine o_astore X56 hx (pc' := 472) (Ls' := #[.val (.int p1), .val (.int p2), .val (.int p3), .val (.int p4), .val (.int en), .val (.ref la1), .val (.int c6), .val (.int (Int32.ofNat j)), .val (.ref b2), .val (.ref b24), .val (.int (p1 &&& (7 : Int32))), .val (.ref la56), .unset, .unset]) (hb hby at_470) rfl rfl rfl ?_
                      refine o_iconst X56 hx (pc' := 473) (v := (0 : Int32)) (hb hby at_472) rfl rfl ?_
                      refine o_istore X56 hx (pc' := 475) (Ls' := #[.val (.int p1), .val (.int p2), .val (.int p3), .val (.int p4), .val (.int en), .val (.ref la1), .val (.int c6), .val (.int (Int32.ofNat j)), .val (.ref b2), .val (.ref b24), .val (.int (p1 &&& (7 : Int32))), .val (.ref la56), .val (.int (0 : Int32)), .unset]) (hb hby at_473) rfl rfl ?_
                      rcases hen with rfl | rfl
                      · skip
                        show Dn p e below _ (T56.setTop (mkF m 475 #[.val (.int p1), .val (.int p2), .val (.int p3), .val (.int p4), .val (.int (0 : Int32)), .val (.ref la1), .val (.int c6), .val (.int (Int32.ofNat j)), .val (.ref b2), .val (.ref b24), .val (.int (p1 &&& (7 : Int32))), .val (.ref la56), .val (.int (0 : Int32)), .unset] []))
                        refine o_iload X56 hx (pc' := 477) (hb hby at_475) rfl rfl ?_
                        refine o_if_ne X56 hx (pc' := 480) (pt := 485) (hb hby at_477) rfl (by decide) (by decide) (fun q => absurd (by decide) q) (fun _ => ?_)
                        refine o_iload X56 hx (pc' := 482) (hb hby at_480) rfl rfl ?_
                        refine o_if_eq X56 hx (pc' := 485) (pt := 489) (hb hby at_482) rfl (by decide) (by decide) (fun _ => ?_) (fun q => absurd (by decide) q)
                        refine o_iconst X56 hx (pc' := 490) (v := (0 : Int32)) (hb hby at_489) rfl rfl ?_
                        refine o_istore X56 hx (pc' := 492) (Ls' := #[.val (.int p1), .val (.int p2), .val (.int p3), .val (.int p4), .val (.int (0 : Int32)), .val (.ref la1), .val (.int c6), .val (.int (Int32.ofNat j)), .val (.ref b2), .val (.ref b24), .val (.int (p1 &&& (7 : Int32))), .val (.ref la56), .val (.int (0 : Int32)), .val (.int (0 : Int32))]) (hb hby at_490) rfl rfl ?_
                        refine o_new X56 hx hZ hown (hw _ (List.mem_of_getElem? (i := 34) rfl)) (hw _ (List.mem_of_getElem? (i := 35) rfl)) (hw _ (List.mem_of_getElem? (i := 36) rfl)) e56 (hb hby at_492) (pc' := 495) rfl (by decide) (by decide) ?_
                        intro T57 h57 b57 g57 X57 e57 E57 A57 D57
                        have g_b57 : n0 ≤ b57 := Nat.le_trans ZZ (Nat.le_of_eq g57.symm)
                        have le_SL_b57 := Nat.le_trans tz_SL (Nat.le_of_eq g57.symm)
                        have ZZ := Nat.le_trans ZZ E57.1
                        have SW := SW.ext E57
                        have O := O.ext E57
                        have SL := SL.ext E57
                        have tz_SL := Nat.le_trans tz_SL E57.1
                        have hE := A57
                        have hL : Fld Z h57 b57 "com/example/shelfkey/shelfkey/http/Pem$Block" "label" "Ljava/lang/String;" .null := D57 (Or.inr (hw _ (List.mem_of_getElem? (i := 47) rfl))) (ty := (.object "java/lang/String")) (by decide)
                        have hN : Fld Z h57 b57 "com/example/shelfkey/shelfkey/http/Pem$Block" "encrypted" "Z" (.int 0) := D57 (Or.inr (hw _ (List.mem_of_getElem? (i := 49) rfl))) (ty := .boolean) (by decide)
                        have hC : Fld Z h57 b57 "com/example/shelfkey/shelfkey/http/Pem$Block" "contents" "[B" .null := D57 (Or.inr (hw _ (List.mem_of_getElem? (i := 51) rfl))) (ty := (.array .byte)) (by decide)
                        refine o_dup X57 hx (pc' := 496) (hb hby at_495) rfl rfl ?_
                        refine o_aload X57 hx (pc' := 498) (hb hby at_496) rfl rfl rfl ?_
                        refine o_iload X57 hx (pc' := 500) (hb hby at_498) rfl rfl ?_
                        refine o_iconst X57 hx (pc' := 501) (v := (0 : Int32)) (hb hby at_500) rfl rfl ?_
                        refine o_newarray X57 hx hZ e57 (hw _ (List.mem_of_getElem? (i := 3) rfl)) (hb hby at_501) (pc' := 503) rfl (by decide) 0 (by decide) (by decide) (by decide) (by decide) ?_
                        intro T58 h58 b58 k58 g58 X58 e58 E58 V58
                        have lt_b57_b58 : b57 < b58 := Nat.lt_of_lt_of_le hL.lt (Nat.le_of_eq g58.symm)
                        have ne_b57_b58 : b57 ≠ b58 := Nat.ne_of_lt lt_b57_b58
                        have g_b58 : n0 ≤ b58 := Nat.le_trans ZZ (Nat.le_of_eq g58.symm)
                        have le_SL_b58 := Nat.le_trans tz_SL (Nat.le_of_eq g58.symm)
                        have ZZ := Nat.le_trans ZZ E58.1
                        have SW := SW.ext E58
                        have O := O.ext E58
                        have SL := SL.ext E58
                        have tz_SL := Nat.le_trans tz_SL E58.1
                        have hL := hL.ext E58
                        have hN := hN.ext E58
                        have hC := hC.ext E58
                        have hE := hE.ext E58
                        have hA : Arv Z h58 b58 k58 .byte (0 : Int32) [] (.int 0) := V58.pad (pad_rep [] _ 0)
                        refine o_callI X58 hx hZ b57 [(.ref la56), (.int (0 : Int32)), (.ref b58)] (rmPB0 l Z a0 hw h58 n0 ZZ b57 la56 b58 hE hL hN hC g_b57) rfl hown (hw _ (List.mem_of_getElem? (i := 37) rfl)) (hw _ (List.mem_of_getElem? (i := 38) rfl)) (hw _ (List.mem_of_getElem? (i := 36) rfl)) (hw _ (List.mem_of_getElem? (i := 39) rfl)) (by decide) pd_16 e58 (by rw [hml]; rfl) rfl rfl rfl (hb hby at_503) (pc' := 506) rfl 1 (Nat.le_of_eq rfl) (by decide) (by decide) (by decide) (by decide) ?_
                        intro T59 v59 L59 X59 hQ59
                        obtain ⟨rfl, Nb, Kb, rE, rL, rN⟩ := hQ59
                        have NN := Fr.app NN Nb
                        have ZZ := Nat.le_trans ZZ Kb.1
                        have SWo := SW
                        have SW := SW.keep Kb (sfS (Safe.exa SW.2.1.alike hE (by decide) (by decide)) sf0)
                        have O := O.keep Kb (by intro x hx; simp only [List.mem_cons, List.not_mem_nil, or_false] at hx; subst hx; exact g_b57)
                        have SL := SL.keep Kb (own_one le_SL_b57)
                        have tz_SL := Nat.le_trans tz_SL Kb.1
                        have hE := hE.keep Kb
                        have hE := rE
                        have hL := rL
                        have hN := rN
                        show Dn p e below _ (T59.setTop (mkF m 506 #[.val (.int p1), .val (.int p2), .val (.int p3), .val (.int p4), .val (.int (0 : Int32)), .val (.ref la1), .val (.int c6), .val (.int (Int32.ofNat j)), .val (.ref b2), .val (.ref b24), .val (.int (p1 &&& (7 : Int32))), .val (.ref la56), .val (.int (0 : Int32)), .val (.int (0 : Int32))] [(.ref b57)]))
                        refine o_callSS X59 hx (own_EW hw) SW [(.ref b57)] (rmIE0 l Z a0 hw T59.heap n0 ZZ b57 la56 [] (by decide) _ hE hN hL SL cs0 S0 hcs O) hown (hw _ (List.mem_of_getElem? (i := 52) rfl)) (hw _ (List.mem_of_getElem? (i := 53) rfl)) (hw _ (List.mem_of_getElem? (i := 54) rfl)) (hw _ (List.mem_of_getElem? (i := 55) rfl)) (by decide) pd_17 rfl (by rw [hml]; rfl) rfl rfl rfl (hb hby at_506) (pc' := 509) rfl 0 (Nat.le_of_eq rfl) (by decide) (by decide) (by decide) (by decide) ?_
                        intro T60 v60 L60 X60 hQ60 SW hown hC60
                        have hZ := SW.2.1
                        obtain ⟨rfl, Nc, Kc⟩ := hQ60
                        have NN := Fr.app NN Nc
                        have ZZ := Nat.le_trans ZZ Kc.1
                        have O := O.keep Kc (fun x hx => nomatch hx)
                        rw [if_neg (show ¬ [] = TGT from (by decide +kernel))]
                        show Dn p e below _ (T60.setTop (mkF m 509 #[.val (.int p1), .val (.int p2), .val (.int p3), .val (.int p4), .val (.int (0 : Int32)), .val (.ref la1), .val (.int c6), .val (.int (Int32.ofNat j)), .val (.ref b2), .val (.ref b24), .val (.int (p1 &&& (7 : Int32))), .val (.ref la56), .val (.int (0 : Int32)), .val (.int (0 : Int32))] [(.int (0 : Int32))]))
                        refine o_iload X60 hx (pc' := 511) (hb hby at_509) rfl rfl ?_
                        refine o_icmp_ne X60 hx (pc' := 514) (pt := 518) (hb hby at_511) rfl (by decide) (by decide) (fun q => absurd (by decide) q) (fun _ => ?_)
                        refine o_iconst X60 hx (pc' := 515) (v := (1 : Int32)) (hb hby at_514) rfl rfl ?_
                        refine o_goto X60 hx (pc' := 519) (hb hby at_515) (by decide) (by decide) ?_
                        exact finSN X60 hx (own_EW hw) SW rfl hlk (t := .boolean) hret (by simp) (hb hby at_519) (by decide) (by decide) ⟨rfl, NN⟩
                      · skip
                        show Dn p e below _ (T56.setTop (mkF m 475 #[.val (.int p1), .val (.int p2), .val (.int p3), .val (.int p4), .val (.int (1 : Int32)), .val (.ref la1), .val (.int c6), .val (.int (Int32.ofNat j)), .val (.ref b2), .val (.ref b24), .val (.int (p1 &&& (7 : Int32))), .val (.ref la56), .val (.int (0 : Int32)), .unset] []))
                        refine o_iload X56 hx (pc' := 477) (hb hby at_475) rfl rfl ?_
                        refine o_if_ne X56 hx (pc' := 480) (pt := 485) (hb hby at_477) rfl (by decide) (by decide) (fun _ => ?_) (fun q => absurd q (by decide))
                        refine o_iconst X56 hx (pc' := 486) (v := (1 : Int32)) (hb hby at_485) rfl rfl ?_
                        refine o_goto X56 hx (pc' := 490) (hb hby at_486) (by decide) (by decide) ?_
                        refine o_istore X56 hx (pc' := 492) (Ls' := #[.val (.int p1), .val (.int p2), .val (.int p3), .val (.int p4), .val (.int (1 : Int32)), .val (.ref la1), .val (.int c6), .val (.int (Int32.ofNat j)), .val (.ref b2), .val (.ref b24), .val (.int (p1 &&& (7 : Int32))), .val (.ref la56), .val (.int (0 : Int32)), .val (.int (1 : Int32))]) (hb hby at_490) rfl rfl ?_
                        refine o_new X56 hx hZ hown (hw _ (List.mem_of_getElem? (i := 34) rfl)) (hw _ (List.mem_of_getElem? (i := 35) rfl)) (hw _ (List.mem_of_getElem? (i := 36) rfl)) e56 (hb hby at_492) (pc' := 495) rfl (by decide) (by decide) ?_
                        intro T61 h61 b61 g61 X61 e61 E61 A61 D61
                        have g_b61 : n0 ≤ b61 := Nat.le_trans ZZ (Nat.le_of_eq g61.symm)
                        have le_SL_b61 := Nat.le_trans tz_SL (Nat.le_of_eq g61.symm)
                        have ZZ := Nat.le_trans ZZ E61.1
                        have SW := SW.ext E61
                        have O := O.ext E61
                        have SL := SL.ext E61
                        have tz_SL := Nat.le_trans tz_SL E61.1
                        have hE := A61
                        have hL : Fld Z h61 b61 "com/example/shelfkey/shelfkey/http/Pem$Block" "label" "Ljava/lang/String;" .null := D61 (Or.inr (hw _ (List.mem_of_getElem? (i := 47) rfl))) (ty := (.object "java/lang/String")) (by decide)
                        have hN : Fld Z h61 b61 "com/example/shelfkey/shelfkey/http/Pem$Block" "encrypted" "Z" (.int 0) := D61 (Or.inr (hw _ (List.mem_of_getElem? (i := 49) rfl))) (ty := .boolean) (by decide)
                        have hC : Fld Z h61 b61 "com/example/shelfkey/shelfkey/http/Pem$Block" "contents" "[B" .null := D61 (Or.inr (hw _ (List.mem_of_getElem? (i := 51) rfl))) (ty := (.array .byte)) (by decide)
                        refine o_dup X61 hx (pc' := 496) (hb hby at_495) rfl rfl ?_
                        refine o_aload X61 hx (pc' := 498) (hb hby at_496) rfl rfl rfl ?_
                        refine o_iload X61 hx (pc' := 500) (hb hby at_498) rfl rfl ?_
                        refine o_iconst X61 hx (pc' := 501) (v := (0 : Int32)) (hb hby at_500) rfl rfl ?_
                        refine o_newarray X61 hx hZ e61 (hw _ (List.mem_of_getElem? (i := 3) rfl)) (hb hby at_501) (pc' := 503) rfl (by decide) 0 (by decide) (by decide) (by decide) (by decide) ?_
                        intro T62 h62 b62 k62 g62 X62 e62 E62 V62
                        have lt_b61_b62 : b61 < b62 := Nat.lt_of_lt_of_le hL.lt (Nat.le_of_eq g62.symm)
                        have ne_b61_b62 : b61 ≠ b62 := Nat.ne_of_lt lt_b61_b62
                        have g_b62 : n0 ≤ b62 := Nat.le_trans ZZ (Nat.le_of_eq g62.symm)
                        have le_SL_b62 := Nat.le_trans tz_SL (Nat.le_of_eq g62.symm)
                        have ZZ := Nat.le_trans ZZ E62.1
                        have SW := SW.ext E62
                        have O := O.ext E62
                        have SL := SL.ext E62
                        have tz_SL := Nat.le_trans tz_SL E62.1
                        have hL := hL.ext E62
                        have hN := hN.ext E62
                        have hC := hC.ext E62
                        have hE := hE.ext E62
                        have hA : Arv Z h62 b62 k62 .byte (0 : Int32) [] (.int 0) := V62.pad (pad_rep [] _ 0)
                        refine o_callI X62 hx hZ b61 [(.ref la56), (.int (1 : Int32)), (.ref b62)] (rmPB1 l Z a0 hw h62 n0 ZZ b61 la56 b62 hE hL hN hC g_b61) rfl hown (hw _ (List.mem_of_getElem? (i := 37) rfl)) (hw _ (List.mem_of_getElem? (i := 38) rfl)) (hw _ (List.mem_of_getElem? (i := 36) rfl)) (hw _ (List.mem_of_getElem? (i := 39) rfl)) (by decide) pd_16 e62 (by rw [hml]; rfl) rfl rfl rfl (hb hby at_503) (pc' := 506) rfl 1 (Nat.le_of_eq rfl) (by decide) (by decide) (by decide) (by decide) ?_
                        intro T63 v63 L63 X63 hQ63
                        obtain ⟨rfl, Nb, Kb, rE, rL, rN⟩ := hQ63
                        have NN := Fr.app NN Nb
                        have ZZ := Nat.le_trans ZZ Kb.1
                        have SWo := SW
                        have SW := SW.keep Kb (sfS (Safe.exa SW.2.1.alike hE (by decide) (by decide)) sf0)
                        have O := O.keep Kb (by intro x hx; simp only [List.mem_cons, List.not_mem_nil, or_false] at hx; subst hx; exact g_b61)
                        have SL := SL.keep Kb (own_one le_SL_b61)
                        have tz_SL := Nat.le_trans tz_SL Kb.1
                        have hE := hE.keep Kb
                        have hE := rE
                        have hL := rL
                        have hN := rN
                        show Dn p e below _ (T63.setTop (mkF m 506 #[.val (.int p1), .val (.int p2), .val (.int p3), .val (.int p4), .val (.int (1 : Int32)), .val (.ref la1), .val (.int c6), .val (.int (Int32.ofNat j)), .val (.ref b2), .val (.ref b24), .val (.int (p1 &&& (7 : Int32))), .val (.ref la56), .val (.int (0 : Int32)), .val (.int (1 : Int32))] [(.ref b61)]))
                        refine o_callSP X63 hx hZ [(.ref b61)] (rmIE1 l Z a0 hw T63.heap n0 ZZ b61 hE hN) hown (hw _ (List.mem_of_getElem? (i := 52) rfl)) (hw _ (List.mem_of_getElem? (i := 53) rfl)) (hw _ (List.mem_of_getElem? (i := 54) rfl)) (hw _ (List.mem_of_getElem? (i := 55) rfl)) (by decide) pd_17 rfl (by rw [hml]; rfl) rfl rfl rfl (hb hby at_506) (pc' := 509) rfl 0 (Nat.le_of_eq rfl) (by decide) (by decide) rfl rfl (by decide) (by decide) ?_
                        intro T64 X64 e64
                        show Dn p e below _ (T64.setTop (mkF m 509 #[.val (.int p1), .val (.int p2), .val (.int p3), .val (.int p4), .val (.int (1 : Int32)), .val (.ref la1), .val (.int c6), .val (.int (Int32.ofNat j)), .val (.ref b2), .val (.ref b24), .val (.int (p1 &&& (7 : Int32))), .val (.ref la56), .val (.int (0 : Int32)), .val (.int (1 : Int32))] [(.int (1 : Int32))]))
                        refine o_iload X64 hx (pc' := 511) (hb hby at_509) rfl rfl ?_
                        refine o_icmp_ne X64 hx (pc' := 514) (pt := 518) (hb hby at_511) rfl (by decide) (by decide) (fun q => absurd (by decide) q) (fun _ => ?_)
                        refine o_iconst X64 hx (pc' := 515) (v := (1 : Int32)) (hb hby at_514) rfl rfl ?_
                        refine o_goto X64 hx (pc' := 519) (hb hby at_515) (by decide) (by decide) ?_
                        exact finSN X64 hx (own_EW hw) SW e64 hlk (t := .boolean) hret (by simp) (hb hby at_519) (by decide) (by decide) ⟨rfl, NN⟩
                  · skip
                    refine o_new X46 hx hZ hown (hw _ (List.mem_of_getElem? (i := 10) rfl)) (hw _ (List.mem_of_getElem? (i := 2) rfl)) (hw _ (List.mem_of_getElem? (i := 1) rfl)) e46 (hb hby at_437) (pc' := 440) rfl (by decide) (by decide) ?_
                    intro T65 h65 b65 g65 X65 e65 E65 A65 D65
                    have lt_b2_b65 : b2 < b65 := Nat.lt_of_lt_of_le hV.lt (Nat.le_of_eq g65.symm)
                    have ne_b2_b65 : b2 ≠ b65 := Nat.ne_of_lt lt_b2_b65
                    have lt_b24_b65 : b24 < b65 := Nat.lt_of_lt_of_le hW.lt (Nat.le_of_eq g65.symm)
                    have ne_b24_b65 : b24 ≠ b65 := Nat.ne_of_lt lt_b24_b65
                    have g_b65 : n0 ≤ b65 := Nat.le_trans ZZ (Nat.le_of_eq g65.symm)
                    have le_S7_b65 := Nat.le_trans tz_S7 (Nat.le_of_eq g65.symm)
                    have ZZ := Nat.le_trans ZZ E65.1
                    have SW := SW.ext E65
                    have O := O.ext E65
                    have S7 := S7.ext E65
                    have tz_S7 := Nat.le_trans tz_S7 E65.1
                    have hV := hV.ext E65
                    have hW := hW.ext E65
                    have hE0 := A65
                    have hVa : Fld Z h65 b65 "java/lang/String" "value" "[B" .null := D65 (Or.inr (hw _ (List.mem_of_getElem? (i := 4) rfl))) (ty := (.array .byte)) (by decide)
                    have hCo : Fld Z h65 b65 "java/lang/String" "coder" "B" (.int 0) := D65 (Or.inr (hw _ (List.mem_of_getElem? (i := 5) rfl))) (ty := .byte) (by decide)
                    refine o_dup X65 hx (pc' := 441) (hb hby at_440) rfl rfl ?_
                    refine o_aload X65 hx (pc' := 443) (hb hby at_441) rfl rfl rfl ?_
                    have hVc : Arv Z h65 b24 k24 .char (Int32.ofNat (TGT ++ [c6]).length) (iv (TGT ++ [c6])) (.int 0) := by rw [own_al]; exact hW
                    refine o_callI X65 hx hZ b65 [(.ref b24)] (rmSI2 l Z a0 hw h65 n0 ZZ b65 b24 (TGT ++ [c6]) (own_long hch) (by rw [own_al]; decide) (by rw [own_al]; decide) k24 _ hVc _ _ hE0 hVa hCo g_b65 ne_b24_b65.symm cs0 S0 hcs O) rfl hown (hw _ (List.mem_of_getElem? (i := 11) rfl)) (hw _ (List.mem_of_getElem? (i := 12) rfl)) (hw _ (List.mem_of_getElem? (i := 1) rfl)) (hw _ (List.mem_of_getElem? (i := 13) rfl)) (by decide) pd_18 e65 (by rw [hml]; rfl) rfl rfl rfl (hb hby at_443) (pc' := 446) rfl 1 (Nat.le_of_eq rfl) (by decide) (by decide) (by decide) (by decide) ?_
                    intro T66 v66 L66 X66 hQ66
                    obtain ⟨rfl, Nq, Kq, SL⟩ := hQ66
                    have NN := Fr.app NN Nq
                    have ZZ := Nat.le_trans ZZ Kq.1
                    have SWo := SW
                    have SW := SW.keep Kq (sfS (own_safe SW.2.1.alike hE0 hVa) sf0)
                    have O := O.keep Kq (by intro x hx; simp only [List.mem_cons, List.not_mem_nil, or_false] at hx; subst hx; exact g_b65)
                    have S7 := S7.keep Kq (own_one le_S7_b65)
                    have tz_S7 := Nat.le_trans tz_S7 Kq.1
                    have tz_SL : T66.heap.size ≤ T66.heap.size := Nat.le_refl _
                    show Dn p e below _ (T66.setTop (mkF m 446 #[.val (.int p1), .val (.int p2), .val (.int p3), .val (.int p4), .val (.int en), .val (.ref la1), .val (.int c6), .val (.int (Int32.ofNat j)), .val (.ref b2), .val (.ref b24), .val (.int (p1 &&& (7 : Int32))), .unset, .unset, .unset] [(.ref b65)]))
                    refine o_astore X66 hx (pc' := 448) (Ls' := #[.val (.int p1), .val (.int p2), .val (.int p3), .val (.int p4), .val (.int en), .val (.ref la1), .val (.int c6), .val (.int (Int32.ofNat j)), .val (.ref b2), .val (.ref b24), .val (.int (p1 &&& (7 : Int32))), .val (.ref b65), .unset, .unset]) (hb hby at_446) rfl rfl rfl ?_
                    refine o_iconst X66 hx (pc' := 449) (v := (0 : Int32)) (hb hby at_448) rfl rfl ?_
                    refine o_istore X66 hx (pc' := 451) (Ls' := #[.val (.int p1), .val (.int p2), .val (.int p3), .val (.int p4), .val (.int en), .val (.ref la1), .val (.int c6), .val (.int (Int32.ofNat j)), .val (.ref b2), .val (.ref b24), .val (.int (p1 &&& (7 : Int32))), .val (.ref b65), .val (.int (0 : Int32)), .unset]) (hb hby at_449) rfl rfl ?_
                    refine o_goto X66 hx (pc' := 475) (hb hby at_451) (by decide) (by decide) ?_
                    rcases hen with rfl | rfl
                    · skip
                      show Dn p e below _ (T66.setTop (mkF m 475 #[.val (.int p1), .val (.int p2), .val (.int p3), .val (.int p4), .val (.int (0 : Int32)), .val (.ref la1), .val (.int c6), .val (.int (Int32.ofNat j)), .val (.ref b2), .val (.ref b24), .val (.int (p1 &&& (7 : Int32))), .val (.ref b65), .val (.int (0 : Int32)), .unset] []))
                      refine o_iload X66 hx (pc' := 477) (hb hby at_475) rfl rfl ?_
                      refine o_if_ne X66 hx (pc' := 480) (pt := 485) (hb hby at_477) rfl (by decide) (by decide) (fun q => absurd (by decide) q) (fun _ => ?_)
                      refine o_iload X66 hx (pc' := 482) (hb hby at_480) rfl rfl ?_
                      refine o_if_eq X66 hx (pc' := 485) (pt := 489) (hb hby at_482) rfl (by decide) (by decide) (fun _ => ?_) (fun q => absurd (by decide) q)
                      refine o_iconst X66 hx (pc' := 490) (v := (0 : Int32)) (hb hby at_489) rfl rfl ?_
                      refine o_istore X66 hx (pc' := 492) (Ls' := #[.val (.int p1), .val (.int p2), .val (.int p3), .val (.int p4), .val (.int (0 : Int32)), .val (.ref la1), .val (.int c6), .val (.int (Int32.ofNat j)), .val (.ref b2), .val (.ref b24), .val (.int (p1 &&& (7 : Int32))), .val (.ref b65), .val (.int (0 : Int32)), .val (.int (0 : Int32))]) (hb hby at_490) rfl rfl ?_
                      refine o_new X66 hx hZ hown (hw _ (List.mem_of_getElem? (i := 34) rfl)) (hw _ (List.mem_of_getElem? (i := 35) rfl)) (hw _ (List.mem_of_getElem? (i := 36) rfl)) rfl (hb hby at_492) (pc' := 495) rfl (by decide) (by decide) ?_
                      intro T67 h67 b67 g67 X67 e67 E67 A67 D67
                      have g_b67 : n0 ≤ b67 := Nat.le_trans ZZ (Nat.le_of_eq g67.symm)
                      have le_SL_b67 := Nat.le_trans tz_SL (Nat.le_of_eq g67.symm)
                      have ZZ := Nat.le_trans ZZ E67.1
                      have SW := SW.ext E67
                      have O := O.ext E67
                      have SL := SL.ext E67
                      have tz_SL := Nat.le_trans tz_SL E67.1
                      have hE := A67
                      have hL : Fld Z h67 b67 "com/example/shelfkey/shelfkey/http/Pem$Block" "label" "Ljava/lang/String;" .null := D67 (Or.inr (hw _ (List.mem_of_getElem? (i := 47) rfl))) (ty := (.object "java/lang/String")) (by decide)
                      have hN : Fld Z h67 b67 "com/example/shelfkey/shelfkey/http/Pem$Block" "encrypted" "Z" (.int 0) := D67 (Or.inr (hw _ (List.mem_of_getElem? (i := 49) rfl))) (ty := .boolean) (by decide)
                      have hC : Fld Z h67 b67 "com/example/shelfkey/shelfkey/http/Pem$Block" "contents" "[B" .null := D67 (Or.inr (hw _ (List.mem_of_getElem? (i := 51) rfl))) (ty := (.array .byte)) (by decide)
                      refine o_dup X67 hx (pc' := 496) (hb hby at_495) rfl rfl ?_
                      refine o_aload X67 hx (pc' := 498) (hb hby at_496) rfl rfl rfl ?_
                      refine o_iload X67 hx (pc' := 500) (hb hby at_498) rfl rfl ?_
                      refine o_iconst X67 hx (pc' := 501) (v := (0 : Int32)) (hb hby at_500) rfl rfl ?_
                      refine o_newarray X67 hx hZ e67 (hw _ (List.mem_of_getElem? (i := 3) rfl)) (hb hby at_501) (pc' := 503) rfl (by decide) 0 (by decide) (by decide) (by decide) (by decide) ?_
                      intro T68 h68 b68 k68 g68 X68 e68 E68 V68
                      have lt_b67_b68 : b67 < b68 := Nat.lt_of_lt_of_le hL.lt (Nat.le_of_eq g68.symm)
                      have ne_b67_b68 : b67 ≠ b68 := Nat.ne_of_lt lt_b67_b68
                      have g_b68 : n0 ≤ b68 := Nat.le_trans ZZ (Nat.le_of_eq g68.symm)
                      have le_SL_b68 := Nat.le_trans tz_SL (Nat.le_of_eq g68.symm)
                      have ZZ := Nat.le_trans ZZ E68.1
                      have SW := SW.ext E68
                      have O := O.ext E68
                      have SL := SL.ext E68
                      have tz_SL := Nat.le_trans tz_SL E68.1
                      have hL := hL.ext E68
                      have hN := hN.ext E68
                      have hC := hC.ext E68
                      have hE := hE.ext E68
                      have hA : Arv Z h68 b68 k68 .byte (0 : Int32) [] (.int 0) := V68.pad (pad_rep [] _ 0)
                      refine o_callI X68 hx hZ b67 [(.ref b65), (.int (0 : Int32)), (.ref b68)] (rmPB0 l Z a0 hw h68 n0 ZZ b67 b65 b68 hE hL hN hC g_b67) rfl hown (hw _ (List.mem_of_getElem? (i := 37) rfl)) (hw _ (List.mem_of_getElem? (i := 38) rfl)) (hw _ (List.mem_of_getElem? (i := 36) rfl)) (hw _ (List.mem_of_getElem? (i := 39) rfl)) (by decide) pd_16 e68 (by rw [hml]; rfl) rfl rfl rfl (hb hby at_503) (pc' := 506) rfl 1 (Nat.le_of_eq rfl) (by decide) (by decide) (by decide) (by decide) ?_
                      intro T69 v69 L69 X69 hQ69
                      obtain ⟨rfl, Nb, Kb, rE, rL, rN⟩ := hQ69
                      have NN := Fr.app NN Nb
                      have ZZ := Nat.le_trans ZZ Kb.1
                      have SWo := SW
                      have SW := SW.keep Kb (sfS (Safe.exa SW.2.1.alike hE (by decide) (by decide)) sf0)
                      have O := O.keep Kb (by intro x hx; simp only [List.mem_cons, List.not_mem_nil, or_false] at hx; subst hx; exact g_b67)
                      have SL := SL.keep Kb (own_one le_SL_b67)
                      have tz_SL := Nat.le_trans tz_SL Kb.1
                      have hE := hE.keep Kb
                      have hE := rE
                      have hL := rL
                      have hN := rN
                      show Dn p e below _ (T69.setTop (mkF m 506 #[.val (.int p1), .val (.int p2), .val (.int p3), .val (.int p4), .val (.int (0 : Int32)), .val (.ref la1), .val (.int c6), .val (.int (Int32.ofNat j)), .val (.ref b2), .val (.ref b24), .val (.int (p1 &&& (7 : Int32))), .val (.ref b65), .val (.int (0 : Int32)), .val (.int (0 : Int32))] [(.ref b67)]))
                      refine o_callSS X69 hx (own_EW hw) SW [(.ref b67)] (rmIE0 l Z a0 hw T69.heap n0 ZZ b67 b65 ((TGT ++ [c6]).map own_b) (by rw [List.length_map, own_al]; decide) _ hE hN hL SL cs0 S0 hcs O) hown (hw _ (List.mem_of_getElem? (i := 52) rfl)) (hw _ (List.mem_of_getElem? (i := 53) rfl)) (hw _ (List.mem_of_getElem? (i := 54) rfl)) (hw _ (List.mem_of_getElem? (i := 55) rfl)) (by decide) pd_17 rfl (by rw [hml]; rfl) rfl rfl rfl (hb hby at_506) (pc' := 509) rfl 0 (Nat.le_of_eq rfl) (by decide) (by decide) (by decide) (by decide) ?_
                      intro T70 v70 L70 X70 hQ70 SW hown hC70
                      have hZ := SW.2.1
                      obtain ⟨rfl, Nc, Kc⟩ := hQ70
                      have NN := Fr.app NN Nc
                      have ZZ := Nat.le_trans ZZ Kc.1
                      have O := O.keep Kc (fun x hx => nomatch hx)
                      rw [if_neg (show ¬ ((TGT ++ [c6]).map own_b) = TGT from (own_nl c6))]
                      show Dn p e below _ (T70.setTop (mkF m 509 #[.val (.int p1), .val (.int p2), .val (.int p3), .val (.int p4), .val (.int (0 : Int32)), .val (.ref la1), .val (.int c6), .val (.int (Int32.ofNat j)), .val (.ref b2), .val (.ref b24), .val (.int (p1 &&& (7 : Int32))), .val (.ref b65), .val (.int (0 : Int32)), .val (.int (0 : Int32))] [(.int (0 : Int32))]))
                      refine o_iload X70 hx (pc' := 511) (hb hby at_509) rfl rfl ?_
                      refine o_icmp_ne X70 hx (pc' := 514) (pt := 518) (hb hby at_511) rfl (by decide) (by decide) (fun q => absurd (by decide) q) (fun _ => ?_)
                      refine o_iconst X70 hx (pc' := 515) (v := (1 : Int32)) (hb hby at_514) rfl rfl ?_
                      refine o_goto X70 hx (pc' := 519) (hb hby at_515) (by decide) (by decide) ?_
                      exact finSN X70 hx (own_EW hw) SW rfl hlk (t := .boolean) hret (by simp) (hb hby at_519) (by decide) (by decide) ⟨rfl, NN⟩
                    · skip
                      show Dn p e below _ (T66.setTop (mkF m 475 #[.val (.int p1), .val (.int p2), .val (.int p3), .val (.int p4), .val (.int (1 : Int32)), .val (.ref la1), .val (.int c6), .val (.int (Int32.ofNat j)), .val (.ref b2), .val (.ref b24), .val (.int (p1 &&& (7 : Int32))), .val (.ref b65), .val (.int (0 : Int32)), .unset] []))
                      refine o_iload X66 hx (pc' := 477) (hb hby at_475) rfl rfl ?_
                      refine o_if_ne X66 hx (pc' := 480) (pt := 485) (hb hby at_477) rfl (by decide) (by decide) (fun _ => ?_) (fun q => absurd q (by decide))
                      refine o_iconst X66 hx (pc' := 486) (v := (1 : Int32)) (hb hby at_485) rfl rfl ?_
                      refine o_goto X66 hx (pc' := 490) (hb hby at_486) (by decide) (by decide) ?_
                      refine o_istore X66 hx (pc' := 492) (Ls' := #[.val (.int p1), .val (.int p2), .val (.int p3), .val (.int p4), .val (.int (1 : Int32)), .val (.ref la1), .val (.int c6), .val (.int (Int32.ofNat j)), .val (.ref b2), .val (.ref b24), .val (.int (p1 &&& (7 : Int32))), .val (.ref b65), .val (.int (0 : Int32)), .val (.int (1 : Int32))]) (hb hby at_490) rfl rfl ?_
                      refine o_new X66 hx hZ hown (hw _ (List.mem_of_getElem? (i := 34) rfl)) (hw _ (List.mem_of_getElem? (i := 35) rfl)) (hw _ (List.mem_of_getElem? (i := 36) rfl)) rfl (hb hby at_492) (pc' := 495) rfl (by decide) (by decide) ?_
                      intro T71 h71 b71 g71 X71 e71 E71 A71 D71
                      have g_b71 : n0 ≤ b71 := Nat.le_trans ZZ (Nat.le_of_eq g71.symm)
                      have le_SL_b71 := Nat.le_trans tz_SL (Nat.le_of_eq g71.symm)
                      have ZZ := Nat.le_trans ZZ E71.1
                      have SW := SW.ext E71
                      have O := O.ext E71
                      have SL := SL.ext E71
                      have tz_SL := Nat.le_trans tz_SL E71.1
                      have hE := A71
                      have hL : Fld Z h71 b71 "com/example/shelfkey/shelfkey/http/Pem$Block" "label" "Ljava/lang/String;" .null := D71 (Or.inr (hw _ (List.mem_of_getElem? (i := 47) rfl))) (ty := (.object "java/lang/String")) (by decide)
                      have hN : Fld Z h71 b71 "com/example/shelfkey/shelfkey/http/Pem$Block" "encrypted" "Z" (.int 0) := D71 (Or.inr (hw _ (List.mem_of_getElem? (i := 49) rfl))) (ty := .boolean) (by decide)
                      have hC : Fld Z h71 b71 "com/example/shelfkey/shelfkey/http/Pem$Block" "contents" "[B" .null := D71 (Or.inr (hw _ (List.mem_of_getElem? (i := 51) rfl))) (ty := (.array .byte)) (by decide)
                      refine o_dup X71 hx (pc' := 496) (hb hby at_495) rfl rfl ?_
                      refine o_aload X71 hx (pc' := 498) (hb hby at_496) rfl rfl rfl ?_
                      refine o_iload X71 hx (pc' := 500) (hb hby at_498) rfl rfl ?_
                      refine o_iconst X71 hx (pc' := 501) (v := (0 : Int32)) (hb hby at_500) rfl rfl ?_
                      refine o_newarray X71 hx hZ e71 (hw _ (List.mem_of_getElem? (i := 3) rfl)) (hb hby at_501) (pc' := 503) rfl (by decide) 0 (by decide) (by decide) (by decide) (by decide) ?_
                      intro T72 h72 b72 k72 g72 X72 e72 E72 V72
                      have lt_b71_b72 : b71 < b72 := Nat.lt_of_lt_of_le hL.lt (Nat.le_of_eq g72.symm)
                      have ne_b71_b72 : b71 ≠ b72 := Nat.ne_of_lt lt_b71_b72
                      have g_b72 : n0 ≤ b72 := Nat.le_trans ZZ (Nat.le_of_eq g72.symm)
                      have le_SL_b72 := Nat.le_trans tz_SL (Nat.le_of_eq g72.symm)
                      have ZZ := Nat.le_trans ZZ E72.1
                      have SW := SW.ext E72
                      have O := O.ext E72
                      have SL := SL.ext E72
                      have tz_SL := Nat.le_trans tz_SL E72.1
                      have hL := hL.ext E72
                      have hN := hN.ext E72
                      have hC := hC.ext E72
                      have hE := hE.ext E72
                      have hA : Arv Z h72 b72 k72 .byte (0 : Int32) [] (.int 0) := V72.pad (pad_rep [] _ 0)
                      refine o_callI X72 hx hZ b71 [(.ref b65), (.int (1 : Int32)), (.ref b72)] (rmPB1 l Z a0 hw h72 n0 ZZ b71 b65 b72 hE hL hN hC g_b71) rfl hown (hw _ (List.mem_of_getElem? (i := 37) rfl)) (hw _ (List.mem_of_getElem? (i := 38) rfl)) (hw _ (List.mem_of_getElem? (i := 36) rfl)) (hw _ (List.mem_of_getElem? (i := 39) rfl)) (by decide) pd_16 e72 (by rw [hml]; rfl) rfl rfl rfl (hb hby at_503) (pc' := 506) rfl 1 (Nat.le_of_eq rfl) (by decide) (by decide) (by decide) (by decide) ?_
                      intro T73 v73 L73 X73 hQ73
                      obtain ⟨rfl, Nb, Kb, rE, rL, rN⟩ := hQ73
                      have NN := Fr.app NN Nb
                      have ZZ := Nat.le_trans ZZ Kb.1
                      have SWo := SW
                      have SW := SW.keep Kb (sfS (Safe.exa SW.2.1.alike hE (by decide) (by decide)) sf0)
                      have O := O.keep Kb (by intro x hx; simp only [List.mem_cons, List.not_mem_nil, or_false] at hx; subst hx; exact g_b71)
                      have SL := SL.keep Kb (own_one le_SL_b71)
                      have tz_SL := Nat.le_trans tz_SL Kb.1
                      have hE := hE.keep Kb
                      have hE := rE
                      have hL := rL
                      have hN := rN
                      show Dn p e below _ (T73.setTop (mkF m 506 #[.val (.int p1), .val (.int p2), .val (.int p3), .val (.int p4), .val (.int (1 : Int32)), .val (.ref la1), .val (.int c6), .val (.int (Int32.ofNat j)), .val (.ref b2), .val (.ref b24), .val (.int (p1 &&& (7 : Int32))), .val (.ref b65), .val (.int (0 : Int32)), .val (.int (1 : Int32))] [(.ref b71)]))
                      refine o_callSP X73 hx hZ [(.ref b71)] (rmIE1 l Z a0 hw T73.heap n0 ZZ b71 hE hN) hown (hw _ (List.mem_of_getElem? (i := 52) rfl)) (hw _ (List.mem_of_getElem? (i := 53) rfl)) (hw _ (List.mem_of_getElem? (i := 54) rfl)) (hw _ (List.mem_of_getElem? (i := 55) rfl)) (by decide) pd_17 rfl (by rw [hml]; rfl) rfl rfl rfl (hb hby at_506) (pc' := 509) rfl 0 (Nat.le_of_eq rfl) (by decide) (by decide) rfl rfl (by decide) (by decide) ?_
                      intro T74 X74 e74
                      show Dn p e below _ (T74.setTop (mkF m 509 #[.val (.int p1), .val (.int p2), .val (.int p3), .val (.int p4), .val (.int (1 : Int32)), .val (.ref la1), .val (.int c6), .val (.int (Int32.ofNat j)), .val (.ref b2), .val (.ref b24), .val (.int (p1 &&& (7 : Int32))), .val (.ref b65), .val (.int (0 : Int32)), .val (.int (1 : Int32))] [(.int (1 : Int32))]))
                      refine o_iload X74 hx (pc' := 511) (hb hby at_509) rfl rfl ?_
                      refine o_icmp_ne X74 hx (pc' := 514) (pt := 518) (hb hby at_511) rfl (by decide) (by decide) (fun q => absurd (by decide) q) (fun _ => ?_)
                      refine o_iconst X74 hx (pc' := 515) (v := (1 : Int32)) (hb hby at_514) rfl rfl ?_
                      refine o_goto X74 hx (pc' := 519) (hb hby at_515) (by decide) (by decide) ?_
                      exact finSN X74 hx (own_EW hw) SW e74 hlk (t := .boolean) hret (by simp) (hb hby at_519) (by decide) (by decide) ⟨rfl, NN⟩
                · skip
                  refine o_ldcR X46 hx hown (hw _ (List.mem_of_getElem? (i := 114) rfl)) (own_wS hw) e46 SW (own_EW hw) (by decide) (vs := (iv [69, 78, 67, 82, 89, 80, 84, 69, 68, 32, 80, 82, 73, 86, 65, 84, 69, 32, 75, 69])) (z := (20 : Int32)) ⟨by decide, rfl⟩ (by decide) (by decide) 80 (by decide) (by decide) (by decide) (by decide) (hb hby at_420) (pc' := 422) rfl ?_
                  intro la75 T75 h75 b75 k75 X75 e75 E75 SW hown hC75 lE75 lC75 lV75 lA75 hN75
                  have hZ := SW.2.1
                  have ZZ := Nat.le_trans ZZ E75.1
                  have O := O.ext E75
                  have S7 := S7.ext E75
                  have tz_S7 := Nat.le_trans tz_S7 E75.1
                  have hV := hV.ext E75
                  have hW := hW.ext E75
                  have SL : Str Z h75 h75.size la75 [69, 78, 67, 82, 89, 80, 84, 69, 68, 32, 80, 82, 73, 86, 65, 84, 69, 32, 75, 69] := ⟨b75, k75, lE75.lt, lA75.lt, lE75, lV75, lC75, lA75⟩
                  have tz_SL : h75.size ≤ h75.size := Nat.le_refl _
                  refine o_astore X75 hx (pc' := 424) (Ls' := #[.val (.int p1), .val (.int p2), .val (.int p3), .val (.int p4), .val (.int en), .val (.ref la1), .val (.int c6), .val (.int (Int32.ofNat j)), .val (.ref b2), .val (.ref b24), .val (.int (p1 &&& (7 : Int32))), .val (.ref la75), .unset, .unset]) (hb hby at_422) rfl rfl rfl ?_
                  refine o_iconst X75 hx (pc' := 425) (v := (0 : Int32)) (hb hby at_424) rfl rfl ?_
                  refine o_istore X75 hx (pc' := 427) (Ls' := #[.val (.int p1), .val (.int p2), .val (.int p3), .val (.int p4), .val (.int en), .val (.ref la1), .val (.int c6), .val (.int (Int32.ofNat j)), .val (.ref b2), .val (.ref b24), .val (.int (p1 &&& (7 : Int32))), .val (.ref la75), .val (.int (0 : Int32)), .unset]) (hb hby at_425) rfl rfl ?_
                  refine o_goto X75 hx (pc' := 475) (hb hby at_427) (by decide) (by decide) ?_
                  rcases hen with rfl | rfl
                  · skip
                    show Dn p e below _ (T75.setTop (mkF m 475 #[.val (.int p1), .val (.int p2), .val (.int p3), .val (.int p4), .val (.int (0 : Int32)), .val (.ref la1), .val (.int c6), .val (.int (Int32.ofNat j)), .val (.ref b2), .val (.ref b24), .val (.int (p1 &&& (7 : Int32))), .val (.ref la75), .val (.int (0 : Int32)), .unset] []))
                    refine o_iload X75 hx (pc' := 477) (hb hby at_475) rfl rfl ?_
                    refine o_if_ne X75 hx (pc' := 480) (pt := 485) (hb hby at_477) rfl (by decide) (by decide) (fun q => absurd (by decide) q) (fun _ => ?_)
                    refine o_iload X75 hx (pc' := 482) (hb hby at_480) rfl rfl ?_
                    refine o_if_eq X75 hx (pc' := 485) (pt := 489) (hb hby at_482) rfl (by decide) (by decide) (fun _ => ?_) (fun q => absurd (by decide) q)
                    refine o_iconst X75 hx (pc' := 490) (v := (0 : Int32)) (hb hby at_489) rfl rfl ?_
                    refine o_istore X75 hx (pc' := 492) (Ls' := #[.val (.int p1), .val (.int p2), .val (.int p3), .val (.int p4), .val (.int (0 : Int32)), .val (.ref la1), .val (.int c6), .val (.int (Int32.ofNat j)), .val (.ref b2), .val (.ref b24), .val (.int (p1 &&& (7 : Int32))), .val (.ref la75), .val (.int (0 : Int32)), .val (.int (0 : Int32))]) (hb hby at_490) rfl rfl ?_
                    refine o_new X75 hx hZ hown (hw _ (List.mem_of_getElem? (i := 34) rfl)) (hw _ (List.mem_of_getElem? (i := 35) rfl)) (hw _ (List.mem_of_getElem? (i := 36) rfl)) e75 (hb hby at_492) (pc' := 495) rfl (by decide) (by decide) ?_
                    intro T76 h76 b76 g76 X76 e76 E76 A76 D76
                    have g_b76 : n0 ≤ b76 := Nat.le_trans ZZ (Nat.le_of_eq g76.symm)
                    have le_SL_b76 := Nat.le_trans tz_SL (Nat.le_of_eq g76.symm)
                    have ZZ := Nat.le_trans ZZ E76.1
                    have SW := SW.ext E76
                    have O := O.ext E76
                    have SL := SL.ext E76
                    have tz_SL := Nat.le_trans tz_SL E76.1
                    have hE := A76
                    have hL : Fld Z h76 b76 "com/example/shelfkey/shelfkey/http/Pem$Block" "label" "Ljava/lang/String;" .null := D76 (Or.inr (hw _ (List.mem_of_getElem? (i := 47) rfl))) (ty := (.object "java/lang/String")) (by decide)
                    have hN : Fld Z h76 b76 "com/example/shelfkey/shelfkey/http/Pem$Block" "encrypted" "Z" (.int 0) := D76 (Or.inr (hw _ (List.mem_of_getElem? (i := 49) rfl))) (ty := .boolean) (by decide)
                    have hC : Fld Z h76 b76 "com/example/shelfkey/shelfkey/http/Pem$Block" "contents" "[B" .null := D76 (Or.inr (hw _ (List.mem_of_getElem? (i := 51) rfl))) (ty := (.array .byte)) (by decide)
                    refine o_dup X76 hx (pc' := 496) (hb hby at_495) rfl rfl ?_
                    refine o_aload X76 hx (pc' := 498) (hb hby at_496) rfl rfl rfl ?_
                    refine o_iload X76 hx (pc' := 500) (hb hby at_498) rfl rfl ?_
                    refine o_iconst X76 hx (pc' := 501) (v := (0 : Int32)) (hb hby at_500) rfl rfl ?_
                    refine o_newarray X76 hx hZ e76 (hw _ (List.mem_of_getElem? (i := 3) rfl)) (hb hby at_501) (pc' := 503) rfl (by decide) 0 (by decide) (by decide) (by decide) (by decide) ?_
                    intro T77 h77 b77 k77 g77 X77 e77 E77 V77
                    have lt_b76_b77 : b76 < b77 := Nat.lt_of_lt_of_le hL.lt (Nat.le_of_eq g77.symm)
                    have ne_b76_b77 : b76 ≠ b77 := Nat.ne_of_lt lt_b76_b77
                    have g_b77 : n0 ≤ b77 := Nat.le_trans ZZ (Nat.le_of_eq g77.symm)
                    have le_SL_b77 := Nat.le_trans tz_SL (Nat.le_of_eq g77.symm)
                    have ZZ := Nat.le_trans ZZ E77.1
                    have SW := SW.ext E77
                    have O := O.ext E77
                    have SL := SL.ext E77
                    have tz_SL := Nat.le_trans tz_SL E77.1
                    have hL := hL.ext E77
                    have hN := hN.ext E77
                    have hC := hC.ext E77
                    have hE := hE.ext E77
                    have hA : Arv Z h77 b77 k77 .byte (0 : Int32) [] (.int 0) := V77.pad (pad_rep [] _ 0)
                    refine o_callI X77 hx hZ b76 [(.ref la75), (.int (0 : Int32)), (.ref b77)] (rmPB0 l Z a0 hw h77 n0 ZZ b76 la75 b77 hE hL hN hC g_b76) rfl hown (hw _ (List.mem_of_getElem? (i := 37) rfl)) (hw _ (List.mem_of_getElem? (i := 38) rfl)) (hw _ (List.mem_of_getElem? (i := 36) rfl)) (hw _ (List.mem_of_getElem? (i := 39) rfl)) (by decide) pd_16 e77 (by rw [hml]; rfl) rfl rfl rfl (hb hby at_503) (pc' := 506) rfl 1 (Nat.le_of_eq rfl) (by decide) (by decide) (by decide) (by decide) ?_
                    intro T78 v78 L78 X78 hQ78
                    obtain ⟨rfl, Nb, Kb, rE, rL, rN⟩ := hQ78
                    have NN := Fr.app NN Nb
                    have ZZ := Nat.le_trans ZZ Kb.1
                    have SWo := SW
                    have SW := SW.keep Kb (sfS (Safe.exa SW.2.1.alike hE (by decide) (by decide)) sf0)
                    have O := O.keep Kb (by intro x hx; simp only [List.mem_cons, List.not_mem_nil, or_false] at hx; subst hx; exact g_b76)
                    have SL := SL.keep Kb (own_one le_SL_b76)
                    have tz_SL := Nat.le_trans tz_SL Kb.1
                    have hE := hE.keep Kb
                    have hE := rE
                    have hL := rL
                    have hN := rN
                    show Dn p e below _ (T78.setTop (mkF m 506 #[.val (.int p1), .val (.int p2), .val (.int p3), .val (.int p4), .val (.int (0 : Int32)), .val (.ref la1), .val (.int c6), .val (.int (Int32.ofNat j)), .val (.ref b2), .val (.ref b24), .val (.int (p1 &&& (7 : Int32))), .val (.ref la75), .val (.int (0 : Int32)), .val (.int (0 : Int32))] [(.ref b76)]))
                    refine o_callSS X78 hx (own_EW hw) SW [(.ref b76)] (rmIE0 l Z a0 hw T78.heap n0 ZZ b76 la75 [69, 78, 67, 82, 89, 80, 84, 69, 68, 32, 80, 82, 73, 86, 65, 84, 69, 32, 75, 69] (by decide) _ hE hN hL SL cs0 S0 hcs O) hown (hw _ (List.mem_of_getElem? (i := 52) rfl)) (hw _ (List.mem_of_getElem? (i := 53) rfl)) (hw _ (List.mem_of_getElem? (i := 54) rfl)) (hw _ (List.mem_of_getElem? (i := 55) rfl)) (by decide) pd_17 rfl (by rw [hml]; rfl) rfl rfl rfl (hb hby at_506) (pc' := 509) rfl 0 (Nat.le_of_eq rfl) (by decide) (by decide) (by decide) (by decide) ?_
                    intro T79 v79 L79 X79 hQ79 SW hown hC79
                    have hZ := SW.2.1
                    obtain ⟨rfl, Nc, Kc⟩ := hQ79
                    have NN := Fr.app NN Nc
                    have ZZ := Nat.le_trans ZZ Kc.1
                    have O := O.keep Kc (fun x hx => nomatch hx)
                    rw [if_neg (show ¬ [69, 78, 67, 82, 89, 80, 84, 69, 68, 32, 80, 82, 73, 86, 65, 84, 69, 32, 75, 69] = TGT from (by decide +kernel))]
                    show Dn p e below _ (T79.setTop (mkF m 509 #[.val (.int p1), .val (.int p2), .val (.int p3), .val (.int p4), .val (.int (0 : Int32)), .val (.ref la1), .val (.int c6), .val (.int (Int32.ofNat j)), .val (.ref b2), .val (.ref b24), .val (.int (p1 &&& (7 : Int32))), .val (.ref la75), .val (.int (0 : Int32)), .val (.int (0 : Int32))] [(.int (0 : Int32))]))
                    refine o_iload X79 hx (pc' := 511) (hb hby at_509) rfl rfl ?_
                    refine o_icmp_ne X79 hx (pc' := 514) (pt := 518) (hb hby at_511) rfl (by decide) (by decide) (fun q => absurd (by decide) q) (fun _ => ?_)
                    refine o_iconst X79 hx (pc' := 515) (v := (1 : Int32)) (hb hby at_514) rfl rfl ?_
                    refine o_goto X79 hx (pc' := 519) (hb hby at_515) (by decide) (by decide) ?_
                    exact finSN X79 hx (own_EW hw) SW rfl hlk (t := .boolean) hret (by simp) (hb hby at_519) (by decide) (by decide) ⟨rfl, NN⟩
                  · skip
                    show Dn p e below _ (T75.setTop (mkF m 475 #[.val (.int p1), .val (.int p2), .val (.int p3), .val (.int p4), .val (.int (1 : Int32)), .val (.ref la1), .val (.int c6), .val (.int (Int32.ofNat j)), .val (.ref b2), .val (.ref b24), .val (.int (p1 &&& (7 : Int32))), .val (.ref la75), .val (.int (0 : Int32)), .unset] []))
                    refine o_iload X75 hx (pc' := 477) (hb hby at_475) rfl rfl ?_
                    refine o_if_ne X75 hx (pc' := 480) (pt := 485) (hb hby at_477) rfl (by decide) (by decide) (fun _ => ?_) (fun q => absurd q (by decide))
                    refine o_iconst X75 hx (pc' := 486) (v := (1 : Int32)) (hb hby at_485) rfl rfl ?_
                    refine o_goto X75 hx (pc' := 490) (hb hby at_486) (by decide) (by decide) ?_
                    refine o_istore X75 hx (pc' := 492) (Ls' := #[.val (.int p1), .val (.int p2), .val (.int p3), .val (.int p4), .val (.int (1 : Int32)), .val (.ref la1), .val (.int c6), .val (.int (Int32.ofNat j)), .val (.ref b2), .val (.ref b24), .val (.int (p1 &&& (7 : Int32))), .val (.ref la75), .val (.int (0 : Int32)), .val (.int (1 : Int32))]) (hb hby at_490) rfl rfl ?_
                    refine o_new X75 hx hZ hown (hw _ (List.mem_of_getElem? (i := 34) rfl)) (hw _ (List.mem_of_getElem? (i := 35) rfl)) (hw _ (List.mem_of_getElem? (i := 36) rfl)) e75 (hb hby at_492) (pc' := 495) rfl (by decide) (by decide) ?_
                    intro T80 h80 b80 g80 X80 e80 E80 A80 D80
                    have g_b80 : n0 ≤ b80 := Nat.le_trans ZZ (Nat.le_of_eq g80.symm)
                    have le_SL_b80 := Nat.le_trans tz_SL (Nat.le_of_eq g80.symm)
                    have ZZ := Nat.le_trans ZZ E80.1
                    have SW := SW.ext E80
                    have O := O.ext E80
                    have SL := SL.ext E80
                    have tz_SL := Nat.le_trans tz_SL E80.1
                    have hE := A80
                    have hL : Fld Z h80 b80 "com/example/shelfkey/shelfkey/http/Pem$Block" "label" "Ljava/lang/String;" .null := D80 (Or.inr (hw _ (List.mem_of_getElem? (i := 47) rfl))) (ty := (.object "java/lang/String")) (by decide)
                    have hN : Fld Z h80 b80 "com/example/shelfkey/shelfkey/http/Pem$Block" "encrypted" "Z" (.int 0) := D80 (Or.inr (hw _ (List.mem_of_getElem? (i := 49) rfl))) (ty := .boolean) (by decide)
                    have hC : Fld Z h80 b80 "com/example/shelfkey/shelfkey/http/Pem$Block" "contents" "[B" .null := D80 (Or.inr (hw _ (List.mem_of_getElem? (i := 51) rfl))) (ty := (.array .byte)) (by decide)
                    refine o_dup X80 hx (pc' := 496) (hb hby at_495) rfl rfl ?_
                    refine o_aload X80 hx (pc' := 498) (hb hby at_496) rfl rfl rfl ?_
                    refine o_iload X80 hx (pc' := 500) (hb hby at_498) rfl rfl ?_
                    refine o_iconst X80 hx (pc' := 501) (v := (0 : Int32)) (hb hby at_500) rfl rfl ?_
                    refine o_newarray X80 hx hZ e80 (hw _ (List.mem_of_getElem? (i := 3) rfl)) (hb hby at_501) (pc' := 503) rfl (by decide) 0 (by decide) (by decide) (by decide) (by decide) ?_
                    intro T81 h81 b81 k81 g81 X81 e81 E81 V81
                    have lt_b80_b81 : b80 < b81 := Nat.lt_of_lt_of_le hL.lt (Nat.le_of_eq g81.symm)
                    have ne_b80_b81 : b80 ≠ b81 := Nat.ne_of_lt lt_b80_b81
                    have g_b81 : n0 ≤ b81 := Nat.le_trans ZZ (Nat.le_of_eq g81.symm)
                    have le_SL_b81 := Nat.le_trans tz_SL (Nat.le_of_eq g81.symm)
                    have ZZ := Nat.le_trans ZZ E81.1
                    have SW := SW.ext E81
                    have O := O.ext E81
                    have SL := SL.ext E81
                    have tz_SL := Nat.le_trans tz_SL E81.1
                    have hL := hL.ext E81
                    have hN := hN.ext E81
                    have hC := hC.ext E81
                    have hE := hE.ext E81
                    have hA : Arv Z h81 b81 k81 .byte (0 : Int32) [] (.int 0) := V81.pad (pad_rep [] _ 0)
                    refine o_callI X81 hx hZ b80 [(.ref la75), (.int (1 : Int32)), (.ref b81)] (rmPB1 l Z a0 hw h81 n0 ZZ b80 la75 b81 hE hL hN hC g_b80) rfl hown (hw _ (List.mem_of_getElem? (i := 37) rfl)) (hw _ (List.mem_of_getElem? (i := 38) rfl)) (hw _ (List.mem_of_getElem? (i := 36) rfl)) (hw _ (List.mem_of_getElem? (i := 39) rfl)) (by decide) pd_16 e81 (by rw [hml]; rfl) rfl rfl rfl (hb hby at_503) (pc' := 506) rfl 1 (Nat.le_of_eq rfl) (by decide) (by decide) (by decide) (by decide) ?_
                    intro T82 v82 L82 X82 hQ82
                    obtain ⟨rfl, Nb, Kb, rE, rL, rN⟩ := hQ82
                    have NN := Fr.app NN Nb
                    have ZZ := Nat.le_trans ZZ Kb.1
                    have SWo := SW
                    have SW := SW.keep Kb (sfS (Safe.exa SW.2.1.alike hE (by decide) (by decide)) sf0)
                    have O := O.keep Kb (by intro x hx; simp only [List.mem_cons, List.not_mem_nil, or_false] at hx; subst hx; exact g_b80)
                    have SL := SL.keep Kb (own_one le_SL_b80)
                    have tz_SL := Nat.le_trans tz_SL Kb.1
                    have hE := hE.keep Kb
                    have hE := rE
                    have hL := rL
                    have hN := rN
                    show Dn p e below _ (T82.setTop (mkF m 506 #[.val (.int p1), .val (.int p2), .val (.int p3), .val (.int p4), .val (.int (1 : Int32)), .val (.ref la1), .val (.int c6), .val (.int (Int32.ofNat j)), .val (.ref b2), .val (.ref b24), .val (.int (p1 &&& (7 : Int32))), .val (.ref la75), .val (.int (0 : Int32)), .val (.int (1 : Int32))] [(.ref b80)]))
                    refine o_callSP X82 hx hZ [(.ref b80)] (rmIE1 l Z a0 hw T82.heap n0 ZZ b80 hE hN) hown (hw _ (List.mem_of_getElem? (i := 52) rfl)) (hw _ (List.mem_of_getElem? (i := 53) rfl)) (hw _ (List.mem_of_getElem? (i := 54) rfl)) (hw _ (List.mem_of_getElem? (i := 55) rfl)) (by decide) pd_17 rfl (by rw [hml]; rfl) rfl rfl rfl (hb hby at_506) (pc' := 509) rfl 0 (Nat.le_of_eq rfl) (by decide) (by decide) rfl rfl (by decide) (by decide) ?_
                    intro T83 X83 e83
                    show Dn p e below _ (T83.setTop (mkF m 509 #[.val (.int p1), .val (.int p2), .val (.int p3), .val (.int p4), .val (.int (1 : Int32)), .val (.ref la1), .val (.int c6), .val (.int (Int32.ofNat j)), .val (.ref b2), .val (.ref b24), .val (.int (p1 &&& (7 : Int32))), .val (.ref la75), .val (.int (0 : Int32)), .val (.int (1 : Int32))] [(.int (1 : Int32))]))
                    refine o_iload X83 hx (pc' := 511) (hb hby at_509) rfl rfl ?_
                    refine o_icmp_ne X83 hx (pc' := 514) (pt := 518) (hb hby at_511) rfl (by decide) (by decide) (fun q => absurd (by decide) q) (fun _ => ?_)
                    refine o_iconst X83 hx (pc' := 515) (v := (1 : Int32)) (hb hby at_514) rfl rfl ?_
                    refine o_goto X83 hx (pc' := 519) (hb hby at_515) (by decide) (by decide) ?_
                    exact finSN X83 hx (own_EW hw) SW e83 hlk (t := .boolean) hret (by simp) (hb hby at_519) (by decide) (by decide) ⟨rfl, NN⟩
              · skip
                refine o_ldcR X46 hx hown (hw _ (List.mem_of_getElem? (i := 61) rfl)) (own_wS hw) e46 SW (own_EW hw) (by decide) (vs := (iv [69, 67, 32, 80, 82, 73, 86, 65, 84, 69, 32, 75, 69, 89])) (z := (14 : Int32)) ⟨by decide, rfl⟩ (by decide) (by decide) 56 (by decide) (by decide) (by decide) (by decide) (hb hby at_404) (pc' := 406) rfl ?_
                intro la84 T84 h84 b84 k84 X84 e84 E84 SW hown hC84 lE84 lC84 lV84 lA84 hN84
                have hZ := SW.2.1
                have ZZ := Nat.le_trans ZZ E84.1
                have O := O.ext E84
                have S7 := S7.ext E84
                have tz_S7 := Nat.le_trans tz_S7 E84.1
                have hV := hV.ext E84
                have hW := hW.ext E84
                have SL : Str Z h84 h84.size la84 [69, 67, 32, 80, 82, 73, 86, 65, 84, 69, 32, 75, 69, 89] := ⟨b84, k84, lE84.lt, lA84.lt, lE84, lV84, lC84, lA84⟩
                have tz_SL : h84.size ≤ h84.size := Nat.le_refl _
                refine o_astore X84 hx (pc' := 408) (Ls' := #[.val (.int p1), .val (.int p2), .val (.int p3), .val (.int p4), .val (.int en), .val (.ref la1), .val (.int c6), .val (.int (Int32.ofNat j)), .val (.ref b2), .val (.ref b24), .val (.int (p1 &&& (7 : Int32))), .val (.ref la84), .unset, .unset]) (hb hby at_406) rfl rfl rfl ?_
                refine o_iconst X84 hx (pc' := 409) (v := (0 : Int32)) (hb hby at_408) rfl rfl ?_
                refine o_istore X84 hx (pc' := 411) (Ls' := #[.val (.int p1), .val (.int p2), .val (.int p3), .val (.int p4), .val (.int en), .val (.ref la1), .val (.int c6), .val (.int (Int32.ofNat j)), .val (.ref b2), .val (.ref b24), .val (.int (p1 &&& (7 : Int32))), .val (.ref la84), .val (.int (0 : Int32)), .unset]) (hb hby at_409) rfl rfl ?_
                refine o_goto X84 hx (pc' := 475) (hb hby at_411) (by decide) (by decide) ?_
                rcases hen with rfl | rfl
                · skip
                  show Dn p e below _ (T84.setTop (mkF m 475 #[.val (.int p1), .val (.int p2), .val (.int p3), .val (.int p4), .val (.int (0 : Int32)), .val (.ref la1), .val (.int c6), .val (.int (Int32.ofNat j)), .val (.ref b2), .val (.ref b24), .val (.int (p1 &&& (7 : Int32))), .val (.ref la84), .val (.int (0 : Int32)), .unset] []))
                  refine o_iload X84 hx (pc' := 477) (hb hby at_475) rfl rfl ?_
                  refine o_if_ne X84 hx (pc' := 480) (pt := 485) (hb hby at_477) rfl (by decide) (by decide) (fun q => absurd (by decide) q) (fun _ => ?_)
                  refine o_iload X84 hx (pc' := 482) (hb hby at_480) rfl rfl ?_
                  refine o_if_eq X84 hx (pc' := 485) (pt := 489) (hb hby at_482) rfl (by decide) (by decide) (fun _ => ?_) (fun q => absurd (by decide) q)
                  refine o_iconst X84 hx (pc' := 490) (v := (0 : Int32)) (hb hby at_489) rfl rfl ?_
                  refine o_istore X84 hx (pc' := 492) (Ls' := #[.val (.int p1), .val (.int p2), .val (.int p3), .val (.int p4), .val (.int (0 : Int32)), .val (.ref la1), .val (.int c6), .val (.int (Int32.ofNat j)), .val (.ref b2), .val (.ref b24), .val (.int (p1 &&& (7 : Int32))), .val (.ref la84), .val (.int (0 : Int32)), .val (.int (0 : Int32))]) (hb hby at_490) rfl rfl ?_
                  refine o_new X84 hx hZ hown (hw _ (List.mem_of_getElem? (i := 34) rfl)) (hw _ (List.mem_of_getElem? (i := 35) rfl)) (hw _ (List.mem_of_getElem? (i := 36) rfl)) e84 (hb hby at_492) (pc' := 495) rfl (by decide) (by decide) ?_
                  intro T85 h85 b85 g85 X85 e85 E85 A85 D85
                  have g_b85 : n0 ≤ b85 := Nat.le_trans ZZ (Nat.le_of_eq g85.symm)
                  have le_SL_b85 := Nat.le_trans tz_SL (Nat.le_of_eq g85.symm)
                  have ZZ := Nat.le_trans ZZ E85.1
                  have SW := SW.ext E85
                  have O := O.ext E85
                  have SL := SL.ext E85
                  have tz_SL := Nat.le_trans tz_SL E85.1
                  have hE := A85
                  have hL : Fld Z h85 b85 "com/example/shelfkey/shelfkey/http/Pem$Block" "label" "Ljava/lang/String;" .null := D85 (Or.inr (hw _ (List.mem_of_getElem? (i := 47) rfl))) (ty := (.object "java/lang/String")) (by decide)
                  have hN : Fld Z h85 b85 "com/example/shelfkey/shelfkey/http/Pem$Block" "encrypted" "Z" (.int 0) := D85 (Or.inr (hw _ (List.mem_of_getElem? (i := 49) rfl))) (ty := .boolean) (by decide)
                  have hC : Fld Z h85 b85 "com/example/shelfkey/shelfkey/http/Pem$Block" "contents" "[B" .null := D85 (Or.inr (hw _ (List.mem_of_getElem? (i := 51) rfl))) (ty := (.array .byte)) (by decide)
                  refine o_dup X85 hx (pc' := 496) (hb hby at_495) rfl rfl ?_
                  refine o_aload X85 hx (pc' := 498) (hb hby at_496) rfl rfl rfl ?_
                  refine o_iload X85 hx (pc' := 500) (hb hby at_498) rfl rfl ?_
                  refine o_iconst X85 hx (pc' := 501) (v := (0 : Int32)) (hb hby at_500) rfl rfl ?_
                  refine o_newarray X85 hx hZ e85 (hw _ (List.mem_of_getElem? (i := 3) rfl)) (hb hby at_501) (pc' := 503) rfl (by decide) 0 (by decide) (by decide) (by decide) (by decide) ?_
                  intro T86 h86 b86 k86 g86 X86 e86 E86 V86
                  have lt_b85_b86 : b85 < b86 := Nat.lt_of_lt_of_le hL.lt (Nat.le_of_eq g86.symm)
                  have ne_b85_b86 : b85 ≠ b86 := Nat.ne_of_lt lt_b85_b86
                  have g_b86 : n0 ≤ b86 := Nat.le_trans ZZ (Nat.le_of_eq g86.symm)
                  have le_SL_b86 := Nat.le_trans tz_SL (Nat.le_of_eq g86.symm)
                  have ZZ := Nat.le_trans ZZ E86.1
                  have SW := SW.ext E86
                  have O := O.ext E86
                  have SL := SL.ext E86
                  have tz_SL := Nat.le_trans tz_SL E86.1
                  have hL := hL.ext E86
                  have hN := hN.ext E86
                  have hC := hC.ext E86
                  have hE := hE.ext E86
                  have hA : Arv Z h86 b86 k86 .byte (0 : Int32) [] (.int 0) := V86.pad (pad_rep [] _ 0)
                  refine o_callI X86 hx hZ b85 [(.ref la84), (.int (0 : Int32)), (.ref b86)] (rmPB0 l Z a0 hw h86 n0 ZZ b85 la84 b86 hE hL hN hC g_b85) rfl hown (hw _ (List.mem_of_getElem? (i := 37) rfl)) (hw _ (List.mem_of_getElem? (i := 38) rfl)) (hw _ (List.mem_of_getElem? (i := 36) rfl)) (hw _ (List.mem_of_getElem? (i := 39) rfl)) (by decide) pd_16 e86 (by rw [hml]; rfl) rfl rfl rfl (hb hby at_503) (pc' := 506) rfl 1 (Nat.le_of_eq rfl) (by decide) (by decide) (by decide) (by decide) ?_
                  intro T87 v87 L87 X87 hQ87
                  obtain ⟨rfl, Nb, Kb, rE, rL, rN⟩ := hQ87
                  have NN := Fr.app NN Nb
                  have ZZ := Nat.le_trans ZZ Kb.1
                  have SWo := SW
                  have SW := SW.keep Kb (sfS (Safe.exa SW.2.1.alike hE (by decide) (by decide)) sf0)
                  have O := O.keep Kb (by intro x hx; simp only [List.mem_cons, List.not_mem_nil, or_false] at hx; subst hx; exact g_b85)
                  have SL := SL.keep Kb (own_one le_SL_b85)
                  have tz_SL := Nat.le_trans tz_SL Kb.1
                  have hE := hE.keep Kb
                  have hE := rE
                  have hL := rL
                  have hN := rN
                  show Dn p e below _ (T87.setTop (mkF m 506 #[.val (.int p1), .val (.int p2), .val (.int p3), .val (.int p4), .val (.int (0 : Int32)), .val (.ref la1), .val (.int c6), .val (.int (Int32.ofNat j)), .val (.ref b2), .val (.ref b24), .val (.int (p1 &&& (7 : Int32))), .val (.ref la84), .val (.int (0 : Int32)), .val (.int (0 : Int32))] [(.ref b85)]))
                  refine o_callSS X87 hx (own_EW hw) SW [(.ref b85)] (rmIE0 l Z a0 hw T87.heap n0 ZZ b85 la84 [69, 67, 32, 80, 82, 73, 86, 65, 84, 69, 32, 75, 69, 89] (by decide) _ hE hN hL SL cs0 S0 hcs O) hown (hw _ (List.mem_of_getElem? (i := 52) rfl)) (hw _ (List.mem_of_getElem? (i := 53) rfl)) (hw _ (List.mem_of_getElem? (i := 54) rfl)) (hw _ (List.mem_of_getElem? (i := 55) rfl)) (by decide) pd_17 rfl (by rw [hml]; rfl) rfl rfl rfl (hb hby at_506) (pc' := 509) rfl 0 (Nat.le_of_eq rfl) (by decide) (by decide) (by decide) (by decide) ?_
                  intro T88 v88 L88 X88 hQ88 SW hown hC88
                  have hZ := SW.2.1
                  obtain ⟨rfl, Nc, Kc⟩ := hQ88
                  have NN := Fr.app NN Nc
                  have ZZ := Nat.le_trans ZZ Kc.1
                  have O := O.keep Kc (fun x hx => nomatch hx)
                  rw [if_neg (show ¬ [69, 67, 32, 80, 82, 73, 86, 65, 84, 69, 32, 75, 69, 89] = TGT from (by decide +kernel))]
                  show Dn p e below _ (T88.setTop (mkF m 509 #[.val (.int p1), .val (.int p2), .val (.int p3), .val (.int p4), .val (.int (0 : Int32)), .val (.ref la1), .val (.int c6), .val (.int (Int32.ofNat j)), .val (.ref b2), .val (.ref b24), .val (.int (p1 &&& (7 : Int32))), .val (.ref la84), .val (.int (0 : Int32)), .val (.int (0 : Int32))] [(.int (0 : Int32))]))
                  refine o_iload X88 hx (pc' := 511) (hb hby at_509) rfl rfl ?_
                  refine o_icmp_ne X88 hx (pc' := 514) (pt := 518) (hb hby at_511) rfl (by decide) (by decide) (fun q => absurd (by decide) q) (fun _ => ?_)
                  refine o_iconst X88 hx (pc' := 515) (v := (1 : Int32)) (hb hby at_514) rfl rfl ?_
                  refine o_goto X88 hx (pc' := 519) (hb hby at_515) (by decide) (by decide) ?_
                  exact finSN X88 hx (own_EW hw) SW rfl hlk (t := .boolean) hret (by simp) (hb hby at_519) (by decide) (by decide) ⟨rfl, NN⟩
                · skip
                  show Dn p e below _ (T84.setTop (mkF m 475 #[.val (.int p1), .val (.int p2), .val (.int p3), .val (.int p4), .val (.int (1 : Int32)), .val (.ref la1), .val (.int c6), .val (.int (Int32.ofNat j)), .val (.ref b2), .val (.ref b24), .val (.int (p1 &&& (7 : Int32))), .val (.ref la84), .val (.int (0 : Int32)), .unset] []))
                  refine o_iload X84 hx (pc' := 477) (hb hby at_475) rfl rfl ?_
                  refine o_if_ne X84 hx (pc' := 480) (pt := 485) (hb hby at_477) rfl (by decide) (by decide) (fun _ => ?_) (fun q => absurd q (by decide))
                  refine o_iconst X84 hx (pc' := 486) (v := (1 : Int32)) (hb hby at_485) rfl rfl ?_
                  refine o_goto X84 hx (pc' := 490) (hb hby at_486) (by decide) (by decide) ?_
                  refine o_istore X84 hx (pc' := 492) (Ls' := #[.val (.int p1), .val (.int p2), .val (.int p3), .val (.int p4), .val (.int (1 : Int32)), .val (.ref la1), .val (.int c6), .val (.int (Int32.ofNat j)), .val (.ref b2), .val (.ref b24), .val (.int (p1 &&& (7 : Int32))), .val (.ref la84), .val (.int (0 : Int32)), .val (.int (1 : Int32))]) (hb hby at_490) rfl rfl ?_
                  refine o_new X84 hx hZ hown (hw _ (List.mem_of_getElem? (i := 34) rfl)) (hw _ (List.mem_of_getElem? (i := 35) rfl)) (hw _ (List.mem_of_getElem? (i := 36) rfl)) e84 (hb hby at_492) (pc' := 495) rfl (by decide) (by decide) ?_
                  intro T89 h89 b89 g89 X89 e89 E89 A89 D89
                  have g_b89 : n0 ≤ b89 := Nat.le_trans ZZ (Nat.le_of_eq g89.symm)
                  have le_SL_b89 := Nat.le_trans tz_SL (Nat.le_of_eq g89.symm)
                  have ZZ := Nat.le_trans ZZ E89.1
                  have SW := SW.ext E89
                  have O := O.ext E89
                  have SL := SL.ext E89
                  have tz_SL := Nat.le_trans tz_SL E89.1
                  have hE := A89
                  have hL : Fld Z h89 b89 "com/example/shelfkey/shelfkey/http/Pem$Block" "label" "Ljava/lang/String;" .null := D89 (Or.inr (hw _ (List.mem_of_getElem? (i := 47) rfl))) (ty := (.object "java/lang/String")) (by decide)
                  have hN : Fld Z h89 b89 "com/example/shelfkey/shelfkey/http/Pem$Block" "encrypted" "Z" (.int 0) := D89 (Or.inr (hw _ (List.mem_of_getElem? (i := 49) rfl))) (ty := .boolean) (by decide)
                  have hC : Fld Z h89 b89 "com/example/shelfkey/shelfkey/http/Pem$Block" "contents" "[B" .null := D89 (Or.inr (hw _ (List.mem_of_getElem? (i := 51) rfl))) (ty := (.array .byte)) (by decide)
                  refine o_dup X89 hx (pc' := 496) (hb hby at_495) rfl rfl ?_
                  refine o_aload X89 hx (pc' := 498) (hb hby at_496) rfl rfl rfl ?_
                  refine o_iload X89 hx (pc' := 500) (hb hby at_498) rfl rfl ?_
                  refine o_iconst X89 hx (pc' := 501) (v := (0 : Int32)) (hb hby at_500) rfl rfl ?_
                  refine o_newarray X89 hx hZ e89 (hw _ (List.mem_of_getElem? (i := 3) rfl)) (hb hby at_501) (pc' := 503) rfl (by decide) 0 (by decide) (by decide) (by decide) (by decide) ?_
                  intro T90 h90 b90 k90 g90 X90 e90 E90 V90
                  have lt_b89_b90 : b89 < b90 := Nat.lt_of_lt_of_le hL.lt (Nat.le_of_eq g90.symm)
                  have ne_b89_b90 : b89 ≠ b90 := Nat.ne_of_lt lt_b89_b90
                  have g_b90 : n0 ≤ b90 := Nat.le_trans ZZ (Nat.le_of_eq g90.symm)
                  have le_SL_b90 := Nat.le_trans tz_SL (Nat.le_of_eq g90.symm)
                  have ZZ := Nat.le_trans ZZ E90.1
                  have SW := SW.ext E90
                  have O := O.ext E90
                  have SL := SL.ext E90
                  have tz_SL := Nat.le_trans tz_SL E90.1
                  have hL := hL.ext E90
                  have hN := hN.ext E90
                  have hC := hC.ext E90
                  have hE := hE.ext E90
                  have hA : Arv Z h90 b90 k90 .byte (0 : Int32) [] (.int 0) := V90.pad (pad_rep [] _ 0)
                  refine o_callI X90 hx hZ b89 [(.ref la84), (.int (1 : Int32)), (.ref b90)] (rmPB1 l Z a0 hw h90 n0 ZZ b89 la84 b90 hE hL hN hC g_b89) rfl hown (hw _ (List.mem_of_getElem? (i := 37) rfl)) (hw _ (List.mem_of_getElem? (i := 38) rfl)) (hw _ (List.mem_of_getElem? (i := 36) rfl)) (hw _ (List.mem_of_getElem? (i := 39) rfl)) (by decide) pd_16 e90 (by rw [hml]; rfl) rfl rfl rfl (hb hby at_503) (pc' := 506) rfl 1 (Nat.le_of_eq rfl) (by decide) (by decide) (by decide) (by decide) ?_
                  intro T91 v91 L91 X91 hQ91
                  obtain ⟨rfl, Nb, Kb, rE, rL, rN⟩ := hQ91
                  have NN := Fr.app NN Nb
                  have ZZ := Nat.le_trans ZZ Kb.1
                  have SWo := SW
                  have SW := SW.keep Kb (sfS (Safe.exa SW.2.1.alike hE (by decide) (by decide)) sf0)
                  have O := O.keep Kb (by intro x hx; simp only [List.mem_cons, List.not_mem_nil, or_false] at hx; subst hx; exact g_b89)
                  have SL := SL.keep Kb (own_one le_SL_b89)
                  have tz_SL := Nat.le_trans tz_SL Kb.1
                  have hE := hE.keep Kb
                  have hE := rE
                  have hL := rL
                  have hN := rN
                  show Dn p e below _ (T91.setTop (mkF m 506 #[.val (.int p1), .val (.int p2), .val (.int p3), .val (.int p4), .val (.int (1 : Int32)), .val (.ref la1), .val (.int c6), .val (.int (Int32.ofNat j)), .val (.ref b2), .val (.ref b24), .val (.int (p1 &&& (7 : Int32))), .val (.ref la84), .val (.int (0 : Int32)), .val (.int (1 : Int32))] [(.ref b89)]))
                  refine o_callSP X91 hx hZ [(.ref b89)] (rmIE1 l Z a0 hw T91.heap n0 ZZ b89 hE hN) hown (hw _ (List.mem_of_getElem? (i := 52) rfl)) (hw _ (List.mem_of_getElem? (i := 53) rfl)) (hw _ (List.mem_of_getElem? (i := 54) rfl)) (hw _ (List.mem_of_getElem? (i := 55) rfl)) (by decide) pd_17 rfl (by rw [hml]; rfl) rfl rfl rfl (hb hby at_506) (pc' := 509) rfl 0 (Nat.le_of_eq rfl) (by decide) (by decide) rfl rfl (by decide) (by decide) ?_
                  intro T92 X92 e92
                  show Dn p e below _ (T92.setTop (mkF m 509 #[.val (.int p1), .val (.int p2), .val (.int p3), .val (.int p4), .val (.int (1 : Int32)), .val (.ref la1), .val (.int c6), .val (.int (Int32.ofNat j)), .val (.ref b2), .val (.ref b24), .val (.int (p1 &&& (7 : Int32))), .val (.ref la84), .val (.int (0 : Int32)), .val (.int (1 : Int32))] [(.int (1 : Int32))]))
                  refine o_iload X92 hx (pc' := 511) (hb hby at_509) rfl rfl ?_
                  refine o_icmp_ne X92 hx (pc' := 514) (pt := 518) (hb hby at_511) rfl (by decide) (by decide) (fun q => absurd (by decide) q) (fun _ => ?_)
                  refine o_iconst X92 hx (pc' := 515) (v := (1 : Int32)) (hb hby at_514) rfl rfl ?_
                  refine o_goto X92 hx (pc' := 519) (hb hby at_515) (by decide) (by decide) ?_
                  exact finSN X92 hx (own_EW hw) SW e92 hlk (t := .boolean) hret (by simp) (hb hby at_519) (by decide) (by decide) ⟨rfl, NN⟩
            · skip
              refine o_ldcR X46 hx hown (hw _ (List.mem_of_getElem? (i := 112) rfl)) (own_wS hw) e46 SW (own_EW hw) (by decide) (vs := (iv [82, 83, 65, 32, 80, 82, 73, 86, 65, 84, 69, 32, 75, 69, 89])) (z := (15 : Int32)) ⟨by decide, rfl⟩ (by decide) (by decide) 60 (by decide) (by decide) (by decide) (by decide) (hb hby at_388) (pc' := 390) rfl ?_
              intro la93 T93 h93 b93 k93 X93 e93 E93 SW hown hC93 lE93 lC93 lV93 lA93 hN93
              have hZ := SW.2.1
              have ZZ := Nat.le_trans ZZ E93.1
              have O := O.ext E93
              have S7 := S7.ext E93
              have tz_S7 := Nat.le_trans tz_S7 E93.1
              have hV := hV.ext E93
              have hW := hW.ext E93
              have SL : Str Z h93 h93.size la93 [82, 83, 65, 32, 80, 82, 73, 86, 65, 84, 69, 32, 75, 69, 89] := ⟨b93, k93, lE93.lt, lA93.lt, lE93, lV93, lC93, lA93⟩
              have tz_SL : h93.size ≤ h93.size := Nat.le_refl _
              refine o_astore X93 hx (pc' := 392) (Ls' := #[.val (.int p1), .val (.int p2), .val (.int p3), .val (.int p4), .val (.int en), .val (.ref la1), .val (.int c6), .val (.int (Int32.ofNat j)), .val (.ref b2), .val (.ref b24), .val (.int (p1 &&& (7 : Int32))), .val (.ref la93), .unset, .unset]) (hb hby at_390) rfl rfl rfl ?_
              refine o_iconst X93 hx (pc' := 393) (v := (0 : Int32)) (hb hby at_392) rfl rfl ?_
              refine o_istore X93 hx (pc' := 395) (Ls' := #[.val (.int p1), .val (.int p2), .val (.int p3), .val (.int p4), .val (.int en), .val (.ref la1), .val (.int c6), .val (.int (Int32.ofNat j)), .val (.ref b2), .val (.ref b24), .val (.int (p1 &&& (7 : Int32))), .val (.ref la93), .val (.int (0 : Int32)), .unset]) (hb hby at_393) rfl rfl ?_
              refine o_goto X93 hx (pc' := 475) (hb hby at_395) (by decide) (by decide) ?_
              rcases hen with rfl | rfl
              · skip
                show Dn p e below _ (T93.setTop (mkF m 475 #[.val (.int p1), .val (.int p2), .val (.int p3), .val (.int p4), .val (.int (0 : Int32)), .val (.ref la1), .val (.int c6), .val (.int (Int32.ofNat j)), .val (.ref b2), .val (.ref b24), .val (.int (p1 &&& (7 : Int32))), .val (.ref la93), .val (.int (0 : Int32)), .unset] []))
                refine o_iload X93 hx (pc' := 477) (hb hby at_475) rfl rfl ?_
                refine o_if_ne X93 hx (pc' := 480) (pt := 485) (hb hby at_477) rfl (by decide) (by decide) (fun q => absurd (by decide) q) (fun _ => ?_)
                refine o_iload X93 hx (pc' := 482) (hb hby at_480) rfl rfl ?_
                refine o_if_eq X93 hx (pc' := 485) (pt := 489) (hb hby at_482) rfl (by decide) (by decide) (fun _ => ?_) (fun q => absurd (by decide) q)
                refine o_iconst X93 hx (pc' := 490) (v := (0 : Int32)) (hb hby at_489) rfl rfl ?_
                refine o_istore X93 hx (pc' := 492) (Ls' := #[.val (.int p1), .val (.int p2), .val (.int p3), .val (.int p4), .val (.int (0 : Int32)), .val (.ref la1), .val (.int c6), .val (.int (Int32.ofNat j)), .val (.ref b2), .val (.ref b24), .val (.int (p1 &&& (7 : Int32))), .val (.ref la93), .val (.int (0 : Int32)), .val (.int (0 : Int32))]) (hb hby at_490) rfl rfl ?_
                refine o_new X93 hx hZ hown (hw _ (List.mem_of_getElem? (i := 34) rfl)) (hw _ (List.mem_of_getElem? (i := 35) rfl)) (hw _ (List.mem_of_getElem? (i := 36) rfl)) e93 (hb hby at_492) (pc' := 495) rfl (by decide) (by decide) ?_
                intro T94 h94 b94 g94 X94 e94 E94 A94 D94
                have g_b94 : n0 ≤ b94 := Nat.le_trans ZZ (Nat.le_of_eq g94.symm)
                have le_SL_b94 := Nat.le_trans tz_SL (Nat.le_of_eq g94.symm)
                have ZZ := Nat.le_trans ZZ E94.1
                have SW := SW.ext E94
                have O := O.ext E94
                have SL := SL.ext E94
                have tz_SL := Nat.le_trans tz_SL E94.1
                have hE := A94
                have hL : Fld Z h94 b94 "com/example/shelfkey/shelfkey/http/Pem$Block" "label" "Ljava/lang/String;" .null := D94 (Or.inr (hw _ (List.mem_of_getElem? (i := 47) rfl))) (ty := (.object "java/lang/String")) (by decide)
                have hN : Fld Z h94 b94 "com/example/shelfkey/shelfkey/http/Pem$Block" "encrypted" "Z" (.int 0) := D94 (Or.inr (hw _ (List.mem_of_getElem? (i := 49) rfl))) (ty := .boolean) (by decide)
                have hC : Fld Z h94 b94 "com/example/shelfkey/shelfkey/http/Pem$Block" "contents" "[B" .null := D94 (Or.inr (hw _ (List.mem_of_getElem? (i := 51) rfl))) (ty := (.array .byte)) (by decide)
                refine o_dup X94 hx (pc' := 496) (hb hby at_495) rfl rfl ?_
                refine o_aload X94 hx (pc' := 498) (hb hby at_496) rfl rfl rfl ?_
                refine o_iload X94 hx (pc' := 500) (hb hby at_498) rfl rfl ?_
                refine o_iconst X94 hx (pc' := 501) (v := (0 : Int32)) (hb hby at_500) rfl rfl ?_
                refine o_newarray X94 hx hZ e94 (hw _ (List.mem_of_getElem? (i := 3) rfl)) (hb hby at_501) (pc' := 503) rfl (by decide) 0 (by decide) (by decide) (by decide) (by decide) ?_
                intro T95 h95 b95 k95 g95 X95 e95 E95 V95
                have lt_b94_b95 : b94 < b95 := Nat.lt_of_lt_of_le hL.lt (Nat.le_of_eq g95.symm)
                have ne_b94_b95 : b94 ≠ b95 := Nat.ne_of_lt lt_b94_b95
                have g_b95 : n0 ≤ b95 := Nat.le_trans ZZ (Nat.le_of_eq g95.symm)
                have le_SL_b95 := Nat.le_trans tz_SL (Nat.le_of_eq g95.symm)
                have ZZ := Nat.le_trans ZZ E95.1
                have SW := SW.ext E95
                have O := O.ext E95
                have SL := SL.ext E95
                have tz_SL := Nat.le_trans tz_SL E95.1
                have hL := hL.ext E95
                have hN := hN.ext E95
                have hC := hC.ext E95
                have hE := hE.ext E95
                have hA : Arv Z h95 b95 k95 .byte (0 : Int32) [] (.int 0) := V95.pad (pad_rep [] _ 0)
                refine o_callI X95 hx hZ b94 [(.ref la93), (.int (0 : Int32)), (.ref b95)] (rmPB0 l Z a0 hw h95 n0 ZZ b94 la93 b95 hE hL hN hC g_b94) rfl hown (hw _ (List.mem_of_getElem? (i := 37) rfl)) (hw _ (List.mem_of_getElem? (i := 38) rfl)) (hw _ (List.mem_of_getElem? (i := 36) rfl)) (hw _ (List.mem_of_getElem? (i := 39) rfl)) (by decide) pd_16 e95 (by rw [hml]; rfl) rfl rfl rfl (hb hby at_503) (pc' := 506) rfl 1 (Nat.le_of_eq rfl) (by decide) (by decide) (by decide) (by decide) ?_
                intro T96 v96 L96 X96 hQ96
                obtain ⟨rfl, Nb, Kb, rE, rL, rN⟩ := hQ96
                have NN := Fr.app NN Nb
                have ZZ := Nat.le_trans ZZ Kb.1
                have SWo := SW
                have SW := SW.keep Kb (sfS (Safe.exa SW.2.1.alike hE (by decide) (by decide)) sf0)
                have O := O.keep Kb (by intro x hx; simp only [List.mem_cons, List.not_mem_nil, or_false] at hx; subst hx; exact g_b94)
                have SL := SL.keep Kb (own_one le_SL_b94)
                have tz_SL := Nat.le_trans tz_SL Kb.1
                have hE := hE.keep Kb
                have hE := rE
                have hL := rL
                have hN := rN
                show Dn p e below _ (T96.setTop (mkF m 506 #[.val (.int p1), .val (.int p2), .val (.int p3), .val (.int p4), .val (.int (0 : Int32)), .val (.ref la1), .val (.int c6), .val (.int (Int32.ofNat j)), .val (.ref b2), .val (.ref b24), .val (.int (p1 &&& (7 : Int32))), .val (.ref la93), .val (.int (0 : Int32)), .val (.int (0 : Int32))] [(.ref b94)]))
                refine o_callSS X96 hx (own_EW hw) SW [(.ref b94)] (rmIE0 l Z a0 hw T96.heap n0 ZZ b94 la93 [82, 83, 65, 32, 80, 82, 73, 86, 65, 84, 69, 32, 75, 69, 89] (by decide) _ hE hN hL SL cs0 S0 hcs O) hown (hw _ (List.mem_of_getElem? (i := 52) rfl)) (hw _ (List.mem_of_getElem? (i := 53) rfl)) (hw _ (List.mem_of_getElem? (i := 54) rfl)) (hw _ (List.mem_of_getElem? (i := 55) rfl)) (by decide) pd_17 rfl (by rw [hml]; rfl) rfl rfl rfl (hb hby at_506) (pc' := 509) rfl 0 (Nat.le_of_eq rfl) (by decide) (by decide) (by decide) (by decide) ?_
                intro T97 v97 L97 X97 hQ97 SW hown hC97
                have hZ := SW.2.1
                obtain ⟨rfl, Nc, Kc⟩ := hQ97
                have NN := Fr.app NN Nc
                have ZZ := Nat.le_trans ZZ Kc.1
                have O := O.keep Kc (fun x hx => nomatch hx)
                rw [if_neg (show ¬ [82, 83, 65, 32, 80, 82, 73, 86, 65, 84, 69, 32, 75, 69, 89] = TGT from (by decide +kernel))]
                show Dn p e below _ (T97.setTop (mkF m 509 #[.val (.int p1), .val (.int p2), .val (.int p3), .val (.int p4), .val (.int (0 : Int32)), .val (.ref la1), .val (.int c6), .val (.int (Int32.ofNat j)), .val (.ref b2), .val (.ref b24), .val (.int (p1 &&& (7 : Int32))), .val (.ref la93), .val (.int (0 : Int32)), .val (.int (0 : Int32))] [(.int (0 : Int32))]))
                refine o_iload X97 hx (pc' := 511) (hb hby at_509) rfl rfl ?_
                refine o_icmp_ne X97 hx (pc' := 514) (pt := 518) (hb hby at_511) rfl (by decide) (by decide) (fun q => absurd (by decide) q) (fun _ => ?_)
                refine o_iconst X97 hx (pc' := 515) (v := (1 : Int32)) (hb hby at_514) rfl rfl ?_
                refine o_goto X97 hx (pc' := 519) (hb hby at_515) (by decide) (by decide) ?_
                exact finSN X97 hx (own_EW hw) SW rfl hlk (t := .boolean) hret (by simp) (hb hby at_519) (by decide) (by decide) ⟨rfl, NN⟩
              · skip
                show Dn p e below _ (T93.setTop (mkF m 475 #[.val (.int p1), .val (.int p2), .val (.int p3), .val (.int p4), .val (.int (1 : Int32)), .val (.ref la1), .val (.int c6), .val (.int (Int32.ofNat j)), .val (.ref b2), .val (.ref b24), .val (.int (p1 &&& (7 : Int32))), .val (.ref la93), .val (.int (0 : Int32)), .unset] []))
                refine o_iload X93 hx (pc' := 477) (hb hby at_475) rfl rfl ?_
                refine o_if_ne X93 hx (pc' := 480) (pt := 485) (hb hby at_477) rfl (by decide) (by decide) (fun _ => ?_) (fun q => absurd q (by decide))
                refine o_iconst X93 hx (pc' := 486) (v := (1 : Int32)) (hb hby at_485) rfl rfl ?_
                refine o_goto X93 hx (pc' := 490) (hb hby at_486) (by decide) (by decide) ?_
                refine o_istore X93 hx (pc' := 492) (Ls' := #[.val (.int p1), .val (.int p2), .val (.int p3), .val (.int p4), .val (.int (1 : Int32)), .val (.ref la1), .val (.int c6), .val (.int (Int32.ofNat j)), .val (.ref b2), .val (.ref b24), .val (.int (p1 &&& (7 : Int32))), .val (.ref la93), .val (.int (0 : Int32)), .val (.int (1 : Int32))]) (hb hby at_490) rfl rfl ?_
                refine o_new X93 hx hZ hown (hw _ (List.mem_of_getElem? (i := 34) rfl)) (hw _ (List.mem_of_getElem? (i := 35) rfl)) (hw _ (List.mem_of_getElem? (i := 36) rfl)) e93 (hb hby at_492) (pc' := 495) rfl (by decide) (by decide) ?_
                intro T98 h98 b98 g98 X98 e98 E98 A98 D98
                have g_b98 : n0 ≤ b98 := Nat.le_trans ZZ (Nat.le_of_eq g98.symm)
                have le_SL_b98 := Nat.le_trans tz_SL (Nat.le_of_eq g98.symm)
                have ZZ := Nat.le_trans ZZ E98.1
                have SW := SW.ext E98
                have O := O.ext E98
                have SL := SL.ext E98
                have tz_SL := Nat.le_trans tz_SL E98.1
                have hE := A98
                have hL : Fld Z h98 b98 "com/example/shelfkey/shelfkey/http/Pem$Block" "label" "Ljava/lang/String;" .null := D98 (Or.inr (hw _ (List.mem_of_getElem? (i := 47) rfl))) (ty := (.object "java/lang/String")) (by decide)
                have hN : Fld Z h98 b98 "com/example/shelfkey/shelfkey/http/Pem$Block" "encrypted" "Z" (.int 0) := D98 (Or.inr (hw _ (List.mem_of_getElem? (i := 49) rfl))) (ty := .boolean) (by decide)
                have hC : Fld Z h98 b98 "com/example/shelfkey/shelfkey/http/Pem$Block" "contents" "[B" .null := D98 (Or.inr (hw _ (List.mem_of_getElem? (i := 51) rfl))) (ty := (.array .byte)) (by decide)
                refine o_dup X98 hx (pc' := 496) (hb hby at_495) rfl rfl ?_
                refine o_aload X98 hx (pc' := 498) (hb hby at_496) rfl rfl rfl ?_
                refine o_iload X98 hx (pc' := 500) (hb hby at_498) rfl rfl ?_
                refine o_iconst X98 hx (pc' := 501) (v := (0 : Int32)) (hb hby at_500) rfl rfl ?_
                refine o_newarray X98 hx hZ e98 (hw _ (List.mem_of_getElem? (i := 3) rfl)) (hb hby at_501) (pc' := 503) rfl (by decide) 0 (by decide) (by decide) (by decide) (by decide) ?_
                intro T99 h99 b99 k99 g99 X99 e99 E99 V99
                have lt_b98_b99 : b98 < b99 := Nat.lt_of_lt_of_le hL.lt (Nat.le_of_eq g99.symm)
                have ne_b98_b99 : b98 ≠ b99 := Nat.ne_of_lt lt_b98_b99
                have g_b99 : n0 ≤ b99 := Nat.le_trans ZZ (Nat.le_of_eq g99.symm)
                have le_SL_b99 := Nat.le_trans tz_SL (Nat.le_of_eq g99.symm)
                have ZZ := Nat.le_trans ZZ E99.1
                have SW := SW.ext E99
                have O := O.ext E99
                have SL := SL.ext E99
                have tz_SL := Nat.le_trans tz_SL E99.1
                have hL := hL.ext E99
                have hN := hN.ext E99
                have hC := hC.ext E99
                have hE := hE.ext E99
                have hA : Arv Z h99 b99 k99 .byte (0 : Int32) [] (.int 0) := V99.pad (pad_rep [] _ 0)
                refine o_callI X99 hx hZ b98 [(.ref la93), (.int (1 : Int32)), (.ref b99)] (rmPB1 l Z a0 hw h99 n0 ZZ b98 la93 b99 hE hL hN hC g_b98) rfl hown (hw _ (List.mem_of_getElem? (i := 37) rfl)) (hw _ (List.mem_of_getElem? (i := 38) rfl)) (hw _ (List.mem_of_getElem? (i := 36) rfl)) (hw _ (List.mem_of_getElem? (i := 39) rfl)) (by decide) pd_16 e99 (by rw [hml]; rfl) rfl rfl rfl (hb hby at_503) (pc' := 506) rfl 1 (Nat.le_of_eq rfl) (by decide) (by decide) (by decide) (by decide) ?_
                intro T100 v100 L100 X100 hQ100
                obtain ⟨rfl, Nb, Kb, rE, rL, rN⟩ := hQ100
                have NN := Fr.app NN Nb
                have ZZ := Nat.le_trans ZZ Kb.1
                have SWo := SW
                have SW := SW.keep Kb (sfS (Safe.exa SW.2.1.alike hE (by decide) (by decide)) sf0)
                have O := O.keep Kb (by intro x hx; simp only [List.mem_cons, List.not_mem_nil, or_false] at hx; subst hx; exact g_b98)
                have SL := SL.keep Kb (own_one le_SL_b98)
                have tz_SL := Nat.le_trans tz_SL Kb.1
                have hE := hE.keep Kb
                have hE := rE
                have hL := rL
                have hN := rN
                show Dn p e below _ (T100.setTop (mkF m 506 #[.val (.int p1), .val (.int p2), .val (.int p3), .val (.int p4), .val (.int (1 : Int32)), .val (.ref la1), .val (.int c6), .val (.int (Int32.ofNat j)), .val (.ref b2), .val (.ref b24), .val (.int (p1 &&& (7 : Int32))), .val (.ref la93), .val (.int (0 : Int32)), .val (.int (1 : Int32))] [(.ref b98)]))
                refine o_callSP X100 hx hZ [(.ref b98)] (rmIE1 l Z a0 hw T100.heap n0 ZZ b98 hE hN) hown (hw _ (List.mem_of_getElem? (i := 52) rfl)) (hw _ (List.mem_of_getElem? (i := 53) rfl)) (hw _ (List.mem_of_getElem? (i := 54) rfl)) (hw _ (List.mem_of_getElem? (i := 55) rfl)) (by decide) pd_17 rfl (by rw [hml]; rfl) rfl rfl rfl (hb hby at_506) (pc' := 509) rfl 0 (Nat.le_of_eq rfl) (by decide) (by decide) rfl rfl (by decide) (by decide) ?_
                intro T101 X101 e101
                show Dn p e below _ (T101.setTop (mkF m 509 #[.val (.int p1), .val (.int p2), .val (.int p3), .val (.int p4), .val (.int (1 : Int32)), .val (.ref la1), .val (.int c6), .val (.int (Int32.ofNat j)), .val (.ref b2), .val (.ref b24), .val (.int (p1 &&& (7 : Int32))), .val (.ref la93), .val (.int (0 : Int32)), .val (.int (1 : Int32))] [(.int (1 : Int32))]))
                refine o_iload X101 hx (pc' := 511) (hb hby at_509) rfl rfl ?_
                refine o_icmp_ne X101 hx (pc' := 514) (pt := 518) (hb hby at_511) rfl (by decide) (by decide) (fun q => absurd (by decide) q) (fun _ => ?_)
                refine o_iconst X101 hx (pc' := 515) (v := (1 : Int32)) (hb hby at_514) rfl rfl ?_
                refine o_goto X101 hx (pc' := 519) (hb hby at_515) (by decide) (by decide) ?_
                exact finSN X101 hx (own_EW hw) SW e101 hlk (t := .boolean) hret (by simp) (hb hby at_519) (by decide) (by decide) ⟨rfl, NN⟩
          · skip
            refine o_ldcR X46 hx hown (hw _ (List.mem_of_getElem? (i := 90) rfl)) (own_wS hw) e46 SW (own_EW hw) (by decide) (vs := (iv [80, 82, 73, 86, 65, 84, 69, 32, 75, 69, 89])) (z := (11 : Int32)) ⟨by decide, rfl⟩ (by decide) (by decide) 44 (by decide) (by decide) (by decide) (by decide) (hb hby at_372) (pc' := 374) rfl ?_
            intro la102 T102 h102 b102 k102 X102 e102 E102 SW hown hC102 lE102 lC102 lV102 lA102 hN102
            have hZ := SW.2.1
            have ZZ := Nat.le_trans ZZ E102.1
            have O := O.ext E102
            have S7 := S7.ext E102
            have tz_S7 := Nat.le_trans tz_S7 E102.1
            have hV := hV.ext E102
            have hW := hW.ext E102
            have SL : Str Z h102 h102.size la102 [80, 82, 73, 86, 65, 84, 69, 32, 75, 69, 89] := ⟨b102, k102, lE102.lt, lA102.lt, lE102, lV102, lC102, lA102⟩
            have tz_SL : h102.size ≤ h102.size := Nat.le_refl _
            refine o_astore X102 hx (pc' := 376) (Ls' := #[.val (.int p1), .val (.int p2), .val (.int p3), .val (.int p4), .val (.int en), .val (.ref la1), .val (.int c6), .val (.int (Int32.ofNat j)), .val (.ref b2), .val (.ref b24), .val (.int (p1 &&& (7 : Int32))), .val (.ref la102), .unset, .unset]) (hb hby at_374) rfl rfl rfl ?_
            refine o_iconst X102 hx (pc' := 377) (v := (0 : Int32)) (hb hby at_376) rfl rfl ?_
            refine o_istore X102 hx (pc' := 379) (Ls' := #[.val (.int p1), .val (.int p2), .val (.int p3), .val (.int p4), .val (.int en), .val (.ref la1), .val (.int c6), .val (.int (Int32.ofNat j)), .val (.ref b2), .val (.ref b24), .val (.int (p1 &&& (7 : Int32))), .val (.ref la102), .val (.int (0 : Int32)), .unset]) (hb hby at_377) rfl rfl ?_
            refine o_goto X102 hx (pc' := 475) (hb hby at_379) (by decide) (by decide) ?_
            rcases hen with rfl | rfl
            · skip
              show Dn p e below _ (T102.setTop (mkF m 475 #[.val (.int p1), .val (.int p2), .val (.int p3), .val (.int p4), .val (.int (0 : Int32)), .val (.ref la1), .val (.int c6), .val (.int (Int32.ofNat j)), .val (.ref b2), .val (.ref b24), .val (.int (p1 &&& (7 : Int32))), .val (.ref la102), .val (.int (0 : Int32)), .unset] []))
              refine o_iload X102 hx (pc' := 477) (hb hby at_475) rfl rfl ?_
              refine o_if_ne X102 hx (pc' := 480) (pt := 485) (hb hby at_477) rfl (by decide) (by decide) (fun q => absurd (by decide) q) (fun _ => ?_)
              refine o_iload X102 hx (pc' := 482) (hb hby at_480) rfl rfl ?_
              refine o_if_eq X102 hx (pc' := 485) (pt := 489) (hb hby at_482) rfl (by decide) (by decide) (fun _ => ?_) (fun q => absurd (by decide) q)
              refine o_iconst X102 hx (pc' := 490) (v := (0 : Int32)) (hb hby at_489) rfl rfl ?_
              refine o_istore X102 hx (pc' := 492) (Ls' := #[.val (.int p1), .val (.int p2), .val (.int p3), .val (.int p4), .val (.int (0 : Int32)), .val (.ref la1), .val (.int c6), .val (.int (Int32.ofNat j)), .val (.ref b2), .val (.ref b24), .val (.int (p1 &&& (7 : Int32))), .val (.ref la102), .val (.int (0 : Int32)), .val (.int (0 : Int32))]) (hb hby at_490) rfl rfl ?_
              refine o_new X102 hx hZ hown (hw _ (List.mem_of_getElem? (i := 34) rfl)) (hw _ (List.mem_of_getElem? (i := 35) rfl)) (hw _ (List.mem_of_getElem? (i := 36) rfl)) e102 (hb hby at_492) (pc' := 495) rfl (by decide) (by decide) ?_
              intro T103 h103 b103 g103 X103 e103 E103 A103 D103
              have g_b103 : n0 ≤ b103 := Nat.le_trans ZZ (Nat.le_of_eq g103.symm)
              have le_SL_b103 := Nat.le_trans tz_SL (Nat.le_of_eq g103.symm)
              have ZZ := Nat.le_trans ZZ E103.1
              have SW := SW.ext E103
              have O := O.ext E103
              have SL := SL.ext E103
              have tz_SL := Nat.le_trans tz_SL E103.1
              have hE := A103
              have hL : Fld Z h103 b103 "com/example/shelfkey/shelfkey/http/Pem$Block" "label" "Ljava/lang/String;" .null := D103 (Or.inr (hw _ (List.mem_of_getElem? (i := 47) rfl))) (ty := (.object "java/lang/String")) (by decide)
              have hN : Fld Z h103 b103 "com/example/shelfkey/shelfkey/http/Pem$Block" "encrypted" "Z" (.int 0) := D103 (Or.inr (hw _ (List.mem_of_getElem? (i := 49) rfl))) (ty := .boolean) (by decide)
              have hC : Fld Z h103 b103 "com/example/shelfkey/shelfkey/http/Pem$Block" "contents" "[B" .null := D103 (Or.inr (hw _ (List.mem_of_getElem? (i := 51) rfl))) (ty := (.array .byte)) (by decide)
              refine o_dup X103 hx (pc' := 496) (hb hby at_495) rfl rfl ?_
              refine o_aload X103 hx (pc' := 498) (hb hby at_496) rfl rfl rfl ?_
              refine o_iload X103 hx (pc' := 500) (hb hby at_498) rfl rfl ?_
              refine o_iconst X103 hx (pc' := 501) (v := (0 : Int32)) (hb hby at_500) rfl rfl ?_
              refine o_newarray X103 hx hZ e103 (hw _ (List.mem_of_getElem? (i := 3) rfl)) (hb hby at_501) (pc' := 503) rfl (by decide) 0 (by decide) (by decide) (by decide) (by decide) ?_
              intro T104 h104 b104 k104 g104 X104 e104 E104 V104
              have lt_b103_b104 : b103 < b104 := Nat.lt_of_lt_of_le hL.lt (Nat.le_of_eq g104.symm)
              have ne_b103_b104 : b103 ≠ b104 := Nat.ne_of_lt lt_b103_b104
              have g_b104 : n0 ≤ b104 := Nat.le_trans ZZ (Nat.le_of_eq g104.symm)
              have le_SL_b104 := Nat.le_trans tz_SL (Nat.le_of_eq g104.symm)
              have ZZ := Nat.le_trans ZZ E104.1
              have SW := SW.ext E104
              have O := O.ext E104
              have SL := SL.ext E104
              have tz_SL := Nat.le_trans tz_SL E104.1
              have hL := hL.ext E104
              have hN := hN.ext E104
              have hC := hC.ext E104
              have hE := hE.ext E104
              have hA : Arv Z h104 b104 k104 .byte (0 : Int32) [] (.int 0) := V104.pad (pad_rep [] _ 0)
              refine o_callI X104 hx hZ b103 [(.ref la102), (.int (0 : Int32)), (.ref b104)] (rmPB0 l Z a0 hw h104 n0 ZZ b103 la102 b104 hE hL hN hC g_b103) rfl hown (hw _ (List.mem_of_getElem? (i := 37) rfl)) (hw _ (List.mem_of_getElem? (i := 38) rfl)) (hw _ (List.mem_of_getElem? (i := 36) rfl)) (hw _ (List.mem_of_getElem? (i := 39) rfl)) (by decide) pd_16 e104 (by rw [hml]; rfl) rfl rfl rfl (hb hby at_503) (pc' := 506) rfl 1 (Nat.le_of_eq rfl) (by decide) (by decide) (by decide) (by decide) ?_
              intro T105 v105 L105 X105 hQ105
              obtain ⟨rfl, Nb, Kb, rE, rL, rN⟩ := hQ105
              have NN := Fr.app NN Nb
              have ZZ := Nat.le_trans ZZ Kb.1
              have SWo := SW
              have SW := SW.keep Kb (sfS (Safe.exa SW.2.1.alike hE (by decide) (by decide)) sf0)
              have O := O.keep Kb (by intro x hx; simp only [List.mem_cons, List.not_mem_nil, or_false] at hx; subst hx; exact g_b103)
              have SL := SL.keep Kb (own_one le_SL_b103)
              have tz_SL := Nat.le_trans tz_SL Kb.1
              have hE := hE.keep Kb
              have hE := rE
              have hL := rL
              have hN := rN
              show Dn p e below _ (T105.setTop (mkF m 506 #[.val (.int p1), .val (.int p2), .val (.int p3), .val (.int p4), .val (.int (0 : Int32)), .val (.ref la1), .val (.int c6), .val (.int (Int32.ofNat j)), .val (.ref b2), .val (.ref b24), .val (.int (p1 &&& (7 : Int32))), .val (.ref la102), .val (.int (0 : Int32)), .val (.int (0 : Int32))] [(.ref b103)]))
              refine o_callSS X105 hx (own_EW hw) SW [(.ref b103)] (rmIE0 l Z a0 hw T105.heap n0 ZZ b103 la102 [80, 82, 73, 86, 65, 84, 69, 32, 75, 69, 89] (by decide) _ hE hN hL SL cs0 S0 hcs O) hown (hw _ (List.mem_of_getElem? (i := 52) rfl)) (hw _ (List.mem_of_getElem? (i := 53) rfl)) (hw _ (List.mem_of_getElem? (i := 54) rfl)) (hw _ (List.mem_of_getElem? (i := 55) rfl)) (by decide) pd_17 rfl (by rw [hml]; rfl) rfl rfl rfl (hb hby at_506) (pc' := 509) rfl 0 (Nat.le_of_eq rfl) (by decide) (by decide) (by decide) (by decide) ?_
              intro T106 v106 L106 X106 hQ106 SW hown hC106
              have hZ := SW.2.1
              obtain ⟨rfl, Nc, Kc⟩ := hQ106
              have NN := Fr.app NN Nc
              have ZZ := Nat.le_trans ZZ Kc.1
              have O := O.keep Kc (fun x hx => nomatch hx)
              rw [if_neg (show ¬ [80, 82, 73, 86, 65, 84, 69, 32, 75, 69, 89] = TGT from (by decide +kernel))]
              show Dn p e below _ (T106.setTop (mkF m 509 #[.val (.int p1), .val (.int p2), .val (.int p3), .val (.int p4), .val (.int (0 : Int32)), .val (.ref la1), .val (.int c6), .val (.int (Int32.ofNat j)), .val (.ref b2), .val (.ref b24), .val (.int (p1 &&& (7 : Int32))), .val (.ref la102), .val (.int (0 : Int32)), .val (.int (0 : Int32))] [(.int (0 : Int32))]))
              refine o_iload X106 hx (pc' := 511) (hb hby at_509) rfl rfl ?_
              refine o_icmp_ne X106 hx (pc' := 514) (pt := 518) (hb hby at_511) rfl (by decide) (by decide) (fun q => absurd (by decide) q) (fun _ => ?_)
              refine o_iconst X106 hx (pc' := 515) (v := (1 : Int32)) (hb hby at_514) rfl rfl ?_
              refine o_goto X106 hx (pc' := 519) (hb hby at_515) (by decide) (by decide) ?_
              exact finSN X106 hx (own_EW hw) SW rfl hlk (t := .boolean) hret (by simp) (hb hby at_519) (by decide) (by decide) ⟨rfl, NN⟩
            · skip
              show Dn p e below _ (T102.setTop (mkF m 475 #[.val (.int p1), .val (.int p2), .val (.int p3), .val (.int p4), .val (.int (1 : Int32)), .val (.ref la1), .val (.int c6), .val (.int (Int32.ofNat j)), .val (.ref b2), .val (.ref b24), .val (.int (p1 &&& (7 : Int32))), .val (.ref la102), .val (.int (0 : Int32)), .unset] []))
              refine o_iload X102 hx (pc' := 477) (hb hby at_475) rfl rfl ?_
              refine o_if_ne X102 hx (pc' := 480) (pt := 485) (hb hby at_477) rfl (by decide) (by decide) (fun _ => ?_) (fun q => absurd q (by decide))
              refine o_iconst X102 hx (pc' := 486) (v := (1 : Int32)) (hb hby at_485) rfl rfl ?_
              refine o_goto X102 hx (pc' := 490) (hb hby at_486) (by decide) (by decide) ?_
              refine o_istore X102 hx (pc' := 492) (Ls' := #[.val (.int p1), .val (.int p2), .val (.int p3), .val (.int p4), .val (.int (1 : Int32)), .val (.ref la1), .val (.int c6), .val (.int (Int32.ofNat j)), .val (.ref b2), .val (.ref b24), .val (.int (p1 &&& (7 : Int32))), .val (.ref la102), .val (.int (0 : Int32)), .val (.int (1 : Int32))]) (hb hby at_490) rfl rfl ?_
              refine o_new X102 hx hZ hown (hw _ (List.mem_of_getElem? (i := 34) rfl)) (hw _ (List.mem_of_getElem? (i := 35) rfl)) (hw _ (List.mem_of_getElem? (i := 36) rfl)) e102 (hb hby at_492) (pc' := 495) rfl (by decide) (by decide) ?_
              intro T107 h107 b107 g107 X107 e107 E107 A107 D107
              have g_b107 : n0 ≤ b107 := Nat.le_trans ZZ (Nat.le_of_eq g107.symm)
              have le_SL_b107 := Nat.le_trans tz_SL (Nat.le_of_eq g107.symm)
              have ZZ := Nat.le_trans ZZ E107.1
              have SW := SW.ext E107
              have O := O.ext E107
              have SL := SL.ext E107
              have tz_SL := Nat.le_trans tz_SL E107.1
              have hE := A107
              have hL : Fld Z h107 b107 "com/example/shelfkey/shelfkey/http/Pem$Block" "label" "Ljava/lang/String;" .null := D107 (Or.inr (hw _ (List.mem_of_getElem? (i := 47) rfl))) (ty := (.object "java/lang/String")) (by decide)
              have hN : Fld Z h107 b107 "com/example/shelfkey/shelfkey/http/Pem$Block" "encrypted" "Z" (.int 0) := D107 (Or.inr (hw _ (List.mem_of_getElem? (i := 49) rfl))) (ty := .boolean) (by decide)
              have hC : Fld Z h107 b107 "com/example/shelfkey/shelfkey/http/Pem$Block" "contents" "[B" .null := D107 (Or.inr (hw _ (List.mem_of_getElem? (i := 51) rfl))) (ty := (.array .byte)) (by decide)
              refine o_dup X107 hx (pc' := 496) (hb hby at_495) rfl rfl ?_
              refine o_aload X107 hx (pc' := 498) (hb hby at_496) rfl rfl rfl ?_
              refine o_iload X107 hx (pc' := 500) (hb hby at_498) rfl rfl ?_
              refine o_iconst X107 hx (pc' := 501) (v := (0 : Int32)) (hb hby at_500) rfl rfl ?_
              refine o_newarray X107 hx hZ e107 (hw _ (List.mem_of_getElem? (i := 3) rfl)) (hb hby at_501) (pc' := 503) rfl (by decide) 0 (by decide) (by decide) (by decide) (by decide) ?_
              intro T108 h108 b108 k108 g108 X108 e108 E108 V108
              have lt_b107_b108 : b107 < b108 := Nat.lt_of_lt_of_le hL.lt (Nat.le_of_eq g108.symm)
              have ne_b107_b108 : b107 ≠ b108 := Nat.ne_of_lt lt_b107_b108
              have g_b108 : n0 ≤ b108 := Nat.le_trans ZZ (Nat.le_of_eq g108.symm)
              have le_SL_b108 := Nat.le_trans tz_SL (Nat.le_of_eq g108.symm)
              have ZZ := Nat.le_trans ZZ E108.1
              have SW := SW.ext E108
              have O := O.ext E108
              have SL := SL.ext E108
              have tz_SL := Nat.le_trans tz_SL E108.1
              have hL := hL.ext E108
              have hN := hN.ext E108
              have hC := hC.ext E108
              have hE := hE.ext E108
              have hA : Arv Z h108 b108 k108 .byte (0 : Int32) [] (.int 0) := V108.pad (pad_rep [] _ 0)
              refine o_callI X108 hx hZ b107 [(.ref la102), (.int (1 : Int32)), (.ref b108)] (rmPB1 l Z a0 hw h108 n0 ZZ b107 la102 b108 hE hL hN hC g_b107) rfl hown (hw _ (List.mem_of_getElem? (i := 37) rfl)) (hw _ (List.mem_of_getElem? (i := 38) rfl)) (hw _ (List.mem_of_getElem? (i := 36) rfl)) (hw _ (List.mem_of_getElem? (i := 39) rfl)) (by decide) pd_16 e108 (by rw [hml]; rfl) rfl rfl rfl (hb hby at_503) (pc' := 506) rfl 1 (Nat.le_of_eq rfl) (by decide) (by decide) (by decide) (by decide) ?_
              intro T109 v109 L109 X109 hQ109
              obtain ⟨rfl, Nb, Kb, rE, rL, rN⟩ := hQ109
              have NN := Fr.app NN Nb
              have ZZ := Nat.le_trans ZZ Kb.1
              have SWo := SW
              have SW := SW.keep Kb (sfS (Safe.exa SW.2.1.alike hE (by decide) (by decide)) sf0)
              have O := O.keep Kb (by intro x hx; simp only [List.mem_cons, List.not_mem_nil, or_false] at hx; subst hx; exact g_b107)
              have SL := SL.keep Kb (own_one le_SL_b107)
              have tz_SL := Nat.le_trans tz_SL Kb.1
              have hE := hE.keep Kb
              have hE := rE
              have hL := rL
              have hN := rN
              show Dn p e below _ (T109.setTop (mkF m 506 #[.val (.int p1), .val (.int p2), .val (.int p3), .val (.int p4), .val (.int (1 : Int32)), .val (.ref la1), .val (.int c6), .val (.int (Int32.ofNat j)), .val (.ref b2), .val (.ref b24), .val (.int (p1 &&& (7 : Int32))), .val (.ref la102), .val (.int (0 : Int32)), .val (.int (1 : Int32))] [(.ref b107)]))
              refine o_callSP X109 hx hZ [(.ref b107)] (rmIE1 l Z a0 hw T109.heap n0 ZZ b107 hE hN) hown (hw _ (List.mem_of_getElem? (i := 52) rfl)) (hw _ (List.mem_of_getElem? (i := 53) rfl)) (hw _ (List.mem_of_getElem? (i := 54) rfl)) (hw _ (List.mem_of_getElem? (i := 55) rfl)) (by decide) pd_17 rfl (by rw [hml]; rfl) rfl rfl rfl (hb hby at_506) (pc' := 509) rfl 0 (Nat.le_of_eq rfl) (by decide) (by decide) rfl rfl (by decide) (by decide) ?_
              intro T110 X110 e110
              show Dn p e below _ (T110.setTop (mkF m 509 #[.val (.int p1), .val (.int p2), .val (.int p3), .val (.int p4), .val (.int (1 : Int32)), .val (.ref la1), .val (.int c6), .val (.int (Int32.ofNat j)), .val (.ref b2), .val (.ref b24), .val (.int (p1 &&& (7 : Int32))), .val (.ref la102), .val (.int (0 : Int32)), .val (.int (1 : Int32))] [(.int (1 : Int32))]))
              refine o_iload X110 hx (pc' := 511) (hb hby at_509) rfl rfl ?_
              refine o_icmp_ne X110 hx (pc' := 514) (pt := 518) (hb hby at_511) rfl (by decide) (by decide) (fun q => absurd (by decide) q) (fun _ => ?_)
              refine o_iconst X110 hx (pc' := 515) (v := (1 : Int32)) (hb hby at_514) rfl rfl ?_
              refine o_goto X110 hx (pc' := 519) (hb hby at_515) (by decide) (by decide) ?_
              exact finSN X110 hx (own_EW hw) SW e110 hlk (t := .boolean) hret (by simp) (hb hby at_519) (by decide) (by decide) ⟨rfl, NN⟩
        · skip
          refine o_aload X46 hx (pc' := 328) (hb hby at_326) rfl rfl rfl ?_
          refine o_iload X46 hx (pc' := 330) (hb hby at_328) rfl rfl ?_
          refine o_iload X46 hx (pc' := 332) (hb hby at_330) rfl rfl ?_
          refine o_castore X46 hx hZ e46 hV ⟨own_nn hj2, hjl⟩ j (own_ci hj2) (by rw [iv_len, own_tgt.2.2]; exact hj) (hb hby at_332) (pc' := 333) rfl ?_
          intro T111 h111 X111 e111 W111 V111
          have NN := Fr.snoc X111 NN g_b2
          have ZZ := Nat.le_trans ZZ (Keep.of_wr W111).1
          have SWo := SW
          have SW := SW.wr W111 (Safe.arv SW.2.1.alike hV (by decide))
          have O := O.wr W111 g_b2
          have S7 := S7.keep (Keep.of_wr W111) (own_one le_S7_b2)
          have tz_S7 := Nat.le_trans tz_S7 (Keep.of_wr W111).1
          have hW := hW.other W111 ne_b2_b24.symm
          have hV : Arv Z h111 b2 k2 .char (21 : Int32) (iv (TGT.set j c6)) (.int 0) := by
              have q := V111
              rw [hch.nar, iv_set] at q
              exact q
          refine o_new X111 hx hZ hown (hw _ (List.mem_of_getElem? (i := 10) rfl)) (hw _ (List.mem_of_getElem? (i := 2) rfl)) (hw _ (List.mem_of_getElem? (i := 1) rfl)) e111 (hb hby at_333) (pc' := 336) rfl (by decide) (by decide) ?_
          intro T112 h112 b112 g112 X112 e112 E112 A112 D112
          have lt_b2_b112 : b2 < b112 := Nat.lt_of_lt_of_le hV.lt (Nat.le_of_eq g112.symm)
          have ne_b2_b112 : b2 ≠ b112 := Nat.ne_of_lt lt_b2_b112
          have lt_b24_b112 : b24 < b112 := Nat.lt_of_lt_of_le hW.lt (Nat.le_of_eq g112.symm)
          have ne_b24_b112 : b24 ≠ b112 := Nat.ne_of_lt lt_b24_b112
          have g_b112 : n0 ≤ b112 := Nat.le_trans ZZ (Nat.le_of_eq g112.symm)
          have le_S7_b112 := Nat.le_trans tz_S7 (Nat.le_of_eq g112.symm)
          have ZZ := Nat.le_trans ZZ E112.1
          have SW := SW.ext E112
          have O := O.ext E112
          have S7 := S7.ext E112
          have tz_S7 := Nat.le_trans tz_S7 E112.1
          have hV := hV.ext E112
          have hW := hW.ext E112
          have hE0 := A112
          have hVa : Fld Z h112 b112 "java/lang/String" "value" "[B" .null := D112 (Or.inr (hw _ (List.mem_of_getElem? (i := 4) rfl))) (ty := (.array .byte)) (by decide)
          have hCo : Fld Z h112 b112 "java/lang/String" "coder" "B" (.int 0) := D112 (Or.inr (hw _ (List.mem_of_getElem? (i := 5) rfl))) (ty := .byte) (by decide)
          refine o_dup X112 hx (pc' := 337) (hb hby at_336) rfl rfl ?_
          refine o_aload X112 hx (pc' := 339) (hb hby at_337) rfl rfl rfl ?_
          have hVc : Arv Z h112 b2 k2 .char (Int32.ofNat (TGT.set j c6).length) (iv (TGT.set j c6)) (.int 0) := by rw [own_sl]; exact hV
          refine o_callI X112 hx hZ b112 [(.ref b2)] (rmSI2 l Z a0 hw h112 n0 ZZ b112 b2 (TGT.set j c6) (own_set hch hj) (by rw [own_sl]; decide) (by rw [own_sl]; decide) k2 _ hVc _ _ hE0 hVa hCo g_b112 ne_b2_b112.symm cs0 S0 hcs O) rfl hown (hw _ (List.mem_of_getElem? (i := 11) rfl)) (hw _ (List.mem_of_getElem? (i := 12) rfl)) (hw _ (List.mem_of_getElem? (i := 1) rfl)) (hw _ (List.mem_of_getElem? (i := 13) rfl)) (by decide) pd_18 e112 (by rw [hml]; rfl) rfl rfl rfl (hb hby at_339) (pc' := 342) rfl 1 (Nat.le_of_eq rfl) (by decide) (by decide) (by decide) (by decide) ?_
          intro T113 v113 L113 X113 hQ113
          obtain ⟨rfl, Nq, Kq, SL⟩ := hQ113
          have NN := Fr.app NN Nq
          have ZZ := Nat.le_trans ZZ Kq.1
          have SWo := SW
          have SW := SW.keep Kq (sfS (own_safe SW.2.1.alike hE0 hVa) sf0)
          have O := O.keep Kq (by intro x hx; simp only [List.mem_cons, List.not_mem_nil, or_false] at hx; subst hx; exact g_b112)
          have S7 := S7.keep Kq (own_one le_S7_b112)
          have tz_S7 := Nat.le_trans tz_S7 Kq.1
          have tz_SL : T113.heap.size ≤ T113.heap.size := Nat.le_refl _
          show Dn p e below _ (T113.setTop (mkF m 342 #[.val (.int p1), .val (.int p2), .val (.int p3), .val (.int p4), .val (.int en), .val (.ref la1), .val (.int c6), .val (.int (Int32.ofNat j)), .val (.ref b2), .val (.ref b24), .val (.int (p1 &&& (7 : Int32))), .unset, .unset, .unset] [(.ref b112)]))
          refine o_astore X113 hx (pc' := 344) (Ls' := #[.val (.int p1), .val (.int p2), .val (.int p3), .val (.int p4), .val (.int en), .val (.ref la1), .val (.int c6), .val (.int (Int32.ofNat j)), .val (.ref b2), .val (.ref b24), .val (.int (p1 &&& (7 : Int32))), .val (.ref b112), .unset, .unset]) (hb hby at_342) rfl rfl rfl ?_
          refine o_iload X113 hx (pc' := 346) (hb hby at_344) rfl rfl ?_
          refine o_aload X113 hx (pc' := 348) (hb hby at_346) rfl rfl rfl ?_
          refine o_iload X113 hx (pc' := 350) (hb hby at_348) rfl rfl ?_
          refine o_callVP X113 hx hZ la1 [(.int (Int32.ofNat j))] (rmCA2 l Z a0 hw T113.heap n0 ZZ la1 (Int32.ofNat j) j rfl TGT (by decide) (by rw [own_tgt.2.2]; exact hj) _ S7 (TGT.getD j 0) (own_tn ⟨j, hj⟩) cs0 S0 hcs O vf SF0 hvf) hown (hw _ (List.mem_of_getElem? (i := 91) rfl)) (hw _ (List.mem_of_getElem? (i := 92) rfl)) (hw _ (List.mem_of_getElem? (i := 94) rfl)) (hw _ (List.mem_of_getElem? (i := 93) rfl)) (hw _ (List.mem_of_getElem? (i := 1) rfl)) (hw _ (List.mem_of_getElem? (i := 95) rfl)) (by decide) S7.exa pd_19 rfl (by rw [hml]; rfl) rfl rfl rfl (hb hby at_350) (pc' := 353) rfl 1 (Nat.le_of_eq rfl) (by decide) (by decide) rfl rfl (by decide) (by decide) ?_
          intro T114 X114 e114
          show Dn p e below _ (T114.setTop (mkF m 353 #[.val (.int p1), .val (.int p2), .val (.int p3), .val (.int p4), .val (.int en), .val (.ref la1), .val (.int c6), .val (.int (Int32.ofNat j)), .val (.ref b2), .val (.ref b24), .val (.int (p1 &&& (7 : Int32))), .val (.ref b112), .unset, .unset] [(.int (TGT.getD j 0)), (.int c6)]))
          refine o_icmp_ne X114 hx (pc' := 356) (pt := 360) (hb hby at_353) rfl (by decide) (by decide) (fun hc353 => ?_) (fun hc353 => ?_)
          · skip
            refine o_iconst X114 hx (pc' := 361) (v := (0 : Int32)) (hb hby at_360) rfl rfl ?_
            refine o_istore X114 hx (pc' := 363) (Ls' := #[.val (.int p1), .val (.int p2), .val (.int p3), .val (.int p4), .val (.int en), .val (.ref la1), .val (.int c6), .val (.int (Int32.ofNat j)), .val (.ref b2), .val (.ref b24), .val (.int (p1 &&& (7 : Int32))), .val (.ref b112), .val (.int (0 : Int32)), .unset]) (hb hby at_361) rfl rfl ?_
            refine o_goto X114 hx (pc' := 475) (hb hby at_363) (by decide) (by decide) ?_
            rcases hen with rfl | rfl
            · skip
              show Dn p e below _ (T114.setTop (mkF m 475 #[.val (.int p1), .val (.int p2), .val (.int p3), .val (.int p4), .val (.int (0 : Int32)), .val (.ref la1), .val (.int c6), .val (.int (Int32.ofNat j)), .val (.ref b2), .val (.ref b24), .val (.int (p1 &&& (7 : Int32))), .val (.ref b112), .val (.int (0 : Int32)), .unset] []))
              refine o_iload X114 hx (pc' := 477) (hb hby at_475) rfl rfl ?_
              refine o_if_ne X114 hx (pc' := 480) (pt := 485) (hb hby at_477) rfl (by decide) (by decide) (fun q => absurd (by decide) q) (fun _ => ?_)
              refine o_iload X114 hx (pc' := 482) (hb hby at_480) rfl rfl ?_
              refine o_if_eq X114 hx (pc' := 485) (pt := 489) (hb hby at_482) rfl (by decide) (by decide) (fun _ => ?_) (fun q => absurd (by decide) q)
              refine o_iconst X114 hx (pc' := 490) (v := (0 : Int32)) (hb hby at_489) rfl rfl ?_
              refine o_istore X114 hx (pc' := 492) (Ls' := #[.val (.int p1), .val (.int p2), .val (.int p3), .val (.int p4), .val (.int (0 : Int32)), .val (.ref la1), .val (.int c6), .val (.int (Int32.ofNat j)), .val (.ref b2), .val (.ref b24), .val (.int (p1 &&& (7 : Int32))), .val (.ref b112), .val (.int (0 : Int32)), .val (.int (0 : Int32))]) (hb hby at_490) rfl rfl ?_
              refine o_new X114 hx hZ hown (hw _ (List.mem_of_getElem? (i := 34) rfl)) (hw _ (List.mem_of_getElem? (i := 35) rfl)) (hw _ (List.mem_of_getElem? (i := 36) rfl)) e114 (hb hby at_492) (pc' := 495) rfl (by decide) (by decide) ?_
              intro T115 h115 b115 g115 X115 e115 E115 A115 D115
              have g_b115 : n0 ≤ b115 := Nat.le_trans ZZ (Nat.le_of_eq g115.symm)
              have le_SL_b115 := Nat.le_trans tz_SL (Nat.le_of_eq g115.symm)
              have ZZ := Nat.le_trans ZZ E115.1
              have SW := SW.ext E115
              have O := O.ext E115
              have SL := SL.ext E115
              have tz_SL := Nat.le_trans tz_SL E115.1
              have hE := A115
              have hL : Fld Z h115 b115 "com/example/shelfkey/shelfkey/http/Pem$Block" "label" "Ljava/lang/String;" .null := D115 (Or.inr (hw _ (List.mem_of_getElem? (i := 47) rfl))) (ty := (.object "java/lang/String")) (by decide)
              have hN : Fld Z h115 b115 "com/example/shelfkey/shelfkey/http/Pem$Block" "encrypted" "Z" (.int 0) := D115 (Or.inr (hw _ (List.mem_of_getElem? (i := 49) rfl))) (ty := .boolean) (by decide)
              have hC : Fld Z h115 b115 "com/example/shelfkey/shelfkey/http/Pem$Block" "contents" "[B" .null := D115 (Or.inr (hw _ (List.mem_of_getElem? (i := 51) rfl))) (ty := (.array .byte)) (by decide)
              refine o_dup X115 hx (pc' := 496) (hb hby at_495) rfl rfl ?_
              refine o_aload X115 hx (pc' := 498) (hb hby at_496) rfl rfl rfl ?_
              refine o_iload X115 hx (pc' := 500) (hb hby at_498) rfl rfl ?_
              refine o_iconst X115 hx (pc' := 501) (v := (0 : Int32)) (hb hby at_500) rfl rfl ?_
              refine o_newarray X115 hx hZ e115 (hw _ (List.mem_of_getElem? (i := 3) rfl)) (hb hby at_501) (pc' := 503) rfl (by decide) 0 (by decide) (by decide) (by decide) (by decide) ?_
              intro T116 h116 b116 k116 g116 X116 e116 E116 V116
              have lt_b115_b116 : b115 < b116 := Nat.lt_of_lt_of_le hL.lt (Nat.le_of_eq g116.symm)
              have ne_b115_b116 : b115 ≠ b116 := Nat.ne_of_lt lt_b115_b116
              have g_b116 : n0 ≤ b116 := Nat.le_trans ZZ (Nat.le_of_eq g116.symm)
              have le_SL_b116 := Nat.le_trans tz_SL (Nat.le_of_eq g116.symm)
              have ZZ := Nat.le_trans ZZ E116.1
              have SW := SW.ext E116
              have O := O.ext E116
              have SL := SL.ext E116
              have tz_SL := Nat.le_trans tz_SL E116.1
              have hL := hL.ext E116
              have hN := hN.ext E116
              have hC := hC.ext E116
              have hE := hE.ext E116
              have hA : Arv Z h116 b116 k116 .byte (0 : Int32) [] (.int 0) := V116.pad (pad_rep [] _ 0)
              refine o_callI X116 hx hZ b115 [(.ref b112), (.int (0 : Int32)), (.ref b116)] (rmPB0 l Z a0 hw h116 n0 ZZ b115 b112 b116 hE hL hN hC g_b115) rfl hown (hw _ (List.mem_of_getElem? (i := 37) rfl)) (hw _ (List.mem_of_getElem? (i := 38) rfl)) (hw _ (List.mem_of_getElem? (i := 36) rfl)) (hw _ (List.mem_of_getElem? (i := 39) rfl)) (by decide) pd_16 e116 (by rw [hml]; rfl) rfl rfl rfl (hb hby at_503) (pc' := 506) rfl 1 (Nat.le_of_eq rfl) (by decide) (by decide) (by decide) (by decide) ?_
              intro T117 v117 L117 X117 hQ117
              obtain ⟨rfl, Nb, Kb, rE, rL, rN⟩ := hQ117
              have NN := Fr.app NN Nb
              have ZZ := Nat.le_trans ZZ Kb.1
              have SWo := SW
              have SW := SW.keep Kb (sfS (Safe.exa SW.2.1.alike hE (by decide) (by decide)) sf0)
              have O := O.keep Kb (by intro x hx; simp only [List.mem_cons, List.not_mem_nil, or_false] at hx; subst hx; exact g_b115)
              have SL := SL.keep Kb (own_one le_SL_b115)
              have tz_SL := Nat.le_trans tz_SL Kb.1
              have hE := hE.keep Kb
              have hE := rE
              have hL := rL
              have hN := rN
              show Dn p e below _ (T117.setTop (mkF m 506 #[.val (.int p1), .val (.int p2), .val (.int p3), .val (.int p4), .val (.int (0 : Int32)), .val (.ref la1), .val (.int c6), .val (.int (Int32.ofNat j)), .val (.ref b2), .val (.ref b24), .val (.int (p1 &&& (7 : Int32))), .val (.ref b112), .val (.int (0 : Int32)), .val (.int (0 : Int32))] [(.ref b115)]))
              refine o_callSS X117 hx (own_EW hw) SW [(.ref b115)] (rmIE0 l Z a0 hw T117.heap n0 ZZ b115 b112 ((TGT.set j c6).map own_b) (by rw [List.length_map, own_sl]; decide) _ hE hN hL SL cs0 S0 hcs O) hown (hw _ (List.mem_of_getElem? (i := 52) rfl)) (hw _ (List.mem_of_getElem? (i := 53) rfl)) (hw _ (List.mem_of_getElem? (i := 54) rfl)) (hw _ (List.mem_of_getElem? (i := 55) rfl)) (by decide) pd_17 rfl (by rw [hml]; rfl) rfl rfl rfl (hb hby at_506) (pc' := 509) rfl 0 (Nat.le_of_eq rfl) (by decide) (by decide) (by decide) (by decide) ?_
              intro T118 v118 L118 X118 hQ118 SW hown hC118
              have hZ := SW.2.1
              obtain ⟨rfl, Nc, Kc⟩ := hQ118
              have NN := Fr.app NN Nc
              have ZZ := Nat.le_trans ZZ Kc.1
              have O := O.keep Kc (fun x hx => nomatch hx)
              rw [if_neg (show ¬ ((TGT.set j c6).map own_b) = TGT from (fun q => hc353 ((own_eqk hch hj).mp q)))]
              show Dn p e below _ (T118.setTop (mkF m 509 #[.val (.int p1), .val (.int p2), .val (.int p3), .val (.int p4), .val (.int (0 : Int32)), .val (.ref la1), .val (.int c6), .val (.int (Int32.ofNat j)), .val (.ref b2), .val (.ref b24), .val (.int (p1 &&& (7 : Int32))), .val (.ref b112), .val (.int (0 : Int32)), .val (.int (0 : Int32))] [(.int (0 : Int32))]))
              refine o_iload X118 hx (pc' := 511) (hb hby at_509) rfl rfl ?_
              refine o_icmp_ne X118 hx (pc' := 514) (pt := 518) (hb hby at_511) rfl (by decide) (by decide) (fun q => absurd (by decide) q) (fun _ => ?_)
              refine o_iconst X118 hx (pc' := 515) (v := (1 : Int32)) (hb hby at_514) rfl rfl ?_
              refine o_goto X118 hx (pc' := 519) (hb hby at_515) (by decide) (by decide) ?_
              exact finSN X118 hx (own_EW hw) SW rfl hlk (t := .boolean) hret (by simp) (hb hby at_519) (by decide) (by decide) ⟨rfl, NN⟩
            · skip
              show Dn p e below _ (T114.setTop (mkF m 475 #[.val (.int p1), .val (.int p2), .val (.int p3), .val (.int p4), .val (.int (1 : Int32)), .val (.ref la1), .val (.int c6), .val (.int (Int32.ofNat j)), .val (.ref b2), .val (.ref b24), .val (.int (p1 &&& (7 : Int32))), .val (.ref b112), .val (.int (0 : Int32)), .unset] []))
              refine o_iload X114 hx (pc' := 477) (hb hby at_475) rfl rfl ?_
              refine o_if_ne X114 hx (pc' := 480) (pt := 485) (hb hby at_477) rfl (by decide) (by decide) (fun _ => ?_) (fun q => absurd q (by decide))
              refine o_iconst X114 hx (pc' := 486) (v := (1 : Int32)) (hb hby at_485) rfl rfl ?_
              refine o_goto X114 hx (pc' := 490) (hb hby at_486) (by decide) (by decide) ?_
              refine o_istore X114 hx (pc' := 492) (Ls' := #[.val (.int p1), .val (.int p2), .val (.int p3), .val (.int p4), .val (.int (1 : Int32)), .val (.ref la1), .val (.int c6), .val (.int (Int32.ofNat j)), .val (.ref b2), .val (.ref b24), .val (.int (p1 &&& (7 : Int32))), .val (.ref b112), .val (.int (0 : Int32)), .val (.int (1 : Int32))]) (hb hby at_490) rfl rfl ?_
              refine o_new X114 hx hZ hown (hw _ (List.mem_of_getElem? (i := 34) rfl)) (hw _ (List.mem_of_getElem? (i := 35) rfl)) (hw _ (List.mem_of_getElem? (i := 36) rfl)) e114 (hb hby at_492) (pc' := 495) rfl (by decide) (by decide) ?_
              intro T119 h119 b119 g119 X119 e119 E119 A119 D119
              have g_b119 : n0 ≤ b119 := Nat.le_trans ZZ (Nat.le_of_eq g119.symm)
              have le_SL_b119 := Nat.le_trans tz_SL (Nat.le_of_eq g119.symm)
              have ZZ := Nat.le_trans ZZ E119.1
              have SW := SW.ext E119
              have O := O.ext E119
              have SL := SL.ext E119
              have tz_SL := Nat.le_trans tz_SL E119.1
              have hE := A119
              have hL : Fld Z h119 b119 "com/example/shelfkey/shelfkey/http/Pem$Block" "label" "Ljava/lang/String;" .null := D119 (Or.inr (hw _ (List.mem_of_getElem? (i := 47) rfl))) (ty := (.object "java/lang/String")) (by decide)
              have hN : Fld Z h119 b119 "com/example/shelfkey/shelfkey/http/Pem$Block" "encrypted" "Z" (.int 0) := D119 (Or.inr (hw _ (List.mem_of_getElem? (i := 49) rfl))) (ty := .boolean) (by decide)
              have hC : Fld Z h119 b119 "com/example/shelfkey/shelfkey/http/Pem$Block" "contents" "[B" .null := D119 (Or.inr (hw _ (List.mem_of_getElem? (i := 51) rfl))) (ty := (.array .byte)) (by decide)
              refine o_dup X119 hx (pc' := 496) (hb hby at_495) rfl rfl ?_
              refine o_aload X119 hx (pc' := 498) (hb hby at_496) rfl rfl rfl ?_
              refine o_iload X119 hx (pc' := 500) (hb hby at_498) rfl rfl ?_
              refine o_iconst X119 hx (pc' := 501) (v := (0 : Int32)) (hb hby at_500) rfl rfl ?_
              refine o_newarray X119 hx hZ e119 (hw _ (List.mem_of_getElem? (i := 3) rfl)) (hb hby at_501) (pc' := 503) rfl (by decide) 0 (by decide) (by decide) (by decide) (by decide) ?_
              intro T120 h120 b120 k120 g120 X120 e120 E120 V120
              have lt_b119_b120 : b119 < b120 := Nat.lt_of_lt_of_le hL.lt (Nat.le_of_eq g120.symm)
              have ne_b119_b120 : b119 ≠ b120 := Nat.ne_of_lt lt_b119_b120
              have g_b120 : n0 ≤ b120 := Nat.le_trans ZZ (Nat.le_of_eq g120.symm)
              have le_SL_b120 := Nat.le_trans tz_SL (Nat.le_of_eq g120.symm)
              have ZZ := Nat.le_trans ZZ E120.1
              have SW := SW.ext E120
              have O := O.ext E120
              have SL := SL.ext E120
              have tz_SL := Nat.le_trans tz_SL E120.1
              have hL := hL.ext E120
              have hN := hN.ext E120
              have hC := hC.ext E120
              have hE := hE.ext E120
              have hA : Arv Z h120 b120 k120 .byte (0 : Int32) [] (.int 0) := V120.pad (pad_rep [] _ 0)
              refine o_callI X120 hx hZ b119 [(.ref b112), (.int (1 : Int32)), (.ref b120)] (rmPB1 l Z a0 hw h120 n0 ZZ b119 b112 b120 hE hL hN hC g_b119) rfl hown (hw _ (List.mem_of_getElem? (i := 37) rfl)) (hw _ (List.mem_of_getElem? (i := 38) rfl)) (hw _ (List.mem_of_getElem? (i := 36) rfl)) (hw _ (List.mem_of_getElem? (i := 39) rfl)) (by decide) pd_16 e120 (by rw [hml]; rfl) rfl rfl rfl (hb hby at_503) (pc' := 506) rfl 1 (Nat.le_of_eq rfl) (by decide) (by decide) (by decide) (by decide) ?_
              intro T121 v121 L121 X121 hQ121
              obtain ⟨rfl, Nb, Kb, rE, rL, rN⟩ := hQ121
              have NN := Fr.app NN Nb
              have ZZ := Nat.le_trans ZZ Kb.1
              have SWo := SW
              have SW := SW.keep Kb (sfS (Safe.exa SW.2.1.alike hE (by decide) (by decide)) sf0)
              have O := O.keep Kb (by intro x hx; simp only [List.mem_cons, List.not_mem_nil, or_false] at hx; subst hx; exact g_b119)
              have SL := SL.keep Kb (own_one le_SL_b119)
              have tz_SL := Nat.le_trans tz_SL Kb.1
              have hE := hE.keep Kb
              have hE := rE
              have hL := rL
              have hN := rN
              show Dn p e below _ (T121.setTop (mkF m 506 #[.val (.int p1), .val (.int p2), .val (.int p3), .val (.int p4), .val (.int (1 : Int32)), .val (.ref la1), .val (.int c6), .val (.int (Int32.ofNat j)), .val (.ref b2), .val (.ref b24), .val (.int (p1 &&& (7 : Int32))), .val (.ref b112), .val (.int (0 : Int32)), .val (.int (1 : Int32))] [(.ref b119)]))
              refine o_callSP X121 hx hZ [(.ref b119)] (rmIE1 l Z a0 hw T121.heap n0 ZZ b119 hE hN) hown (hw _ (List.mem_of_getElem? (i := 52) rfl)) (hw _ (List.mem_of_getElem? (i := 53) rfl)) (hw _ (List.mem_of_getElem? (i := 54) rfl)) (hw _ (List.mem_of_getElem? (i := 55) rfl)) (by decide) pd_17 rfl (by rw [hml]; rfl) rfl rfl rfl (hb hby at_506) (pc' := 509) rfl 0 (Nat.le_of_eq rfl) (by decide) (by decide) rfl rfl (by decide) (by decide) ?_
              intro T122 X122 e122
              show Dn p e below _ (T122.setTop (mkF m 509 #[.val (.int p1), .val (.int p2), .val (.int p3), .val (.int p4), .val (.int (1 : Int32)), .val (.ref la1), .val (.int c6), .val (.int (Int32.ofNat j)), .val (.ref b2), .val (.ref b24), .val (.int (p1 &&& (7 : Int32))), .val (.ref b112), .val (.int (0 : Int32)), .val (.int (1 : Int32))] [(.int (1 : Int32))]))
              refine o_iload X122 hx (pc' := 511) (hb hby at_509) rfl rfl ?_
              refine o_icmp_ne X122 hx (pc' := 514) (pt := 518) (hb hby at_511) rfl (by decide) (by decide) (fun q => absurd (by decide) q) (fun _ => ?_)
              refine o_iconst X122 hx (pc' := 515) (v := (1 : Int32)) (hb hby at_514) rfl rfl ?_
              refine o_goto X122 hx (pc' := 519) (hb hby at_515) (by decide) (by decide) ?_
              exact finSN X122 hx (own_EW hw) SW e122 hlk (t := .boolean) hret (by simp) (hb hby at_519) (by decide) (by decide) ⟨rfl, NN⟩
          · skip
            refine o_iconst X114 hx (pc' := 357) (v := (1 : Int32)) (hb hby at_356) rfl rfl ?_
            refine o_goto X114 hx (pc' := 361) (hb hby at_357) (by decide) (by decide) ?_
            refine o_istore X114 hx (pc' := 363) (Ls' := #[.val (.int p1), .val (.int p2), .val (.int p3), .val (.int p4), .val (.int en), .val (.ref la1), .val (.int c6), .val (.int (Int32.ofNat j)), .val (.ref b2), .val (.ref b24), .val (.int (p1 &&& (7 : Int32))), .val (.ref b112), .val (.int (1 : Int32)), .unset]) (hb hby at_361) rfl rfl ?_
            refine o_goto X114 hx (pc' := 475) (hb hby at_363) (by decide) (by decide) ?_
            rcases hen with rfl | rfl
            · skip
              show Dn p e below _ (T114.setTop (mkF m 475 #[.val (.int p1), .val (.int p2), .val (.int p3), .val (.int p4), .val (.int (0 : Int32)), .val (.ref la1), .val (.int c6), .val (.int (Int32.ofNat j)), .val (.ref b2), .val (.ref b24), .val (.int (p1 &&& (7 : Int32))), .val (.ref b112), .val (.int (1 : Int32)), .unset] []))
              refine o_iload X114 hx (pc' := 477) (hb hby at_475) rfl rfl ?_
              refine o_if_ne X114 hx (pc' := 480) (pt := 485) (hb hby at_477) rfl (by decide) (by decide) (fun q => absurd (by decide) q) (fun _ => ?_)
              refine o_iload X114 hx (pc' := 482) (hb hby at_480) rfl rfl ?_
              refine o_if_eq X114 hx (pc' := 485) (pt := 489) (hb hby at_482) rfl (by decide) (by decide) (fun q => absurd q (by decide)) (fun _ => ?_)
              refine o_iconst X114 hx (pc' := 486) (v := (1 : Int32)) (hb hby at_485) rfl rfl ?_
              refine o_goto X114 hx (pc' := 490) (hb hby at_486) (by decide) (by decide) ?_
              refine o_istore X114 hx (pc' := 492) (Ls' := #[.val (.int p1), .val (.int p2), .val (.int p3), .val (.int p4), .val (.int (0 : Int32)), .val (.ref la1), .val (.int c6), .val (.int (Int32.ofNat j)), .val (.ref b2), .val (.ref b24), .val (.int (p1 &&& (7 : Int32))), .val (.ref b112), .val (.int (1 : Int32)), .val (.int (1 : Int32))]) (hb hby at_490) rfl rfl ?_
              refine o_new X114 hx hZ hown (hw _ (List.mem_of_getElem? (i := 34) rfl)) (hw _ (List.mem_of_getElem? (i := 35) rfl)) (hw _ (List.mem_of_getElem? (i := 36) rfl)) e114 (hb hby at_492) (pc' := 495) rfl (by decide) (by decide) ?_
              intro T123 h123 b123 g123 X123 e123 E123 A123 D123
              have g_b123 : n0 ≤ b123 := Nat.le_trans ZZ (Nat.le_of_eq g123.symm)
              have le_SL_b123 := Nat.le_trans tz_SL (Nat.le_of_eq g123.symm)
              have ZZ := Nat.le_trans ZZ E123.1
              have SW := SW.ext E123
              have O := O.ext E123
              have SL := SL.ext E123
              have tz_SL := Nat.le_trans tz_SL E123.1
              have hE := A123
              have hL : Fld Z h123 b123 "com/example/shelfkey/shelfkey/http/Pem$Block" "label" "Ljava/lang/String;" .null := D123 (Or.inr (hw _ (List.mem_of_getElem? (i := 47) rfl))) (ty := (.object "java/lang/String")) (by decide)
              have hN : Fld Z h123 b123 "com/example/shelfkey/shelfkey/http/Pem$Block" "encrypted" "Z" (.int 0) := D123 (Or.inr (hw _ (List.mem_of_getElem? (i := 49) rfl))) (ty := .boolean) (by decide)
              have hC : Fld Z h123 b123 "com/example/shelfkey/shelfkey/http/Pem$Block" "contents" "[B" .null := D123 (Or.inr (hw _ (List.mem_of_getElem? (i := 51) rfl))) (ty := (.array .byte)) (by decide)
              refine o_dup X123 hx (pc' := 496) (hb hby at_495) rfl rfl ?_
              refine o_aload X123 hx (pc' := 498) (hb hby at_496) rfl rfl rfl ?_
              refine o_iload X123 hx (pc' := 500) (hb hby at_498) rfl rfl ?_
              refine o_iconst X123 hx (pc' := 501) (v := (0 : Int32)) (hb hby at_500) rfl rfl ?_
              refine o_newarray X123 hx hZ e123 (hw _ (List.mem_of_getElem? (i := 3) rfl)) (hb hby at_501) (pc' := 503) rfl (by decide) 0 (by decide) (by decide) (by decide) (by decide) ?_
              intro T124 h124 b124 k124 g124 X124 e124 E124 V124
              have lt_b123_b124 : b123 < b124 := Nat.lt_of_lt_of_le hL.lt (Nat.le_of_eq g124.symm)
              have ne_b123_b124 : b123 ≠ b124 := Nat.ne_of_lt lt_b123_b124
              have g_b124 : n0 ≤ b124 := Nat.le_trans ZZ (Nat.le_of_eq g124.symm)
              have le_SL_b124 := Nat.le_trans tz_SL (Nat.le_of_eq g124.symm)
              have ZZ := Nat.le_trans ZZ E124.1
              have SW := SW.ext E124
              have O := O.ext E124
              have SL := SL.ext E124
              have tz_SL := Nat.le_trans tz_SL E124.1
              have hL := hL.ext E124
              have hN := hN.ext E124
              have hC := hC.ext E124
              have hE := hE.ext E124
              have hA : Arv Z h124 b124 k124 .byte (0 : Int32) [] (.int 0) := V124.pad (pad_rep [] _ 0)
              refine o_callI X124 hx hZ b123 [(.ref b112), (.int (0 : Int32)), (.ref b124)] (rmPB0 l Z a0 hw h124 n0 ZZ b123 b112 b124 hE hL hN hC g_b123) rfl hown (hw _ (List.mem_of_getElem? (i := 37) rfl)) (hw _ (List.mem_of_getElem? (i := 38) rfl)) (hw _ (List.mem_of_getElem? (i := 36) rfl)) (hw _ (List.mem_of_getElem? (i := 39) rfl)) (by decide) pd_16 e124 (by rw [hml]; rfl) rfl rfl rfl (hb hby at_503) (pc' := 506) rfl 1 (Nat.le_of_eq rfl) (by decide) (by decide) (by decide) (by decide) ?_
              intro T125 v125 L125 X125 hQ125
              obtain ⟨rfl, Nb, Kb, rE, rL, rN⟩ := hQ125
              have NN := Fr.app NN Nb
              have ZZ := Nat.le_trans ZZ Kb.1
              have SWo := SW
              have SW := SW.keep Kb (sfS (Safe.exa SW.2.1.alike hE (by decide) (by decide)) sf0)
              have O := O.keep Kb (by intro x hx; simp only [List.mem_cons, List.not_mem_nil, or_false] at hx; subst hx; exact g_b123)
              have SL := SL.keep Kb (own_one le_SL_b123)
              have tz_SL := Nat.le_trans tz_SL Kb.1
              have hE := hE.keep Kb
              have hE := rE
              have hL := rL
              have hN := rN
              show Dn p e below _ (T125.setTop (mkF m 506 #[.val (.int p1), .val (.int p2), .val (.int p3), .val (.int p4), .val (.int (0 : Int32)), .val (.ref la1), .val (.int c6), .val (.int (Int32.ofNat j)), .val (.ref b2), .val (.ref b24), .val (.int (p1 &&& (7 : Int32))), .val (.ref b112), .val (.int (1 : Int32)), .val (.int (1 : Int32))] [(.ref b123)]))
              refine o_callSS X125 hx (own_EW hw) SW [(.ref b123)] (rmIE0 l Z a0 hw T125.heap n0 ZZ b123 b112 ((TGT.set j c6).map own_b) (by rw [List.length_map, own_sl]; decide) _ hE hN hL SL cs0 S0 hcs O) hown (hw _ (List.mem_of_getElem? (i := 52) rfl)) (hw _ (List.mem_of_getElem? (i := 53) rfl)) (hw _ (List.mem_of_getElem? (i := 54) rfl)) (hw _ (List.mem_of_getElem? (i := 55) rfl)) (by decide) pd_17 rfl (by rw [hml]; rfl) rfl rfl rfl (hb hby at_506) (pc' := 509) rfl 0 (Nat.le_of_eq rfl) (by decide) (by decide) (by decide) (by decide) ?_
              intro T126 v126 L126 X126 hQ126 SW hown hC126
              have hZ := SW.2.1
              obtain ⟨rfl, Nc, Kc⟩ := hQ126
              have NN := Fr.app NN Nc
              have ZZ := Nat.le_trans ZZ Kc.1
              have O := O.keep Kc (fun x hx => nomatch hx)
              rw [if_pos (show ((TGT.set j c6).map own_b) = TGT from ((own_eqk hch hj).mpr hc353))]
              show Dn p e below _ (T126.setTop (mkF m 509 #[.val (.int p1), .val (.int p2), .val (.int p3), .val (.int p4), .val (.int (0 : Int32)), .val (.ref la1), .val (.int c6), .val (.int (Int32.ofNat j)), .val (.ref b2), .val (.ref b24), .val (.int (p1 &&& (7 : Int32))), .val (.ref b112), .val (.int (1 : Int32)), .val (.int (1 : Int32))] [(.int (1 : Int32))]))
              refine o_iload X126 hx (pc' := 511) (hb hby at_509) rfl rfl ?_
              refine o_icmp_ne X126 hx (pc' := 514) (pt := 518) (hb hby at_511) rfl (by decide) (by decide) (fun q => absurd (by decide) q) (fun _ => ?_)
              refine o_iconst X126 hx (pc' := 515) (v := (1 : Int32)) (hb hby at_514) rfl rfl ?_
              refine o_goto X126 hx (pc' := 519) (hb hby at_515) (by decide) (by decide) ?_
              exact finSN X126 hx (own_EW hw) SW rfl hlk (t := .boolean) hret (by simp) (hb hby at_519) (by decide) (by decide) ⟨rfl, NN⟩
            · skip
              show Dn p e below _ (T114.setTop (mkF m 475 #[.val (.int p1), .val (.int p2), .val (.int p3), .val (.int p4), .val (.int (1 : Int32)), .val (.ref la1), .val (.int c6), .val (.int (Int32.ofNat j)), .val (.ref b2), .val (.ref b24), .val (.int (p1 &&& (7 : Int32))), .val (.ref b112), .val (.int (1 : Int32)), .unset] []))
              refine o_iload X114 hx (pc' := 477) (hb hby at_475) rfl rfl ?_
              refine o_if_ne X114 hx (pc' := 480) (pt := 485) (hb hby at_477) rfl (by decide) (by decide) (fun _ => ?_) (fun q => absurd q (by decide))
              refine o_iconst X114 hx (pc' := 486) (v := (1 : Int32)) (hb hby at_485) rfl rfl ?_
              refine o_goto X114 hx (pc' := 490) (hb hby at_486) (by decide) (by decide) ?_
              refine o_istore X114 hx (pc' := 492) (Ls' := #[.val (.int p1), .val (.int p2), .val (.int p3), .val (.int p4), .val (.int (1 : Int32)), .val (.ref la1), .val (.int c6), .val (.int (Int32.ofNat j)), .val (.ref b2), .val (.ref b24), .val (.int (p1 &&& (7 : Int32))), .val (.ref b112), .val (.int (1 : Int32)), .val (.int (1 : Int32))]) (hb hby at_490) rfl rfl ?_
              refine o_new X114 hx hZ hown (hw _ (List.mem_of_getElem? (i := 34) rfl)) (hw _ (List.mem_of_getElem? (i := 35) rfl)) (hw _ (List.mem_of_getElem? (i := 36) rfl)) e114 (hb hby at_492) (pc' := 495) rfl (by decide) (by decide) ?_
              intro T127 h127 b127 g127 X127 e127 E127 A127 D127
              have g_b127 : n0 ≤ b127 := Nat.le_trans ZZ (Nat.le_of_eq g127.symm)
              have le_SL_b127 := Nat.le_trans tz_SL (Nat.le_of_eq g127.symm)
              have ZZ := Nat.le_trans ZZ E127.1
              have SW := SW.ext E127
              have O := O.ext E127
              have SL := SL.ext E127
              have tz_SL := Nat.le_trans tz_SL E127.1
              have hE := A127
              have hL : Fld Z h127 b127 "com/example/shelfkey/shelfkey/http/Pem$Block" "label" "Ljava/lang/String;" .null := D127 (Or.inr (hw _ (List.mem_of_getElem? (i := 47) rfl))) (ty := (.object "java/lang/String")) (by decide)
              have hN : Fld Z h127 b127 "com/example/shelfkey/shelfkey/http/Pem$Block" "encrypted" "Z" (.int 0) := D127 (Or.inr (hw _ (List.mem_of_getElem? (i := 49) rfl))) (ty := .boolean) (by decide)
              have hC : Fld Z h127 b127 "com/example/shelfkey/shelfkey/http/Pem$Block" "contents" "[B" .null := D127 (Or.inr (hw _ (List.mem_of_getElem? (i := 51) rfl))) (ty := (.array .byte)) (by decide)
              refine o_dup X127 hx (pc' := 496) (hb hby at_495) rfl rfl ?_
              refine o_aload X127 hx (pc' := 498) (hb hby at_496) rfl rfl rfl ?_
              refine o_iload X127 hx (pc' := 500) (hb hby at_498) rfl rfl ?_
              refine o_iconst X127 hx (pc' := 501) (v := (0 : Int32)) (hb hby at_500) rfl rfl ?_
              refine o_newarray X127 hx hZ e127 (hw _ (List.mem_of_getElem? (i := 3) rfl)) (hb hby at_501) (pc' := 503) rfl (by decide) 0 (by decide) (by decide) (by decide) (by decide) ?_
              intro T128 h128 b128 k128 g128 X128 e128 E128 V128
              have lt_b127_b128 : b127 < b128 := Nat.lt_of_lt_of_le hL.lt (Nat.le_of_eq g128.symm)
              have ne_b127_b128 : b127 ≠ b128 := Nat.ne_of_lt lt_b127_b128
              have g_b128 : n0 ≤ b128 := Nat.le_trans ZZ (Nat.le_of_eq g128.symm)
              have le_SL_b128 := Nat.le_trans tz_SL (Nat.le_of_eq g128.symm)
              have ZZ := Nat.le_trans ZZ E128.1
              have SW := SW.ext E128
              have O := O.ext E128
              have SL := SL.ext E128
              have tz_SL := Nat.le_trans tz_SL E128.1
              have hL := hL.ext E128
              have hN := hN.ext E128
              have hC := hC.ext E128
              have hE := hE.ext E128
              have hA : Arv Z h128 b128 k128 .byte (0 : Int32) [] (.int 0) := V128.pad (pad_rep [] _ 0)
              refine o_callI X128 hx hZ b127 [(.ref b112), (.int (1 : Int32)), (.ref b128)] (rmPB1 l Z a0 hw h128 n0 ZZ b127 b112 b128 hE hL hN hC g_b127) rfl hown (hw _ (List.mem_of_getElem? (i := 37) rfl)) (hw _ (List.mem_of_getElem? (i := 38) rfl)) (hw _ (List.mem_of_getElem? (i := 36) rfl)) (hw _ (List.mem_of_getElem? (i := 39) rfl)) (by decide) pd_16 e128 (by rw [hml]; rfl) rfl rfl rfl (hb hby at_503) (pc' := 506) rfl 1 (Nat.le_of_eq rfl) (by decide) (by decide) (by decide) (by decide) ?_
              intro T129 v129 L129 X129 hQ129
              obtain ⟨rfl, Nb, Kb, rE, rL, rN⟩ := hQ129
              have NN := Fr.app NN Nb
              have ZZ := Nat.le_trans ZZ Kb.1
              have SWo := SW
              have SW := SW.keep Kb (sfS (Safe.exa SW.2.1.alike hE (by decide) (by decide)) sf0)
              have O := O.keep Kb (by intro x hx; simp only [List.mem_cons, List.not_mem_nil, or_false] at hx; subst hx; exact g_b127)
              have SL := SL.keep Kb (own_one le_SL_b127)
              have tz_SL := Nat.le_trans tz_SL Kb.1
              have hE := hE.keep Kb
              have hE := rE
              have hL := rL
              have hN := rN
              show Dn p e below _ (T129.setTop (mkF m 506 #[.val (.int p1), .val (.int p2), .val (.int p3), .val (.int p4), .val (.int (1 : Int32)), .val (.ref la1), .val (.int c6), .val (.int (Int32.ofNat j)), .val (.ref b2), .val (.ref b24), .val (.int (p1 &&& (7 : Int32))), .val (.ref b112), .val (.int (1 : Int32)), .val (.int (1 : Int32))] [(.ref b127)]))
              refine o_callSP X129 hx hZ [(.ref b127)] (rmIE1 l Z a0 hw T129.heap n0 ZZ b127 hE hN) hown (hw _ (List.mem_of_getElem? (i := 52) rfl)) (hw _ (List.mem_of_getElem? (i := 53) rfl)) (hw _ (List.mem_of_getElem? (i := 54) rfl)) (hw _ (List.mem_of_getElem? (i := 55) rfl)) (by decide) pd_17 rfl (by rw [hml]; rfl) rfl rfl rfl (hb hby at_506) (pc' := 509) rfl 0 (Nat.le_of_eq rfl) (by decide) (by decide) rfl rfl (by decide) (by decide) ?_
              intro T130 X130 e130
              show Dn p e below _ (T130.setTop (mkF m 509 #[.val (.int p1), .val (.int p2), .val (.int p3), .val (.int p4), .val (.int (1 : Int32)), .val (.ref la1), .val (.int c6), .val (.int (Int32.ofNat j)), .val (.ref b2), .val (.ref b24), .val (.int (p1 &&& (7 : Int32))), .val (.ref b112), .val (.int (1 : Int32)), .val (.int (1 : Int32))] [(.int (1 : Int32))]))
              refine o_iload X130 hx (pc' := 511) (hb hby at_509) rfl rfl ?_
              refine o_icmp_ne X130 hx (pc' := 514) (pt := 518) (hb hby at_511) rfl (by decide) (by decide) (fun q => absurd (by decide) q) (fun _ => ?_)
              refine o_iconst X130 hx (pc' := 515) (v := (1 : Int32)) (hb hby at_514) rfl rfl ?_
              refine o_goto X130 hx (pc' := 519) (hb hby at_515) (by decide) (by decide) ?_
              exact finSN X130 hx (own_EW hw) SW e130 hlk (t := .boolean) hret (by simp) (hb hby at_519) (by decide) (by decide) ⟨rfl, NN⟩
      · skip
        refine o_new X46 hx hZ hown (hw _ (List.mem_of_getElem? (i := 10) rfl)) (hw _ (List.mem_of_getElem? (i := 2) rfl)) (hw _ (List.mem_of_getElem? (i := 1) rfl)) e46 (hb hby at_303) (pc' := 306) rfl (by decide) (by decide) ?_
        intro T131 h131 b131 g131 X131 e131 E131 A131 D131
        have lt_b2_b131 : b2 < b131 := Nat.lt_of_lt_of_le hV.lt (Nat.le_of_eq g131.symm)
        have ne_b2_b131 : b2 ≠ b131 := Nat.ne_of_lt lt_b2_b131
        have lt_b24_b131 : b24 < b131 := Nat.lt_of_lt_of_le hW.lt (Nat.le_of_eq g131.symm)
        have ne_b24_b131 : b24 ≠ b131 := Nat.ne_of_lt lt_b24_b131
        have g_b131 : n0 ≤ b131 := Nat.le_trans ZZ (Nat.le_of_eq g131.symm)
        have le_S7_b131 := Nat.le_trans tz_S7 (Nat.le_of_eq g131.symm)
        have ZZ := Nat.le_trans ZZ E131.1
        have SW := SW.ext E131
        have O := O.ext E131
        have S7 := S7.ext E131
        have tz_S7 := Nat.le_trans tz_S7 E131.1
        have hV := hV.ext E131
        have hW := hW.ext E131
        have hE0 := A131
        have hVa : Fld Z h131 b131 "java/lang/String" "value" "[B" .null := D131 (Or.inr (hw _ (List.mem_of_getElem? (i := 4) rfl))) (ty := (.array .byte)) (by decide)
        have hCo : Fld Z h131 b131 "java/lang/String" "coder" "B" (.int 0) := D131 (Or.inr (hw _ (List.mem_of_getElem? (i := 5) rfl))) (ty := .byte) (by decide)
        refine o_dup X131 hx (pc' := 307) (hb hby at_306) rfl rfl ?_
        refine o_aload X131 hx (pc' := 309) (hb hby at_307) rfl rfl rfl ?_
        have hVc : Arv Z h131 b2 k2 .char (Int32.ofNat TGT.length) (iv TGT) (.int 0) := hV
        refine o_callI X131 hx hZ b131 [(.ref b2)] (rmSI2 l Z a0 hw h131 n0 ZZ b131 b2 TGT own_tgt.2.1 (by decide) (by decide) k2 _ hVc _ _ hE0 hVa hCo g_b131 ne_b2_b131.symm cs0 S0 hcs O) rfl hown (hw _ (List.mem_of_getElem? (i := 11) rfl)) (hw _ (List.mem_of_getElem? (i := 12) rfl)) (hw _ (List.mem_of_getElem? (i := 1) rfl)) (hw _ (List.mem_of_getElem? (i := 13) rfl)) (by decide) pd_18 e131 (by rw [hml]; rfl) rfl rfl rfl (hb hby at_309) (pc' := 312) rfl 1 (Nat.le_of_eq rfl) (by decide) (by decide) (by decide) (by decide) ?_
        intro T132 v132 L132 X132 hQ132
        obtain ⟨rfl, Nq, Kq, SL⟩ := hQ132
        have NN := Fr.app NN Nq
        have ZZ := Nat.le_trans ZZ Kq.1
        have SWo := SW
        have SW := SW.keep Kq (sfS (own_safe SW.2.1.alike hE0 hVa) sf0)
        have O := O.keep Kq (by intro x hx; simp only [List.mem_cons, List.not_mem_nil, or_false] at hx; subst hx; exact g_b131)
        have S7 := S7.keep Kq (own_one le_S7_b131)
        have tz_S7 := Nat.le_trans tz_S7 Kq.1
        have tz_SL : T132.heap.size ≤ T132.heap.size := Nat.le_refl _
        show Dn p e below _ (T132.setTop (mkF m 312 #[.val (.int p1), .val (.int p2), .val (.int p3), .val (.int p4), .val (.int en), .val (.ref la1), .val (.int c6), .val (.int (Int32.ofNat j)), .val (.ref b2), .val (.ref b24), .val (.int (p1 &&& (7 : Int32))), .unset, .unset, .unset] [(.ref b131)]))
        rw [own_tgt.1] at SL
        refine o_astore X132 hx (pc' := 314) (Ls' := #[.val (.int p1), .val (.int p2), .val (.int p3), .val (.int p4), .val (.int en), .val (.ref la1), .val (.int c6), .val (.int (Int32.ofNat j)), .val (.ref b2), .val (.ref b24), .val (.int (p1 &&& (7 : Int32))), .val (.ref b131), .unset, .unset]) (hb hby at_312) rfl rfl rfl ?_
        refine o_iconst X132 hx (pc' := 315) (v := (1 : Int32)) (hb hby at_314) rfl rfl ?_
        refine o_istore X132 hx (pc' := 317) (Ls' := #[.val (.int p1), .val (.int p2), .val (.int p3), .val (.int p4), .val (.int en), .val (.ref la1), .val (.int c6), .val (.int (Int32.ofNat j)), .val (.ref b2), .val (.ref b24), .val (.int (p1 &&& (7 : Int32))), .val (.ref b131), .val (.int (1 : Int32)), .unset]) (hb hby at_315) rfl rfl ?_
        refine o_goto X132 hx (pc' := 475) (hb hby at_317) (by decide) (by decide) ?_
        rcases hen with rfl | rfl
        · skip
          show Dn p e below _ (T132.setTop (mkF m 475 #[.val (.int p1), .val (.int p2), .val (.int p3), .val (.int p4), .val (.int (0 : Int32)), .val (.ref la1), .val (.int c6), .val (.int (Int32.ofNat j)), .val (.ref b2), .val (.ref b24), .val (.int (p1 &&& (7 : Int32))), .val (.ref b131), .val (.int (1 : Int32)), .unset] []))
          refine o_iload X132 hx (pc' := 477) (hb hby at_475) rfl rfl ?_
          refine o_if_ne X132 hx (pc' := 480) (pt := 485) (hb hby at_477) rfl (by decide) (by decide) (fun q => absurd (by decide) q) (fun _ => ?_)
          refine o_iload X132 hx (pc' := 482) (hb hby at_480) rfl rfl ?_
          refine o_if_eq X132 hx (pc' := 485) (pt := 489) (hb hby at_482) rfl (by decide) (by decide) (fun q => absurd q (by decide)) (fun _ => ?_)
          refine o_iconst X132 hx (pc' := 486) (v := (1 : Int32)) (hb hby at_485) rfl rfl ?_
          refine o_goto X132 hx (pc' := 490) (hb hby at_486) (by decide) (by decide) ?_
          refine o_istore X132 hx (pc' := 492) (Ls' := #[.val (.int p1), .val (.int p2), .val (.int p3), .val (.int p4), .val (.int (0 : Int32)), .val (.ref la1), .val (.int c6), .val (.int (Int32.ofNat j)), .val (.ref b2), .val (.ref b24), .val (.int (p1 &&& (7 : Int32))), .val (.ref b131), .val (.int (1 : Int32)), .val (.int (1 : Int32))]) (hb hby at_490) rfl rfl ?_
          refine o_new X132 hx hZ hown (hw _ (List.mem_of_getElem? (i := 34) rfl)) (hw _ (List.mem_of_getElem? (i := 35) rfl)) (hw _ (List.mem_of_getElem? (i := 36) rfl)) rfl (hb hby at_492) (pc' := 495) rfl (by decide) (by decide) ?_
          intro T133 h133 b133 g133 X133 e133 E133 A133 D133
          have g_b133 : n0 ≤ b133 := Nat.le_trans ZZ (Nat.le_of_eq g133.symm)
          have le_SL_b133 := Nat.le_trans tz_SL (Nat.le_of_eq g133.symm)
          have ZZ := Nat.le_trans ZZ E133.1
          have SW := SW.ext E133
          have O := O.ext E133
          have SL := SL.ext E133
          have tz_SL := Nat.le_trans tz_SL E133.1
          have hE := A133
          have hL : Fld Z h133 b133 "com/example/shelfkey/shelfkey/http/Pem$Block" "label" "Ljava/lang/String;" .null := D133 (Or.inr (hw _ (List.mem_of_getElem? (i := 47) rfl))) (ty := (.object "java/lang/String")) (by decide)
          have hN : Fld Z h133 b133 "com/example/shelfkey/shelfkey/http/Pem$Block" "encrypted" "Z" (.int 0) := D133 (Or.inr (hw _ (List.mem_of_getElem? (i := 49) rfl))) (ty := .boolean) (by decide)
          have hC : Fld Z h133 b133 "com/example/shelfkey/shelfkey/http/Pem$Block" "contents" "[B" .null := D133 (Or.inr (hw _ (List.mem_of_getElem? (i := 51) rfl))) (ty := (.array .byte)) (by decide)
          refine o_dup X133 hx (pc' := 496) (hb hby at_495) rfl rfl ?_
          refine o_aload X133 hx (pc' := 498) (hb hby at_496) rfl rfl rfl ?_
          refine o_iload X133 hx (pc' := 500) (hb hby at_498) rfl rfl ?_
          refine o_iconst X133 hx (pc' := 501) (v := (0 : Int32)) (hb hby at_500) rfl rfl ?_
          refine o_newarray X133 hx hZ e133 (hw _ (List.mem_of_getElem? (i := 3) rfl)) (hb hby at_501) (pc' := 503) rfl (by decide) 0 (by decide) (by decide) (by decide) (by decide) ?_
          intro T134 h134 b134 k134 g134 X134 e134 E134 V134
          have lt_b133_b134 : b133 < b134 := Nat.lt_of_lt_of_le hL.lt (Nat.le_of_eq g134.symm)
          have ne_b133_b134 : b133 ≠ b134 := Nat.ne_of_lt lt_b133_b134
          have g_b134 : n0 ≤ b134 := Nat.le_trans ZZ (Nat.le_of_eq g134.symm)
          have le_SL_b134 := Nat.le_trans tz_SL (Nat.le_of_eq g134.symm)
          have ZZ := Nat.le_trans ZZ E134.1
          have SW := SW.ext E134
          have O := O.ext E134
          have SL := SL.ext E134
          have tz_SL := Nat.le_trans tz_SL E134.1
          have hL := hL.ext E134
          have hN := hN.ext E134
          have hC := hC.ext E134
          have hE := hE.ext E134
          have hA : Arv Z h134 b134 k134 .byte (0 : Int32) [] (.int 0) := V134.pad (pad_rep [] _ 0)
          refine o_callI X134 hx hZ b133 [(.ref b131), (.int (0 : Int32)), (.ref b134)] (rmPB0 l Z a0 hw h134 n0 ZZ b133 b131 b134 hE hL hN hC g_b133) rfl hown (hw _ (List.mem_of_getElem? (i := 37) rfl)) (hw _ (List.mem_of_getElem? (i := 38) rfl)) (hw _ (List.mem_of_getElem? (i := 36) rfl)) (hw _ (List.mem_of_getElem? (i := 39) rfl)) (by decide) pd_16 e134 (by rw [hml]; rfl) rfl rfl rfl (hb hby at_503) (pc' := 506) rfl 1 (Nat.le_of_eq rfl) (by decide) (by decide) (by decide) (by decide) ?_
          intro T135 v135 L135 X135 hQ135
          obtain ⟨rfl, Nb, Kb, rE, rL, rN⟩ := hQ135
          have NN := Fr.app NN Nb
          have ZZ := Nat.le_trans ZZ Kb.1
          have SWo := SW
          have SW := SW.keep Kb (sfS (Safe.exa SW.2.1.alike hE (by decide) (by decide)) sf0)
          have O := O.keep Kb (by intro x hx; simp only [List.mem_cons, List.not_mem_nil, or_false] at hx; subst hx; exact g_b133)
          have SL := SL.keep Kb (own_one le_SL_b133)
          have tz_SL := Nat.le_trans tz_SL Kb.1
          have hE := hE.keep Kb
          have hE := rE
          have hL := rL
          have hN := rN
          show Dn p e below _ (T135.setTop (mkF m 506 #[.val (.int p1), .val (.int p2), .val (.int p3), .val (.int p4), .val (.int (0 : Int32)), .val (.ref la1), .val (.int c6), .val (.int (Int32.ofNat j)), .val (.ref b2), .val (.ref b24), .val (.int (p1 &&& (7 : Int32))), .val (.ref b131), .val (.int (1 : Int32)), .val (.int (1 : Int32))] [(.ref b133)]))
          refine o_callSS X135 hx (own_EW hw) SW [(.ref b133)] (rmIE0 l Z a0 hw T135.heap n0 ZZ b133 b131 TGT (by decide) _ hE hN hL SL cs0 S0 hcs O) hown (hw _ (List.mem_of_getElem? (i := 52) rfl)) (hw _ (List.mem_of_getElem? (i := 53) rfl)) (hw _ (List.mem_of_getElem? (i := 54) rfl)) (hw _ (List.mem_of_getElem? (i := 55) rfl)) (by decide) pd_17 rfl (by rw [hml]; rfl) rfl rfl rfl (hb hby at_506) (pc' := 509) rfl 0 (Nat.le_of_eq rfl) (by decide) (by decide) (by decide) (by decide) ?_
          intro T136 v136 L136 X136 hQ136 SW hown hC136
          have hZ := SW.2.1
          obtain ⟨rfl, Nc, Kc⟩ := hQ136
          have NN := Fr.app NN Nc
          have ZZ := Nat.le_trans ZZ Kc.1
          have O := O.keep Kc (fun x hx => nomatch hx)
          rw [if_pos (show TGT = TGT from rfl)]
          show Dn p e below _ (T136.setTop (mkF m 509 #[.val (.int p1), .val (.int p2), .val (.int p3), .val (.int p4), .val (.int (0 : Int32)), .val (.ref la1), .val (.int c6), .val (.int (Int32.ofNat j)), .val (.ref b2), .val (.ref b24), .val (.int (p1 &&& (7 : Int32))), .val (.ref b131), .val (.int (1 : Int32)), .val (.int (1 : Int32))] [(.int (1 : Int32))]))
          refine o_iload X136 hx (pc' := 511) (hb hby at_509) rfl rfl ?_
          refine o_icmp_ne X136 hx (pc' := 514) (pt := 518) (hb hby at_511) rfl (by decide) (by decide) (fun q => absurd (by decide) q) (fun _ => ?_)
          refine o_iconst X136 hx (pc' := 515) (v := (1 : Int32)) (hb hby at_514) rfl rfl ?_
          refine o_goto X136 hx (pc' := 519) (hb hby at_515) (by decide) (by decide) ?_
          exact finSN X136 hx (own_EW hw) SW rfl hlk (t := .boolean) hret (by simp) (hb hby at_519) (by decide) (by decide) ⟨rfl, NN⟩
        · skip
          show Dn p e below _ (T132.setTop (mkF m 475 #[.val (.int p1), .val (.int p2), .val (.int p3), .val (.int p4), .val (.int (1 : Int32)), .val (.ref la1), .val (.int c6), .val (.int (Int32.ofNat j)), .val (.ref b2), .val (.ref b24), .val (.int (p1 &&& (7 : Int32))), .val (.ref b131), .val (.int (1 : Int32)), .unset] []))
          refine o_iload X132 hx (pc' := 477) (hb hby at_475) rfl rfl ?_
          refine o_if_ne X132 hx (pc' := 480) (pt := 485) (hb hby at_477) rfl (by decide) (by decide) (fun _ => ?_) (fun q => absurd q (by decide))
          refine o_iconst X132 hx (pc' := 486) (v := (1 : Int32)) (hb hby at_485) rfl rfl ?_
          refine o_goto X132 hx (pc' := 490) (hb hby at_486) (by decide) (by decide) ?_
          refine o_istore X132 hx (pc' := 492) (Ls' := #[.val (.int p1), .val (.int p2), .val (.int p3), .val (.int p4), .val (.int (1 : Int32)), .val (.ref la1), .val (.int c6), .val (.int (Int32.ofNat j)), .val (.ref b2), .val (.ref b24), .val (.int (p1 &&& (7 : Int32))), .val (.ref b131), .val (.int (1 : Int32)), .val (.int (1 : Int32))]) (hb hby at_490) rfl rfl ?_
          refine o_new X132 hx hZ hown (hw _ (List.mem_of_getElem? (i := 34) rfl)) (hw _ (List.mem_of_getElem? (i := 35) rfl)) (hw _ (List.mem_of_getElem? (i := 36) rfl)) rfl (hb hby at_492) (pc' := 495) rfl (by decide) (by decide) ?_
          intro T137 h137 b137 g137 X137 e137 E137 A137 D137
          have g_b137 : n0 ≤ b137 := Nat.le_trans ZZ (Nat.le_of_eq g137.symm)
          have le_SL_b137 := Nat.le_trans tz_SL (Nat.le_of_eq g137.symm)
          have ZZ := Nat.le_trans ZZ E137.1
          have SW := SW.ext E137
          have O := O.ext E137
          have SL := SL.ext E137
          have tz_SL := Nat.le_trans tz_SL E137.1
          have hE := A137
          have hL : Fld Z h137 b137 "com/example/shelfkey/shelfkey/http/Pem$Block" "label" "Ljava/lang/String;" .null := D137 (Or.inr (hw _ (List.mem_of_getElem? (i := 47) rfl))) (ty := (.object "java/lang/String")) (by decide)
          have hN : Fld Z h137 b137 "com/example/shelfkey/shelfkey/http/Pem$Block" "encrypted" "Z" (.int 0) := D137 (Or.inr (hw _ (List.mem_of_getElem? (i := 49) rfl))) (ty := .boolean) (by decide)
          have hC : Fld Z h137 b137 "com/example/shelfkey/shelfkey/http/Pem$Block" "contents" "[B" .null := D137 (Or.inr (hw _ (List.mem_of_getElem? (i := 51) rfl))) (ty := (.array .byte)) (by decide)
          refine o_dup X137 hx (pc' := 496) (hb hby at_495) rfl rfl ?_
          refine o_aload X137 hx (pc' := 498) (hb hby at_496) rfl rfl rfl ?_
          refine o_iload X137 hx (pc' := 500) (hb hby at_498) rfl rfl ?_
          refine o_iconst X137 hx (pc' := 501) (v := (0 : Int32)) (hb hby at_500) rfl rfl ?_
          refine o_newarray X137 hx hZ e137 (hw _ (List.mem_of_getElem? (i := 3) rfl)) (hb hby at_501) (pc' := 503) rfl (by decide) 0 (by decide) (by decide) (by decide) (by decide) ?_
          intro T138 h138 b138 k138 g138 X138 e138 E138 V138
          have lt_b137_b138 : b137 < b138 := Nat.lt_of_lt_of_le hL.lt (Nat.le_of_eq g138.symm)
          have ne_b137_b138 : b137 ≠ b138 := Nat.ne_of_lt lt_b137_b138
          have g_b138 : n0 ≤ b138 := Nat.le_trans ZZ (Nat.le_of_eq g138.symm)
          have le_SL_b138 := Nat.le_trans tz_SL (Nat.le_of_eq g138.symm)
          have ZZ := Nat.le_trans ZZ E138.1
          have SW := SW.ext E138
          have O := O.ext E138
          have SL := SL.ext E138
          have tz_SL := Nat.le_trans tz_SL E138.1
          have hL := hL.ext E138
          have hN := hN.ext E138
          have hC := hC.ext E138
          have hE := hE.ext E138
          have hA : Arv Z h138 b138 k138 .byte (0 : Int32) [] (.int 0) := V138.pad (pad_rep [] _ 0)
          refine o_callI X138 hx hZ b137 [(.ref b131), (.int (1 : Int32)), (.ref b138)] (rmPB1 l Z a0 hw h138 n0 ZZ b137 b131 b138 hE hL hN hC g_b137) rfl hown (hw _ (List.mem_of_getElem? (i := 37) rfl)) (hw _ (List.mem_of_getElem? (i := 38) rfl)) (hw _ (List.mem_of_getElem? (i := 36) rfl)) (hw _ (List.mem_of_getElem? (i := 39) rfl)) (by decide) pd_16 e138 (by rw [hml]; rfl) rfl rfl rfl (hb hby at_503) (pc' := 506) rfl 1 (Nat.le_of_eq rfl) (by decide) (by decide) (by decide) (by decide) ?_
          intro T139 v139 L139 X139 hQ139
          obtain ⟨rfl, Nb, Kb, rE, rL, rN⟩ := hQ139
          have NN := Fr.app NN Nb
          have ZZ := Nat.le_trans ZZ Kb.1
          have SWo := SW
          have SW := SW.keep Kb (sfS (Safe.exa SW.2.1.alike hE (by decide) (by decide)) sf0)
          have O := O.keep Kb (by intro x hx; simp only [List.mem_cons, List.not_mem_nil, or_false] at hx; subst hx; exact g_b137)
          have SL := SL.keep Kb (own_one le_SL_b137)
          have tz_SL := Nat.le_trans tz_SL Kb.1
          have hE := hE.keep Kb
          have hE := rE
          have hL := rL
          have hN := rN
          show Dn p e below _ (T139.setTop (mkF m 506 #[.val (.int p1), .val (.int p2), .val (.int p3), .val (.int p4), .val (.int (1 : Int32)), .val (.ref la1), .val (.int c6), .val (.int (Int32.ofNat j)), .val (.ref b2), .val (.ref b24), .val (.int (p1 &&& (7 : Int32))), .val (.ref b131), .val (.int (1 : Int32)), .val (.int (1 : Int32))] [(.ref b137)]))
          refine o_callSP X139 hx hZ [(.ref b137)] (rmIE1 l Z a0 hw T139.heap n0 ZZ b137 hE hN) hown (hw _ (List.mem_of_getElem? (i := 52) rfl)) (hw _ (List.mem_of_getElem? (i := 53) rfl)) (hw _ (List.mem_of_getElem? (i := 54) rfl)) (hw _ (List.mem_of_getElem? (i := 55) rfl)) (by decide) pd_17 rfl (by rw [hml]; rfl) rfl rfl rfl (hb hby at_506) (pc' := 509) rfl 0 (Nat.le_of_eq rfl) (by decide) (by decide) rfl rfl (by decide) (by decide) ?_
          intro T140 X140 e140
          show Dn p e below _ (T140.setTop (mkF m 509 #[.val (.int p1), .val (.int p2), .val (.int p3), .val (.int p4), .val (.int (1 : Int32)), .val (.ref la1), .val (.int c6), .val (.int (Int32.ofNat j)), .val (.ref b2), .val (.ref b24), .val (.int (p1 &&& (7 : Int32))), .val (.ref b131), .val (.int (1 : Int32)), .val (.int (1 : Int32))] [(.int (1 : Int32))]))
          refine o_iload X140 hx (pc' := 511) (hb hby at_509) rfl rfl ?_
          refine o_icmp_ne X140 hx (pc' := 514) (pt := 518) (hb hby at_511) rfl (by decide) (by decide) (fun q => absurd (by decide) q) (fun _ => ?_)
          refine o_iconst X140 hx (pc' := 515) (v := (1 : Int32)) (hb hby at_514) rfl rfl ?_
          refine o_goto X140 hx (pc' := 519) (hb hby at_515) (by decide) (by decide) ?_
          exact finSN X140 hx (own_EW hw) SW e140 hlk (t := .boolean) hret (by simp) (hb hby at_519) (by decide) (by decide) ⟨rfl, NN⟩
    obtain ⟨j, hj, ej⟩ := own_r21 p2
    rw [ej]
    exact Jc _ j (own_c8 p3) hj
  refine o_iloadN X0 hx (pc' := 1) (hb hby at_0) rfl rfl ?_
  refine o_iconst X0 hx (pc' := 2) (v := (1 : Int32)) (hb hby at_1) rfl rfl ?_
  refine o_iand X0 hx (pc' := 3) (hb hby at_2) rfl ?_
  refine o_if_eq X0 hx (pc' := 6) (pt := 10) (hb hby at_3) rfl (by decide) (by decide) (fun hc3 => ?_) (fun hc3 => ?_)
  · skip
    refine o_iconst X0 hx (pc' := 11) (v := (0 : Int32)) (hb hby at_10) rfl rfl ?_
    refine o_istore X0 hx (pc' := 13) (Ls' := #[.val (.int p1), .val (.int p2), .val (.int p3), .val (.int p4), .val (.int (0 : Int32)), .unset, .unset, .unset, .unset, .unset, .unset, .unset, .unset, .unset]) (hb hby at_11) rfl rfl ?_
    exact J13 _ (Or.inl rfl)
  · skip
    refine o_iconst X0 hx (pc' := 7) (v := (1 : Int32)) (hb hby at_6) rfl rfl ?_
    refine o_goto X0 hx (pc' := 11) (hb hby at_7) (by decide) (by decide) ?_
    refine o_istore X0 hx (pc' := 13) (Ls' := #[.val (.int p1), .val (.int p2), .val (.int p3), .val (.int p4), .val (.int (1 : Int32)), .unset, .unset, .unset, .unset, .unset, .unset, .unset, .unset, .unset]) (hb hby at_11) rfl rfl ?_
    exact J13 _ (Or.inr rfl)
set_option maxRecDepth 65536 in
set_option maxHeartbeats 40000000 in
theorem comes_1 {Post : Tables → Env → Array Value → State → Outcome → State → Prop} (hpost : ∀ tb e args s v u, (limb_1_1.after args s (.returned v) u = true ∧ limb_1_2.after args s (.returned v) u = true ∧ True) → FramedW s (.returned v) u (Jvm.fieldLocs frame_1_writes args s ++ Jvm.arrayLocs frame_1_arrays args s ++ Jvm.staticLocs frame_1_statics s) 40 7424 → Post tb e args s (.returned v) u) :
    ArmFor flags0 classFile x code maxLocals ret World_1 tables_1 room_1 Calls_1 rest_1 Pre_1 Post := by
  intro l hfl _ _ p e ha hc hk s m args below hf hA hF happ hP
  obtain ⟨hcalls, hrest, hpre⟩ := hP
  obtain ⟨-, -, -, hnamed, -, -, -, hat⟩ := (Spec.applies_iff hf).mp happ
  obtain ⟨hg, hn⟩ := and_e (Cond.before_iff.mp (show (Jvm.Cond.and given_1 narrow_1).before args s = true from hpre))
  obtain ⟨g0, r0⟩ := and_e hg
  obtain ⟨g1, r1⟩ := and_e r0
  obtain ⟨g2, r2⟩ := and_e r1
  obtain ⟨g3, r3⟩ := and_e r2
  have g4 := r3
  obtain ⟨w0, w1, w2, w3, rfl⟩ : ∃ w0 w1 w2 w3 : Value, args = #[w0, w1, w2, w3] := by
    have hs : args.size = 4 := by simpa [Cond.value, given_1] using g0
    obtain ⟨L⟩ := args
    match L, hs with
    | [w0, w1, w2, w3], _ => exact ⟨w0, w1, w2, w3, rfl⟩
  have hw := fun d (hd : d ∈ tables_1) => atoms_spec (ws := Jvm.Cond.code x code maxLocals ret :: tables_1) hat d (List.mem_cons_of_mem _ hd)
  have hfit : Fit s := fun {y c} hc i hi => by
    obtain ⟨ha, rfl⟩ := Array.getElem?_eq_some_iff.mp hc
    have q := List.all_eq_true.mp ((Array.all_eq_true_iff_forall_mem.mp hF) _ (Array.getElem_mem ha)) i (List.mem_range.mpr hi)
    simpa [Array.getElem?_eq_getElem hi] using q
  obtain ⟨i0, ei0⟩ := is_v g1
  obtain rfl : w0 = (.int i0) := Option.some.inj ei0
  obtain ⟨i1, ei1⟩ := is_v g2
  obtain rfl : w1 = (.int i1) := Option.some.inj ei1
  obtain ⟨i2, ei2⟩ := is_v g3
  obtain rfl : w2 = (.int i2) := Option.some.inj ei2
  obtain ⟨i3, ei3⟩ := is_v g4
  obtain rfl : w3 = (.int i3) := Option.some.inj ei3
  obtain ⟨hsets, hown0⟩ := atoms_of _ (rest_1_c_eq ▸ (show rest_1_c.before _ s = true from hrest))
  have n5 := not_v (Cond.before_iff.mp (hsets _ (List.mem_of_getElem? (i := 2) rfl)))
  obtain ⟨c0, ec0⟩ := is_v (Cond.before_iff.mp (hsets _ (List.mem_of_getElem? (i := 1) rfl)))
  have S0 : Sta s s.heap "java/lang/String" "COMPACT_STRINGS" "Z" (.int c0) := Sta.start ec0 (Or.inl (hsets _ (List.mem_of_getElem? (i := 0) rfl)))
  have hcs : ¬ (c0 = (0 : Int32)) := gotF (Cond.eq_ints ec0 (Term.int_eval (0))) n5
  obtain ⟨vf, ef, rf⟩ := isR_v (Cond.before_iff.mp (hsets _ (List.mem_of_getElem? (i := 8) rfl)))
  have SF0 : Sta s s.heap "jdk/internal/util/Preconditions" "SIOOBE_FORMATTER" "Ljava/util/function/BiFunction;" vf := Sta.start ef (Or.inl (hsets _ (List.mem_of_getElem? (i := 7) rfl)))
  have hcl : constsHeld consts_1 s := hcalls.1
  have hCH : CHv s own_EL s.vm s.heap := CHv.start (own_EW hw) (by
    intro p hp
    simp only [own_EL, List.mem_cons, List.not_mem_nil, or_false] at hp
    rcases hp with rfl | rfl | rfl | rfl | rfl | rfl | rfl
    · exact hcl _ (List.mem_of_getElem? (i := 0) rfl)
    · exact hcl _ (List.mem_of_getElem? (i := 1) rfl)
    · exact hcl _ (List.mem_of_getElem? (i := 2) rfl)
    · exact hcl _ (List.mem_of_getElem? (i := 3) rfl)
    · exact hcl _ (List.mem_of_getElem? (i := 4) rfl)
    · exact hcl _ (List.mem_of_getElem? (i := 5) rfl)
    · exact hcl _ (List.mem_of_getElem? (i := 6) rfl)) (hsets _ (List.mem_of_getElem? (i := 2) rfl)) (hw _ (List.mem_of_getElem? (i := 3) rfl)) (hw _ (List.mem_of_getElem? (i := 2) rfl))
  obtain ⟨n, o, h1, h2, h3, v, L, rfl, hQ, -, hq⟩ := rm0 l s _ hw tables_1 s.heap s.heap.size (Nat.le_refl _) i0 i1 i2 i3 c0 S0 hcs (Old.start s) vf SF0 rf p e ha hc hk s m _ below hf ((Spec.applies_iff_loose hf).mp happ).1 ⟨rfl, State.Warmed39.refl s, rfl, hCH⟩ trivial
  obtain ⟨rfl, N⟩ := hQ
  refine ⟨n, _, h1, h2, h3, hpost _ _ _ _ _ _ ⟨Cond.after_iff.mpr rfl, Cond.after_iff.mpr (eq_i res_at (Term.int_eval (1)) rfl), trivial⟩ ⟨hq.1, hq.2.1, hq.2.2.1, (hq.2.2.2.sift fun y hy => Or.inr (N y hy)).mono (by decide) (by decide)⟩⟩
theorem main_1_1 : Claimed_1_1 := comes_1 fun _ _ _ _ _ _ h hF => ⟨h.1, hF⟩
theorem main_1_2 : Claimed_1_2 := comes_1 fun _ _ _ _ _ _ h hF => ⟨h.2.1, hF⟩
end Jvm.Pilot.@@N@@
namespace Jvm.Pilot.@@N@@
open Jvm Jvm.ClassFile Sem Op Lib Jvm.Free Jvm.Stand Jvm.Pilot.@@N@@.Jvm.D
/-! MADE BY PROGRAM (witnessworld.py) out of the Statement's table words and the real class files: 20 classes; the members and pool entries that the words name. The judged class is class 1, her method 1. -/
namespace start1
open Jvm.ClassFile
def u (s : String) : CpInfo := .utf8 (stringToUtf16 s)
/-- a pool by its gaps: so many unusable entries, then the entry; so many at the end -/
def gap : Nat → List CpInfo → List CpInfo
  | 0, r => r
  | n + 1, r => .unusable :: gap n r
def poolList (es : List (Nat × CpInfo)) (last : Nat) : List CpInfo := es.foldr (fun e r => gap e.1 (e.2 :: r)) (gap last [])
def pool (es : List (Nat × CpInfo)) (last : Nat) : Array CpInfo := ⟨poolList es last⟩
def fileOf (pool : Array CpInfo) (this : Nat) (attrs : Array Attribute := #[]) (ms : Array MethodInfo := #[]) (fl : Nat := 33) (sup : Nat := 0) (ifs : Array Nat := #[]) (fds : Array FieldInfo := #[]) : ClassFile where
  minorVersion := 0
  majorVersion := 65
  constantPool := pool
  accessFlags := fl
  thisClass := this
  superClass := sup
  interfaces := ifs
  fields := fds
  methods := ms
  attributes := attrs
def plain (name : String) (sup : Option ClassId) : Class where
  name := name
  kind := .ordinary
  loader := none
  accessFlags := 33
  super := sup
  interfaces := #[]
  cf := none
  fields := #[]
  methods := #[]
  instanceTypes := #[]
  staticTypes := #[]
  resolved := #[]
  callSites := []
  init := .initialized
  statics := none
  mirror := none

def pool0 : Array CpInfo := pool [(5, u "<init>"), (0, u "()V"), (1, .class_ 10), (1, u "java/lang/Object")] 113

def k0c0 : Code := { maxStack := 0, maxLocals := 1, code := object_method_1_code, exceptionTable := #[], attributes := #[] }
def k0m0 : Method := { name := "<init>", desc := "()V", sig := { parameters := [], returnType := none }, accessFlags := 1, code := some k0c0 }
/-- java/lang/Object -/
def k0 : Class := { plain "java/lang/Object" none with
  accessFlags := 33
  interfaces := #[]
  cf := some (fileOf pool0 8 #[] #[{ accessFlags := 1, nameIndex := 5, descriptorIndex := 6, attributes := #[] }] 33 0 #[] #[])
  fields := #[]
  methods := #[k0m0]
  instanceTypes := #[]
  staticTypes := #[]
  resolved := Array.replicate 124 none
  statics := none }

def pool1 : Array CpInfo := pool [(2, .class_ 4), (1, u "java/lang/Object"), (0, u "<init>"), (0, u "()V"), (0, .string 8), (0, u "ENCRYPTED PRIVATE KEY"), (0, .integer 2147483647), (0, .class_ 11), (0, u "java/lang/String"), (0, .methodref 10 13), (0, .nameAndType 5 14), (0, u "([C)V"), (0, .methodref 10 16), (0, .nameAndType 17 18), (0, u "charAt"), (0, u "(I)C"), (0, .string 20), (0, u "PRIVATE KEY"), (0, .string 22), (0, u "RSA PRIVATE KEY"), (0, .string 24), (0, u "EC PRIVATE KEY"), (0, .string 26), (0, u "ENCRYPTED PRIVATE KE"), (0, .string 28), (0, u ""), (0, .methodref 10 30), (0, .nameAndType 31 32), (0, u "valueOf"), (0, u "(C)Ljava/lang/String;"), (0, .class_ 34), (0, u "com/example/shelfkey/shelfkey/http/Pem$Block"), (0, .methodref 33 36), (0, .nameAndType 5 37), (0, u "(Ljava/lang/String;Z[B)V"), (0, .methodref 39 40), (0, .class_ 41), (0, .nameAndType 42 43), (0, u "com/example/shelfkey/shelfkey/http/PrivateKeys"), (0, u "isEncrypted"), (0, u "(Lcom/example/shelfkey/shelfkey/http/Pem$Block;)Z"), (0, .class_ 45), (0, u "com/example/shelfkey/shelfkey/http/PrivateKeysIsEncryptedPinLaw"), (2, u "law"), (0, u "(IIII)Z")] 9

def k1m0 : Method := { name := "<init>", desc := "()V", sig := { parameters := [], returnType := none }, accessFlags := 1, code := none }
def k1c1 : Code := { maxStack := 5, maxLocals := 14, code := code, exceptionTable := #[], attributes := #[] }
def k1m1 : Method := { name := "law", desc := "(IIII)Z", sig := { parameters := [.int, .int, .int, .int], returnType := some .boolean }, accessFlags := 9, code := some k1c1 }
/-- com/example/shelfkey/shelfkey/http/PrivateKeysIsEncryptedPinLaw -/
def k1 : Class := { plain "com/example/shelfkey/shelfkey/http/PrivateKeysIsEncryptedPinLaw" (some 0) with
  accessFlags := 49
  interfaces := #[]
  cf := some (fileOf pool1 44 #[] #[{ accessFlags := 1, nameIndex := 5, descriptorIndex := 6, attributes := #[] }, { accessFlags := 9, nameIndex := 48, descriptorIndex := 49, attributes := #[] }] 49 2 #[] #[])
  fields := #[]
  methods := #[k1m0, k1m1]
  instanceTypes := #[]
  staticTypes := #[]
  resolved := Array.replicate 59 none
  statics := none }

def pool2 : Array CpInfo := pool [(1, .class_ 2), (0, u "java/io/Serializable"), (0, .class_ 4), (0, u "java/lang/Object")] 2

/-- java/io/Serializable -/
def k2 : Class := { plain "java/io/Serializable" (some 0) with
  accessFlags := 1537
  interfaces := #[]
  cf := some (fileOf pool2 1 #[] #[] 1537 3 #[] #[])
  fields := #[]
  methods := #[]
  instanceTypes := #[]
  staticTypes := #[]
  resolved := Array.replicate 7 none
  statics := none }

def pool3 : Array CpInfo := pool [(1, .class_ 2), (0, u "java/lang/Comparable"), (0, .class_ 4), (0, u "java/lang/Object")] 7

/-- java/lang/Comparable -/
def k3 : Class := { plain "java/lang/Comparable" (some 0) with
  accessFlags := 1537
  interfaces := #[]
  cf := some (fileOf pool3 1 #[] #[] 1537 3 #[] #[])
  fields := #[]
  methods := #[]
  instanceTypes := #[]
  staticTypes := #[]
  resolved := Array.replicate 12 none
  statics := none }

def pool4 : Array CpInfo := pool [(2, .class_ 4), (1, u "java/lang/CharSequence"), (42, .class_ 48), (0, u "java/lang/CharSequence$1CodePointIterator"), (10, .class_ 60), (0, u "java/lang/CharSequence$1CharIterator"), (5, .class_ 67), (0, u "java/lang/Object")] 63

/-- java/lang/CharSequence -/
def k4 : Class := { plain "java/lang/CharSequence" (some 0) with
  accessFlags := 1537
  interfaces := #[]
  cf := some (fileOf pool4 2 #[.nestMembers #[47, 59]] #[] 1537 66 #[] #[])
  fields := #[]
  methods := #[]
  instanceTypes := #[]
  staticTypes := #[]
  resolved := Array.replicate 131 none
  statics := none }

def pool5 : Array CpInfo := pool [(1, .class_ 2), (0, u "java/lang/constant/Constable"), (0, .class_ 4), (0, u "java/lang/Object")] 6

/-- java/lang/constant/Constable -/
def k5 : Class := { plain "java/lang/constant/Constable" (some 0) with
  accessFlags := 1537
  interfaces := #[]
  cf := some (fileOf pool5 1 #[] #[] 1537 3 #[] #[])
  fields := #[]
  methods := #[]
  instanceTypes := #[]
  staticTypes := #[]
  resolved := Array.replicate 11 none
  statics := none }

def pool6 : Array CpInfo := pool [(1, .class_ 2), (0, u "java/lang/constant/ConstantDesc"), (0, .class_ 4), (0, u "java/lang/Object")] 32

/-- java/lang/constant/ConstantDesc -/
def k6 : Class := { plain "java/lang/constant/ConstantDesc" (some 0) with
  accessFlags := 1537
  interfaces := #[]
  cf := some (fileOf pool6 1 #[] #[] 1537 3 #[] #[])
  fields := #[]
  methods := #[]
  instanceTypes := #[]
  staticTypes := #[]
  resolved := Array.replicate 37 none
  statics := none }

def pool7 : Array CpInfo := pool [(1, .methodref 2 3), (0, .class_ 4), (0, .nameAndType 5 6), (0, u "java/lang/Object"), (0, u "<init>"), (0, u "()V"), (2, .fieldref 10 11), (0, .class_ 12), (0, .nameAndType 13 14), (0, u "java/lang/String"), (0, u "value"), (0, u "[B"), (0, .fieldref 10 16), (0, .nameAndType 17 18), (0, u "coder"), (0, u "B"), (2, u "hash"), (0, u "I"), (2, u "hashIsZero"), (0, u "Z"), (0, .methodref 10 28), (0, .nameAndType 5 29), (0, u "([CIILjava/lang/Void;)V"), (8, .fieldref 10 39), (0, .nameAndType 40 26), (0, u "COMPACT_STRINGS"), (1, .class_ 44), (1, u "java/lang/StringUTF16"), (0, u "compress"), (1, .methodref 42 48), (0, .nameAndType 49 50), (0, u "coderFromArrayLen"), (0, u "([BI)B"), (2, u "toBytes"), (53, .class_ 109), (1, u "java/lang/StringLatin1"), (32, u "()Z"), (34, .methodref 42 178), (0, .nameAndType 45 179), (0, u "([CII)[B"), (29, .methodref 10 210), (0, .nameAndType 5 211), (0, u "([BB)V"), (151, u "([BI)C"), (5, u "(C)Z"), (21, u "(II)V"), (35, u "(I)C"), (64, .methodref 10 493), (0, .nameAndType 494 142), (0, u "isLatin1"), (0, .methodref 107 496), (0, .nameAndType 497 363), (0, u "charAt"), (3, u "checkIndex"), (39, .methodref 107 542), (0, .nameAndType 543 544), (0, u "equals"), (0, u "([B[B)Z"), (28, u "(Ljava/lang/Object;)Z"), (1, .class_ 576), (0, u "java/lang/CharSequence"), (22, u "CASE_INSENSITIVE_ORDER"), (0, u "Ljava/util/Comparator;"), (181, u "valueOf"), (0, u "(C)Ljava/lang/String;"), (226, u "([C)V"), (4, .methodref 107 1016), (0, .nameAndType 1017 369), (0, u "canEncode"), (0, .methodref 107 1019), (0, .nameAndType 53 1020), (0, u "(C)[B"), (32, .fieldref 1054 1055), (0, .class_ 1056), (0, .nameAndType 1057 1058), (0, u "jdk/internal/util/Preconditions"), (0, u "SIOOBE_FORMATTER"), (0, u "Ljava/util/function/BiFunction;"), (0, .methodref 1054 1060), (0, .nameAndType 501 1061), (0, u "(IILjava/util/function/BiFunction;)I"), (39, u "serialPersistentFields"), (0, u "[Ljava/io/ObjectStreamField;"), (0, .class_ 1104), (0, u "java/lang/String$CaseInsensitiveComparator"), (1, .class_ 1107), (0, u "java/io/Serializable"), (0, .class_ 1109), (0, u "java/lang/Comparable"), (0, .class_ 1111), (0, u "java/lang/constant/Constable"), (0, .class_ 1113), (0, u "java/lang/constant/ConstantDesc"), (2, u "serialVersionUID"), (0, u "J"), (3, u "REPL"), (0, u "C"), (2, u "LATIN1"), (1, u "UTF16")] 323

def k7m0 : Method := { name := "<init>", desc := "()V", sig := { parameters := [], returnType := none }, accessFlags := 1, code := none }
def k7c1 : Code := { maxStack := 5, maxLocals := 2, code := jdk_42_method_3_code, exceptionTable := #[], attributes := #[] }
def k7m1 : Method := { name := "<init>", desc := "([C)V", sig := { parameters := [(.array .char)], returnType := none }, accessFlags := 1, code := some k7c1 }
def k7c2 : Code := { maxStack := 2, maxLocals := 2, code := jdk_42_method_56_code, exceptionTable := #[], attributes := #[] }
def k7m2 : Method := { name := "charAt", desc := "(I)C", sig := { parameters := [.int], returnType := some .char }, accessFlags := 1, code := some k7c2 }
def k7c3 : Code := { maxStack := 2, maxLocals := 3, code := jdk_42_method_66_code, exceptionTable := #[], attributes := #[] }
def k7m3 : Method := { name := "equals", desc := "(Ljava/lang/Object;)Z", sig := { parameters := [(.object "java/lang/Object")], returnType := some .boolean }, accessFlags := 1, code := some k7c3 }
def k7c4 : Code := { maxStack := 4, maxLocals := 1, code := jdk_42_method_139_code, exceptionTable := #[], attributes := #[] }
def k7m4 : Method := { name := "valueOf", desc := "(C)Ljava/lang/String;", sig := { parameters := [.char], returnType := some (.object "java/lang/String") }, accessFlags := 9, code := some k7c4 }
def k7c5 : Code := { maxStack := 4, maxLocals := 6, code := jdk_42_method_149_code, exceptionTable := #[], attributes := #[] }
def k7m5 : Method := { name := "<init>", desc := "([CIILjava/lang/Void;)V", sig := { parameters := [(.array .char), .int, .int, (.object "java/lang/Void")], returnType := none }, accessFlags := 2, code := some k7c5 }
def k7c6 : Code := { maxStack := 2, maxLocals := 3, code := jdk_42_method_151_code, exceptionTable := #[], attributes := #[] }
def k7m6 : Method := { name := "<init>", desc := "([BB)V", sig := { parameters := [(.array .byte), .byte], returnType := none }, accessFlags := 0, code := some k7c6 }
def k7c7 : Code := { maxStack := 1, maxLocals := 1, code := jdk_42_method_154_code, exceptionTable := #[], attributes := #[] }
def k7m7 : Method := { name := "isLatin1", desc := "()Z", sig := { parameters := [], returnType := some .boolean }, accessFlags := 0, code := some k7c7 }
def k7c8 : Code := { maxStack := 3, maxLocals := 2, code := jdk_42_method_155_code, exceptionTable := #[], attributes := #[] }
def k7m8 : Method := { name := "checkIndex", desc := "(II)V", sig := { parameters := [.int, .int], returnType := none }, accessFlags := 8, code := some k7c8 }
/-- java/lang/String -/
def k7 : Class := { plain "java/lang/String" (some 0) with
  accessFlags := 49
  interfaces := #[2, 3, 4, 5, 6]
  cf := some (fileOf pool7 10 #[.nestMembers #[1103]] #[{ accessFlags := 1, nameIndex := 5, descriptorIndex := 6, attributes := #[] }, { accessFlags := 1, nameIndex := 5, descriptorIndex := 1010, attributes := #[] }, { accessFlags := 1, nameIndex := 497, descriptorIndex := 427, attributes := #[] }, { accessFlags := 1, nameIndex := 543, descriptorIndex := 573, attributes := #[] }, { accessFlags := 9, nameIndex := 782, descriptorIndex := 783, attributes := #[] }, { accessFlags := 2, nameIndex := 5, descriptorIndex := 29, attributes := #[] }, { accessFlags := 0, nameIndex := 5, descriptorIndex := 211, attributes := #[] }, { accessFlags := 0, nameIndex := 494, descriptorIndex := 142, attributes := #[] }, { accessFlags := 8, nameIndex := 501, descriptorIndex := 391, attributes := #[] }] 49 2 #[1106, 1108, 575, 1110, 1112] #[{ accessFlags := 18, nameIndex := 13, descriptorIndex := 14, attributes := #[] }, { accessFlags := 18, nameIndex := 17, descriptorIndex := 18, attributes := #[] }, { accessFlags := 2, nameIndex := 21, descriptorIndex := 22, attributes := #[] }, { accessFlags := 2, nameIndex := 25, descriptorIndex := 26, attributes := #[] }, { accessFlags := 26, nameIndex := 1116, descriptorIndex := 1117, attributes := #[] }, { accessFlags := 24, nameIndex := 40, descriptorIndex := 26, attributes := #[] }, { accessFlags := 26, nameIndex := 1101, descriptorIndex := 1102, attributes := #[] }, { accessFlags := 26, nameIndex := 1121, descriptorIndex := 1122, attributes := #[] }, { accessFlags := 25, nameIndex := 599, descriptorIndex := 600, attributes := #[] }, { accessFlags := 24, nameIndex := 1125, descriptorIndex := 18, attributes := #[] }, { accessFlags := 24, nameIndex := 1127, descriptorIndex := 18, attributes := #[] }])
  fields := #[{ name := "value", type := (.array .byte), accessFlags := 18, slot := 0, constantValue := 0 }, { name := "coder", type := .byte, accessFlags := 18, slot := 1, constantValue := 0 }, { name := "hash", type := .int, accessFlags := 2, slot := 2, constantValue := 0 }, { name := "hashIsZero", type := .boolean, accessFlags := 2, slot := 3, constantValue := 0 }, { name := "serialVersionUID", type := .long, accessFlags := 26, slot := 0, constantValue := 0 }, { name := "COMPACT_STRINGS", type := .boolean, accessFlags := 24, slot := 1, constantValue := 0 }, { name := "serialPersistentFields", type := (.array (.object "java/io/ObjectStreamField")), accessFlags := 26, slot := 2, constantValue := 0 }, { name := "REPL", type := .char, accessFlags := 26, slot := 3, constantValue := 0 }, { name := "CASE_INSENSITIVE_ORDER", type := (.object "java/util/Comparator"), accessFlags := 25, slot := 4, constantValue := 0 }, { name := "LATIN1", type := .byte, accessFlags := 24, slot := 5, constantValue := 0 }, { name := "UTF16", type := .byte, accessFlags := 24, slot := 6, constantValue := 0 }]
  methods := #[k7m0, k7m1, k7m2, k7m3, k7m4, k7m5, k7m6, k7m7, k7m8]
  instanceTypes := #[(.array .byte), .byte, .int, .boolean]
  staticTypes := #[.long, .boolean, (.array (.object "java/io/ObjectStreamField")), .char, (.object "java/util/Comparator"), .byte, .byte]
  resolved := Array.replicate 1451 none
  statics := some 0 }

def pool8 : Array CpInfo := pool [(6, .class_ 8), (1, u "java/lang/Object"), (0, u "<init>"), (0, u "()V"), (1, .class_ 14), (1, u "java/lang/StringUTF16"), (31, u "$assertionsDisabled"), (0, u "Z"), (13, u "HI_BYTE_SHIFT"), (0, u "I"), (2, u "LO_BYTE_SHIFT"), (49, .methodref 12 116), (0, .nameAndType 117 118), (0, u "compress"), (0, u "([CI[BII)I"), (3, u "([CII)[B"), (138, u "coderFromArrayLen"), (0, u "([BI)B"), (106, .class_ 371), (1, u "java/lang/StringUTF16$LinesSpliterator"), (58, u "MAX_LENGTH"), (196, .class_ 628), (0, u "java/lang/StringUTF16$CodePointsSpliterator"), (0, .class_ 630), (0, u "java/lang/StringUTF16$CharsSpliterator")] 4

def k8m0 : Method := { name := "<init>", desc := "()V", sig := { parameters := [], returnType := none }, accessFlags := 0, code := none }
def k8c1 : Code := { maxStack := 2, maxLocals := 2, code := jdk_52_method_15_code, exceptionTable := #[], attributes := #[] }
def k8m1 : Method := { name := "coderFromArrayLen", desc := "([BI)B", sig := { parameters := [(.array .byte), .int], returnType := some .byte }, accessFlags := 8, code := some k8c1 }
def k8c2 : Code := { maxStack := 5, maxLocals := 6, code := jdk_52_method_16_code, exceptionTable := #[], attributes := #[] }
def k8m2 : Method := { name := "compress", desc := "([CII)[B", sig := { parameters := [(.array .char), .int, .int], returnType := some (.array .byte) }, accessFlags := 9, code := some k8c2 }
def k8c3 : Code := { maxStack := 3, maxLocals := 7, code := jdk_52_method_21_code, exceptionTable := #[], attributes := #[] }
def k8m3 : Method := { name := "compress", desc := "([CI[BII)I", sig := { parameters := [(.array .char), .int, (.array .byte), .int, .int], returnType := some .int }, accessFlags := 9, code := some k8c3 }
/-- java/lang/StringUTF16 -/
def k8 : Class := { plain "java/lang/StringUTF16" (some 0) with
  accessFlags := 48
  interfaces := #[]
  cf := some (fileOf pool8 12 #[.nestMembers #[627, 629, 369]] #[{ accessFlags := 0, nameIndex := 9, descriptorIndex := 10, attributes := #[] }, { accessFlags := 8, nameIndex := 261, descriptorIndex := 262, attributes := #[] }, { accessFlags := 9, nameIndex := 117, descriptorIndex := 122, attributes := #[] }, { accessFlags := 9, nameIndex := 117, descriptorIndex := 118, attributes := #[] }] 48 6 #[] #[{ accessFlags := 26, nameIndex := 61, descriptorIndex := 62, attributes := #[] }, { accessFlags := 26, nameIndex := 65, descriptorIndex := 62, attributes := #[] }, { accessFlags := 24, nameIndex := 430, descriptorIndex := 62, attributes := #[] }, { accessFlags := 4120, nameIndex := 46, descriptorIndex := 47, attributes := #[] }])
  fields := #[{ name := "HI_BYTE_SHIFT", type := .int, accessFlags := 26, slot := 0, constantValue := 0 }, { name := "LO_BYTE_SHIFT", type := .int, accessFlags := 26, slot := 1, constantValue := 0 }, { name := "MAX_LENGTH", type := .int, accessFlags := 24, slot := 2, constantValue := 0 }, { name := "$assertionsDisabled", type := .boolean, accessFlags := 4120, slot := 3, constantValue := 0 }]
  methods := #[k8m0, k8m1, k8m2, k8m3]
  instanceTypes := #[]
  staticTypes := #[.int, .int, .int, .boolean]
  resolved := Array.replicate 635 none
  statics := none }

def pool9 : Array CpInfo := pool [(1, .methodref 2 3), (0, .class_ 4), (0, .nameAndType 5 6), (0, u "java/lang/Object"), (0, u "<init>"), (0, u "()V"), (0, .class_ 8), (0, u "java/lang/Record")] 13

def k9c0 : Code := { maxStack := 1, maxLocals := 1, code := jdk_30_method_1_code, exceptionTable := #[], attributes := #[] }
def k9m0 : Method := { name := "<init>", desc := "()V", sig := { parameters := [], returnType := none }, accessFlags := 4, code := some k9c0 }
/-- java/lang/Record -/
def k9 : Class := { plain "java/lang/Record" (some 0) with
  accessFlags := 1057
  interfaces := #[]
  cf := some (fileOf pool9 7 #[] #[{ accessFlags := 4, nameIndex := 5, descriptorIndex := 6, attributes := #[] }] 1057 2 #[] #[])
  fields := #[]
  methods := #[k9m0]
  instanceTypes := #[]
  staticTypes := #[]
  resolved := Array.replicate 22 none
  statics := none }

def pool10 : Array CpInfo := pool [(1, .methodref 2 3), (0, .class_ 4), (0, .nameAndType 5 6), (0, u "java/lang/Record"), (0, u "<init>"), (0, u "()V"), (0, .fieldref 8 9), (0, .class_ 10), (0, .nameAndType 11 12), (0, u "com/example/shelfkey/shelfkey/http/Pem$Block"), (0, u "label"), (0, u "Ljava/lang/String;"), (0, .fieldref 8 14), (0, .nameAndType 15 16), (0, u "encrypted"), (0, u "Z"), (0, .fieldref 8 18), (0, .nameAndType 19 20), (0, u "contents"), (0, u "[B"), (12, u "(Ljava/lang/String;Z[B)V"), (3, u "()Ljava/lang/String;"), (2, u "()Z"), (4, .class_ 46), (0, u "com/example/shelfkey/shelfkey/http/Pem")] 21

def k10c0 : Code := { maxStack := 2, maxLocals := 4, code := prog_38_method_1_code, exceptionTable := #[], attributes := #[] }
def k10m0 : Method := { name := "<init>", desc := "(Ljava/lang/String;Z[B)V", sig := { parameters := [(.object "java/lang/String"), .boolean, (.array .byte)], returnType := none }, accessFlags := 0, code := some k10c0 }
def k10c1 : Code := { maxStack := 1, maxLocals := 1, code := prog_38_method_5_code, exceptionTable := #[], attributes := #[] }
def k10m1 : Method := { name := "label", desc := "()Ljava/lang/String;", sig := { parameters := [], returnType := some (.object "java/lang/String") }, accessFlags := 1, code := some k10c1 }
def k10c2 : Code := { maxStack := 1, maxLocals := 1, code := prog_38_method_6_code, exceptionTable := #[], attributes := #[] }
def k10m2 : Method := { name := "encrypted", desc := "()Z", sig := { parameters := [], returnType := some .boolean }, accessFlags := 1, code := some k10c2 }
/-- com/example/shelfkey/shelfkey/http/Pem$Block -/
def k10 : Class := { plain "com/example/shelfkey/shelfkey/http/Pem$Block" (some 9) with
  accessFlags := 48
  interfaces := #[]
  cf := some (fileOf pool10 8 #[.nestHost 45] #[{ accessFlags := 0, nameIndex := 5, descriptorIndex := 33, attributes := #[] }, { accessFlags := 1, nameIndex := 11, descriptorIndex := 37, attributes := #[] }, { accessFlags := 1, nameIndex := 15, descriptorIndex := 40, attributes := #[] }] 48 2 #[] #[{ accessFlags := 18, nameIndex := 11, descriptorIndex := 12, attributes := #[] }, { accessFlags := 18, nameIndex := 15, descriptorIndex := 16, attributes := #[] }, { accessFlags := 18, nameIndex := 19, descriptorIndex := 20, attributes := #[] }])
  fields := #[{ name := "label", type := (.object "java/lang/String"), accessFlags := 18, slot := 0, constantValue := 0 }, { name := "encrypted", type := .boolean, accessFlags := 18, slot := 1, constantValue := 0 }, { name := "contents", type := (.array .byte), accessFlags := 18, slot := 2, constantValue := 0 }]
  methods := #[k10m0, k10m1, k10m2]
  instanceTypes := #[(.object "java/lang/String"), .boolean, (.array .byte)]
  staticTypes := #[]
  resolved := Array.replicate 68 none
  statics := none }

def pool11 : Array CpInfo := pool [(2, .class_ 4), (1, u "java/lang/Object"), (0, u "<init>"), (0, u "()V"), (1, .class_ 10), (1, u "com/example/shelfkey/shelfkey/http/PrivateKeys"), (0, u "LABELS"), (0, u "Ljava/util/Set;"), (0, .methodref 14 15), (0, .class_ 16), (0, .nameAndType 17 18), (0, u "com/example/shelfkey/shelfkey/http/Pem$Block"), (0, u "label"), (0, u "()Ljava/lang/String;"), (5, u "(Ljava/lang/Object;)Z"), (0, .methodref 14 26), (0, .nameAndType 27 28), (0, u "encrypted"), (0, u "()Z"), (0, .string 30), (0, u "ENCRYPTED PRIVATE KEY"), (0, .methodref 32 33), (0, .class_ 34), (0, .nameAndType 35 24), (0, u "java/lang/String"), (0, u "equals"), (9, .class_ 47), (1, u "com/example/shelfkey/shelfkey/http/PrivateKeys$Algorithm"), (2, .class_ 51), (0, u "com/example/shelfkey/shelfkey/http/PrivateKeys$Der"), (1, u "[B"), (24, .class_ 80), (1, u "com/example/shelfkey/shelfkey/http/PrivateKeys$Der$Value"), (35, u "Ljava/lang/String;"), (11, u "PROBE"), (83, u "PKCS8"), (1, u "PKCS1"), (0, u "SEC1"), (0, u "PKCS8_ENCRYPTED"), (5, u "(Lcom/example/shelfkey/shelfkey/http/Pem$Block;)Z"), (0, u "isEncrypted")] 23

def k11m0 : Method := { name := "<init>", desc := "()V", sig := { parameters := [], returnType := none }, accessFlags := 2, code := none }
def k11c1 : Code := { maxStack := 2, maxLocals := 1, code := prog_40_method_3_code, exceptionTable := #[], attributes := #[] }
def k11m1 : Method := { name := "isEncrypted", desc := "(Lcom/example/shelfkey/shelfkey/http/Pem$Block;)Z", sig := { parameters := [(.object "com/example/shelfkey/shelfkey/http/Pem$Block")], returnType := some .boolean }, accessFlags := 8, code := some k11c1 }
/-- com/example/shelfkey/shelfkey/http/PrivateKeys -/
def k11 : Class := { plain "com/example/shelfkey/shelfkey/http/PrivateKeys" (some 0) with
  accessFlags := 48
  interfaces := #[]
  cf := some (fileOf pool11 8 #[.nestMembers #[50, 78, 45]] #[{ accessFlags := 2, nameIndex := 5, descriptorIndex := 6, attributes := #[] }, { accessFlags := 8, nameIndex := 223, descriptorIndex := 222, attributes := #[] }] 48 2 #[] #[{ accessFlags := 26, nameIndex := 212, descriptorIndex := 116, attributes := #[] }, { accessFlags := 26, nameIndex := 214, descriptorIndex := 116, attributes := #[] }, { accessFlags := 26, nameIndex := 215, descriptorIndex := 116, attributes := #[] }, { accessFlags := 26, nameIndex := 216, descriptorIndex := 116, attributes := #[] }, { accessFlags := 26, nameIndex := 11, descriptorIndex := 12, attributes := #[] }, { accessFlags := 26, nameIndex := 128, descriptorIndex := 53, attributes := #[] }])
  fields := #[{ name := "PKCS8", type := (.object "java/lang/String"), accessFlags := 26, slot := 0, constantValue := 0 }, { name := "PKCS1", type := (.object "java/lang/String"), accessFlags := 26, slot := 1, constantValue := 0 }, { name := "SEC1", type := (.object "java/lang/String"), accessFlags := 26, slot := 2, constantValue := 0 }, { name := "PKCS8_ENCRYPTED", type := (.object "java/lang/String"), accessFlags := 26, slot := 3, constantValue := 0 }, { name := "LABELS", type := (.object "java/util/Set"), accessFlags := 26, slot := 4, constantValue := 0 }, { name := "PROBE", type := (.array .byte), accessFlags := 26, slot := 5, constantValue := 0 }]
  methods := #[k11m0, k11m1]
  instanceTypes := #[]
  staticTypes := #[(.object "java/lang/String"), (.object "java/lang/String"), (.object "java/lang/String"), (.object "java/lang/String"), (.object "java/util/Set"), (.array .byte)]
  resolved := Array.replicate 247 none
  statics := none }

def pool12 : Array CpInfo := pool [(1, .class_ 2), (0, u "java/lang/String"), (1, .class_ 6), (1, u "java/lang/Object"), (0, u "<init>"), (0, u "()V"), (0, .methodref 1 10), (0, .nameAndType 11 12), (0, u "checkIndex"), (0, u "(II)V"), (1, .class_ 16), (1, u "java/lang/StringLatin1"), (36, u "([BI)C"), (36, u "canEncode"), (14, u "(C)Z"), (15, u "$assertionsDisabled"), (0, u "Z"), (98, .class_ 223), (1, u "java/lang/StringLatin1$LinesSpliterator"), (28, u "charAt"), (28, u "equals"), (0, u "([B[B)Z"), (97, u "toBytes"), (1, u "(C)[B"), (7, .class_ 391), (0, u "java/lang/StringLatin1$CharsSpliterator")] 3

def k12m0 : Method := { name := "<init>", desc := "()V", sig := { parameters := [], returnType := none }, accessFlags := 0, code := none }
def k12c1 : Code := { maxStack := 2, maxLocals := 2, code := jdk_43_method_2_code, exceptionTable := #[], attributes := #[] }
def k12m1 : Method := { name := "charAt", desc := "([BI)C", sig := { parameters := [(.array .byte), .int], returnType := some .char }, accessFlags := 9, code := some k12c1 }
def k12c2 : Code := { maxStack := 2, maxLocals := 1, code := jdk_43_method_3_code, exceptionTable := #[], attributes := #[] }
def k12m2 : Method := { name := "canEncode", desc := "(C)Z", sig := { parameters := [.char], returnType := some .boolean }, accessFlags := 9, code := some k12c2 }
def k12c3 : Code := { maxStack := 3, maxLocals := 3, code := jdk_43_method_13_code, exceptionTable := #[], attributes := #[] }
def k12m3 : Method := { name := "equals", desc := "([B[B)Z", sig := { parameters := [(.array .byte), (.array .byte)], returnType := some .boolean }, accessFlags := 9, code := some k12c3 }
def k12c4 : Code := { maxStack := 4, maxLocals := 1, code := jdk_43_method_46_code, exceptionTable := #[], attributes := #[] }
def k12m4 : Method := { name := "toBytes", desc := "(C)[B", sig := { parameters := [.char], returnType := some (.array .byte) }, accessFlags := 9, code := some k12c4 }
/-- java/lang/StringLatin1 -/
def k12 : Class := { plain "java/lang/StringLatin1" (some 0) with
  accessFlags := 48
  interfaces := #[]
  cf := some (fileOf pool12 14 #[.nestMembers #[390, 221]] #[{ accessFlags := 0, nameIndex := 7, descriptorIndex := 8, attributes := #[] }, { accessFlags := 9, nameIndex := 252, descriptorIndex := 53, attributes := #[] }, { accessFlags := 9, nameIndex := 90, descriptorIndex := 105, attributes := #[] }, { accessFlags := 9, nameIndex := 281, descriptorIndex := 282, attributes := #[] }, { accessFlags := 9, nameIndex := 380, descriptorIndex := 382, attributes := #[] }] 48 4 #[] #[{ accessFlags := 4120, nameIndex := 121, descriptorIndex := 122, attributes := #[] }])
  fields := #[{ name := "$assertionsDisabled", type := .boolean, accessFlags := 4120, slot := 0, constantValue := 0 }]
  methods := #[k12m0, k12m1, k12m2, k12m3, k12m4]
  instanceTypes := #[]
  staticTypes := #[.boolean]
  resolved := Array.replicate 395 none
  statics := none }

def pool13 : Array CpInfo := pool [(2, .class_ 4), (1, u "java/lang/Object"), (0, u "<init>"), (0, u "()V"), (17, .class_ 26), (1, u "jdk/internal/util/Preconditions"), (6, u "checkIndex"), (21, .class_ 56), (0, u "jdk/internal/util/Preconditions$4"), (57, .class_ 115), (0, u "jdk/internal/util/Preconditions$1"), (7, u "SIOOBE_FORMATTER"), (0, u "Ljava/util/function/BiFunction;"), (0, .class_ 126), (0, u "jdk/internal/util/Preconditions$2"), (3, u "AIOOBE_FORMATTER"), (0, .class_ 132), (0, u "jdk/internal/util/Preconditions$3"), (3, u "IOOBE_FORMATTER"), (41, u "(IILjava/util/function/BiFunction;)I")] 15

def k13m0 : Method := { name := "<init>", desc := "()V", sig := { parameters := [], returnType := none }, accessFlags := 1, code := none }
def k13c1 : Code := { maxStack := 3, maxLocals := 3, code := jdk_41_method_11_code, exceptionTable := #[], attributes := #[] }
def k13m1 : Method := { name := "checkIndex", desc := "(IILjava/util/function/BiFunction;)I", sig := { parameters := [.int, .int, (.object "java/util/function/BiFunction")], returnType := some .int }, accessFlags := 9, code := some k13c1 }
/-- jdk/internal/util/Preconditions -/
def k13 : Class := { plain "jdk/internal/util/Preconditions" (some 0) with
  accessFlags := 33
  interfaces := #[]
  cf := some (fileOf pool13 24 #[.nestMembers #[55, 131, 125, 114]] #[{ accessFlags := 1, nameIndex := 5, descriptorIndex := 6, attributes := #[] }, { accessFlags := 9, nameIndex := 33, descriptorIndex := 178, attributes := #[] }] 33 2 #[] #[{ accessFlags := 25, nameIndex := 123, descriptorIndex := 124, attributes := #[] }, { accessFlags := 25, nameIndex := 130, descriptorIndex := 124, attributes := #[] }, { accessFlags := 25, nameIndex := 136, descriptorIndex := 124, attributes := #[] }])
  fields := #[{ name := "SIOOBE_FORMATTER", type := (.object "java/util/function/BiFunction"), accessFlags := 25, slot := 0, constantValue := 0 }, { name := "AIOOBE_FORMATTER", type := (.object "java/util/function/BiFunction"), accessFlags := 25, slot := 1, constantValue := 0 }, { name := "IOOBE_FORMATTER", type := (.object "java/util/function/BiFunction"), accessFlags := 25, slot := 2, constantValue := 0 }]
  methods := #[k13m0, k13m1]
  instanceTypes := #[]
  staticTypes := #[(.object "java/util/function/BiFunction"), (.object "java/util/function/BiFunction"), (.object "java/util/function/BiFunction")]
  resolved := Array.replicate 194 none
  statics := some 1 }

def pool14 : Array CpInfo := pool [(9, u "<init>"), (6, .class_ 18), (1, u "java/lang/Object"), (0, u "()V"), (1, .class_ 23), (1, u "jdk/internal/util/ArraysSupport"), (0, u "LOG2_ARRAY_LONG_INDEX_SCALE"), (0, u "I"), (2, u "U"), (0, u "Ljdk/internal/misc/Unsafe;"), (8, u "BIG_ENDIAN"), (0, u "Z"), (8, u "LOG2_BYTE_BIT_SIZE"), (4, u "LOG2_ARRAY_INT_INDEX_SCALE"), (54, u "JLA"), (0, u "Ljdk/internal/access/JavaLangAccess;"), (11, u "LOG2_ARRAY_BOOLEAN_INDEX_SCALE"), (9, u "LOG2_ARRAY_BYTE_INDEX_SCALE"), (5, u "LOG2_ARRAY_CHAR_INDEX_SCALE"), (5, u "LOG2_ARRAY_SHORT_INDEX_SCALE"), (18, u "LOG2_ARRAY_FLOAT_INDEX_SCALE"), (24, u "LOG2_ARRAY_DOUBLE_INDEX_SCALE"), (89, u "T_BOOLEAN"), (2, u "T_CHAR"), (1, u "T_FLOAT"), (1, u "T_DOUBLE"), (1, u "T_BYTE"), (1, u "T_SHORT"), (1, u "T_INT"), (1, u "T_LONG"), (1, u "SOFT_MAX_ARRAY_LENGTH")] 83

def k14m0 : Method := { name := "<init>", desc := "()V", sig := { parameters := [], returnType := none }, accessFlags := 2, code := none }
/-- jdk/internal/util/ArraysSupport -/
def k14 : Class := { plain "jdk/internal/util/ArraysSupport" (some 0) with
  accessFlags := 33
  interfaces := #[]
  cf := some (fileOf pool14 21 #[] #[{ accessFlags := 2, nameIndex := 9, descriptorIndex := 19, attributes := #[] }] 33 16 #[] #[{ accessFlags := 24, nameIndex := 28, descriptorIndex := 29, attributes := #[] }, { accessFlags := 26, nameIndex := 38, descriptorIndex := 39, attributes := #[] }, { accessFlags := 25, nameIndex := 121, descriptorIndex := 25, attributes := #[] }, { accessFlags := 25, nameIndex := 131, descriptorIndex := 25, attributes := #[] }, { accessFlags := 25, nameIndex := 137, descriptorIndex := 25, attributes := #[] }, { accessFlags := 25, nameIndex := 143, descriptorIndex := 25, attributes := #[] }, { accessFlags := 25, nameIndex := 53, descriptorIndex := 25, attributes := #[] }, { accessFlags := 25, nameIndex := 24, descriptorIndex := 25, attributes := #[] }, { accessFlags := 25, nameIndex := 162, descriptorIndex := 25, attributes := #[] }, { accessFlags := 25, nameIndex := 187, descriptorIndex := 25, attributes := #[] }, { accessFlags := 26, nameIndex := 48, descriptorIndex := 25, attributes := #[] }, { accessFlags := 25, nameIndex := 277, descriptorIndex := 25, attributes := #[] }, { accessFlags := 25, nameIndex := 280, descriptorIndex := 25, attributes := #[] }, { accessFlags := 25, nameIndex := 282, descriptorIndex := 25, attributes := #[] }, { accessFlags := 25, nameIndex := 284, descriptorIndex := 25, attributes := #[] }, { accessFlags := 25, nameIndex := 286, descriptorIndex := 25, attributes := #[] }, { accessFlags := 25, nameIndex := 288, descriptorIndex := 25, attributes := #[] }, { accessFlags := 25, nameIndex := 290, descriptorIndex := 25, attributes := #[] }, { accessFlags := 25, nameIndex := 292, descriptorIndex := 25, attributes := #[] }, { accessFlags := 26, nameIndex := 108, descriptorIndex := 109, attributes := #[] }, { accessFlags := 25, nameIndex := 294, descriptorIndex := 25, attributes := #[] }])
  fields := #[{ name := "U", type := (.object "jdk/internal/misc/Unsafe"), accessFlags := 24, slot := 0, constantValue := 0 }, { name := "BIG_ENDIAN", type := .boolean, accessFlags := 26, slot := 1, constantValue := 0 }, { name := "LOG2_ARRAY_BOOLEAN_INDEX_SCALE", type := .int, accessFlags := 25, slot := 2, constantValue := 0 }, { name := "LOG2_ARRAY_BYTE_INDEX_SCALE", type := .int, accessFlags := 25, slot := 3, constantValue := 0 }, { name := "LOG2_ARRAY_CHAR_INDEX_SCALE", type := .int, accessFlags := 25, slot := 4, constantValue := 0 }, { name := "LOG2_ARRAY_SHORT_INDEX_SCALE", type := .int, accessFlags := 25, slot := 5, constantValue := 0 }, { name := "LOG2_ARRAY_INT_INDEX_SCALE", type := .int, accessFlags := 25, slot := 6, constantValue := 0 }, { name := "LOG2_ARRAY_LONG_INDEX_SCALE", type := .int, accessFlags := 25, slot := 7, constantValue := 0 }, { name := "LOG2_ARRAY_FLOAT_INDEX_SCALE", type := .int, accessFlags := 25, slot := 8, constantValue := 0 }, { name := "LOG2_ARRAY_DOUBLE_INDEX_SCALE", type := .int, accessFlags := 25, slot := 9, constantValue := 0 }, { name := "LOG2_BYTE_BIT_SIZE", type := .int, accessFlags := 26, slot := 10, constantValue := 0 }, { name := "T_BOOLEAN", type := .int, accessFlags := 25, slot := 11, constantValue := 0 }, { name := "T_CHAR", type := .int, accessFlags := 25, slot := 12, constantValue := 0 }, { name := "T_FLOAT", type := .int, accessFlags := 25, slot := 13, constantValue := 0 }, { name := "T_DOUBLE", type := .int, accessFlags := 25, slot := 14, constantValue := 0 }, { name := "T_BYTE", type := .int, accessFlags := 25, slot := 15, constantValue := 0 }, { name := "T_SHORT", type := .int, accessFlags := 25, slot := 16, constantValue := 0 }, { name := "T_INT", type := .int, accessFlags := 25, slot := 17, constantValue := 0 }, { name := "T_LONG", type := .int, accessFlags := 25, slot := 18, constantValue := 0 }, { name := "JLA", type := (.object "jdk/internal/access/JavaLangAccess"), accessFlags := 26, slot := 19, constantValue := 0 }, { name := "SOFT_MAX_ARRAY_LENGTH", type := .int, accessFlags := 25, slot := 20, constantValue := 0 }]
  methods := #[k14m0]
  instanceTypes := #[]
  staticTypes := #[(.object "jdk/internal/misc/Unsafe"), .boolean, .int, .int, .int, .int, .int, .int, .int, .int, .int, .int, .int, .int, .int, .int, .int, .int, .int, (.object "jdk/internal/access/JavaLangAccess"), .int]
  resolved := Array.replicate 378 none
  statics := none }

def pool15 : Array CpInfo := pool [(1, u "java/lang/Cloneable"), (0, .class_ 1), (0, u "java/lang/Object"), (0, .class_ 3)] 3

/-- java/lang/Cloneable -/
def k15 : Class := { plain "java/lang/Cloneable" (some 0) with
  accessFlags := 1537
  interfaces := #[]
  cf := some (fileOf pool15 2 #[] #[] 1537 4 #[] #[])
  fields := #[]
  methods := #[]
  instanceTypes := #[]
  staticTypes := #[]
  resolved := Array.replicate 8 none
  statics := none }

/-- the primitive byte -/
def k16 : Class := { plain "byte" none with kind := .primitive 'B', accessFlags := 0x411 }
/-- [B -/
def k17 : Class := { plain "[B" (some 0) with kind := .array 16 .byte, interfaces := #[15, 2], accessFlags := 1041 }

/-- the primitive char -/
def k18 : Class := { plain "char" none with kind := .primitive 'C', accessFlags := 0x411 }
/-- [C -/
def k19 : Class := { plain "[C" (some 0) with kind := .array 18 .char, interfaces := #[15, 2], accessFlags := 1041 }

def heap : Heap := #[{ cls := 7, slots := #[.long 0, .int 1, .null, .int 0, .null, .int 0, .int 0], vm := .statics 7 },
  { cls := 13, slots := #[.null, .null, .null], vm := .statics 13 }]
def classes : Array Class := #[k0, k1, k2, k3, k4, k5, k6, k7, k8, k9, k10, k11, k12, k13, k14, k15, k16, k17, k18, k19]
def interned : List (Array UInt16 × Addr) := []
def slotsUsed : Nat := 10
def theMethod : MethodId := ⟨1, 1⟩
def args0 : Array Value := #[.int 3, .int 11, .int 12, .int 13]
def aboutOver (below : List Frame) : State where
  vm := { classes := classes, interned := interned.toArray }
  heap := heap
  slotsUsed := slotsUsed
  threads := #[{ frames := .invoking theMethod args0 :: below }]
def below0 : List Frame := [.native { method := ⟨0, 0⟩, args := #[] }]
def about1 : State := aboutOver below0
def p0 : Program := .bare "" "" ""
def e0 : Env := launch0.env 0 0 0
theorem w_frames : about1.frames = Frame.invoking theMethod args0 :: below0 := rfl
set_option maxRecDepth 65536 in
theorem w_args : argsFit about1.vm theMethod args0 = true := by decide +kernel
set_option maxRecDepth 65536 in
theorem w_heap : heapFits about1 = true := by decide +kernel
set_option maxRecDepth 65536 in
theorem w_runnable : about1.curStatus? = some .runnable := by decide +kernel
set_option maxRecDepth 65536 in
theorem w_alone : about1.alone = true := by decide +kernel
set_option maxRecDepth 65536 in
theorem w_named : about1.methodNamed? x = some theMethod := by decide +kernel
set_option maxRecDepth 65536 in
theorem w_hears : about1.hears theMethod below0 = true := by decide +kernel
set_option maxRecDepth 65536 in
theorem w_ripe : about1.ripe theMethod args0 below0 = true := by decide +kernel
theorem w_running : about1.status = .running := rfl
set_option maxRecDepth 65536 in
theorem w_room : about1.hasRoom e0.platform room_1 = true :=
  launch0.hasRoom_least _ room_1 (by decide +kernel) (by decide +kernel) (by decide +kernel) (by decide +kernel) (by decide +kernel) (by decide +kernel)
theorem allAtoms_all (ts : List Jvm.Cond) (a : Array Jvm.Value) (st : Jvm.State) : (allAtoms ts).before a st = ts.all (fun c => c.before a st) := by
  induction ts with
  | nil => rfl
  | cons c t ih =>
    show (Jvm.Cond.and c (allAtoms t)).before a st = _
    rw [Jvm.Cond.before_and, ih, List.all_cons]
def words1 : List Jvm.Cond := Jvm.Cond.code x code maxLocals ret :: tables_1
/-- a 'code' word, met by the world's own term for the bytes: nothing is compared byte by byte -/
theorem code_word {y : MethodName} {bytes : ByteArray} {mx : Nat} {rt : Option FieldType} {a : Array Value} {s : State} {m : MethodId} {meth : Method} {c : Code} (h1 : s.methodNamed? y = some m) (h2 : s.vm.method? m = some meth) (h3 : meth.code = some c) (h4 : c.code = bytes)
    (h5 : (c.maxLocals == mx && c.exceptionTable.isEmpty && decide (c.maxStack ≤ mostOperands) && decide (meth.sig.returnType = rt) && !meth.locks && decide (parseMethodDescriptor y.desc = some meth.sig)) = true) : (Jvm.Cond.code y bytes mx rt).before a s = true := by
  simp only [Bool.and_eq_true, beq_iff_eq, Bool.not_eq_true', decide_eq_true_eq] at h5
  obtain ⟨⟨⟨⟨⟨g1, g2⟩, g3⟩, g4⟩, g5⟩, g6⟩ := h5
  simp [Cond.before, Cond.holds, Cond.value, h1, h2, h3, h4, g1, g2, g3, g4, g5, g6]
def isCode : Jvm.Cond → Bool
  | .code _ _ _ _ => true
  | _ => false
theorem all_split {L : List Jvm.Cond} {P : Jvm.Cond → Bool} (h1 : L.all (fun c => isCode c || P c) = true) (h2 : ∀ c ∈ L.filter isCode, P c = true) : L.all P = true := by
  refine List.all_eq_true.mpr fun c hc => ?_
  have h := List.all_eq_true.mp h1 c hc
  rcases Bool.eq_false_or_eq_true (isCode c) with hi | hi
  · exact h2 c (List.mem_filter.mpr ⟨hc, hi⟩)
  · simpa [hi] using h
set_option maxRecDepth 65536 in
theorem w_c0 : (Jvm.Cond.code x code maxLocals ret).before args0 about1 = true := code_word (m := ⟨1, 1⟩) (meth := k1m1) (c := k1c1) (by decide +kernel) rfl rfl rfl (by decide +kernel)
set_option maxRecDepth 65536 in
theorem w_c1 : (Jvm.Cond.code ({ cls := "java/lang/String", name := "<init>", desc := "([C)V" } : Jvm.MethodName) jdk_42_method_3_code (2 : Nat) (Option.none : Option Jvm.ClassFile.FieldType)).before args0 about1 = true := code_word (m := ⟨7, 1⟩) (meth := k7m1) (c := k7c1) (by decide +kernel) rfl rfl rfl (by decide +kernel)
set_option maxRecDepth 65536 in
theorem w_c2 : (Jvm.Cond.code ({ cls := "java/lang/String", name := "<init>", desc := "([CIILjava/lang/Void;)V" } : Jvm.MethodName) jdk_42_method_149_code (6 : Nat) (Option.none : Option Jvm.ClassFile.FieldType)).before args0 about1 = true := code_word (m := ⟨7, 5⟩) (meth := k7m5) (c := k7c5) (by decide +kernel) rfl rfl rfl (by decide +kernel)
set_option maxRecDepth 65536 in
theorem w_c3 : (Jvm.Cond.code ({ cls := "java/lang/Object", name := "<init>", desc := "()V" } : Jvm.MethodName) object_method_1_code (1 : Nat) (Option.none : Option Jvm.ClassFile.FieldType)).before args0 about1 = true := code_word (m := ⟨0, 0⟩) (meth := k0m0) (c := k0c0) (by decide +kernel) rfl rfl rfl (by decide +kernel)
set_option maxRecDepth 65536 in
theorem w_c4 : (Jvm.Cond.code ({ cls := "java/lang/StringUTF16", name := "compress", desc := "([CII)[B" } : Jvm.MethodName) jdk_52_method_16_code (6 : Nat) (Option.some (Jvm.ClassFile.FieldType.array Jvm.ClassFile.FieldType.byte))).before args0 about1 = true := code_word (m := ⟨8, 2⟩) (meth := k8m2) (c := k8c2) (by decide +kernel) rfl rfl rfl (by decide +kernel)
set_option maxRecDepth 65536 in
theorem w_c5 : (Jvm.Cond.code ({ cls := "java/lang/StringUTF16", name := "compress", desc := "([CI[BII)I" } : Jvm.MethodName) jdk_52_method_21_code (7 : Nat) (Option.some Jvm.ClassFile.FieldType.int)).before args0 about1 = true := code_word (m := ⟨8, 3⟩) (meth := k8m3) (c := k8c3) (by decide +kernel) rfl rfl rfl (by decide +kernel)
set_option maxRecDepth 65536 in
theorem w_c6 : (Jvm.Cond.code ({ cls := "java/lang/StringUTF16", name := "coderFromArrayLen", desc := "([BI)B" } : Jvm.MethodName) jdk_52_method_15_code (2 : Nat) (Option.some Jvm.ClassFile.FieldType.byte)).before args0 about1 = true := code_word (m := ⟨8, 1⟩) (meth := k8m1) (c := k8c1) (by decide +kernel) rfl rfl rfl (by decide +kernel)
set_option maxRecDepth 65536 in
theorem w_c7 : (Jvm.Cond.code ({ cls := "com/example/shelfkey/shelfkey/http/Pem$Block", name := "<init>", desc := "(Ljava/lang/String;Z[B)V" } : Jvm.MethodName) prog_38_method_1_code (4 : Nat) (Option.none : Option Jvm.ClassFile.FieldType)).before args0 about1 = true := code_word (m := ⟨10, 0⟩) (meth := k10m0) (c := k10c0) (by decide +kernel) rfl rfl rfl (by decide +kernel)
set_option maxRecDepth 65536 in
theorem w_c8 : (Jvm.Cond.code ({ cls := "java/lang/Record", name := "<init>", desc := "()V" } : Jvm.MethodName) jdk_30_method_1_code (1 : Nat) (Option.none : Option Jvm.ClassFile.FieldType)).before args0 about1 = true := code_word (m := ⟨9, 0⟩) (meth := k9m0) (c := k9c0) (by decide +kernel) rfl rfl rfl (by decide +kernel)
set_option maxRecDepth 65536 in
theorem w_c9 : (Jvm.Cond.code ({ cls := "com/example/shelfkey/shelfkey/http/PrivateKeys", name := "isEncrypted", desc := "(Lcom/example/shelfkey/shelfkey/http/Pem$Block;)Z" } : Jvm.MethodName) prog_40_method_3_code (1 : Nat) (Option.some Jvm.ClassFile.FieldType.boolean)).before args0 about1 = true := code_word (m := ⟨11, 1⟩) (meth := k11m1) (c := k11c1) (by decide +kernel) rfl rfl rfl (by decide +kernel)
set_option maxRecDepth 65536 in
theorem w_c10 : (Jvm.Cond.code ({ cls := "com/example/shelfkey/shelfkey/http/Pem$Block", name := "encrypted", desc := "()Z" } : Jvm.MethodName) prog_38_method_6_code (1 : Nat) (Option.some Jvm.ClassFile.FieldType.boolean)).before args0 about1 = true := code_word (m := ⟨10, 2⟩) (meth := k10m2) (c := k10c2) (by decide +kernel) rfl rfl rfl (by decide +kernel)
set_option maxRecDepth 65536 in
theorem w_c11 : (Jvm.Cond.code ({ cls := "com/example/shelfkey/shelfkey/http/Pem$Block", name := "label", desc := "()Ljava/lang/String;" } : Jvm.MethodName) prog_38_method_5_code (1 : Nat) (Option.some (Jvm.ClassFile.FieldType.object "java/lang/String"))).before args0 about1 = true := code_word (m := ⟨10, 1⟩) (meth := k10m1) (c := k10c1) (by decide +kernel) rfl rfl rfl (by decide +kernel)
set_option maxRecDepth 65536 in
theorem w_c12 : (Jvm.Cond.code ({ cls := "java/lang/String", name := "equals", desc := "(Ljava/lang/Object;)Z" } : Jvm.MethodName) jdk_42_method_66_code (3 : Nat) (Option.some Jvm.ClassFile.FieldType.boolean)).before args0 about1 = true := code_word (m := ⟨7, 3⟩) (meth := k7m3) (c := k7c3) (by decide +kernel) rfl rfl rfl (by decide +kernel)
set_option maxRecDepth 65536 in
theorem w_c13 : (Jvm.Cond.code ({ cls := "java/lang/StringLatin1", name := "equals", desc := "([B[B)Z" } : Jvm.MethodName) jdk_43_method_13_code (3 : Nat) (Option.some Jvm.ClassFile.FieldType.boolean)).before args0 about1 = true := code_word (m := ⟨12, 3⟩) (meth := k12m3) (c := k12c3) (by decide +kernel) rfl rfl rfl (by decide +kernel)
set_option maxRecDepth 65536 in
theorem w_c14 : (Jvm.Cond.code ({ cls := "java/lang/String", name := "valueOf", desc := "(C)Ljava/lang/String;" } : Jvm.MethodName) jdk_42_method_139_code (1 : Nat) (Option.some (Jvm.ClassFile.FieldType.object "java/lang/String"))).before args0 about1 = true := code_word (m := ⟨7, 4⟩) (meth := k7m4) (c := k7c4) (by decide +kernel) rfl rfl rfl (by decide +kernel)
set_option maxRecDepth 65536 in
theorem w_c15 : (Jvm.Cond.code ({ cls := "java/lang/StringLatin1", name := "canEncode", desc := "(C)Z" } : Jvm.MethodName) jdk_43_method_3_code (1 : Nat) (Option.some Jvm.ClassFile.FieldType.boolean)).before args0 about1 = true := code_word (m := ⟨12, 2⟩) (meth := k12m2) (c := k12c2) (by decide +kernel) rfl rfl rfl (by decide +kernel)
set_option maxRecDepth 65536 in
theorem w_c16 : (Jvm.Cond.code ({ cls := "java/lang/StringLatin1", name := "toBytes", desc := "(C)[B" } : Jvm.MethodName) jdk_43_method_46_code (1 : Nat) (Option.some (Jvm.ClassFile.FieldType.array Jvm.ClassFile.FieldType.byte))).before args0 about1 = true := code_word (m := ⟨12, 4⟩) (meth := k12m4) (c := k12c4) (by decide +kernel) rfl rfl rfl (by decide +kernel)
set_option maxRecDepth 65536 in
theorem w_c17 : (Jvm.Cond.code ({ cls := "java/lang/String", name := "<init>", desc := "([BB)V" } : Jvm.MethodName) jdk_42_method_151_code (3 : Nat) (Option.none : Option Jvm.ClassFile.FieldType)).before args0 about1 = true := code_word (m := ⟨7, 6⟩) (meth := k7m6) (c := k7c6) (by decide +kernel) rfl rfl rfl (by decide +kernel)
set_option maxRecDepth 65536 in
theorem w_c18 : (Jvm.Cond.code ({ cls := "java/lang/String", name := "charAt", desc := "(I)C" } : Jvm.MethodName) jdk_42_method_56_code (2 : Nat) (Option.some Jvm.ClassFile.FieldType.char)).before args0 about1 = true := code_word (m := ⟨7, 2⟩) (meth := k7m2) (c := k7c2) (by decide +kernel) rfl rfl rfl (by decide +kernel)
set_option maxRecDepth 65536 in
theorem w_c19 : (Jvm.Cond.code ({ cls := "java/lang/String", name := "isLatin1", desc := "()Z" } : Jvm.MethodName) jdk_42_method_154_code (1 : Nat) (Option.some Jvm.ClassFile.FieldType.boolean)).before args0 about1 = true := code_word (m := ⟨7, 7⟩) (meth := k7m7) (c := k7c7) (by decide +kernel) rfl rfl rfl (by decide +kernel)
set_option maxRecDepth 65536 in
theorem w_c20 : (Jvm.Cond.code ({ cls := "java/lang/StringLatin1", name := "charAt", desc := "([BI)C" } : Jvm.MethodName) jdk_43_method_2_code (2 : Nat) (Option.some Jvm.ClassFile.FieldType.char)).before args0 about1 = true := code_word (m := ⟨12, 1⟩) (meth := k12m1) (c := k12c1) (by decide +kernel) rfl rfl rfl (by decide +kernel)
set_option maxRecDepth 65536 in
theorem w_c21 : (Jvm.Cond.code ({ cls := "java/lang/String", name := "checkIndex", desc := "(II)V" } : Jvm.MethodName) jdk_42_method_155_code (2 : Nat) (Option.none : Option Jvm.ClassFile.FieldType)).before args0 about1 = true := code_word (m := ⟨7, 8⟩) (meth := k7m8) (c := k7c8) (by decide +kernel) rfl rfl rfl (by decide +kernel)
set_option maxRecDepth 65536 in
theorem w_c22 : (Jvm.Cond.code ({ cls := "jdk/internal/util/Preconditions", name := "checkIndex", desc := "(IILjava/util/function/BiFunction;)I" } : Jvm.MethodName) jdk_41_method_11_code (3 : Nat) (Option.some Jvm.ClassFile.FieldType.int)).before args0 about1 = true := code_word (m := ⟨13, 1⟩) (meth := k13m1) (c := k13c1) (by decide +kernel) rfl rfl rfl (by decide +kernel)
def codes1 : List Jvm.Cond := [Jvm.Cond.code x code maxLocals ret, Jvm.Cond.code ({ cls := "java/lang/String", name := "<init>", desc := "([C)V" } : Jvm.MethodName) jdk_42_method_3_code (2 : Nat) (Option.none : Option Jvm.ClassFile.FieldType), Jvm.Cond.code ({ cls := "java/lang/String", name := "<init>", desc := "([CIILjava/lang/Void;)V" } : Jvm.MethodName) jdk_42_method_149_code (6 : Nat) (Option.none : Option Jvm.ClassFile.FieldType), Jvm.Cond.code ({ cls := "java/lang/Object", name := "<init>", desc := "()V" } : Jvm.MethodName) object_method_1_code (1 : Nat) (Option.none : Option Jvm.ClassFile.FieldType), Jvm.Cond.code ({ cls := "java/lang/StringUTF16", name := "compress", desc := "([CII)[B" } : Jvm.MethodName) jdk_52_method_16_code (6 : Nat) (Option.some (Jvm.ClassFile.FieldType.array Jvm.ClassFile.FieldType.byte)), Jvm.Cond.code ({ cls := "java/lang/StringUTF16", name := "compress", desc := "([CI[BII)I" } : Jvm.MethodName) jdk_52_method_21_code (7 : Nat) (Option.some Jvm.ClassFile.FieldType.int), Jvm.Cond.code ({ cls := "java/lang/StringUTF16", name := "coderFromArrayLen", desc := "([BI)B" } : Jvm.MethodName) jdk_52_method_15_code (2 : Nat) (Option.some Jvm.ClassFile.FieldType.byte), Jvm.Cond.code ({ cls := "com/example/shelfkey/shelfkey/http/Pem$Block", name := "<init>", desc := "(Ljava/lang/String;Z[B)V" } : Jvm.MethodName) prog_38_method_1_code (4 : Nat) (Option.none : Option Jvm.ClassFile.FieldType), Jvm.Cond.code ({ cls := "java/lang/Record", name := "<init>", desc := "()V" } : Jvm.MethodName) jdk_30_method_1_code (1 : Nat) (Option.none : Option Jvm.ClassFile.FieldType), Jvm.Cond.code ({ cls := "com/example/shelfkey/shelfkey/http/PrivateKeys", name := "isEncrypted", desc := "(Lcom/example/shelfkey/shelfkey/http/Pem$Block;)Z" } : Jvm.MethodName) prog_40_method_3_code (1 : Nat) (Option.some Jvm.ClassFile.FieldType.boolean), Jvm.Cond.code ({ cls := "com/example/shelfkey/shelfkey/http/Pem$Block", name := "encrypted", desc := "()Z" } : Jvm.MethodName) prog_38_method_6_code (1 : Nat) (Option.some Jvm.ClassFile.FieldType.boolean), Jvm.Cond.code ({ cls := "com/example/shelfkey/shelfkey/http/Pem$Block", name := "label", desc := "()Ljava/lang/String;" } : Jvm.MethodName) prog_38_method_5_code (1 : Nat) (Option.some (Jvm.ClassFile.FieldType.object "java/lang/String")), Jvm.Cond.code ({ cls := "java/lang/String", name := "equals", desc := "(Ljava/lang/Object;)Z" } : Jvm.MethodName) jdk_42_method_66_code (3 : Nat) (Option.some Jvm.ClassFile.FieldType.boolean), Jvm.Cond.code ({ cls := "java/lang/StringLatin1", name := "equals", desc := "([B[B)Z" } : Jvm.MethodName) jdk_43_method_13_code (3 : Nat) (Option.some Jvm.ClassFile.FieldType.boolean), Jvm.Cond.code ({ cls := "java/lang/String", name := "valueOf", desc := "(C)Ljava/lang/String;" } : Jvm.MethodName) jdk_42_method_139_code (1 : Nat) (Option.some (Jvm.ClassFile.FieldType.object "java/lang/String")), Jvm.Cond.code ({ cls := "java/lang/StringLatin1", name := "canEncode", desc := "(C)Z" } : Jvm.MethodName) jdk_43_method_3_code (1 : Nat) (Option.some Jvm.ClassFile.FieldType.boolean), Jvm.Cond.code ({ cls := "java/lang/StringLatin1", name := "toBytes", desc := "(C)[B" } : Jvm.MethodName) jdk_43_method_46_code (1 : Nat) (Option.some (Jvm.ClassFile.FieldType.array Jvm.ClassFile.FieldType.byte)), Jvm.Cond.code ({ cls := "java/lang/String", name := "<init>", desc := "([BB)V" } : Jvm.MethodName) jdk_42_method_151_code (3 : Nat) (Option.none : Option Jvm.ClassFile.FieldType), Jvm.Cond.code ({ cls := "java/lang/String", name := "charAt", desc := "(I)C" } : Jvm.MethodName) jdk_42_method_56_code (2 : Nat) (Option.some Jvm.ClassFile.FieldType.char), Jvm.Cond.code ({ cls := "java/lang/String", name := "isLatin1", desc := "()Z" } : Jvm.MethodName) jdk_42_method_154_code (1 : Nat) (Option.some Jvm.ClassFile.FieldType.boolean), Jvm.Cond.code ({ cls := "java/lang/StringLatin1", name := "charAt", desc := "([BI)C" } : Jvm.MethodName) jdk_43_method_2_code (2 : Nat) (Option.some Jvm.ClassFile.FieldType.char), Jvm.Cond.code ({ cls := "java/lang/String", name := "checkIndex", desc := "(II)V" } : Jvm.MethodName) jdk_42_method_155_code (2 : Nat) (Option.none : Option Jvm.ClassFile.FieldType), Jvm.Cond.code ({ cls := "jdk/internal/util/Preconditions", name := "checkIndex", desc := "(IILjava/util/function/BiFunction;)I" } : Jvm.MethodName) jdk_41_method_11_code (3 : Nat) (Option.some Jvm.ClassFile.FieldType.int)]
set_option maxRecDepth 65536 in
theorem codes_eq : words1.filter isCode = codes1 := rfl
theorem w_codes : ∀ c ∈ words1.filter isCode, c.before args0 about1 = true := by
  rw [codes_eq]
  intro c hc
  simp only [codes1, List.mem_cons, List.not_mem_nil, or_false] at hc
  rcases hc with rfl | rfl | rfl | rfl | rfl | rfl | rfl | rfl | rfl | rfl | rfl | rfl | rfl | rfl | rfl | rfl | rfl | rfl | rfl | rfl | rfl | rfl | rfl
  · exact w_c0
  · exact w_c1
  · exact w_c2
  · exact w_c3
  · exact w_c4
  · exact w_c5
  · exact w_c6
  · exact w_c7
  · exact w_c8
  · exact w_c9
  · exact w_c10
  · exact w_c11
  · exact w_c12
  · exact w_c13
  · exact w_c14
  · exact w_c15
  · exact w_c16
  · exact w_c17
  · exact w_c18
  · exact w_c19
  · exact w_c20
  · exact w_c21
  · exact w_c22
set_option maxRecDepth 65536 in
theorem w_t1 : (words1.take 24).all (fun c => isCode c || c.before args0 about1) = true := by decide +kernel
set_option maxRecDepth 65536 in
theorem w_t2 : ((words1.drop 24).take 24).all (fun c => isCode c || c.before args0 about1) = true := by decide +kernel
set_option maxRecDepth 65536 in
theorem w_t3 : (((words1.drop 24).drop 24).take 24).all (fun c => isCode c || c.before args0 about1) = true := by decide +kernel
set_option maxRecDepth 65536 in
theorem w_t4 : ((((words1.drop 24).drop 24).drop 24).take 24).all (fun c => isCode c || c.before args0 about1) = true := by decide +kernel
set_option maxRecDepth 65536 in
theorem w_t5 : ((((words1.drop 24).drop 24).drop 24).drop 24).all (fun c => isCode c || c.before args0 about1) = true := by decide +kernel
theorem w_tables : (allAtoms (Jvm.Cond.code x code maxLocals ret :: tables_1)).before args0 about1 = true := by
  rw [allAtoms_all]
  show words1.all (fun c => c.before args0 about1) = true
  refine all_split ?_ w_codes
  rw [← List.take_append_drop 24 words1, List.all_append, w_t1, ← List.take_append_drop 24 (words1.drop 24), List.all_append, w_t2, ← List.take_append_drop 24 ((words1.drop 24).drop 24), List.all_append, w_t3, ← List.take_append_drop 24 (((words1.drop 24).drop 24).drop 24), List.all_append, w_t4, w_t5]
  rfl
set_option maxRecDepth 65536 in
theorem w_rest : rest_1_c.before args0 about1 = true := by decide +kernel
set_option maxRecDepth 65536 in
theorem w_case : (Jvm.Cond.and given_1 narrow_1).before args0 about1 = true := by decide +kernel
set_option maxRecDepth 65536 in
theorem w_consts : constsHeld consts_1 about1 := Jvm.Lit.constsHeldB_iff.mp (by decide +kernel)
theorem w_applies : (headSpec (Jvm.Cond.code x code maxLocals ret :: tables_1) room_1).applies x e0.platform about1 = true :=
  (Spec.applies_iff w_frames).mpr ⟨w_running, w_runnable, w_alone, w_named, w_hears, w_ripe, w_room, w_tables⟩
theorem atStart : AtStart classFile x code maxLocals ret World_1 tables_1 room_1 Calls_1 rest_1 Pre_1 launch0 p0 e0 about1 theMethod args0 below0 :=
  ⟨lists_1, trivial, launch0.admits_env _ _ _, launch0.least_env, fairChoices_fair.cas, fairChoices_fair.clock, w_frames, w_args, w_heap, w_applies, ⟨w_consts, trivial⟩, w_rest, w_case⟩
end start1
theorem witness_1 : WitnessClaimed_1 := ⟨start1.p0, start1.e0, start1.about1, start1.theMethod, start1.args0, start1.below0, start1.atStart⟩
end Jvm.Pilot.@@N@@
