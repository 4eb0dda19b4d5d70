import JvmDerived
import JvmDerived.Pilot.@@N@@Statement
import JvmDerived.Pilot.@@N@@Code
set_option linter.unusedVariables false
set_option linter.unusedSimpArgs false
namespace Jvm.Pilot.@@N@@
open Jvm Jvm.ClassFile Sem Op Lib Jvm.Free Jvm.Stand Jvm.LawKit Jvm.RoadKit Bundle Jvm.Pilot.@@N@@.Jvm.D
section Own
variable {p : Program} {l : Launch} {e : Env} {R : Room} {s : State} {m : MethodId} {args : Array Value} {below : List Frame} {meth : Method} {c : Code} {T : State} {locs : List Loc} {cells slots : Nat} {Z : State} {a0 : Array Value} {h : Heap} {P : State → Outcome → Prop} {pc pc' : Nat} {Ls Ls' : Array Slot} {st : List Value}
/-- from the state A the run comes to an end of which P speaks -/
def Dn (p : Program) (e : Env) (below : List Frame) (P : State → Outcome → Prop) (A : State) : Prop := ∃ s₂ o, Steps p.tables e below A s₂ ∧ P s₂ o
/-- the invocation has ended, returned, and Q holds of what it returned, the heap and the places written -/
def PQ (below : List Frame) (s : State) (Q : Option Value → Heap → List Loc → Prop) (k n : Nat) (s₂ : State) (o : Outcome) : Prop :=
  s₂.status = .running ∧ Ended s₂ below o ∧ ∃ v L, o = .returned v ∧ Q v s₂.heap L ∧ FrameEnd s o s₂ L k n
theorem go {A B : State} (w : ∀ t, Steps p.tables e below B t → Steps p.tables e below A t) (k : Dn p e below P B) : Dn p e below P A := by
  obtain ⟨s₂, o, h1, h2⟩ := k
  exact ⟨s₂, o, w _ h1, h2⟩
theorem goS {A B : State} (w : Steps p.tables e below A B) (k : Dn p e below P B) : Dn p e below P A := by
  obtain ⟨s₂, o, h1, h2⟩ := k
  exact ⟨s₂, o, w.trans h1, h2⟩
/-- a method's contract, at given arguments and a given heap -/
abbrev Ctr (l : Launch) (Z : State) (y : MethodName) (bytes : ByteArray) (maxL : Nat) (ret : Option FieldType) (ws : List Jvm.Cond) (R : Room) (as' : Array Value) (h0 : Heap) (Q : Option Value → Heap → List Loc → Prop) : Prop :=
  MetFree l y (head1 (Jvm.Cond.code y bytes maxL ret :: ws) R) (fun a U => a = as' ∧ Z.Warmed39 U.vm ∧ U.heap = h0) (fun _ _ _ _ _ => True) (fun _ U o U' => ∃ v L, o = .returned v ∧ Q v U'.heap L ∧ FrameEnd U o U' L R.cells R.slots)
theorem ctr_mk {y : MethodName} {bytes : ByteArray} {maxL : Nat} {ret : Option FieldType} {ws : List Jvm.Cond} {as' : Array Value} {h0 : Heap} {Q : Option Value → Heap → List Loc → Prop} {own mn : String} (hpl : plainFor y = true) (ho : y.cls = own) (hmn : y.name = mn)
    (body : ∀ (p : Program) (e : Env) (s : State) (m : MethodId) (below : List Frame) (meth : Method) (c : Code) (T : State), Stand p l e R s m as' below meth c T [] 0 0 → p.tables.exec = Jvm.exec → c.code = bytes → c.maxLocals = maxL → Z.Warmed39 s.vm → s.vm.findClass own = some m.cls → meth.name = mn → meth.sig.returnType = ret → meth.locks = false → T.heap = h0 →
      Dn p e below (PQ below s Q R.cells R.slots) (T.setTop (entryFrame m as' maxL))) : Ctr l Z y bytes maxL ret ws R as' h0 Q := by
  subst ho hmn
  refine MetFree.of_bodySF hpl hisR ?_
  intro p e s m args below meth c s₁ Bd hml hP hK
  obtain ⟨rfl, hZ, hh⟩ := hP
  have e0 : s₁.heap = h0 := by rw [← hh, Bd.state]; rfl
  obtain ⟨s₂, o, h1, h2, h3, h4⟩ := body p e s m below meth c s₁ (Stand.of_body Bd) Bd.exec Bd.bytes hml hZ (findClass_of_methodNamed Bd.named) (name_of_methodNamed Bd.named Bd.method).1 Bd.returns Bd.notSynchronized e0
  exact ⟨s₂, o, h1, h2, h3, h4⟩
theorem o_entry {g : JFrame} {as' : Array Value} {maxL : Nat} (q : entryFrame m as' maxL = g) (k : Dn p e below P (T.setTop g)) : Dn p e below P (T.setTop (entryFrame m as' maxL)) := q ▸ k
theorem fin_of {Q : Option Value → Heap → List Loc → Prop} {k n : Nat} {v : Option Value} {A : State} (X : Stand p l e R s m args below meth c T locs cells slots) (hlk : meth.locks = false) (hv : meth.sig.returnType = none → v = none) (hc : cells ≤ k) (hs : slots ≤ n) (hQ : Q v T.heap locs)
    (w : ∀ fs, (∀ (f : JFrame) (acts : List Action), f.method = m → f.locked = none → f.entered = [] → (doReturn e (T.setTop f) acts v).1 = T.setFrames fs) → Steps p.tables e below A (T.setFrames fs)) : Dn p e below (PQ below s Q k n) A := by
  obtain ⟨fs, hr, hrun, hended, hW, hsame⟩ := X.leave (v := v) hv hlk
  exact ⟨_, _, w fs hr, hrun, hended, _, _, rfl, hQ, ⟨_, rfl⟩, hW, hsame.mono hc hs⟩
theorem finI {Q : Option Value → Heap → List Loc → Prop} {k n : Nat} (X : Stand p l e R s m args below meth c T locs cells slots) (hx : p.tables.exec = Jvm.exec) (hlk : meth.locks = false) {z : Int32} (hret : meth.sig.returnType = some .int) (hd : decode c.code pc = .ok (.ireturn, 1)) (hc : cells ≤ k) (hs : slots ≤ n) (hQ : Q (some (.int z)) T.heap locs) :
    Dn p e below (PQ below s Q k n) (T.setTop (mkF m pc Ls (.int z :: st))) :=
  fin_of X hlk (fun q => by rw [hret] at q; cases q) hc hs hQ (fun fs hr => retOut X hx hret rfl (Or.inl ⟨rfl, Or.inl rfl, _, rfl⟩) hd hr)
theorem finN {Q : Option Value → Heap → List Loc → Prop} {k n : Nat} (X : Stand p l e R s m args below meth c T locs cells slots) (hx : p.tables.exec = Jvm.exec) (hlk : meth.locks = false) {z : Int32} {t : FieldType} (hret : meth.sig.returnType = some t) (ht : t = .boolean ∨ t = .byte ∨ t = .char ∨ t = .short) (hd : decode c.code pc = .ok (.ireturn, 1)) (hc : cells ≤ k) (hs : slots ≤ n) (hQ : Q (some (.int (nar t z))) T.heap locs) :
    Dn p e below (PQ below s Q k n) (T.setTop (mkF m pc Ls (.int z :: st))) :=
  fin_of X hlk (fun q => by rw [hret] at q; cases q) hc hs hQ (fun fs hr => retN X hx hret ht hd hr)
theorem finJ {Q : Option Value → Heap → List Loc → Prop} {k n : Nat} (X : Stand p l e R s m args below meth c T locs cells slots) (hx : p.tables.exec = Jvm.exec) (hlk : meth.locks = false) {z : Int64} (hret : meth.sig.returnType = some .long) (hd : decode c.code pc = .ok (.lreturn, 1)) (hc : cells ≤ k) (hs : slots ≤ n) (hQ : Q (some (.long z)) T.heap locs) :
    Dn p e below (PQ below s Q k n) (T.setTop (mkF m pc Ls (.long z :: st))) :=
  fin_of X hlk (fun q => by rw [hret] at q; cases q) hc hs hQ (fun fs hr => retOut X hx hret rfl (Or.inr (Or.inl ⟨rfl, rfl, _, rfl⟩)) hd hr)
theorem finA {Q : Option Value → Heap → List Loc → Prop} {k n : Nat} (X : Stand p l e R s m args below meth c T locs cells slots) (hx : p.tables.exec = Jvm.exec) (hlk : meth.locks = false) {w : Value} {t : FieldType} (hw : w.isRef = true) (hret : meth.sig.returnType = some t) (ht : t.isReference = true) (hn : narrow t w = w) (hd : decode c.code pc = .ok (.areturn, 1)) (hc : cells ≤ k) (hs : slots ≤ n) (hQ : Q (some w) T.heap locs) :
    Dn p e below (PQ below s Q k n) (T.setTop (mkF m pc Ls (w :: st))) :=
  fin_of X hlk (fun q => by rw [hret] at q; cases q) hc hs hQ (fun fs hr => retOut X hx hret hn (Or.inr (Or.inr (Or.inr (Or.inr ⟨rfl, ht, hw⟩)))) hd hr)
theorem finV {Q : Option Value → Heap → List Loc → Prop} {k n : Nat} (X : Stand p l e R s m args below meth c T locs cells slots) (hx : p.tables.exec = Jvm.exec) (hlk : meth.locks = false) (hret : meth.sig.returnType = none) (hd : decode c.code pc = .ok (.return_, 1)) (hc : cells ≤ k) (hs : slots ≤ n) (hQ : Q none T.heap locs) :
    Dn p e below (PQ below s Q k n) (T.setTop (mkF m pc Ls [])) :=
  fin_of X hlk (fun _ => rfl) hc hs hQ (fun fs hr => X.returnOut hx hret hd hr)
theorem o_iload (X : Stand p l e R s m args below meth c T locs cells slots) (hx : p.tables.exec = Jvm.exec) {k : Nat} {v : Int32} (hd : decode c.code pc = .ok (.iload k, 2)) (hp : pc + 2 = pc') (hl : Ls[k]? = some (.val (.int v))) (K : Dn p e below P (T.setTop (mkF m pc' Ls (.int v :: st)))) : Dn p e below P (T.setTop (mkF m pc Ls st)) := by
  subst hp
  obtain ⟨s₂, o, h1, h2⟩ := K
  exact ⟨s₂, o, XS.iload X.here hx rfl hd hl h1, h2⟩
theorem o_iloadN (X : Stand p l e R s m args below meth c T locs cells slots) (hx : p.tables.exec = Jvm.exec) {k : Fin 4} {v : Int32} (hd : decode c.code pc = .ok (.iload_n k, 1)) (hp : pc + 1 = pc') (hl : Ls[k.val]? = some (.val (.int v))) (K : Dn p e below P (T.setTop (mkF m pc' Ls (.int v :: st)))) : Dn p e below P (T.setTop (mkF m pc Ls st)) := by
  subst hp
  obtain ⟨s₂, o, h1, h2⟩ := K
  exact ⟨s₂, o, XS.iloadN X.here hx rfl hd hl h1, h2⟩
theorem o_istore (X : Stand p l e R s m args below meth c T locs cells slots) (hx : p.tables.exec = Jvm.exec) {k : Nat} {v : Int32} (hd : decode c.code pc = .ok (.istore k, 2)) (hp : pc + 2 = pc') (hl : storeLocals Ls k (.int v) = some Ls') (K : Dn p e below P (T.setTop (mkF m pc' Ls' st))) : Dn p e below P (T.setTop (mkF m pc Ls (.int v :: st))) := by
  subst hp
  obtain ⟨s₂, o, h1, h2⟩ := K
  exact ⟨s₂, o, XS.istore X.here hx rfl hd rfl hl h1, h2⟩
theorem o_istoreN (X : Stand p l e R s m args below meth c T locs cells slots) (hx : p.tables.exec = Jvm.exec) {k : Fin 4} {v : Int32} (hd : decode c.code pc = .ok (.istore_n k, 1)) (hp : pc + 1 = pc') (hl : storeLocals Ls k.val (.int v) = some Ls') (K : Dn p e below P (T.setTop (mkF m pc' Ls' st))) : Dn p e below P (T.setTop (mkF m pc Ls (.int v :: st))) := by
  subst hp
  obtain ⟨s₂, o, h1, h2⟩ := K
  exact ⟨s₂, o, XS.istoreN X.here hx rfl hd rfl hl h1, h2⟩
theorem o_lload (X : Stand p l e R s m args below meth c T locs cells slots) (hx : p.tables.exec = Jvm.exec) {k : Nat} {v : Int64} (hd : decode c.code pc = .ok (.lload k, 2)) (hp : pc + 2 = pc') (hl : Ls[k]? = some (.val (.long v))) (K : Dn p e below P (T.setTop (mkF m pc' Ls (.long v :: st)))) : Dn p e below P (T.setTop (mkF m pc Ls st)) := by
  subst hp
  obtain ⟨s₂, o, h1, h2⟩ := K
  exact ⟨s₂, o, XS.lload X.here hx rfl hd hl h1, h2⟩
theorem o_lloadN (X : Stand p l e R s m args below meth c T locs cells slots) (hx : p.tables.exec = Jvm.exec) {k : Fin 4} {v : Int64} (hd : decode c.code pc = .ok (.lload_n k, 1)) (hp : pc + 1 = pc') (hl : Ls[k.val]? = some (.val (.long v))) (K : Dn p e below P (T.setTop (mkF m pc' Ls (.long v :: st)))) : Dn p e below P (T.setTop (mkF m pc Ls st)) := by
  subst hp
  obtain ⟨s₂, o, h1, h2⟩ := K
  exact ⟨s₂, o, XS.lloadN X.here hx rfl hd hl h1, h2⟩
theorem o_lstore (X : Stand p l e R s m args below meth c T locs cells slots) (hx : p.tables.exec = Jvm.exec) {k : Nat} {v : Int64} (hd : decode c.code pc = .ok (.lstore k, 2)) (hp : pc + 2 = pc') (hl : storeLocals Ls k (.long v) = some Ls') (K : Dn p e below P (T.setTop (mkF m pc' Ls' st))) : Dn p e below P (T.setTop (mkF m pc Ls (.long v :: st))) := by
  subst hp
  obtain ⟨s₂, o, h1, h2⟩ := K
  exact ⟨s₂, o, XS.lstore X.here hx rfl hd rfl hl h1, h2⟩
theorem o_lstoreN (X : Stand p l e R s m args below meth c T locs cells slots) (hx : p.tables.exec = Jvm.exec) {k : Fin 4} {v : Int64} (hd : decode c.code pc = .ok (.lstore_n k, 1)) (hp : pc + 1 = pc') (hl : storeLocals Ls k.val (.long v) = some Ls') (K : Dn p e below P (T.setTop (mkF m pc' Ls' st))) : Dn p e below P (T.setTop (mkF m pc Ls (.long v :: st))) := by
  subst hp
  obtain ⟨s₂, o, h1, h2⟩ := K
  exact ⟨s₂, o, XS.lstoreN X.here hx rfl hd rfl hl h1, h2⟩
theorem o_aload (X : Stand p l e R s m args below meth c T locs cells slots) (hx : p.tables.exec = Jvm.exec) {k : Nat} {v : Value} (hd : decode c.code pc = .ok (.aload k, 2)) (hp : pc + 2 = pc') (hl : Ls[k]? = some (.val v)) (hv : v.isRef = true) (K : Dn p e below P (T.setTop (mkF m pc' Ls (v :: st)))) : Dn p e below P (T.setTop (mkF m pc Ls st)) := by
  subst hp
  obtain ⟨s₂, o, h1, h2⟩ := K
  exact ⟨s₂, o, XS.aload X.here hx rfl hd hl hv h1, h2⟩
theorem o_aloadN (X : Stand p l e R s m args below meth c T locs cells slots) (hx : p.tables.exec = Jvm.exec) {k : Fin 4} {v : Value} (hd : decode c.code pc = .ok (.aload_n k, 1)) (hp : pc + 1 = pc') (hl : Ls[k.val]? = some (.val v)) (hv : v.isRef = true) (K : Dn p e below P (T.setTop (mkF m pc' Ls (v :: st)))) : Dn p e below P (T.setTop (mkF m pc Ls st)) := by
  subst hp
  obtain ⟨s₂, o, h1, h2⟩ := K
  exact ⟨s₂, o, XS.aloadN X.here hx rfl hd hl hv h1, h2⟩
theorem o_astore (X : Stand p l e R s m args below meth c T locs cells slots) (hx : p.tables.exec = Jvm.exec) {k : Nat} {v : Value} (hd : decode c.code pc = .ok (.astore k, 2)) (hp : pc + 2 = pc') (hv : v.isRef = true) (hl : storeLocals Ls k v = some Ls') (K : Dn p e below P (T.setTop (mkF m pc' Ls' st))) : Dn p e below P (T.setTop (mkF m pc Ls (v :: st))) := by
  subst hp
  obtain ⟨s₂, o, h1, h2⟩ := K
  exact ⟨s₂, o, XS.astore X.here hx rfl hd rfl hv hl h1, h2⟩
theorem o_astoreN (X : Stand p l e R s m args below meth c T locs cells slots) (hx : p.tables.exec = Jvm.exec) {k : Fin 4} {v : Value} (hd : decode c.code pc = .ok (.astore_n k, 1)) (hp : pc + 1 = pc') (hv : v.isRef = true) (hl : storeLocals Ls k.val v = some Ls') (K : Dn p e below P (T.setTop (mkF m pc' Ls' st))) : Dn p e below P (T.setTop (mkF m pc Ls (v :: st))) := by
  subst hp
  obtain ⟨s₂, o, h1, h2⟩ := K
  exact ⟨s₂, o, XS.astoreN X.here hx rfl hd rfl hv hl h1, h2⟩
theorem o_iconst (X : Stand p l e R s m args below meth c T locs cells slots) (hx : p.tables.exec = Jvm.exec) {i : Int} {v : Int32} (hd : decode c.code pc = .ok (.iconst i, 1)) (hp : pc + 1 = pc') (hv : Int32.ofInt i = v) (K : Dn p e below P (T.setTop (mkF m pc' Ls (.int v :: st)))) : Dn p e below P (T.setTop (mkF m pc Ls st)) := by
  subst hp hv
  obtain ⟨s₂, o, h1, h2⟩ := K
  exact ⟨s₂, o, XS.iconst X.here hx rfl hd h1, h2⟩
theorem o_bipush (X : Stand p l e R s m args below meth c T locs cells slots) (hx : p.tables.exec = Jvm.exec) {i : Int} {v : Int32} (hd : decode c.code pc = .ok (.bipush i, 2)) (hp : pc + 2 = pc') (hv : (Int8.ofInt i).toInt32 = v) (K : Dn p e below P (T.setTop (mkF m pc' Ls (.int v :: st)))) : Dn p e below P (T.setTop (mkF m pc Ls st)) := by
  subst hp hv
  obtain ⟨s₂, o, h1, h2⟩ := K
  exact ⟨s₂, o, XS.bipush X.here hx rfl hd h1, h2⟩
theorem o_sipush (X : Stand p l e R s m args below meth c T locs cells slots) (hx : p.tables.exec = Jvm.exec) {i : Int} {v : Int32} (hd : decode c.code pc = .ok (.sipush i, 3)) (hp : pc + 3 = pc') (hv : (Int16.ofInt i).toInt32 = v) (K : Dn p e below P (T.setTop (mkF m pc' Ls (.int v :: st)))) : Dn p e below P (T.setTop (mkF m pc Ls st)) := by
  subst hp hv
  obtain ⟨s₂, o, h1, h2⟩ := K
  exact ⟨s₂, o, XS.sipush X.here hx rfl hd h1, h2⟩
theorem o_lconst (X : Stand p l e R s m args below meth c T locs cells slots) (hx : p.tables.exec = Jvm.exec) {k : Fin 2} {v : Int64} (hd : decode c.code pc = .ok (.lconst k, 1)) (hp : pc + 1 = pc') (hv : Int64.ofNat k = v) (K : Dn p e below P (T.setTop (mkF m pc' Ls (.long v :: st)))) : Dn p e below P (T.setTop (mkF m pc Ls st)) := by
  subst hp hv
  obtain ⟨s₂, o, h1, h2⟩ := K
  exact ⟨s₂, o, XS.lconst X.here hx rfl hd h1, h2⟩
theorem o_aconstNull (X : Stand p l e R s m args below meth c T locs cells slots) (hx : p.tables.exec = Jvm.exec)  (hd : decode c.code pc = .ok (.aconst_null, 1)) (hp : pc + 1 = pc')  (K : Dn p e below P (T.setTop (mkF m pc' Ls (.null :: st)))) : Dn p e below P (T.setTop (mkF m pc Ls st)) := by
  subst hp
  obtain ⟨s₂, o, h1, h2⟩ := K
  exact ⟨s₂, o, XS.aconstNull X.here hx rfl hd  h1, h2⟩
theorem o_iadd (X : Stand p l e R s m args below meth c T locs cells slots) (hx : p.tables.exec = Jvm.exec) {x y : Int32} (hd : decode c.code pc = .ok (.iadd, 1)) (hp : pc + 1 = pc')  (K : Dn p e below P (T.setTop (mkF m pc' Ls (.int (x + y) :: st)))) : Dn p e below P (T.setTop (mkF m pc Ls (.int y :: .int x :: st))) := by
  subst hp
  obtain ⟨s₂, o, h1, h2⟩ := K
  exact ⟨s₂, o, XS.iadd X.here hx rfl hd rfl h1, h2⟩
theorem o_isub (X : Stand p l e R s m args below meth c T locs cells slots) (hx : p.tables.exec = Jvm.exec) {x y : Int32} (hd : decode c.code pc = .ok (.isub, 1)) (hp : pc + 1 = pc')  (K : Dn p e below P (T.setTop (mkF m pc' Ls (.int (x - y) :: st)))) : Dn p e below P (T.setTop (mkF m pc Ls (.int y :: .int x :: st))) := by
  subst hp
  obtain ⟨s₂, o, h1, h2⟩ := K
  exact ⟨s₂, o, XS.isub X.here hx rfl hd rfl h1, h2⟩
theorem o_imul (X : Stand p l e R s m args below meth c T locs cells slots) (hx : p.tables.exec = Jvm.exec) {x y : Int32} (hd : decode c.code pc = .ok (.imul, 1)) (hp : pc + 1 = pc')  (K : Dn p e below P (T.setTop (mkF m pc' Ls (.int (x * y) :: st)))) : Dn p e below P (T.setTop (mkF m pc Ls (.int y :: .int x :: st))) := by
  subst hp
  obtain ⟨s₂, o, h1, h2⟩ := K
  exact ⟨s₂, o, XS.imul X.here hx rfl hd rfl h1, h2⟩
theorem o_iand (X : Stand p l e R s m args below meth c T locs cells slots) (hx : p.tables.exec = Jvm.exec) {x y : Int32} (hd : decode c.code pc = .ok (.iand, 1)) (hp : pc + 1 = pc')  (K : Dn p e below P (T.setTop (mkF m pc' Ls (.int (x &&& y) :: st)))) : Dn p e below P (T.setTop (mkF m pc Ls (.int y :: .int x :: st))) := by
  subst hp
  obtain ⟨s₂, o, h1, h2⟩ := K
  exact ⟨s₂, o, XS.iand X.here hx rfl hd rfl h1, h2⟩
theorem o_ior (X : Stand p l e R s m args below meth c T locs cells slots) (hx : p.tables.exec = Jvm.exec) {x y : Int32} (hd : decode c.code pc = .ok (.ior, 1)) (hp : pc + 1 = pc')  (K : Dn p e below P (T.setTop (mkF m pc' Ls (.int (x ||| y) :: st)))) : Dn p e below P (T.setTop (mkF m pc Ls (.int y :: .int x :: st))) := by
  subst hp
  obtain ⟨s₂, o, h1, h2⟩ := K
  exact ⟨s₂, o, XS.ior X.here hx rfl hd rfl h1, h2⟩
theorem o_ixor (X : Stand p l e R s m args below meth c T locs cells slots) (hx : p.tables.exec = Jvm.exec) {x y : Int32} (hd : decode c.code pc = .ok (.ixor, 1)) (hp : pc + 1 = pc')  (K : Dn p e below P (T.setTop (mkF m pc' Ls (.int (x ^^^ y) :: st)))) : Dn p e below P (T.setTop (mkF m pc Ls (.int y :: .int x :: st))) := by
  subst hp
  obtain ⟨s₂, o, h1, h2⟩ := K
  exact ⟨s₂, o, XS.ixor X.here hx rfl hd rfl h1, h2⟩
theorem o_ladd (X : Stand p l e R s m args below meth c T locs cells slots) (hx : p.tables.exec = Jvm.exec) {x y : Int64} (hd : decode c.code pc = .ok (.ladd, 1)) (hp : pc + 1 = pc')  (K : Dn p e below P (T.setTop (mkF m pc' Ls (.long (x + y) :: st)))) : Dn p e below P (T.setTop (mkF m pc Ls (.long y :: .long x :: st))) := by
  subst hp
  obtain ⟨s₂, o, h1, h2⟩ := K
  exact ⟨s₂, o, XS.ladd X.here hx rfl hd rfl h1, h2⟩
theorem o_lsub (X : Stand p l e R s m args below meth c T locs cells slots) (hx : p.tables.exec = Jvm.exec) {x y : Int64} (hd : decode c.code pc = .ok (.lsub, 1)) (hp : pc + 1 = pc')  (K : Dn p e below P (T.setTop (mkF m pc' Ls (.long (x - y) :: st)))) : Dn p e below P (T.setTop (mkF m pc Ls (.long y :: .long x :: st))) := by
  subst hp
  obtain ⟨s₂, o, h1, h2⟩ := K
  exact ⟨s₂, o, XS.lsub X.here hx rfl hd rfl h1, h2⟩
theorem o_lmul (X : Stand p l e R s m args below meth c T locs cells slots) (hx : p.tables.exec = Jvm.exec) {x y : Int64} (hd : decode c.code pc = .ok (.lmul, 1)) (hp : pc + 1 = pc')  (K : Dn p e below P (T.setTop (mkF m pc' Ls (.long (x * y) :: st)))) : Dn p e below P (T.setTop (mkF m pc Ls (.long y :: .long x :: st))) := by
  subst hp
  obtain ⟨s₂, o, h1, h2⟩ := K
  exact ⟨s₂, o, XS.lmul X.here hx rfl hd rfl h1, h2⟩
theorem o_land (X : Stand p l e R s m args below meth c T locs cells slots) (hx : p.tables.exec = Jvm.exec) {x y : Int64} (hd : decode c.code pc = .ok (.land, 1)) (hp : pc + 1 = pc')  (K : Dn p e below P (T.setTop (mkF m pc' Ls (.long (x &&& y) :: st)))) : Dn p e below P (T.setTop (mkF m pc Ls (.long y :: .long x :: st))) := by
  subst hp
  obtain ⟨s₂, o, h1, h2⟩ := K
  exact ⟨s₂, o, XS.land X.here hx rfl hd rfl h1, h2⟩
theorem o_lor (X : Stand p l e R s m args below meth c T locs cells slots) (hx : p.tables.exec = Jvm.exec) {x y : Int64} (hd : decode c.code pc = .ok (.lor, 1)) (hp : pc + 1 = pc')  (K : Dn p e below P (T.setTop (mkF m pc' Ls (.long (x ||| y) :: st)))) : Dn p e below P (T.setTop (mkF m pc Ls (.long y :: .long x :: st))) := by
  subst hp
  obtain ⟨s₂, o, h1, h2⟩ := K
  exact ⟨s₂, o, XS.lor X.here hx rfl hd rfl h1, h2⟩
theorem o_lxor (X : Stand p l e R s m args below meth c T locs cells slots) (hx : p.tables.exec = Jvm.exec) {x y : Int64} (hd : decode c.code pc = .ok (.lxor, 1)) (hp : pc + 1 = pc')  (K : Dn p e below P (T.setTop (mkF m pc' Ls (.long (x ^^^ y) :: st)))) : Dn p e below P (T.setTop (mkF m pc Ls (.long y :: .long x :: st))) := by
  subst hp
  obtain ⟨s₂, o, h1, h2⟩ := K
  exact ⟨s₂, o, XS.lxor X.here hx rfl hd rfl h1, h2⟩
theorem o_ishl (X : Stand p l e R s m args below meth c T locs cells slots) (hx : p.tables.exec = Jvm.exec) {x : Int32} {y : Int32} (hd : decode c.code pc = .ok (.ishl, 1)) (hp : pc + 1 = pc')  (K : Dn p e below P (T.setTop (mkF m pc' Ls (.int (x <<< (y &&& 31)) :: st)))) : Dn p e below P (T.setTop (mkF m pc Ls (.int y :: .int x :: st))) := by
  subst hp
  obtain ⟨s₂, o, h1, h2⟩ := K
  exact ⟨s₂, o, XS.ishl X.here hx rfl hd rfl h1, h2⟩
theorem o_ishr (X : Stand p l e R s m args below meth c T locs cells slots) (hx : p.tables.exec = Jvm.exec) {x : Int32} {y : Int32} (hd : decode c.code pc = .ok (.ishr, 1)) (hp : pc + 1 = pc')  (K : Dn p e below P (T.setTop (mkF m pc' Ls (.int (x >>> (y &&& 31)) :: st)))) : Dn p e below P (T.setTop (mkF m pc Ls (.int y :: .int x :: st))) := by
  subst hp
  obtain ⟨s₂, o, h1, h2⟩ := K
  exact ⟨s₂, o, XS.ishr X.here hx rfl hd rfl h1, h2⟩
theorem o_iushr (X : Stand p l e R s m args below meth c T locs cells slots) (hx : p.tables.exec = Jvm.exec) {x : Int32} {y : Int32} (hd : decode c.code pc = .ok (.iushr, 1)) (hp : pc + 1 = pc')  (K : Dn p e below P (T.setTop (mkF m pc' Ls (.int ((x.toUInt32 >>> (y &&& 31).toUInt32).toInt32) :: st)))) : Dn p e below P (T.setTop (mkF m pc Ls (.int y :: .int x :: st))) := by
  subst hp
  obtain ⟨s₂, o, h1, h2⟩ := K
  exact ⟨s₂, o, XS.iushr X.here hx rfl hd rfl h1, h2⟩
theorem o_lshl (X : Stand p l e R s m args below meth c T locs cells slots) (hx : p.tables.exec = Jvm.exec) {x : Int64} {y : Int32} (hd : decode c.code pc = .ok (.lshl, 1)) (hp : pc + 1 = pc')  (K : Dn p e below P (T.setTop (mkF m pc' Ls (.long (x <<< (y &&& 0x3f).toInt64) :: st)))) : Dn p e below P (T.setTop (mkF m pc Ls (.int y :: .long x :: st))) := by
  subst hp
  obtain ⟨s₂, o, h1, h2⟩ := K
  exact ⟨s₂, o, XS.lshl X.here hx rfl hd rfl h1, h2⟩
theorem o_lshr (X : Stand p l e R s m args below meth c T locs cells slots) (hx : p.tables.exec = Jvm.exec) {x : Int64} {y : Int32} (hd : decode c.code pc = .ok (.lshr, 1)) (hp : pc + 1 = pc')  (K : Dn p e below P (T.setTop (mkF m pc' Ls (.long (x >>> (y &&& 0x3f).toInt64) :: st)))) : Dn p e below P (T.setTop (mkF m pc Ls (.int y :: .long x :: st))) := by
  subst hp
  obtain ⟨s₂, o, h1, h2⟩ := K
  exact ⟨s₂, o, XS.lshr X.here hx rfl hd rfl h1, h2⟩
theorem o_lushr (X : Stand p l e R s m args below meth c T locs cells slots) (hx : p.tables.exec = Jvm.exec) {x : Int64} {y : Int32} (hd : decode c.code pc = .ok (.lushr, 1)) (hp : pc + 1 = pc')  (K : Dn p e below P (T.setTop (mkF m pc' Ls (.long ((x.toUInt64 >>> (y &&& 0x3f).toInt64.toUInt64).toInt64) :: st)))) : Dn p e below P (T.setTop (mkF m pc Ls (.int y :: .long x :: st))) := by
  subst hp
  obtain ⟨s₂, o, h1, h2⟩ := K
  exact ⟨s₂, o, XS.lushr X.here hx rfl hd rfl h1, h2⟩
theorem o_ineg (X : Stand p l e R s m args below meth c T locs cells slots) (hx : p.tables.exec = Jvm.exec) {x : Int32} (hd : decode c.code pc = .ok (.ineg, 1)) (hp : pc + 1 = pc')  (K : Dn p e below P (T.setTop (mkF m pc' Ls (.int (-x) :: st)))) : Dn p e below P (T.setTop (mkF m pc Ls (.int x :: st))) := by
  subst hp
  obtain ⟨s₂, o, h1, h2⟩ := K
  exact ⟨s₂, o, XS.ineg X.here hx rfl hd rfl h1, h2⟩
theorem o_lneg (X : Stand p l e R s m args below meth c T locs cells slots) (hx : p.tables.exec = Jvm.exec) {x : Int64} (hd : decode c.code pc = .ok (.lneg, 1)) (hp : pc + 1 = pc')  (K : Dn p e below P (T.setTop (mkF m pc' Ls (.long (-x) :: st)))) : Dn p e below P (T.setTop (mkF m pc Ls (.long x :: st))) := by
  subst hp
  obtain ⟨s₂, o, h1, h2⟩ := K
  exact ⟨s₂, o, XS.lneg X.here hx rfl hd rfl h1, h2⟩
theorem o_i2l (X : Stand p l e R s m args below meth c T locs cells slots) (hx : p.tables.exec = Jvm.exec) {x : Int32} (hd : decode c.code pc = .ok (.i2l, 1)) (hp : pc + 1 = pc')  (K : Dn p e below P (T.setTop (mkF m pc' Ls (.long (x.toInt64) :: st)))) : Dn p e below P (T.setTop (mkF m pc Ls (.int x :: st))) := by
  subst hp
  obtain ⟨s₂, o, h1, h2⟩ := K
  exact ⟨s₂, o, XS.i2l X.here hx rfl hd rfl h1, h2⟩
theorem o_l2i (X : Stand p l e R s m args below meth c T locs cells slots) (hx : p.tables.exec = Jvm.exec) {x : Int64} (hd : decode c.code pc = .ok (.l2i, 1)) (hp : pc + 1 = pc')  (K : Dn p e below P (T.setTop (mkF m pc' Ls (.int (x.toInt32) :: st)))) : Dn p e below P (T.setTop (mkF m pc Ls (.long x :: st))) := by
  subst hp
  obtain ⟨s₂, o, h1, h2⟩ := K
  exact ⟨s₂, o, XS.l2i X.here hx rfl hd rfl h1, h2⟩
theorem o_i2b (X : Stand p l e R s m args below meth c T locs cells slots) (hx : p.tables.exec = Jvm.exec) {x : Int32} (hd : decode c.code pc = .ok (.i2b, 1)) (hp : pc + 1 = pc')  (K : Dn p e below P (T.setTop (mkF m pc' Ls (.int (x.toInt8.toInt32) :: st)))) : Dn p e below P (T.setTop (mkF m pc Ls (.int x :: st))) := by
  subst hp
  obtain ⟨s₂, o, h1, h2⟩ := K
  exact ⟨s₂, o, XS.i2b X.here hx rfl hd rfl h1, h2⟩
theorem o_i2s (X : Stand p l e R s m args below meth c T locs cells slots) (hx : p.tables.exec = Jvm.exec) {x : Int32} (hd : decode c.code pc = .ok (.i2s, 1)) (hp : pc + 1 = pc')  (K : Dn p e below P (T.setTop (mkF m pc' Ls (.int (x.toInt16.toInt32) :: st)))) : Dn p e below P (T.setTop (mkF m pc Ls (.int x :: st))) := by
  subst hp
  obtain ⟨s₂, o, h1, h2⟩ := K
  exact ⟨s₂, o, XS.i2s X.here hx rfl hd rfl h1, h2⟩
theorem o_i2c (X : Stand p l e R s m args below meth c T locs cells slots) (hx : p.tables.exec = Jvm.exec) {x : Int32} (hd : decode c.code pc = .ok (.i2c, 1)) (hp : pc + 1 = pc')  (K : Dn p e below P (T.setTop (mkF m pc' Ls (.int (x.toUInt32.toUInt16.toUInt32.toInt32) :: st)))) : Dn p e below P (T.setTop (mkF m pc Ls (.int x :: st))) := by
  subst hp
  obtain ⟨s₂, o, h1, h2⟩ := K
  exact ⟨s₂, o, XS.i2c X.here hx rfl hd rfl h1, h2⟩
theorem o_idiv (X : Stand p l e R s m args below meth c T locs cells slots) (hx : p.tables.exec = Jvm.exec) {x y : Int32} (hd : decode c.code pc = .ok (.idiv, 1)) (hp : pc + 1 = pc') (hy : y ≠ 0) (K : Dn p e below P (T.setTop (mkF m pc' Ls (.int (x / y) :: st)))) : Dn p e below P (T.setTop (mkF m pc Ls (.int y :: .int x :: st))) := by
  subst hp
  obtain ⟨s₂, o, h1, h2⟩ := K
  exact ⟨s₂, o, XS.idiv X.here hx rfl hd rfl hy h1, h2⟩
theorem o_ldiv (X : Stand p l e R s m args below meth c T locs cells slots) (hx : p.tables.exec = Jvm.exec) {x y : Int64} (hd : decode c.code pc = .ok (.ldiv, 1)) (hp : pc + 1 = pc') (hy : y ≠ 0) (K : Dn p e below P (T.setTop (mkF m pc' Ls (.long (x / y) :: st)))) : Dn p e below P (T.setTop (mkF m pc Ls (.long y :: .long x :: st))) := by
  subst hp
  obtain ⟨s₂, o, h1, h2⟩ := K
  exact ⟨s₂, o, XS.ldiv X.here hx rfl hd rfl hy h1, h2⟩
theorem o_irem (X : Stand p l e R s m args below meth c T locs cells slots) (hx : p.tables.exec = Jvm.exec) {x y : Int32} (hd : decode c.code pc = .ok (.irem, 1)) (hp : pc + 1 = pc') (hy : y ≠ 0) (K : Dn p e below P (T.setTop (mkF m pc' Ls (.int (x % y) :: st)))) : Dn p e below P (T.setTop (mkF m pc Ls (.int y :: .int x :: st))) := by
  subst hp
  obtain ⟨s₂, o, h1, h2⟩ := K
  exact ⟨s₂, o, iremM X hx rfl hd rfl hy h1, h2⟩
theorem o_lcmp (X : Stand p l e R s m args below meth c T locs cells slots) (hx : p.tables.exec = Jvm.exec) {x y : Int64} (hd : decode c.code pc = .ok (.lcmp, 1)) (hp : pc + 1 = pc')  (K : Dn p e below P (T.setTop (mkF m pc' Ls (.int (lcmpW x y) :: st)))) : Dn p e below P (T.setTop (mkF m pc Ls (.long y :: .long x :: st))) := by
  subst hp
  obtain ⟨s₂, o, h1, h2⟩ := K
  exact ⟨s₂, o, XS.lcmp X.here hx rfl hd rfl h1, h2⟩
theorem o_dup (X : Stand p l e R s m args below meth c T locs cells slots) (hx : p.tables.exec = Jvm.exec) {v : Value} (hd : decode c.code pc = .ok (.dup, 1)) (hp : pc + 1 = pc') (hv : v.category = 1) (K : Dn p e below P (T.setTop (mkF m pc' Ls (v :: v :: st)))) : Dn p e below P (T.setTop (mkF m pc Ls (v :: st))) := by
  subst hp
  obtain ⟨s₂, o, h1, h2⟩ := K
  exact ⟨s₂, o, XS.dup X.here hx rfl hd rfl hv h1, h2⟩
theorem o_pop (X : Stand p l e R s m args below meth c T locs cells slots) (hx : p.tables.exec = Jvm.exec) {v : Value} (hd : decode c.code pc = .ok (.pop, 1)) (hp : pc + 1 = pc') (hv : v.category = 1) (K : Dn p e below P (T.setTop (mkF m pc' Ls st))) : Dn p e below P (T.setTop (mkF m pc Ls (v :: st))) := by
  subst hp
  obtain ⟨s₂, o, h1, h2⟩ := K
  exact ⟨s₂, o, XS.pop X.here hx rfl hd rfl hv h1, h2⟩
theorem o_dupX1 (X : Stand p l e R s m args below meth c T locs cells slots) (hx : p.tables.exec = Jvm.exec) {v w : Value} (hd : decode c.code pc = .ok (.dup_x1, 1)) (hp : pc + 1 = pc') (hv : v.category = 1) (hw : w.category = 1) (K : Dn p e below P (T.setTop (mkF m pc' Ls (v :: w :: v :: st)))) : Dn p e below P (T.setTop (mkF m pc Ls (v :: w :: st))) := by
  subst hp
  obtain ⟨s₂, o, h1, h2⟩ := K
  exact ⟨s₂, o, XS.dupX1 X.here hx rfl hd rfl hv hw h1, h2⟩
theorem o_iinc (X : Stand p l e R s m args below meth c T locs cells slots) (hx : p.tables.exec = Jvm.exec) {k : Nat} {i : Int} {x v : Int32} (hd : decode c.code pc = .ok (.iinc k i, 3)) (hp : pc + 3 = pc') (hv : Int32.ofInt i = v) (hl : Ls[k]? = some (.val (.int x))) (hl' : storeLocals Ls k (.int (x + v)) = some Ls') (K : Dn p e below P (T.setTop (mkF m pc' Ls' st))) : Dn p e below P (T.setTop (mkF m pc Ls st)) := by
  subst hp hv
  obtain ⟨s₂, o, h1, h2⟩ := K
  exact ⟨s₂, o, XS.iinc X.here hx rfl hd hl hl' h1, h2⟩
theorem o_goto (X : Stand p l e R s m args below meth c T locs cells slots) (hx : p.tables.exec = Jvm.exec) {i : Int} (hd : decode c.code pc = .ok (.goto i, 3)) (ho : 0 ≤ (pc : Int) + i) (hp : ((pc : Int) + i).toNat = pc') (K : Dn p e below P (T.setTop (mkF m pc' Ls st))) : Dn p e below P (T.setTop (mkF m pc Ls st)) := by
  obtain ⟨s₂, o, h1, h2⟩ := K
  exact ⟨s₂, o, XS.goto X.here hx rfl (pc0 := pc) rfl hd ho hp h1, h2⟩
theorem o_if_eq (X : Stand p l e R s m args below meth c T locs cells slots) (hx : p.tables.exec = Jvm.exec) {x : Int32} {i : Int} {pt : Nat} (hd : decode c.code pc = .ok (.ifCond .eq i, 3)) (hp : pc + 3 = pc') (ho : 0 ≤ (pc : Int) + i) (ht : ((pc : Int) + i).toNat = pt) (Kt : x = (0 : Int32) → Dn p e below P (T.setTop (mkF m pt Ls st))) (Kf : ¬ (x = (0 : Int32)) → Dn p e below P (T.setTop (mkF m pc' Ls st))) : Dn p e below P (T.setTop (mkF m pc Ls (.int x :: st))) := by
  subst hp
  by_cases hq : x = (0 : Int32)
  · obtain ⟨s₂, o, h1, h2⟩ := Kt hq
    exact ⟨s₂, o, XS.ifYes X.here hx rfl (pc0 := pc) rfl hd rfl ((if0 _ _).trans (teq hq).1) ho ht h1, h2⟩
  · obtain ⟨s₂, o, h1, h2⟩ := Kf hq
    exact ⟨s₂, o, XS.ifNo X.here hx rfl hd rfl ((if0 _ _).trans (feq hq).1) h1, h2⟩
theorem o_icmp_eq (X : Stand p l e R s m args below meth c T locs cells slots) (hx : p.tables.exec = Jvm.exec) {x y : Int32} {i : Int} {pt : Nat} (hd : decode c.code pc = .ok (.if_icmp .eq i, 3)) (hp : pc + 3 = pc') (ho : 0 ≤ (pc : Int) + i) (ht : ((pc : Int) + i).toNat = pt) (Kt : x = y → Dn p e below P (T.setTop (mkF m pt Ls st))) (Kf : ¬ (x = y) → Dn p e below P (T.setTop (mkF m pc' Ls st))) : Dn p e below P (T.setTop (mkF m pc Ls (.int y :: .int x :: st))) := by
  subst hp
  by_cases hq : x = y
  · obtain ⟨s₂, o, h1, h2⟩ := Kt hq
    exact ⟨s₂, o, XS.icmpYes X.here hx rfl (pc0 := pc) rfl hd rfl (teq hq).1 ho ht h1, h2⟩
  · obtain ⟨s₂, o, h1, h2⟩ := Kf hq
    exact ⟨s₂, o, XS.icmpNo X.here hx rfl hd rfl (feq hq).1 h1, h2⟩
theorem o_lif_eq (X : Stand p l e R s m args below meth c T locs cells slots) (hx : p.tables.exec = Jvm.exec) {x y : Int64} {i : Int} {pt : Nat} (hd : decode c.code pc = .ok (.ifCond .eq i, 3)) (hp : pc + 3 = pc') (ho : 0 ≤ (pc : Int) + i) (ht : ((pc : Int) + i).toNat = pt) (Kt : x = y → Dn p e below P (T.setTop (mkF m pt Ls st))) (Kf : ¬ (x = y) → Dn p e below P (T.setTop (mkF m pc' Ls st))) : Dn p e below P (T.setTop (mkF m pc Ls (.int (lcmpW x y) :: st))) := by
  subst hp
  by_cases hq : x = y
  · obtain ⟨s₂, o, h1, h2⟩ := Kt hq
    exact ⟨s₂, o, XS.ifYes X.here hx rfl (pc0 := pc) rfl hd rfl ((if0 _ _).trans (teq ((lw_eq x y).mpr hq)).1) ho ht h1, h2⟩
  · obtain ⟨s₂, o, h1, h2⟩ := Kf hq
    exact ⟨s₂, o, XS.ifNo X.here hx rfl hd rfl ((if0 _ _).trans (feq (fun z => hq ((lw_eq x y).mp z))).1) h1, h2⟩
theorem o_if_ne (X : Stand p l e R s m args below meth c T locs cells slots) (hx : p.tables.exec = Jvm.exec) {x : Int32} {i : Int} {pt : Nat} (hd : decode c.code pc = .ok (.ifCond .ne i, 3)) (hp : pc + 3 = pc') (ho : 0 ≤ (pc : Int) + i) (ht : ((pc : Int) + i).toNat = pt) (Kt : ¬ (x = (0 : Int32)) → Dn p e below P (T.setTop (mkF m pt Ls st))) (Kf : x = (0 : Int32) → Dn p e below P (T.setTop (mkF m pc' Ls st))) : Dn p e below P (T.setTop (mkF m pc Ls (.int x :: st))) := by
  subst hp
  by_cases hq : x = (0 : Int32)
  · obtain ⟨s₂, o, h1, h2⟩ := Kf hq
    exact ⟨s₂, o, XS.ifNo X.here hx rfl hd rfl ((if0 _ _).trans (teq hq).2) h1, h2⟩
  · obtain ⟨s₂, o, h1, h2⟩ := Kt hq
    exact ⟨s₂, o, XS.ifYes X.here hx rfl (pc0 := pc) rfl hd rfl ((if0 _ _).trans (feq hq).2) ho ht h1, h2⟩
theorem o_icmp_ne (X : Stand p l e R s m args below meth c T locs cells slots) (hx : p.tables.exec = Jvm.exec) {x y : Int32} {i : Int} {pt : Nat} (hd : decode c.code pc = .ok (.if_icmp .ne i, 3)) (hp : pc + 3 = pc') (ho : 0 ≤ (pc : Int) + i) (ht : ((pc : Int) + i).toNat = pt) (Kt : ¬ (x = y) → Dn p e below P (T.setTop (mkF m pt Ls st))) (Kf : x = y → Dn p e below P (T.setTop (mkF m pc' Ls st))) : Dn p e below P (T.setTop (mkF m pc Ls (.int y :: .int x :: st))) := by
  subst hp
  by_cases hq : x = y
  · obtain ⟨s₂, o, h1, h2⟩ := Kf hq
    exact ⟨s₂, o, XS.icmpNo X.here hx rfl hd rfl (teq hq).2 h1, h2⟩
  · obtain ⟨s₂, o, h1, h2⟩ := Kt hq
    exact ⟨s₂, o, XS.icmpYes X.here hx rfl (pc0 := pc) rfl hd rfl (feq hq).2 ho ht h1, h2⟩
theorem o_lif_ne (X : Stand p l e R s m args below meth c T locs cells slots) (hx : p.tables.exec = Jvm.exec) {x y : Int64} {i : Int} {pt : Nat} (hd : decode c.code pc = .ok (.ifCond .ne i, 3)) (hp : pc + 3 = pc') (ho : 0 ≤ (pc : Int) + i) (ht : ((pc : Int) + i).toNat = pt) (Kt : ¬ (x = y) → Dn p e below P (T.setTop (mkF m pt Ls st))) (Kf : x = y → Dn p e below P (T.setTop (mkF m pc' Ls st))) : Dn p e below P (T.setTop (mkF m pc Ls (.int (lcmpW x y) :: st))) := by
  subst hp
  by_cases hq : x = y
  · obtain ⟨s₂, o, h1, h2⟩ := Kf hq
    exact ⟨s₂, o, XS.ifNo X.here hx rfl hd rfl ((if0 _ _).trans (teq ((lw_eq x y).mpr hq)).2) h1, h2⟩
  · obtain ⟨s₂, o, h1, h2⟩ := Kt hq
    exact ⟨s₂, o, XS.ifYes X.here hx rfl (pc0 := pc) rfl hd rfl ((if0 _ _).trans (feq (fun z => hq ((lw_eq x y).mp z))).2) ho ht h1, h2⟩
theorem o_if_lt (X : Stand p l e R s m args below meth c T locs cells slots) (hx : p.tables.exec = Jvm.exec) {x : Int32} {i : Int} {pt : Nat} (hd : decode c.code pc = .ok (.ifCond .lt i, 3)) (hp : pc + 3 = pc') (ho : 0 ≤ (pc : Int) + i) (ht : ((pc : Int) + i).toNat = pt) (Kt : x < (0 : Int32) → Dn p e below P (T.setTop (mkF m pt Ls st))) (Kf : ¬ (x < (0 : Int32)) → Dn p e below P (T.setTop (mkF m pc' Ls st))) : Dn p e below P (T.setTop (mkF m pc Ls (.int x :: st))) := by
  subst hp
  by_cases hq : x < (0 : Int32)
  · obtain ⟨s₂, o, h1, h2⟩ := Kt hq
    exact ⟨s₂, o, XS.ifYes X.here hx rfl (pc0 := pc) rfl hd rfl ((if0 _ _).trans (tlt hq).1) ho ht h1, h2⟩
  · obtain ⟨s₂, o, h1, h2⟩ := Kf hq
    exact ⟨s₂, o, XS.ifNo X.here hx rfl hd rfl ((if0 _ _).trans (flt hq).1) h1, h2⟩
theorem o_icmp_lt (X : Stand p l e R s m args below meth c T locs cells slots) (hx : p.tables.exec = Jvm.exec) {x y : Int32} {i : Int} {pt : Nat} (hd : decode c.code pc = .ok (.if_icmp .lt i, 3)) (hp : pc + 3 = pc') (ho : 0 ≤ (pc : Int) + i) (ht : ((pc : Int) + i).toNat = pt) (Kt : x < y → Dn p e below P (T.setTop (mkF m pt Ls st))) (Kf : ¬ (x < y) → Dn p e below P (T.setTop (mkF m pc' Ls st))) : Dn p e below P (T.setTop (mkF m pc Ls (.int y :: .int x :: st))) := by
  subst hp
  by_cases hq : x < y
  · obtain ⟨s₂, o, h1, h2⟩ := Kt hq
    exact ⟨s₂, o, XS.icmpYes X.here hx rfl (pc0 := pc) rfl hd rfl (tlt hq).1 ho ht h1, h2⟩
  · obtain ⟨s₂, o, h1, h2⟩ := Kf hq
    exact ⟨s₂, o, XS.icmpNo X.here hx rfl hd rfl (flt hq).1 h1, h2⟩
theorem o_lif_lt (X : Stand p l e R s m args below meth c T locs cells slots) (hx : p.tables.exec = Jvm.exec) {x y : Int64} {i : Int} {pt : Nat} (hd : decode c.code pc = .ok (.ifCond .lt i, 3)) (hp : pc + 3 = pc') (ho : 0 ≤ (pc : Int) + i) (ht : ((pc : Int) + i).toNat = pt) (Kt : x < y → Dn p e below P (T.setTop (mkF m pt Ls st))) (Kf : ¬ (x < y) → Dn p e below P (T.setTop (mkF m pc' Ls st))) : Dn p e below P (T.setTop (mkF m pc Ls (.int (lcmpW x y) :: st))) := by
  subst hp
  by_cases hq : x < y
  · obtain ⟨s₂, o, h1, h2⟩ := Kt hq
    exact ⟨s₂, o, XS.ifYes X.here hx rfl (pc0 := pc) rfl hd rfl ((if0 _ _).trans (tlt ((lw_lt x y).mpr hq)).1) ho ht h1, h2⟩
  · obtain ⟨s₂, o, h1, h2⟩ := Kf hq
    exact ⟨s₂, o, XS.ifNo X.here hx rfl hd rfl ((if0 _ _).trans (flt (fun z => hq ((lw_lt x y).mp z))).1) h1, h2⟩
theorem o_if_ge (X : Stand p l e R s m args below meth c T locs cells slots) (hx : p.tables.exec = Jvm.exec) {x : Int32} {i : Int} {pt : Nat} (hd : decode c.code pc = .ok (.ifCond .ge i, 3)) (hp : pc + 3 = pc') (ho : 0 ≤ (pc : Int) + i) (ht : ((pc : Int) + i).toNat = pt) (Kt : ¬ (x < (0 : Int32)) → Dn p e below P (T.setTop (mkF m pt Ls st))) (Kf : x < (0 : Int32) → Dn p e below P (T.setTop (mkF m pc' Ls st))) : Dn p e below P (T.setTop (mkF m pc Ls (.int x :: st))) := by
  subst hp
  by_cases hq : x < (0 : Int32)
  · obtain ⟨s₂, o, h1, h2⟩ := Kf hq
    exact ⟨s₂, o, XS.ifNo X.here hx rfl hd rfl ((if0 _ _).trans (tlt hq).2.1) h1, h2⟩
  · obtain ⟨s₂, o, h1, h2⟩ := Kt hq
    exact ⟨s₂, o, XS.ifYes X.here hx rfl (pc0 := pc) rfl hd rfl ((if0 _ _).trans (flt hq).2.1) ho ht h1, h2⟩
theorem o_icmp_ge (X : Stand p l e R s m args below meth c T locs cells slots) (hx : p.tables.exec = Jvm.exec) {x y : Int32} {i : Int} {pt : Nat} (hd : decode c.code pc = .ok (.if_icmp .ge i, 3)) (hp : pc + 3 = pc') (ho : 0 ≤ (pc : Int) + i) (ht : ((pc : Int) + i).toNat = pt) (Kt : ¬ (x < y) → Dn p e below P (T.setTop (mkF m pt Ls st))) (Kf : x < y → Dn p e below P (T.setTop (mkF m pc' Ls st))) : Dn p e below P (T.setTop (mkF m pc Ls (.int y :: .int x :: st))) := by
  subst hp
  by_cases hq : x < y
  · obtain ⟨s₂, o, h1, h2⟩ := Kf hq
    exact ⟨s₂, o, XS.icmpNo X.here hx rfl hd rfl (tlt hq).2.1 h1, h2⟩
  · obtain ⟨s₂, o, h1, h2⟩ := Kt hq
    exact ⟨s₂, o, XS.icmpYes X.here hx rfl (pc0 := pc) rfl hd rfl (flt hq).2.1 ho ht h1, h2⟩
theorem o_lif_ge (X : Stand p l e R s m args below meth c T locs cells slots) (hx : p.tables.exec = Jvm.exec) {x y : Int64} {i : Int} {pt : Nat} (hd : decode c.code pc = .ok (.ifCond .ge i, 3)) (hp : pc + 3 = pc') (ho : 0 ≤ (pc : Int) + i) (ht : ((pc : Int) + i).toNat = pt) (Kt : ¬ (x < y) → Dn p e below P (T.setTop (mkF m pt Ls st))) (Kf : x < y → Dn p e below P (T.setTop (mkF m pc' Ls st))) : Dn p e below P (T.setTop (mkF m pc Ls (.int (lcmpW x y) :: st))) := by
  subst hp
  by_cases hq : x < y
  · obtain ⟨s₂, o, h1, h2⟩ := Kf hq
    exact ⟨s₂, o, XS.ifNo X.here hx rfl hd rfl ((if0 _ _).trans (tlt ((lw_lt x y).mpr hq)).2.1) h1, h2⟩
  · obtain ⟨s₂, o, h1, h2⟩ := Kt hq
    exact ⟨s₂, o, XS.ifYes X.here hx rfl (pc0 := pc) rfl hd rfl ((if0 _ _).trans (flt (fun z => hq ((lw_lt x y).mp z))).2.1) ho ht h1, h2⟩
theorem o_if_gt (X : Stand p l e R s m args below meth c T locs cells slots) (hx : p.tables.exec = Jvm.exec) {x : Int32} {i : Int} {pt : Nat} (hd : decode c.code pc = .ok (.ifCond .gt i, 3)) (hp : pc + 3 = pc') (ho : 0 ≤ (pc : Int) + i) (ht : ((pc : Int) + i).toNat = pt) (Kt : (0 : Int32) < x → Dn p e below P (T.setTop (mkF m pt Ls st))) (Kf : ¬ ((0 : Int32) < x) → Dn p e below P (T.setTop (mkF m pc' Ls st))) : Dn p e below P (T.setTop (mkF m pc Ls (.int x :: st))) := by
  subst hp
  by_cases hq : (0 : Int32) < x
  · obtain ⟨s₂, o, h1, h2⟩ := Kt hq
    exact ⟨s₂, o, XS.ifYes X.here hx rfl (pc0 := pc) rfl hd rfl ((if0 _ _).trans (tlt hq).2.2.1) ho ht h1, h2⟩
  · obtain ⟨s₂, o, h1, h2⟩ := Kf hq
    exact ⟨s₂, o, XS.ifNo X.here hx rfl hd rfl ((if0 _ _).trans (flt hq).2.2.1) h1, h2⟩
theorem o_icmp_gt (X : Stand p l e R s m args below meth c T locs cells slots) (hx : p.tables.exec = Jvm.exec) {x y : Int32} {i : Int} {pt : Nat} (hd : decode c.code pc = .ok (.if_icmp .gt i, 3)) (hp : pc + 3 = pc') (ho : 0 ≤ (pc : Int) + i) (ht : ((pc : Int) + i).toNat = pt) (Kt : y < x → Dn p e below P (T.setTop (mkF m pt Ls st))) (Kf : ¬ (y < x) → Dn p e below P (T.setTop (mkF m pc' Ls st))) : Dn p e below P (T.setTop (mkF m pc Ls (.int y :: .int x :: st))) := by
  subst hp
  by_cases hq : y < x
  · obtain ⟨s₂, o, h1, h2⟩ := Kt hq
    exact ⟨s₂, o, XS.icmpYes X.here hx rfl (pc0 := pc) rfl hd rfl (tlt hq).2.2.1 ho ht h1, h2⟩
  · obtain ⟨s₂, o, h1, h2⟩ := Kf hq
    exact ⟨s₂, o, XS.icmpNo X.here hx rfl hd rfl (flt hq).2.2.1 h1, h2⟩
theorem o_lif_gt (X : Stand p l e R s m args below meth c T locs cells slots) (hx : p.tables.exec = Jvm.exec) {x y : Int64} {i : Int} {pt : Nat} (hd : decode c.code pc = .ok (.ifCond .gt i, 3)) (hp : pc + 3 = pc') (ho : 0 ≤ (pc : Int) + i) (ht : ((pc : Int) + i).toNat = pt) (Kt : y < x → Dn p e below P (T.setTop (mkF m pt Ls st))) (Kf : ¬ (y < x) → Dn p e below P (T.setTop (mkF m pc' Ls st))) : Dn p e below P (T.setTop (mkF m pc Ls (.int (lcmpW x y) :: st))) := by
  subst hp
  by_cases hq : y < x
  · obtain ⟨s₂, o, h1, h2⟩ := Kt hq
    exact ⟨s₂, o, XS.ifYes X.here hx rfl (pc0 := pc) rfl hd rfl ((if0 _ _).trans (tlt ((lw_gt x y).mpr hq)).2.2.1) ho ht h1, h2⟩
  · obtain ⟨s₂, o, h1, h2⟩ := Kf hq
    exact ⟨s₂, o, XS.ifNo X.here hx rfl hd rfl ((if0 _ _).trans (flt (fun z => hq ((lw_gt x y).mp z))).2.2.1) h1, h2⟩
theorem o_if_le (X : Stand p l e R s m args below meth c T locs cells slots) (hx : p.tables.exec = Jvm.exec) {x : Int32} {i : Int} {pt : Nat} (hd : decode c.code pc = .ok (.ifCond .le i, 3)) (hp : pc + 3 = pc') (ho : 0 ≤ (pc : Int) + i) (ht : ((pc : Int) + i).toNat = pt) (Kt : ¬ ((0 : Int32) < x) → Dn p e below P (T.setTop (mkF m pt Ls st))) (Kf : (0 : Int32) < x → Dn p e below P (T.setTop (mkF m pc' Ls st))) : Dn p e below P (T.setTop (mkF m pc Ls (.int x :: st))) := by
  subst hp
  by_cases hq : (0 : Int32) < x
  · obtain ⟨s₂, o, h1, h2⟩ := Kf hq
    exact ⟨s₂, o, XS.ifNo X.here hx rfl hd rfl ((if0 _ _).trans (tlt hq).2.2.2) h1, h2⟩
  · obtain ⟨s₂, o, h1, h2⟩ := Kt hq
    exact ⟨s₂, o, XS.ifYes X.here hx rfl (pc0 := pc) rfl hd rfl ((if0 _ _).trans (flt hq).2.2.2) ho ht h1, h2⟩
theorem o_icmp_le (X : Stand p l e R s m args below meth c T locs cells slots) (hx : p.tables.exec = Jvm.exec) {x y : Int32} {i : Int} {pt : Nat} (hd : decode c.code pc = .ok (.if_icmp .le i, 3)) (hp : pc + 3 = pc') (ho : 0 ≤ (pc : Int) + i) (ht : ((pc : Int) + i).toNat = pt) (Kt : ¬ (y < x) → Dn p e below P (T.setTop (mkF m pt Ls st))) (Kf : y < x → Dn p e below P (T.setTop (mkF m pc' Ls st))) : Dn p e below P (T.setTop (mkF m pc Ls (.int y :: .int x :: st))) := by
  subst hp
  by_cases hq : y < x
  · obtain ⟨s₂, o, h1, h2⟩ := Kf hq
    exact ⟨s₂, o, XS.icmpNo X.here hx rfl hd rfl (tlt hq).2.2.2 h1, h2⟩
  · obtain ⟨s₂, o, h1, h2⟩ := Kt hq
    exact ⟨s₂, o, XS.icmpYes X.here hx rfl (pc0 := pc) rfl hd rfl (flt hq).2.2.2 ho ht h1, h2⟩
theorem o_lif_le (X : Stand p l e R s m args below meth c T locs cells slots) (hx : p.tables.exec = Jvm.exec) {x y : Int64} {i : Int} {pt : Nat} (hd : decode c.code pc = .ok (.ifCond .le i, 3)) (hp : pc + 3 = pc') (ho : 0 ≤ (pc : Int) + i) (ht : ((pc : Int) + i).toNat = pt) (Kt : ¬ (y < x) → Dn p e below P (T.setTop (mkF m pt Ls st))) (Kf : y < x → Dn p e below P (T.setTop (mkF m pc' Ls st))) : Dn p e below P (T.setTop (mkF m pc Ls (.int (lcmpW x y) :: st))) := by
  subst hp
  by_cases hq : y < x
  · obtain ⟨s₂, o, h1, h2⟩ := Kf hq
    exact ⟨s₂, o, XS.ifNo X.here hx rfl hd rfl ((if0 _ _).trans (tlt ((lw_gt x y).mpr hq)).2.2.2) h1, h2⟩
  · obtain ⟨s₂, o, h1, h2⟩ := Kt hq
    exact ⟨s₂, o, XS.ifYes X.here hx rfl (pc0 := pc) rfl hd rfl ((if0 _ _).trans (flt (fun z => hq ((lw_gt x y).mp z))).2.2.2) ho ht h1, h2⟩
theorem o_acmp_eq (X : Stand p l e R s m args below meth c T locs cells slots) (hx : p.tables.exec = Jvm.exec) {x y : Value} {i : Int} {pt : Nat} (hd : decode c.code pc = .ok (.if_acmp .eq i, 3)) (hp : pc + 3 = pc') (ho : 0 ≤ (pc : Int) + i) (ht : ((pc : Int) + i).toNat = pt) (hv : x.isRef = true) (hw : y.isRef = true) (Kt : x = y → Dn p e below P (T.setTop (mkF m pt Ls st))) (Kf : ¬ (x = y) → Dn p e below P (T.setTop (mkF m pc' Ls st))) : Dn p e below P (T.setTop (mkF m pc Ls (y :: x :: st))) := by
  subst hp
  by_cases hq : x = y
  · obtain ⟨s₂, o, h1, h2⟩ := Kt hq
    exact ⟨s₂, o, Jvm.RoadKit.acmp (g := mkF m pc Ls (y :: x :: st)) X hx rfl hv hw (pc0 := pc) (same := true) rfl hd rfl (decide_eq_true hq) ho ht.symm h1, h2⟩
  · obtain ⟨s₂, o, h1, h2⟩ := Kf hq
    exact ⟨s₂, o, Jvm.RoadKit.acmp (g := mkF m pc Ls (y :: x :: st)) X hx rfl hv hw (pc0 := pc) (same := false) rfl hd rfl (decide_eq_false hq) ho rfl h1, h2⟩
theorem o_acmp_ne (X : Stand p l e R s m args below meth c T locs cells slots) (hx : p.tables.exec = Jvm.exec) {x y : Value} {i : Int} {pt : Nat} (hd : decode c.code pc = .ok (.if_acmp .ne i, 3)) (hp : pc + 3 = pc') (ho : 0 ≤ (pc : Int) + i) (ht : ((pc : Int) + i).toNat = pt) (hv : x.isRef = true) (hw : y.isRef = true) (Kt : ¬ (x = y) → Dn p e below P (T.setTop (mkF m pt Ls st))) (Kf : x = y → Dn p e below P (T.setTop (mkF m pc' Ls st))) : Dn p e below P (T.setTop (mkF m pc Ls (y :: x :: st))) := by
  subst hp
  by_cases hq : x = y
  · obtain ⟨s₂, o, h1, h2⟩ := Kf hq
    exact ⟨s₂, o, Jvm.RoadKit.acmp (g := mkF m pc Ls (y :: x :: st)) X hx rfl hv hw (pc0 := pc) (same := true) rfl hd rfl (decide_eq_true hq) ho rfl h1, h2⟩
  · obtain ⟨s₂, o, h1, h2⟩ := Kt hq
    exact ⟨s₂, o, Jvm.RoadKit.acmp (g := mkF m pc Ls (y :: x :: st)) X hx rfl hv hw (pc0 := pc) (same := false) rfl hd rfl (decide_eq_false hq) ho ht.symm h1, h2⟩
theorem o_ifnull_no (X : Stand p l e R s m args below meth c T locs cells slots) (hx : p.tables.exec = Jvm.exec) {b : Addr} {i : Int} (hd : decode c.code pc = .ok (.ifnull i, 3)) (hp : pc + 3 = pc') (K : Dn p e below P (T.setTop (mkF m pc' Ls st))) : Dn p e below P (T.setTop (mkF m pc Ls (.ref b :: st))) := by
  subst hp
  obtain ⟨s₂, o, h1, h2⟩ := K
  exact ⟨s₂, o, XS.ifnullNo X.here hx rfl hd rfl h1, h2⟩
theorem o_ifnull_yes (X : Stand p l e R s m args below meth c T locs cells slots) (hx : p.tables.exec = Jvm.exec) {i : Int} (hd : decode c.code pc = .ok (.ifnull i, 3)) (ho : 0 ≤ (pc : Int) + i) (hp : ((pc : Int) + i).toNat = pc') (K : Dn p e below P (T.setTop (mkF m pc' Ls st))) : Dn p e below P (T.setTop (mkF m pc Ls (.null :: st))) := by
  obtain ⟨s₂, o, h1, h2⟩ := K
  exact ⟨s₂, o, XS.ifnullYes X.here hx rfl (pc0 := pc) rfl hd rfl ho hp h1, h2⟩
theorem o_ifnonnull_yes (X : Stand p l e R s m args below meth c T locs cells slots) (hx : p.tables.exec = Jvm.exec) {b : Addr} {i : Int} (hd : decode c.code pc = .ok (.ifnonnull i, 3)) (ho : 0 ≤ (pc : Int) + i) (hp : ((pc : Int) + i).toNat = pc') (K : Dn p e below P (T.setTop (mkF m pc' Ls st))) : Dn p e below P (T.setTop (mkF m pc Ls (.ref b :: st))) := by
  obtain ⟨s₂, o, h1, h2⟩ := K
  exact ⟨s₂, o, XS.ifnonnullYes X.here hx rfl (pc0 := pc) rfl hd rfl ho hp h1, h2⟩
theorem o_ldc2 (X : Stand p l e R s m args below meth c T locs cells slots) (hx : p.tables.exec = Jvm.exec) (hZ : Z.Warmed39 s.vm) {own : String} {index : Nat} {v : Int64} (hown : s.vm.findClass own = some m.cls) (w : (Jvm.Cond.constantLong own index v).before a0 Z = true) (hd : decode c.code pc = .ok (.ldc2_w index, 3)) (hp : pc + 3 = pc') (K : Dn p e below P (T.setTop (mkF m pc' Ls (.long v :: st)))) : Dn p e below P (T.setTop (mkF m pc Ls st)) := by
  subst hp
  exact go (X.ldc2Long hx hown (mvT hZ w) (g := mkF m pc Ls st) rfl hd) K
theorem o_ldc (X : Stand p l e R s m args below meth c T locs cells slots) (hx : p.tables.exec = Jvm.exec) (hZ : Z.Warmed39 s.vm) {own : String} {index : Nat} {v : Int32} (hown : s.vm.findClass own = some m.cls) (w : (Jvm.Cond.constant own index v).before a0 Z = true) (hd : decode c.code pc = .ok (.ldc index, 2)) (hp : pc + 2 = pc') (K : Dn p e below P (T.setTop (mkF m pc' Ls (.int v :: st)))) : Dn p e below P (T.setTop (mkF m pc Ls st)) := by
  subst hp
  exact go (X.ldcInt hx hown (mvT hZ w) (g := mkF m pc Ls st) rfl hd) K
theorem o_ldcw (X : Stand p l e R s m args below meth c T locs cells slots) (hx : p.tables.exec = Jvm.exec) (hZ : Z.Warmed39 s.vm) {own : String} {index : Nat} {v : Int32} (hown : s.vm.findClass own = some m.cls) (w : (Jvm.Cond.constant own index v).before a0 Z = true) (hd : decode c.code pc = .ok (.ldc_w index, 3)) (hp : pc + 3 = pc') (K : Dn p e below P (T.setTop (mkF m pc' Ls (.int v :: st)))) : Dn p e below P (T.setTop (mkF m pc Ls st)) := by
  subst hp
  exact go (X.ldcwInt hx hown (mvT hZ w) (g := mkF m pc Ls st) rfl hd) K
theorem o_dup2 (X : Stand p l e R s m args below meth c T locs cells slots) (hx : p.tables.exec = Jvm.exec) {v w : Value} (hd : decode c.code pc = .ok (.dup2, 1)) (hp : pc + 1 = pc') (hv : v.category = 1) (hw : w.category = 1) (K : Dn p e below P (T.setTop (mkF m pc' Ls (v :: w :: v :: w :: st)))) : Dn p e below P (T.setTop (mkF m pc Ls (v :: w :: st))) := by
  subst hp
  obtain ⟨s₂, o, h1, h2⟩ := K
  exact ⟨s₂, o, XT.dup2 X.here hx rfl hd rfl hv hw h1, h2⟩
theorem o_iaload (X : Stand p l e R s m args below meth c T locs cells slots) (hx : p.tables.exec = Jvm.exec) (hZ : Z.Warmed39 s.vm) (eT : T.heap = h) {a : Addr} {k : ClassId} {n j : Int32} {vs : List Value} {d v : Value} (V : Arv Z h a k .int n vs d) (hj : ¬ j < 0 ∧ j < n) (hv : vs.getD j.toNatClampNeg d = v) (hd : decode c.code pc = .ok (.iaload, 1)) (hp : pc + 1 = pc') (K : Dn p e below P (T.setTop (mkF m pc' Ls (v :: st)))) : Dn p e below P (T.setTop (mkF m pc Ls (.int j :: .ref a :: st))) := by
  subst hp
  obtain ⟨cl, A, -, S, N, H, -⟩ := V
  have hin := inb_of S hj
  exact go (X.iaload hx (j := j) (v := v) (by rw [eT]; exact A.1) (State.isArrayOf_alike hZ.alike A.2.1) A.2.2 hin (H.at hin hv) (g := mkF m pc Ls (.int j :: .ref a :: st)) rfl rfl hd) K
theorem o_laload (X : Stand p l e R s m args below meth c T locs cells slots) (hx : p.tables.exec = Jvm.exec) (hZ : Z.Warmed39 s.vm) (eT : T.heap = h) {a : Addr} {k : ClassId} {n j : Int32} {vs : List Value} {d v : Value} (V : Arv Z h a k .long n vs d) (hj : ¬ j < 0 ∧ j < n) (hv : vs.getD j.toNatClampNeg d = v) (hd : decode c.code pc = .ok (.laload, 1)) (hp : pc + 1 = pc') (K : Dn p e below P (T.setTop (mkF m pc' Ls (v :: st)))) : Dn p e below P (T.setTop (mkF m pc Ls (.int j :: .ref a :: st))) := by
  subst hp
  obtain ⟨cl, A, -, S, N, H, -⟩ := V
  have hin := inb_of S hj
  exact go (X.laload hx (j := j) (v := v) (by rw [eT]; exact A.1) (State.isArrayOf_alike hZ.alike A.2.1) A.2.2 hin (H.at hin hv) (g := mkF m pc Ls (.int j :: .ref a :: st)) rfl rfl hd) K
theorem o_caload (X : Stand p l e R s m args below meth c T locs cells slots) (hx : p.tables.exec = Jvm.exec) (hZ : Z.Warmed39 s.vm) (eT : T.heap = h) {a : Addr} {k : ClassId} {n j : Int32} {vs : List Value} {d v : Value} (V : Arv Z h a k .char n vs d) (hj : ¬ j < 0 ∧ j < n) (hv : vs.getD j.toNatClampNeg d = v) (hd : decode c.code pc = .ok (.caload, 1)) (hp : pc + 1 = pc') (K : Dn p e below P (T.setTop (mkF m pc' Ls (v :: st)))) : Dn p e below P (T.setTop (mkF m pc Ls (.int j :: .ref a :: st))) := by
  subst hp
  obtain ⟨cl, A, -, S, N, H, -⟩ := V
  have hin := inb_of S hj
  exact go (X.caload hx (j := j) (v := v) (by rw [eT]; exact A.1) (State.isArrayOf_alike hZ.alike A.2.1) A.2.2 hin (H.at hin hv) (g := mkF m pc Ls (.int j :: .ref a :: st)) rfl rfl hd) K
theorem o_baload (X : Stand p l e R s m args below meth c T locs cells slots) (hx : p.tables.exec = Jvm.exec) (hZ : Z.Warmed39 s.vm) (eT : T.heap = h) {a : Addr} {k : ClassId} {n j : Int32} {vs : List Value} {d v : Value} (V : Arv Z h a k .byte n vs d) (hj : ¬ j < 0 ∧ j < n) (hv : vs.getD j.toNatClampNeg d = v) (hd : decode c.code pc = .ok (.baload, 1)) (hp : pc + 1 = pc') (K : Dn p e below P (T.setTop (mkF m pc' Ls (v :: st)))) : Dn p e below P (T.setTop (mkF m pc Ls (.int j :: .ref a :: st))) := by
  subst hp
  obtain ⟨cl, A, -, S, N, H, -⟩ := V
  have hin := inb_of S hj
  exact go (X.baloadBytes hx (j := j) (v := v) (by rw [eT]; exact A.1) (State.isArrayOf_alike hZ.alike A.2.1) A.2.2 hin (H.at hin hv) (g := mkF m pc Ls (.int j :: .ref a :: st)) rfl rfl hd) K
theorem o_aaload (X : Stand p l e R s m args below meth c T locs cells slots) (hx : p.tables.exec = Jvm.exec) (hZ : Z.Warmed39 s.vm) (eT : T.heap = h) {a : Addr} {k : ClassId} {n j : Int32} {vs : List Value} {d v : Value} {ty : FieldType} (V : Arv Z h a k ty n vs d) (hty : ty.isReference = true) (hj : ¬ j < 0 ∧ j < n) (hv : vs.getD j.toNatClampNeg d = v) (hd : decode c.code pc = .ok (.aaload, 1)) (hp : pc + 1 = pc') (K : Dn p e below P (T.setTop (mkF m pc' Ls (v :: st)))) : Dn p e below P (T.setTop (mkF m pc Ls (.int j :: .ref a :: st))) := by
  subst hp
  obtain ⟨cl, A, -, S, N, H, -⟩ := V
  have hin := inb_of S hj
  exact go (X.aaload hx (j := j) (v := v) (by rw [eT]; exact A.1) (State.isArrayOf_alike hZ.alike A.2.1) hty A.2.2 hin (H.at hin hv) (g := mkF m pc Ls (.int j :: .ref a :: st)) rfl rfl hd) K
theorem o_arraylength (X : Stand p l e R s m args below meth c T locs cells slots) (hx : p.tables.exec = Jvm.exec) (hZ : Z.Warmed39 s.vm) (eT : T.heap = h) {a : Addr} {k : ClassId} {n : Int32} {vs : List Value} {d : Value} {ty : FieldType} (V : Arv Z h a k ty n vs d) (hd : decode c.code pc = .ok (.arraylength, 1)) (hp : pc + 1 = pc') (K : Dn p e below P (T.setTop (mkF m pc' Ls (.int n :: st)))) : Dn p e below P (T.setTop (mkF m pc Ls (.ref a :: st))) := by
  subst hp
  obtain ⟨cl, A, -, S, N, H, -⟩ := V
  refine go (X.arraylength hx (by rw [eT]; exact A.1) (State.isArrayOf_alike hZ.alike A.2.1) (g := mkF m pc Ls (.ref a :: st)) rfl rfl hd) ?_
  rw [len_of S N]
  exact K
theorem o_iastore (X : Stand p l e R s m args below meth c T locs cells slots) (hx : p.tables.exec = Jvm.exec) (hZ : Z.Warmed39 s.vm) (eT : T.heap = h) {a : Addr} {k : ClassId} {n j : Int32} {vs : List Value} {d : Value} {x : Int32} (V : Arv Z h a k .int n vs d) (hj : ¬ j < 0 ∧ j < n) (i : Nat) (hi : j.toNatClampNeg = i) (hl : i < vs.length) (hd : decode c.code pc = .ok (.iastore, 1)) (hp : pc + 1 = pc') (K : ∀ T' h', Stand p l e R s m args below meth c T' (locs ++ [⟨a, j.toNatClampNeg⟩]) cells slots → T'.heap = h' → Wr h h' a j.toNatClampNeg (.int x) → Arv Z h' a k .int n (vs.set i (.int x)) d → Dn p e below P (T'.setTop (mkF m pc' Ls st))) : Dn p e below P (T.setTop (mkF m pc Ls (.int x :: .int j :: .ref a :: st))) := by
  subst hp
  obtain ⟨cl, A, q, S, N, H, G⟩ := V
  have hin := inb_of S hj
  obtain ⟨T', h', X', e', W', st'⟩ := stI X hx hZ eT A (j := j) (x := x) hin (g := mkF m pc Ls (.int x :: .int j :: .ref a :: st)) rfl rfl hd
  exact go st' (K T' h' X' e' W' (Arv.set A q S N H G rfl W' i hi hl))
theorem o_lastore (X : Stand p l e R s m args below meth c T locs cells slots) (hx : p.tables.exec = Jvm.exec) (hZ : Z.Warmed39 s.vm) (eT : T.heap = h) {a : Addr} {k : ClassId} {n j : Int32} {vs : List Value} {d : Value} {x : Int64} (V : Arv Z h a k .long n vs d) (hj : ¬ j < 0 ∧ j < n) (i : Nat) (hi : j.toNatClampNeg = i) (hl : i < vs.length) (hd : decode c.code pc = .ok (.lastore, 1)) (hp : pc + 1 = pc') (K : ∀ T' h', Stand p l e R s m args below meth c T' (locs ++ [⟨a, j.toNatClampNeg⟩]) cells slots → T'.heap = h' → Wr h h' a j.toNatClampNeg (.long x) → Arv Z h' a k .long n (vs.set i (.long x)) d → Dn p e below P (T'.setTop (mkF m pc' Ls st))) : Dn p e below P (T.setTop (mkF m pc Ls (.long x :: .int j :: .ref a :: st))) := by
  subst hp
  obtain ⟨cl, A, q, S, N, H, G⟩ := V
  have hin := inb_of S hj
  obtain ⟨T', h', X', e', W', st'⟩ := stJ X hx hZ eT A (j := j) (x := x) hin (g := mkF m pc Ls (.long x :: .int j :: .ref a :: st)) rfl rfl hd
  exact go st' (K T' h' X' e' W' (Arv.set A q S N H G rfl W' i hi hl))
theorem o_castore (X : Stand p l e R s m args below meth c T locs cells slots) (hx : p.tables.exec = Jvm.exec) (hZ : Z.Warmed39 s.vm) (eT : T.heap = h) {a : Addr} {k : ClassId} {n j : Int32} {vs : List Value} {d : Value} {x : Int32} (V : Arv Z h a k .char n vs d) (hj : ¬ j < 0 ∧ j < n) (i : Nat) (hi : j.toNatClampNeg = i) (hl : i < vs.length) (hd : decode c.code pc = .ok (.castore, 1)) (hp : pc + 1 = pc') (K : ∀ T' h', Stand p l e R s m args below meth c T' (locs ++ [⟨a, j.toNatClampNeg⟩]) cells slots → T'.heap = h' → Wr h h' a j.toNatClampNeg (.int (nar .char x)) → Arv Z h' a k .char n (vs.set i (.int (nar .char x))) d → Dn p e below P (T'.setTop (mkF m pc' Ls st))) : Dn p e below P (T.setTop (mkF m pc Ls (.int x :: .int j :: .ref a :: st))) := by
  subst hp
  obtain ⟨cl, A, q, S, N, H, G⟩ := V
  have hin := inb_of S hj
  obtain ⟨T', h', X', e', W', st'⟩ := stC X hx hZ eT A (j := j) (x := x) hin (g := mkF m pc Ls (.int x :: .int j :: .ref a :: st)) rfl rfl hd
  exact go st' (K T' h' X' e' W' (Arv.set A q S N H G (fits_nar_char x) W' i hi hl))
theorem o_bastore (X : Stand p l e R s m args below meth c T locs cells slots) (hx : p.tables.exec = Jvm.exec) (hZ : Z.Warmed39 s.vm) (eT : T.heap = h) {a : Addr} {k : ClassId} {n j : Int32} {vs : List Value} {d : Value} {x : Int32} (V : Arv Z h a k .byte n vs d) (hj : ¬ j < 0 ∧ j < n) (i : Nat) (hi : j.toNatClampNeg = i) (hl : i < vs.length) (hd : decode c.code pc = .ok (.bastore, 1)) (hp : pc + 1 = pc') (K : ∀ T' h', Stand p l e R s m args below meth c T' (locs ++ [⟨a, j.toNatClampNeg⟩]) cells slots → T'.heap = h' → Wr h h' a j.toNatClampNeg (.int (nar .byte x)) → Arv Z h' a k .byte n (vs.set i (.int (nar .byte x))) d → Dn p e below P (T'.setTop (mkF m pc' Ls st))) : Dn p e below P (T.setTop (mkF m pc Ls (.int x :: .int j :: .ref a :: st))) := by
  subst hp
  obtain ⟨cl, A, q, S, N, H, G⟩ := V
  have hin := inb_of S hj
  obtain ⟨T', h', X', e', W', st'⟩ := stB X hx hZ eT A (j := j) (x := x) hin (g := mkF m pc Ls (.int x :: .int j :: .ref a :: st)) rfl rfl hd
  exact go st' (K T' h' X' e' W' (Arv.set A q S N H G (fits_nar_byte x) W' i hi hl))
theorem o_newarray (X : Stand p l e R s m args below meth c T locs cells slots) (hx : p.tables.exec = Jvm.exec) (hZ : Z.Warmed39 s.vm) (eT : T.heap = h) {aty : ArrayType} (w : (Jvm.Cond.arrayClass (newarray.typeOf aty)).before a0 Z = true) (hd : decode c.code pc = .ok (.newarray aty, 2)) (hp : pc + 2 = pc') {n : Int32} (hn : ¬ n < 0) (cap : Nat) (hcap : n.toNatClampNeg ≤ cap) (hb : cap * 8 ≤ 536870912) (hc : cells + 1 ≤ R.cells) (hs : slots + cap ≤ R.slots) (K : ∀ T' h' a k, a = h.size → Stand p l e R s m args below meth c T' locs (cells + 1) (slots + cap) → T'.heap = h' → Ext h h' → Arv Z h' a k (newarray.typeOf aty) n [] (defaultValue (newarray.typeOf aty)) → Dn p e below P (T'.setTop (mkF m pc' Ls (.ref a :: st)))) : Dn p e below P (T.setTop (mkF m pc Ls (.int n :: st))) := by
  subst hp
  obtain ⟨T', h', k, X', e', E', A', st'⟩ := newP X hx hZ w eT (g := mkF m pc Ls (.int n :: st)) rfl hd rfl hn hcap hb hc hs
  exact go st' (K T' h' _ k rfl X' e' E' (Arv.new A' hn))
theorem o_getfield (X : Stand p l e R s m args below meth c T locs cells slots) (hx : p.tables.exec = Jvm.exec) (hZ : Z.Warmed39 s.vm) {own O n d : String} {index : Nat} (hown : s.vm.findClass own = some m.cls) (w : (Jvm.Cond.fieldLink own index O n d).before a0 Z = true) (eT : T.heap = h) {a : Addr} {v : Value} (F : Fld Z h a O n d v) (hd : decode c.code pc = .ok (.getfield index, 3)) (hp : pc + 3 = pc') (K : ∀ T', Stand p l e R s m args below meth c T' locs cells slots → T'.heap = h → Dn p e below P (T'.setTop (mkF m pc' Ls (v :: st)))) : Dn p e below P (T.setTop (mkF m pc Ls (.ref a :: st))) := by
  subst hp
  obtain ⟨T', X', e', st'⟩ := getF X hx hZ hown (host := "") (Or.inl w) Via.refl eT F (g := mkF m pc Ls (.ref a :: st)) rfl rfl hd
  exact go st' (K T' X' e')
theorem o_getfieldN (X : Stand p l e R s m args below meth c T locs cells slots) (hx : p.tables.exec = Jvm.exec) (hZ : Z.Warmed39 s.vm) {own O n d host : String} {index : Nat} (hown : s.vm.findClass own = some m.cls) (w : (Jvm.Cond.fieldLinkNest own index O n d host).before a0 Z = true) (eT : T.heap = h) {a : Addr} {v : Value} (F : Fld Z h a O n d v) (hd : decode c.code pc = .ok (.getfield index, 3)) (hp : pc + 3 = pc') (K : ∀ T', Stand p l e R s m args below meth c T' locs cells slots → T'.heap = h → Dn p e below P (T'.setTop (mkF m pc' Ls (v :: st)))) : Dn p e below P (T.setTop (mkF m pc Ls (.ref a :: st))) := by
  subst hp
  obtain ⟨T', X', e', st'⟩ := getF X hx hZ hown (host := host) (Or.inr w) Via.refl eT F (g := mkF m pc Ls (.ref a :: st)) rfl rfl hd
  exact go st' (K T' X' e')
theorem o_putfield (X : Stand p l e R s m args below meth c T locs cells slots) (hx : p.tables.exec = Jvm.exec) (hZ : Z.Warmed39 s.vm) {own O n d C : String} {index kk : Nat} {ty : FieldType} (hown : s.vm.findClass own = some m.cls) (w : (Jvm.Cond.fieldLink own index O n d).before a0 Z = true) (eT : T.heap = h) {a : Addr} {v v' old : Value} (F : Fld Z h a O n d old) (E : Exa Z h a C) (L : (Jvm.Cond.lays C O n d).before a0 Z = true ∨ ((Jvm.Cond.laysFinal C O n d).before a0 Z = true ∧ own = O ∧ meth.name = "<init>")) (wi : (Jvm.Cond.instantiable C kk).before a0 Z = true) (hty : parseFieldDescriptor d = some ty) (hn : narrow ty v = v') (hf : fits ty v' = true) (hd : decode c.code pc = .ok (.putfield index, 3)) (hp : pc + 3 = pc') (K : ∀ T' h', Stand p l e R s m args below meth c T' (locs ++ [⟨a, Jvm.RoadKit.slotOf Z O n d⟩]) cells slots → T'.heap = h' → Wr h h' a (Jvm.RoadKit.slotOf Z O n d) v' → Fld Z h' a O n d v' → Exa Z h' a C → Dn p e below P (T'.setTop (mkF m pc' Ls st))) : Dn p e below P (T.setTop (mkF m pc Ls (v :: .ref a :: st))) := by
  subst hp
  obtain ⟨T', h', X', e', W', st'⟩ := putFN X hx hZ hown w Via.refl eT F E L wi hty hn hf (g := mkF m pc Ls (v :: .ref a :: st)) rfl rfl hd
  exact go st' (K T' h' X' e' W' (F.same W') (E.wr W'))
theorem o_getstatic (X : Stand p l e R s m args below meth c T locs cells slots) (hx : p.tables.exec = Jvm.exec) (hZ : Z.Warmed39 s.vm) {own O n d : String} {index : Nat} (hown : s.vm.findClass own = some m.cls) (w : (Jvm.Cond.fieldLink own index O n d).before a0 Z = true) (eT : T.heap = h) {v : Value} (F : Sta Z h O n d v) (hd : decode c.code pc = .ok (.getstatic index, 3)) (hp : pc + 3 = pc') (K : ∀ T', Stand p l e R s m args below meth c T' locs cells slots → T'.heap = h → Dn p e below P (T'.setTop (mkF m pc' Ls (v :: st)))) : Dn p e below P (T.setTop (mkF m pc Ls st)) := by
  subst hp
  obtain ⟨T', X', e', st'⟩ := getS2 X hx hZ hown (host := "") (Or.inl w) Via.refl eT F (g := mkF m pc Ls st) rfl hd
  exact go st' (K T' X' e')
theorem o_new (X : Stand p l e R s m args below meth c T locs cells slots) (hx : p.tables.exec = Jvm.exec) (hZ : Z.Warmed39 s.vm) {own C : String} {index n : Nat} (hown : s.vm.findClass own = some m.cls) (w : (Jvm.Cond.classLink own index C).before a0 Z = true) (wi : (Jvm.Cond.instantiable C n).before a0 Z = true) (wz : (Jvm.Cond.initialized C).before a0 Z = true) (eT : T.heap = h) (hd : decode c.code pc = .ok (.new index, 3)) (hp : pc + 3 = pc') (hc : cells + 1 ≤ R.cells) (hs : slots + n ≤ R.slots) (K : ∀ T' h' a, a = h.size → Stand p l e R s m args below meth c T' locs (cells + 1) (slots + n) → T'.heap = h' → Ext h h' → Exa Z h' a C → (∀ {O nm d : String} {ty : FieldType}, Laid Z a0 C O nm d → parseFieldDescriptor d = some ty → Fld Z h' a O nm d (defaultValue ty)) → Dn p e below P (T'.setTop (mkF m pc' Ls (.ref a :: st)))) : Dn p e below P (T.setTop (mkF m pc Ls st)) := by
  subst hp
  obtain ⟨T', h', X', e', E', A', D', -, st'⟩ := newO X hx hZ hown w wi wz eT (g := mkF m pc Ls st) rfl hd hc hs
  exact go st' (K T' h' _ rfl X' e' E' A' D')
theorem o_initO (X : Stand p l e R s m args below meth c T locs cells slots) (hx : p.tables.exec = Jvm.exec) (hZ : Z.Warmed39 s.vm) {own : String} {index : Nat} (hown : s.vm.findClass own = some m.cls) (w1 : (Jvm.Cond.methodLink own index Lib.objectInit).before a0 Z = true) (w2 : (Jvm.Cond.instanceMethod Lib.objectInit).before a0 Z = true) (w3 : (Jvm.Cond.code Lib.objectInit ⟨#[0xb1]⟩ 1 none).before a0 Z = true) (eT : T.heap = h) (hsize : Ls.size = c.maxLocals) {a : Addr} (hd : decode c.code pc = .ok (.invokespecial index, 3)) (hp : pc + 3 = pc') (hf : 1 ≤ R.frames) {W : Nat} (hW : 2 * 0 + (st.map fun v => v.category).sum ≤ W) (hl : W + 12 ≤ R.locals) (K : ∀ T', Stand p l e R s m args below meth c T' locs cells slots → T'.heap = h → Dn p e below P (T'.setTop (mkF m pc' Ls st))) : Dn p e below P (T.setTop (mkF m pc Ls (.ref a :: st))) := by
  subst hp
  obtain ⟨T', X', e', st'⟩ := initO X hx hZ hown w1 w2 w3 eT (g := mkF m pc Ls (.ref a :: st)) rfl hsize rfl hd hf (W := W) hW hl
  exact go st' (K T' X' e')
theorem o_callS (X : Stand p l e R s m args below meth c T locs cells slots) (hx : p.tables.exec = Jvm.exec) (hZ : Z.Warmed39 s.vm) {own : String} {index : Nat} {y : MethodName} {bytes : ByteArray} {maxL : Nat} {ret : Option FieldType} {Rm : Room} {Q : Option Value → Heap → List Loc → Prop} {ps : List FieldType} (argsL : List Value) {as' : Array Value} (C : Ctr l Z y bytes maxL ret [] Rm as' h Q) (hown : s.vm.findClass own = some m.cls) (w1 : (Jvm.Cond.methodLink own index y).before a0 Z = true) (w2 : (Jvm.Cond.static y).before a0 Z = true) (w3 : (Jvm.Cond.initialized y.cls).before a0 Z = true) (w4 : (Jvm.Cond.code y bytes maxL ret).before a0 Z = true) (hy : y.cls ≠ "java/lang/invoke/MethodHandle" ∧ y.cls ≠ "java/lang/invoke/VarHandle") (hpd : parseMethodDescriptor y.desc = some ⟨ps, ret⟩) (eT : T.heap = h) (hsize : Ls.size = c.maxLocals) {stk : List Value} (has : as' = argsL.toArray) (hln : argsL.length = ps.length) (hst : stk = argsL.reverse ++ st) (hd : decode c.code pc = .ok (.invokestatic index, 3)) (hp : pc + 3 = pc') (W : Nat) (hW : 2 * 0 + (st.map fun v => v.category).sum ≤ W) (hf : Rm.frames + 1 ≤ R.frames) (hl : W + (maxL + 11) + Rm.locals ≤ R.locals) (hc : cells + Rm.cells ≤ R.cells) (hs : slots + Rm.slots ≤ R.slots) (K : ∀ T' v L, Stand p l e R s m args below meth c T' (locs ++ L) (cells + Rm.cells) (slots + Rm.slots) → Q v T'.heap L → Dn p e below P (T'.setTop (mkF m pc' Ls (v.toList ++ st)))) : Dn p e below P (T.setTop (mkF m pc Ls stk)) := by
  subst hp has hst
  obtain ⟨v, vm₁, ⟨T', L', k', n'⟩, -, X', ⟨L, hQ, l1, y1, z1⟩, st'⟩ := Jvm.LawKit.callS X hx (y := y) hown (mvT hZ w1) (mvT hZ w2) (mvT hZ w3) (mvT hZ w4) hy (backOf (W := W) C hZ w4 w3 hf hl) (g := mkF m pc Ls (argsL.reverse ++ st)) rfl hsize (argsL := argsL) (rest := st) (lenOf hpd hln) rfl hW hd (fun _ _ => ⟨rfl, eT, hc, hs⟩)
  dsimp only [Pt.U, Pt.locs, Pt.cells, Pt.slots] at X' l1 y1 z1 st' hQ
  subst l1 y1 z1
  exact go st' (K T' v L X' hQ)
theorem o_callI (X : Stand p l e R s m args below meth c T locs cells slots) (hx : p.tables.exec = Jvm.exec) (hZ : Z.Warmed39 s.vm) {own : String} {index : Nat} {y : MethodName} {bytes : ByteArray} {maxL : Nat} {Rm : Room} {Q : Option Value → Heap → List Loc → Prop} {ps : List FieldType} (a : Addr) (argsL : List Value) {as' : Array Value} (C : Ctr l Z y bytes maxL none [] Rm as' h Q) (hy1 : y.name = "<init>") (hown : s.vm.findClass own = some m.cls) (w1 : (Jvm.Cond.methodLink own index y).before a0 Z = true) (w2 : (Jvm.Cond.instanceMethod y).before a0 Z = true) (w3 : (Jvm.Cond.initialized y.cls).before a0 Z = true) (w4 : (Jvm.Cond.code y bytes maxL none).before a0 Z = true) (hy : y.cls ≠ "java/lang/invoke/MethodHandle" ∧ y.cls ≠ "java/lang/invoke/VarHandle") (hpd : parseMethodDescriptor y.desc = some ⟨ps, none⟩) (eT : T.heap = h) (hsize : Ls.size = c.maxLocals) {stk : List Value} (has : as' = (.ref a :: argsL).toArray) (hln : argsL.length = ps.length) (hst : stk = argsL.reverse ++ .ref a :: st) (hd : decode c.code pc = .ok (.invokespecial index, 3)) (hp : pc + 3 = pc') (W : Nat) (hW : 2 * 0 + (st.map fun v => v.category).sum ≤ W) (hf : Rm.frames + 1 ≤ R.frames) (hl : W + (maxL + 11) + Rm.locals ≤ R.locals) (hc : cells + Rm.cells ≤ R.cells) (hs : slots + Rm.slots ≤ R.slots) (K : ∀ T' v L, Stand p l e R s m args below meth c T' (locs ++ L) (cells + Rm.cells) (slots + Rm.slots) → Q v T'.heap L → Dn p e below P (T'.setTop (mkF m pc' Ls (v.toList ++ st)))) : Dn p e below P (T.setTop (mkF m pc Ls stk)) := by
  subst hp has hst
  obtain ⟨v, vm₁, ⟨T', L', k', n'⟩, -, X', ⟨L, hQ, l1, y1, z1⟩, st'⟩ := X.specialBack hx (y := y) hy1 hown (mvT hZ w1) (mvT hZ w2) (mvT hZ w4) hy (backOf (W := W) C hZ w4 w3 hf hl) (g := mkF m pc Ls (argsL.reverse ++ .ref a :: st)) rfl hsize (Steps.refl _) (a := a) (argsL := argsL) (rest := st) (lenOf hpd hln) rfl hW hd (fun _ _ => ⟨rfl, eT, hc, hs⟩)
  dsimp only [Pt.U, Pt.locs, Pt.cells, Pt.slots] at X' l1 y1 z1 st' hQ
  subst l1 y1 z1
  exact goS st' (K T' v L X' hQ)
theorem o_callV (X : Stand p l e R s m args below meth c T locs cells slots) (hx : p.tables.exec = Jvm.exec) (hZ : Z.Warmed39 s.vm) {own Cc : String} {index : Nat} {y : MethodName} {bytes : ByteArray} {maxL : Nat} {ret : Option FieldType} {Rm : Room} {Q : Option Value → Heap → List Loc → Prop} {ps : List FieldType} (a : Addr) (argsL : List Value) {as' : Array Value} (C : Ctr l Z y bytes maxL ret [] Rm as' h Q) (hown : s.vm.findClass own = some m.cls) (w1 : (Jvm.Cond.methodLink own index y).before a0 Z = true) (w5 : (Jvm.Cond.declares y).before a0 Z = true) (w6 : (Jvm.Cond.selects Cc y y).before a0 Z = true) (w2 : (Jvm.Cond.instanceMethod y).before a0 Z = true) (w3 : (Jvm.Cond.initialized y.cls).before a0 Z = true) (w4 : (Jvm.Cond.code y bytes maxL ret).before a0 Z = true) (hy : y.cls ≠ "java/lang/invoke/MethodHandle" ∧ y.cls ≠ "java/lang/invoke/VarHandle") (E : Exa Z h a Cc) (hpd : parseMethodDescriptor y.desc = some ⟨ps, ret⟩) (eT : T.heap = h) (hsize : Ls.size = c.maxLocals) {stk : List Value} (has : as' = (.ref a :: argsL).toArray) (hln : argsL.length = ps.length) (hst : stk = argsL.reverse ++ .ref a :: st) (hd : decode c.code pc = .ok (.invokevirtual index, 3)) (hp : pc + 3 = pc') (W : Nat) (hW : 2 * 0 + (st.map fun v => v.category).sum ≤ W) (hf : Rm.frames + 1 ≤ R.frames) (hl : W + (maxL + 11) + Rm.locals ≤ R.locals) (hc : cells + Rm.cells ≤ R.cells) (hs : slots + Rm.slots ≤ R.slots) (K : ∀ T' v L, Stand p l e R s m args below meth c T' (locs ++ L) (cells + Rm.cells) (slots + Rm.slots) → Q v T'.heap L → Dn p e below P (T'.setTop (mkF m pc' Ls (v.toList ++ st)))) : Dn p e below P (T.setTop (mkF m pc Ls stk)) := by
  subst hp has hst
  obtain ⟨cq, kq, qa, qb, qc⟩ := isOf (T := T) hZ eT E
  obtain ⟨v, vm₁, ⟨T', L', k', n'⟩, -, X', ⟨L, hQ, l1, y1, z1⟩, st'⟩ := X.virtualBack hx (y := y) (z := y) hown (mvT hZ w1) (mvT hZ w5) (notFace_of_selects (args := #[]) (mvT hZ w6)) (mvT hZ w6) (mvT hZ w2) hy (backOf (W := W) C hZ w4 w3 hf hl) qa qc (g := mkF m pc Ls (argsL.reverse ++ .ref a :: st)) rfl hsize (Steps.refl _) (argsL := argsL) (rest := st) (lenOf hpd hln) rfl hW hd (fun _ _ => ⟨rfl, eT, hc, hs⟩)
  dsimp only [Pt.U, Pt.locs, Pt.cells, Pt.slots] at X' l1 y1 z1 st' hQ
  subst l1 y1 z1
  exact goS st' (K T' v L X' hQ)
theorem o_callP (X : Stand p l e R s m args below meth c T locs cells slots) (hx : p.tables.exec = Jvm.exec) (hZ : Z.Warmed39 s.vm) {own : String} {index : Nat} {y : MethodName} {bytes : ByteArray} {maxL : Nat} {ret : Option FieldType} {Rm : Room} {Q : Option Value → Heap → List Loc → Prop} {ps : List FieldType} (a : Addr) (argsL : List Value) {as' : Array Value} (C : Ctr l Z y bytes maxL ret [] Rm as' h Q) (hown : s.vm.findClass own = some m.cls) (w1 : (Jvm.Cond.methodLink own index y).before a0 Z = true) {kk : Nat} (w6 : (Jvm.Cond.instantiable y.cls kk).before a0 Z = true) (w7 : (Jvm.Cond.privateMethod y).before a0 Z = true) (w2 : (Jvm.Cond.instanceMethod y).before a0 Z = true) (w3 : (Jvm.Cond.initialized y.cls).before a0 Z = true) (w4 : (Jvm.Cond.code y bytes maxL ret).before a0 Z = true) (hy : y.cls ≠ "java/lang/invoke/MethodHandle" ∧ y.cls ≠ "java/lang/invoke/VarHandle") {Cc : String} (E : Exa Z h a Cc) (hpd : parseMethodDescriptor y.desc = some ⟨ps, ret⟩) (eT : T.heap = h) (hsize : Ls.size = c.maxLocals) {stk : List Value} (has : as' = (.ref a :: argsL).toArray) (hln : argsL.length = ps.length) (hst : stk = argsL.reverse ++ .ref a :: st) (hd : decode c.code pc = .ok (.invokevirtual index, 3)) (hp : pc + 3 = pc') (W : Nat) (hW : 2 * 0 + (st.map fun v => v.category).sum ≤ W) (hf : Rm.frames + 1 ≤ R.frames) (hl : W + (maxL + 11) + Rm.locals ≤ R.locals) (hc : cells + Rm.cells ≤ R.cells) (hs : slots + Rm.slots ≤ R.slots) (K : ∀ T' v L, Stand p l e R s m args below meth c T' (locs ++ L) (cells + Rm.cells) (slots + Rm.slots) → Q v T'.heap L → Dn p e below P (T'.setTop (mkF m pc' Ls (v.toList ++ st)))) : Dn p e below P (T.setTop (mkF m pc Ls stk)) := by
  subst hp has hst
  obtain ⟨cq, q1, q2⟩ := E.cell
  obtain ⟨cc, kc, hcc, hkc, -, hni, -, -⟩ := Jvm.Cond.instantiable_spec (mvT (args := args) hZ w6)
  have hpv := Jvm.Cond.privateMethod_at (mvP hZ w7 (args := #[]))
  have hsel := selects_self_of_private (args := args) hcc hkc (Bool.or_eq_false_iff.mp hni).1 hpv (mvT hZ w2) hy
  obtain ⟨v, vm₁, ⟨T', L', k', n'⟩, -, X', ⟨L, hQ, l1, y1, z1⟩, st'⟩ := X.privateBack hx (y := y) hown (mvT hZ w1) (mvT hZ w2) hsel hpv (mvT hZ w4) hy (backOf (W := W) C hZ w4 w3 hf hl) (g := mkF m pc Ls (argsL.reverse ++ .ref a :: st)) rfl hsize (Steps.refl _) (a := a) (by rw [eT]; exact q1) q2 (argsL := argsL) (rest := st) (lenOf hpd hln) rfl hW hd (fun _ _ => ⟨rfl, eT, hc, hs⟩)
  dsimp only [Pt.U, Pt.locs, Pt.cells, Pt.slots] at X' l1 y1 z1 st' hQ
  subst l1 y1 z1
  exact goS st' (K T' v L X' hQ)
abbrev Pure (v0 : Value) (h0 : Heap) : Option Value → Heap → List Loc → Prop := fun v h L => v = some v0 ∧ L = [] ∧ h = h0
theorem o_callSP (X : Stand p l e R s m args below meth c T locs cells slots) (hx : p.tables.exec = Jvm.exec) (hZ : Z.Warmed39 s.vm) {own : String} {index : Nat} {y : MethodName} {bytes : ByteArray} {maxL : Nat} {ret : Option FieldType} {Rm : Room} {v0 : Value} {ps : List FieldType} (argsL : List Value) {as' : Array Value} (C : Ctr l Z y bytes maxL ret [] Rm as' h (Pure v0 h)) (hown : s.vm.findClass own = some m.cls) (w1 : (Jvm.Cond.methodLink own index y).before a0 Z = true) (w2 : (Jvm.Cond.static y).before a0 Z = true) (w3 : (Jvm.Cond.initialized y.cls).before a0 Z = true) (w4 : (Jvm.Cond.code y bytes maxL ret).before a0 Z = true) (hy : y.cls ≠ "java/lang/invoke/MethodHandle" ∧ y.cls ≠ "java/lang/invoke/VarHandle") (hpd : parseMethodDescriptor y.desc = some ⟨ps, ret⟩) (eT : T.heap = h) (hsize : Ls.size = c.maxLocals) {stk : List Value} (has : as' = argsL.toArray) (hln : argsL.length = ps.length) (hst : stk = argsL.reverse ++ st) (hd : decode c.code pc = .ok (.invokestatic index, 3)) (hp : pc + 3 = pc') (W : Nat) (hW : 2 * 0 + (st.map fun v => v.category).sum ≤ W) (hf : Rm.frames + 1 ≤ R.frames) (hl : W + (maxL + 11) + Rm.locals ≤ R.locals) (hc0 : Rm.cells = 0) (hs0 : Rm.slots = 0) (hc : cells ≤ R.cells) (hs : slots ≤ R.slots) (K : ∀ T', Stand p l e R s m args below meth c T' locs cells slots → T'.heap = h → Dn p e below P (T'.setTop (mkF m pc' Ls (v0 :: st)))) : Dn p e below P (T.setTop (mkF m pc Ls stk)) := by
  refine o_callS X hx hZ argsL C hown w1 w2 w3 w4 hy hpd eT hsize has hln hst hd hp W hW hf hl (by rw [hc0]; exact hc) (by rw [hs0]; exact hs) ?_
  intro T' v L X' hQ
  obtain ⟨rfl, rfl, e'⟩ := hQ
  rw [List.append_nil, hc0, hs0] at X'
  exact K T' X' e'
theorem o_callVP (X : Stand p l e R s m args below meth c T locs cells slots) (hx : p.tables.exec = Jvm.exec) (hZ : Z.Warmed39 s.vm) {own Cc : String} {index : Nat} {y : MethodName} {bytes : ByteArray} {maxL : Nat} {ret : Option FieldType} {Rm : Room} {v0 : Value} {ps : List FieldType} (a : Addr) (argsL : List Value) {as' : Array Value} (C : Ctr l Z y bytes maxL ret [] Rm as' h (Pure v0 h)) (hown : s.vm.findClass own = some m.cls) (w1 : (Jvm.Cond.methodLink own index y).before a0 Z = true) (w5 : (Jvm.Cond.declares y).before a0 Z = true) (w6 : (Jvm.Cond.selects Cc y y).before a0 Z = true) (w2 : (Jvm.Cond.instanceMethod y).before a0 Z = true) (w3 : (Jvm.Cond.initialized y.cls).before a0 Z = true) (w4 : (Jvm.Cond.code y bytes maxL ret).before a0 Z = true) (hy : y.cls ≠ "java/lang/invoke/MethodHandle" ∧ y.cls ≠ "java/lang/invoke/VarHandle") (E : Exa Z h a Cc) (hpd : parseMethodDescriptor y.desc = some ⟨ps, ret⟩) (eT : T.heap = h) (hsize : Ls.size = c.maxLocals) {stk : List Value} (has : as' = (.ref a :: argsL).toArray) (hln : argsL.length = ps.length) (hst : stk = argsL.reverse ++ .ref a :: st) (hd : decode c.code pc = .ok (.invokevirtual index, 3)) (hp : pc + 3 = pc') (W : Nat) (hW : 2 * 0 + (st.map fun v => v.category).sum ≤ W) (hf : Rm.frames + 1 ≤ R.frames) (hl : W + (maxL + 11) + Rm.locals ≤ R.locals) (hc0 : Rm.cells = 0) (hs0 : Rm.slots = 0) (hc : cells ≤ R.cells) (hs : slots ≤ R.slots) (K : ∀ T', Stand p l e R s m args below meth c T' locs cells slots → T'.heap = h → Dn p e below P (T'.setTop (mkF m pc' Ls (v0 :: st)))) : Dn p e below P (T.setTop (mkF m pc Ls stk)) := by
  refine o_callV X hx hZ a argsL C hown w1 w5 w6 w2 w3 w4 hy E hpd eT hsize has hln hst hd hp W hW hf hl (by rw [hc0]; exact hc) (by rw [hs0]; exact hs) ?_
  intro T' v L X' hQ
  obtain ⟨rfl, rfl, e'⟩ := hQ
  rw [List.append_nil, hc0, hs0] at X'
  exact K T' X' e'
theorem o_callPP (X : Stand p l e R s m args below meth c T locs cells slots) (hx : p.tables.exec = Jvm.exec) (hZ : Z.Warmed39 s.vm) {own : String} {index : Nat} {y : MethodName} {bytes : ByteArray} {maxL : Nat} {ret : Option FieldType} {Rm : Room} {v0 : Value} {ps : List FieldType} (a : Addr) (argsL : List Value) {as' : Array Value} (C : Ctr l Z y bytes maxL ret [] Rm as' h (Pure v0 h)) (hown : s.vm.findClass own = some m.cls) (w1 : (Jvm.Cond.methodLink own index y).before a0 Z = true) {kk : Nat} (w6 : (Jvm.Cond.instantiable y.cls kk).before a0 Z = true) (w7 : (Jvm.Cond.privateMethod y).before a0 Z = true) (w2 : (Jvm.Cond.instanceMethod y).before a0 Z = true) (w3 : (Jvm.Cond.initialized y.cls).before a0 Z = true) (w4 : (Jvm.Cond.code y bytes maxL ret).before a0 Z = true) (hy : y.cls ≠ "java/lang/invoke/MethodHandle" ∧ y.cls ≠ "java/lang/invoke/VarHandle") {Cc : String} (E : Exa Z h a Cc) (hpd : parseMethodDescriptor y.desc = some ⟨ps, ret⟩) (eT : T.heap = h) (hsize : Ls.size = c.maxLocals) {stk : List Value} (has : as' = (.ref a :: argsL).toArray) (hln : argsL.length = ps.length) (hst : stk = argsL.reverse ++ .ref a :: st) (hd : decode c.code pc = .ok (.invokevirtual index, 3)) (hp : pc + 3 = pc') (W : Nat) (hW : 2 * 0 + (st.map fun v => v.category).sum ≤ W) (hf : Rm.frames + 1 ≤ R.frames) (hl : W + (maxL + 11) + Rm.locals ≤ R.locals) (hc0 : Rm.cells = 0) (hs0 : Rm.slots = 0) (hc : cells ≤ R.cells) (hs : slots ≤ R.slots) (K : ∀ T', Stand p l e R s m args below meth c T' locs cells slots → T'.heap = h → Dn p e below P (T'.setTop (mkF m pc' Ls (v0 :: st)))) : Dn p e below P (T.setTop (mkF m pc Ls stk)) := by
  refine o_callP X hx hZ a argsL C hown w1 w6 w7 w2 w3 w4 hy E hpd eT hsize has hln hst hd hp W hW hf hl (by rw [hc0]; exact hc) (by rw [hs0]; exact hs) ?_
  intro T' v L X' hQ
  obtain ⟨rfl, rfl, e'⟩ := hQ
  rw [List.append_nil, hc0, hs0] at X'
  exact K T' X' e'
end Own
section OwnS
variable {p : Program} {l : Launch} {e : Env} {R : Room} {s : State} {m : MethodId} {args : Array Value} {below : List Frame} {meth : Method} {c : Code} {T : State} {locs : List Loc} {cells slots : Nat} {Z : State} {a0 : Array Value} {h h' : Heap} {P : State → Outcome → Prop} {pc pc' : Nat} {Ls Ls' : Array Slot} {st : List Value} {vm0 : Vm} {EL : List (String × Nat)} {h0 : Heap}
/-- what a walk that may intern keeps beside its Stand -/
def Sw (Z : State) (EL : List (String × Nat)) (s : State) (h0 : Heap) (vm0 : Vm) (h : Heap) : Prop := s.Since vm0 h.size ∧ Z.Warmed39 vm0 ∧ CHr Z EL s.vm h0 vm0 h
theorem Sw.start (hZ : Z.Warmed39 s.vm) (H : CHv Z EL s.vm h0) : Sw Z EL s h0 s.vm h0 := ⟨(State.WarmedH.refl s).since _, hZ, CHr.refl H⟩
theorem Sw.ext (W : Sw Z EL s h0 vm0 h) (E : Ext h h') : Sw Z EL s h0 vm0 h' := ⟨⟨W.1.1, W.1.2.mono E.1⟩, W.2.1, W.2.2.trans (CHr.ext E W.2.2.1)⟩
theorem Sw.wr {a : Addr} {sl : Nat} {v : Value} (W : Sw Z EL s h0 vm0 h) (Wx : Wr h h' a sl v) (S : Safe Z EL vm0 h a) : Sw Z EL s h0 vm0 h' := ⟨⟨W.1.1, W.1.2.mono (Keep.of_wr Wx).1⟩, W.2.1, W.2.2.trans (CHr.wr Wx S W.2.2.1)⟩
theorem Sw.keep {ws : List Addr} (W : Sw Z EL s h0 vm0 h) (K : Keep h h' ws) (S : ∀ x ∈ ws, Safe Z EL vm0 h x) : Sw Z EL s h0 vm0 h' := ⟨⟨W.1.1, W.1.2.mono K.1⟩, W.2.1, W.2.2.trans (CHr.keep K S W.2.2.1)⟩
theorem Sw.chv (W : Sw Z EL s h0 vm0 h) : CHv Z EL vm0 h := W.2.2.1
def PQS (below : List Frame) (s : State) (Z : State) (EL : List (String × Nat)) (h0 : Heap) (Q : Option Value → Heap → List Loc → Prop) (k n : Nat) (s₂ : State) (o : Outcome) : Prop :=
  s₂.status = .running ∧ Ended s₂ below o ∧ ∃ v L, o = .returned v ∧ Q v s₂.heap L ∧ CHr Z EL s.vm h0 s₂.vm s₂.heap ∧ ReturnedEndW s o s₂ L k n
abbrev CtrS (l : Launch) (Z : State) (EL : List (String × Nat)) (y : MethodName) (bytes : ByteArray) (maxL : Nat) (ret : Option FieldType) (ws : List Jvm.Cond) (R : Room) (as' : Array Value) (h0 : Heap) (Q : Option Value → Heap → List Loc → Prop) : Prop :=
  MetFree l y (head1 (Jvm.Cond.code y bytes maxL ret :: ws) R) (fun a U => a = as' ∧ Z.Warmed39 U.vm ∧ U.heap = h0 ∧ CHv Z EL U.vm h0) (fun _ _ _ _ _ => True) (fun _ U o U' => ∃ v L, o = .returned v ∧ Q v U'.heap L ∧ CHr Z EL U.vm U.heap U'.vm U'.heap ∧ ReturnedEndW U o U' L R.cells R.slots)
theorem ctrS_mk {y : MethodName} {bytes : ByteArray} {maxL : Nat} {ret : Option FieldType} {ws : List Jvm.Cond} {as' : Array Value} {Q : Option Value → Heap → List Loc → Prop} {own mn : String} (hpl : plainFor y = true) (ho : y.cls = own) (hmn : y.name = mn)
    (body : ∀ (p : Program) (e : Env) (s : State) (m : MethodId) (below : List Frame) (meth : Method) (c : Code) (T : State), Stand p l e R (s.setVm s.vm) m as' below meth c T [] 0 0 → p.tables.exec = Jvm.exec → c.code = bytes → c.maxLocals = maxL → Z.Warmed39 s.vm → s.vm.findClass own = some m.cls → meth.name = mn → meth.sig.returnType = ret → meth.locks = false → T.heap = h0 → Sw Z EL s h0 s.vm h0 →
      Dn p e below (PQS below s Z EL h0 Q R.cells R.slots) (T.setTop (entryFrame m as' maxL))) : CtrS l Z EL y bytes maxL ret ws R as' h0 Q := by
  subst ho hmn
  refine MetFree.of_bodySF hpl hisR ?_
  intro p e s m args below meth c s₁ Bd hml hP hK
  obtain ⟨rfl, hZ, hh, hC⟩ := hP
  have e0 : s₁.heap = h0 := by rw [← hh, Bd.state]; rfl
  obtain ⟨s₂, o, h1, h2, h3, v, L, h4, h5, h6, h7⟩ := body p e s m below meth c s₁ (Stand.of_body Bd) Bd.exec Bd.bytes hml hZ (findClass_of_methodNamed Bd.named) (name_of_methodNamed Bd.named Bd.method).1 Bd.returns Bd.notSynchronized e0 (Sw.start hZ hC)
  exact ⟨s₂, o, h1, h2, h3, v, L, h4, h5, hh ▸ h6, h7⟩
theorem finS_of {Q : Option Value → Heap → List Loc → Prop} {k n : Nat} {v : Option Value} {A : State} (X : Stand p l e R (s.setVm vm0) m args below meth c T locs cells slots) (hEL : EW Z a0 EL) (W : Sw Z EL s h0 vm0 h) (eT : T.heap = h) (hlk : meth.locks = false) (hv : meth.sig.returnType = none → v = none) (hc : cells ≤ k) (hs : slots ≤ n) (hQ : Q v h locs)
    (w : ∀ fs, (∀ (f : JFrame) (acts : List Action), f.method = m → f.locked = none → f.entered = [] → (doReturn e (T.setTop f) acts v).1 = T.setFrames fs) → Steps p.tables e below A (T.setFrames fs)) : Dn p e below (PQS below s Z EL h0 Q k n) A := by
  subst eT
  obtain ⟨fs, hr, hrun, hended, ⟨hq, hW1, hW2, hW3⟩⟩ := X.leaveW (s := s) W.1 (Nat.le_refl _) (v := v) hv hlk
  have qq := W.2.2.trans (CHv.at (h := T.heap) X W.2.1 hEL W.2.2.1)
  exact ⟨_, _, w fs hr, hrun, hended, _, _, rfl, hQ, qq, hq, hW1, hW2, hW3.mono hc hs⟩
theorem finSI {Q : Option Value → Heap → List Loc → Prop} {k n : Nat} (X : Stand p l e R (s.setVm vm0) m args below meth c T locs cells slots) (hx : p.tables.exec = Jvm.exec) (hEL : EW Z a0 EL) (W : Sw Z EL s h0 vm0 h) (eT : T.heap = h) (hlk : meth.locks = false) {z : Int32} (hret : meth.sig.returnType = some .int) (hd : decode c.code pc = .ok (.ireturn, 1)) (hc : cells ≤ k) (hs : slots ≤ n) (hQ : Q (some (.int z)) h locs) :
    Dn p e below (PQS below s Z EL h0 Q k n) (T.setTop (mkF m pc Ls (.int z :: st))) :=
  finS_of X hEL W eT hlk (fun q => by rw [hret] at q; cases q) hc hs hQ (fun fs hr => retOut X hx hret rfl (Or.inl ⟨rfl, Or.inl rfl, _, rfl⟩) hd hr)
theorem finSN {Q : Option Value → Heap → List Loc → Prop} {k n : Nat} (X : Stand p l e R (s.setVm vm0) m args below meth c T locs cells slots) (hx : p.tables.exec = Jvm.exec) (hEL : EW Z a0 EL) (W : Sw Z EL s h0 vm0 h) (eT : T.heap = h) (hlk : meth.locks = false) {z : Int32} {t : FieldType} (hret : meth.sig.returnType = some t) (ht : t = .boolean ∨ t = .byte ∨ t = .char ∨ t = .short) (hd : decode c.code pc = .ok (.ireturn, 1)) (hc : cells ≤ k) (hs : slots ≤ n) (hQ : Q (some (.int (nar t z))) h locs) :
    Dn p e below (PQS below s Z EL h0 Q k n) (T.setTop (mkF m pc Ls (.int z :: st))) :=
  finS_of X hEL W eT hlk (fun q => by rw [hret] at q; cases q) hc hs hQ (fun fs hr => retN X hx hret ht hd hr)
theorem finSA {Q : Option Value → Heap → List Loc → Prop} {k n : Nat} (X : Stand p l e R (s.setVm vm0) m args below meth c T locs cells slots) (hx : p.tables.exec = Jvm.exec) (hEL : EW Z a0 EL) (W : Sw Z EL s h0 vm0 h) (eT : T.heap = h) (hlk : meth.locks = false) {w : Value} {t : FieldType} (hw : w.isRef = true) (hret : meth.sig.returnType = some t) (ht : t.isReference = true) (hn : narrow t w = w) (hd : decode c.code pc = .ok (.areturn, 1)) (hc : cells ≤ k) (hs : slots ≤ n) (hQ : Q (some w) h locs) :
    Dn p e below (PQS below s Z EL h0 Q k n) (T.setTop (mkF m pc Ls (w :: st))) :=
  finS_of X hEL W eT hlk (fun q => by rw [hret] at q; cases q) hc hs hQ (fun fs hr => retOut X hx hret hn (Or.inr (Or.inr (Or.inr (Or.inr ⟨rfl, ht, hw⟩)))) hd hr)
theorem finSV {Q : Option Value → Heap → List Loc → Prop} {k n : Nat} (X : Stand p l e R (s.setVm vm0) m args below meth c T locs cells slots) (hx : p.tables.exec = Jvm.exec) (hEL : EW Z a0 EL) (W : Sw Z EL s h0 vm0 h) (eT : T.heap = h) (hlk : meth.locks = false) (hret : meth.sig.returnType = none) (hd : decode c.code pc = .ok (.return_, 1)) (hc : cells ≤ k) (hs : slots ≤ n) (hQ : Q none h locs) :
    Dn p e below (PQS below s Z EL h0 Q k n) (T.setTop (mkF m pc Ls [])) :=
  finS_of X hEL W eT hlk (fun _ => rfl) hc hs hQ (fun fs hr => X.returnOut hx hret hd hr)
theorem o_ldcO (X : Stand p l e R (s.setVm vm0) m args below meth c T locs cells slots) (hx : p.tables.exec = Jvm.exec) {own text : String} {index : Nat} (hown : vm0.findClass own = some m.cls) (w : (Jvm.Cond.stringLink own index text).before a0 Z = true) (wS : ∀ a ∈ Bundle.stringAtoms, a.before a0 Z = true) (eT : T.heap = h) (W : Sw Z EL s h0 vm0 h) (hEL : EW Z a0 EL) (n : Nat) (hn : 4 * text.toList.length ≤ n) (hbig : n ≤ 536870912) (hc : cells + 2 ≤ R.cells) (hs : slots + (n + 4) ≤ R.slots) (hd : decode c.code pc = .ok (.ldc index, 2)) (hp : pc + 2 = pc') (K : ∀ a T' h', Stand p l e R (s.setVm T'.vm) m args below meth c T' locs (cells + 2) (slots + (n + 4)) → T'.heap = h' → Ext h h' → Sw Z EL s h0 T'.vm h' → T'.vm.findClass own = some m.cls → CHr Z EL vm0 h T'.vm h' → Dn p e below P (T'.setTop (mkF m pc' Ls (.ref a :: st)))) : Dn p e below P (T.setTop (mkF m pc Ls st)) := by
  subst hp
  obtain ⟨a, T', h', k1, X', e', E', hS', hk', hZ', hown', hC', -, st'⟩ := ldcOH X hx W.2.1 hown w wS eT W.1 (Nat.le_refl _) hEL W.2.2.1 (g := mkF m pc Ls st) rfl hd hn hbig hc hs
  exact go st' (K a T' h' X' e' E' ⟨⟨hS'.1, hS'.2.mono hk'⟩, hZ', W.2.2.trans hC'⟩ hown' hC')
theorem o_ldcR (X : Stand p l e R (s.setVm vm0) m args below meth c T locs cells slots) (hx : p.tables.exec = Jvm.exec) {own text : String} {index : Nat} (hown : vm0.findClass own = some m.cls) (w : (Jvm.Cond.stringLink own index text).before a0 Z = true) (wS : ∀ a ∈ Bundle.stringAtoms, a.before a0 Z = true) (eT : T.heap = h) (W : Sw Z EL s h0 vm0 h) (hEL : EW Z a0 EL) (hmem : (own, index) ∈ EL) {vs : List Value} {z : Int32} (ht : (∀ c ∈ text.toList, c.toNat < 256) ∧ text.toList.map (fun c => Value.int (Jvm.Lit.byteI c.toNat.toUInt16)) = vs) (hz : ¬ z < 0) (hlz : z.toNatClampNeg = vs.length) (n : Nat) (hn : 4 * text.toList.length ≤ n) (hbig : n ≤ 536870912) (hc : cells + 2 ≤ R.cells) (hs : slots + (n + 4) ≤ R.slots) (hd : decode c.code pc = .ok (.ldc index, 2)) (hp : pc + 2 = pc') (K : ∀ a T' h' b k, Stand p l e R (s.setVm T'.vm) m args below meth c T' locs (cells + 2) (slots + (n + 4)) → T'.heap = h' → Ext h h' → Sw Z EL s h0 T'.vm h' → T'.vm.findClass own = some m.cls → CHr Z EL vm0 h T'.vm h' → Exa Z h' a "java/lang/String" → Fld Z h' a "java/lang/String" "coder" "B" (.int 0) → Fld Z h' a "java/lang/String" "value" "[B" (.ref b) → Arv Z h' b k .byte z vs (.int 0) → (∀ x, Safe Z EL T'.vm h' x → x ≠ a ∧ x ≠ b) → Dn p e below P (T'.setTop (mkF m pc' Ls (.ref a :: st)))) : Dn p e below P (T.setTop (mkF m pc Ls st)) := by
  subst hp
  obtain ⟨a, T', h', k1, b, k, X', e', E', hS', hk', hZ', hown', q1, q2, q3, q4, -, -, hC', -, q5, st'⟩ := ldcCH X hx W.2.1 hown w wS eT W.1 (Nat.le_refl _) hEL hmem W.2.2.1 ht hz hlz (g := mkF m pc Ls st) rfl hd hn hbig hc hs
  exact go st' (K a T' h' b k X' e' E' ⟨⟨hS'.1, hS'.2.mono hk'⟩, hZ', W.2.2.trans hC'⟩ hown' hC' q1 q2 q3 q4 q5)
theorem own_find {own : String} {vm1 : Vm} {k : ClassId} (h : (s.setVm vm0).Warmed39 vm1) (q : vm0.findClass own = some k) : vm1.findClass own = some k := by
  rw [h.alike.findClass]
  exact q
theorem o_callSS (X : Stand p l e R (s.setVm vm0) m args below meth c T locs cells slots) (hx : p.tables.exec = Jvm.exec) (hEL : EW Z a0 EL) (W0 : Sw Z EL s h0 vm0 h) {own : String} {index : Nat} {y : MethodName} {bytes : ByteArray} {maxL : Nat} {ret : Option FieldType} {Rm : Room} {Q : Option Value → Heap → List Loc → Prop} {ps : List FieldType} (argsL : List Value) {as' : Array Value} (C : CtrS l Z EL y bytes maxL ret [] Rm as' h Q) (hown : vm0.findClass own = some m.cls) (w1 : (Jvm.Cond.methodLink own index y).before a0 Z = true) (w2 : (Jvm.Cond.static y).before a0 Z = true) (w3 : (Jvm.Cond.initialized y.cls).before a0 Z = true) (w4 : (Jvm.Cond.code y bytes maxL ret).before a0 Z = true) (hy : y.cls ≠ "java/lang/invoke/MethodHandle" ∧ y.cls ≠ "java/lang/invoke/VarHandle") (hpd : parseMethodDescriptor y.desc = some ⟨ps, ret⟩) (eT : T.heap = h) (hsize : Ls.size = c.maxLocals) {stk : List Value} (has : as' = argsL.toArray) (hln : argsL.length = ps.length) (hst : stk = argsL.reverse ++ st) (hd : decode c.code pc = .ok (.invokestatic index, 3)) (hp : pc + 3 = pc') (W : Nat) (hW : 2 * 0 + (st.map fun v => v.category).sum ≤ W) (hf : Rm.frames + 1 ≤ R.frames) (hl : W + (maxL + 11) + Rm.locals ≤ R.locals) (hc : cells + Rm.cells ≤ R.cells) (hs : slots + Rm.slots ≤ R.slots) (K : ∀ T' v L, Stand p l e R (s.setVm T'.vm) m args below meth c T' (locs ++ L) (cells + Rm.cells) (slots + Rm.slots) → Q v T'.heap L → Sw Z EL s h0 T'.vm T'.heap → T'.vm.findClass own = some m.cls → CHr Z EL vm0 h T'.vm T'.heap → Dn p e below P (T'.setTop (mkF m pc' Ls (v.toList ++ st)))) : Dn p e below P (T.setTop (mkF m pc Ls stk)) := by
  subst hp has hst
  obtain ⟨v, vm₁, ⟨T', L', k', n'⟩, -, X', hS', hg', ⟨L, hQ, l1, y1, z1, hC'⟩, st'⟩ := callSS X hx (y := y) hown (mvT (s := s.setVm vm0) W0.2.1 w1) (mvT (s := s.setVm vm0) W0.2.1 w2) (mvT (s := s.setVm vm0) W0.2.1 w3) (mvT (s := s.setVm vm0) W0.2.1 w4) hy (backOfSH (s := s) (W := W) C W0.2.1 w4 w3 hf hl hEL W0.2.2.1) (g := mkF m pc Ls (argsL.reverse ++ st)) rfl hsize (argsL := argsL) (rest := st) (lenOf hpd hln) rfl hW hd (fun _ _ => ⟨rfl, eT, hc, hs⟩)
  dsimp only [Pt.U, Pt.locs, Pt.cells, Pt.slots] at X' l1 y1 z1 st' hQ hS' hg' hC'
  subst l1 y1 z1
  have hS2 : s.Since T'.vm T'.heap.size := W0.1.trans hS' (by rw [← eT]; exact hg')
  exact goS st' (K T' v L X' hQ ⟨hS2, State.Warmed39.trans (t := s.setVm vm0) W0.2.1 hS'.1, W0.2.2.trans hC'⟩ (own_find hS'.1 hown) hC')
theorem o_callIS (X : Stand p l e R (s.setVm vm0) m args below meth c T locs cells slots) (hx : p.tables.exec = Jvm.exec) (hEL : EW Z a0 EL) (W0 : Sw Z EL s h0 vm0 h) {own : String} {index : Nat} {y : MethodName} {bytes : ByteArray} {maxL : Nat} {Rm : Room} {Q : Option Value → Heap → List Loc → Prop} {ps : List FieldType} (a : Addr) (argsL : List Value) {as' : Array Value} (C : CtrS l Z EL y bytes maxL none [] Rm as' h Q) (hy1 : y.name = "<init>") (hown : vm0.findClass own = some m.cls) (w1 : (Jvm.Cond.methodLink own index y).before a0 Z = true) (w2 : (Jvm.Cond.instanceMethod y).before a0 Z = true) (w3 : (Jvm.Cond.initialized y.cls).before a0 Z = true) (w4 : (Jvm.Cond.code y bytes maxL none).before a0 Z = true) (hy : y.cls ≠ "java/lang/invoke/MethodHandle" ∧ y.cls ≠ "java/lang/invoke/VarHandle") (hpd : parseMethodDescriptor y.desc = some ⟨ps, none⟩) (eT : T.heap = h) (hsize : Ls.size = c.maxLocals) {stk : List Value} (has : as' = (.ref a :: argsL).toArray) (hln : argsL.length = ps.length) (hst : stk = argsL.reverse ++ .ref a :: st) (hd : decode c.code pc = .ok (.invokespecial index, 3)) (hp : pc + 3 = pc') (W : Nat) (hW : 2 * 0 + (st.map fun v => v.category).sum ≤ W) (hf : Rm.frames + 1 ≤ R.frames) (hl : W + (maxL + 11) + Rm.locals ≤ R.locals) (hc : cells + Rm.cells ≤ R.cells) (hs : slots + Rm.slots ≤ R.slots) (K : ∀ T' v L, Stand p l e R (s.setVm T'.vm) m args below meth c T' (locs ++ L) (cells + Rm.cells) (slots + Rm.slots) → Q v T'.heap L → Sw Z EL s h0 T'.vm T'.heap → T'.vm.findClass own = some m.cls → CHr Z EL vm0 h T'.vm T'.heap → Dn p e below P (T'.setTop (mkF m pc' Ls (v.toList ++ st)))) : Dn p e below P (T.setTop (mkF m pc Ls stk)) := by
  subst hp has hst
  obtain ⟨v, vm₁, ⟨T', L', k', n'⟩, -, X', hS', hg', ⟨L, hQ, l1, y1, z1, hC'⟩, st'⟩ := X.specialBackS hx (y := y) hy1 hown (mvT (s := s.setVm vm0) W0.2.1 w1) (mvT (s := s.setVm vm0) W0.2.1 w2) (mvT (s := s.setVm vm0) W0.2.1 w4) hy (backOfSH (s := s) (W := W) C W0.2.1 w4 w3 hf hl hEL W0.2.2.1) (g := mkF m pc Ls (argsL.reverse ++ .ref a :: st)) rfl hsize (Steps.refl _) (a := a) (argsL := argsL) (rest := st) (lenOf hpd hln) rfl hW hd (fun _ _ => ⟨rfl, eT, hc, hs⟩)
  dsimp only [Pt.U, Pt.locs, Pt.cells, Pt.slots] at X' l1 y1 z1 st' hQ hS' hg' hC'
  subst l1 y1 z1
  have hS2 : s.Since T'.vm T'.heap.size := W0.1.trans hS' (by rw [← eT]; exact hg')
  exact goS st' (K T' v L X' hQ ⟨hS2, State.Warmed39.trans (t := s.setVm vm0) W0.2.1 hS'.1, W0.2.2.trans hC'⟩ (own_find hS'.1 hown) hC')
end OwnS
def own_EL : List (String × Nat) := [("java/lang/String", 7)]
theorem own_wS {Z : State} {a0 : Array Value} (hw : ∀ d ∈ tables_1, d.before a0 Z = true) : ∀ a ∈ Bundle.stringAtoms, a.before a0 Z = true := by
  intro a ha
  simp only [Bundle.stringAtoms, List.mem_cons, List.not_mem_nil, or_false] at ha
  rcases ha with rfl | rfl | rfl | rfl | rfl | rfl | rfl
  · exact (hw _ (List.mem_of_getElem? (i := 6) rfl))
  · exact (hw _ (List.mem_of_getElem? (i := 5) rfl))
  · exact (hw _ (List.mem_of_getElem? (i := 19) rfl))
  · exact (hw _ (List.mem_of_getElem? (i := 20) rfl))
  · exact (hw _ (List.mem_of_getElem? (i := 21) rfl))
  · exact (hw _ (List.mem_of_getElem? (i := 22) rfl))
  · exact (hw _ (List.mem_of_getElem? (i := 23) rfl))
theorem own_EW {Z : State} {a0 : Array Value} (hw : ∀ d ∈ tables_1, d.before a0 Z = true) : EW Z a0 own_EL := EW.cons (hw _ (List.mem_of_getElem? (i := 18) rfl)) (by decide) EW.nil
theorem own_safe {Z : State} {h : Heap} {vm : Vm} {EL : List (String × Nat)} {x : Addr} (hal : Z.vm.Alike vm) (E : Exa Z h x "java/lang/String") (V : Fld Z h x "java/lang/String" "value" "[B" .null) : Safe Z EL vm h x := fun B => by
  obtain ⟨cell, k, e1, e2, e3, -, -⟩ := E
  obtain ⟨p, -, u, a, -, q, -, F, rfl | rfl⟩ := B
  · cases (show h[q.sa]? = some q.sC from F.ha).symm.trans e1
    obtain ⟨cS, ⟨⟨-, -, -, ⟨cv, kv, iv, s4, -⟩, -, -, -, s8, -⟩, -, -⟩, -⟩ := F
    obtain ⟨kv', z4⟩ := ff_back (U := Wst Z vm h) hal s4
    obtain ⟨cl2, cf2, k2, i2, f2, v1, v2, -, -, -, -, v7⟩ := V
    cases e1.symm.trans v1
    cases (show some _ = some _ from z4.symm.trans v2)
    cases s8.symm.trans v7
  · cases (show h[q.sd]? = some q.SA from F.hd).symm.trans e1
    obtain ⟨cS, -, -, f, -⟩ := F
    rw [show (Wst Z vm h).vm = vm from rfl, hal.findClass] at f
    obtain ⟨k1, q1, q2⟩ := Vm.findClass_spec f
    obtain ⟨k2, q3, q4⟩ := Vm.findClass_spec e2
    cases q1.symm.trans q3
    exact absurd (q2.symm.trans q4) (by decide)
theorem own_ns {Z : State} {a0 : Array Value} {K : String} {n : Nat} (w : (Jvm.Cond.superclass "java/lang/String" "java/lang/Object").before a0 Z = true) (w0 : (Jvm.Cond.noSuperclass "java/lang/Object").before a0 Z = true) (wi : (Jvm.Cond.instantiable K n).before a0 Z = true) (h1 : "java/lang/String" ≠ K) (h2 : "java/lang/Object" ≠ K) : ∃ c t, Z.vm.findClass "java/lang/String" = some c ∧ Z.vm.findClass K = some t ∧ Z.vm.assignable c t = false := by
  obtain ⟨t, k', g0, g2, g5, g7, -⟩ := Jvm.Cond.instantiable_spec wi
  obtain ⟨oc, ok, o1, o2, o3, -, -⟩ := Jvm.Cond.noSuperclass_spec w0
  obtain ⟨c, h0⟩ := found_sup w
  obtain ⟨p, k, kp, q1, q2, q3, q4, q5, -, q7⟩ := Jvm.Cond.superclass_spec h0 w
  cases o1.symm.trans q1
  have ne1 := ids_ne h0 g0 h1
  have ne2 := ids_ne o1 g0 h2
  have n2 : ∀ fuel, Z.vm.isSubclassAux fuel oc t = false := by
    intro fuel
    cases fuel with
    | zero => rfl
    | succ f => simp [Vm.isSubclassAux, ne2, o2, o3]
  have n3 : ∀ fuel, Z.vm.isSubclassAux fuel c t = false := by
    intro fuel
    cases fuel with
    | zero => rfl
    | succ f => simp [Vm.isSubclassAux, ne1, q2, q4, n2]
  refine ⟨c, t, h0, g0, ?_⟩
  show Z.vm.assignableAux (255 + 1) c t = false
  simp [Vm.assignableAux, ne1, q2, g2, q5, g5, (Bool.or_eq_false_iff.mp g7).1, Vm.isSubclass, n3]
theorem own_up (n : Nat) : Int32.ofNat n + (1 : Int32) = Int32.ofNat (n + 1) := by rw [Int32.ofNat_add]; rfl
theorem own_ti {n : Nat} (h : n ≤ 1000) : (Int32.ofNat n).toInt = n := Int32.toInt_ofNat_of_lt (by omega)
theorem own_ci {n : Nat} (h : n ≤ 1000) : (Int32.ofNat n).toNatClampNeg = n := by
  show (Int32.ofNat n).toInt.toNat = n
  rw [own_ti h]; rfl
theorem own_lt {i n : Nat} (h : i ≤ 1000) (h' : n ≤ 1000) : Int32.ofNat i < Int32.ofNat n ↔ i < n := by
  rw [Int32.lt_iff_toInt_lt, own_ti h, own_ti h']; omega
theorem own_nn {n : Nat} (h : n ≤ 1000) : ¬ Int32.ofNat n < 0 := by
  rw [Int32.lt_iff_toInt_lt, own_ti h]
  have : (0 : Int32).toInt = 0 := by decide
  omega
theorem own_inj {i n : Nat} (h : i ≤ 1000) (h' : n ≤ 1000) (q : Int32.ofNat i = Int32.ofNat n) : i = n := by
  have := congrArg Int32.toInt q
  rw [own_ti h, own_ti h'] at this; omega
theorem own_pos {n : Nat} (h : n ≤ 1000) (p : 0 < n) : ¬ Int32.ofNat n = (0 : Int32) := fun q => absurd (own_inj h (Nat.zero_le _) q) (by omega)
def own_b (c : Int32) : Int32 := nar .byte c.toInt8.toInt32
def iv (l : List Int32) : List Value := l.map .int
theorem iv_len (l : List Int32) : (iv l).length = l.length := List.length_map ..
theorem iv_get {l : List Int32} {i : Nat} (h : i < l.length) (d : Value) : (iv l).getD i d = .int (l.getD i 0) := by
  simp [iv, List.getD, h]
theorem iv_rep (n : Nat) : iv (List.replicate n 0) = List.replicate n (.int 0) := by simp [iv]
theorem iv_set (l : List Int32) (i : Nat) (c : Int32) : (iv l).set i (.int c) = iv (l.set i c) := by simp [iv]
theorem own_seti {cs : List Int32} {i r : Nat} (h : i + (r + 1) = cs.length) : ((cs.take i).map own_b ++ List.replicate (r + 1) 0).set i (own_b (cs.getD i 0)) = (cs.take (i + 1)).map own_b ++ List.replicate r 0 := by
  have hi : i < cs.length := by omega
  have hl : ((cs.take i).map own_b).length = i := by simp; omega
  rw [List.set_append_right _ _ (by omega), hl, Nat.sub_self, List.replicate_succ, List.set_cons_zero, List.take_add_one, List.map_append, List.append_assoc]
  simp [List.getD, hi]
theorem own_all {cs : List Int32} (h : ∀ c ∈ cs, ¬ 255 < c) {i : Nat} (hi : i < cs.length) : ¬ 255 < cs.getD i 0 := by
  have : cs.getD i 0 = cs[i] := by simp [List.getD, hi]
  rw [this]; exact h _ (List.getElem_mem hi)
theorem own_nb {cs ds : List Int32} {i : Nat} (h : cs.length = ds.length) (q : ¬ cs.getD i 0 = ds.getD i 0) : ¬ cs = ds := fun z => q (by rw [z])
theorem own_step {cs ds : List Int32} {i : Nat} (h1 : i < cs.length) (h2 : i < ds.length) (t : cs.take i = ds.take i) (q : cs.getD i 0 = ds.getD i 0) : cs.take (i + 1) = ds.take (i + 1) := by
  have e1 : cs.getD i 0 = cs[i] := by simp [List.getD, h1]
  have e2 : ds.getD i 0 = ds[i] := by simp [List.getD, h2]
  rw [e1, e2] at q
  rw [List.take_add_one, List.take_add_one, t, List.getElem?_eq_getElem h1, List.getElem?_eq_getElem h2, q]
/-- the String at a holds the bytes bs; it and its array lie below t -/
def Str (Z : State) (h : Heap) (t : Nat) (a : Addr) (bs : List Int32) : Prop :=
  ∃ (b : Addr) (k : ClassId), a < t ∧ b < t ∧ Exa Z h a "java/lang/String" ∧ Fld Z h a "java/lang/String" "value" "[B" (.ref b) ∧ Fld Z h a "java/lang/String" "coder" "B" (.int 0) ∧ Arv Z h b k .byte (Int32.ofNat bs.length) (iv bs) (.int 0)
theorem Str.keep {Z : State} {h h' : Heap} {t : Nat} {a : Addr} {bs : List Int32} {ws : List Addr} (F : Str Z h t a bs) (K : Keep h h' ws) (q : ∀ x ∈ ws, t ≤ x) : Str Z h' t a bs := by
  obtain ⟨b, k, h1, h2, E, f1, f2, v⟩ := F
  have n1 : a ∉ ws := fun z => absurd (q a z) (Nat.not_le.mpr h1)
  have n2 : b ∉ ws := fun z => absurd (q b z) (Nat.not_le.mpr h2)
  exact ⟨b, k, h1, h2, E.keep K, f1.keep K n1, f2.keep K n1, v.keep K n2⟩
theorem Str.ext {Z : State} {h h' : Heap} {t : Nat} {a : Addr} {bs : List Int32} (F : Str Z h t a bs) (E' : Ext h h') : Str Z h' t a bs := F.keep ((Keep.refl h []).ext E') (fun x hx => nomatch hx)
theorem Str.exa {Z : State} {h : Heap} {t : Nat} {a : Addr} {bs : List Int32} (F : Str Z h t a bs) : Exa Z h a "java/lang/String" := by
  obtain ⟨b, k, -, -, E, -⟩ := F
  exact E
theorem Str.lt {Z : State} {h : Heap} {t : Nat} {a : Addr} {bs : List Int32} (F : Str Z h t a bs) : a < t := by
  obtain ⟨b, k, q, -⟩ := F
  exact q
theorem own_one {t x : Nat} (h : t ≤ x) : ∀ y ∈ [x], t ≤ y := by
  intro y hy
  simp only [List.mem_cons, List.not_mem_nil, or_false] at hy
  subst hy; exact h
theorem d13_0 : decode jdk_52_method_21_code 0 = .ok (.iconst 0, 1) := by decide +kernel
theorem d13_1 : decode jdk_52_method_21_code 1 = .ok (.istore 5, 2) := by decide +kernel
theorem d13_3 : decode jdk_52_method_21_code 3 = .ok (.iload 5, 2) := by decide +kernel
theorem d13_5 : decode jdk_52_method_21_code 5 = .ok (.iload 4, 2) := by decide +kernel
theorem d13_7 : decode jdk_52_method_21_code 7 = .ok (.if_icmp .ge 37, 3) := by decide +kernel
theorem d13_10 : decode jdk_52_method_21_code 10 = .ok (.aload_n 0, 1) := by decide +kernel
theorem d13_11 : decode jdk_52_method_21_code 11 = .ok (.iload_n 1, 1) := by decide +kernel
theorem d13_12 : decode jdk_52_method_21_code 12 = .ok (.caload, 1) := by decide +kernel
theorem d13_13 : decode jdk_52_method_21_code 13 = .ok (.istore 6, 2) := by decide +kernel
theorem d13_15 : decode jdk_52_method_21_code 15 = .ok (.iload 6, 2) := by decide +kernel
theorem d13_17 : decode jdk_52_method_21_code 17 = .ok (.sipush 255, 3) := by decide +kernel
theorem d13_20 : decode jdk_52_method_21_code 20 = .ok (.if_icmp .le 6, 3) := by decide +kernel
theorem d13_26 : decode jdk_52_method_21_code 26 = .ok (.aload_n 2, 1) := by decide +kernel
theorem d13_27 : decode jdk_52_method_21_code 27 = .ok (.iload_n 3, 1) := by decide +kernel
theorem d13_28 : decode jdk_52_method_21_code 28 = .ok (.iload 6, 2) := by decide +kernel
theorem d13_30 : decode jdk_52_method_21_code 30 = .ok (.i2b, 1) := by decide +kernel
theorem d13_31 : decode jdk_52_method_21_code 31 = .ok (.bastore, 1) := by decide +kernel
theorem d13_32 : decode jdk_52_method_21_code 32 = .ok (.iinc 1 1, 3) := by decide +kernel
theorem d13_35 : decode jdk_52_method_21_code 35 = .ok (.iinc 3 1, 3) := by decide +kernel
theorem d13_38 : decode jdk_52_method_21_code 38 = .ok (.iinc 5 1, 3) := by decide +kernel
theorem d13_41 : decode jdk_52_method_21_code 41 = .ok (.goto (-38), 3) := by decide +kernel
theorem d13_44 : decode jdk_52_method_21_code 44 = .ok (.iload 4, 2) := by decide +kernel
theorem d13_46 : decode jdk_52_method_21_code 46 = .ok (.ireturn, 1) := by decide +kernel
theorem pn_13 : plainFor (⟨"java/lang/StringUTF16", "compress", "([CI[BII)I"⟩ : MethodName) = true := plainFor_of_name (by show plainName "java/lang/StringUTF16" = true; first | (simp [plainName, overriddenIn]; done) | decide +kernel)
theorem ef_13_a1_0_a3_0_p5 (m : MethodId) (a1 : Addr) (a3 : Addr) (p5 : Int32) : entryFrame m #[(.ref a1), (.int (0 : Int32)), (.ref a3), (.int (0 : Int32)), (.int p5)] 7 = mkF m 0 #[.val (.ref a1), .val (.int (0 : Int32)), .val (.ref a3), .val (.int (0 : Int32)), .val (.int p5), .unset, .unset] [] := by first | (simp [entryFrame, mkF, argsToLocals, Value.category]; done) | rfl
set_option maxRecDepth 65536 in
set_option maxHeartbeats 40000000 in
theorem rmC5 (l : Launch) (Z : State) (a0 : Array Value) (hw : ∀ d ∈ tables_1, d.before a0 Z = true) (h0 : Heap) (n0 : Nat) (Z0 : n0 ≤ h0.size) (a1 : Addr) (a3 : Addr) (p5 : Int32) (cs : List Int32) (hc : ∀ c ∈ cs, ¬ 255 < c) (hl : cs.length ≤ 24) (hp : p5 = (Int32.ofNat cs.length)) (k kb : ClassId) (d : Value) (hV : Arv Z h0 a1 k .char (Int32.ofNat cs.length) (iv cs) d) (hB : Arv Z h0 a3 kb .byte (Int32.ofNat cs.length) (iv (List.replicate cs.length 0)) (.int 0)) (ne : a1 ≠ a3) (ga : n0 ≤ a3) : Ctr l Z (⟨"java/lang/StringUTF16", "compress", "([CI[BII)I"⟩ : MethodName) jdk_52_method_21_code 7 (some .int) [] ({ frames := 0, cells := 0, slots := 0, locals := 0 } : Room) #[(.ref a1), (.int (0 : Int32)), (.ref a3), (.int (0 : Int32)), (.int p5)] h0 (fun v h L => v = some (.int p5) ∧ Fr n0 L ∧ Keep h0 h [a3] ∧ Arv Z h a3 kb .byte (Int32.ofNat cs.length) (iv (cs.map own_b)) (.int 0)) := by
  refine ctr_mk pn_13 (own := "java/lang/StringUTF16") (mn := "compress") rfl rfl ?_
  intro p e s m below meth c T0 X0 hx hby hml hZ hown hnm hret hlk e0
  refine o_entry (ef_13_a1_0_a3_0_p5 m a1 a3 p5) ?_
  subst hp
  refine o_iconst X0 hx (pc' := 1) (v := (0 : Int32)) (hb hby d13_0) rfl rfl ?_
  refine o_istore X0 hx (pc' := 3) (Ls' := #[.val (.ref a1), .val (.int (0 : Int32)), .val (.ref a3), .val (.int (0 : Int32)), .val (.int (Int32.ofNat cs.length)), .val (.int (0 : Int32)), .unset]) (hb hby d13_1) rfl rfl ?_
  have loop : ∀ r i, i + r = cs.length → ∀ (T : State) (h : Heap) (L : List Loc) (q6 : Slot), (q6 = .unset ∨ ∃ v, q6 = .val (.int v)) → Stand p l e ({ frames := 0, cells := 0, slots := 0, locals := 0 } : Room) s m #[.ref a1, .int (0 : Int32), .ref a3, .int (0 : Int32), .int (Int32.ofNat cs.length)] below meth c T L 0 0 → T.heap = h → Fr n0 L → Keep h0 h [a3] → Arv Z h a3 kb .byte (Int32.ofNat cs.length) (iv ((cs.take i).map own_b ++ List.replicate r 0)) (.int 0) → Dn p e below (PQ below s (fun v h L => v = some (.int (Int32.ofNat cs.length)) ∧ Fr n0 L ∧ Keep h0 h [a3] ∧ Arv Z h a3 kb .byte (Int32.ofNat cs.length) (iv (cs.map own_b)) (.int 0)) 0 0) (T.setTop (mkF m 3 #[.val (.ref a1), .val (.int (Int32.ofNat i)), .val (.ref a3), .val (.int (Int32.ofNat i)), .val (.int (Int32.ofNat cs.length)), .val (.int (Int32.ofNat i)), q6] [])) := by
    intro r
    induction r with
    | zero =>
      intro i hi T h L q6 hq6 X eh N K V
      obtain rfl : i = cs.length := hi
      have V2 : Arv Z h a3 kb .byte (Int32.ofNat cs.length) (iv (cs.map own_b)) (.int 0) := by
        rw [List.take_length, List.replicate_zero, List.append_nil] at V
        exact V
      refine o_iload X hx (pc' := 5) (hb hby d13_3) rfl rfl ?_
      refine o_iload X hx (pc' := 7) (hb hby d13_5) rfl rfl ?_
      refine o_icmp_ge X hx (pc' := 10) (pt := 44) (hb hby d13_7) rfl (by decide) (by decide) (fun _ => ?_) (fun q => absurd q (fun q => absurd ((own_lt (Nat.le_trans hl (by decide)) (Nat.le_trans hl (by decide))).mp q) (Nat.lt_irrefl _)))
      refine o_iload X hx (pc' := 46) (hb hby d13_44) rfl rfl ?_
      exact finI X hx hlk hret (hb hby d13_46) (by decide) (by decide) ⟨rfl, N, by rw [eh]; exact K, by rw [eh]; exact V2⟩
    | succ r ih =>
      intro i hi T h L q6 hq6 X eh N K V
      have hi1 : i < cs.length := by omega
      have hi2 : i ≤ 1000 := Nat.le_trans (Nat.le_of_lt hi1) (Nat.le_trans hl (by decide))
      have hlt := (own_lt hi2 (Nat.le_trans hl (by decide))).mpr hi1
      have hVh := hV.keep K (by simp only [List.mem_cons, List.not_mem_nil, or_false]; exact ne)
      refine o_iload X hx (pc' := 5) (hb hby d13_3) rfl rfl ?_
      refine o_iload X hx (pc' := 7) (hb hby d13_5) rfl rfl ?_
      refine o_icmp_ge X hx (pc' := 10) (pt := 44) (hb hby d13_7) rfl (by decide) (by decide) (fun q => absurd hlt q) (fun _ => ?_)
      refine o_aloadN X hx (pc' := 11) (hb hby d13_10) rfl rfl rfl ?_
      refine o_iloadN X hx (pc' := 12) (hb hby d13_11) rfl rfl ?_
      refine o_caload X hx hZ eh hVh ⟨own_nn hi2, hlt⟩ (v := (.int (cs.getD i 0))) (by rw [own_ci hi2]; exact iv_get hi1 _) (hb hby d13_12) (pc' := 13) rfl ?_
      refine o_istore X hx (pc' := 15) (Ls' := #[.val (.ref a1), .val (.int (Int32.ofNat i)), .val (.ref a3), .val (.int (Int32.ofNat i)), .val (.int (Int32.ofNat cs.length)), .val (.int (Int32.ofNat i)), .val (.int (cs.getD i 0))]) (hb hby d13_13) rfl (by rcases hq6 with rfl | ⟨v, rfl⟩ <;> rfl) ?_
      refine o_iload X hx (pc' := 17) (hb hby d13_15) rfl rfl ?_
      refine o_sipush X hx (pc' := 20) (v := (255 : Int32)) (hb hby d13_17) rfl rfl ?_
      refine o_icmp_le X hx (pc' := 23) (pt := 26) (hb hby d13_20) rfl (by decide) (by decide) (fun _ => ?_) (fun q => absurd q (own_all hc hi1))
      refine o_aloadN X hx (pc' := 27) (hb hby d13_26) rfl rfl rfl ?_
      refine o_iloadN X hx (pc' := 28) (hb hby d13_27) rfl rfl ?_
      refine o_iload X hx (pc' := 30) (hb hby d13_28) rfl rfl ?_
      refine o_i2b X hx (pc' := 31) (hb hby d13_30) rfl ?_
      refine o_bastore X hx hZ eh V ⟨own_nn hi2, hlt⟩ i (own_ci hi2) (by rw [iv_len]; simp; omega) (hb hby d13_31) (pc' := 32) rfl ?_
      intro T1 h1 X1 e1 W1 V1
      have V2 : Arv Z h1 a3 kb .byte (Int32.ofNat cs.length) (iv ((cs.take (i + 1)).map own_b ++ List.replicate r 0)) (.int 0) := by
        rw [← own_seti hi, ← iv_set]
        exact V1
      refine o_iinc X1 hx (pc' := 35) (Ls' := #[.val (.ref a1), .val (.int ((Int32.ofNat i) + (1 : Int32))), .val (.ref a3), .val (.int (Int32.ofNat i)), .val (.int (Int32.ofNat cs.length)), .val (.int (Int32.ofNat i)), .val (.int (cs.getD i 0))]) (v := (1 : Int32)) (hb hby d13_32) rfl rfl rfl rfl ?_
      refine o_iinc X1 hx (pc' := 38) (Ls' := #[.val (.ref a1), .val (.int ((Int32.ofNat i) + (1 : Int32))), .val (.ref a3), .val (.int ((Int32.ofNat i) + (1 : Int32))), .val (.int (Int32.ofNat cs.length)), .val (.int (Int32.ofNat i)), .val (.int (cs.getD i 0))]) (v := (1 : Int32)) (hb hby d13_35) rfl rfl rfl rfl ?_
      refine o_iinc X1 hx (pc' := 41) (Ls' := #[.val (.ref a1), .val (.int ((Int32.ofNat i) + (1 : Int32))), .val (.ref a3), .val (.int ((Int32.ofNat i) + (1 : Int32))), .val (.int (Int32.ofNat cs.length)), .val (.int ((Int32.ofNat i) + (1 : Int32))), .val (.int (cs.getD i 0))]) (v := (1 : Int32)) (hb hby d13_38) rfl rfl rfl rfl ?_
      refine o_goto X1 hx (pc' := 3) (hb hby d13_41) (by decide) (by decide) ?_
      rw [own_up i]
      exact ih (i + 1) (by omega) _ _ _ _ (Or.inr ⟨_, rfl⟩) X1 e1 (Fr.snoc X1 N ga) (K.wr W1 (Or.inl (List.mem_of_getElem? (i := 0) rfl))) V2
  exact loop cs.length 0 (Nat.zero_add _) _ _ _ _ (Or.inl rfl) X0 e0 (Fr.nil n0) (Keep.refl h0 [a3]) hB
theorem pd_0 : parseMethodDescriptor "([CI[BII)I" = some ⟨[(.array .char), .int, (.array .byte), .int, .int], some .int⟩ := by decide +kernel
theorem d12_0 : decode jdk_52_method_16_code 0 = .ok (.iload_n 2, 1) := by decide +kernel
theorem d12_1 : decode jdk_52_method_16_code 1 = .ok (.newarray .byte, 2) := by decide +kernel
theorem d12_3 : decode jdk_52_method_16_code 3 = .ok (.astore_n 3, 1) := by decide +kernel
theorem d12_4 : decode jdk_52_method_16_code 4 = .ok (.aload_n 0, 1) := by decide +kernel
theorem d12_5 : decode jdk_52_method_16_code 5 = .ok (.iload_n 1, 1) := by decide +kernel
theorem d12_6 : decode jdk_52_method_16_code 6 = .ok (.aload_n 3, 1) := by decide +kernel
theorem d12_7 : decode jdk_52_method_16_code 7 = .ok (.iconst 0, 1) := by decide +kernel
theorem d12_8 : decode jdk_52_method_16_code 8 = .ok (.iload_n 2, 1) := by decide +kernel
theorem d12_9 : decode jdk_52_method_16_code 9 = .ok (.invokestatic 115, 3) := by decide +kernel
theorem d12_12 : decode jdk_52_method_16_code 12 = .ok (.istore 4, 2) := by decide +kernel
theorem d12_14 : decode jdk_52_method_16_code 14 = .ok (.iload 4, 2) := by decide +kernel
theorem d12_16 : decode jdk_52_method_16_code 16 = .ok (.iload_n 2, 1) := by decide +kernel
theorem d12_17 : decode jdk_52_method_16_code 17 = .ok (.if_icmp .eq 40, 3) := by decide +kernel
theorem d12_57 : decode jdk_52_method_16_code 57 = .ok (.aload_n 3, 1) := by decide +kernel
theorem d12_58 : decode jdk_52_method_16_code 58 = .ok (.areturn, 1) := by decide +kernel
theorem pn_12 : plainFor (⟨"java/lang/StringUTF16", "compress", "([CII)[B"⟩ : MethodName) = true := plainFor_of_name (by show plainName "java/lang/StringUTF16" = true; first | (simp [plainName, overriddenIn]; done) | decide +kernel)
theorem ef_12_a1_0_p3 (m : MethodId) (a1 : Addr) (p3 : Int32) : entryFrame m #[(.ref a1), (.int (0 : Int32)), (.int p3)] 6 = mkF m 0 #[.val (.ref a1), .val (.int (0 : Int32)), .val (.int p3), .unset, .unset, .unset] [] := by first | (simp [entryFrame, mkF, argsToLocals, Value.category]; done) | rfl
set_option maxRecDepth 65536 in
set_option maxHeartbeats 40000000 in
theorem rmC3 (l : Launch) (Z : State) (a0 : Array Value) (hw : ∀ d ∈ tables_1, d.before a0 Z = true) (h0 : Heap) (n0 : Nat) (Z0 : n0 ≤ h0.size) (a1 : Addr) (p3 : Int32) (cs : List Int32) (hc : ∀ c ∈ cs, ¬ 255 < c) (hl : cs.length ≤ 24) (hp : p3 = (Int32.ofNat cs.length)) (k : ClassId) (d : Value) (hV : Arv Z h0 a1 k .char (Int32.ofNat cs.length) (iv cs) d) : Ctr l Z (⟨"java/lang/StringUTF16", "compress", "([CII)[B"⟩ : MethodName) jdk_52_method_16_code 6 (some (.array .byte)) [] ({ frames := 1, cells := 1, slots := 24, locals := 18 } : Room) #[(.ref a1), (.int (0 : Int32)), (.int p3)] h0 (fun v h L => ∃ (b : Addr) (kb : ClassId), v = some (.ref b) ∧ h0.size ≤ b ∧ Fr n0 L ∧ Keep h0 h [] ∧ Arv Z h b kb .byte (Int32.ofNat cs.length) (iv (cs.map own_b)) (.int 0)) := by
  refine ctr_mk pn_12 (own := "java/lang/StringUTF16") (mn := "compress") rfl rfl ?_
  intro p e s m below meth c T0 X0 hx hby hml hZ hown hnm hret hlk e0
  refine o_entry (ef_12_a1_0_p3 m a1 p3) ?_
  subst hp
  have NN := Fr.nil n0
  have ZZ := Z0
  have KK := Keep.refl h0 []
  refine o_iloadN X0 hx (pc' := 1) (hb hby d12_0) rfl rfl ?_
  refine o_newarray X0 hx hZ e0 (hw _ (List.mem_of_getElem? (i := 19) rfl)) (hb hby d12_1) (pc' := 3) rfl (own_nn (Nat.le_trans hl (by decide))) 24 (by rw [own_ci (Nat.le_trans hl (by decide))]; exact hl) (by decide) (by decide) (by decide) ?_
  intro T1 h1 b1 k1 g1 X1 e1 E1 V1
  have lt_a1_b1 : a1 < b1 := Nat.lt_of_lt_of_le hV.lt (Nat.le_of_eq g1.symm)
  have ne_a1_b1 : a1 ≠ b1 := Nat.ne_of_lt lt_a1_b1
  have g_b1 : n0 ≤ b1 := Nat.le_trans ZZ (Nat.le_of_eq g1.symm)
  have sz_b1 : h0.size ≤ b1 := Nat.le_trans KK.1 (Nat.le_of_eq g1.symm)
  have KK := KK.ext E1
  have ZZ := Nat.le_trans ZZ E1.1
  have hV := hV.ext E1
  have hB := V1
  have hB : Arv Z h1 b1 k1 .byte (Int32.ofNat cs.length) (iv (List.replicate cs.length 0)) (.int 0) := by
    rw [iv_rep]
    exact hB.pad (pad_rep [] _ cs.length)
  refine o_astoreN X1 hx (pc' := 4) (Ls' := #[.val (.ref a1), .val (.int (0 : Int32)), .val (.int (Int32.ofNat cs.length)), .val (.ref b1), .unset, .unset]) (hb hby d12_3) rfl rfl rfl ?_
  refine o_aloadN X1 hx (pc' := 5) (hb hby d12_4) rfl rfl rfl ?_
  refine o_iloadN X1 hx (pc' := 6) (hb hby d12_5) rfl rfl ?_
  refine o_aloadN X1 hx (pc' := 7) (hb hby d12_6) rfl rfl rfl ?_
  refine o_iconst X1 hx (pc' := 8) (v := (0 : Int32)) (hb hby d12_7) rfl rfl ?_
  refine o_iloadN X1 hx (pc' := 9) (hb hby d12_8) rfl rfl ?_
  refine o_callS X1 hx hZ [(.ref a1), (.int (0 : Int32)), (.ref b1), (.int (0 : Int32)), (.int (Int32.ofNat cs.length))] (rmC5 l Z a0 hw h1 n0 ZZ a1 b1 (Int32.ofNat cs.length) cs hc hl rfl k k1 d hV hB ne_a1_b1 g_b1) hown (hw _ (List.mem_of_getElem? (i := 71) rfl)) (hw _ (List.mem_of_getElem? (i := 72) rfl)) (hw _ (List.mem_of_getElem? (i := 69) rfl)) (hw _ (List.mem_of_getElem? (i := 73) rfl)) (by decide) pd_0 e1 (by rw [hml]; rfl) rfl rfl rfl (hb hby d12_9) (pc' := 12) rfl 0 (Nat.le_of_eq rfl) (by decide) (by decide) (by decide) (by decide) ?_
  intro T2 v2 L2 X2 hQ2
  obtain ⟨rfl, Nq, Kq, hBq⟩ := hQ2
  have NN := Fr.app NN Nq
  have KK := KK.trans Kq (by intro x hx; simp only [List.mem_cons, List.not_mem_nil, or_false] at hx; subst hx; first | (left; simp; done) | (right; first | exact sz_b1))
  have ZZ := Nat.le_trans ZZ Kq.1
  have hV := hV.keep Kq (by simp only [List.mem_cons, List.not_mem_nil, or_false, not_or]; exact ne_a1_b1)
  have hB := hBq
  show Dn p e below _ (T2.setTop (mkF m 12 #[.val (.ref a1), .val (.int (0 : Int32)), .val (.int (Int32.ofNat cs.length)), .val (.ref b1), .unset, .unset] [(.int (Int32.ofNat cs.length))]))
  refine o_istore X2 hx (pc' := 14) (Ls' := #[.val (.ref a1), .val (.int (0 : Int32)), .val (.int (Int32.ofNat cs.length)), .val (.ref b1), .val (.int (Int32.ofNat cs.length)), .unset]) (hb hby d12_12) rfl rfl ?_
  refine o_iload X2 hx (pc' := 16) (hb hby d12_14) rfl rfl ?_
  refine o_iloadN X2 hx (pc' := 17) (hb hby d12_16) rfl rfl ?_
  refine o_icmp_eq X2 hx (pc' := 20) (pt := 57) (hb hby d12_17) rfl (by decide) (by decide) (fun _ => ?_) (fun q => absurd rfl q)
  refine o_aloadN X2 hx (pc' := 58) (hb hby d12_57) rfl rfl rfl ?_
  exact finA X2 hx hlk rfl hret rfl rfl (hb hby d12_58) (by decide) (by decide) ⟨b1, k1, rfl, sz_b1, NN, KK, hB⟩
theorem d14_0 : decode jdk_52_method_15_code 0 = .ok (.iload_n 1, 1) := by decide +kernel
theorem d14_1 : decode jdk_52_method_15_code 1 = .ok (.aload_n 0, 1) := by decide +kernel
theorem d14_2 : decode jdk_52_method_15_code 2 = .ok (.arraylength, 1) := by decide +kernel
theorem d14_3 : decode jdk_52_method_15_code 3 = .ok (.isub, 1) := by decide +kernel
theorem d14_4 : decode jdk_52_method_15_code 4 = .ok (.bipush 31, 2) := by decide +kernel
theorem d14_6 : decode jdk_52_method_15_code 6 = .ok (.iushr, 1) := by decide +kernel
theorem d14_7 : decode jdk_52_method_15_code 7 = .ok (.i2b, 1) := by decide +kernel
theorem d14_8 : decode jdk_52_method_15_code 8 = .ok (.ireturn, 1) := by decide +kernel
theorem pn_14 : plainFor (⟨"java/lang/StringUTF16", "coderFromArrayLen", "([BI)B"⟩ : MethodName) = true := plainFor_of_name (by show plainName "java/lang/StringUTF16" = true; first | (simp [plainName, overriddenIn]; done) | decide +kernel)
theorem ef_14 (m : MethodId) (a1 : Addr) (p2 : Int32) : entryFrame m #[(.ref a1), (.int p2)] 2 = mkF m 0 #[.val (.ref a1), .val (.int p2)] [] := by first | (simp [entryFrame, mkF, argsToLocals, Value.category]; done) | rfl
set_option maxRecDepth 65536 in
set_option maxHeartbeats 40000000 in
theorem rmCA (l : Launch) (Z : State) (a0 : Array Value) (hw : ∀ d ∈ tables_1, d.before a0 Z = true) (h0 : Heap) (n0 : Nat) (Z0 : n0 ≤ h0.size) (a1 : Addr) (p2 : Int32) (k : ClassId) (vs : List Value) (d : Value) (hV : Arv Z h0 a1 k .byte p2 vs d) : Ctr l Z (⟨"java/lang/StringUTF16", "coderFromArrayLen", "([BI)B"⟩ : MethodName) jdk_52_method_15_code 2 (some .byte) [] ({ frames := 0, cells := 0, slots := 0, locals := 0 } : Room) #[(.ref a1), (.int p2)] h0 (Pure (.int 0) h0) := by
  refine ctr_mk pn_14 (own := "java/lang/StringUTF16") (mn := "coderFromArrayLen") rfl rfl ?_
  intro p e s m below meth c T0 X0 hx hby hml hZ hown hnm hret hlk e0
  refine o_entry (ef_14 m a1 p2) ?_
  refine o_iloadN X0 hx (pc' := 1) (hb hby d14_0) rfl rfl ?_
  refine o_aloadN X0 hx (pc' := 2) (hb hby d14_1) rfl rfl rfl ?_
  refine o_arraylength X0 hx hZ e0 hV (hb hby d14_2) (pc' := 3) rfl ?_
  refine o_isub X0 hx (pc' := 4) (hb hby d14_3) rfl ?_
  rw [show (p2 - p2) = (0 : Int32) from Int32.sub_self _]
  refine o_bipush X0 hx (pc' := 6) (v := (31 : Int32)) (hb hby d14_4) rfl rfl ?_
  refine o_iushr X0 hx (pc' := 7) (hb hby d14_6) rfl ?_
  rw [show (((0 : Int32).toUInt32 >>> ((31 : Int32) &&& 31).toUInt32).toInt32) = (0 : Int32) from by decide +kernel]
  refine o_i2b X0 hx (pc' := 8) (hb hby d14_7) rfl ?_
  rw [show ((0 : Int32).toInt8.toInt32) = (0 : Int32) from by decide +kernel]
  exact finN X0 hx hlk (t := .byte) hret (by simp) (hb hby d14_8) (by decide) (by decide) ⟨rfl, rfl, e0⟩
theorem pd_1 : parseMethodDescriptor "([CII)[B" = some ⟨[(.array .char), .int, .int], some (.array .byte)⟩ := by decide +kernel
theorem pd_2 : parseMethodDescriptor "([BI)B" = some ⟨[(.array .byte), .int], some .byte⟩ := by decide +kernel
theorem d3_0 : decode jdk_42_method_149_code 0 = .ok (.aload_n 0, 1) := by decide +kernel
theorem d3_1 : decode jdk_42_method_149_code 1 = .ok (.invokespecial 1, 3) := by decide +kernel
theorem d3_4 : decode jdk_42_method_149_code 4 = .ok (.iload_n 3, 1) := by decide +kernel
theorem d3_5 : decode jdk_42_method_149_code 5 = .ok (.ifCond .ne 22, 3) := by decide +kernel
theorem d3_27 : decode jdk_42_method_149_code 27 = .ok (.getstatic 38, 3) := by decide +kernel
theorem d3_30 : decode jdk_42_method_149_code 30 = .ok (.ifCond .eq 28, 3) := by decide +kernel
theorem d3_33 : decode jdk_42_method_149_code 33 = .ok (.aload_n 1, 1) := by decide +kernel
theorem d3_34 : decode jdk_42_method_149_code 34 = .ok (.iload_n 2, 1) := by decide +kernel
theorem d3_35 : decode jdk_42_method_149_code 35 = .ok (.iload_n 3, 1) := by decide +kernel
theorem d3_36 : decode jdk_42_method_149_code 36 = .ok (.invokestatic 177, 3) := by decide +kernel
theorem d3_39 : decode jdk_42_method_149_code 39 = .ok (.astore 5, 2) := by decide +kernel
theorem d3_41 : decode jdk_42_method_149_code 41 = .ok (.aload_n 0, 1) := by decide +kernel
theorem d3_42 : decode jdk_42_method_149_code 42 = .ok (.aload 5, 2) := by decide +kernel
theorem d3_44 : decode jdk_42_method_149_code 44 = .ok (.iload_n 3, 1) := by decide +kernel
theorem d3_45 : decode jdk_42_method_149_code 45 = .ok (.invokestatic 47, 3) := by decide +kernel
theorem d3_48 : decode jdk_42_method_149_code 48 = .ok (.putfield 15, 3) := by decide +kernel
theorem d3_51 : decode jdk_42_method_149_code 51 = .ok (.aload_n 0, 1) := by decide +kernel
theorem d3_52 : decode jdk_42_method_149_code 52 = .ok (.aload 5, 2) := by decide +kernel
theorem d3_54 : decode jdk_42_method_149_code 54 = .ok (.putfield 9, 3) := by decide +kernel
theorem d3_57 : decode jdk_42_method_149_code 57 = .ok (.return_, 1) := by decide +kernel
theorem pn_3 : plainFor (⟨"java/lang/String", "<init>", "([CIILjava/lang/Void;)V"⟩ : MethodName) = true := plainFor_of_name (by show plainName "java/lang/String" = true; first | (simp [plainName, overriddenIn]; done) | decide +kernel)
theorem ef_3_a1_a2_0_p4_null (m : MethodId) (a1 : Addr) (a2 : Addr) (p4 : Int32) : entryFrame m #[(.ref a1), (.ref a2), (.int (0 : Int32)), (.int p4), .null] 6 = mkF m 0 #[.val (.ref a1), .val (.ref a2), .val (.int (0 : Int32)), .val (.int p4), .val .null, .unset] [] := by first | (simp [entryFrame, mkF, argsToLocals, Value.category]; done) | rfl
set_option maxRecDepth 65536 in
set_option maxHeartbeats 40000000 in
theorem rmSI4 (l : Launch) (Z : State) (a0 : Array Value) (hw : ∀ d ∈ tables_1, d.before a0 Z = true) (h0 : Heap) (n0 : Nat) (Z0 : n0 ≤ h0.size) (a1 : Addr) (a2 : Addr) (p4 : Int32) (cs : List Int32) (hc : ∀ c ∈ cs, ¬ 255 < c) (hl : cs.length ≤ 24) (h1 : 0 < cs.length) (hp : p4 = (Int32.ofNat cs.length)) (k : ClassId) (d : Value) (hV : Arv Z h0 a2 k .char (Int32.ofNat cs.length) (iv cs) d) (u : Value) (u2 : Value) (hE : Exa Z h0 a1 "java/lang/String") (hVa : Fld Z h0 a1 "java/lang/String" "value" "[B" u) (hCo : Fld Z h0 a1 "java/lang/String" "coder" "B" u2) (ga : n0 ≤ a1) (ne : a1 ≠ a2) (cs0 : Int32) (S0 : Sta Z Z.heap "java/lang/String" "COMPACT_STRINGS" "Z" (.int cs0)) (hcs : ¬ cs0 = 0) (O : Old Z n0 h0) : Ctr l Z (⟨"java/lang/String", "<init>", "([CIILjava/lang/Void;)V"⟩ : MethodName) jdk_42_method_149_code 6 none [] ({ frames := 2, cells := 1, slots := 24, locals := 35 } : Room) #[(.ref a1), (.ref a2), (.int (0 : Int32)), (.int p4), .null] h0 (fun v h L => v = none ∧ Fr n0 L ∧ Keep h0 h [a1] ∧ Str Z h h.size a1 (cs.map own_b)) := by
  refine ctr_mk pn_3 (own := "java/lang/String") (mn := "<init>") rfl rfl ?_
  intro p e s m below meth c T0 X0 hx hby hml hZ hown hnm hret hlk e0
  refine o_entry (ef_3_a1_a2_0_p4_null m a1 a2 p4) ?_
  subst hp
  have g_a1 := ga
  have ne_a1_a2 := ne
  have NN := Fr.nil n0
  have ZZ := Z0
  have KK := Keep.refl h0 [a1]
  refine o_aloadN X0 hx (pc' := 1) (hb hby d3_0) rfl rfl rfl ?_
  refine o_initO X0 hx hZ hown (hw _ (List.mem_of_getElem? (i := 15) rfl)) (hw _ (List.mem_of_getElem? (i := 16) rfl)) (hw _ (List.mem_of_getElem? (i := 17) rfl)) e0 (by rw [hml]; rfl) (hb hby d3_1) (pc' := 4) rfl (by decide) (W := 0) (Nat.le_of_eq rfl) (by decide) ?_
  intro T1 X1 e1
  refine o_iloadN X1 hx (pc' := 5) (hb hby d3_4) rfl rfl ?_
  refine o_if_ne X1 hx (pc' := 8) (pt := 27) (hb hby d3_5) rfl (by decide) (by decide) (fun _ => ?_) (fun q => absurd q (own_pos (Nat.le_trans hl (by decide)) h1))
  refine o_getstatic X1 hx hZ hown (hw _ (List.mem_of_getElem? (i := 59) rfl)) e1 (S0.ext O.2) (hb hby d3_27) (pc' := 30) rfl ?_
  intro T2 X2 e2
  refine o_if_eq X2 hx (pc' := 33) (pt := 58) (hb hby d3_30) rfl (by decide) (by decide) (fun q => absurd q hcs) (fun _ => ?_)
  refine o_aloadN X2 hx (pc' := 34) (hb hby d3_33) rfl rfl rfl ?_
  refine o_iloadN X2 hx (pc' := 35) (hb hby d3_34) rfl rfl ?_
  refine o_iloadN X2 hx (pc' := 36) (hb hby d3_35) rfl rfl ?_
  refine o_callS X2 hx hZ [(.ref a2), (.int (0 : Int32)), (.int (Int32.ofNat cs.length))] (rmC3 l Z a0 hw h0 n0 ZZ a2 (Int32.ofNat cs.length) cs hc hl rfl k d hV) hown (hw _ (List.mem_of_getElem? (i := 67) rfl)) (hw _ (List.mem_of_getElem? (i := 68) rfl)) (hw _ (List.mem_of_getElem? (i := 69) rfl)) (hw _ (List.mem_of_getElem? (i := 70) rfl)) (by decide) pd_1 e2 (by rw [hml]; rfl) rfl rfl rfl (hb hby d3_36) (pc' := 39) rfl 0 (Nat.le_of_eq rfl) (by decide) (by decide) (by decide) (by decide) ?_
  intro T3 v3 L3 X3 hQ3
  obtain ⟨b, kb, rfl, gb, Nq, Kq, hB⟩ := hQ3
  have lt_a1_b : a1 < b := Nat.lt_of_lt_of_le hE.lt gb
  have ne_a1_b : a1 ≠ b := Nat.ne_of_lt lt_a1_b
  have lt_a2_b : a2 < b := Nat.lt_of_lt_of_le hV.lt gb
  have ne_a2_b : a2 ≠ b := Nat.ne_of_lt lt_a2_b
  have g_b : n0 ≤ b := Nat.le_trans ZZ gb
  have sz_b : h0.size ≤ b := Nat.le_trans KK.1 gb
  have NN := Fr.app NN Nq
  have KK := KK.trans Kq (fun x hx => nomatch hx)
  have ZZ := Nat.le_trans ZZ Kq.1
  have O := O.keep Kq (fun x hx => nomatch hx)
  have hE := hE.keep Kq
  have hVa := hVa.keep Kq (fun z => nomatch z)
  have hCo := hCo.keep Kq (fun z => nomatch z)
  have hV := hV.keep Kq (fun z => nomatch z)
  show Dn p e below _ (T3.setTop (mkF m 39 #[.val (.ref a1), .val (.ref a2), .val (.int (0 : Int32)), .val (.int (Int32.ofNat cs.length)), .val .null, .unset] [(.ref b)]))
  refine o_astore X3 hx (pc' := 41) (Ls' := #[.val (.ref a1), .val (.ref a2), .val (.int (0 : Int32)), .val (.int (Int32.ofNat cs.length)), .val .null, .val (.ref b)]) (hb hby d3_39) rfl rfl rfl ?_
  refine o_aloadN X3 hx (pc' := 42) (hb hby d3_41) rfl rfl rfl ?_
  refine o_aload X3 hx (pc' := 44) (hb hby d3_42) rfl rfl rfl ?_
  refine o_iloadN X3 hx (pc' := 45) (hb hby d3_44) rfl rfl ?_
  have hBl : Arv Z T3.heap b kb .byte (Int32.ofNat cs.length) (iv (cs.map own_b)) (.int 0) := hB
  refine o_callSP X3 hx hZ [(.ref b), (.int (Int32.ofNat cs.length))] (rmCA l Z a0 hw T3.heap n0 ZZ b (Int32.ofNat cs.length) kb _ _ hBl) hown (hw _ (List.mem_of_getElem? (i := 74) rfl)) (hw _ (List.mem_of_getElem? (i := 75) rfl)) (hw _ (List.mem_of_getElem? (i := 69) rfl)) (hw _ (List.mem_of_getElem? (i := 76) rfl)) (by decide) pd_2 rfl (by rw [hml]; rfl) rfl rfl rfl (hb hby d3_45) (pc' := 48) rfl 1 (Nat.le_of_eq rfl) (by decide) (by decide) rfl rfl (by decide) (by decide) ?_
  intro T4 X4 e4
  show Dn p e below _ (T4.setTop (mkF m 48 #[.val (.ref a1), .val (.ref a2), .val (.int (0 : Int32)), .val (.int (Int32.ofNat cs.length)), .val .null, .val (.ref b)] [(.int (0 : Int32)), (.ref a1)]))
  refine o_putfield X4 hx hZ hown (hw _ (List.mem_of_getElem? (i := 25) rfl)) e4 hCo hE (Or.inr ⟨(hw _ (List.mem_of_getElem? (i := 21) rfl)), rfl, hnm⟩) (hw _ (List.mem_of_getElem? (i := 5) rfl)) (ty := .byte) (v' := (.int (0 : Int32))) (by decide) rfl rfl (hb hby d3_48) (pc' := 51) rfl ?_
  intro T5 h5 X5 e5 W5 F5 E5
  have NN := Fr.snoc X5 NN g_a1
  have KK := KK.wr W5 (Or.inl (List.mem_of_getElem? (i := 0) rfl))
  have ZZ := Nat.le_trans ZZ (Keep.of_wr W5).1
  have O := O.wr W5 g_a1
  have hVa := hVa.other W5 (Or.inr (slot_ne (Or.inr (hw _ (List.mem_of_getElem? (i := 20) rfl))) (Or.inr (hw _ (List.mem_of_getElem? (i := 21) rfl))) (by decide) (t := (.array .byte)) (t' := .byte) (by decide) (by decide)))
  have hV := hV.other W5 ne_a1_a2.symm
  have hB := hB.other W5 ne_a1_b.symm
  have hCo := F5
  have hE := E5
  refine o_aloadN X5 hx (pc' := 52) (hb hby d3_51) rfl rfl rfl ?_
  refine o_aload X5 hx (pc' := 54) (hb hby d3_52) rfl rfl rfl ?_
  refine o_putfield X5 hx hZ hown (hw _ (List.mem_of_getElem? (i := 24) rfl)) e5 hVa hE (Or.inr ⟨(hw _ (List.mem_of_getElem? (i := 20) rfl)), rfl, hnm⟩) (hw _ (List.mem_of_getElem? (i := 5) rfl)) (ty := (.array .byte)) (v' := (.ref b)) (by decide) rfl rfl (hb hby d3_54) (pc' := 57) rfl ?_
  intro T6 h6 X6 e6 W6 F6 E6
  have NN := Fr.snoc X6 NN g_a1
  have KK := KK.wr W6 (Or.inl (List.mem_of_getElem? (i := 0) rfl))
  have ZZ := Nat.le_trans ZZ (Keep.of_wr W6).1
  have O := O.wr W6 g_a1
  have hCo := hCo.other W6 (Or.inr (slot_ne (Or.inr (hw _ (List.mem_of_getElem? (i := 21) rfl))) (Or.inr (hw _ (List.mem_of_getElem? (i := 20) rfl))) (by decide) (t := .byte) (t' := (.array .byte)) (by decide) (by decide)))
  have hV := hV.other W6 ne_a1_a2.symm
  have hB := hB.other W6 ne_a1_b.symm
  have hVa := F6
  have hE := E6
  exact finV X6 hx hlk hret (hb hby d3_57) (by decide) (by decide) ⟨rfl, NN, (by rw [e6]; exact KK), (by rw [e6]; exact ⟨b, kb, hE.lt, hB.lt, hE, hVa, hCo, by rw [show (cs.map own_b).length = cs.length from List.length_map ..]; exact hB⟩)⟩
theorem pd_3 : parseMethodDescriptor "([CIILjava/lang/Void;)V" = some ⟨[(.array .char), .int, .int, (.object "java/lang/Void")], none⟩ := by decide +kernel
theorem d2_0 : decode jdk_42_method_3_code 0 = .ok (.aload_n 0, 1) := by decide +kernel
theorem d2_1 : decode jdk_42_method_3_code 1 = .ok (.aload_n 1, 1) := by decide +kernel
theorem d2_2 : decode jdk_42_method_3_code 2 = .ok (.iconst 0, 1) := by decide +kernel
theorem d2_3 : decode jdk_42_method_3_code 3 = .ok (.aload_n 1, 1) := by decide +kernel
theorem d2_4 : decode jdk_42_method_3_code 4 = .ok (.arraylength, 1) := by decide +kernel
theorem d2_5 : decode jdk_42_method_3_code 5 = .ok (.aconst_null, 1) := by decide +kernel
theorem d2_6 : decode jdk_42_method_3_code 6 = .ok (.invokespecial 27, 3) := by decide +kernel
theorem d2_9 : decode jdk_42_method_3_code 9 = .ok (.return_, 1) := by decide +kernel
theorem pn_2 : plainFor (⟨"java/lang/String", "<init>", "([C)V"⟩ : MethodName) = true := plainFor_of_name (by show plainName "java/lang/String" = true; first | (simp [plainName, overriddenIn]; done) | decide +kernel)
theorem ef_2 (m : MethodId) (a1 : Addr) (a2 : Addr) : entryFrame m #[(.ref a1), (.ref a2)] 2 = mkF m 0 #[.val (.ref a1), .val (.ref a2)] [] := by first | (simp [entryFrame, mkF, argsToLocals, Value.category]; done) | rfl
set_option maxRecDepth 65536 in
set_option maxHeartbeats 40000000 in
theorem rmSI2 (l : Launch) (Z : State) (a0 : Array Value) (hw : ∀ d ∈ tables_1, d.before a0 Z = true) (h0 : Heap) (n0 : Nat) (Z0 : n0 ≤ h0.size) (a1 : Addr) (a2 : Addr) (cs : List Int32) (hc : ∀ c ∈ cs, ¬ 255 < c) (hl : cs.length ≤ 24) (h1 : 0 < cs.length) (k : ClassId) (d : Value) (hV : Arv Z h0 a2 k .char (Int32.ofNat cs.length) (iv cs) d) (u : Value) (u2 : Value) (hE : Exa Z h0 a1 "java/lang/String") (hVa : Fld Z h0 a1 "java/lang/String" "value" "[B" u) (hCo : Fld Z h0 a1 "java/lang/String" "coder" "B" u2) (ga : n0 ≤ a1) (ne : a1 ≠ a2) (cs0 : Int32) (S0 : Sta Z Z.heap "java/lang/String" "COMPACT_STRINGS" "Z" (.int cs0)) (hcs : ¬ cs0 = 0) (O : Old Z n0 h0) : Ctr l Z (⟨"java/lang/String", "<init>", "([C)V"⟩ : MethodName) jdk_42_method_3_code 2 none [] ({ frames := 3, cells := 1, slots := 24, locals := 52 } : Room) #[(.ref a1), (.ref a2)] h0 (fun v h L => v = none ∧ Fr n0 L ∧ Keep h0 h [a1] ∧ Str Z h h.size a1 (cs.map own_b)) := by
  refine ctr_mk pn_2 (own := "java/lang/String") (mn := "<init>") rfl rfl ?_
  intro p e s m below meth c T0 X0 hx hby hml hZ hown hnm hret hlk e0
  refine o_entry (ef_2 m a1 a2) ?_
  refine o_aloadN X0 hx (pc' := 1) (hb hby d2_0) rfl rfl rfl ?_
  refine o_aloadN X0 hx (pc' := 2) (hb hby d2_1) rfl rfl rfl ?_
  refine o_iconst X0 hx (pc' := 3) (v := (0 : Int32)) (hb hby d2_2) rfl rfl ?_
  refine o_aloadN X0 hx (pc' := 4) (hb hby d2_3) rfl rfl rfl ?_
  refine o_arraylength X0 hx hZ e0 hV (hb hby d2_4) (pc' := 5) rfl ?_
  refine o_aconstNull X0 hx (pc' := 6) (hb hby d2_5) rfl ?_
  refine o_callI X0 hx hZ a1 [(.ref a2), (.int (0 : Int32)), (.int (Int32.ofNat cs.length)), .null] (rmSI4 l Z a0 hw h0 n0 Z0 a1 a2 (Int32.ofNat cs.length) cs hc hl h1 rfl k d hV u u2 hE hVa hCo ga ne cs0 S0 hcs O) rfl hown (hw _ (List.mem_of_getElem? (i := 11) rfl)) (hw _ (List.mem_of_getElem? (i := 12) rfl)) (hw _ (List.mem_of_getElem? (i := 6) rfl)) (hw _ (List.mem_of_getElem? (i := 14) rfl)) (by decide) pd_3 e0 (by rw [hml]; rfl) rfl rfl rfl (hb hby d2_6) (pc' := 9) rfl 0 (Nat.le_of_eq rfl) (by decide) (by decide) (by decide) (by decide) ?_
  intro T1 v1 L1 X1 hQ1
  obtain ⟨rfl, Nq, Kq, Sq⟩ := hQ1
  show Dn p e below _ (T1.setTop (mkF m 9 #[.val (.ref a1), .val (.ref a2)] []))
  exact finV X1 hx hlk hret (hb hby d2_9) (by decide) (by decide) ⟨rfl, Nq, Kq, Sq⟩
theorem d16_0 : decode jdk_43_method_3_code 0 = .ok (.iload_n 0, 1) := by decide +kernel
theorem d16_1 : decode jdk_43_method_3_code 1 = .ok (.sipush 255, 3) := by decide +kernel
theorem d16_4 : decode jdk_43_method_3_code 4 = .ok (.if_icmp .gt 7, 3) := by decide +kernel
theorem d16_7 : decode jdk_43_method_3_code 7 = .ok (.iconst 1, 1) := by decide +kernel
theorem d16_8 : decode jdk_43_method_3_code 8 = .ok (.goto 4, 3) := by decide +kernel
theorem d16_11 : decode jdk_43_method_3_code 11 = .ok (.iconst 0, 1) := by decide +kernel
theorem d16_12 : decode jdk_43_method_3_code 12 = .ok (.ireturn, 1) := by decide +kernel
theorem pn_16 : plainFor (⟨"java/lang/StringLatin1", "canEncode", "(C)Z"⟩ : MethodName) = true := plainFor_of_name (by show plainName "java/lang/StringLatin1" = true; first | (simp [plainName, overriddenIn]; done) | decide +kernel)
theorem ef_16 (m : MethodId) (p1 : Int32) : entryFrame m #[(.int p1)] 1 = mkF m 0 #[.val (.int p1)] [] := by first | (simp [entryFrame, mkF, argsToLocals, Value.category]; done) | rfl
def F16 (p1 : Int32) : Int32 := 
  if (255 : Int32) < p1 then (0 : Int32)
  else (1 : Int32)
set_option maxRecDepth 65536 in
set_option maxHeartbeats 40000000 in
theorem rm16 (l : Launch) (Z : State) (a0 : Array Value) (hw : ∀ d ∈ tables_1, d.before a0 Z = true) (h0 : Heap) (p1 : Int32) : Ctr l Z (⟨"java/lang/StringLatin1", "canEncode", "(C)Z"⟩ : MethodName) jdk_43_method_3_code 1 (some .boolean) [] ({ frames := 0, cells := 0, slots := 0, locals := 0 } : Room) #[(.int p1)] h0 (Pure (.int (F16 p1)) h0) := by
  refine ctr_mk pn_16 (own := "java/lang/StringLatin1") (mn := "canEncode") rfl rfl ?_
  intro p e s m below meth c T0 X0 hx hby hml hZ hown hnm hret hlk e0
  refine o_entry (ef_16 m p1) ?_
  refine o_iloadN X0 hx (pc' := 1) (hb hby d16_0) rfl rfl ?_
  refine o_sipush X0 hx (pc' := 4) (v := (255 : Int32)) (hb hby d16_1) rfl rfl ?_
  refine o_icmp_gt X0 hx (pc' := 7) (pt := 11) (hb hby d16_4) rfl (by decide) (by decide) (fun hc4 => ?_) (fun hc4 => ?_)
  · skip
    refine o_iconst X0 hx (pc' := 12) (v := (0 : Int32)) (hb hby d16_11) rfl rfl ?_
    exact finN X0 hx hlk (t := .boolean) hret (by simp) (hb hby d16_12) (by decide) (by decide) ⟨by show some (Value.int _) = some (Value.int (F16 p1)); unfold F16; rw [if_pos hc4]; rfl, rfl, e0⟩
  · skip
    refine o_iconst X0 hx (pc' := 8) (v := (1 : Int32)) (hb hby d16_7) rfl rfl ?_
    refine o_goto X0 hx (pc' := 12) (hb hby d16_8) (by decide) (by decide) ?_
    exact finN X0 hx hlk (t := .boolean) hret (by simp) (hb hby d16_12) (by decide) (by decide) ⟨by show some (Value.int _) = some (Value.int (F16 p1)); unfold F16; rw [if_neg hc4]; rfl, rfl, e0⟩
theorem d17_0 : decode jdk_43_method_46_code 0 = .ok (.iconst 1, 1) := by decide +kernel
theorem d17_1 : decode jdk_43_method_46_code 1 = .ok (.newarray .byte, 2) := by decide +kernel
theorem d17_3 : decode jdk_43_method_46_code 3 = .ok (.dup, 1) := by decide +kernel
theorem d17_4 : decode jdk_43_method_46_code 4 = .ok (.iconst 0, 1) := by decide +kernel
theorem d17_5 : decode jdk_43_method_46_code 5 = .ok (.iload_n 0, 1) := by decide +kernel
theorem d17_6 : decode jdk_43_method_46_code 6 = .ok (.i2b, 1) := by decide +kernel
theorem d17_7 : decode jdk_43_method_46_code 7 = .ok (.bastore, 1) := by decide +kernel
theorem d17_8 : decode jdk_43_method_46_code 8 = .ok (.areturn, 1) := by decide +kernel
theorem pn_17 : plainFor (⟨"java/lang/StringLatin1", "toBytes", "(C)[B"⟩ : MethodName) = true := plainFor_of_name (by show plainName "java/lang/StringLatin1" = true; first | (simp [plainName, overriddenIn]; done) | decide +kernel)
theorem ef_17 (m : MethodId) (p1 : Int32) : entryFrame m #[(.int p1)] 1 = mkF m 0 #[.val (.int p1)] [] := by first | (simp [entryFrame, mkF, argsToLocals, Value.category]; done) | rfl
set_option maxRecDepth 65536 in
set_option maxHeartbeats 40000000 in
theorem rmTB (l : Launch) (Z : State) (a0 : Array Value) (hw : ∀ d ∈ tables_1, d.before a0 Z = true) (h0 : Heap) (n0 : Nat) (Z0 : n0 ≤ h0.size) (p1 : Int32)  : Ctr l Z (⟨"java/lang/StringLatin1", "toBytes", "(C)[B"⟩ : MethodName) jdk_43_method_46_code 1 (some (.array .byte)) [] ({ frames := 0, cells := 1, slots := 1, locals := 0 } : Room) #[(.int p1)] h0 (fun v h L => ∃ (b : Addr) (kb : ClassId), v = some (.ref b) ∧ h0.size ≤ b ∧ Fr n0 L ∧ Keep h0 h [] ∧ Arv Z h b kb .byte 1 (iv [own_b p1]) (.int 0)) := by
  refine ctr_mk pn_17 (own := "java/lang/StringLatin1") (mn := "toBytes") rfl rfl ?_
  intro p e s m below meth c T0 X0 hx hby hml hZ hown hnm hret hlk e0
  refine o_entry (ef_17 m p1) ?_
  have NN := Fr.nil n0
  have ZZ := Z0
  have KK := Keep.refl h0 []
  refine o_iconst X0 hx (pc' := 1) (v := (1 : Int32)) (hb hby d17_0) rfl rfl ?_
  refine o_newarray X0 hx hZ e0 (hw _ (List.mem_of_getElem? (i := 19) rfl)) (hb hby d17_1) (pc' := 3) rfl (by decide) 1 (by decide) (by decide) (by decide) (by decide) ?_
  intro T1 h1 b1 k1 g1 X1 e1 E1 V1
  have g_b1 : n0 ≤ b1 := Nat.le_trans ZZ (Nat.le_of_eq g1.symm)
  have sz_b1 : h0.size ≤ b1 := Nat.le_trans KK.1 (Nat.le_of_eq g1.symm)
  have KK := KK.ext E1
  have ZZ := Nat.le_trans ZZ E1.1
  have hB : Arv Z h1 b1 k1 .byte (1 : Int32) [.int 0] (.int 0) := V1.pad (pad_rep [] _ 1)
  refine o_dup X1 hx (pc' := 4) (hb hby d17_3) rfl rfl ?_
  refine o_iconst X1 hx (pc' := 5) (v := (0 : Int32)) (hb hby d17_4) rfl rfl ?_
  refine o_iloadN X1 hx (pc' := 6) (hb hby d17_5) rfl rfl ?_
  refine o_i2b X1 hx (pc' := 7) (hb hby d17_6) rfl ?_
  refine o_bastore X1 hx hZ e1 hB (by decide) 0 rfl (Nat.le_of_ble_eq_true rfl) (hb hby d17_7) (pc' := 8) rfl ?_
  intro T2 h2 X2 e2 W2 V2
  have NN := Fr.snoc X2 NN g_b1
  have KK := KK.wr W2 (Or.inr sz_b1)
  have ZZ := Nat.le_trans ZZ (Keep.of_wr W2).1
  have hB : Arv Z h2 b1 k1 .byte 1 (iv [own_b p1]) (.int 0) := V2
  exact finA X2 hx hlk rfl hret rfl rfl (hb hby d17_8) (by decide) (by decide) ⟨b1, k1, rfl, sz_b1, NN, (by rw [e2]; exact KK), (by rw [e2]; exact hB)⟩
theorem d18_0 : decode jdk_42_method_151_code 0 = .ok (.aload_n 0, 1) := by decide +kernel
theorem d18_1 : decode jdk_42_method_151_code 1 = .ok (.invokespecial 1, 3) := by decide +kernel
theorem d18_4 : decode jdk_42_method_151_code 4 = .ok (.aload_n 0, 1) := by decide +kernel
theorem d18_5 : decode jdk_42_method_151_code 5 = .ok (.aload_n 1, 1) := by decide +kernel
theorem d18_6 : decode jdk_42_method_151_code 6 = .ok (.putfield 9, 3) := by decide +kernel
theorem d18_9 : decode jdk_42_method_151_code 9 = .ok (.aload_n 0, 1) := by decide +kernel
theorem d18_10 : decode jdk_42_method_151_code 10 = .ok (.iload_n 2, 1) := by decide +kernel
theorem d18_11 : decode jdk_42_method_151_code 11 = .ok (.putfield 15, 3) := by decide +kernel
theorem d18_14 : decode jdk_42_method_151_code 14 = .ok (.return_, 1) := by decide +kernel
theorem pn_18 : plainFor (⟨"java/lang/String", "<init>", "([BB)V"⟩ : MethodName) = true := plainFor_of_name (by show plainName "java/lang/String" = true; first | (simp [plainName, overriddenIn]; done) | decide +kernel)
theorem ef_18_a1_a2_0 (m : MethodId) (a1 : Addr) (a2 : Addr) : entryFrame m #[(.ref a1), (.ref a2), (.int (0 : Int32))] 3 = mkF m 0 #[.val (.ref a1), .val (.ref a2), .val (.int (0 : Int32))] [] := by first | (simp [entryFrame, mkF, argsToLocals, Value.category]; done) | rfl
set_option maxRecDepth 65536 in
set_option maxHeartbeats 40000000 in
theorem rmSB (l : Launch) (Z : State) (a0 : Array Value) (hw : ∀ d ∈ tables_1, d.before a0 Z = true) (h0 : Heap) (n0 : Nat) (Z0 : n0 ≤ h0.size) (a1 : Addr) (a2 : Addr) (u u2 : Value) (hE : Exa Z h0 a1 "java/lang/String") (hVa : Fld Z h0 a1 "java/lang/String" "value" "[B" u) (hCo : Fld Z h0 a1 "java/lang/String" "coder" "B" u2) (ga : n0 ≤ a1) : Ctr l Z (⟨"java/lang/String", "<init>", "([BB)V"⟩ : MethodName) jdk_42_method_151_code 3 none [] ({ frames := 1, cells := 0, slots := 0, locals := 12 } : Room) #[(.ref a1), (.ref a2), (.int (0 : Int32))] h0 (fun v h L => v = none ∧ Fr n0 L ∧ Keep h0 h [a1] ∧ Exa Z h a1 "java/lang/String" ∧ Fld Z h a1 "java/lang/String" "value" "[B" (.ref a2) ∧ Fld Z h a1 "java/lang/String" "coder" "B" (.int 0)) := by
  refine ctr_mk pn_18 (own := "java/lang/String") (mn := "<init>") rfl rfl ?_
  intro p e s m below meth c T0 X0 hx hby hml hZ hown hnm hret hlk e0
  refine o_entry (ef_18_a1_a2_0 m a1 a2) ?_
  have g_a1 := ga
  have NN := Fr.nil n0
  have ZZ := Z0
  have KK := Keep.refl h0 [a1]
  refine o_aloadN X0 hx (pc' := 1) (hb hby d18_0) rfl rfl rfl ?_
  refine o_initO X0 hx hZ hown (hw _ (List.mem_of_getElem? (i := 15) rfl)) (hw _ (List.mem_of_getElem? (i := 16) rfl)) (hw _ (List.mem_of_getElem? (i := 17) rfl)) e0 (by rw [hml]; rfl) (hb hby d18_1) (pc' := 4) rfl (by decide) (W := 0) (Nat.le_of_eq rfl) (by decide) ?_
  intro T1 X1 e1
  refine o_aloadN X1 hx (pc' := 5) (hb hby d18_4) rfl rfl rfl ?_
  refine o_aloadN X1 hx (pc' := 6) (hb hby d18_5) rfl rfl rfl ?_
  refine o_putfield X1 hx hZ hown (hw _ (List.mem_of_getElem? (i := 24) rfl)) e1 hVa hE (Or.inr ⟨(hw _ (List.mem_of_getElem? (i := 20) rfl)), rfl, hnm⟩) (hw _ (List.mem_of_getElem? (i := 5) rfl)) (ty := (.array .byte)) (v' := (.ref a2)) (by decide) rfl rfl (hb hby d18_6) (pc' := 9) rfl ?_
  intro T2 h2 X2 e2 W2 F2 E2
  have NN := Fr.snoc X2 NN g_a1
  have KK := KK.wr W2 (Or.inl (List.mem_of_getElem? (i := 0) rfl))
  have ZZ := Nat.le_trans ZZ (Keep.of_wr W2).1
  have hCo := hCo.other W2 (Or.inr (slot_ne (Or.inr (hw _ (List.mem_of_getElem? (i := 21) rfl))) (Or.inr (hw _ (List.mem_of_getElem? (i := 20) rfl))) (by decide) (t := .byte) (t' := (.array .byte)) (by decide) (by decide)))
  have hVa := F2
  have hE := E2
  refine o_aloadN X2 hx (pc' := 10) (hb hby d18_9) rfl rfl rfl ?_
  refine o_iloadN X2 hx (pc' := 11) (hb hby d18_10) rfl rfl ?_
  refine o_putfield X2 hx hZ hown (hw _ (List.mem_of_getElem? (i := 25) rfl)) e2 hCo hE (Or.inr ⟨(hw _ (List.mem_of_getElem? (i := 21) rfl)), rfl, hnm⟩) (hw _ (List.mem_of_getElem? (i := 5) rfl)) (ty := .byte) (v' := (.int (0 : Int32))) (by decide) rfl rfl (hb hby d18_11) (pc' := 14) rfl ?_
  intro T3 h3 X3 e3 W3 F3 E3
  have NN := Fr.snoc X3 NN g_a1
  have KK := KK.wr W3 (Or.inl (List.mem_of_getElem? (i := 0) rfl))
  have ZZ := Nat.le_trans ZZ (Keep.of_wr W3).1
  have hVa := hVa.other W3 (Or.inr (slot_ne (Or.inr (hw _ (List.mem_of_getElem? (i := 20) rfl))) (Or.inr (hw _ (List.mem_of_getElem? (i := 21) rfl))) (by decide) (t := (.array .byte)) (t' := .byte) (by decide) (by decide)))
  have hCo := F3
  have hE := E3
  exact finV X3 hx hlk hret (hb hby d18_14) (by decide) (by decide) ⟨rfl, NN, (by rw [e3]; exact KK), (by rw [e3]; exact hE), (by rw [e3]; exact hVa), (by rw [e3]; exact hCo)⟩
theorem pd_4 : parseMethodDescriptor "(C)Z" = some ⟨[.char], some .boolean⟩ := by decide +kernel
theorem pd_5 : parseMethodDescriptor "(C)[B" = some ⟨[.char], some (.array .byte)⟩ := by decide +kernel
theorem pd_6 : parseMethodDescriptor "([BB)V" = some ⟨[(.array .byte), .byte], none⟩ := by decide +kernel
theorem d15_0 : decode jdk_42_method_139_code 0 = .ok (.getstatic 38, 3) := by decide +kernel
theorem d15_3 : decode jdk_42_method_139_code 3 = .ok (.ifCond .eq 23, 3) := by decide +kernel
theorem d15_6 : decode jdk_42_method_139_code 6 = .ok (.iload_n 0, 1) := by decide +kernel
theorem d15_7 : decode jdk_42_method_139_code 7 = .ok (.invokestatic 1015, 3) := by decide +kernel
theorem d15_10 : decode jdk_42_method_139_code 10 = .ok (.ifCond .eq 16, 3) := by decide +kernel
theorem d15_13 : decode jdk_42_method_139_code 13 = .ok (.new 10, 3) := by decide +kernel
theorem d15_16 : decode jdk_42_method_139_code 16 = .ok (.dup, 1) := by decide +kernel
theorem d15_17 : decode jdk_42_method_139_code 17 = .ok (.iload_n 0, 1) := by decide +kernel
theorem d15_18 : decode jdk_42_method_139_code 18 = .ok (.invokestatic 1018, 3) := by decide +kernel
theorem d15_21 : decode jdk_42_method_139_code 21 = .ok (.iconst 0, 1) := by decide +kernel
theorem d15_22 : decode jdk_42_method_139_code 22 = .ok (.invokespecial 209, 3) := by decide +kernel
theorem d15_25 : decode jdk_42_method_139_code 25 = .ok (.areturn, 1) := by decide +kernel
theorem pn_15 : plainFor (⟨"java/lang/String", "valueOf", "(C)Ljava/lang/String;"⟩ : MethodName) = true := plainFor_of_name (by show plainName "java/lang/String" = true; first | (simp [plainName, overriddenIn]; done) | decide +kernel)
theorem ef_15 (m : MethodId) (p1 : Int32) : entryFrame m #[(.int p1)] 1 = mkF m 0 #[.val (.int p1)] [] := by first | (simp [entryFrame, mkF, argsToLocals, Value.category]; done) | rfl
set_option maxRecDepth 65536 in
set_option maxHeartbeats 40000000 in
theorem rmVO (l : Launch) (Z : State) (a0 : Array Value) (hw : ∀ d ∈ tables_1, d.before a0 Z = true) (h0 : Heap) (n0 : Nat) (Z0 : n0 ≤ h0.size) (p1 : Int32) (hc : ¬ 255 < p1) (cs0 : Int32) (S0 : Sta Z Z.heap "java/lang/String" "COMPACT_STRINGS" "Z" (.int cs0)) (hcs : ¬ cs0 = 0) (O : Old Z n0 h0) : Ctr l Z (⟨"java/lang/String", "valueOf", "(C)Ljava/lang/String;"⟩ : MethodName) jdk_42_method_139_code 1 (some (.object "java/lang/String")) [] ({ frames := 2, cells := 2, slots := 5, locals := 27 } : Room) #[(.int p1)] h0 (fun v h L => ∃ a : Addr, v = some (.ref a) ∧ h0.size ≤ a ∧ Fr n0 L ∧ Keep h0 h [] ∧ Str Z h h.size a [own_b p1]) := by
  refine ctr_mk pn_15 (own := "java/lang/String") (mn := "valueOf") rfl rfl ?_
  intro p e s m below meth c T0 X0 hx hby hml hZ hown hnm hret hlk e0
  refine o_entry (ef_15 m p1) ?_
  have NN := Fr.nil n0
  have ZZ := Z0
  have KK := Keep.refl h0 []
  refine o_getstatic X0 hx hZ hown (hw _ (List.mem_of_getElem? (i := 59) rfl)) e0 (S0.ext O.2) (hb hby d15_0) (pc' := 3) rfl ?_
  intro T1 X1 e1
  refine o_if_eq X1 hx (pc' := 6) (pt := 26) (hb hby d15_3) rfl (by decide) (by decide) (fun q => absurd q hcs) (fun _ => ?_)
  refine o_iloadN X1 hx (pc' := 7) (hb hby d15_6) rfl rfl ?_
  refine o_callSP X1 hx hZ [(.int p1)] (rm16 l Z a0 hw h0 p1) hown (hw _ (List.mem_of_getElem? (i := 80) rfl)) (hw _ (List.mem_of_getElem? (i := 81) rfl)) (hw _ (List.mem_of_getElem? (i := 62) rfl)) (hw _ (List.mem_of_getElem? (i := 82) rfl)) (by decide) pd_4 e1 (by rw [hml]; rfl) rfl rfl rfl (hb hby d15_7) (pc' := 10) rfl 0 (Nat.le_of_eq rfl) (by decide) (by decide) rfl rfl (by decide) (by decide) ?_
  intro T2 X2 e2
  show Dn p e below _ (T2.setTop (mkF m 10 #[.val (.int p1)] [(.int (F16 p1))]))
  refine o_if_eq X2 hx (pc' := 13) (pt := 26) (hb hby d15_10) rfl (by decide) (by decide) (fun q => absurd q (by unfold F16; rw [if_neg hc]; decide)) (fun _ => ?_)
  refine o_new X2 hx hZ hown (hw _ (List.mem_of_getElem? (i := 58) rfl)) (hw _ (List.mem_of_getElem? (i := 5) rfl)) (hw _ (List.mem_of_getElem? (i := 6) rfl)) e2 (hb hby d15_13) (pc' := 16) rfl (by decide) (by decide) ?_
  intro T3 h3 b3 g3 X3 e3 E3 A3 D3
  have g_b3 : n0 ≤ b3 := Nat.le_trans ZZ (Nat.le_of_eq g3.symm)
  have sz_b3 : h0.size ≤ b3 := Nat.le_trans KK.1 (Nat.le_of_eq g3.symm)
  have KK := KK.ext E3
  have ZZ := Nat.le_trans ZZ E3.1
  have O := O.ext E3
  have hE := A3
  have hVa : Fld Z h3 b3 "java/lang/String" "value" "[B" .null := D3 (Or.inr (hw _ (List.mem_of_getElem? (i := 20) rfl))) (ty := (.array .byte)) (by decide)
  have hCo : Fld Z h3 b3 "java/lang/String" "coder" "B" (.int 0) := D3 (Or.inr (hw _ (List.mem_of_getElem? (i := 21) rfl))) (ty := .byte) (by decide)
  refine o_dup X3 hx (pc' := 17) (hb hby d15_16) rfl rfl ?_
  refine o_iloadN X3 hx (pc' := 18) (hb hby d15_17) rfl rfl ?_
  refine o_callS X3 hx hZ [(.int p1)] (rmTB l Z a0 hw h3 n0 ZZ p1) hown (hw _ (List.mem_of_getElem? (i := 83) rfl)) (hw _ (List.mem_of_getElem? (i := 84) rfl)) (hw _ (List.mem_of_getElem? (i := 62) rfl)) (hw _ (List.mem_of_getElem? (i := 85) rfl)) (by decide) pd_5 e3 (by rw [hml]; rfl) rfl rfl rfl (hb hby d15_18) (pc' := 21) rfl 2 (Nat.le_of_eq rfl) (by decide) (by decide) (by decide) (by decide) ?_
  intro T4 v4 L4 X4 hQ4
  obtain ⟨b, kb, rfl, gb, Nq, Kq, hB⟩ := hQ4
  have lt_b3_b : b3 < b := Nat.lt_of_lt_of_le hVa.lt gb
  have ne_b3_b : b3 ≠ b := Nat.ne_of_lt lt_b3_b
  have g_b : n0 ≤ b := Nat.le_trans ZZ gb
  have sz_b : h0.size ≤ b := Nat.le_trans KK.1 gb
  have NN := Fr.app NN Nq
  have KK := KK.trans Kq (fun x hx => nomatch hx)
  have ZZ := Nat.le_trans ZZ Kq.1
  have O := O.keep Kq (fun x hx => nomatch hx)
  have hVa := hVa.keep Kq (fun z => nomatch z)
  have hCo := hCo.keep Kq (fun z => nomatch z)
  have hE := hE.keep Kq
  show Dn p e below _ (T4.setTop (mkF m 21 #[.val (.int p1)] [(.ref b), (.ref b3), (.ref b3)]))
  refine o_iconst X4 hx (pc' := 22) (v := (0 : Int32)) (hb hby d15_21) rfl rfl ?_
  refine o_callI X4 hx hZ b3 [(.ref b), (.int (0 : Int32))] (rmSB l Z a0 hw T4.heap n0 ZZ b3 b _ _ hE hVa hCo g_b3) rfl hown (hw _ (List.mem_of_getElem? (i := 86) rfl)) (hw _ (List.mem_of_getElem? (i := 87) rfl)) (hw _ (List.mem_of_getElem? (i := 6) rfl)) (hw _ (List.mem_of_getElem? (i := 88) rfl)) (by decide) pd_6 rfl (by rw [hml]; rfl) rfl rfl rfl (hb hby d15_22) (pc' := 25) rfl 1 (Nat.le_of_eq rfl) (by decide) (by decide) (by decide) (by decide) ?_
  intro T5 v5 L5 X5 hQ5
  obtain ⟨rfl, Nr, Kr, rE, rV, rC⟩ := hQ5
  have NN := Fr.app NN Nr
  have KK := KK.trans Kr (by intro x hx; simp only [List.mem_cons, List.not_mem_nil, or_false] at hx; subst hx; first | (left; simp; done) | (right; first | exact sz_b3 | exact sz_b))
  have ZZ := Nat.le_trans ZZ Kr.1
  have O := O.keep Kr (by intro x hx; simp only [List.mem_cons, List.not_mem_nil, or_false] at hx; subst hx; exact g_b3)
  have hE := hE.keep Kr
  have hB := hB.keep Kr (by simp only [List.mem_cons, List.not_mem_nil, or_false, not_or]; exact ne_b3_b.symm)
  have hE := rE
  have hVa := rV
  have hCo := rC
  show Dn p e below _ (T5.setTop (mkF m 25 #[.val (.int p1)] [(.ref b3)]))
  exact finA X5 hx hlk rfl hret rfl rfl (hb hby d15_25) (by decide) (by decide) ⟨b3, rfl, sz_b3, NN, KK, ⟨b, kb, hE.lt, hB.lt, hE, hVa, hCo, hB⟩⟩
theorem d10_0 : decode jdk_43_method_13_code 0 = .ok (.aload_n 0, 1) := by decide +kernel
theorem d10_1 : decode jdk_43_method_13_code 1 = .ok (.arraylength, 1) := by decide +kernel
theorem d10_2 : decode jdk_43_method_13_code 2 = .ok (.aload_n 1, 1) := by decide +kernel
theorem d10_3 : decode jdk_43_method_13_code 3 = .ok (.arraylength, 1) := by decide +kernel
theorem d10_4 : decode jdk_43_method_13_code 4 = .ok (.if_icmp .ne 30, 3) := by decide +kernel
theorem d10_7 : decode jdk_43_method_13_code 7 = .ok (.iconst 0, 1) := by decide +kernel
theorem d10_8 : decode jdk_43_method_13_code 8 = .ok (.istore_n 2, 1) := by decide +kernel
theorem d10_9 : decode jdk_43_method_13_code 9 = .ok (.iload_n 2, 1) := by decide +kernel
theorem d10_10 : decode jdk_43_method_13_code 10 = .ok (.aload_n 0, 1) := by decide +kernel
theorem d10_11 : decode jdk_43_method_13_code 11 = .ok (.arraylength, 1) := by decide +kernel
theorem d10_12 : decode jdk_43_method_13_code 12 = .ok (.if_icmp .ge 20, 3) := by decide +kernel
theorem d10_15 : decode jdk_43_method_13_code 15 = .ok (.aload_n 0, 1) := by decide +kernel
theorem d10_16 : decode jdk_43_method_13_code 16 = .ok (.iload_n 2, 1) := by decide +kernel
theorem d10_17 : decode jdk_43_method_13_code 17 = .ok (.baload, 1) := by decide +kernel
theorem d10_18 : decode jdk_43_method_13_code 18 = .ok (.aload_n 1, 1) := by decide +kernel
theorem d10_19 : decode jdk_43_method_13_code 19 = .ok (.iload_n 2, 1) := by decide +kernel
theorem d10_20 : decode jdk_43_method_13_code 20 = .ok (.baload, 1) := by decide +kernel
theorem d10_21 : decode jdk_43_method_13_code 21 = .ok (.if_icmp .eq 5, 3) := by decide +kernel
theorem d10_24 : decode jdk_43_method_13_code 24 = .ok (.iconst 0, 1) := by decide +kernel
theorem d10_25 : decode jdk_43_method_13_code 25 = .ok (.ireturn, 1) := by decide +kernel
theorem d10_26 : decode jdk_43_method_13_code 26 = .ok (.iinc 2 1, 3) := by decide +kernel
theorem d10_29 : decode jdk_43_method_13_code 29 = .ok (.goto (-20), 3) := by decide +kernel
theorem d10_32 : decode jdk_43_method_13_code 32 = .ok (.iconst 1, 1) := by decide +kernel
theorem d10_33 : decode jdk_43_method_13_code 33 = .ok (.ireturn, 1) := by decide +kernel
theorem d10_34 : decode jdk_43_method_13_code 34 = .ok (.iconst 0, 1) := by decide +kernel
theorem d10_35 : decode jdk_43_method_13_code 35 = .ok (.ireturn, 1) := by decide +kernel
theorem pn_10 : plainFor (⟨"java/lang/StringLatin1", "equals", "([B[B)Z"⟩ : MethodName) = true := plainFor_of_name (by show plainName "java/lang/StringLatin1" = true; first | (simp [plainName, overriddenIn]; done) | decide +kernel)
theorem ef_10 (m : MethodId) (a1 : Addr) (a2 : Addr) : entryFrame m #[(.ref a1), (.ref a2)] 3 = mkF m 0 #[.val (.ref a1), .val (.ref a2), .unset] [] := by first | (simp [entryFrame, mkF, argsToLocals, Value.category]; done) | rfl
set_option maxRecDepth 65536 in
set_option maxHeartbeats 40000000 in
theorem rmLE (l : Launch) (Z : State) (a0 : Array Value) (hw : ∀ d ∈ tables_1, d.before a0 Z = true) (h0 : Heap) (n0 : Nat) (Z0 : n0 ≤ h0.size) (a1 : Addr) (a2 : Addr) (cs ds : List Int32) (hl : cs.length ≤ 24) (hm : ds.length ≤ 24) (k1 k2 : ClassId) (d1 d2 : Value) (hV : Arv Z h0 a1 k1 .byte (Int32.ofNat cs.length) (iv cs) d1) (hW : Arv Z h0 a2 k2 .byte (Int32.ofNat ds.length) (iv ds) d2) : Ctr l Z (⟨"java/lang/StringLatin1", "equals", "([B[B)Z"⟩ : MethodName) jdk_43_method_13_code 3 (some .boolean) [] ({ frames := 0, cells := 0, slots := 0, locals := 0 } : Room) #[(.ref a1), (.ref a2)] h0 (Pure (.int (if cs = ds then 1 else 0)) h0) := by
  refine ctr_mk pn_10 (own := "java/lang/StringLatin1") (mn := "equals") rfl rfl ?_
  intro p e s m below meth c T0 X0 hx hby hml hZ hown hnm hret hlk e0
  refine o_entry (ef_10 m a1 a2) ?_
  refine o_aloadN X0 hx (pc' := 1) (hb hby d10_0) rfl rfl rfl ?_
  refine o_arraylength X0 hx hZ e0 hV (hb hby d10_1) (pc' := 2) rfl ?_
  refine o_aloadN X0 hx (pc' := 3) (hb hby d10_2) rfl rfl rfl ?_
  refine o_arraylength X0 hx hZ e0 hW (hb hby d10_3) (pc' := 4) rfl ?_
  refine o_icmp_ne X0 hx (pc' := 7) (pt := 34) (hb hby d10_4) rfl (by decide) (by decide) (fun hc4 => ?_) (fun hc4 => ?_)
  · skip
    refine o_iconst X0 hx (pc' := 35) (v := (0 : Int32)) (hb hby d10_34) rfl rfl ?_
    exact finN X0 hx hlk (t := .boolean) hret (by simp) (hb hby d10_35) (by decide) (by decide) ⟨by rw [if_neg (fun q => hc4 (by rw [q]))]; rfl, rfl, e0⟩
  · skip
    have hcd : cs.length = ds.length := own_inj (Nat.le_trans hl (by decide)) (Nat.le_trans hm (by decide)) hc4
    refine o_iconst X0 hx (pc' := 8) (v := (0 : Int32)) (hb hby d10_7) rfl rfl ?_
    refine o_istoreN X0 hx (pc' := 9) (Ls' := #[.val (.ref a1), .val (.ref a2), .val (.int (0 : Int32))]) (hb hby d10_8) rfl rfl ?_
    have loop : ∀ r i, i + r = cs.length → cs.take i = ds.take i → Dn p e below (PQ below s (Pure (.int (if cs = ds then 1 else 0)) h0) 0 0) (T0.setTop (mkF m 9 #[.val (.ref a1), .val (.ref a2), .val (.int (Int32.ofNat i))] [])) := by
      intro r
      induction r with
      | zero =>
        intro i hi ht
        obtain rfl : i = cs.length := hi
        have hcd2 : cs = ds := by
          rw [List.take_length] at ht
          rw [hcd, List.take_length] at ht
          exact ht
        refine o_iloadN X0 hx (pc' := 10) (hb hby d10_9) rfl rfl ?_
        refine o_aloadN X0 hx (pc' := 11) (hb hby d10_10) rfl rfl rfl ?_
        refine o_arraylength X0 hx hZ e0 hV (hb hby d10_11) (pc' := 12) rfl ?_
        refine o_icmp_ge X0 hx (pc' := 15) (pt := 32) (hb hby d10_12) rfl (by decide) (by decide) (fun _ => ?_) (fun q => absurd q (fun q => absurd ((own_lt (Nat.le_trans hl (by decide)) (Nat.le_trans hl (by decide))).mp q) (Nat.lt_irrefl _)))
        refine o_iconst X0 hx (pc' := 33) (v := (1 : Int32)) (hb hby d10_32) rfl rfl ?_
        exact finN X0 hx hlk (t := .boolean) hret (by simp) (hb hby d10_33) (by decide) (by decide) ⟨by rw [if_pos hcd2]; rfl, rfl, e0⟩
      | succ r ih =>
        intro i hi ht
        have hi1 : i < cs.length := by omega
        have hi3 : i < ds.length := by omega
        have hi2 : i ≤ 1000 := Nat.le_trans (Nat.le_of_lt hi1) (Nat.le_trans hl (by decide))
        have hlt := (own_lt hi2 (Nat.le_trans hl (by decide))).mpr hi1
        have hlt2 := (own_lt hi2 (Nat.le_trans hm (by decide))).mpr hi3
        refine o_iloadN X0 hx (pc' := 10) (hb hby d10_9) rfl rfl ?_
        refine o_aloadN X0 hx (pc' := 11) (hb hby d10_10) rfl rfl rfl ?_
        refine o_arraylength X0 hx hZ e0 hV (hb hby d10_11) (pc' := 12) rfl ?_
        refine o_icmp_ge X0 hx (pc' := 15) (pt := 32) (hb hby d10_12) rfl (by decide) (by decide) (fun q => absurd hlt q) (fun _ => ?_)
        refine o_aloadN X0 hx (pc' := 16) (hb hby d10_15) rfl rfl rfl ?_
        refine o_iloadN X0 hx (pc' := 17) (hb hby d10_16) rfl rfl ?_
        refine o_baload X0 hx hZ e0 hV ⟨own_nn hi2, hlt⟩ (v := (.int (cs.getD i 0))) (by rw [own_ci hi2]; exact iv_get hi1 _) (hb hby d10_17) (pc' := 18) rfl ?_
        refine o_aloadN X0 hx (pc' := 19) (hb hby d10_18) rfl rfl rfl ?_
        refine o_iloadN X0 hx (pc' := 20) (hb hby d10_19) rfl rfl ?_
        refine o_baload X0 hx hZ e0 hW ⟨own_nn hi2, hlt2⟩ (v := (.int (ds.getD i 0))) (by rw [own_ci hi2]; exact iv_get hi3 _) (hb hby d10_20) (pc' := 21) rfl ?_
        refine o_icmp_eq X0 hx (pc' := 24) (pt := 26) (hb hby d10_21) rfl (by decide) (by decide) (fun hc21 => ?_) (fun hc21 => ?_)
        · skip
          refine o_iinc X0 hx (pc' := 29) (Ls' := #[.val (.ref a1), .val (.ref a2), .val (.int ((Int32.ofNat i) + (1 : Int32)))]) (v := (1 : Int32)) (hb hby d10_26) rfl rfl rfl rfl ?_
          refine o_goto X0 hx (pc' := 9) (hb hby d10_29) (by decide) (by decide) ?_
          rw [own_up i]
          exact ih (i + 1) (by omega) (own_step hi1 hi3 ht hc21)
        · skip
          refine o_iconst X0 hx (pc' := 25) (v := (0 : Int32)) (hb hby d10_24) rfl rfl ?_
          exact finN X0 hx hlk (t := .boolean) hret (by simp) (hb hby d10_25) (by decide) (by decide) ⟨by rw [if_neg (own_nb hcd hc21)]; rfl, rfl, e0⟩
    exact loop cs.length 0 (Nat.zero_add _) rfl
theorem d9_0 : decode jdk_42_method_66_code 0 = .ok (.aload_n 0, 1) := by decide +kernel
theorem d9_1 : decode jdk_42_method_66_code 1 = .ok (.aload_n 1, 1) := by decide +kernel
theorem d9_2 : decode jdk_42_method_66_code 2 = .ok (.if_acmp .ne 5, 3) := by decide +kernel
theorem d9_5 : decode jdk_42_method_66_code 5 = .ok (.iconst 1, 1) := by decide +kernel
theorem d9_6 : decode jdk_42_method_66_code 6 = .ok (.ireturn, 1) := by decide +kernel
theorem pn_9 : plainFor (⟨"java/lang/String", "equals", "(Ljava/lang/Object;)Z"⟩ : MethodName) = true := plainFor_of_name (by show plainName "java/lang/String" = true; first | (simp [plainName, overriddenIn]; done) | decide +kernel)
theorem ef_9_a1_a1 (m : MethodId) (a1 : Addr) (a1 : Addr) : entryFrame m #[(.ref a1), (.ref a1)] 3 = mkF m 0 #[.val (.ref a1), .val (.ref a1), .unset] [] := by first | (simp [entryFrame, mkF, argsToLocals, Value.category]; done) | rfl
set_option maxRecDepth 65536 in
set_option maxHeartbeats 40000000 in
theorem rmSE1 (l : Launch) (Z : State) (a0 : Array Value) (hw : ∀ d ∈ tables_1, d.before a0 Z = true) (h0 : Heap) (n0 : Nat) (Z0 : n0 ≤ h0.size) (a1 : Addr)  : Ctr l Z (⟨"java/lang/String", "equals", "(Ljava/lang/Object;)Z"⟩ : MethodName) jdk_42_method_66_code 3 (some .boolean) [] ({ frames := 0, cells := 0, slots := 0, locals := 0 } : Room) #[(.ref a1), (.ref a1)] h0 (Pure (.int 1) h0) := by
  refine ctr_mk pn_9 (own := "java/lang/String") (mn := "equals") rfl rfl ?_
  intro p e s m below meth c T0 X0 hx hby hml hZ hown hnm hret hlk e0
  refine o_entry (ef_9_a1_a1 m a1 a1) ?_
  refine o_aloadN X0 hx (pc' := 1) (hb hby d9_0) rfl rfl rfl ?_
  refine o_aloadN X0 hx (pc' := 2) (hb hby d9_1) rfl rfl rfl ?_
  refine o_acmp_ne X0 hx (pc' := 5) (pt := 7) (hb hby d9_2) rfl (by decide) (by decide) rfl rfl (fun q => absurd rfl q) (fun _ => ?_)
  refine o_iconst X0 hx (pc' := 6) (v := (1 : Int32)) (hb hby d9_5) rfl rfl ?_
  exact finN X0 hx hlk (t := .boolean) hret (by simp) (hb hby d9_6) (by decide) (by decide) ⟨rfl, rfl, e0⟩
theorem pd_7 : parseMethodDescriptor "([B[B)Z" = some ⟨[(.array .byte), (.array .byte)], some .boolean⟩ := by decide +kernel
theorem d9_7 : decode jdk_42_method_66_code 7 = .ok (.aload_n 1, 1) := by decide +kernel
theorem d9_8 : decode jdk_42_method_66_code 8 = .ok (.instanceof 10, 3) := by decide +kernel
theorem d9_11 : decode jdk_42_method_66_code 11 = .ok (.ifCond .eq 43, 3) := by decide +kernel
theorem d9_14 : decode jdk_42_method_66_code 14 = .ok (.aload_n 1, 1) := by decide +kernel
theorem d9_15 : decode jdk_42_method_66_code 15 = .ok (.checkcast 10, 3) := by decide +kernel
theorem d9_18 : decode jdk_42_method_66_code 18 = .ok (.astore_n 2, 1) := by decide +kernel
theorem d9_19 : decode jdk_42_method_66_code 19 = .ok (.getstatic 38, 3) := by decide +kernel
theorem d9_22 : decode jdk_42_method_66_code 22 = .ok (.ifCond .eq 14, 3) := by decide +kernel
theorem d9_25 : decode jdk_42_method_66_code 25 = .ok (.aload_n 0, 1) := by decide +kernel
theorem d9_26 : decode jdk_42_method_66_code 26 = .ok (.getfield 15, 3) := by decide +kernel
theorem d9_29 : decode jdk_42_method_66_code 29 = .ok (.aload_n 2, 1) := by decide +kernel
theorem d9_30 : decode jdk_42_method_66_code 30 = .ok (.getfield 15, 3) := by decide +kernel
theorem d9_33 : decode jdk_42_method_66_code 33 = .ok (.if_icmp .ne 21, 3) := by decide +kernel
theorem d9_36 : decode jdk_42_method_66_code 36 = .ok (.aload_n 0, 1) := by decide +kernel
theorem d9_37 : decode jdk_42_method_66_code 37 = .ok (.getfield 9, 3) := by decide +kernel
theorem d9_40 : decode jdk_42_method_66_code 40 = .ok (.aload_n 2, 1) := by decide +kernel
theorem d9_41 : decode jdk_42_method_66_code 41 = .ok (.getfield 9, 3) := by decide +kernel
theorem d9_44 : decode jdk_42_method_66_code 44 = .ok (.invokestatic 541, 3) := by decide +kernel
theorem d9_47 : decode jdk_42_method_66_code 47 = .ok (.ifCond .eq 7, 3) := by decide +kernel
theorem d9_50 : decode jdk_42_method_66_code 50 = .ok (.iconst 1, 1) := by decide +kernel
theorem d9_51 : decode jdk_42_method_66_code 51 = .ok (.goto 4, 3) := by decide +kernel
theorem d9_54 : decode jdk_42_method_66_code 54 = .ok (.iconst 0, 1) := by decide +kernel
theorem d9_55 : decode jdk_42_method_66_code 55 = .ok (.ireturn, 1) := by decide +kernel
theorem ef_9 (m : MethodId) (a1 : Addr) (a2 : Addr) : entryFrame m #[(.ref a1), (.ref a2)] 3 = mkF m 0 #[.val (.ref a1), .val (.ref a2), .unset] [] := by first | (simp [entryFrame, mkF, argsToLocals, Value.category]; done) | rfl
set_option maxRecDepth 65536 in
set_option maxHeartbeats 40000000 in
theorem rmSE2 (l : Launch) (Z : State) (a0 : Array Value) (hw : ∀ d ∈ tables_1, d.before a0 Z = true) (h0 : Heap) (n0 : Nat) (Z0 : n0 ≤ h0.size) (a1 : Addr) (a2 : Addr) (cs ds : List Int32) (hl : cs.length ≤ 24) (hm : ds.length ≤ 24) (t1 t2 : Nat) (hS1 : Str Z h0 t1 a1 cs) (hS2 : Str Z h0 t2 a2 ds) (ne : ¬ a1 = a2) (cs0 : Int32) (S0 : Sta Z Z.heap "java/lang/String" "COMPACT_STRINGS" "Z" (.int cs0)) (hcs : ¬ cs0 = 0) (O : Old Z n0 h0) : Ctr l Z (⟨"java/lang/String", "equals", "(Ljava/lang/Object;)Z"⟩ : MethodName) jdk_42_method_66_code 3 (some .boolean) [] ({ frames := 1, cells := 0, slots := 0, locals := 14 } : Room) #[(.ref a1), (.ref a2)] h0 (Pure (.int (if cs = ds then 1 else 0)) h0) := by
  refine ctr_mk pn_9 (own := "java/lang/String") (mn := "equals") rfl rfl ?_
  intro p e s m below meth c T0 X0 hx hby hml hZ hown hnm hret hlk e0
  refine o_entry (ef_9 m a1 a2) ?_
  obtain ⟨b1, k1, -, -, hE1, f1, c1, v1⟩ := hS1
  obtain ⟨b2, k2, -, -, hE2, f2, c2, v2⟩ := hS2
  refine o_aloadN X0 hx (pc' := 1) (hb hby d9_0) rfl rfl rfl ?_
  refine o_aloadN X0 hx (pc' := 2) (hb hby d9_1) rfl rfl rfl ?_
  refine o_acmp_ne X0 hx (pc' := 5) (pt := 7) (hb hby d9_2) rfl (by decide) (by decide) rfl rfl (fun _ => ?_) (fun q => absurd q (fun q => ne (by injection q)))
  refine o_aloadN X0 hx (pc' := 8) (hb hby d9_7) rfl rfl rfl ?_
  obtain ⟨T1, X1, e1, st1⟩ := instY X0 hx hZ hown (hw _ (List.mem_of_getElem? (i := 58) rfl)) e0 (Ins.self hE2) (g := (mkF m 8 #[.val (.ref a1), .val (.ref a2), .unset] [(.ref a2)])) rfl rfl (hb hby d9_8)
  refine go st1 ?_
  show Dn p e below _ (T1.setTop (mkF m 11 #[.val (.ref a1), .val (.ref a2), .unset] [(.int (1 : Int32))]))
  refine o_if_eq X1 hx (pc' := 14) (pt := 54) (hb hby d9_11) rfl (by decide) (by decide) (fun q => absurd q (by decide)) (fun _ => ?_)
  refine o_aloadN X1 hx (pc' := 15) (hb hby d9_14) rfl rfl rfl ?_
  obtain ⟨T2, X2, e2, st2⟩ := castY X1 hx hZ hown (hw _ (List.mem_of_getElem? (i := 58) rfl)) e1 (Ins.self hE2) (g := (mkF m 15 #[.val (.ref a1), .val (.ref a2), .unset] [(.ref a2)])) rfl rfl (hb hby d9_15)
  refine go st2 ?_
  show Dn p e below _ (T2.setTop (mkF m 18 #[.val (.ref a1), .val (.ref a2), .unset] [(.ref a2)]))
  refine o_astoreN X2 hx (pc' := 19) (Ls' := #[.val (.ref a1), .val (.ref a2), .val (.ref a2)]) (hb hby d9_18) rfl rfl rfl ?_
  refine o_getstatic X2 hx hZ hown (hw _ (List.mem_of_getElem? (i := 59) rfl)) e2 (S0.ext O.2) (hb hby d9_19) (pc' := 22) rfl ?_
  intro T3 X3 e3
  refine o_if_eq X3 hx (pc' := 25) (pt := 36) (hb hby d9_22) rfl (by decide) (by decide) (fun q => absurd q hcs) (fun _ => ?_)
  refine o_aloadN X3 hx (pc' := 26) (hb hby d9_25) rfl rfl rfl ?_
  refine o_getfield X3 hx hZ hown (hw _ (List.mem_of_getElem? (i := 25) rfl)) e3 c1 (hb hby d9_26) (pc' := 29) rfl ?_
  intro T4 X4 e4
  refine o_aloadN X4 hx (pc' := 30) (hb hby d9_29) rfl rfl rfl ?_
  refine o_getfield X4 hx hZ hown (hw _ (List.mem_of_getElem? (i := 25) rfl)) e4 c2 (hb hby d9_30) (pc' := 33) rfl ?_
  intro T5 X5 e5
  refine o_icmp_ne X5 hx (pc' := 36) (pt := 54) (hb hby d9_33) rfl (by decide) (by decide) (fun q => absurd (by decide) q) (fun _ => ?_)
  refine o_aloadN X5 hx (pc' := 37) (hb hby d9_36) rfl rfl rfl ?_
  refine o_getfield X5 hx hZ hown (hw _ (List.mem_of_getElem? (i := 24) rfl)) e5 f1 (hb hby d9_37) (pc' := 40) rfl ?_
  intro T6 X6 e6
  refine o_aloadN X6 hx (pc' := 41) (hb hby d9_40) rfl rfl rfl ?_
  refine o_getfield X6 hx hZ hown (hw _ (List.mem_of_getElem? (i := 24) rfl)) e6 f2 (hb hby d9_41) (pc' := 44) rfl ?_
  intro T7 X7 e7
  refine o_callSP X7 hx hZ [(.ref b1), (.ref b2)] (rmLE l Z a0 hw h0 n0 Z0 b1 b2 cs ds hl hm k1 k2 _ _ v1 v2) hown (hw _ (List.mem_of_getElem? (i := 60) rfl)) (hw _ (List.mem_of_getElem? (i := 61) rfl)) (hw _ (List.mem_of_getElem? (i := 62) rfl)) (hw _ (List.mem_of_getElem? (i := 63) rfl)) (by decide) pd_7 e7 (by rw [hml]; rfl) rfl rfl rfl (hb hby d9_44) (pc' := 47) rfl 0 (Nat.le_of_eq rfl) (by decide) (by decide) rfl rfl (by decide) (by decide) ?_
  intro T8 X8 e8
  show Dn p e below _ (T8.setTop (mkF m 47 #[.val (.ref a1), .val (.ref a2), .val (.ref a2)] [(.int (if cs = ds then 1 else 0))]))
  by_cases hq : cs = ds
  · rw [if_pos hq]
    show Dn p e below _ (T8.setTop (mkF m 47 #[.val (.ref a1), .val (.ref a2), .val (.ref a2)] [(.int (1 : Int32))]))
    refine o_if_eq X8 hx (pc' := 50) (pt := 54) (hb hby d9_47) rfl (by decide) (by decide) (fun q => absurd q (by decide)) (fun _ => ?_)
    refine o_iconst X8 hx (pc' := 51) (v := (1 : Int32)) (hb hby d9_50) rfl rfl ?_
    refine o_goto X8 hx (pc' := 55) (hb hby d9_51) (by decide) (by decide) ?_
    exact finN X8 hx hlk (t := .boolean) hret (by simp) (hb hby d9_55) (by decide) (by decide) ⟨rfl, rfl, e8⟩
  · rw [if_neg hq]
    show Dn p e below _ (T8.setTop (mkF m 47 #[.val (.ref a1), .val (.ref a2), .val (.ref a2)] [(.int (0 : Int32))]))
    refine o_if_eq X8 hx (pc' := 50) (pt := 54) (hb hby d9_47) rfl (by decide) (by decide) (fun _ => ?_) (fun q => absurd (by decide) q)
    refine o_iconst X8 hx (pc' := 55) (v := (0 : Int32)) (hb hby d9_54) rfl rfl ?_
    exact finN X8 hx hlk (t := .boolean) hret (by simp) (hb hby d9_55) (by decide) (by decide) ⟨rfl, rfl, e8⟩
theorem d11_0 : decode method_2_code 0 = .ok (.iload_n 0, 1) := by decide +kernel
theorem d11_1 : decode method_2_code 1 = .ok (.bipush 8, 2) := by decide +kernel
theorem d11_3 : decode method_2_code 3 = .ok (.iload_n 1, 1) := by decide +kernel
theorem d11_4 : decode method_2_code 4 = .ok (.imul, 1) := by decide +kernel
theorem d11_5 : decode method_2_code 5 = .ok (.iushr, 1) := by decide +kernel
theorem d11_6 : decode method_2_code 6 = .ok (.sipush 255, 3) := by decide +kernel
theorem d11_9 : decode method_2_code 9 = .ok (.iand, 1) := by decide +kernel
theorem d11_10 : decode method_2_code 10 = .ok (.i2c, 1) := by decide +kernel
theorem d11_11 : decode method_2_code 11 = .ok (.ireturn, 1) := by decide +kernel
theorem pn_11 : plainFor (⟨"com/example/deasil/deasil/NodeEqualsPinLaw", "ch", "(II)C"⟩ : MethodName) = true := plainFor_of_name (by show plainName "com/example/deasil/deasil/NodeEqualsPinLaw" = true; first | (simp [plainName, overriddenIn]; done) | decide +kernel)
theorem ef_11 (m : MethodId) (p1 : Int32) (p2 : Int32) : entryFrame m #[(.int p1), (.int p2)] 2 = mkF m 0 #[.val (.int p1), .val (.int p2)] [] := by first | (simp [entryFrame, mkF, argsToLocals, Value.category]; done) | rfl
def F11 (p1 : Int32) (p2 : Int32) : Int32 := (nar .char ((((p1.toUInt32 >>> (((8 : Int32) * p2) &&& 31).toUInt32).toInt32) &&& (255 : Int32)).toUInt32.toUInt16.toUInt32.toInt32))
set_option maxRecDepth 65536 in
set_option maxHeartbeats 40000000 in
theorem rm11 (l : Launch) (Z : State) (a0 : Array Value) (hw : ∀ d ∈ tables_1, d.before a0 Z = true) (h0 : Heap) (p1 : Int32) (p2 : Int32) : Ctr l Z (⟨"com/example/deasil/deasil/NodeEqualsPinLaw", "ch", "(II)C"⟩ : MethodName) method_2_code 2 (some .char) [] ({ frames := 0, cells := 0, slots := 0, locals := 0 } : Room) #[(.int p1), (.int p2)] h0 (Pure (.int (F11 p1 p2)) h0) := by
  refine ctr_mk pn_11 (own := "com/example/deasil/deasil/NodeEqualsPinLaw") (mn := "ch") rfl rfl ?_
  intro p e s m below meth c T0 X0 hx hby hml hZ hown hnm hret hlk e0
  refine o_entry (ef_11 m p1 p2) ?_
  refine o_iloadN X0 hx (pc' := 1) (hb hby d11_0) rfl rfl ?_
  refine o_bipush X0 hx (pc' := 3) (v := (8 : Int32)) (hb hby d11_1) rfl rfl ?_
  refine o_iloadN X0 hx (pc' := 4) (hb hby d11_3) rfl rfl ?_
  refine o_imul X0 hx (pc' := 5) (hb hby d11_4) rfl ?_
  refine o_iushr X0 hx (pc' := 6) (hb hby d11_5) rfl ?_
  refine o_sipush X0 hx (pc' := 9) (v := (255 : Int32)) (hb hby d11_6) rfl rfl ?_
  refine o_iand X0 hx (pc' := 10) (hb hby d11_9) rfl ?_
  refine o_i2c X0 hx (pc' := 11) (hb hby d11_10) rfl ?_
  exact finN X0 hx hlk (t := .char) hret (by simp) (hb hby d11_11) (by decide) (by decide) ⟨by show some (Value.int _) = some (Value.int (F11 p1 p2)); unfold F11; rfl, rfl, e0⟩
theorem pd_8 : parseMethodDescriptor "(II)C" = some ⟨[.int, .int], some .char⟩ := by decide +kernel
theorem d7_0 : decode method_4_code 0 = .ok (.iload_n 0, 1) := by decide +kernel
theorem d7_1 : decode method_4_code 1 = .ok (.iload_n 2, 1) := by decide +kernel
theorem d7_2 : decode method_4_code 2 = .ok (.if_icmp .eq 5, 3) := by decide +kernel
theorem d7_5 : decode method_4_code 5 = .ok (.iconst 0, 1) := by decide +kernel
theorem d7_6 : decode method_4_code 6 = .ok (.ireturn, 1) := by decide +kernel
theorem d7_7 : decode method_4_code 7 = .ok (.iload_n 0, 1) := by decide +kernel
theorem d7_8 : decode method_4_code 8 = .ok (.iconst 1, 1) := by decide +kernel
theorem d7_9 : decode method_4_code 9 = .ok (.if_icmp .lt 18, 3) := by decide +kernel
theorem d7_12 : decode method_4_code 12 = .ok (.iload_n 1, 1) := by decide +kernel
theorem d7_13 : decode method_4_code 13 = .ok (.iconst 0, 1) := by decide +kernel
theorem d7_14 : decode method_4_code 14 = .ok (.invokestatic 12, 3) := by decide +kernel
theorem d7_17 : decode method_4_code 17 = .ok (.iload_n 3, 1) := by decide +kernel
theorem d7_18 : decode method_4_code 18 = .ok (.iconst 0, 1) := by decide +kernel
theorem d7_19 : decode method_4_code 19 = .ok (.invokestatic 12, 3) := by decide +kernel
theorem d7_22 : decode method_4_code 22 = .ok (.if_icmp .eq 5, 3) := by decide +kernel
theorem d7_25 : decode method_4_code 25 = .ok (.iconst 0, 1) := by decide +kernel
theorem d7_26 : decode method_4_code 26 = .ok (.ireturn, 1) := by decide +kernel
theorem d7_27 : decode method_4_code 27 = .ok (.iload_n 0, 1) := by decide +kernel
theorem d7_28 : decode method_4_code 28 = .ok (.iconst 2, 1) := by decide +kernel
theorem d7_29 : decode method_4_code 29 = .ok (.if_icmp .lt 18, 3) := by decide +kernel
theorem d7_32 : decode method_4_code 32 = .ok (.iload_n 1, 1) := by decide +kernel
theorem d7_33 : decode method_4_code 33 = .ok (.iconst 1, 1) := by decide +kernel
theorem d7_34 : decode method_4_code 34 = .ok (.invokestatic 12, 3) := by decide +kernel
theorem d7_37 : decode method_4_code 37 = .ok (.iload_n 3, 1) := by decide +kernel
theorem d7_38 : decode method_4_code 38 = .ok (.iconst 1, 1) := by decide +kernel
theorem d7_39 : decode method_4_code 39 = .ok (.invokestatic 12, 3) := by decide +kernel
theorem d7_42 : decode method_4_code 42 = .ok (.if_icmp .eq 5, 3) := by decide +kernel
theorem d7_45 : decode method_4_code 45 = .ok (.iconst 0, 1) := by decide +kernel
theorem d7_46 : decode method_4_code 46 = .ok (.ireturn, 1) := by decide +kernel
theorem d7_47 : decode method_4_code 47 = .ok (.iload_n 0, 1) := by decide +kernel
theorem d7_48 : decode method_4_code 48 = .ok (.iconst 3, 1) := by decide +kernel
theorem d7_49 : decode method_4_code 49 = .ok (.if_icmp .lt 18, 3) := by decide +kernel
theorem d7_52 : decode method_4_code 52 = .ok (.iload_n 1, 1) := by decide +kernel
theorem d7_53 : decode method_4_code 53 = .ok (.iconst 2, 1) := by decide +kernel
theorem d7_54 : decode method_4_code 54 = .ok (.invokestatic 12, 3) := by decide +kernel
theorem d7_57 : decode method_4_code 57 = .ok (.iload_n 3, 1) := by decide +kernel
theorem d7_58 : decode method_4_code 58 = .ok (.iconst 2, 1) := by decide +kernel
theorem d7_59 : decode method_4_code 59 = .ok (.invokestatic 12, 3) := by decide +kernel
theorem d7_62 : decode method_4_code 62 = .ok (.if_icmp .eq 5, 3) := by decide +kernel
theorem d7_65 : decode method_4_code 65 = .ok (.iconst 0, 1) := by decide +kernel
theorem d7_66 : decode method_4_code 66 = .ok (.ireturn, 1) := by decide +kernel
theorem d7_67 : decode method_4_code 67 = .ok (.iconst 1, 1) := by decide +kernel
theorem d7_68 : decode method_4_code 68 = .ok (.ireturn, 1) := by decide +kernel
theorem pn_7 : plainFor (⟨"com/example/deasil/deasil/NodeEqualsPinLaw", "sameName", "(IIII)Z"⟩ : MethodName) = true := plainFor_of_name (by show plainName "com/example/deasil/deasil/NodeEqualsPinLaw" = true; first | (simp [plainName, overriddenIn]; done) | decide +kernel)
theorem ef_7 (m : MethodId) (p1 : Int32) (p2 : Int32) (p3 : Int32) (p4 : Int32) : entryFrame m #[(.int p1), (.int p2), (.int p3), (.int p4)] 4 = mkF m 0 #[.val (.int p1), .val (.int p2), .val (.int p3), .val (.int p4)] [] := by first | (simp [entryFrame, mkF, argsToLocals, Value.category]; done) | rfl
def F7 (p1 : Int32) (p2 : Int32) (p3 : Int32) (p4 : Int32) : Int32 := 
  if p1 = p3 then 
    if p1 < (1 : Int32) then 
      if p1 < (2 : Int32) then 
        if p1 < (3 : Int32) then (1 : Int32)
        else 
          if (F11 p2 (2 : Int32)) = (F11 p4 (2 : Int32)) then (1 : Int32)
          else (0 : Int32)
      else 
        if (F11 p2 (1 : Int32)) = (F11 p4 (1 : Int32)) then 
          if p1 < (3 : Int32) then (1 : Int32)
          else 
            if (F11 p2 (2 : Int32)) = (F11 p4 (2 : Int32)) then (1 : Int32)
            else (0 : Int32)
        else (0 : Int32)
    else 
      if (F11 p2 (0 : Int32)) = (F11 p4 (0 : Int32)) then 
        if p1 < (2 : Int32) then 
          if p1 < (3 : Int32) then (1 : Int32)
          else 
            if (F11 p2 (2 : Int32)) = (F11 p4 (2 : Int32)) then (1 : Int32)
            else (0 : Int32)
        else 
          if (F11 p2 (1 : Int32)) = (F11 p4 (1 : Int32)) then 
            if p1 < (3 : Int32) then (1 : Int32)
            else 
              if (F11 p2 (2 : Int32)) = (F11 p4 (2 : Int32)) then (1 : Int32)
              else (0 : Int32)
          else (0 : Int32)
      else (0 : Int32)
  else (0 : Int32)
set_option maxRecDepth 65536 in
set_option maxHeartbeats 40000000 in
theorem rm7 (l : Launch) (Z : State) (a0 : Array Value) (hw : ∀ d ∈ tables_1, d.before a0 Z = true) (h0 : Heap) (p1 : Int32) (p2 : Int32) (p3 : Int32) (p4 : Int32) : Ctr l Z (⟨"com/example/deasil/deasil/NodeEqualsPinLaw", "sameName", "(IIII)Z"⟩ : MethodName) method_4_code 4 (some .boolean) [] ({ frames := 1, cells := 0, slots := 0, locals := 14 } : Room) #[(.int p1), (.int p2), (.int p3), (.int p4)] h0 (Pure (.int (F7 p1 p2 p3 p4)) h0) := by
  refine ctr_mk pn_7 (own := "com/example/deasil/deasil/NodeEqualsPinLaw") (mn := "sameName") rfl rfl ?_
  intro p e s m below meth c T0 X0 hx hby hml hZ hown hnm hret hlk e0
  refine o_entry (ef_7 m p1 p2 p3 p4) ?_
  refine o_iloadN X0 hx (pc' := 1) (hb hby d7_0) rfl rfl ?_
  refine o_iloadN X0 hx (pc' := 2) (hb hby d7_1) rfl rfl ?_
  refine o_icmp_eq X0 hx (pc' := 5) (pt := 7) (hb hby d7_2) rfl (by decide) (by decide) (fun hc2 => ?_) (fun hc2 => ?_)
  · skip
    refine o_iloadN X0 hx (pc' := 8) (hb hby d7_7) rfl rfl ?_
    refine o_iconst X0 hx (pc' := 9) (v := (1 : Int32)) (hb hby d7_8) rfl rfl ?_
    refine o_icmp_lt X0 hx (pc' := 12) (pt := 27) (hb hby d7_9) rfl (by decide) (by decide) (fun hc9 => ?_) (fun hc9 => ?_)
    · skip
      refine o_iloadN X0 hx (pc' := 28) (hb hby d7_27) rfl rfl ?_
      refine o_iconst X0 hx (pc' := 29) (v := (2 : Int32)) (hb hby d7_28) rfl rfl ?_
      refine o_icmp_lt X0 hx (pc' := 32) (pt := 47) (hb hby d7_29) rfl (by decide) (by decide) (fun hc29 => ?_) (fun hc29 => ?_)
      · skip
        refine o_iloadN X0 hx (pc' := 48) (hb hby d7_47) rfl rfl ?_
        refine o_iconst X0 hx (pc' := 49) (v := (3 : Int32)) (hb hby d7_48) rfl rfl ?_
        refine o_icmp_lt X0 hx (pc' := 52) (pt := 67) (hb hby d7_49) rfl (by decide) (by decide) (fun hc49 => ?_) (fun hc49 => ?_)
        · skip
          refine o_iconst X0 hx (pc' := 68) (v := (1 : Int32)) (hb hby d7_67) rfl rfl ?_
          exact finN X0 hx hlk (t := .boolean) hret (by simp) (hb hby d7_68) (by decide) (by decide) ⟨by show some (Value.int _) = some (Value.int (F7 p1 p2 p3 p4)); unfold F7; rw [if_pos hc2, if_pos hc9, if_pos hc29, if_pos hc49]; rfl, rfl, e0⟩
        · skip
          refine o_iloadN X0 hx (pc' := 53) (hb hby d7_52) rfl rfl ?_
          refine o_iconst X0 hx (pc' := 54) (v := (2 : Int32)) (hb hby d7_53) rfl rfl ?_
          refine o_callSP X0 hx hZ [(.int p2), (.int (2 : Int32))] (rm11 l Z a0 hw h0 p2 (2 : Int32)) hown (hw _ (List.mem_of_getElem? (i := 64) rfl)) (hw _ (List.mem_of_getElem? (i := 65) rfl)) (hw _ (List.mem_of_getElem? (i := 2) rfl)) (hw _ (List.mem_of_getElem? (i := 66) rfl)) (by decide) pd_8 e0 (by rw [hml]; rfl) rfl rfl rfl (hb hby d7_54) (pc' := 57) rfl 0 (Nat.le_of_eq rfl) (by decide) (by decide) rfl rfl (by decide) (by decide) ?_
          intro T1 X1 e1
          show Dn p e below _ (T1.setTop (mkF m 57 #[.val (.int p1), .val (.int p2), .val (.int p3), .val (.int p4)] [(.int (F11 p2 (2 : Int32)))]))
          refine o_iloadN X1 hx (pc' := 58) (hb hby d7_57) rfl rfl ?_
          refine o_iconst X1 hx (pc' := 59) (v := (2 : Int32)) (hb hby d7_58) rfl rfl ?_
          refine o_callSP X1 hx hZ [(.int p4), (.int (2 : Int32))] (rm11 l Z a0 hw h0 p4 (2 : Int32)) hown (hw _ (List.mem_of_getElem? (i := 64) rfl)) (hw _ (List.mem_of_getElem? (i := 65) rfl)) (hw _ (List.mem_of_getElem? (i := 2) rfl)) (hw _ (List.mem_of_getElem? (i := 66) rfl)) (by decide) pd_8 e1 (by rw [hml]; rfl) rfl rfl rfl (hb hby d7_59) (pc' := 62) rfl 1 (Nat.le_of_eq rfl) (by decide) (by decide) rfl rfl (by decide) (by decide) ?_
          intro T2 X2 e2
          show Dn p e below _ (T2.setTop (mkF m 62 #[.val (.int p1), .val (.int p2), .val (.int p3), .val (.int p4)] [(.int (F11 p4 (2 : Int32))), (.int (F11 p2 (2 : Int32)))]))
          refine o_icmp_eq X2 hx (pc' := 65) (pt := 67) (hb hby d7_62) rfl (by decide) (by decide) (fun hc62 => ?_) (fun hc62 => ?_)
          · skip
            refine o_iconst X2 hx (pc' := 68) (v := (1 : Int32)) (hb hby d7_67) rfl rfl ?_
            exact finN X2 hx hlk (t := .boolean) hret (by simp) (hb hby d7_68) (by decide) (by decide) ⟨by show some (Value.int _) = some (Value.int (F7 p1 p2 p3 p4)); unfold F7; rw [if_pos hc2, if_pos hc9, if_pos hc29, if_neg hc49, if_pos hc62]; rfl, rfl, e2⟩
          · skip
            refine o_iconst X2 hx (pc' := 66) (v := (0 : Int32)) (hb hby d7_65) rfl rfl ?_
            exact finN X2 hx hlk (t := .boolean) hret (by simp) (hb hby d7_66) (by decide) (by decide) ⟨by show some (Value.int _) = some (Value.int (F7 p1 p2 p3 p4)); unfold F7; rw [if_pos hc2, if_pos hc9, if_pos hc29, if_neg hc49, if_neg hc62]; rfl, rfl, e2⟩
      · skip
        refine o_iloadN X0 hx (pc' := 33) (hb hby d7_32) rfl rfl ?_
        refine o_iconst X0 hx (pc' := 34) (v := (1 : Int32)) (hb hby d7_33) rfl rfl ?_
        refine o_callSP X0 hx hZ [(.int p2), (.int (1 : Int32))] (rm11 l Z a0 hw h0 p2 (1 : Int32)) hown (hw _ (List.mem_of_getElem? (i := 64) rfl)) (hw _ (List.mem_of_getElem? (i := 65) rfl)) (hw _ (List.mem_of_getElem? (i := 2) rfl)) (hw _ (List.mem_of_getElem? (i := 66) rfl)) (by decide) pd_8 e0 (by rw [hml]; rfl) rfl rfl rfl (hb hby d7_34) (pc' := 37) rfl 0 (Nat.le_of_eq rfl) (by decide) (by decide) rfl rfl (by decide) (by decide) ?_
        intro T3 X3 e3
        show Dn p e below _ (T3.setTop (mkF m 37 #[.val (.int p1), .val (.int p2), .val (.int p3), .val (.int p4)] [(.int (F11 p2 (1 : Int32)))]))
        refine o_iloadN X3 hx (pc' := 38) (hb hby d7_37) rfl rfl ?_
        refine o_iconst X3 hx (pc' := 39) (v := (1 : Int32)) (hb hby d7_38) rfl rfl ?_
        refine o_callSP X3 hx hZ [(.int p4), (.int (1 : Int32))] (rm11 l Z a0 hw h0 p4 (1 : Int32)) hown (hw _ (List.mem_of_getElem? (i := 64) rfl)) (hw _ (List.mem_of_getElem? (i := 65) rfl)) (hw _ (List.mem_of_getElem? (i := 2) rfl)) (hw _ (List.mem_of_getElem? (i := 66) rfl)) (by decide) pd_8 e3 (by rw [hml]; rfl) rfl rfl rfl (hb hby d7_39) (pc' := 42) rfl 1 (Nat.le_of_eq rfl) (by decide) (by decide) rfl rfl (by decide) (by decide) ?_
        intro T4 X4 e4
        show Dn p e below _ (T4.setTop (mkF m 42 #[.val (.int p1), .val (.int p2), .val (.int p3), .val (.int p4)] [(.int (F11 p4 (1 : Int32))), (.int (F11 p2 (1 : Int32)))]))
        refine o_icmp_eq X4 hx (pc' := 45) (pt := 47) (hb hby d7_42) rfl (by decide) (by decide) (fun hc42 => ?_) (fun hc42 => ?_)
        · skip
          refine o_iloadN X4 hx (pc' := 48) (hb hby d7_47) rfl rfl ?_
          refine o_iconst X4 hx (pc' := 49) (v := (3 : Int32)) (hb hby d7_48) rfl rfl ?_
          refine o_icmp_lt X4 hx (pc' := 52) (pt := 67) (hb hby d7_49) rfl (by decide) (by decide) (fun hc49 => ?_) (fun hc49 => ?_)
          · skip
            refine o_iconst X4 hx (pc' := 68) (v := (1 : Int32)) (hb hby d7_67) rfl rfl ?_
            exact finN X4 hx hlk (t := .boolean) hret (by simp) (hb hby d7_68) (by decide) (by decide) ⟨by show some (Value.int _) = some (Value.int (F7 p1 p2 p3 p4)); unfold F7; rw [if_pos hc2, if_pos hc9, if_neg hc29, if_pos hc42, if_pos hc49]; rfl, rfl, e4⟩
          · skip
            refine o_iloadN X4 hx (pc' := 53) (hb hby d7_52) rfl rfl ?_
            refine o_iconst X4 hx (pc' := 54) (v := (2 : Int32)) (hb hby d7_53) rfl rfl ?_
            refine o_callSP X4 hx hZ [(.int p2), (.int (2 : Int32))] (rm11 l Z a0 hw h0 p2 (2 : Int32)) hown (hw _ (List.mem_of_getElem? (i := 64) rfl)) (hw _ (List.mem_of_getElem? (i := 65) rfl)) (hw _ (List.mem_of_getElem? (i := 2) rfl)) (hw _ (List.mem_of_getElem? (i := 66) rfl)) (by decide) pd_8 e4 (by rw [hml]; rfl) rfl rfl rfl (hb hby d7_54) (pc' := 57) rfl 0 (Nat.le_of_eq rfl) (by decide) (by decide) rfl rfl (by decide) (by decide) ?_
            intro T5 X5 e5
            show Dn p e below _ (T5.setTop (mkF m 57 #[.val (.int p1), .val (.int p2), .val (.int p3), .val (.int p4)] [(.int (F11 p2 (2 : Int32)))]))
            refine o_iloadN X5 hx (pc' := 58) (hb hby d7_57) rfl rfl ?_
            refine o_iconst X5 hx (pc' := 59) (v := (2 : Int32)) (hb hby d7_58) rfl rfl ?_
            refine o_callSP X5 hx hZ [(.int p4), (.int (2 : Int32))] (rm11 l Z a0 hw h0 p4 (2 : Int32)) hown (hw _ (List.mem_of_getElem? (i := 64) rfl)) (hw _ (List.mem_of_getElem? (i := 65) rfl)) (hw _ (List.mem_of_getElem? (i := 2) rfl)) (hw _ (List.mem_of_getElem? (i := 66) rfl)) (by decide) pd_8 e5 (by rw [hml]; rfl) rfl rfl rfl (hb hby d7_59) (pc' := 62) rfl 1 (Nat.le_of_eq rfl) (by decide) (by decide) rfl rfl (by decide) (by decide) ?_
            intro T6 X6 e6
            show Dn p e below _ (T6.setTop (mkF m 62 #[.val (.int p1), .val (.int p2), .val (.int p3), .val (.int p4)] [(.int (F11 p4 (2 : Int32))), (.int (F11 p2 (2 : Int32)))]))
            refine o_icmp_eq X6 hx (pc' := 65) (pt := 67) (hb hby d7_62) rfl (by decide) (by decide) (fun hc62 => ?_) (fun hc62 => ?_)
            · skip
              refine o_iconst X6 hx (pc' := 68) (v := (1 : Int32)) (hb hby d7_67) rfl rfl ?_
              exact finN X6 hx hlk (t := .boolean) hret (by simp) (hb hby d7_68) (by decide) (by decide) ⟨by show some (Value.int _) = some (Value.int (F7 p1 p2 p3 p4)); unfold F7; rw [if_pos hc2, if_pos hc9, if_neg hc29, if_pos hc42, if_neg hc49, if_pos hc62]; rfl, rfl, e6⟩
            · skip
              refine o_iconst X6 hx (pc' := 66) (v := (0 : Int32)) (hb hby d7_65) rfl rfl ?_
              exact finN X6 hx hlk (t := .boolean) hret (by simp) (hb hby d7_66) (by decide) (by decide) ⟨by show some (Value.int _) = some (Value.int (F7 p1 p2 p3 p4)); unfold F7; rw [if_pos hc2, if_pos hc9, if_neg hc29, if_pos hc42, if_neg hc49, if_neg hc62]; rfl, rfl, e6⟩
        · skip
          refine o_iconst X4 hx (pc' := 46) (v := (0 : Int32)) (hb hby d7_45) rfl rfl ?_
          exact finN X4 hx hlk (t := .boolean) hret (by simp) (hb hby d7_46) (by decide) (by decide) ⟨by show some (Value.int _) = some (Value.int (F7 p1 p2 p3 p4)); unfold F7; rw [if_pos hc2, if_pos hc9, if_neg hc29, if_neg hc42]; rfl, rfl, e4⟩
    · skip
      refine o_iloadN X0 hx (pc' := 13) (hb hby d7_12) rfl rfl ?_
      refine o_iconst X0 hx (pc' := 14) (v := (0 : Int32)) (hb hby d7_13) rfl rfl ?_
      refine o_callSP X0 hx hZ [(.int p2), (.int (0 : Int32))] (rm11 l Z a0 hw h0 p2 (0 : Int32)) hown (hw _ (List.mem_of_getElem? (i := 64) rfl)) (hw _ (List.mem_of_getElem? (i := 65) rfl)) (hw _ (List.mem_of_getElem? (i := 2) rfl)) (hw _ (List.mem_of_getElem? (i := 66) rfl)) (by decide) pd_8 e0 (by rw [hml]; rfl) rfl rfl rfl (hb hby d7_14) (pc' := 17) rfl 0 (Nat.le_of_eq rfl) (by decide) (by decide) rfl rfl (by decide) (by decide) ?_
      intro T7 X7 e7
      show Dn p e below _ (T7.setTop (mkF m 17 #[.val (.int p1), .val (.int p2), .val (.int p3), .val (.int p4)] [(.int (F11 p2 (0 : Int32)))]))
      refine o_iloadN X7 hx (pc' := 18) (hb hby d7_17) rfl rfl ?_
      refine o_iconst X7 hx (pc' := 19) (v := (0 : Int32)) (hb hby d7_18) rfl rfl ?_
      refine o_callSP X7 hx hZ [(.int p4), (.int (0 : Int32))] (rm11 l Z a0 hw h0 p4 (0 : Int32)) hown (hw _ (List.mem_of_getElem? (i := 64) rfl)) (hw _ (List.mem_of_getElem? (i := 65) rfl)) (hw _ (List.mem_of_getElem? (i := 2) rfl)) (hw _ (List.mem_of_getElem? (i := 66) rfl)) (by decide) pd_8 e7 (by rw [hml]; rfl) rfl rfl rfl (hb hby d7_19) (pc' := 22) rfl 1 (Nat.le_of_eq rfl) (by decide) (by decide) rfl rfl (by decide) (by decide) ?_
      intro T8 X8 e8
      show Dn p e below _ (T8.setTop (mkF m 22 #[.val (.int p1), .val (.int p2), .val (.int p3), .val (.int p4)] [(.int (F11 p4 (0 : Int32))), (.int (F11 p2 (0 : Int32)))]))
      refine o_icmp_eq X8 hx (pc' := 25) (pt := 27) (hb hby d7_22) rfl (by decide) (by decide) (fun hc22 => ?_) (fun hc22 => ?_)
      · skip
        refine o_iloadN X8 hx (pc' := 28) (hb hby d7_27) rfl rfl ?_
        refine o_iconst X8 hx (pc' := 29) (v := (2 : Int32)) (hb hby d7_28) rfl rfl ?_
        refine o_icmp_lt X8 hx (pc' := 32) (pt := 47) (hb hby d7_29) rfl (by decide) (by decide) (fun hc29 => ?_) (fun hc29 => ?_)
        · skip
          refine o_iloadN X8 hx (pc' := 48) (hb hby d7_47) rfl rfl ?_
          refine o_iconst X8 hx (pc' := 49) (v := (3 : Int32)) (hb hby d7_48) rfl rfl ?_
          refine o_icmp_lt X8 hx (pc' := 52) (pt := 67) (hb hby d7_49) rfl (by decide) (by decide) (fun hc49 => ?_) (fun hc49 => ?_)
          · skip
            refine o_iconst X8 hx (pc' := 68) (v := (1 : Int32)) (hb hby d7_67) rfl rfl ?_
            exact finN X8 hx hlk (t := .boolean) hret (by simp) (hb hby d7_68) (by decide) (by decide) ⟨by show some (Value.int _) = some (Value.int (F7 p1 p2 p3 p4)); unfold F7; rw [if_pos hc2, if_neg hc9, if_pos hc22, if_pos hc29, if_pos hc49]; rfl, rfl, e8⟩
          · skip
            refine o_iloadN X8 hx (pc' := 53) (hb hby d7_52) rfl rfl ?_
            refine o_iconst X8 hx (pc' := 54) (v := (2 : Int32)) (hb hby d7_53) rfl rfl ?_
            refine o_callSP X8 hx hZ [(.int p2), (.int (2 : Int32))] (rm11 l Z a0 hw h0 p2 (2 : Int32)) hown (hw _ (List.mem_of_getElem? (i := 64) rfl)) (hw _ (List.mem_of_getElem? (i := 65) rfl)) (hw _ (List.mem_of_getElem? (i := 2) rfl)) (hw _ (List.mem_of_getElem? (i := 66) rfl)) (by decide) pd_8 e8 (by rw [hml]; rfl) rfl rfl rfl (hb hby d7_54) (pc' := 57) rfl 0 (Nat.le_of_eq rfl) (by decide) (by decide) rfl rfl (by decide) (by decide) ?_
            intro T9 X9 e9
            show Dn p e below _ (T9.setTop (mkF m 57 #[.val (.int p1), .val (.int p2), .val (.int p3), .val (.int p4)] [(.int (F11 p2 (2 : Int32)))]))
            refine o_iloadN X9 hx (pc' := 58) (hb hby d7_57) rfl rfl ?_
            refine o_iconst X9 hx (pc' := 59) (v := (2 : Int32)) (hb hby d7_58) rfl rfl ?_
            refine o_callSP X9 hx hZ [(.int p4), (.int (2 : Int32))] (rm11 l Z a0 hw h0 p4 (2 : Int32)) hown (hw _ (List.mem_of_getElem? (i := 64) rfl)) (hw _ (List.mem_of_getElem? (i := 65) rfl)) (hw _ (List.mem_of_getElem? (i := 2) rfl)) (hw _ (List.mem_of_getElem? (i := 66) rfl)) (by decide) pd_8 e9 (by rw [hml]; rfl) rfl rfl rfl (hb hby d7_59) (pc' := 62) rfl 1 (Nat.le_of_eq rfl) (by decide) (by decide) rfl rfl (by decide) (by decide) ?_
            intro T10 X10 e10
            show Dn p e below _ (T10.setTop (mkF m 62 #[.val (.int p1), .val (.int p2), .val (.int p3), .val (.int p4)] [(.int (F11 p4 (2 : Int32))), (.int (F11 p2 (2 : Int32)))]))
            refine o_icmp_eq X10 hx (pc' := 65) (pt := 67) (hb hby d7_62) rfl (by decide) (by decide) (fun hc62 => ?_) (fun hc62 => ?_)
            · skip
              refine o_iconst X10 hx (pc' := 68) (v := (1 : Int32)) (hb hby d7_67) rfl rfl ?_
              exact finN X10 hx hlk (t := .boolean) hret (by simp) (hb hby d7_68) (by decide) (by decide) ⟨by show some (Value.int _) = some (Value.int (F7 p1 p2 p3 p4)); unfold F7; rw [if_pos hc2, if_neg hc9, if_pos hc22, if_pos hc29, if_neg hc49, if_pos hc62]; rfl, rfl, e10⟩
            · skip
              refine o_iconst X10 hx (pc' := 66) (v := (0 : Int32)) (hb hby d7_65) rfl rfl ?_
              exact finN X10 hx hlk (t := .boolean) hret (by simp) (hb hby d7_66) (by decide) (by decide) ⟨by show some (Value.int _) = some (Value.int (F7 p1 p2 p3 p4)); unfold F7; rw [if_pos hc2, if_neg hc9, if_pos hc22, if_pos hc29, if_neg hc49, if_neg hc62]; rfl, rfl, e10⟩
        · skip
          refine o_iloadN X8 hx (pc' := 33) (hb hby d7_32) rfl rfl ?_
          refine o_iconst X8 hx (pc' := 34) (v := (1 : Int32)) (hb hby d7_33) rfl rfl ?_
          refine o_callSP X8 hx hZ [(.int p2), (.int (1 : Int32))] (rm11 l Z a0 hw h0 p2 (1 : Int32)) hown (hw _ (List.mem_of_getElem? (i := 64) rfl)) (hw _ (List.mem_of_getElem? (i := 65) rfl)) (hw _ (List.mem_of_getElem? (i := 2) rfl)) (hw _ (List.mem_of_getElem? (i := 66) rfl)) (by decide) pd_8 e8 (by rw [hml]; rfl) rfl rfl rfl (hb hby d7_34) (pc' := 37) rfl 0 (Nat.le_of_eq rfl) (by decide) (by decide) rfl rfl (by decide) (by decide) ?_
          intro T11 X11 e11
          show Dn p e below _ (T11.setTop (mkF m 37 #[.val (.int p1), .val (.int p2), .val (.int p3), .val (.int p4)] [(.int (F11 p2 (1 : Int32)))]))
          refine o_iloadN X11 hx (pc' := 38) (hb hby d7_37) rfl rfl ?_
          refine o_iconst X11 hx (pc' := 39) (v := (1 : Int32)) (hb hby d7_38) rfl rfl ?_
          refine o_callSP X11 hx hZ [(.int p4), (.int (1 : Int32))] (rm11 l Z a0 hw h0 p4 (1 : Int32)) hown (hw _ (List.mem_of_getElem? (i := 64) rfl)) (hw _ (List.mem_of_getElem? (i := 65) rfl)) (hw _ (List.mem_of_getElem? (i := 2) rfl)) (hw _ (List.mem_of_getElem? (i := 66) rfl)) (by decide) pd_8 e11 (by rw [hml]; rfl) rfl rfl rfl (hb hby d7_39) (pc' := 42) rfl 1 (Nat.le_of_eq rfl) (by decide) (by decide) rfl rfl (by decide) (by decide) ?_
          intro T12 X12 e12
          show Dn p e below _ (T12.setTop (mkF m 42 #[.val (.int p1), .val (.int p2), .val (.int p3), .val (.int p4)] [(.int (F11 p4 (1 : Int32))), (.int (F11 p2 (1 : Int32)))]))
          refine o_icmp_eq X12 hx (pc' := 45) (pt := 47) (hb hby d7_42) rfl (by decide) (by decide) (fun hc42 => ?_) (fun hc42 => ?_)
          · skip
            refine o_iloadN X12 hx (pc' := 48) (hb hby d7_47) rfl rfl ?_
            refine o_iconst X12 hx (pc' := 49) (v := (3 : Int32)) (hb hby d7_48) rfl rfl ?_
            refine o_icmp_lt X12 hx (pc' := 52) (pt := 67) (hb hby d7_49) rfl (by decide) (by decide) (fun hc49 => ?_) (fun hc49 => ?_)
            · skip
              refine o_iconst X12 hx (pc' := 68) (v := (1 : Int32)) (hb hby d7_67) rfl rfl ?_
              exact finN X12 hx hlk (t := .boolean) hret (by simp) (hb hby d7_68) (by decide) (by decide) ⟨by show some (Value.int _) = some (Value.int (F7 p1 p2 p3 p4)); unfold F7; rw [if_pos hc2, if_neg hc9, if_pos hc22, if_neg hc29, if_pos hc42, if_pos hc49]; rfl, rfl, e12⟩
            · skip
              refine o_iloadN X12 hx (pc' := 53) (hb hby d7_52) rfl rfl ?_
              refine o_iconst X12 hx (pc' := 54) (v := (2 : Int32)) (hb hby d7_53) rfl rfl ?_
              refine o_callSP X12 hx hZ [(.int p2), (.int (2 : Int32))] (rm11 l Z a0 hw h0 p2 (2 : Int32)) hown (hw _ (List.mem_of_getElem? (i := 64) rfl)) (hw _ (List.mem_of_getElem? (i := 65) rfl)) (hw _ (List.mem_of_getElem? (i := 2) rfl)) (hw _ (List.mem_of_getElem? (i := 66) rfl)) (by decide) pd_8 e12 (by rw [hml]; rfl) rfl rfl rfl (hb hby d7_54) (pc' := 57) rfl 0 (Nat.le_of_eq rfl) (by decide) (by decide) rfl rfl (by decide) (by decide) ?_
              intro T13 X13 e13
              show Dn p e below _ (T13.setTop (mkF m 57 #[.val (.int p1), .val (.int p2), .val (.int p3), .val (.int p4)] [(.int (F11 p2 (2 : Int32)))]))
              refine o_iloadN X13 hx (pc' := 58) (hb hby d7_57) rfl rfl ?_
              refine o_iconst X13 hx (pc' := 59) (v := (2 : Int32)) (hb hby d7_58) rfl rfl ?_
              refine o_callSP X13 hx hZ [(.int p4), (.int (2 : Int32))] (rm11 l Z a0 hw h0 p4 (2 : Int32)) hown (hw _ (List.mem_of_getElem? (i := 64) rfl)) (hw _ (List.mem_of_getElem? (i := 65) rfl)) (hw _ (List.mem_of_getElem? (i := 2) rfl)) (hw _ (List.mem_of_getElem? (i := 66) rfl)) (by decide) pd_8 e13 (by rw [hml]; rfl) rfl rfl rfl (hb hby d7_59) (pc' := 62) rfl 1 (Nat.le_of_eq rfl) (by decide) (by decide) rfl rfl (by decide) (by decide) ?_
              intro T14 X14 e14
              show Dn p e below _ (T14.setTop (mkF m 62 #[.val (.int p1), .val (.int p2), .val (.int p3), .val (.int p4)] [(.int (F11 p4 (2 : Int32))), (.int (F11 p2 (2 : Int32)))]))
              refine o_icmp_eq X14 hx (pc' := 65) (pt := 67) (hb hby d7_62) rfl (by decide) (by decide) (fun hc62 => ?_) (fun hc62 => ?_)
              · skip
                refine o_iconst X14 hx (pc' := 68) (v := (1 : Int32)) (hb hby d7_67) rfl rfl ?_
                exact finN X14 hx hlk (t := .boolean) hret (by simp) (hb hby d7_68) (by decide) (by decide) ⟨by show some (Value.int _) = some (Value.int (F7 p1 p2 p3 p4)); unfold F7; rw [if_pos hc2, if_neg hc9, if_pos hc22, if_neg hc29, if_pos hc42, if_neg hc49, if_pos hc62]; rfl, rfl, e14⟩
              · skip
                refine o_iconst X14 hx (pc' := 66) (v := (0 : Int32)) (hb hby d7_65) rfl rfl ?_
                exact finN X14 hx hlk (t := .boolean) hret (by simp) (hb hby d7_66) (by decide) (by decide) ⟨by show some (Value.int _) = some (Value.int (F7 p1 p2 p3 p4)); unfold F7; rw [if_pos hc2, if_neg hc9, if_pos hc22, if_neg hc29, if_pos hc42, if_neg hc49, if_neg hc62]; rfl, rfl, e14⟩
          · skip
            refine o_iconst X12 hx (pc' := 46) (v := (0 : Int32)) (hb hby d7_45) rfl rfl ?_
            exact finN X12 hx hlk (t := .boolean) hret (by simp) (hb hby d7_46) (by decide) (by decide) ⟨by show some (Value.int _) = some (Value.int (F7 p1 p2 p3 p4)); unfold F7; rw [if_pos hc2, if_neg hc9, if_pos hc22, if_neg hc29, if_neg hc42]; rfl, rfl, e12⟩
      · skip
        refine o_iconst X8 hx (pc' := 26) (v := (0 : Int32)) (hb hby d7_25) rfl rfl ?_
        exact finN X8 hx hlk (t := .boolean) hret (by simp) (hb hby d7_26) (by decide) (by decide) ⟨by show some (Value.int _) = some (Value.int (F7 p1 p2 p3 p4)); unfold F7; rw [if_pos hc2, if_neg hc9, if_neg hc22]; rfl, rfl, e8⟩
  · skip
    refine o_iconst X0 hx (pc' := 6) (v := (0 : Int32)) (hb hby d7_5) rfl rfl ?_
    exact finN X0 hx hlk (t := .boolean) hret (by simp) (hb hby d7_6) (by decide) (by decide) ⟨by show some (Value.int _) = some (Value.int (F7 p1 p2 p3 p4)); unfold F7; rw [if_neg hc2]; rfl, rfl, e0⟩
theorem own_and (y : Int32) : ∃ k : Fin 256, y &&& (255 : Int32) = Int32.ofNat k.val := by
  refine ⟨⟨y.toBitVec.toNat % 256, Nat.mod_lt _ (by decide)⟩, ?_⟩
  apply Int32.toBitVec_inj.mp
  apply BitVec.eq_of_toNat_eq
  have q : (255 : Nat) = 2 ^ 8 - 1 := rfl
  have e : (y &&& (255 : Int32)).toBitVec.toNat = y.toBitVec.toNat % 256 := by
    rw [Int32.toBitVec_and, BitVec.toNat_and]
    show y.toBitVec.toNat &&& 255 = _
    rw [q, Nat.and_two_pow_sub_one_eq_mod]
  rw [e]
  show y.toBitVec.toNat % 256 = (BitVec.ofNat 32 (y.toBitVec.toNat % 256)).toNat
  rw [BitVec.toNat_ofNat, Nat.mod_eq_of_lt (a := y.toBitVec.toNat % 256)]
  omega
theorem own_tab : ∀ k : Fin 256, nar .char ((Int32.ofNat k.val).toUInt32.toUInt16.toUInt32.toInt32) = Int32.ofNat k.val ∧ nar .char (Int32.ofNat k.val) = Int32.ofNat k.val ∧ ¬ 255 < Int32.ofNat k.val ∧ own_b (Int32.ofNat k.val) &&& 255 = Int32.ofNat k.val := by decide +kernel
theorem own_ch (x i : Int32) : ∃ k : Fin 256, F11 x i = Int32.ofNat k.val := by
  obtain ⟨k, hk⟩ := own_and ((x.toUInt32 >>> (((8 : Int32) * i) &&& 31).toUInt32).toInt32)
  refine ⟨k, ?_⟩
  unfold F11
  rw [hk]
  exact (own_tab k).1
theorem own_cle (x i : Int32) : ¬ 255 < F11 x i := by
  obtain ⟨k, hk⟩ := own_ch x i
  rw [hk]; exact (own_tab k).2.2.1
theorem own_nc (x i : Int32) : nar .char (F11 x i) = F11 x i := by
  obtain ⟨k, hk⟩ := own_ch x i
  rw [hk]; exact (own_tab k).2.1
theorem own_bi (x i y j : Int32) : own_b (F11 x i) = own_b (F11 y j) ↔ F11 x i = F11 y j := by
  refine ⟨fun q => ?_, fun q => by rw [q]⟩
  obtain ⟨k, hk⟩ := own_ch x i
  obtain ⟨k', hk'⟩ := own_ch y j
  rw [hk, hk'] at q ⊢
  rw [← (own_tab k).2.2.2, ← (own_tab k').2.2.2, q]
def own_cs : Nat → Int32 → List Int32
  | 0, _ => []
  | 1, x => [F11 x 0]
  | 2, x => [F11 x 0, F11 x 1]
  | _, x => [F11 x 0, F11 x 1, F11 x 2]
def own_bs (n : Nat) (x : Int32) : List Int32 := (own_cs n x).map own_b
theorem own_bl (n : Nat) (x : Int32) : (own_bs n x).length ≤ 24 := by
  match n with
  | 0 => exact Nat.le_of_ble_eq_true rfl
  | 1 => exact Nat.le_of_ble_eq_true rfl
  | 2 => exact Nat.le_of_ble_eq_true rfl
  | n + 3 => exact Nat.le_of_ble_eq_true rfl
theorem own_cc (n : Nat) (x : Int32) : ∀ c ∈ own_cs n x, ¬ 255 < c := by
  intro c hc
  match n with
  | 0 => exact nomatch hc
  | 1 => simp only [own_cs, List.mem_cons, List.not_mem_nil, or_false] at hc; subst hc; exact own_cle _ _
  | 2 => simp only [own_cs, List.mem_cons, List.not_mem_nil, or_false] at hc; rcases hc with rfl | rfl <;> exact own_cle _ _
  | n + 3 => simp only [own_cs, List.mem_cons, List.not_mem_nil, or_false] at hc; rcases hc with rfl | rfl | rfl <;> exact own_cle _ _
/-- the int p is the length n, 0 to 3 -/
def Len (p : Int32) (n : Nat) : Prop := (p = 0 ∧ n = 0) ∨ (p = 1 ∧ n = 1) ∨ (p = 2 ∧ n = 2) ∨ (p = 3 ∧ n = 3)
theorem own_same {p1 p3 : Int32} {n k : Nat} (h1 : Len p1 n) (h3 : Len p3 k) (x y : Int32) : F7 p1 x p3 y = if own_bs n x = own_bs k y then 1 else 0 := by
  rcases h1 with ⟨rfl, rfl⟩ | ⟨rfl, rfl⟩ | ⟨rfl, rfl⟩ | ⟨rfl, rfl⟩ <;> rcases h3 with ⟨rfl, rfl⟩ | ⟨rfl, rfl⟩ | ⟨rfl, rfl⟩ | ⟨rfl, rfl⟩ <;> unfold F7 <;> simp [own_bs, own_cs, own_bi]
  all_goals ((repeat' split) <;> simp_all)
theorem d3_8 : decode jdk_42_method_149_code 8 = .ok (.aload_n 0, 1) := by decide +kernel
theorem d3_9 : decode jdk_42_method_149_code 9 = .ok (.ldc 7, 2) := by decide +kernel
theorem d3_11 : decode jdk_42_method_149_code 11 = .ok (.getfield 9, 3) := by decide +kernel
theorem d3_14 : decode jdk_42_method_149_code 14 = .ok (.putfield 9, 3) := by decide +kernel
theorem d3_17 : decode jdk_42_method_149_code 17 = .ok (.aload_n 0, 1) := by decide +kernel
theorem d3_18 : decode jdk_42_method_149_code 18 = .ok (.ldc 7, 2) := by decide +kernel
theorem d3_20 : decode jdk_42_method_149_code 20 = .ok (.getfield 15, 3) := by decide +kernel
theorem d3_23 : decode jdk_42_method_149_code 23 = .ok (.putfield 15, 3) := by decide +kernel
theorem d3_26 : decode jdk_42_method_149_code 26 = .ok (.return_, 1) := by decide +kernel
theorem ef_3_a1_a2_0_0_null (m : MethodId) (a1 : Addr) (a2 : Addr) : entryFrame m #[(.ref a1), (.ref a2), (.int (0 : Int32)), (.int (0 : Int32)), .null] 6 = mkF m 0 #[.val (.ref a1), .val (.ref a2), .val (.int (0 : Int32)), .val (.int (0 : Int32)), .val .null, .unset] [] := by first | (simp [entryFrame, mkF, argsToLocals, Value.category]; done) | rfl
set_option maxRecDepth 65536 in
set_option maxHeartbeats 40000000 in
theorem rmSZ4 (l : Launch) (Z : State) (a0 : Array Value) (hw : ∀ d ∈ tables_1, d.before a0 Z = true) (h0 : Heap) (n0 : Nat) (Z0 : n0 ≤ h0.size) (a1 : Addr) (a2 : Addr) (hE : Exa Z h0 a1 "java/lang/String") (hVa : Fld Z h0 a1 "java/lang/String" "value" "[B" .null) (hCo : Fld Z h0 a1 "java/lang/String" "coder" "B" (.int 0)) (ga : n0 ≤ a1) : CtrS l Z own_EL (⟨"java/lang/String", "<init>", "([CIILjava/lang/Void;)V"⟩ : MethodName) jdk_42_method_149_code 6 none [] ({ frames := 1, cells := 4, slots := 8, locals := 12 } : Room) #[(.ref a1), (.ref a2), (.int (0 : Int32)), (.int (0 : Int32)), .null] h0 (fun v h L => v = none ∧ Fr n0 L ∧ Keep h0 h [a1] ∧ Str Z h h.size a1 []) := by
  refine ctrS_mk pn_3 (own := "java/lang/String") (mn := "<init>") rfl rfl ?_
  intro p e s m below meth c T0 X0 hx hby hml hZ hown hnm hret hlk e0 SW
  refine o_entry (ef_3_a1_a2_0_0_null m a1 a2) ?_
  have g_a1 := ga
  have NN := Fr.nil n0
  have ZZ := Z0
  have KK := Keep.refl h0 [a1]
  refine o_aloadN X0 hx (pc' := 1) (hb hby d3_0) rfl rfl rfl ?_
  refine o_initO X0 hx hZ hown (hw _ (List.mem_of_getElem? (i := 15) rfl)) (hw _ (List.mem_of_getElem? (i := 16) rfl)) (hw _ (List.mem_of_getElem? (i := 17) rfl)) e0 (by rw [hml]; rfl) (hb hby d3_1) (pc' := 4) rfl (by decide) (W := 0) (Nat.le_of_eq rfl) (by decide) ?_
  intro T1 X1 e1
  refine o_iloadN X1 hx (pc' := 5) (hb hby d3_4) rfl rfl ?_
  refine o_if_ne X1 hx (pc' := 8) (pt := 27) (hb hby d3_5) rfl (by decide) (by decide) (fun q => absurd (by decide) q) (fun _ => ?_)
  refine o_aloadN X1 hx (pc' := 9) (hb hby d3_8) rfl rfl rfl ?_
  refine o_ldcR X1 hx hown (hw _ (List.mem_of_getElem? (i := 18) rfl)) (own_wS hw) e1 SW (own_EW hw) (by decide) (vs := []) (z := (0 : Int32)) ⟨by decide, rfl⟩ (by decide) (by decide) 0 (by decide) (by decide) (by decide) (by decide) (hb hby d3_9) (pc' := 11) rfl ?_
  intro la2 T2 h2 b2 k2 X2 e2 E2 SW hown hC2 lE2 lC2 lV2 lA2 hN2
  have hZ := SW.2.1
  have ZZ := Nat.le_trans ZZ E2.1
  have KK := KK.ext E2
  have hE := hE.ext E2
  have hVa := hVa.ext E2
  have hCo := hCo.ext E2
  have sf := own_safe (EL := own_EL) SW.2.1.alike hE hVa
  have ne_a1_b2 := (hN2 a1 sf).2
  refine o_getfield X2 hx hZ hown (hw _ (List.mem_of_getElem? (i := 24) rfl)) e2 lV2 (hb hby d3_11) (pc' := 14) rfl ?_
  intro T3 X3 e3
  refine o_putfield X3 hx hZ hown (hw _ (List.mem_of_getElem? (i := 24) rfl)) e3 hVa hE (Or.inr ⟨(hw _ (List.mem_of_getElem? (i := 20) rfl)), rfl, hnm⟩) (hw _ (List.mem_of_getElem? (i := 5) rfl)) (ty := (.array .byte)) (v' := (.ref b2)) (by decide) rfl rfl (hb hby d3_14) (pc' := 17) rfl ?_
  intro T4 h4 X4 e4 W4 F4 E4
  have NN := Fr.snoc X4 NN g_a1
  have KK := KK.wr W4 (Or.inl (List.mem_of_getElem? (i := 0) rfl))
  have ZZ := Nat.le_trans ZZ (Keep.of_wr W4).1
  have SWo := SW
  have SW := SW.wr W4 sf
  have hCo := hCo.other W4 (Or.inr (slot_ne (Or.inr (hw _ (List.mem_of_getElem? (i := 21) rfl))) (Or.inr (hw _ (List.mem_of_getElem? (i := 20) rfl))) (by decide) (t := .byte) (t' := (.array .byte)) (by decide) (by decide)))
  have lA2 := lA2.other W4 ne_a1_b2.symm
  have hVa := F4
  have hE := E4
  have sf := Safe.wr W4 sf SWo.chv sf
  have hEl := hE.lt
  refine o_aloadN X4 hx (pc' := 18) (hb hby d3_17) rfl rfl rfl ?_
  refine o_ldcR X4 hx hown (hw _ (List.mem_of_getElem? (i := 18) rfl)) (own_wS hw) e4 SW (own_EW hw) (by decide) (vs := []) (z := (0 : Int32)) ⟨by decide, rfl⟩ (by decide) (by decide) 0 (by decide) (by decide) (by decide) (by decide) (hb hby d3_18) (pc' := 20) rfl ?_
  intro la5 T5 h5 b5 k5 X5 e5 E5 SW hown hC5 lE5 lC5 lV5 lA5 hN5
  have hZ := SW.2.1
  have ZZ := Nat.le_trans ZZ E5.1
  have KK := KK.ext E5
  have hE := hE.ext E5
  have hVa := hVa.ext E5
  have hCo := hCo.ext E5
  have lA2 := lA2.ext E5
  have sf := hC5.safe hEl sf
  refine o_getfield X5 hx hZ hown (hw _ (List.mem_of_getElem? (i := 25) rfl)) e5 lC5 (hb hby d3_20) (pc' := 23) rfl ?_
  intro T6 X6 e6
  refine o_putfield X6 hx hZ hown (hw _ (List.mem_of_getElem? (i := 25) rfl)) e6 hCo hE (Or.inr ⟨(hw _ (List.mem_of_getElem? (i := 21) rfl)), rfl, hnm⟩) (hw _ (List.mem_of_getElem? (i := 5) rfl)) (ty := .byte) (v' := (.int (0 : Int32))) (by decide) rfl rfl (hb hby d3_23) (pc' := 26) rfl ?_
  intro T7 h7 X7 e7 W7 F7 E7
  have NN := Fr.snoc X7 NN g_a1
  have KK := KK.wr W7 (Or.inl (List.mem_of_getElem? (i := 0) rfl))
  have ZZ := Nat.le_trans ZZ (Keep.of_wr W7).1
  have SWo := SW
  have SW := SW.wr W7 sf
  have hVa := hVa.other W7 (Or.inr (slot_ne (Or.inr (hw _ (List.mem_of_getElem? (i := 20) rfl))) (Or.inr (hw _ (List.mem_of_getElem? (i := 21) rfl))) (by decide) (t := (.array .byte)) (t' := .byte) (by decide) (by decide)))
  have lA2 := lA2.other W7 ne_a1_b2.symm
  have hCo := F7
  have hE := E7
  exact finSV X7 hx (own_EW hw) SW e7 hlk hret (hb hby d3_26) (by decide) (by decide) ⟨rfl, NN, KK, b2, k2, hE.lt, lA2.lt, hE, hVa, hCo, lA2⟩
set_option maxRecDepth 65536 in
set_option maxHeartbeats 40000000 in
theorem rmSZ2 (l : Launch) (Z : State) (a0 : Array Value) (hw : ∀ d ∈ tables_1, d.before a0 Z = true) (h0 : Heap) (n0 : Nat) (Z0 : n0 ≤ h0.size) (a1 : Addr) (a2 : Addr) (k : ClassId) (hV : Arv Z h0 a2 k .char 0 [] (.int 0)) (hE : Exa Z h0 a1 "java/lang/String") (hVa : Fld Z h0 a1 "java/lang/String" "value" "[B" .null) (hCo : Fld Z h0 a1 "java/lang/String" "coder" "B" (.int 0)) (ga : n0 ≤ a1) : CtrS l Z own_EL (⟨"java/lang/String", "<init>", "([C)V"⟩ : MethodName) jdk_42_method_3_code 2 none [] ({ frames := 2, cells := 4, slots := 8, locals := 29 } : Room) #[(.ref a1), (.ref a2)] h0 (fun v h L => v = none ∧ Fr n0 L ∧ Keep h0 h [a1] ∧ Str Z h h.size a1 []) := by
  refine ctrS_mk pn_2 (own := "java/lang/String") (mn := "<init>") rfl rfl ?_
  intro p e s m below meth c T0 X0 hx hby hml hZ hown hnm hret hlk e0 SW
  refine o_entry (ef_2 m a1 a2) ?_
  refine o_aloadN X0 hx (pc' := 1) (hb hby d2_0) rfl rfl rfl ?_
  refine o_aloadN X0 hx (pc' := 2) (hb hby d2_1) rfl rfl rfl ?_
  refine o_iconst X0 hx (pc' := 3) (v := (0 : Int32)) (hb hby d2_2) rfl rfl ?_
  refine o_aloadN X0 hx (pc' := 4) (hb hby d2_3) rfl rfl rfl ?_
  refine o_arraylength X0 hx hZ e0 hV (hb hby d2_4) (pc' := 5) rfl ?_
  refine o_aconstNull X0 hx (pc' := 6) (hb hby d2_5) rfl ?_
  refine o_callIS X0 hx (own_EW hw) SW a1 [(.ref a2), (.int (0 : Int32)), (.int (0 : Int32)), .null] (rmSZ4 l Z a0 hw h0 n0 Z0 a1 a2 hE hVa hCo ga) rfl hown (hw _ (List.mem_of_getElem? (i := 11) rfl)) (hw _ (List.mem_of_getElem? (i := 12) rfl)) (hw _ (List.mem_of_getElem? (i := 6) rfl)) (hw _ (List.mem_of_getElem? (i := 14) rfl)) (by decide) pd_3 e0 (by rw [hml]; rfl) rfl rfl rfl (hb hby d2_6) (pc' := 9) rfl 0 (Nat.le_of_eq rfl) (by decide) (by decide) (by decide) (by decide) ?_
  intro T1 v1 L1 X1 hQ1 SW hown hC1
  have hZ := SW.2.1
  obtain ⟨rfl, Nq, Kq, Sq⟩ := hQ1
  show Dn p e below _ (T1.setTop (mkF m 9 #[.val (.ref a1), .val (.ref a2)] []))
  exact finSV X1 hx (own_EW hw) SW rfl hlk hret (hb hby d2_9) (by decide) (by decide) ⟨rfl, Nq, Kq, Sq⟩
theorem pd_9 : parseMethodDescriptor "([C)V" = some ⟨[(.array .char)], none⟩ := by decide +kernel
theorem pd_10 : parseMethodDescriptor "(C)Ljava/lang/String;" = some ⟨[.char], some (.object "java/lang/String")⟩ := by decide +kernel
theorem d1_0 : decode method_3_code 0 = .ok (.iload_n 0, 1) := by decide +kernel
theorem d1_1 : decode method_3_code 1 = .ok (.ifCond .ne 14, 3) := by decide +kernel
theorem d1_4 : decode method_3_code 4 = .ok (.new 7, 3) := by decide +kernel
theorem d1_7 : decode method_3_code 7 = .ok (.dup, 1) := by decide +kernel
theorem d1_8 : decode method_3_code 8 = .ok (.iconst 0, 1) := by decide +kernel
theorem d1_9 : decode method_3_code 9 = .ok (.newarray .char, 2) := by decide +kernel
theorem d1_11 : decode method_3_code 11 = .ok (.invokespecial 9, 3) := by decide +kernel
theorem d1_14 : decode method_3_code 14 = .ok (.areturn, 1) := by decide +kernel
theorem d1_15 : decode method_3_code 15 = .ok (.iload_n 0, 1) := by decide +kernel
theorem d1_16 : decode method_3_code 16 = .ok (.iconst 1, 1) := by decide +kernel
theorem d1_17 : decode method_3_code 17 = .ok (.if_icmp .ne 12, 3) := by decide +kernel
theorem d1_20 : decode method_3_code 20 = .ok (.iload_n 1, 1) := by decide +kernel
theorem d1_21 : decode method_3_code 21 = .ok (.iconst 0, 1) := by decide +kernel
theorem d1_22 : decode method_3_code 22 = .ok (.invokestatic 12, 3) := by decide +kernel
theorem d1_25 : decode method_3_code 25 = .ok (.invokestatic 18, 3) := by decide +kernel
theorem d1_28 : decode method_3_code 28 = .ok (.areturn, 1) := by decide +kernel
theorem d1_29 : decode method_3_code 29 = .ok (.iload_n 0, 1) := by decide +kernel
theorem d1_30 : decode method_3_code 30 = .ok (.iconst 2, 1) := by decide +kernel
theorem d1_31 : decode method_3_code 31 = .ok (.if_icmp .ne 30, 3) := by decide +kernel
theorem d1_34 : decode method_3_code 34 = .ok (.new 7, 3) := by decide +kernel
theorem d1_37 : decode method_3_code 37 = .ok (.dup, 1) := by decide +kernel
theorem d1_38 : decode method_3_code 38 = .ok (.iconst 2, 1) := by decide +kernel
theorem d1_39 : decode method_3_code 39 = .ok (.newarray .char, 2) := by decide +kernel
theorem d1_41 : decode method_3_code 41 = .ok (.dup, 1) := by decide +kernel
theorem d1_42 : decode method_3_code 42 = .ok (.iconst 0, 1) := by decide +kernel
theorem d1_43 : decode method_3_code 43 = .ok (.iload_n 1, 1) := by decide +kernel
theorem d1_44 : decode method_3_code 44 = .ok (.iconst 0, 1) := by decide +kernel
theorem d1_45 : decode method_3_code 45 = .ok (.invokestatic 12, 3) := by decide +kernel
theorem d1_48 : decode method_3_code 48 = .ok (.castore, 1) := by decide +kernel
theorem d1_49 : decode method_3_code 49 = .ok (.dup, 1) := by decide +kernel
theorem d1_50 : decode method_3_code 50 = .ok (.iconst 1, 1) := by decide +kernel
theorem d1_51 : decode method_3_code 51 = .ok (.iload_n 1, 1) := by decide +kernel
theorem d1_52 : decode method_3_code 52 = .ok (.iconst 1, 1) := by decide +kernel
theorem d1_53 : decode method_3_code 53 = .ok (.invokestatic 12, 3) := by decide +kernel
theorem d1_56 : decode method_3_code 56 = .ok (.castore, 1) := by decide +kernel
theorem d1_57 : decode method_3_code 57 = .ok (.invokespecial 9, 3) := by decide +kernel
theorem d1_60 : decode method_3_code 60 = .ok (.areturn, 1) := by decide +kernel
theorem d1_61 : decode method_3_code 61 = .ok (.new 7, 3) := by decide +kernel
theorem d1_64 : decode method_3_code 64 = .ok (.dup, 1) := by decide +kernel
theorem d1_65 : decode method_3_code 65 = .ok (.iconst 3, 1) := by decide +kernel
theorem d1_66 : decode method_3_code 66 = .ok (.newarray .char, 2) := by decide +kernel
theorem d1_68 : decode method_3_code 68 = .ok (.dup, 1) := by decide +kernel
theorem d1_69 : decode method_3_code 69 = .ok (.iconst 0, 1) := by decide +kernel
theorem d1_70 : decode method_3_code 70 = .ok (.iload_n 1, 1) := by decide +kernel
theorem d1_71 : decode method_3_code 71 = .ok (.iconst 0, 1) := by decide +kernel
theorem d1_72 : decode method_3_code 72 = .ok (.invokestatic 12, 3) := by decide +kernel
theorem d1_75 : decode method_3_code 75 = .ok (.castore, 1) := by decide +kernel
theorem d1_76 : decode method_3_code 76 = .ok (.dup, 1) := by decide +kernel
theorem d1_77 : decode method_3_code 77 = .ok (.iconst 1, 1) := by decide +kernel
theorem d1_78 : decode method_3_code 78 = .ok (.iload_n 1, 1) := by decide +kernel
theorem d1_79 : decode method_3_code 79 = .ok (.iconst 1, 1) := by decide +kernel
theorem d1_80 : decode method_3_code 80 = .ok (.invokestatic 12, 3) := by decide +kernel
theorem d1_83 : decode method_3_code 83 = .ok (.castore, 1) := by decide +kernel
theorem d1_84 : decode method_3_code 84 = .ok (.dup, 1) := by decide +kernel
theorem d1_85 : decode method_3_code 85 = .ok (.iconst 2, 1) := by decide +kernel
theorem d1_86 : decode method_3_code 86 = .ok (.iload_n 1, 1) := by decide +kernel
theorem d1_87 : decode method_3_code 87 = .ok (.iconst 2, 1) := by decide +kernel
theorem d1_88 : decode method_3_code 88 = .ok (.invokestatic 12, 3) := by decide +kernel
theorem d1_91 : decode method_3_code 91 = .ok (.castore, 1) := by decide +kernel
theorem d1_92 : decode method_3_code 92 = .ok (.invokespecial 9, 3) := by decide +kernel
theorem d1_95 : decode method_3_code 95 = .ok (.areturn, 1) := by decide +kernel
theorem pn_1 : plainFor (⟨"com/example/deasil/deasil/NodeEqualsPinLaw", "mk", "(II)Ljava/lang/String;"⟩ : MethodName) = true := plainFor_of_name (by show plainName "com/example/deasil/deasil/NodeEqualsPinLaw" = true; first | (simp [plainName, overriddenIn]; done) | decide +kernel)
theorem ef_1 (m : MethodId) (p1 : Int32) (p2 : Int32) : entryFrame m #[(.int p1), (.int p2)] 2 = mkF m 0 #[.val (.int p1), .val (.int p2)] [] := by first | (simp [entryFrame, mkF, argsToLocals, Value.category]; done) | rfl
set_option maxRecDepth 65536 in
set_option maxHeartbeats 40000000 in
theorem rmMK (l : Launch) (Z : State) (a0 : Array Value) (hw : ∀ d ∈ tables_1, d.before a0 Z = true) (h0 : Heap) (n0 : Nat) (Z0 : n0 ≤ h0.size) (p1 : Int32) (p2 : Int32) (n : Nat) (hn : Len p1 n) (cs0 : Int32) (S0 : Sta Z Z.heap "java/lang/String" "COMPACT_STRINGS" "Z" (.int cs0)) (hcs : ¬ cs0 = 0) (O : Old Z n0 h0) : CtrS l Z own_EL (⟨"com/example/deasil/deasil/NodeEqualsPinLaw", "mk", "(II)Ljava/lang/String;"⟩ : MethodName) method_3_code 2 (some (.object "java/lang/String")) [] ({ frames := 4, cells := 6, slots := 40, locals := 66 } : Room) #[(.int p1), (.int p2)] h0 (fun v h L => ∃ a : Addr, v = some (.ref a) ∧ h0.size ≤ a ∧ Fr n0 L ∧ Keep h0 h [] ∧ Str Z h h.size a (own_bs n p2)) := by
  refine ctrS_mk pn_1 (own := "com/example/deasil/deasil/NodeEqualsPinLaw") (mn := "mk") rfl rfl ?_
  intro p e s m below meth c T0 X0 hx hby hml hZ hown hnm hret hlk e0 SW
  refine o_entry (ef_1 m p1 p2) ?_
  have NN := Fr.nil n0
  have ZZ := Z0
  have KK := Keep.refl h0 []
  rcases hn with ⟨rfl, rfl⟩ | ⟨rfl, rfl⟩ | ⟨rfl, rfl⟩ | ⟨rfl, rfl⟩
  · skip
    refine o_iloadN X0 hx (pc' := 1) (hb hby d1_0) rfl rfl ?_
    refine o_if_ne X0 hx (pc' := 4) (pt := 15) (hb hby d1_1) rfl (by decide) (by decide) (fun q => absurd (by decide) q) (fun _ => ?_)
    refine o_new X0 hx hZ hown (hw _ (List.mem_of_getElem? (i := 4) rfl)) (hw _ (List.mem_of_getElem? (i := 5) rfl)) (hw _ (List.mem_of_getElem? (i := 6) rfl)) e0 (hb hby d1_4) (pc' := 7) rfl (by decide) (by decide) ?_
    intro T1 h1 b1 g1 X1 e1 E1 A1 D1
    have g_b1 : n0 ≤ b1 := Nat.le_trans ZZ (Nat.le_of_eq g1.symm)
    have sz_b1 : h0.size ≤ b1 := Nat.le_trans KK.1 (Nat.le_of_eq g1.symm)
    have KK := KK.ext E1
    have ZZ := Nat.le_trans ZZ E1.1
    have SW := SW.ext E1
    have O := O.ext E1
    have hE := A1
    have hVa : Fld Z h1 b1 "java/lang/String" "value" "[B" .null := D1 (Or.inr (hw _ (List.mem_of_getElem? (i := 20) rfl))) (ty := (.array .byte)) (by decide)
    have hCo : Fld Z h1 b1 "java/lang/String" "coder" "B" (.int 0) := D1 (Or.inr (hw _ (List.mem_of_getElem? (i := 21) rfl))) (ty := .byte) (by decide)
    refine o_dup X1 hx (pc' := 8) (hb hby d1_7) rfl rfl ?_
    refine o_iconst X1 hx (pc' := 9) (v := (0 : Int32)) (hb hby d1_8) rfl rfl ?_
    refine o_newarray X1 hx hZ e1 (hw _ (List.mem_of_getElem? (i := 7) rfl)) (hb hby d1_9) (pc' := 11) rfl (by decide) 0 (by decide) (by decide) (by decide) (by decide) ?_
    intro T2 h2 b2 k2 g2 X2 e2 E2 V2
    have lt_b1_b2 : b1 < b2 := Nat.lt_of_lt_of_le hVa.lt (Nat.le_of_eq g2.symm)
    have ne_b1_b2 : b1 ≠ b2 := Nat.ne_of_lt lt_b1_b2
    have g_b2 : n0 ≤ b2 := Nat.le_trans ZZ (Nat.le_of_eq g2.symm)
    have sz_b2 : h0.size ≤ b2 := Nat.le_trans KK.1 (Nat.le_of_eq g2.symm)
    have KK := KK.ext E2
    have ZZ := Nat.le_trans ZZ E2.1
    have SW := SW.ext E2
    have O := O.ext E2
    have hVa := hVa.ext E2
    have hCo := hCo.ext E2
    have hE := hE.ext E2
    have hV : Arv Z h2 b2 k2 .char (0 : Int32) [] (.int 0) := V2.pad (pad_rep [] _ 0)
    refine o_callIS X2 hx (own_EW hw) SW b1 [(.ref b2)] (rmSZ2 l Z a0 hw h2 n0 ZZ b1 b2 k2 hV hE hVa hCo g_b1) rfl hown (hw _ (List.mem_of_getElem? (i := 8) rfl)) (hw _ (List.mem_of_getElem? (i := 9) rfl)) (hw _ (List.mem_of_getElem? (i := 6) rfl)) (hw _ (List.mem_of_getElem? (i := 10) rfl)) (by decide) pd_9 e2 (by rw [hml]; rfl) rfl rfl rfl (hb hby d1_11) (pc' := 14) rfl 1 (Nat.le_of_eq rfl) (by decide) (by decide) (by decide) (by decide) ?_
    intro T3 v3 L3 X3 hQ3 SW hown hC3
    have hZ := SW.2.1
    obtain ⟨rfl, Nq, Kq, Sq⟩ := hQ3
    have NN := Fr.app NN Nq
    have KK := KK.trans Kq (by intro x hx; simp only [List.mem_cons, List.not_mem_nil, or_false] at hx; subst hx; first | (left; simp; done) | (right; first | exact sz_b1 | exact sz_b2))
    have ZZ := Nat.le_trans ZZ Kq.1
    have O := O.keep Kq (by intro x hx; simp only [List.mem_cons, List.not_mem_nil, or_false] at hx; subst hx; exact g_b1)
    have hE := hE.keep Kq
    have hV := hV.keep Kq (by simp only [List.mem_cons, List.not_mem_nil, or_false, not_or]; exact ne_b1_b2.symm)
    show Dn p e below _ (T3.setTop (mkF m 14 #[.val (.int (0 : Int32)), .val (.int p2)] [(.ref b1)]))
    exact finSA X3 hx (own_EW hw) SW rfl hlk rfl hret rfl rfl (hb hby d1_14) (by decide) (by decide) ⟨b1, rfl, sz_b1, NN, KK, Sq⟩
  · skip
    refine o_iloadN X0 hx (pc' := 1) (hb hby d1_0) rfl rfl ?_
    refine o_if_ne X0 hx (pc' := 4) (pt := 15) (hb hby d1_1) rfl (by decide) (by decide) (fun _ => ?_) (fun q => absurd q (by decide))
    refine o_iloadN X0 hx (pc' := 16) (hb hby d1_15) rfl rfl ?_
    refine o_iconst X0 hx (pc' := 17) (v := (1 : Int32)) (hb hby d1_16) rfl rfl ?_
    refine o_icmp_ne X0 hx (pc' := 20) (pt := 29) (hb hby d1_17) rfl (by decide) (by decide) (fun q => absurd (by decide) q) (fun _ => ?_)
    refine o_iloadN X0 hx (pc' := 21) (hb hby d1_20) rfl rfl ?_
    refine o_iconst X0 hx (pc' := 22) (v := (0 : Int32)) (hb hby d1_21) rfl rfl ?_
    refine o_callSP X0 hx hZ [(.int p2), (.int (0 : Int32))] (rm11 l Z a0 hw h0 p2 (0 : Int32)) hown (hw _ (List.mem_of_getElem? (i := 64) rfl)) (hw _ (List.mem_of_getElem? (i := 65) rfl)) (hw _ (List.mem_of_getElem? (i := 2) rfl)) (hw _ (List.mem_of_getElem? (i := 66) rfl)) (by decide) pd_8 e0 (by rw [hml]; rfl) rfl rfl rfl (hb hby d1_22) (pc' := 25) rfl 0 (Nat.le_of_eq rfl) (by decide) (by decide) rfl rfl (by decide) (by decide) ?_
    intro T4 X4 e4
    show Dn p e below _ (T4.setTop (mkF m 25 #[.val (.int (1 : Int32)), .val (.int p2)] [(.int (F11 p2 (0 : Int32)))]))
    refine o_callS X4 hx hZ [(.int (F11 p2 (0 : Int32)))] (rmVO l Z a0 hw h0 n0 ZZ (F11 p2 (0 : Int32)) (own_cle _ _) cs0 S0 hcs O) hown (hw _ (List.mem_of_getElem? (i := 77) rfl)) (hw _ (List.mem_of_getElem? (i := 78) rfl)) (hw _ (List.mem_of_getElem? (i := 6) rfl)) (hw _ (List.mem_of_getElem? (i := 79) rfl)) (by decide) pd_10 e4 (by rw [hml]; rfl) rfl rfl rfl (hb hby d1_25) (pc' := 28) rfl 0 (Nat.le_of_eq rfl) (by decide) (by decide) (by decide) (by decide) ?_
    intro T5 v5 L5 X5 hQ5
    obtain ⟨a, rfl, sz_a, Nq, Kq, Sq⟩ := hQ5
    have NN := Fr.app NN Nq
    have KK := KK.trans Kq (fun x hx => nomatch hx)
    have ZZ := Nat.le_trans ZZ Kq.1
    have SWo := SW
    have SW := SW.keep Kq sf0
    have O := O.keep Kq (fun x hx => nomatch hx)
    show Dn p e below _ (T5.setTop (mkF m 28 #[.val (.int (1 : Int32)), .val (.int p2)] [(.ref a)]))
    exact finSA X5 hx (own_EW hw) SW rfl hlk rfl hret rfl rfl (hb hby d1_28) (by decide) (by decide) ⟨a, rfl, sz_a, NN, KK, Sq⟩
  · skip
    refine o_iloadN X0 hx (pc' := 1) (hb hby d1_0) rfl rfl ?_
    refine o_if_ne X0 hx (pc' := 4) (pt := 15) (hb hby d1_1) rfl (by decide) (by decide) (fun _ => ?_) (fun q => absurd q (by decide))
    refine o_iloadN X0 hx (pc' := 16) (hb hby d1_15) rfl rfl ?_
    refine o_iconst X0 hx (pc' := 17) (v := (1 : Int32)) (hb hby d1_16) rfl rfl ?_
    refine o_icmp_ne X0 hx (pc' := 20) (pt := 29) (hb hby d1_17) rfl (by decide) (by decide) (fun _ => ?_) (fun q => absurd q (by decide))
    refine o_iloadN X0 hx (pc' := 30) (hb hby d1_29) rfl rfl ?_
    refine o_iconst X0 hx (pc' := 31) (v := (2 : Int32)) (hb hby d1_30) rfl rfl ?_
    refine o_icmp_ne X0 hx (pc' := 34) (pt := 61) (hb hby d1_31) rfl (by decide) (by decide) (fun q => absurd (by decide) q) (fun _ => ?_)
    refine o_new X0 hx hZ hown (hw _ (List.mem_of_getElem? (i := 4) rfl)) (hw _ (List.mem_of_getElem? (i := 5) rfl)) (hw _ (List.mem_of_getElem? (i := 6) rfl)) e0 (hb hby d1_34) (pc' := 37) rfl (by decide) (by decide) ?_
    intro T6 h6 b6 g6 X6 e6 E6 A6 D6
    have g_b6 : n0 ≤ b6 := Nat.le_trans ZZ (Nat.le_of_eq g6.symm)
    have sz_b6 : h0.size ≤ b6 := Nat.le_trans KK.1 (Nat.le_of_eq g6.symm)
    have KK := KK.ext E6
    have ZZ := Nat.le_trans ZZ E6.1
    have SW := SW.ext E6
    have O := O.ext E6
    have hE := A6
    have hVa : Fld Z h6 b6 "java/lang/String" "value" "[B" .null := D6 (Or.inr (hw _ (List.mem_of_getElem? (i := 20) rfl))) (ty := (.array .byte)) (by decide)
    have hCo : Fld Z h6 b6 "java/lang/String" "coder" "B" (.int 0) := D6 (Or.inr (hw _ (List.mem_of_getElem? (i := 21) rfl))) (ty := .byte) (by decide)
    refine o_dup X6 hx (pc' := 38) (hb hby d1_37) rfl rfl ?_
    refine o_iconst X6 hx (pc' := 39) (v := (2 : Int32)) (hb hby d1_38) rfl rfl ?_
    refine o_newarray X6 hx hZ e6 (hw _ (List.mem_of_getElem? (i := 7) rfl)) (hb hby d1_39) (pc' := 41) rfl (by decide) 2 (by decide) (by decide) (by decide) (by decide) ?_
    intro T7 h7 b7 k7 g7 X7 e7 E7 V7
    have lt_b6_b7 : b6 < b7 := Nat.lt_of_lt_of_le hVa.lt (Nat.le_of_eq g7.symm)
    have ne_b6_b7 : b6 ≠ b7 := Nat.ne_of_lt lt_b6_b7
    have g_b7 : n0 ≤ b7 := Nat.le_trans ZZ (Nat.le_of_eq g7.symm)
    have sz_b7 : h0.size ≤ b7 := Nat.le_trans KK.1 (Nat.le_of_eq g7.symm)
    have KK := KK.ext E7
    have ZZ := Nat.le_trans ZZ E7.1
    have SW := SW.ext E7
    have O := O.ext E7
    have hVa := hVa.ext E7
    have hCo := hCo.ext E7
    have hE := hE.ext E7
    have hV : Arv Z h7 b7 k7 .char (2 : Int32) [.int 0, .int 0] (.int 0) := V7.pad (pad_rep [] _ 2)
    refine o_dup X7 hx (pc' := 42) (hb hby d1_41) rfl rfl ?_
    refine o_iconst X7 hx (pc' := 43) (v := (0 : Int32)) (hb hby d1_42) rfl rfl ?_
    refine o_iloadN X7 hx (pc' := 44) (hb hby d1_43) rfl rfl ?_
    refine o_iconst X7 hx (pc' := 45) (v := (0 : Int32)) (hb hby d1_44) rfl rfl ?_
    refine o_callSP X7 hx hZ [(.int p2), (.int (0 : Int32))] (rm11 l Z a0 hw h7 p2 (0 : Int32)) hown (hw _ (List.mem_of_getElem? (i := 64) rfl)) (hw _ (List.mem_of_getElem? (i := 65) rfl)) (hw _ (List.mem_of_getElem? (i := 2) rfl)) (hw _ (List.mem_of_getElem? (i := 66) rfl)) (by decide) pd_8 e7 (by rw [hml]; rfl) rfl rfl rfl (hb hby d1_45) (pc' := 48) rfl 5 (Nat.le_of_eq rfl) (by decide) (by decide) rfl rfl (by decide) (by decide) ?_
    intro T8 X8 e8
    show Dn p e below _ (T8.setTop (mkF m 48 #[.val (.int (2 : Int32)), .val (.int p2)] [(.int (F11 p2 (0 : Int32))), (.int (0 : Int32)), (.ref b7), (.ref b7), (.ref b6), (.ref b6)]))
    refine o_castore X8 hx hZ e8 hV (by decide) 0 rfl (Nat.le_of_ble_eq_true rfl) (hb hby d1_48) (pc' := 49) rfl ?_
    intro T9 h9 X9 e9 W9 V9
    have NN := Fr.snoc X9 NN g_b7
    have KK := KK.wr W9 (Or.inr sz_b7)
    have ZZ := Nat.le_trans ZZ (Keep.of_wr W9).1
    have SWo := SW
    have SW := SW.wr W9 (Safe.arv SW.2.1.alike hV (by decide))
    have O := O.wr W9 g_b7
    have hVa := hVa.other W9 (Or.inl ne_b6_b7)
    have hCo := hCo.other W9 (Or.inl ne_b6_b7)
    have hE := hE.wr W9
    have hV : Arv Z h9 b7 k7 .char 2 [.int (F11 p2 (0 : Int32)), .int 0] (.int 0) := by
        have q := V9
        rw [own_nc] at q
        exact q
    refine o_dup X9 hx (pc' := 50) (hb hby d1_49) rfl rfl ?_
    refine o_iconst X9 hx (pc' := 51) (v := (1 : Int32)) (hb hby d1_50) rfl rfl ?_
    refine o_iloadN X9 hx (pc' := 52) (hb hby d1_51) rfl rfl ?_
    refine o_iconst X9 hx (pc' := 53) (v := (1 : Int32)) (hb hby d1_52) rfl rfl ?_
    refine o_callSP X9 hx hZ [(.int p2), (.int (1 : Int32))] (rm11 l Z a0 hw h9 p2 (1 : Int32)) hown (hw _ (List.mem_of_getElem? (i := 64) rfl)) (hw _ (List.mem_of_getElem? (i := 65) rfl)) (hw _ (List.mem_of_getElem? (i := 2) rfl)) (hw _ (List.mem_of_getElem? (i := 66) rfl)) (by decide) pd_8 e9 (by rw [hml]; rfl) rfl rfl rfl (hb hby d1_53) (pc' := 56) rfl 5 (Nat.le_of_eq rfl) (by decide) (by decide) rfl rfl (by decide) (by decide) ?_
    intro T10 X10 e10
    show Dn p e below _ (T10.setTop (mkF m 56 #[.val (.int (2 : Int32)), .val (.int p2)] [(.int (F11 p2 (1 : Int32))), (.int (1 : Int32)), (.ref b7), (.ref b7), (.ref b6), (.ref b6)]))
    refine o_castore X10 hx hZ e10 hV (by decide) 1 rfl (Nat.le_of_ble_eq_true rfl) (hb hby d1_56) (pc' := 57) rfl ?_
    intro T11 h11 X11 e11 W11 V11
    have NN := Fr.snoc X11 NN g_b7
    have KK := KK.wr W11 (Or.inr sz_b7)
    have ZZ := Nat.le_trans ZZ (Keep.of_wr W11).1
    have SWo := SW
    have SW := SW.wr W11 (Safe.arv SW.2.1.alike hV (by decide))
    have O := O.wr W11 g_b7
    have hVa := hVa.other W11 (Or.inl ne_b6_b7)
    have hCo := hCo.other W11 (Or.inl ne_b6_b7)
    have hE := hE.wr W11
    have hV : Arv Z h11 b7 k7 .char 2 [.int (F11 p2 (0 : Int32)), .int (F11 p2 (1 : Int32))] (.int 0) := by
        have q := V11
        rw [own_nc] at q
        exact q
    have hVc : Arv Z h11 b7 k7 .char (Int32.ofNat (own_cs 2 p2).length) (iv (own_cs 2 p2)) (.int 0) := hV
    refine o_callI X11 hx hZ b6 [(.ref b7)] (rmSI2 l Z a0 hw h11 n0 ZZ b6 b7 (own_cs 2 p2) (own_cc 2 p2) (Nat.le_of_ble_eq_true rfl) (Nat.le_of_ble_eq_true rfl) k7 _ hVc _ _ hE hVa hCo g_b6 ne_b6_b7 cs0 S0 hcs O) rfl hown (hw _ (List.mem_of_getElem? (i := 8) rfl)) (hw _ (List.mem_of_getElem? (i := 9) rfl)) (hw _ (List.mem_of_getElem? (i := 6) rfl)) (hw _ (List.mem_of_getElem? (i := 10) rfl)) (by decide) pd_9 e11 (by rw [hml]; rfl) rfl rfl rfl (hb hby d1_57) (pc' := 60) rfl 1 (Nat.le_of_eq rfl) (by decide) (by decide) (by decide) (by decide) ?_
    intro T12 v12 L12 X12 hQ12
    obtain ⟨rfl, Nq, Kq, Sq⟩ := hQ12
    have NN := Fr.app NN Nq
    have KK := KK.trans Kq (by intro x hx; simp only [List.mem_cons, List.not_mem_nil, or_false] at hx; subst hx; first | (left; simp; done) | (right; first | exact sz_b6 | exact sz_b7))
    have ZZ := Nat.le_trans ZZ Kq.1
    have SWo := SW
    have SW := SW.keep Kq (sfS (own_safe SW.2.1.alike hE hVa) sf0)
    have O := O.keep Kq (by intro x hx; simp only [List.mem_cons, List.not_mem_nil, or_false] at hx; subst hx; exact g_b6)
    have hE := hE.keep Kq
    have hV := hV.keep Kq (by simp only [List.mem_cons, List.not_mem_nil, or_false, not_or]; exact ne_b6_b7.symm)
    show Dn p e below _ (T12.setTop (mkF m 60 #[.val (.int (2 : Int32)), .val (.int p2)] [(.ref b6)]))
    exact finSA X12 hx (own_EW hw) SW rfl hlk rfl hret rfl rfl (hb hby d1_60) (by decide) (by decide) ⟨b6, rfl, sz_b6, NN, KK, Sq⟩
  · skip
    refine o_iloadN X0 hx (pc' := 1) (hb hby d1_0) rfl rfl ?_
    refine o_if_ne X0 hx (pc' := 4) (pt := 15) (hb hby d1_1) rfl (by decide) (by decide) (fun _ => ?_) (fun q => absurd q (by decide))
    refine o_iloadN X0 hx (pc' := 16) (hb hby d1_15) rfl rfl ?_
    refine o_iconst X0 hx (pc' := 17) (v := (1 : Int32)) (hb hby d1_16) rfl rfl ?_
    refine o_icmp_ne X0 hx (pc' := 20) (pt := 29) (hb hby d1_17) rfl (by decide) (by decide) (fun _ => ?_) (fun q => absurd q (by decide))
    refine o_iloadN X0 hx (pc' := 30) (hb hby d1_29) rfl rfl ?_
    refine o_iconst X0 hx (pc' := 31) (v := (2 : Int32)) (hb hby d1_30) rfl rfl ?_
    refine o_icmp_ne X0 hx (pc' := 34) (pt := 61) (hb hby d1_31) rfl (by decide) (by decide) (fun _ => ?_) (fun q => absurd q (by decide))
    refine o_new X0 hx hZ hown (hw _ (List.mem_of_getElem? (i := 4) rfl)) (hw _ (List.mem_of_getElem? (i := 5) rfl)) (hw _ (List.mem_of_getElem? (i := 6) rfl)) e0 (hb hby d1_61) (pc' := 64) rfl (by decide) (by decide) ?_
    intro T13 h13 b13 g13 X13 e13 E13 A13 D13
    have g_b13 : n0 ≤ b13 := Nat.le_trans ZZ (Nat.le_of_eq g13.symm)
    have sz_b13 : h0.size ≤ b13 := Nat.le_trans KK.1 (Nat.le_of_eq g13.symm)
    have KK := KK.ext E13
    have ZZ := Nat.le_trans ZZ E13.1
    have SW := SW.ext E13
    have O := O.ext E13
    have hE := A13
    have hVa : Fld Z h13 b13 "java/lang/String" "value" "[B" .null := D13 (Or.inr (hw _ (List.mem_of_getElem? (i := 20) rfl))) (ty := (.array .byte)) (by decide)
    have hCo : Fld Z h13 b13 "java/lang/String" "coder" "B" (.int 0) := D13 (Or.inr (hw _ (List.mem_of_getElem? (i := 21) rfl))) (ty := .byte) (by decide)
    refine o_dup X13 hx (pc' := 65) (hb hby d1_64) rfl rfl ?_
    refine o_iconst X13 hx (pc' := 66) (v := (3 : Int32)) (hb hby d1_65) rfl rfl ?_
    refine o_newarray X13 hx hZ e13 (hw _ (List.mem_of_getElem? (i := 7) rfl)) (hb hby d1_66) (pc' := 68) rfl (by decide) 3 (by decide) (by decide) (by decide) (by decide) ?_
    intro T14 h14 b14 k14 g14 X14 e14 E14 V14
    have lt_b13_b14 : b13 < b14 := Nat.lt_of_lt_of_le hVa.lt (Nat.le_of_eq g14.symm)
    have ne_b13_b14 : b13 ≠ b14 := Nat.ne_of_lt lt_b13_b14
    have g_b14 : n0 ≤ b14 := Nat.le_trans ZZ (Nat.le_of_eq g14.symm)
    have sz_b14 : h0.size ≤ b14 := Nat.le_trans KK.1 (Nat.le_of_eq g14.symm)
    have KK := KK.ext E14
    have ZZ := Nat.le_trans ZZ E14.1
    have SW := SW.ext E14
    have O := O.ext E14
    have hVa := hVa.ext E14
    have hCo := hCo.ext E14
    have hE := hE.ext E14
    have hV : Arv Z h14 b14 k14 .char (3 : Int32) [.int 0, .int 0, .int 0] (.int 0) := V14.pad (pad_rep [] _ 3)
    refine o_dup X14 hx (pc' := 69) (hb hby d1_68) rfl rfl ?_
    refine o_iconst X14 hx (pc' := 70) (v := (0 : Int32)) (hb hby d1_69) rfl rfl ?_
    refine o_iloadN X14 hx (pc' := 71) (hb hby d1_70) rfl rfl ?_
    refine o_iconst X14 hx (pc' := 72) (v := (0 : Int32)) (hb hby d1_71) rfl rfl ?_
    refine o_callSP X14 hx hZ [(.int p2), (.int (0 : Int32))] (rm11 l Z a0 hw h14 p2 (0 : Int32)) hown (hw _ (List.mem_of_getElem? (i := 64) rfl)) (hw _ (List.mem_of_getElem? (i := 65) rfl)) (hw _ (List.mem_of_getElem? (i := 2) rfl)) (hw _ (List.mem_of_getElem? (i := 66) rfl)) (by decide) pd_8 e14 (by rw [hml]; rfl) rfl rfl rfl (hb hby d1_72) (pc' := 75) rfl 5 (Nat.le_of_eq rfl) (by decide) (by decide) rfl rfl (by decide) (by decide) ?_
    intro T15 X15 e15
    show Dn p e below _ (T15.setTop (mkF m 75 #[.val (.int (3 : Int32)), .val (.int p2)] [(.int (F11 p2 (0 : Int32))), (.int (0 : Int32)), (.ref b14), (.ref b14), (.ref b13), (.ref b13)]))
    refine o_castore X15 hx hZ e15 hV (by decide) 0 rfl (Nat.le_of_ble_eq_true rfl) (hb hby d1_75) (pc' := 76) rfl ?_
    intro T16 h16 X16 e16 W16 V16
    have NN := Fr.snoc X16 NN g_b14
    have KK := KK.wr W16 (Or.inr sz_b14)
    have ZZ := Nat.le_trans ZZ (Keep.of_wr W16).1
    have SWo := SW
    have SW := SW.wr W16 (Safe.arv SW.2.1.alike hV (by decide))
    have O := O.wr W16 g_b14
    have hVa := hVa.other W16 (Or.inl ne_b13_b14)
    have hCo := hCo.other W16 (Or.inl ne_b13_b14)
    have hE := hE.wr W16
    have hV : Arv Z h16 b14 k14 .char 3 [.int (F11 p2 (0 : Int32)), .int 0, .int 0] (.int 0) := by
        have q := V16
        rw [own_nc] at q
        exact q
    refine o_dup X16 hx (pc' := 77) (hb hby d1_76) rfl rfl ?_
    refine o_iconst X16 hx (pc' := 78) (v := (1 : Int32)) (hb hby d1_77) rfl rfl ?_
    refine o_iloadN X16 hx (pc' := 79) (hb hby d1_78) rfl rfl ?_
    refine o_iconst X16 hx (pc' := 80) (v := (1 : Int32)) (hb hby d1_79) rfl rfl ?_
    refine o_callSP X16 hx hZ [(.int p2), (.int (1 : Int32))] (rm11 l Z a0 hw h16 p2 (1 : Int32)) hown (hw _ (List.mem_of_getElem? (i := 64) rfl)) (hw _ (List.mem_of_getElem? (i := 65) rfl)) (hw _ (List.mem_of_getElem? (i := 2) rfl)) (hw _ (List.mem_of_getElem? (i := 66) rfl)) (by decide) pd_8 e16 (by rw [hml]; rfl) rfl rfl rfl (hb hby d1_80) (pc' := 83) rfl 5 (Nat.le_of_eq rfl) (by decide) (by decide) rfl rfl (by decide) (by decide) ?_
    intro T17 X17 e17
    show Dn p e below _ (T17.setTop (mkF m 83 #[.val (.int (3 : Int32)), .val (.int p2)] [(.int (F11 p2 (1 : Int32))), (.int (1 : Int32)), (.ref b14), (.ref b14), (.ref b13), (.ref b13)]))
    refine o_castore X17 hx hZ e17 hV (by decide) 1 rfl (Nat.le_of_ble_eq_true rfl) (hb hby d1_83) (pc' := 84) rfl ?_
    intro T18 h18 X18 e18 W18 V18
    have NN := Fr.snoc X18 NN g_b14
    have KK := KK.wr W18 (Or.inr sz_b14)
    have ZZ := Nat.le_trans ZZ (Keep.of_wr W18).1
    have SWo := SW
    have SW := SW.wr W18 (Safe.arv SW.2.1.alike hV (by decide))
    have O := O.wr W18 g_b14
    have hVa := hVa.other W18 (Or.inl ne_b13_b14)
    have hCo := hCo.other W18 (Or.inl ne_b13_b14)
    have hE := hE.wr W18
    have hV : Arv Z h18 b14 k14 .char 3 [.int (F11 p2 (0 : Int32)), .int (F11 p2 (1 : Int32)), .int 0] (.int 0) := by
        have q := V18
        rw [own_nc] at q
        exact q
    refine o_dup X18 hx (pc' := 85) (hb hby d1_84) rfl rfl ?_
    refine o_iconst X18 hx (pc' := 86) (v := (2 : Int32)) (hb hby d1_85) rfl rfl ?_
    refine o_iloadN X18 hx (pc' := 87) (hb hby d1_86) rfl rfl ?_
    refine o_iconst X18 hx (pc' := 88) (v := (2 : Int32)) (hb hby d1_87) rfl rfl ?_
    refine o_callSP X18 hx hZ [(.int p2), (.int (2 : Int32))] (rm11 l Z a0 hw h18 p2 (2 : Int32)) hown (hw _ (List.mem_of_getElem? (i := 64) rfl)) (hw _ (List.mem_of_getElem? (i := 65) rfl)) (hw _ (List.mem_of_getElem? (i := 2) rfl)) (hw _ (List.mem_of_getElem? (i := 66) rfl)) (by decide) pd_8 e18 (by rw [hml]; rfl) rfl rfl rfl (hb hby d1_88) (pc' := 91) rfl 5 (Nat.le_of_eq rfl) (by decide) (by decide) rfl rfl (by decide) (by decide) ?_
    intro T19 X19 e19
    show Dn p e below _ (T19.setTop (mkF m 91 #[.val (.int (3 : Int32)), .val (.int p2)] [(.int (F11 p2 (2 : Int32))), (.int (2 : Int32)), (.ref b14), (.ref b14), (.ref b13), (.ref b13)]))
    refine o_castore X19 hx hZ e19 hV (by decide) 2 rfl (Nat.le_of_ble_eq_true rfl) (hb hby d1_91) (pc' := 92) rfl ?_
    intro T20 h20 X20 e20 W20 V20
    have NN := Fr.snoc X20 NN g_b14
    have KK := KK.wr W20 (Or.inr sz_b14)
    have ZZ := Nat.le_trans ZZ (Keep.of_wr W20).1
    have SWo := SW
    have SW := SW.wr W20 (Safe.arv SW.2.1.alike hV (by decide))
    have O := O.wr W20 g_b14
    have hVa := hVa.other W20 (Or.inl ne_b13_b14)
    have hCo := hCo.other W20 (Or.inl ne_b13_b14)
    have hE := hE.wr W20
    have hV : Arv Z h20 b14 k14 .char 3 [.int (F11 p2 (0 : Int32)), .int (F11 p2 (1 : Int32)), .int (F11 p2 (2 : Int32))] (.int 0) := by
        have q := V20
        rw [own_nc] at q
        exact q
    have hVc : Arv Z h20 b14 k14 .char (Int32.ofNat (own_cs 3 p2).length) (iv (own_cs 3 p2)) (.int 0) := hV
    refine o_callI X20 hx hZ b13 [(.ref b14)] (rmSI2 l Z a0 hw h20 n0 ZZ b13 b14 (own_cs 3 p2) (own_cc 3 p2) (Nat.le_of_ble_eq_true rfl) (Nat.le_of_ble_eq_true rfl) k14 _ hVc _ _ hE hVa hCo g_b13 ne_b13_b14 cs0 S0 hcs O) rfl hown (hw _ (List.mem_of_getElem? (i := 8) rfl)) (hw _ (List.mem_of_getElem? (i := 9) rfl)) (hw _ (List.mem_of_getElem? (i := 6) rfl)) (hw _ (List.mem_of_getElem? (i := 10) rfl)) (by decide) pd_9 e20 (by rw [hml]; rfl) rfl rfl rfl (hb hby d1_92) (pc' := 95) rfl 1 (Nat.le_of_eq rfl) (by decide) (by decide) (by decide) (by decide) ?_
    intro T21 v21 L21 X21 hQ21
    obtain ⟨rfl, Nq, Kq, Sq⟩ := hQ21
    have NN := Fr.app NN Nq
    have KK := KK.trans Kq (by intro x hx; simp only [List.mem_cons, List.not_mem_nil, or_false] at hx; subst hx; first | (left; simp; done) | (right; first | exact sz_b13 | exact sz_b14))
    have ZZ := Nat.le_trans ZZ Kq.1
    have SWo := SW
    have SW := SW.keep Kq (sfS (own_safe SW.2.1.alike hE hVa) sf0)
    have O := O.keep Kq (by intro x hx; simp only [List.mem_cons, List.not_mem_nil, or_false] at hx; subst hx; exact g_b13)
    have hE := hE.keep Kq
    have hV := hV.keep Kq (by simp only [List.mem_cons, List.not_mem_nil, or_false, not_or]; exact ne_b13_b14.symm)
    show Dn p e below _ (T21.setTop (mkF m 95 #[.val (.int (3 : Int32)), .val (.int p2)] [(.ref b13)]))
    exact finSA X21 hx (own_EW hw) SW rfl hlk rfl hret rfl rfl (hb hby d1_95) (by decide) (by decide) ⟨b13, rfl, sz_b13, NN, KK, Sq⟩
theorem d6_0 : decode jdk_31_method_11_code 0 = .ok (.aload_n 0, 1) := by decide +kernel
theorem d6_1 : decode jdk_31_method_11_code 1 = .ok (.ifnonnull 12, 3) := by decide +kernel
theorem d6_13 : decode jdk_31_method_11_code 13 = .ok (.aload_n 0, 1) := by decide +kernel
theorem d6_14 : decode jdk_31_method_11_code 14 = .ok (.areturn, 1) := by decide +kernel
theorem pn_6 : plainFor (⟨"java/util/Objects", "requireNonNull", "(Ljava/lang/Object;Ljava/lang/String;)Ljava/lang/Object;"⟩ : MethodName) = true := plainFor_of_name (by show plainName "java/util/Objects" = true; first | (simp [plainName, overriddenIn]; done) | decide +kernel)
theorem ef_6 (m : MethodId) (a1 : Addr) (a2 : Addr) : entryFrame m #[(.ref a1), (.ref a2)] 2 = mkF m 0 #[.val (.ref a1), .val (.ref a2)] [] := by first | (simp [entryFrame, mkF, argsToLocals, Value.category]; done) | rfl
set_option maxRecDepth 65536 in
set_option maxHeartbeats 40000000 in
theorem rmRN (l : Launch) (Z : State) (a0 : Array Value) (hw : ∀ d ∈ tables_1, d.before a0 Z = true) (h0 : Heap) (n0 : Nat) (Z0 : n0 ≤ h0.size) (a1 : Addr) (a2 : Addr)  : Ctr l Z (⟨"java/util/Objects", "requireNonNull", "(Ljava/lang/Object;Ljava/lang/String;)Ljava/lang/Object;"⟩ : MethodName) jdk_31_method_11_code 2 (some (.object "java/lang/Object")) [] ({ frames := 0, cells := 0, slots := 0, locals := 0 } : Room) #[(.ref a1), (.ref a2)] h0 (Pure (.ref a1) h0) := by
  refine ctr_mk pn_6 (own := "java/util/Objects") (mn := "requireNonNull") rfl rfl ?_
  intro p e s m below meth c T0 X0 hx hby hml hZ hown hnm hret hlk e0
  refine o_entry (ef_6 m a1 a2) ?_
  refine o_aloadN X0 hx (pc' := 1) (hb hby d6_0) rfl rfl rfl ?_
  refine o_ifnonnull_yes X0 hx (pc' := 13) (hb hby d6_1) (by decide) (by decide) ?_
  refine o_aloadN X0 hx (pc' := 14) (hb hby d6_13) rfl rfl rfl ?_
  exact finA X0 hx hlk rfl hret rfl rfl (hb hby d6_14) (by decide) (by decide) ⟨rfl, rfl, e0⟩
theorem pd_11 : parseMethodDescriptor "(Ljava/lang/Object;Ljava/lang/String;)Ljava/lang/Object;" = some ⟨[(.object "java/lang/Object"), (.object "java/lang/String")], some (.object "java/lang/Object")⟩ := by decide +kernel
theorem d5_0 : decode prog_14_method_2_code 0 = .ok (.aload_n 0, 1) := by decide +kernel
theorem d5_1 : decode prog_14_method_2_code 1 = .ok (.invokespecial 7, 3) := by decide +kernel
theorem d5_4 : decode prog_14_method_2_code 4 = .ok (.aload_n 0, 1) := by decide +kernel
theorem d5_5 : decode prog_14_method_2_code 5 = .ok (.aload_n 1, 1) := by decide +kernel
theorem d5_6 : decode prog_14_method_2_code 6 = .ok (.ldc 12, 2) := by decide +kernel
theorem d5_8 : decode prog_14_method_2_code 8 = .ok (.invokestatic 14, 3) := by decide +kernel
theorem d5_11 : decode prog_14_method_2_code 11 = .ok (.checkcast 20, 3) := by decide +kernel
theorem d5_14 : decode prog_14_method_2_code 14 = .ok (.putfield 22, 3) := by decide +kernel
theorem d5_17 : decode prog_14_method_2_code 17 = .ok (.aload_n 0, 1) := by decide +kernel
theorem d5_18 : decode prog_14_method_2_code 18 = .ok (.iload_n 2, 1) := by decide +kernel
theorem d5_19 : decode prog_14_method_2_code 19 = .ok (.putfield 25, 3) := by decide +kernel
theorem d5_22 : decode prog_14_method_2_code 22 = .ok (.return_, 1) := by decide +kernel
theorem pn_5 : plainFor (⟨"com/example/deasil/deasil/Node", "<init>", "(Ljava/lang/String;I)V"⟩ : MethodName) = true := plainFor_of_name (by show plainName "com/example/deasil/deasil/Node" = true; first | (simp [plainName, overriddenIn]; done) | decide +kernel)
theorem ef_5 (m : MethodId) (a1 : Addr) (a2 : Addr) (p3 : Int32) : entryFrame m #[(.ref a1), (.ref a2), (.int p3)] 3 = mkF m 0 #[.val (.ref a1), .val (.ref a2), .val (.int p3)] [] := by first | (simp [entryFrame, mkF, argsToLocals, Value.category]; done) | rfl
set_option maxRecDepth 65536 in
set_option maxHeartbeats 40000000 in
theorem rmNI (l : Launch) (Z : State) (a0 : Array Value) (hw : ∀ d ∈ tables_1, d.before a0 Z = true) (h0 : Heap) (n0 : Nat) (Z0 : n0 ≤ h0.size) (a1 : Addr) (a2 : Addr) (p3 : Int32) (hE : Exa Z h0 a1 "com/example/deasil/deasil/Node") (hN : Fld Z h0 a1 "com/example/deasil/deasil/Node" "name" "Ljava/lang/String;" .null) (hW : Fld Z h0 a1 "com/example/deasil/deasil/Node" "weight" "I" (.int 0)) (hE2 : Exa Z h0 a2 "java/lang/String") (ga : n0 ≤ a1) : CtrS l Z own_EL (⟨"com/example/deasil/deasil/Node", "<init>", "(Ljava/lang/String;I)V"⟩ : MethodName) prog_14_method_2_code 3 none [] ({ frames := 1, cells := 2, slots := 20, locals := 14 } : Room) #[(.ref a1), (.ref a2), (.int p3)] h0 (fun v h L => v = none ∧ Fr n0 L ∧ Keep h0 h [a1] ∧ Exa Z h a1 "com/example/deasil/deasil/Node" ∧ Fld Z h a1 "com/example/deasil/deasil/Node" "name" "Ljava/lang/String;" (.ref a2) ∧ Fld Z h a1 "com/example/deasil/deasil/Node" "weight" "I" (.int p3)) := by
  refine ctrS_mk pn_5 (own := "com/example/deasil/deasil/Node") (mn := "<init>") rfl rfl ?_
  intro p e s m below meth c T0 X0 hx hby hml hZ hown hnm hret hlk e0 SW
  refine o_entry (ef_5 m a1 a2 p3) ?_
  have g_a1 := ga
  have NN := Fr.nil n0
  have ZZ := Z0
  have KK := Keep.refl h0 [a1]
  refine o_aloadN X0 hx (pc' := 1) (hb hby d5_0) rfl rfl rfl ?_
  refine o_initO X0 hx hZ hown (hw _ (List.mem_of_getElem? (i := 32) rfl)) (hw _ (List.mem_of_getElem? (i := 16) rfl)) (hw _ (List.mem_of_getElem? (i := 17) rfl)) e0 (by rw [hml]; rfl) (hb hby d5_1) (pc' := 4) rfl (by decide) (W := 0) (Nat.le_of_eq rfl) (by decide) ?_
  intro T1 X1 e1
  refine o_aloadN X1 hx (pc' := 5) (hb hby d5_4) rfl rfl rfl ?_
  refine o_aloadN X1 hx (pc' := 6) (hb hby d5_5) rfl rfl rfl ?_
  refine o_ldcO X1 hx hown (hw _ (List.mem_of_getElem? (i := 33) rfl)) (own_wS hw) e1 SW (own_EW hw) 16 (by decide) (by decide) (by decide) (by decide) (hb hby d5_6) (pc' := 8) rfl ?_
  intro la2 T2 h2 X2 e2 E2 SW hown hC2
  have hZ := SW.2.1
  have ZZ := Nat.le_trans ZZ E2.1
  have KK := KK.ext E2
  have hE := hE.ext E2
  have hN := hN.ext E2
  have hW := hW.ext E2
  have hE2 := hE2.ext E2
  refine o_callSP X2 hx hZ [(.ref a2), (.ref la2)] (rmRN l Z a0 hw h2 n0 ZZ a2 la2) hown (hw _ (List.mem_of_getElem? (i := 34) rfl)) (hw _ (List.mem_of_getElem? (i := 35) rfl)) (hw _ (List.mem_of_getElem? (i := 36) rfl)) (hw _ (List.mem_of_getElem? (i := 37) rfl)) (by decide) pd_11 e2 (by rw [hml]; rfl) rfl rfl rfl (hb hby d5_8) (pc' := 11) rfl 1 (Nat.le_of_eq rfl) (by decide) (by decide) rfl rfl (by decide) (by decide) ?_
  intro T3 X3 e3
  show Dn p e below _ (T3.setTop (mkF m 11 #[.val (.ref a1), .val (.ref a2), .val (.int p3)] [(.ref a2), (.ref a1)]))
  obtain ⟨T4, X4, e4, st4⟩ := castY X3 hx hZ hown (hw _ (List.mem_of_getElem? (i := 38) rfl)) e3 (Ins.self hE2) (g := (mkF m 11 #[.val (.ref a1), .val (.ref a2), .val (.int p3)] [(.ref a2), (.ref a1)])) rfl rfl (hb hby d5_11)
  refine go st4 ?_
  show Dn p e below _ (T4.setTop (mkF m 14 #[.val (.ref a1), .val (.ref a2), .val (.int p3)] [(.ref a2), (.ref a1)]))
  refine o_putfield X4 hx hZ hown (hw _ (List.mem_of_getElem? (i := 39) rfl)) e4 hN hE (Or.inr ⟨(hw _ (List.mem_of_getElem? (i := 40) rfl)), rfl, hnm⟩) (hw _ (List.mem_of_getElem? (i := 27) rfl)) (ty := (.object "java/lang/String")) (v' := (.ref a2)) (by decide) rfl rfl (hb hby d5_14) (pc' := 17) rfl ?_
  intro T5 h5 X5 e5 W5 F5 E5
  have NN := Fr.snoc X5 NN g_a1
  have KK := KK.wr W5 (Or.inl (List.mem_of_getElem? (i := 0) rfl))
  have ZZ := Nat.le_trans ZZ (Keep.of_wr W5).1
  have SWo := SW
  have SW := SW.wr W5 (Safe.exa SW.2.1.alike hE (by decide) (by decide))
  have hW := hW.other W5 (Or.inr (slot_ne (Or.inr (hw _ (List.mem_of_getElem? (i := 42) rfl))) (Or.inr (hw _ (List.mem_of_getElem? (i := 40) rfl))) (by decide) (t := .int) (t' := (.object "java/lang/String")) (by decide) (by decide)))
  have hE2 := hE2.wr W5
  have hN := F5
  have hE := E5
  refine o_aloadN X5 hx (pc' := 18) (hb hby d5_17) rfl rfl rfl ?_
  refine o_iloadN X5 hx (pc' := 19) (hb hby d5_18) rfl rfl ?_
  refine o_putfield X5 hx hZ hown (hw _ (List.mem_of_getElem? (i := 41) rfl)) e5 hW hE (Or.inr ⟨(hw _ (List.mem_of_getElem? (i := 42) rfl)), rfl, hnm⟩) (hw _ (List.mem_of_getElem? (i := 27) rfl)) (ty := .int) (v' := (.int p3)) (by decide) rfl rfl (hb hby d5_19) (pc' := 22) rfl ?_
  intro T6 h6 X6 e6 W6 F6 E6
  have NN := Fr.snoc X6 NN g_a1
  have KK := KK.wr W6 (Or.inl (List.mem_of_getElem? (i := 0) rfl))
  have ZZ := Nat.le_trans ZZ (Keep.of_wr W6).1
  have SWo := SW
  have SW := SW.wr W6 (Safe.exa SW.2.1.alike hE (by decide) (by decide))
  have hN := hN.other W6 (Or.inr (slot_ne (Or.inr (hw _ (List.mem_of_getElem? (i := 40) rfl))) (Or.inr (hw _ (List.mem_of_getElem? (i := 42) rfl))) (by decide) (t := (.object "java/lang/String")) (t' := .int) (by decide) (by decide)))
  have hE2 := hE2.wr W6
  have hW := F6
  have hE := E6
  exact finSV X6 hx (own_EW hw) SW e6 hlk hret (hb hby d5_22) (by decide) (by decide) ⟨rfl, NN, KK, hE, hN, hW⟩
theorem d8_0 : decode prog_14_method_6_code 0 = .ok (.aload_n 1, 1) := by decide +kernel
theorem d8_1 : decode prog_14_method_6_code 1 = .ok (.instanceof 2, 3) := by decide +kernel
theorem d8_4 : decode prog_14_method_6_code 4 = .ok (.ifCond .eq 37, 3) := by decide +kernel
theorem d8_41 : decode prog_14_method_6_code 41 = .ok (.iconst 0, 1) := by decide +kernel
theorem d8_42 : decode prog_14_method_6_code 42 = .ok (.ireturn, 1) := by decide +kernel
theorem pn_8 : plainFor (⟨"com/example/deasil/deasil/Node", "equals", "(Ljava/lang/Object;)Z"⟩ : MethodName) = true := plainFor_of_name (by show plainName "com/example/deasil/deasil/Node" = true; first | (simp [plainName, overriddenIn]; done) | decide +kernel)
theorem ef_8_a1_null (m : MethodId) (a1 : Addr) : entryFrame m #[(.ref a1), .null] 3 = mkF m 0 #[.val (.ref a1), .val .null, .unset] [] := by first | (simp [entryFrame, mkF, argsToLocals, Value.category]; done) | rfl
set_option maxRecDepth 65536 in
set_option maxHeartbeats 40000000 in
theorem rmNE0 (l : Launch) (Z : State) (a0 : Array Value) (hw : ∀ d ∈ tables_1, d.before a0 Z = true) (h0 : Heap) (n0 : Nat) (Z0 : n0 ≤ h0.size) (a1 : Addr)  : Ctr l Z (⟨"com/example/deasil/deasil/Node", "equals", "(Ljava/lang/Object;)Z"⟩ : MethodName) prog_14_method_6_code 3 (some .boolean) [] ({ frames := 0, cells := 0, slots := 0, locals := 0 } : Room) #[(.ref a1), .null] h0 (Pure (.int 0) h0) := by
  refine ctr_mk pn_8 (own := "com/example/deasil/deasil/Node") (mn := "equals") rfl rfl ?_
  intro p e s m below meth c T0 X0 hx hby hml hZ hown hnm hret hlk e0
  refine o_entry (ef_8_a1_null m a1) ?_
  refine o_aloadN X0 hx (pc' := 1) (hb hby d8_0) rfl rfl rfl ?_
  refine go (X0.instanceofNull hx (g := (mkF m 1 #[.val (.ref a1), .val .null, .unset] [.null])) rfl rfl (hb hby d8_1)) ?_
  show Dn p e below _ (T0.setTop (mkF m 4 #[.val (.ref a1), .val .null, .unset] [(.int (0 : Int32))]))
  refine o_if_eq X0 hx (pc' := 7) (pt := 41) (hb hby d8_4) rfl (by decide) (by decide) (fun _ => ?_) (fun q => absurd (by decide) q)
  refine o_iconst X0 hx (pc' := 42) (v := (0 : Int32)) (hb hby d8_41) rfl rfl ?_
  exact finN X0 hx hlk (t := .boolean) hret (by simp) (hb hby d8_42) (by decide) (by decide) ⟨rfl, rfl, e0⟩
theorem ef_8 (m : MethodId) (a1 : Addr) (a2 : Addr) : entryFrame m #[(.ref a1), (.ref a2)] 3 = mkF m 0 #[.val (.ref a1), .val (.ref a2), .unset] [] := by first | (simp [entryFrame, mkF, argsToLocals, Value.category]; done) | rfl
set_option maxRecDepth 65536 in
set_option maxHeartbeats 40000000 in
theorem rmNE1 (l : Launch) (Z : State) (a0 : Array Value) (hw : ∀ d ∈ tables_1, d.before a0 Z = true) (h0 : Heap) (n0 : Nat) (Z0 : n0 ≤ h0.size) (a1 : Addr) (a2 : Addr) (hE2 : Exa Z h0 a2 "java/lang/String") : Ctr l Z (⟨"com/example/deasil/deasil/Node", "equals", "(Ljava/lang/Object;)Z"⟩ : MethodName) prog_14_method_6_code 3 (some .boolean) [] ({ frames := 0, cells := 0, slots := 0, locals := 0 } : Room) #[(.ref a1), (.ref a2)] h0 (Pure (.int 0) h0) := by
  refine ctr_mk pn_8 (own := "com/example/deasil/deasil/Node") (mn := "equals") rfl rfl ?_
  intro p e s m below meth c T0 X0 hx hby hml hZ hown hnm hret hlk e0
  refine o_entry (ef_8 m a1 a2) ?_
  refine o_aloadN X0 hx (pc' := 1) (hb hby d8_0) rfl rfl rfl ?_
  obtain ⟨T1, X1, e1, st1⟩ := instNo X0 hx hZ hown (hw _ (List.mem_of_getElem? (i := 51) rfl)) e0 hE2 (own_ns (hw _ (List.mem_of_getElem? (i := 89) rfl)) (hw _ (List.mem_of_getElem? (i := 90) rfl)) (hw _ (List.mem_of_getElem? (i := 27) rfl)) (by decide) (by decide)) (g := (mkF m 1 #[.val (.ref a1), .val (.ref a2), .unset] [(.ref a2)])) rfl rfl (hb hby d8_1)
  refine go st1 ?_
  show Dn p e below _ (T1.setTop (mkF m 4 #[.val (.ref a1), .val (.ref a2), .unset] [(.int (0 : Int32))]))
  refine o_if_eq X1 hx (pc' := 7) (pt := 41) (hb hby d8_4) rfl (by decide) (by decide) (fun _ => ?_) (fun q => absurd (by decide) q)
  refine o_iconst X1 hx (pc' := 42) (v := (0 : Int32)) (hb hby d8_41) rfl rfl ?_
  exact finN X1 hx hlk (t := .boolean) hret (by simp) (hb hby d8_42) (by decide) (by decide) ⟨rfl, rfl, e1⟩
theorem pd_12 : parseMethodDescriptor "(Ljava/lang/Object;)Z" = some ⟨[(.object "java/lang/Object")], some .boolean⟩ := by decide +kernel
theorem d8_7 : decode prog_14_method_6_code 7 = .ok (.aload_n 1, 1) := by decide +kernel
theorem d8_8 : decode prog_14_method_6_code 8 = .ok (.checkcast 2, 3) := by decide +kernel
theorem d8_11 : decode prog_14_method_6_code 11 = .ok (.astore_n 2, 1) := by decide +kernel
theorem d8_12 : decode prog_14_method_6_code 12 = .ok (.aload_n 0, 1) := by decide +kernel
theorem d8_13 : decode prog_14_method_6_code 13 = .ok (.getfield 22, 3) := by decide +kernel
theorem d8_16 : decode prog_14_method_6_code 16 = .ok (.aload_n 2, 1) := by decide +kernel
theorem d8_17 : decode prog_14_method_6_code 17 = .ok (.getfield 22, 3) := by decide +kernel
theorem d8_20 : decode prog_14_method_6_code 20 = .ok (.invokevirtual 43, 3) := by decide +kernel
theorem d8_23 : decode prog_14_method_6_code 23 = .ok (.ifCond .eq 18, 3) := by decide +kernel
theorem d8_26 : decode prog_14_method_6_code 26 = .ok (.aload_n 0, 1) := by decide +kernel
theorem d8_27 : decode prog_14_method_6_code 27 = .ok (.getfield 25, 3) := by decide +kernel
theorem d8_30 : decode prog_14_method_6_code 30 = .ok (.aload_n 2, 1) := by decide +kernel
theorem d8_31 : decode prog_14_method_6_code 31 = .ok (.getfield 25, 3) := by decide +kernel
theorem d8_34 : decode prog_14_method_6_code 34 = .ok (.if_icmp .ne 7, 3) := by decide +kernel
theorem d8_37 : decode prog_14_method_6_code 37 = .ok (.iconst 1, 1) := by decide +kernel
theorem d8_38 : decode prog_14_method_6_code 38 = .ok (.goto 4, 3) := by decide +kernel
theorem ef_8_a1_a1 (m : MethodId) (a1 : Addr) (a1 : Addr) : entryFrame m #[(.ref a1), (.ref a1)] 3 = mkF m 0 #[.val (.ref a1), .val (.ref a1), .unset] [] := by first | (simp [entryFrame, mkF, argsToLocals, Value.category]; done) | rfl
set_option maxRecDepth 65536 in
set_option maxHeartbeats 40000000 in
theorem rmNEs (l : Launch) (Z : State) (a0 : Array Value) (hw : ∀ d ∈ tables_1, d.before a0 Z = true) (h0 : Heap) (n0 : Nat) (Z0 : n0 ≤ h0.size) (a1 : Addr) (s1 : Addr) (bs : List Int32) (t : Nat) (r : Int32) (hE2 : Exa Z h0 a1 "com/example/deasil/deasil/Node") (hN : Fld Z h0 a1 "com/example/deasil/deasil/Node" "name" "Ljava/lang/String;" (.ref s1)) (hW : Fld Z h0 a1 "com/example/deasil/deasil/Node" "weight" "I" (.int r)) (hS : Str Z h0 t s1 bs) : Ctr l Z (⟨"com/example/deasil/deasil/Node", "equals", "(Ljava/lang/Object;)Z"⟩ : MethodName) prog_14_method_6_code 3 (some .boolean) [] ({ frames := 1, cells := 0, slots := 0, locals := 14 } : Room) #[(.ref a1), (.ref a1)] h0 (Pure (.int 1) h0) := by
  refine ctr_mk pn_8 (own := "com/example/deasil/deasil/Node") (mn := "equals") rfl rfl ?_
  intro p e s m below meth c T0 X0 hx hby hml hZ hown hnm hret hlk e0
  refine o_entry (ef_8_a1_a1 m a1 a1) ?_
  refine o_aloadN X0 hx (pc' := 1) (hb hby d8_0) rfl rfl rfl ?_
  obtain ⟨T1, X1, e1, st1⟩ := instY X0 hx hZ hown (hw _ (List.mem_of_getElem? (i := 51) rfl)) e0 (Ins.self hE2) (g := (mkF m 1 #[.val (.ref a1), .val (.ref a1), .unset] [(.ref a1)])) rfl rfl (hb hby d8_1)
  refine go st1 ?_
  show Dn p e below _ (T1.setTop (mkF m 4 #[.val (.ref a1), .val (.ref a1), .unset] [(.int (1 : Int32))]))
  refine o_if_eq X1 hx (pc' := 7) (pt := 41) (hb hby d8_4) rfl (by decide) (by decide) (fun q => absurd q (by decide)) (fun _ => ?_)
  refine o_aloadN X1 hx (pc' := 8) (hb hby d8_7) rfl rfl rfl ?_
  obtain ⟨T2, X2, e2, st2⟩ := castY X1 hx hZ hown (hw _ (List.mem_of_getElem? (i := 51) rfl)) e1 (Ins.self hE2) (g := (mkF m 8 #[.val (.ref a1), .val (.ref a1), .unset] [(.ref a1)])) rfl rfl (hb hby d8_8)
  refine go st2 ?_
  show Dn p e below _ (T2.setTop (mkF m 11 #[.val (.ref a1), .val (.ref a1), .unset] [(.ref a1)]))
  refine o_astoreN X2 hx (pc' := 12) (Ls' := #[.val (.ref a1), .val (.ref a1), .val (.ref a1)]) (hb hby d8_11) rfl rfl rfl ?_
  refine o_aloadN X2 hx (pc' := 13) (hb hby d8_12) rfl rfl rfl ?_
  refine o_getfield X2 hx hZ hown (hw _ (List.mem_of_getElem? (i := 39) rfl)) e2 hN (hb hby d8_13) (pc' := 16) rfl ?_
  intro T3 X3 e3
  refine o_aloadN X3 hx (pc' := 17) (hb hby d8_16) rfl rfl rfl ?_
  refine o_getfield X3 hx hZ hown (hw _ (List.mem_of_getElem? (i := 39) rfl)) e3 hN (hb hby d8_17) (pc' := 20) rfl ?_
  intro T4 X4 e4
  refine o_callVP X4 hx hZ s1 [(.ref s1)] (rmSE1 l Z a0 hw h0 n0 Z0 s1) hown (hw _ (List.mem_of_getElem? (i := 53) rfl)) (hw _ (List.mem_of_getElem? (i := 54) rfl)) (hw _ (List.mem_of_getElem? (i := 56) rfl)) (hw _ (List.mem_of_getElem? (i := 55) rfl)) (hw _ (List.mem_of_getElem? (i := 6) rfl)) (hw _ (List.mem_of_getElem? (i := 57) rfl)) (by decide) hS.exa pd_12 e4 (by rw [hml]; rfl) rfl rfl rfl (hb hby d8_20) (pc' := 23) rfl 0 (Nat.le_of_eq rfl) (by decide) (by decide) rfl rfl (by decide) (by decide) ?_
  intro T5 X5 e5
  show Dn p e below _ (T5.setTop (mkF m 23 #[.val (.ref a1), .val (.ref a1), .val (.ref a1)] [(.int (1 : Int32))]))
  refine o_if_eq X5 hx (pc' := 26) (pt := 41) (hb hby d8_23) rfl (by decide) (by decide) (fun q => absurd q (by decide)) (fun _ => ?_)
  refine o_aloadN X5 hx (pc' := 27) (hb hby d8_26) rfl rfl rfl ?_
  refine o_getfield X5 hx hZ hown (hw _ (List.mem_of_getElem? (i := 41) rfl)) e5 hW (hb hby d8_27) (pc' := 30) rfl ?_
  intro T6 X6 e6
  refine o_aloadN X6 hx (pc' := 31) (hb hby d8_30) rfl rfl rfl ?_
  refine o_getfield X6 hx hZ hown (hw _ (List.mem_of_getElem? (i := 41) rfl)) e6 hW (hb hby d8_31) (pc' := 34) rfl ?_
  intro T7 X7 e7
  refine o_icmp_ne X7 hx (pc' := 37) (pt := 41) (hb hby d8_34) rfl (by decide) (by decide) (fun q => absurd rfl q) (fun _ => ?_)
  refine o_iconst X7 hx (pc' := 38) (v := (1 : Int32)) (hb hby d8_37) rfl rfl ?_
  refine o_goto X7 hx (pc' := 42) (hb hby d8_38) (by decide) (by decide) ?_
  exact finN X7 hx hlk (t := .boolean) hret (by simp) (hb hby d8_42) (by decide) (by decide) ⟨rfl, rfl, e7⟩
set_option maxRecDepth 65536 in
set_option maxHeartbeats 40000000 in
theorem rmNE2 (l : Launch) (Z : State) (a0 : Array Value) (hw : ∀ d ∈ tables_1, d.before a0 Z = true) (h0 : Heap) (n0 : Nat) (Z0 : n0 ≤ h0.size) (a1 : Addr) (a2 : Addr) (s1 s2 : Addr) (cs ds : List Int32) (hl : cs.length ≤ 24) (hm : ds.length ≤ 24) (t1 t2 : Nat) (r1 r2 : Int32) (hE2 : Exa Z h0 a2 "com/example/deasil/deasil/Node") (hN1 : Fld Z h0 a1 "com/example/deasil/deasil/Node" "name" "Ljava/lang/String;" (.ref s1)) (hN2 : Fld Z h0 a2 "com/example/deasil/deasil/Node" "name" "Ljava/lang/String;" (.ref s2)) (hW1 : Fld Z h0 a1 "com/example/deasil/deasil/Node" "weight" "I" (.int r1)) (hW2 : Fld Z h0 a2 "com/example/deasil/deasil/Node" "weight" "I" (.int r2)) (hS1 : Str Z h0 t1 s1 cs) (hS2 : Str Z h0 t2 s2 ds) (ne : ¬ s1 = s2) (cs0 : Int32) (S0 : Sta Z Z.heap "java/lang/String" "COMPACT_STRINGS" "Z" (.int cs0)) (hcs : ¬ cs0 = 0) (O : Old Z n0 h0) : Ctr l Z (⟨"com/example/deasil/deasil/Node", "equals", "(Ljava/lang/Object;)Z"⟩ : MethodName) prog_14_method_6_code 3 (some .boolean) [] ({ frames := 2, cells := 0, slots := 0, locals := 28 } : Room) #[(.ref a1), (.ref a2)] h0 (Pure (.int (if cs = ds ∧ r1 = r2 then 1 else 0)) h0) := by
  refine ctr_mk pn_8 (own := "com/example/deasil/deasil/Node") (mn := "equals") rfl rfl ?_
  intro p e s m below meth c T0 X0 hx hby hml hZ hown hnm hret hlk e0
  refine o_entry (ef_8 m a1 a2) ?_
  refine o_aloadN X0 hx (pc' := 1) (hb hby d8_0) rfl rfl rfl ?_
  obtain ⟨T1, X1, e1, st1⟩ := instY X0 hx hZ hown (hw _ (List.mem_of_getElem? (i := 51) rfl)) e0 (Ins.self hE2) (g := (mkF m 1 #[.val (.ref a1), .val (.ref a2), .unset] [(.ref a2)])) rfl rfl (hb hby d8_1)
  refine go st1 ?_
  show Dn p e below _ (T1.setTop (mkF m 4 #[.val (.ref a1), .val (.ref a2), .unset] [(.int (1 : Int32))]))
  refine o_if_eq X1 hx (pc' := 7) (pt := 41) (hb hby d8_4) rfl (by decide) (by decide) (fun q => absurd q (by decide)) (fun _ => ?_)
  refine o_aloadN X1 hx (pc' := 8) (hb hby d8_7) rfl rfl rfl ?_
  obtain ⟨T2, X2, e2, st2⟩ := castY X1 hx hZ hown (hw _ (List.mem_of_getElem? (i := 51) rfl)) e1 (Ins.self hE2) (g := (mkF m 8 #[.val (.ref a1), .val (.ref a2), .unset] [(.ref a2)])) rfl rfl (hb hby d8_8)
  refine go st2 ?_
  show Dn p e below _ (T2.setTop (mkF m 11 #[.val (.ref a1), .val (.ref a2), .unset] [(.ref a2)]))
  refine o_astoreN X2 hx (pc' := 12) (Ls' := #[.val (.ref a1), .val (.ref a2), .val (.ref a2)]) (hb hby d8_11) rfl rfl rfl ?_
  refine o_aloadN X2 hx (pc' := 13) (hb hby d8_12) rfl rfl rfl ?_
  refine o_getfield X2 hx hZ hown (hw _ (List.mem_of_getElem? (i := 39) rfl)) e2 hN1 (hb hby d8_13) (pc' := 16) rfl ?_
  intro T3 X3 e3
  refine o_aloadN X3 hx (pc' := 17) (hb hby d8_16) rfl rfl rfl ?_
  refine o_getfield X3 hx hZ hown (hw _ (List.mem_of_getElem? (i := 39) rfl)) e3 hN2 (hb hby d8_17) (pc' := 20) rfl ?_
  intro T4 X4 e4
  refine o_callVP X4 hx hZ s1 [(.ref s2)] (rmSE2 l Z a0 hw h0 n0 Z0 s1 s2 cs ds hl hm t1 t2 hS1 hS2 ne cs0 S0 hcs O) hown (hw _ (List.mem_of_getElem? (i := 53) rfl)) (hw _ (List.mem_of_getElem? (i := 54) rfl)) (hw _ (List.mem_of_getElem? (i := 56) rfl)) (hw _ (List.mem_of_getElem? (i := 55) rfl)) (hw _ (List.mem_of_getElem? (i := 6) rfl)) (hw _ (List.mem_of_getElem? (i := 57) rfl)) (by decide) hS1.exa pd_12 e4 (by rw [hml]; rfl) rfl rfl rfl (hb hby d8_20) (pc' := 23) rfl 0 (Nat.le_of_eq rfl) (by decide) (by decide) rfl rfl (by decide) (by decide) ?_
  intro T5 X5 e5
  show Dn p e below _ (T5.setTop (mkF m 23 #[.val (.ref a1), .val (.ref a2), .val (.ref a2)] [(.int (if cs = ds then 1 else 0))]))
  by_cases hq : cs = ds
  · rw [if_pos hq]
    show Dn p e below _ (T5.setTop (mkF m 23 #[.val (.ref a1), .val (.ref a2), .val (.ref a2)] [(.int (1 : Int32))]))
    refine o_if_eq X5 hx (pc' := 26) (pt := 41) (hb hby d8_23) rfl (by decide) (by decide) (fun q => absurd q (by decide)) (fun _ => ?_)
    refine o_aloadN X5 hx (pc' := 27) (hb hby d8_26) rfl rfl rfl ?_
    refine o_getfield X5 hx hZ hown (hw _ (List.mem_of_getElem? (i := 41) rfl)) e5 hW1 (hb hby d8_27) (pc' := 30) rfl ?_
    intro T6 X6 e6
    refine o_aloadN X6 hx (pc' := 31) (hb hby d8_30) rfl rfl rfl ?_
    refine o_getfield X6 hx hZ hown (hw _ (List.mem_of_getElem? (i := 41) rfl)) e6 hW2 (hb hby d8_31) (pc' := 34) rfl ?_
    intro T7 X7 e7
    refine o_icmp_ne X7 hx (pc' := 37) (pt := 41) (hb hby d8_34) rfl (by decide) (by decide) (fun hc34 => ?_) (fun hc34 => ?_)
    · skip
      refine o_iconst X7 hx (pc' := 42) (v := (0 : Int32)) (hb hby d8_41) rfl rfl ?_
      exact finN X7 hx hlk (t := .boolean) hret (by simp) (hb hby d8_42) (by decide) (by decide) ⟨by rw [if_neg (fun q => hc34 q.2)]; rfl, rfl, e7⟩
    · skip
      refine o_iconst X7 hx (pc' := 38) (v := (1 : Int32)) (hb hby d8_37) rfl rfl ?_
      refine o_goto X7 hx (pc' := 42) (hb hby d8_38) (by decide) (by decide) ?_
      exact finN X7 hx hlk (t := .boolean) hret (by simp) (hb hby d8_42) (by decide) (by decide) ⟨by rw [if_pos ⟨hq, hc34⟩]; rfl, rfl, e7⟩
  · rw [if_neg hq]
    show Dn p e below _ (T5.setTop (mkF m 23 #[.val (.ref a1), .val (.ref a2), .val (.ref a2)] [(.int (0 : Int32))]))
    refine o_if_eq X5 hx (pc' := 26) (pt := 41) (hb hby d8_23) rfl (by decide) (by decide) (fun _ => ?_) (fun q => absurd (by decide) q)
    refine o_iconst X5 hx (pc' := 42) (v := (0 : Int32)) (hb hby d8_41) rfl rfl ?_
    exact finN X5 hx hlk (t := .boolean) hret (by simp) (hb hby d8_42) (by decide) (by decide) ⟨by rw [if_neg (fun q => hq q.1)]; rfl, rfl, e5⟩
theorem own_l3 (x : Int32) : ∃ k, Len (x &&& (3 : Int32)) k := by
  have e := c_mask x 3 2 (by decide) (by decide)
  have q : (x &&& (3 : Int32)).toInt = 0 ∨ (x &&& (3 : Int32)).toInt = 1 ∨ (x &&& (3 : Int32)).toInt = 2 ∨ (x &&& (3 : Int32)).toInt = 3 := by omega
  rcases q with q | q | q | q
  · exact ⟨0, Or.inl ⟨Int32.toInt_inj.mp (by rw [q]; decide), rfl⟩⟩
  · exact ⟨1, Or.inr (Or.inl ⟨Int32.toInt_inj.mp (by rw [q]; decide), rfl⟩)⟩
  · exact ⟨2, Or.inr (Or.inr (Or.inl ⟨Int32.toInt_inj.mp (by rw [q]; decide), rfl⟩))⟩
  · exact ⟨3, Or.inr (Or.inr (Or.inr ⟨Int32.toInt_inj.mp (by rw [q]; decide), rfl⟩))⟩
theorem pd_13 : parseMethodDescriptor "(II)Ljava/lang/String;" = some ⟨[.int, .int], some (.object "java/lang/String")⟩ := by decide +kernel
theorem pd_14 : parseMethodDescriptor "(Ljava/lang/String;I)V" = some ⟨[(.object "java/lang/String"), .int], none⟩ := by decide +kernel
theorem pd_15 : parseMethodDescriptor "(IIII)Z" = some ⟨[.int, .int, .int, .int], some .boolean⟩ := by decide +kernel
theorem pn_0 : plainFor x = true := plainFor_of_name (by show plainName "com/example/deasil/deasil/NodeEqualsPinLaw" = true; first | (simp [plainName, overriddenIn]; done) | decide +kernel)
theorem ef_0 (m : MethodId) (p1 : Int32) (p2 : Int32) (p3 : Int32) (p4 : Int32) (p5 : Int32) : entryFrame m #[(.int p1), (.int p2), (.int p3), (.int p4), (.int p5)] maxLocals = mkF m 0 #[.val (.int p1), .val (.int p2), .val (.int p3), .val (.int p4), .val (.int p5), .unset, .unset, .unset, .unset, .unset, .unset, .unset, .unset, .unset, .unset, .unset, .unset] [] := by first | (simp [entryFrame, mkF, argsToLocals, Value.category, maxLocals]; done) | rfl
set_option maxRecDepth 65536 in
set_option maxHeartbeats 40000000 in
theorem rm0 (l : Launch) (Z : State) (a0 : Array Value) (hw : ∀ d ∈ tables_1, d.before a0 Z = true) (ws : List Jvm.Cond) (h0 : Heap) (n0 : Nat) (Z0 : n0 ≤ h0.size) (p1 : Int32) (p2 : Int32) (p3 : Int32) (p4 : Int32) (p5 : Int32) (cs0 : Int32) (S0 : Sta Z Z.heap "java/lang/String" "COMPACT_STRINGS" "Z" (.int cs0)) (hcs : ¬ cs0 = 0) (O : Old Z n0 h0) : CtrS l Z own_EL x code maxLocals ret ws room_1 #[(.int p1), (.int p2), (.int p3), (.int p4), (.int p5)] h0 (fun v h L => v = some (.int 1) ∧ Fr n0 L) := by
  refine ctrS_mk pn_0 (own := "com/example/deasil/deasil/NodeEqualsPinLaw") (mn := "law") rfl rfl ?_
  intro p e s m below meth c T0 X0 hx hby hml hZ hown hnm hret hlk e0 SW
  refine o_entry (ef_0 m p1 p2 p3 p4 p5) ?_
  have NN := Fr.nil n0
  have ZZ := Z0
  have J : ∀ (nA nB : Int32) (kA kB : Nat) (xB wB : Int32), Len nA kA → Len nB kB → Dn p e below (PQS below s Z own_EL h0 (fun v h L => v = some (.int 1) ∧ Fr n0 L) room_1.cells room_1.slots) (T0.setTop (mkF m 60 #[.val (.int p1), .val (.int p2), .val (.int p3), .val (.int p4), .val (.int p5), .val (.int nA), .val (.int xB), .val (.int nB), .val (.int wB), .unset, .unset, .unset, .unset, .unset, .unset, .unset, .unset] [])) := by
    intro nA nB kA kB xB wB hA hB
    refine o_iload X0 hx (pc' := 62) (hb hby at_60) rfl rfl ?_
    refine o_bipush X0 hx (pc' := 64) (v := (6 : Int32)) (hb hby at_62) rfl rfl ?_
    refine o_iushr X0 hx (pc' := 65) (hb hby at_64) rfl ?_
    refine o_iconst X0 hx (pc' := 66) (v := (3 : Int32)) (hb hby at_65) rfl rfl ?_
    refine o_iand X0 hx (pc' := 67) (hb hby at_66) rfl ?_
    refine o_istore X0 hx (pc' := 69) (Ls' := #[.val (.int p1), .val (.int p2), .val (.int p3), .val (.int p4), .val (.int p5), .val (.int nA), .val (.int xB), .val (.int nB), .val (.int wB), .val (.int (((p5.toUInt32 >>> ((6 : Int32) &&& 31).toUInt32).toInt32) &&& (3 : Int32))), .unset, .unset, .unset, .unset, .unset, .unset, .unset]) (hb hby at_67) rfl rfl ?_
    refine o_iload X0 hx (pc' := 71) (hb hby at_69) rfl rfl ?_
    refine o_iloadN X0 hx (pc' := 72) (hb hby at_71) rfl rfl ?_
    refine o_callSS X0 hx (own_EW hw) SW [(.int nA), (.int p1)] (rmMK l Z a0 hw h0 n0 ZZ nA p1 kA hA cs0 S0 hcs O) hown (hw _ (List.mem_of_getElem? (i := 0) rfl)) (hw _ (List.mem_of_getElem? (i := 1) rfl)) (hw _ (List.mem_of_getElem? (i := 2) rfl)) (hw _ (List.mem_of_getElem? (i := 3) rfl)) (by decide) pd_13 e0 (by rw [hml]; rfl) rfl rfl rfl (hb hby at_72) (pc' := 75) rfl 0 (Nat.le_of_eq rfl) (by decide) (by decide) (by decide) (by decide) ?_
    intro T1 v1 L1 X1 hQ1 SW hown hC1
    have hZ := SW.2.1
    obtain ⟨s1, rfl, sz1, Nq, Kq, S1⟩ := hQ1
    have NN := Fr.app NN Nq
    have ZZ := Nat.le_trans ZZ Kq.1
    have O := O.keep Kq (fun x hx => nomatch hx)
    show Dn p e below _ (T1.setTop (mkF m 75 #[.val (.int p1), .val (.int p2), .val (.int p3), .val (.int p4), .val (.int p5), .val (.int nA), .val (.int xB), .val (.int nB), .val (.int wB), .val (.int (((p5.toUInt32 >>> ((6 : Int32) &&& 31).toUInt32).toInt32) &&& (3 : Int32))), .unset, .unset, .unset, .unset, .unset, .unset, .unset] [(.ref s1)]))
    refine o_astore X1 hx (pc' := 77) (Ls' := #[.val (.int p1), .val (.int p2), .val (.int p3), .val (.int p4), .val (.int p5), .val (.int nA), .val (.int xB), .val (.int nB), .val (.int wB), .val (.int (((p5.toUInt32 >>> ((6 : Int32) &&& 31).toUInt32).toInt32) &&& (3 : Int32))), .val (.ref s1), .unset, .unset, .unset, .unset, .unset, .unset]) (hb hby at_75) rfl rfl rfl ?_
    refine o_iload X1 hx (pc' := 79) (hb hby at_77) rfl rfl ?_
    refine o_iload X1 hx (pc' := 81) (hb hby at_79) rfl rfl ?_
    refine o_callSS X1 hx (own_EW hw) SW [(.int nB), (.int xB)] (rmMK l Z a0 hw T1.heap n0 ZZ nB xB kB hB cs0 S0 hcs O) hown (hw _ (List.mem_of_getElem? (i := 0) rfl)) (hw _ (List.mem_of_getElem? (i := 1) rfl)) (hw _ (List.mem_of_getElem? (i := 2) rfl)) (hw _ (List.mem_of_getElem? (i := 3) rfl)) (by decide) pd_13 rfl (by rw [hml]; rfl) rfl rfl rfl (hb hby at_81) (pc' := 84) rfl 0 (Nat.le_of_eq rfl) (by decide) (by decide) (by decide) (by decide) ?_
    intro T2 v2 L2 X2 hQ2 SW hown hC2
    have hZ := SW.2.1
    obtain ⟨s2, rfl, sz2, Nr, Kr, S2⟩ := hQ2
    have ne12 : ¬ s1 = s2 := Nat.ne_of_lt (Nat.lt_of_lt_of_le S1.lt sz2)
    have S1 := S1.keep Kr (fun x hx => nomatch hx)
    have NN := Fr.app NN Nr
    have ZZ := Nat.le_trans ZZ Kr.1
    have O := O.keep Kr (fun x hx => nomatch hx)
    show Dn p e below _ (T2.setTop (mkF m 84 #[.val (.int p1), .val (.int p2), .val (.int p3), .val (.int p4), .val (.int p5), .val (.int nA), .val (.int xB), .val (.int nB), .val (.int wB), .val (.int (((p5.toUInt32 >>> ((6 : Int32) &&& 31).toUInt32).toInt32) &&& (3 : Int32))), .val (.ref s1), .unset, .unset, .unset, .unset, .unset, .unset] [(.ref s2)]))
    refine o_astore X2 hx (pc' := 86) (Ls' := #[.val (.int p1), .val (.int p2), .val (.int p3), .val (.int p4), .val (.int p5), .val (.int nA), .val (.int xB), .val (.int nB), .val (.int wB), .val (.int (((p5.toUInt32 >>> ((6 : Int32) &&& 31).toUInt32).toInt32) &&& (3 : Int32))), .val (.ref s1), .val (.ref s2), .unset, .unset, .unset, .unset, .unset]) (hb hby at_84) rfl rfl rfl ?_
    refine o_new X2 hx hZ hown (hw _ (List.mem_of_getElem? (i := 26) rfl)) (hw _ (List.mem_of_getElem? (i := 27) rfl)) (hw _ (List.mem_of_getElem? (i := 28) rfl)) rfl (hb hby at_86) (pc' := 89) rfl (by decide) (by decide) ?_
    intro T3 h3 b3 g3 X3 e3 E3 A3 D3
    have g_b3 : n0 ≤ b3 := Nat.le_trans ZZ (Nat.le_of_eq g3.symm)
    have ZZ := Nat.le_trans ZZ E3.1
    have SW := SW.ext E3
    have O := O.ext E3
    have hE1 := A3
    have hN1 : Fld Z h3 b3 "com/example/deasil/deasil/Node" "name" "Ljava/lang/String;" .null := D3 (Or.inr (hw _ (List.mem_of_getElem? (i := 40) rfl))) (ty := (.object "java/lang/String")) (by decide)
    have hW1 : Fld Z h3 b3 "com/example/deasil/deasil/Node" "weight" "I" (.int 0) := D3 (Or.inr (hw _ (List.mem_of_getElem? (i := 42) rfl))) (ty := .int) (by decide)
    have S1 := S1.ext E3
    have S2 := S2.ext E3
    have q1 := Nat.le_trans Kr.1 (Nat.le_of_eq g3.symm)
    have q2 := Nat.le_of_eq g3.symm
    refine o_dup X3 hx (pc' := 90) (hb hby at_89) rfl rfl ?_
    refine o_aload X3 hx (pc' := 92) (hb hby at_90) rfl rfl rfl ?_
    refine o_iloadN X3 hx (pc' := 93) (hb hby at_92) rfl rfl ?_
    refine o_callIS X3 hx (own_EW hw) SW b3 [(.ref s1), (.int p3)] (rmNI l Z a0 hw h3 n0 ZZ b3 s1 p3 hE1 hN1 hW1 S1.exa g_b3) rfl hown (hw _ (List.mem_of_getElem? (i := 29) rfl)) (hw _ (List.mem_of_getElem? (i := 30) rfl)) (hw _ (List.mem_of_getElem? (i := 28) rfl)) (hw _ (List.mem_of_getElem? (i := 31) rfl)) (by decide) pd_14 e3 (by rw [hml]; rfl) rfl rfl rfl (hb hby at_93) (pc' := 96) rfl 1 (Nat.le_of_eq rfl) (by decide) (by decide) (by decide) (by decide) ?_
    intro T4 v4 L4 X4 hQ4 SW hown hC4
    have hZ := SW.2.1
    obtain ⟨rfl, Nu, Ku, iE, iN, iW⟩ := hQ4
    have S1 := S1.keep Ku (own_one q1)
    have S2 := S2.keep Ku (own_one q2)
    have NN := Fr.app NN Nu
    have ZZ := Nat.le_trans ZZ Ku.1
    have O := O.keep Ku (by intro x hx; simp only [List.mem_cons, List.not_mem_nil, or_false] at hx; subst hx; exact g_b3)
    have hE1 := hE1.keep Ku
    have hN1 := iN
    have hW1 := iW
    show Dn p e below _ (T4.setTop (mkF m 96 #[.val (.int p1), .val (.int p2), .val (.int p3), .val (.int p4), .val (.int p5), .val (.int nA), .val (.int xB), .val (.int nB), .val (.int wB), .val (.int (((p5.toUInt32 >>> ((6 : Int32) &&& 31).toUInt32).toInt32) &&& (3 : Int32))), .val (.ref s1), .val (.ref s2), .unset, .unset, .unset, .unset, .unset] [(.ref b3)]))
    refine o_astore X4 hx (pc' := 98) (Ls' := #[.val (.int p1), .val (.int p2), .val (.int p3), .val (.int p4), .val (.int p5), .val (.int nA), .val (.int xB), .val (.int nB), .val (.int wB), .val (.int (((p5.toUInt32 >>> ((6 : Int32) &&& 31).toUInt32).toInt32) &&& (3 : Int32))), .val (.ref s1), .val (.ref s2), .val (.ref b3), .unset, .unset, .unset, .unset]) (hb hby at_96) rfl rfl rfl ?_
    refine o_new X4 hx hZ hown (hw _ (List.mem_of_getElem? (i := 26) rfl)) (hw _ (List.mem_of_getElem? (i := 27) rfl)) (hw _ (List.mem_of_getElem? (i := 28) rfl)) rfl (hb hby at_98) (pc' := 101) rfl (by decide) (by decide) ?_
    intro T5 h5 b5 g5 X5 e5 E5 A5 D5
    have lt_b3_b5 : b3 < b5 := Nat.lt_of_lt_of_le hE1.lt (Nat.le_of_eq g5.symm)
    have ne_b3_b5 : b3 ≠ b5 := Nat.ne_of_lt lt_b3_b5
    have g_b5 : n0 ≤ b5 := Nat.le_trans ZZ (Nat.le_of_eq g5.symm)
    have ZZ := Nat.le_trans ZZ E5.1
    have SW := SW.ext E5
    have O := O.ext E5
    have hE1 := hE1.ext E5
    have hN1 := hN1.ext E5
    have hW1 := hW1.ext E5
    have hE2 := A5
    have hN2 : Fld Z h5 b5 "com/example/deasil/deasil/Node" "name" "Ljava/lang/String;" .null := D5 (Or.inr (hw _ (List.mem_of_getElem? (i := 40) rfl))) (ty := (.object "java/lang/String")) (by decide)
    have hW2 : Fld Z h5 b5 "com/example/deasil/deasil/Node" "weight" "I" (.int 0) := D5 (Or.inr (hw _ (List.mem_of_getElem? (i := 42) rfl))) (ty := .int) (by decide)
    have S1 := S1.ext E5
    have S2 := S2.ext E5
    have q3 := Nat.le_trans q1 (Nat.le_of_lt lt_b3_b5)
    have q4 := Nat.le_trans q2 (Nat.le_of_lt lt_b3_b5)
    refine o_dup X5 hx (pc' := 102) (hb hby at_101) rfl rfl ?_
    refine o_aload X5 hx (pc' := 104) (hb hby at_102) rfl rfl rfl ?_
    refine o_iload X5 hx (pc' := 106) (hb hby at_104) rfl rfl ?_
    refine o_callIS X5 hx (own_EW hw) SW b5 [(.ref s2), (.int wB)] (rmNI l Z a0 hw h5 n0 ZZ b5 s2 wB hE2 hN2 hW2 S2.exa g_b5) rfl hown (hw _ (List.mem_of_getElem? (i := 29) rfl)) (hw _ (List.mem_of_getElem? (i := 30) rfl)) (hw _ (List.mem_of_getElem? (i := 28) rfl)) (hw _ (List.mem_of_getElem? (i := 31) rfl)) (by decide) pd_14 e5 (by rw [hml]; rfl) rfl rfl rfl (hb hby at_106) (pc' := 109) rfl 1 (Nat.le_of_eq rfl) (by decide) (by decide) (by decide) (by decide) ?_
    intro T6 v6 L6 X6 hQ6 SW hown hC6
    have hZ := SW.2.1
    obtain ⟨rfl, Nv, Kv, jE, jN, jW⟩ := hQ6
    have S1 := S1.keep Kv (own_one q3)
    have S2 := S2.keep Kv (own_one q4)
    have NN := Fr.app NN Nv
    have ZZ := Nat.le_trans ZZ Kv.1
    have O := O.keep Kv (by intro x hx; simp only [List.mem_cons, List.not_mem_nil, or_false] at hx; subst hx; exact g_b5)
    have hE1 := hE1.keep Kv
    have hN1 := hN1.keep Kv (by simp only [List.mem_cons, List.not_mem_nil, or_false, not_or]; exact ne_b3_b5)
    have hW1 := hW1.keep Kv (by simp only [List.mem_cons, List.not_mem_nil, or_false, not_or]; exact ne_b3_b5)
    have hE2 := hE2.keep Kv
    have hN2 := jN
    have hW2 := jW
    show Dn p e below _ (T6.setTop (mkF m 109 #[.val (.int p1), .val (.int p2), .val (.int p3), .val (.int p4), .val (.int p5), .val (.int nA), .val (.int xB), .val (.int nB), .val (.int wB), .val (.int (((p5.toUInt32 >>> ((6 : Int32) &&& 31).toUInt32).toInt32) &&& (3 : Int32))), .val (.ref s1), .val (.ref s2), .val (.ref b3), .unset, .unset, .unset, .unset] [(.ref b5)]))
    refine o_astore X6 hx (pc' := 111) (Ls' := #[.val (.int p1), .val (.int p2), .val (.int p3), .val (.int p4), .val (.int p5), .val (.int nA), .val (.int xB), .val (.int nB), .val (.int wB), .val (.int (((p5.toUInt32 >>> ((6 : Int32) &&& 31).toUInt32).toInt32) &&& (3 : Int32))), .val (.ref s1), .val (.ref s2), .val (.ref b3), .val (.ref b5), .unset, .unset, .unset]) (hb hby at_109) rfl rfl rfl ?_
    refine o_iload X6 hx (pc' := 113) (hb hby at_111) rfl rfl ?_
    refine o_iconst X6 hx (pc' := 114) (v := (1 : Int32)) (hb hby at_113) rfl rfl ?_
    refine o_icmp_ne X6 hx (pc' := 117) (pt := 133) (hb hby at_114) rfl (by decide) (by decide) (fun hc114 => ?_) (fun hc114 => ?_)
    · skip
      refine o_iload X6 hx (pc' := 135) (hb hby at_133) rfl rfl ?_
      refine o_iconst X6 hx (pc' := 136) (v := (2 : Int32)) (hb hby at_135) rfl rfl ?_
      refine o_icmp_ne X6 hx (pc' := 139) (pt := 154) (hb hby at_136) rfl (by decide) (by decide) (fun hc136 => ?_) (fun hc136 => ?_)
      · skip
        refine o_iload X6 hx (pc' := 156) (hb hby at_154) rfl rfl ?_
        refine o_iconst X6 hx (pc' := 157) (v := (3 : Int32)) (hb hby at_156) rfl rfl ?_
        refine o_icmp_ne X6 hx (pc' := 160) (pt := 168) (hb hby at_157) rfl (by decide) (by decide) (fun hc157 => ?_) (fun hc157 => ?_)
        · skip
          refine o_iload X6 hx (pc' := 170) (hb hby at_168) rfl rfl ?_
          refine o_iloadN X6 hx (pc' := 171) (hb hby at_170) rfl rfl ?_
          refine o_iload X6 hx (pc' := 173) (hb hby at_171) rfl rfl ?_
          refine o_iload X6 hx (pc' := 175) (hb hby at_173) rfl rfl ?_
          refine o_callSP X6 hx hZ [(.int nA), (.int p1), (.int nB), (.int xB)] (rm7 l Z a0 hw T6.heap nA p1 nB xB) hown (hw _ (List.mem_of_getElem? (i := 43) rfl)) (hw _ (List.mem_of_getElem? (i := 44) rfl)) (hw _ (List.mem_of_getElem? (i := 2) rfl)) (hw _ (List.mem_of_getElem? (i := 45) rfl)) (by decide) pd_15 rfl (by rw [hml]; rfl) rfl rfl rfl (hb hby at_175) (pc' := 178) rfl 0 (Nat.le_of_eq rfl) (by decide) (by decide) rfl rfl (by decide) (by decide) ?_
          intro T7 X7 e7
          show Dn p e below _ (T7.setTop (mkF m 178 #[.val (.int p1), .val (.int p2), .val (.int p3), .val (.int p4), .val (.int p5), .val (.int nA), .val (.int xB), .val (.int nB), .val (.int wB), .val (.int (((p5.toUInt32 >>> ((6 : Int32) &&& 31).toUInt32).toInt32) &&& (3 : Int32))), .val (.ref s1), .val (.ref s2), .val (.ref b3), .val (.ref b5), .unset, .unset, .unset] [(.int (F7 nA p1 nB xB))]))
          rw [own_same hA hB]
          by_cases hbs : own_bs kA p1 = own_bs kB xB
          · rw [if_pos hbs]
            show Dn p e below _ (T7.setTop (mkF m 178 #[.val (.int p1), .val (.int p2), .val (.int p3), .val (.int p4), .val (.int p5), .val (.int nA), .val (.int xB), .val (.int nB), .val (.int wB), .val (.int (((p5.toUInt32 >>> ((6 : Int32) &&& 31).toUInt32).toInt32) &&& (3 : Int32))), .val (.ref s1), .val (.ref s2), .val (.ref b3), .val (.ref b5), .unset, .unset, .unset] [(.int (1 : Int32))]))
            refine o_if_eq X7 hx (pc' := 181) (pt := 191) (hb hby at_178) rfl (by decide) (by decide) (fun q => absurd q (by decide)) (fun _ => ?_)
            refine o_iloadN X7 hx (pc' := 182) (hb hby at_181) rfl rfl ?_
            refine o_iload X7 hx (pc' := 184) (hb hby at_182) rfl rfl ?_
            refine o_icmp_ne X7 hx (pc' := 187) (pt := 191) (hb hby at_184) rfl (by decide) (by decide) (fun hc184 => ?_) (fun hc184 => ?_)
            · skip
              refine o_iconst X7 hx (pc' := 192) (v := (0 : Int32)) (hb hby at_191) rfl rfl ?_
              refine o_istore X7 hx (pc' := 194) (Ls' := #[.val (.int p1), .val (.int p2), .val (.int p3), .val (.int p4), .val (.int p5), .val (.int nA), .val (.int xB), .val (.int nB), .val (.int wB), .val (.int (((p5.toUInt32 >>> ((6 : Int32) &&& 31).toUInt32).toInt32) &&& (3 : Int32))), .val (.ref s1), .val (.ref s2), .val (.ref b3), .val (.ref b5), .val (.int (0 : Int32)), .unset, .unset]) (hb hby at_192) rfl rfl ?_
              refine o_aload X7 hx (pc' := 196) (hb hby at_194) rfl rfl rfl ?_
              refine o_aload X7 hx (pc' := 198) (hb hby at_196) rfl rfl rfl ?_
              refine o_callVP X7 hx hZ b3 [(.ref b5)] (rmNE2 l Z a0 hw T6.heap n0 ZZ b3 b5 s1 s2 (own_bs kA p1) (own_bs kB xB) (own_bl _ _) (own_bl _ _) _ _ p3 wB hE2 hN1 hN2 hW1 hW2 S1 S2 ne12 cs0 S0 hcs O) hown (hw _ (List.mem_of_getElem? (i := 46) rfl)) (hw _ (List.mem_of_getElem? (i := 47) rfl)) (hw _ (List.mem_of_getElem? (i := 49) rfl)) (hw _ (List.mem_of_getElem? (i := 48) rfl)) (hw _ (List.mem_of_getElem? (i := 28) rfl)) (hw _ (List.mem_of_getElem? (i := 50) rfl)) (by decide) hE1 pd_12 e7 (by rw [hml]; rfl) rfl rfl rfl (hb hby at_198) (pc' := 201) rfl 0 (Nat.le_of_eq rfl) (by decide) (by decide) rfl rfl (by decide) (by decide) ?_
              intro T8 X8 e8
              show Dn p e below _ (T8.setTop (mkF m 201 #[.val (.int p1), .val (.int p2), .val (.int p3), .val (.int p4), .val (.int p5), .val (.int nA), .val (.int xB), .val (.int nB), .val (.int wB), .val (.int (((p5.toUInt32 >>> ((6 : Int32) &&& 31).toUInt32).toInt32) &&& (3 : Int32))), .val (.ref s1), .val (.ref s2), .val (.ref b3), .val (.ref b5), .val (.int (0 : Int32)), .unset, .unset] [(.int (if own_bs kA p1 = own_bs kB xB ∧ p3 = wB then 1 else 0))]))
              rw [if_neg (fun q => hc184 q.2)]
              show Dn p e below _ (T8.setTop (mkF m 201 #[.val (.int p1), .val (.int p2), .val (.int p3), .val (.int p4), .val (.int p5), .val (.int nA), .val (.int xB), .val (.int nB), .val (.int wB), .val (.int (((p5.toUInt32 >>> ((6 : Int32) &&& 31).toUInt32).toInt32) &&& (3 : Int32))), .val (.ref s1), .val (.ref s2), .val (.ref b3), .val (.ref b5), .val (.int (0 : Int32)), .unset, .unset] [(.int (0 : Int32))]))
              refine o_istore X8 hx (pc' := 203) (Ls' := #[.val (.int p1), .val (.int p2), .val (.int p3), .val (.int p4), .val (.int p5), .val (.int nA), .val (.int xB), .val (.int nB), .val (.int wB), .val (.int (((p5.toUInt32 >>> ((6 : Int32) &&& 31).toUInt32).toInt32) &&& (3 : Int32))), .val (.ref s1), .val (.ref s2), .val (.ref b3), .val (.ref b5), .val (.int (0 : Int32)), .val (.int (0 : Int32)), .unset]) (hb hby at_201) rfl rfl ?_
              refine o_aload X8 hx (pc' := 205) (hb hby at_203) rfl rfl rfl ?_
              refine o_aload X8 hx (pc' := 207) (hb hby at_205) rfl rfl rfl ?_
              refine o_callVP X8 hx hZ b5 [(.ref b3)] (rmNE2 l Z a0 hw T6.heap n0 ZZ b5 b3 s2 s1 (own_bs kB xB) (own_bs kA p1) (own_bl _ _) (own_bl _ _) _ _ wB p3 hE1 hN2 hN1 hW2 hW1 S2 S1 (fun q => ne12 q.symm) cs0 S0 hcs O) hown (hw _ (List.mem_of_getElem? (i := 46) rfl)) (hw _ (List.mem_of_getElem? (i := 47) rfl)) (hw _ (List.mem_of_getElem? (i := 49) rfl)) (hw _ (List.mem_of_getElem? (i := 48) rfl)) (hw _ (List.mem_of_getElem? (i := 28) rfl)) (hw _ (List.mem_of_getElem? (i := 50) rfl)) (by decide) hE2 pd_12 e8 (by rw [hml]; rfl) rfl rfl rfl (hb hby at_207) (pc' := 210) rfl 0 (Nat.le_of_eq rfl) (by decide) (by decide) rfl rfl (by decide) (by decide) ?_
              intro T9 X9 e9
              show Dn p e below _ (T9.setTop (mkF m 210 #[.val (.int p1), .val (.int p2), .val (.int p3), .val (.int p4), .val (.int p5), .val (.int nA), .val (.int xB), .val (.int nB), .val (.int wB), .val (.int (((p5.toUInt32 >>> ((6 : Int32) &&& 31).toUInt32).toInt32) &&& (3 : Int32))), .val (.ref s1), .val (.ref s2), .val (.ref b3), .val (.ref b5), .val (.int (0 : Int32)), .val (.int (0 : Int32)), .unset] [(.int (if own_bs kB xB = own_bs kA p1 ∧ wB = p3 then 1 else 0))]))
              rw [if_neg (fun q => hc184 q.2.symm)]
              show Dn p e below _ (T9.setTop (mkF m 210 #[.val (.int p1), .val (.int p2), .val (.int p3), .val (.int p4), .val (.int p5), .val (.int nA), .val (.int xB), .val (.int nB), .val (.int wB), .val (.int (((p5.toUInt32 >>> ((6 : Int32) &&& 31).toUInt32).toInt32) &&& (3 : Int32))), .val (.ref s1), .val (.ref s2), .val (.ref b3), .val (.ref b5), .val (.int (0 : Int32)), .val (.int (0 : Int32)), .unset] [(.int (0 : Int32))]))
              refine o_istore X9 hx (pc' := 212) (Ls' := #[.val (.int p1), .val (.int p2), .val (.int p3), .val (.int p4), .val (.int p5), .val (.int nA), .val (.int xB), .val (.int nB), .val (.int wB), .val (.int (((p5.toUInt32 >>> ((6 : Int32) &&& 31).toUInt32).toInt32) &&& (3 : Int32))), .val (.ref s1), .val (.ref s2), .val (.ref b3), .val (.ref b5), .val (.int (0 : Int32)), .val (.int (0 : Int32)), .val (.int (0 : Int32))]) (hb hby at_210) rfl rfl ?_
              refine o_iload X9 hx (pc' := 214) (hb hby at_212) rfl rfl ?_
              refine o_iload X9 hx (pc' := 216) (hb hby at_214) rfl rfl ?_
              refine o_icmp_ne X9 hx (pc' := 219) (pt := 230) (hb hby at_216) rfl (by decide) (by decide) (fun q => absurd (by decide) q) (fun _ => ?_)
              refine o_iload X9 hx (pc' := 221) (hb hby at_219) rfl rfl ?_
              refine o_iload X9 hx (pc' := 223) (hb hby at_221) rfl rfl ?_
              refine o_icmp_ne X9 hx (pc' := 226) (pt := 230) (hb hby at_223) rfl (by decide) (by decide) (fun q => absurd (by decide) q) (fun _ => ?_)
              refine o_iconst X9 hx (pc' := 227) (v := (1 : Int32)) (hb hby at_226) rfl rfl ?_
              refine o_goto X9 hx (pc' := 231) (hb hby at_227) (by decide) (by decide) ?_
              exact finSN X9 hx (own_EW hw) SW e9 hlk (t := .boolean) hret (by simp) (hb hby at_231) (by decide) (by decide) ⟨rfl, NN⟩
            · skip
              refine o_iconst X7 hx (pc' := 188) (v := (1 : Int32)) (hb hby at_187) rfl rfl ?_
              refine o_goto X7 hx (pc' := 192) (hb hby at_188) (by decide) (by decide) ?_
              refine o_istore X7 hx (pc' := 194) (Ls' := #[.val (.int p1), .val (.int p2), .val (.int p3), .val (.int p4), .val (.int p5), .val (.int nA), .val (.int xB), .val (.int nB), .val (.int wB), .val (.int (((p5.toUInt32 >>> ((6 : Int32) &&& 31).toUInt32).toInt32) &&& (3 : Int32))), .val (.ref s1), .val (.ref s2), .val (.ref b3), .val (.ref b5), .val (.int (1 : Int32)), .unset, .unset]) (hb hby at_192) rfl rfl ?_
              refine o_aload X7 hx (pc' := 196) (hb hby at_194) rfl rfl rfl ?_
              refine o_aload X7 hx (pc' := 198) (hb hby at_196) rfl rfl rfl ?_
              refine o_callVP X7 hx hZ b3 [(.ref b5)] (rmNE2 l Z a0 hw T6.heap n0 ZZ b3 b5 s1 s2 (own_bs kA p1) (own_bs kB xB) (own_bl _ _) (own_bl _ _) _ _ p3 wB hE2 hN1 hN2 hW1 hW2 S1 S2 ne12 cs0 S0 hcs O) hown (hw _ (List.mem_of_getElem? (i := 46) rfl)) (hw _ (List.mem_of_getElem? (i := 47) rfl)) (hw _ (List.mem_of_getElem? (i := 49) rfl)) (hw _ (List.mem_of_getElem? (i := 48) rfl)) (hw _ (List.mem_of_getElem? (i := 28) rfl)) (hw _ (List.mem_of_getElem? (i := 50) rfl)) (by decide) hE1 pd_12 e7 (by rw [hml]; rfl) rfl rfl rfl (hb hby at_198) (pc' := 201) rfl 0 (Nat.le_of_eq rfl) (by decide) (by decide) rfl rfl (by decide) (by decide) ?_
              intro T10 X10 e10
              show Dn p e below _ (T10.setTop (mkF m 201 #[.val (.int p1), .val (.int p2), .val (.int p3), .val (.int p4), .val (.int p5), .val (.int nA), .val (.int xB), .val (.int nB), .val (.int wB), .val (.int (((p5.toUInt32 >>> ((6 : Int32) &&& 31).toUInt32).toInt32) &&& (3 : Int32))), .val (.ref s1), .val (.ref s2), .val (.ref b3), .val (.ref b5), .val (.int (1 : Int32)), .unset, .unset] [(.int (if own_bs kA p1 = own_bs kB xB ∧ p3 = wB then 1 else 0))]))
              rw [if_pos ⟨hbs, hc184⟩]
              show Dn p e below _ (T10.setTop (mkF m 201 #[.val (.int p1), .val (.int p2), .val (.int p3), .val (.int p4), .val (.int p5), .val (.int nA), .val (.int xB), .val (.int nB), .val (.int wB), .val (.int (((p5.toUInt32 >>> ((6 : Int32) &&& 31).toUInt32).toInt32) &&& (3 : Int32))), .val (.ref s1), .val (.ref s2), .val (.ref b3), .val (.ref b5), .val (.int (1 : Int32)), .unset, .unset] [(.int (1 : Int32))]))
              refine o_istore X10 hx (pc' := 203) (Ls' := #[.val (.int p1), .val (.int p2), .val (.int p3), .val (.int p4), .val (.int p5), .val (.int nA), .val (.int xB), .val (.int nB), .val (.int wB), .val (.int (((p5.toUInt32 >>> ((6 : Int32) &&& 31).toUInt32).toInt32) &&& (3 : Int32))), .val (.ref s1), .val (.ref s2), .val (.ref b3), .val (.ref b5), .val (.int (1 : Int32)), .val (.int (1 : Int32)), .unset]) (hb hby at_201) rfl rfl ?_
              refine o_aload X10 hx (pc' := 205) (hb hby at_203) rfl rfl rfl ?_
              refine o_aload X10 hx (pc' := 207) (hb hby at_205) rfl rfl rfl ?_
              refine o_callVP X10 hx hZ b5 [(.ref b3)] (rmNE2 l Z a0 hw T6.heap n0 ZZ b5 b3 s2 s1 (own_bs kB xB) (own_bs kA p1) (own_bl _ _) (own_bl _ _) _ _ wB p3 hE1 hN2 hN1 hW2 hW1 S2 S1 (fun q => ne12 q.symm) cs0 S0 hcs O) hown (hw _ (List.mem_of_getElem? (i := 46) rfl)) (hw _ (List.mem_of_getElem? (i := 47) rfl)) (hw _ (List.mem_of_getElem? (i := 49) rfl)) (hw _ (List.mem_of_getElem? (i := 48) rfl)) (hw _ (List.mem_of_getElem? (i := 28) rfl)) (hw _ (List.mem_of_getElem? (i := 50) rfl)) (by decide) hE2 pd_12 e10 (by rw [hml]; rfl) rfl rfl rfl (hb hby at_207) (pc' := 210) rfl 0 (Nat.le_of_eq rfl) (by decide) (by decide) rfl rfl (by decide) (by decide) ?_
              intro T11 X11 e11
              show Dn p e below _ (T11.setTop (mkF m 210 #[.val (.int p1), .val (.int p2), .val (.int p3), .val (.int p4), .val (.int p5), .val (.int nA), .val (.int xB), .val (.int nB), .val (.int wB), .val (.int (((p5.toUInt32 >>> ((6 : Int32) &&& 31).toUInt32).toInt32) &&& (3 : Int32))), .val (.ref s1), .val (.ref s2), .val (.ref b3), .val (.ref b5), .val (.int (1 : Int32)), .val (.int (1 : Int32)), .unset] [(.int (if own_bs kB xB = own_bs kA p1 ∧ wB = p3 then 1 else 0))]))
              rw [if_pos ⟨hbs.symm, hc184.symm⟩]
              show Dn p e below _ (T11.setTop (mkF m 210 #[.val (.int p1), .val (.int p2), .val (.int p3), .val (.int p4), .val (.int p5), .val (.int nA), .val (.int xB), .val (.int nB), .val (.int wB), .val (.int (((p5.toUInt32 >>> ((6 : Int32) &&& 31).toUInt32).toInt32) &&& (3 : Int32))), .val (.ref s1), .val (.ref s2), .val (.ref b3), .val (.ref b5), .val (.int (1 : Int32)), .val (.int (1 : Int32)), .unset] [(.int (1 : Int32))]))
              refine o_istore X11 hx (pc' := 212) (Ls' := #[.val (.int p1), .val (.int p2), .val (.int p3), .val (.int p4), .val (.int p5), .val (.int nA), .val (.int xB), .val (.int nB), .val (.int wB), .val (.int (((p5.toUInt32 >>> ((6 : Int32) &&& 31).toUInt32).toInt32) &&& (3 : Int32))), .val (.ref s1), .val (.ref s2), .val (.ref b3), .val (.ref b5), .val (.int (1 : Int32)), .val (.int (1 : Int32)), .val (.int (1 : Int32))]) (hb hby at_210) rfl rfl ?_
              refine o_iload X11 hx (pc' := 214) (hb hby at_212) rfl rfl ?_
              refine o_iload X11 hx (pc' := 216) (hb hby at_214) rfl rfl ?_
              refine o_icmp_ne X11 hx (pc' := 219) (pt := 230) (hb hby at_216) rfl (by decide) (by decide) (fun q => absurd (by decide) q) (fun _ => ?_)
              refine o_iload X11 hx (pc' := 221) (hb hby at_219) rfl rfl ?_
              refine o_iload X11 hx (pc' := 223) (hb hby at_221) rfl rfl ?_
              refine o_icmp_ne X11 hx (pc' := 226) (pt := 230) (hb hby at_223) rfl (by decide) (by decide) (fun q => absurd (by decide) q) (fun _ => ?_)
              refine o_iconst X11 hx (pc' := 227) (v := (1 : Int32)) (hb hby at_226) rfl rfl ?_
              refine o_goto X11 hx (pc' := 231) (hb hby at_227) (by decide) (by decide) ?_
              exact finSN X11 hx (own_EW hw) SW e11 hlk (t := .boolean) hret (by simp) (hb hby at_231) (by decide) (by decide) ⟨rfl, NN⟩
          · rw [if_neg hbs]
            show Dn p e below _ (T7.setTop (mkF m 178 #[.val (.int p1), .val (.int p2), .val (.int p3), .val (.int p4), .val (.int p5), .val (.int nA), .val (.int xB), .val (.int nB), .val (.int wB), .val (.int (((p5.toUInt32 >>> ((6 : Int32) &&& 31).toUInt32).toInt32) &&& (3 : Int32))), .val (.ref s1), .val (.ref s2), .val (.ref b3), .val (.ref b5), .unset, .unset, .unset] [(.int (0 : Int32))]))
            refine o_if_eq X7 hx (pc' := 181) (pt := 191) (hb hby at_178) rfl (by decide) (by decide) (fun _ => ?_) (fun q => absurd (by decide) q)
            refine o_iconst X7 hx (pc' := 192) (v := (0 : Int32)) (hb hby at_191) rfl rfl ?_
            refine o_istore X7 hx (pc' := 194) (Ls' := #[.val (.int p1), .val (.int p2), .val (.int p3), .val (.int p4), .val (.int p5), .val (.int nA), .val (.int xB), .val (.int nB), .val (.int wB), .val (.int (((p5.toUInt32 >>> ((6 : Int32) &&& 31).toUInt32).toInt32) &&& (3 : Int32))), .val (.ref s1), .val (.ref s2), .val (.ref b3), .val (.ref b5), .val (.int (0 : Int32)), .unset, .unset]) (hb hby at_192) rfl rfl ?_
            refine o_aload X7 hx (pc' := 196) (hb hby at_194) rfl rfl rfl ?_
            refine o_aload X7 hx (pc' := 198) (hb hby at_196) rfl rfl rfl ?_
            refine o_callVP X7 hx hZ b3 [(.ref b5)] (rmNE2 l Z a0 hw T6.heap n0 ZZ b3 b5 s1 s2 (own_bs kA p1) (own_bs kB xB) (own_bl _ _) (own_bl _ _) _ _ p3 wB hE2 hN1 hN2 hW1 hW2 S1 S2 ne12 cs0 S0 hcs O) hown (hw _ (List.mem_of_getElem? (i := 46) rfl)) (hw _ (List.mem_of_getElem? (i := 47) rfl)) (hw _ (List.mem_of_getElem? (i := 49) rfl)) (hw _ (List.mem_of_getElem? (i := 48) rfl)) (hw _ (List.mem_of_getElem? (i := 28) rfl)) (hw _ (List.mem_of_getElem? (i := 50) rfl)) (by decide) hE1 pd_12 e7 (by rw [hml]; rfl) rfl rfl rfl (hb hby at_198) (pc' := 201) rfl 0 (Nat.le_of_eq rfl) (by decide) (by decide) rfl rfl (by decide) (by decide) ?_
            intro T12 X12 e12
            show Dn p e below _ (T12.setTop (mkF m 201 #[.val (.int p1), .val (.int p2), .val (.int p3), .val (.int p4), .val (.int p5), .val (.int nA), .val (.int xB), .val (.int nB), .val (.int wB), .val (.int (((p5.toUInt32 >>> ((6 : Int32) &&& 31).toUInt32).toInt32) &&& (3 : Int32))), .val (.ref s1), .val (.ref s2), .val (.ref b3), .val (.ref b5), .val (.int (0 : Int32)), .unset, .unset] [(.int (if own_bs kA p1 = own_bs kB xB ∧ p3 = wB then 1 else 0))]))
            rw [if_neg (fun q => hbs q.1)]
            show Dn p e below _ (T12.setTop (mkF m 201 #[.val (.int p1), .val (.int p2), .val (.int p3), .val (.int p4), .val (.int p5), .val (.int nA), .val (.int xB), .val (.int nB), .val (.int wB), .val (.int (((p5.toUInt32 >>> ((6 : Int32) &&& 31).toUInt32).toInt32) &&& (3 : Int32))), .val (.ref s1), .val (.ref s2), .val (.ref b3), .val (.ref b5), .val (.int (0 : Int32)), .unset, .unset] [(.int (0 : Int32))]))
            refine o_istore X12 hx (pc' := 203) (Ls' := #[.val (.int p1), .val (.int p2), .val (.int p3), .val (.int p4), .val (.int p5), .val (.int nA), .val (.int xB), .val (.int nB), .val (.int wB), .val (.int (((p5.toUInt32 >>> ((6 : Int32) &&& 31).toUInt32).toInt32) &&& (3 : Int32))), .val (.ref s1), .val (.ref s2), .val (.ref b3), .val (.ref b5), .val (.int (0 : Int32)), .val (.int (0 : Int32)), .unset]) (hb hby at_201) rfl rfl ?_
            refine o_aload X12 hx (pc' := 205) (hb hby at_203) rfl rfl rfl ?_
            refine o_aload X12 hx (pc' := 207) (hb hby at_205) rfl rfl rfl ?_
            refine o_callVP X12 hx hZ b5 [(.ref b3)] (rmNE2 l Z a0 hw T6.heap n0 ZZ b5 b3 s2 s1 (own_bs kB xB) (own_bs kA p1) (own_bl _ _) (own_bl _ _) _ _ wB p3 hE1 hN2 hN1 hW2 hW1 S2 S1 (fun q => ne12 q.symm) cs0 S0 hcs O) hown (hw _ (List.mem_of_getElem? (i := 46) rfl)) (hw _ (List.mem_of_getElem? (i := 47) rfl)) (hw _ (List.mem_of_getElem? (i := 49) rfl)) (hw _ (List.mem_of_getElem? (i := 48) rfl)) (hw _ (List.mem_of_getElem? (i := 28) rfl)) (hw _ (List.mem_of_getElem? (i := 50) rfl)) (by decide) hE2 pd_12 e12 (by rw [hml]; rfl) rfl rfl rfl (hb hby at_207) (pc' := 210) rfl 0 (Nat.le_of_eq rfl) (by decide) (by decide) rfl rfl (by decide) (by decide) ?_
            intro T13 X13 e13
            show Dn p e below _ (T13.setTop (mkF m 210 #[.val (.int p1), .val (.int p2), .val (.int p3), .val (.int p4), .val (.int p5), .val (.int nA), .val (.int xB), .val (.int nB), .val (.int wB), .val (.int (((p5.toUInt32 >>> ((6 : Int32) &&& 31).toUInt32).toInt32) &&& (3 : Int32))), .val (.ref s1), .val (.ref s2), .val (.ref b3), .val (.ref b5), .val (.int (0 : Int32)), .val (.int (0 : Int32)), .unset] [(.int (if own_bs kB xB = own_bs kA p1 ∧ wB = p3 then 1 else 0))]))
            rw [if_neg (fun q => hbs q.1.symm)]
            show Dn p e below _ (T13.setTop (mkF m 210 #[.val (.int p1), .val (.int p2), .val (.int p3), .val (.int p4), .val (.int p5), .val (.int nA), .val (.int xB), .val (.int nB), .val (.int wB), .val (.int (((p5.toUInt32 >>> ((6 : Int32) &&& 31).toUInt32).toInt32) &&& (3 : Int32))), .val (.ref s1), .val (.ref s2), .val (.ref b3), .val (.ref b5), .val (.int (0 : Int32)), .val (.int (0 : Int32)), .unset] [(.int (0 : Int32))]))
            refine o_istore X13 hx (pc' := 212) (Ls' := #[.val (.int p1), .val (.int p2), .val (.int p3), .val (.int p4), .val (.int p5), .val (.int nA), .val (.int xB), .val (.int nB), .val (.int wB), .val (.int (((p5.toUInt32 >>> ((6 : Int32) &&& 31).toUInt32).toInt32) &&& (3 : Int32))), .val (.ref s1), .val (.ref s2), .val (.ref b3), .val (.ref b5), .val (.int (0 : Int32)), .val (.int (0 : Int32)), .val (.int (0 : Int32))]) (hb hby at_210) rfl rfl ?_
            refine o_iload X13 hx (pc' := 214) (hb hby at_212) rfl rfl ?_
            refine o_iload X13 hx (pc' := 216) (hb hby at_214) rfl rfl ?_
            refine o_icmp_ne X13 hx (pc' := 219) (pt := 230) (hb hby at_216) rfl (by decide) (by decide) (fun q => absurd (by decide) q) (fun _ => ?_)
            refine o_iload X13 hx (pc' := 221) (hb hby at_219) rfl rfl ?_
            refine o_iload X13 hx (pc' := 223) (hb hby at_221) rfl rfl ?_
            refine o_icmp_ne X13 hx (pc' := 226) (pt := 230) (hb hby at_223) rfl (by decide) (by decide) (fun q => absurd (by decide) q) (fun _ => ?_)
            refine o_iconst X13 hx (pc' := 227) (v := (1 : Int32)) (hb hby at_226) rfl rfl ?_
            refine o_goto X13 hx (pc' := 231) (hb hby at_227) (by decide) (by decide) ?_
            exact finSN X13 hx (own_EW hw) SW e13 hlk (t := .boolean) hret (by simp) (hb hby at_231) (by decide) (by decide) ⟨rfl, NN⟩
        · skip
          refine o_aload X6 hx (pc' := 162) (hb hby at_160) rfl rfl rfl ?_
          refine o_aload X6 hx (pc' := 164) (hb hby at_162) rfl rfl rfl ?_
          refine o_callVP X6 hx hZ b3 [(.ref b3)] (rmNEs l Z a0 hw T6.heap n0 ZZ b3 s1 _ _ p3 hE1 hN1 hW1 S1) hown (hw _ (List.mem_of_getElem? (i := 46) rfl)) (hw _ (List.mem_of_getElem? (i := 47) rfl)) (hw _ (List.mem_of_getElem? (i := 49) rfl)) (hw _ (List.mem_of_getElem? (i := 48) rfl)) (hw _ (List.mem_of_getElem? (i := 28) rfl)) (hw _ (List.mem_of_getElem? (i := 50) rfl)) (by decide) hE1 pd_12 rfl (by rw [hml]; rfl) rfl rfl rfl (hb hby at_164) (pc' := 167) rfl 0 (Nat.le_of_eq rfl) (by decide) (by decide) rfl rfl (by decide) (by decide) ?_
          intro T14 X14 e14
          show Dn p e below _ (T14.setTop (mkF m 167 #[.val (.int p1), .val (.int p2), .val (.int p3), .val (.int p4), .val (.int p5), .val (.int nA), .val (.int xB), .val (.int nB), .val (.int wB), .val (.int (((p5.toUInt32 >>> ((6 : Int32) &&& 31).toUInt32).toInt32) &&& (3 : Int32))), .val (.ref s1), .val (.ref s2), .val (.ref b3), .val (.ref b5), .unset, .unset, .unset] [(.int (1 : Int32))]))
          exact finSN X14 hx (own_EW hw) SW e14 hlk (t := .boolean) hret (by simp) (hb hby at_167) (by decide) (by decide) ⟨rfl, NN⟩
      · skip
        refine o_aload X6 hx (pc' := 141) (hb hby at_139) rfl rfl rfl ?_
        refine o_aconstNull X6 hx (pc' := 142) (hb hby at_141) rfl ?_
        refine o_callVP X6 hx hZ b3 [.null] (rmNE0 l Z a0 hw T6.heap n0 ZZ b3) hown (hw _ (List.mem_of_getElem? (i := 46) rfl)) (hw _ (List.mem_of_getElem? (i := 47) rfl)) (hw _ (List.mem_of_getElem? (i := 49) rfl)) (hw _ (List.mem_of_getElem? (i := 48) rfl)) (hw _ (List.mem_of_getElem? (i := 28) rfl)) (hw _ (List.mem_of_getElem? (i := 50) rfl)) (by decide) hE1 pd_12 rfl (by rw [hml]; rfl) rfl rfl rfl (hb hby at_142) (pc' := 145) rfl 0 (Nat.le_of_eq rfl) (by decide) (by decide) rfl rfl (by decide) (by decide) ?_
        intro T15 X15 e15
        show Dn p e below _ (T15.setTop (mkF m 145 #[.val (.int p1), .val (.int p2), .val (.int p3), .val (.int p4), .val (.int p5), .val (.int nA), .val (.int xB), .val (.int nB), .val (.int wB), .val (.int (((p5.toUInt32 >>> ((6 : Int32) &&& 31).toUInt32).toInt32) &&& (3 : Int32))), .val (.ref s1), .val (.ref s2), .val (.ref b3), .val (.ref b5), .unset, .unset, .unset] [(.int (0 : Int32))]))
        refine o_if_ne X15 hx (pc' := 148) (pt := 152) (hb hby at_145) rfl (by decide) (by decide) (fun q => absurd (by decide) q) (fun _ => ?_)
        refine o_iconst X15 hx (pc' := 149) (v := (1 : Int32)) (hb hby at_148) rfl rfl ?_
        refine o_goto X15 hx (pc' := 153) (hb hby at_149) (by decide) (by decide) ?_
        exact finSN X15 hx (own_EW hw) SW e15 hlk (t := .boolean) hret (by simp) (hb hby at_153) (by decide) (by decide) ⟨rfl, NN⟩
    · skip
      refine o_aload X6 hx (pc' := 119) (hb hby at_117) rfl rfl rfl ?_
      refine o_aload X6 hx (pc' := 121) (hb hby at_119) rfl rfl rfl ?_
      refine o_callVP X6 hx hZ b3 [(.ref s1)] (rmNE1 l Z a0 hw T6.heap n0 ZZ b3 s1 S1.exa) hown (hw _ (List.mem_of_getElem? (i := 46) rfl)) (hw _ (List.mem_of_getElem? (i := 47) rfl)) (hw _ (List.mem_of_getElem? (i := 49) rfl)) (hw _ (List.mem_of_getElem? (i := 48) rfl)) (hw _ (List.mem_of_getElem? (i := 28) rfl)) (hw _ (List.mem_of_getElem? (i := 50) rfl)) (by decide) hE1 pd_12 rfl (by rw [hml]; rfl) rfl rfl rfl (hb hby at_121) (pc' := 124) rfl 0 (Nat.le_of_eq rfl) (by decide) (by decide) rfl rfl (by decide) (by decide) ?_
      intro T16 X16 e16
      show Dn p e below _ (T16.setTop (mkF m 124 #[.val (.int p1), .val (.int p2), .val (.int p3), .val (.int p4), .val (.int p5), .val (.int nA), .val (.int xB), .val (.int nB), .val (.int wB), .val (.int (((p5.toUInt32 >>> ((6 : Int32) &&& 31).toUInt32).toInt32) &&& (3 : Int32))), .val (.ref s1), .val (.ref s2), .val (.ref b3), .val (.ref b5), .unset, .unset, .unset] [(.int (0 : Int32))]))
      refine o_if_ne X16 hx (pc' := 127) (pt := 131) (hb hby at_124) rfl (by decide) (by decide) (fun q => absurd (by decide) q) (fun _ => ?_)
      refine o_iconst X16 hx (pc' := 128) (v := (1 : Int32)) (hb hby at_127) rfl rfl ?_
      refine o_goto X16 hx (pc' := 132) (hb hby at_128) (by decide) (by decide) ?_
      exact finSN X16 hx (own_EW hw) SW e16 hlk (t := .boolean) hret (by simp) (hb hby at_132) (by decide) (by decide) ⟨rfl, NN⟩
  obtain ⟨kA, hA⟩ := own_l3 p5
  refine o_iload X0 hx (pc' := 2) (hb hby at_0) rfl rfl ?_
  refine o_iconst X0 hx (pc' := 3) (v := (3 : Int32)) (hb hby at_2) rfl rfl ?_
  refine o_iand X0 hx (pc' := 4) (hb hby at_3) rfl ?_
  refine o_istore X0 hx (pc' := 6) (Ls' := #[.val (.int p1), .val (.int p2), .val (.int p3), .val (.int p4), .val (.int p5), .val (.int (p5 &&& (3 : Int32))), .unset, .unset, .unset, .unset, .unset, .unset, .unset, .unset, .unset, .unset, .unset]) (hb hby at_4) rfl rfl ?_
  refine o_iload X0 hx (pc' := 8) (hb hby at_6) rfl rfl ?_
  refine o_iconst X0 hx (pc' := 9) (v := (2 : Int32)) (hb hby at_8) rfl rfl ?_
  refine o_iushr X0 hx (pc' := 10) (hb hby at_9) rfl ?_
  refine o_iconst X0 hx (pc' := 11) (v := (1 : Int32)) (hb hby at_10) rfl rfl ?_
  refine o_iand X0 hx (pc' := 12) (hb hby at_11) rfl ?_
  refine o_if_eq X0 hx (pc' := 15) (pt := 19) (hb hby at_12) rfl (by decide) (by decide) (fun hc12 => ?_) (fun hc12 => ?_)
  · skip
    refine o_iloadN X0 hx (pc' := 20) (hb hby at_19) rfl rfl ?_
    refine o_istore X0 hx (pc' := 22) (Ls' := #[.val (.int p1), .val (.int p2), .val (.int p3), .val (.int p4), .val (.int p5), .val (.int (p5 &&& (3 : Int32))), .val (.int p2), .unset, .unset, .unset, .unset, .unset, .unset, .unset, .unset, .unset, .unset]) (hb hby at_20) rfl rfl ?_
    refine o_iload X0 hx (pc' := 24) (hb hby at_22) rfl rfl ?_
    refine o_iconst X0 hx (pc' := 25) (v := (3 : Int32)) (hb hby at_24) rfl rfl ?_
    refine o_iushr X0 hx (pc' := 26) (hb hby at_25) rfl ?_
    refine o_iconst X0 hx (pc' := 27) (v := (1 : Int32)) (hb hby at_26) rfl rfl ?_
    refine o_iand X0 hx (pc' := 28) (hb hby at_27) rfl ?_
    refine o_if_eq X0 hx (pc' := 31) (pt := 36) (hb hby at_28) rfl (by decide) (by decide) (fun hc28 => ?_) (fun hc28 => ?_)
    · skip
      refine o_iload X0 hx (pc' := 38) (hb hby at_36) rfl rfl ?_
      refine o_iconst X0 hx (pc' := 39) (v := (4 : Int32)) (hb hby at_38) rfl rfl ?_
      refine o_iushr X0 hx (pc' := 40) (hb hby at_39) rfl ?_
      refine o_iconst X0 hx (pc' := 41) (v := (3 : Int32)) (hb hby at_40) rfl rfl ?_
      refine o_iand X0 hx (pc' := 42) (hb hby at_41) rfl ?_
      refine o_istore X0 hx (pc' := 44) (Ls' := #[.val (.int p1), .val (.int p2), .val (.int p3), .val (.int p4), .val (.int p5), .val (.int (p5 &&& (3 : Int32))), .val (.int p2), .val (.int (((p5.toUInt32 >>> ((4 : Int32) &&& 31).toUInt32).toInt32) &&& (3 : Int32))), .unset, .unset, .unset, .unset, .unset, .unset, .unset, .unset, .unset]) (hb hby at_42) rfl rfl ?_
      refine o_iload X0 hx (pc' := 46) (hb hby at_44) rfl rfl ?_
      refine o_iconst X0 hx (pc' := 47) (v := (5 : Int32)) (hb hby at_46) rfl rfl ?_
      refine o_iushr X0 hx (pc' := 48) (hb hby at_47) rfl ?_
      refine o_iconst X0 hx (pc' := 49) (v := (1 : Int32)) (hb hby at_48) rfl rfl ?_
      refine o_iand X0 hx (pc' := 50) (hb hby at_49) rfl ?_
      refine o_if_eq X0 hx (pc' := 53) (pt := 57) (hb hby at_50) rfl (by decide) (by decide) (fun hc50 => ?_) (fun hc50 => ?_)
      · skip
        refine o_iloadN X0 hx (pc' := 58) (hb hby at_57) rfl rfl ?_
        refine o_istore X0 hx (pc' := 60) (Ls' := #[.val (.int p1), .val (.int p2), .val (.int p3), .val (.int p4), .val (.int p5), .val (.int (p5 &&& (3 : Int32))), .val (.int p2), .val (.int (((p5.toUInt32 >>> ((4 : Int32) &&& 31).toUInt32).toInt32) &&& (3 : Int32))), .val (.int p4), .unset, .unset, .unset, .unset, .unset, .unset, .unset, .unset]) (hb hby at_58) rfl rfl ?_
        obtain ⟨kB, hB⟩ := own_l3 ((p5.toUInt32 >>> ((4 : Int32) &&& 31).toUInt32).toInt32)
        exact J _ _ kA kB _ _ hA hB
      · skip
        refine o_iloadN X0 hx (pc' := 54) (hb hby at_53) rfl rfl ?_
        refine o_goto X0 hx (pc' := 58) (hb hby at_54) (by decide) (by decide) ?_
        refine o_istore X0 hx (pc' := 60) (Ls' := #[.val (.int p1), .val (.int p2), .val (.int p3), .val (.int p4), .val (.int p5), .val (.int (p5 &&& (3 : Int32))), .val (.int p2), .val (.int (((p5.toUInt32 >>> ((4 : Int32) &&& 31).toUInt32).toInt32) &&& (3 : Int32))), .val (.int p3), .unset, .unset, .unset, .unset, .unset, .unset, .unset, .unset]) (hb hby at_58) rfl rfl ?_
        obtain ⟨kB, hB⟩ := own_l3 ((p5.toUInt32 >>> ((4 : Int32) &&& 31).toUInt32).toInt32)
        exact J _ _ kA kB _ _ hA hB
    · skip
      refine o_iload X0 hx (pc' := 33) (hb hby at_31) rfl rfl ?_
      refine o_goto X0 hx (pc' := 42) (hb hby at_33) (by decide) (by decide) ?_
      refine o_istore X0 hx (pc' := 44) (Ls' := #[.val (.int p1), .val (.int p2), .val (.int p3), .val (.int p4), .val (.int p5), .val (.int (p5 &&& (3 : Int32))), .val (.int p2), .val (.int (p5 &&& (3 : Int32))), .unset, .unset, .unset, .unset, .unset, .unset, .unset, .unset, .unset]) (hb hby at_42) rfl rfl ?_
      refine o_iload X0 hx (pc' := 46) (hb hby at_44) rfl rfl ?_
      refine o_iconst X0 hx (pc' := 47) (v := (5 : Int32)) (hb hby at_46) rfl rfl ?_
      refine o_iushr X0 hx (pc' := 48) (hb hby at_47) rfl ?_
      refine o_iconst X0 hx (pc' := 49) (v := (1 : Int32)) (hb hby at_48) rfl rfl ?_
      refine o_iand X0 hx (pc' := 50) (hb hby at_49) rfl ?_
      refine o_if_eq X0 hx (pc' := 53) (pt := 57) (hb hby at_50) rfl (by decide) (by decide) (fun hc50 => ?_) (fun hc50 => ?_)
      · skip
        refine o_iloadN X0 hx (pc' := 58) (hb hby at_57) rfl rfl ?_
        refine o_istore X0 hx (pc' := 60) (Ls' := #[.val (.int p1), .val (.int p2), .val (.int p3), .val (.int p4), .val (.int p5), .val (.int (p5 &&& (3 : Int32))), .val (.int p2), .val (.int (p5 &&& (3 : Int32))), .val (.int p4), .unset, .unset, .unset, .unset, .unset, .unset, .unset, .unset]) (hb hby at_58) rfl rfl ?_
        exact J _ _ kA kA _ _ hA hA
      · skip
        refine o_iloadN X0 hx (pc' := 54) (hb hby at_53) rfl rfl ?_
        refine o_goto X0 hx (pc' := 58) (hb hby at_54) (by decide) (by decide) ?_
        refine o_istore X0 hx (pc' := 60) (Ls' := #[.val (.int p1), .val (.int p2), .val (.int p3), .val (.int p4), .val (.int p5), .val (.int (p5 &&& (3 : Int32))), .val (.int p2), .val (.int (p5 &&& (3 : Int32))), .val (.int p3), .unset, .unset, .unset, .unset, .unset, .unset, .unset, .unset]) (hb hby at_58) rfl rfl ?_
        exact J _ _ kA kA _ _ hA hA
  · skip
    refine o_iloadN X0 hx (pc' := 16) (hb hby at_15) rfl rfl ?_
    refine o_goto X0 hx (pc' := 20) (hb hby at_16) (by decide) (by decide) ?_
    refine o_istore X0 hx (pc' := 22) (Ls' := #[.val (.int p1), .val (.int p2), .val (.int p3), .val (.int p4), .val (.int p5), .val (.int (p5 &&& (3 : Int32))), .val (.int p1), .unset, .unset, .unset, .unset, .unset, .unset, .unset, .unset, .unset, .unset]) (hb hby at_20) rfl rfl ?_
    refine o_iload X0 hx (pc' := 24) (hb hby at_22) rfl rfl ?_
    refine o_iconst X0 hx (pc' := 25) (v := (3 : Int32)) (hb hby at_24) rfl rfl ?_
    refine o_iushr X0 hx (pc' := 26) (hb hby at_25) rfl ?_
    refine o_iconst X0 hx (pc' := 27) (v := (1 : Int32)) (hb hby at_26) rfl rfl ?_
    refine o_iand X0 hx (pc' := 28) (hb hby at_27) rfl ?_
    refine o_if_eq X0 hx (pc' := 31) (pt := 36) (hb hby at_28) rfl (by decide) (by decide) (fun hc28 => ?_) (fun hc28 => ?_)
    · skip
      refine o_iload X0 hx (pc' := 38) (hb hby at_36) rfl rfl ?_
      refine o_iconst X0 hx (pc' := 39) (v := (4 : Int32)) (hb hby at_38) rfl rfl ?_
      refine o_iushr X0 hx (pc' := 40) (hb hby at_39) rfl ?_
      refine o_iconst X0 hx (pc' := 41) (v := (3 : Int32)) (hb hby at_40) rfl rfl ?_
      refine o_iand X0 hx (pc' := 42) (hb hby at_41) rfl ?_
      refine o_istore X0 hx (pc' := 44) (Ls' := #[.val (.int p1), .val (.int p2), .val (.int p3), .val (.int p4), .val (.int p5), .val (.int (p5 &&& (3 : Int32))), .val (.int p1), .val (.int (((p5.toUInt32 >>> ((4 : Int32) &&& 31).toUInt32).toInt32) &&& (3 : Int32))), .unset, .unset, .unset, .unset, .unset, .unset, .unset, .unset, .unset]) (hb hby at_42) rfl rfl ?_
      refine o_iload X0 hx (pc' := 46) (hb hby at_44) rfl rfl ?_
      refine o_iconst X0 hx (pc' := 47) (v := (5 : Int32)) (hb hby at_46) rfl rfl ?_
      refine o_iushr X0 hx (pc' := 48) (hb hby at_47) rfl ?_
      refine o_iconst X0 hx (pc' := 49) (v := (1 : Int32)) (hb hby at_48) rfl rfl ?_
      refine o_iand X0 hx (pc' := 50) (hb hby at_49) rfl ?_
      refine o_if_eq X0 hx (pc' := 53) (pt := 57) (hb hby at_50) rfl (by decide) (by decide) (fun hc50 => ?_) (fun hc50 => ?_)
      · skip
        refine o_iloadN X0 hx (pc' := 58) (hb hby at_57) rfl rfl ?_
        refine o_istore X0 hx (pc' := 60) (Ls' := #[.val (.int p1), .val (.int p2), .val (.int p3), .val (.int p4), .val (.int p5), .val (.int (p5 &&& (3 : Int32))), .val (.int p1), .val (.int (((p5.toUInt32 >>> ((4 : Int32) &&& 31).toUInt32).toInt32) &&& (3 : Int32))), .val (.int p4), .unset, .unset, .unset, .unset, .unset, .unset, .unset, .unset]) (hb hby at_58) rfl rfl ?_
        obtain ⟨kB, hB⟩ := own_l3 ((p5.toUInt32 >>> ((4 : Int32) &&& 31).toUInt32).toInt32)
        exact J _ _ kA kB _ _ hA hB
      · skip
        refine o_iloadN X0 hx (pc' := 54) (hb hby at_53) rfl rfl ?_
        refine o_goto X0 hx (pc' := 58) (hb hby at_54) (by decide) (by decide) ?_
        refine o_istore X0 hx (pc' := 60) (Ls' := #[.val (.int p1), .val (.int p2), .val (.int p3), .val (.int p4), .val (.int p5), .val (.int (p5 &&& (3 : Int32))), .val (.int p1), .val (.int (((p5.toUInt32 >>> ((4 : Int32) &&& 31).toUInt32).toInt32) &&& (3 : Int32))), .val (.int p3), .unset, .unset, .unset, .unset, .unset, .unset, .unset, .unset]) (hb hby at_58) rfl rfl ?_
        obtain ⟨kB, hB⟩ := own_l3 ((p5.toUInt32 >>> ((4 : Int32) &&& 31).toUInt32).toInt32)
        exact J _ _ kA kB _ _ hA hB
    · skip
      refine o_iload X0 hx (pc' := 33) (hb hby at_31) rfl rfl ?_
      refine o_goto X0 hx (pc' := 42) (hb hby at_33) (by decide) (by decide) ?_
      refine o_istore X0 hx (pc' := 44) (Ls' := #[.val (.int p1), .val (.int p2), .val (.int p3), .val (.int p4), .val (.int p5), .val (.int (p5 &&& (3 : Int32))), .val (.int p1), .val (.int (p5 &&& (3 : Int32))), .unset, .unset, .unset, .unset, .unset, .unset, .unset, .unset, .unset]) (hb hby at_42) rfl rfl ?_
      refine o_iload X0 hx (pc' := 46) (hb hby at_44) rfl rfl ?_
      refine o_iconst X0 hx (pc' := 47) (v := (5 : Int32)) (hb hby at_46) rfl rfl ?_
      refine o_iushr X0 hx (pc' := 48) (hb hby at_47) rfl ?_
      refine o_iconst X0 hx (pc' := 49) (v := (1 : Int32)) (hb hby at_48) rfl rfl ?_
      refine o_iand X0 hx (pc' := 50) (hb hby at_49) rfl ?_
      refine o_if_eq X0 hx (pc' := 53) (pt := 57) (hb hby at_50) rfl (by decide) (by decide) (fun hc50 => ?_) (fun hc50 => ?_)
      · skip
        refine o_iloadN X0 hx (pc' := 58) (hb hby at_57) rfl rfl ?_
        refine o_istore X0 hx (pc' := 60) (Ls' := #[.val (.int p1), .val (.int p2), .val (.int p3), .val (.int p4), .val (.int p5), .val (.int (p5 &&& (3 : Int32))), .val (.int p1), .val (.int (p5 &&& (3 : Int32))), .val (.int p4), .unset, .unset, .unset, .unset, .unset, .unset, .unset, .unset]) (hb hby at_58) rfl rfl ?_
        exact J _ _ kA kA _ _ hA hA
      · skip
        refine o_iloadN X0 hx (pc' := 54) (hb hby at_53) rfl rfl ?_
        refine o_goto X0 hx (pc' := 58) (hb hby at_54) (by decide) (by decide) ?_
        refine o_istore X0 hx (pc' := 60) (Ls' := #[.val (.int p1), .val (.int p2), .val (.int p3), .val (.int p4), .val (.int p5), .val (.int (p5 &&& (3 : Int32))), .val (.int p1), .val (.int (p5 &&& (3 : Int32))), .val (.int p3), .unset, .unset, .unset, .unset, .unset, .unset, .unset, .unset]) (hb hby at_58) rfl rfl ?_
        exact J _ _ kA kA _ _ hA hA
set_option maxRecDepth 65536 in
set_option maxHeartbeats 40000000 in
theorem comes_1 {Post : Tables → Env → Array Value → State → Outcome → State → Prop} (hpost : ∀ tb e args s v u, (limb_1_1.after args s (.returned v) u = true ∧ limb_1_2.after args s (.returned v) u = true ∧ True) → FramedW s (.returned v) u (Jvm.fieldLocs frame_1_writes args s ++ Jvm.arrayLocs frame_1_arrays args s ++ Jvm.staticLocs frame_1_statics s) 32 2176 → Post tb e args s (.returned v) u) :
    ArmFor flags0 classFile x code maxLocals ret World_1 tables_1 room_1 Calls_1 rest_1 Pre_1 Post := by
  intro l hfl _ _ p e ha hc hk s m args below hf hA hF happ hP
  obtain ⟨hcalls, hrest, hpre⟩ := hP
  obtain ⟨-, -, -, hnamed, -, -, -, hat⟩ := (Spec.applies_iff hf).mp happ
  obtain ⟨hg, hn⟩ := and_e (Cond.before_iff.mp (show (Jvm.Cond.and given_1 narrow_1).before args s = true from hpre))
  obtain ⟨g0, r0⟩ := and_e hg
  obtain ⟨g1, r1⟩ := and_e r0
  obtain ⟨g2, r2⟩ := and_e r1
  obtain ⟨g3, r3⟩ := and_e r2
  obtain ⟨g4, r4⟩ := and_e r3
  have g5 := r4
  obtain ⟨w0, w1, w2, w3, w4, rfl⟩ : ∃ w0 w1 w2 w3 w4 : Value, args = #[w0, w1, w2, w3, w4] := by
    have hs : args.size = 5 := by simpa [Cond.value, given_1] using g0
    obtain ⟨L⟩ := args
    match L, hs with
    | [w0, w1, w2, w3, w4], _ => exact ⟨w0, w1, w2, w3, w4, rfl⟩
  have hw := fun d (hd : d ∈ tables_1) => atoms_spec (ws := Jvm.Cond.code x code maxLocals ret :: tables_1) hat d (List.mem_cons_of_mem _ hd)
  have hfit : Fit s := fun {y c} hc i hi => by
    obtain ⟨ha, rfl⟩ := Array.getElem?_eq_some_iff.mp hc
    have q := List.all_eq_true.mp ((Array.all_eq_true_iff_forall_mem.mp hF) _ (Array.getElem_mem ha)) i (List.mem_range.mpr hi)
    simpa [Array.getElem?_eq_getElem hi] using q
  obtain ⟨i0, ei0⟩ := is_v g1
  obtain rfl : w0 = (.int i0) := Option.some.inj ei0
  obtain ⟨i1, ei1⟩ := is_v g2
  obtain rfl : w1 = (.int i1) := Option.some.inj ei1
  obtain ⟨i2, ei2⟩ := is_v g3
  obtain rfl : w2 = (.int i2) := Option.some.inj ei2
  obtain ⟨i3, ei3⟩ := is_v g4
  obtain rfl : w3 = (.int i3) := Option.some.inj ei3
  obtain ⟨i4, ei4⟩ := is_v g5
  obtain rfl : w4 = (.int i4) := Option.some.inj ei4
  obtain ⟨hsets, hown0⟩ := atoms_of _ (rest_1_c_eq ▸ (show rest_1_c.before _ s = true from hrest))
  have n5 := not_v (Cond.before_iff.mp (hsets _ (List.mem_of_getElem? (i := 2) rfl)))
  obtain ⟨c0, ec0⟩ := is_v (Cond.before_iff.mp (hsets _ (List.mem_of_getElem? (i := 1) rfl)))
  have S0 : Sta s s.heap "java/lang/String" "COMPACT_STRINGS" "Z" (.int c0) := Sta.start ec0 (Or.inl (hsets _ (List.mem_of_getElem? (i := 0) rfl)))
  have hcs : ¬ (c0 = (0 : Int32)) := gotF (Cond.eq_ints ec0 (Term.int_eval (0))) n5
  have hcl : constsHeld consts_1 s := hcalls.1
  have hCH : CHv s own_EL s.vm s.heap := CHv.start (own_EW hw) (by
    intro p hp
    simp only [own_EL, List.mem_cons, List.not_mem_nil, or_false] at hp
    subst hp
    exact hcl _ (List.mem_of_getElem? (i := 1) rfl)) (hsets _ (List.mem_of_getElem? (i := 2) rfl)) (hw _ (List.mem_of_getElem? (i := 19) rfl)) (hw _ (List.mem_of_getElem? (i := 5) rfl))
  obtain ⟨n, o, h1, h2, h3, v, L, rfl, hQ, -, hq⟩ := rm0 l s _ hw tables_1 s.heap s.heap.size (Nat.le_refl _) i0 i1 i2 i3 i4 c0 S0 hcs (Old.start s) p e ha hc hk s m _ below hf ((Spec.applies_iff_loose hf).mp happ).1 ⟨rfl, State.Warmed39.refl s, rfl, hCH⟩ trivial
  obtain ⟨rfl, N⟩ := hQ
  refine ⟨n, _, h1, h2, h3, hpost _ _ _ _ _ _ ⟨Cond.after_iff.mpr rfl, Cond.after_iff.mpr (eq_i res_at (Term.int_eval (1)) rfl), trivial⟩ ⟨hq.1, hq.2.1, hq.2.2.1, (hq.2.2.2.sift fun y hy => Or.inr (N y hy)).mono (by decide) (by decide)⟩⟩
theorem main_1_1 : Claimed_1_1 := comes_1 fun _ _ _ _ _ _ h hF => ⟨h.1, hF⟩
theorem main_1_2 : Claimed_1_2 := comes_1 fun _ _ _ _ _ _ h hF => ⟨h.2.1, hF⟩
end Jvm.Pilot.@@N@@
namespace Jvm.Pilot.@@N@@
open Jvm Jvm.ClassFile Sem Op Lib Jvm.Free Jvm.Stand Jvm.Pilot.@@N@@.Jvm.D
/-! MADE BY PROGRAM (witnessworld.py) out of the Statement's table words and the real class files: 21 classes; the members and pool entries that the words name. The judged class is class 1, her method 4. -/
namespace start1
open Jvm.ClassFile
def u (s : String) : CpInfo := .utf8 (stringToUtf16 s)
/-- a pool by its gaps: so many unusable entries, then the entry; so many at the end -/
def gap : Nat → List CpInfo → List CpInfo
  | 0, r => r
  | n + 1, r => .unusable :: gap n r
def poolList (es : List (Nat × CpInfo)) (last : Nat) : List CpInfo := es.foldr (fun e r => gap e.1 (e.2 :: r)) (gap last [])
def pool (es : List (Nat × CpInfo)) (last : Nat) : Array CpInfo := ⟨poolList es last⟩
def fileOf (pool : Array CpInfo) (this : Nat) (attrs : Array Attribute := #[]) (ms : Array MethodInfo := #[]) (fl : Nat := 33) (sup : Nat := 0) (ifs : Array Nat := #[]) (fds : Array FieldInfo := #[]) : ClassFile where
  minorVersion := 0
  majorVersion := 65
  constantPool := pool
  accessFlags := fl
  thisClass := this
  superClass := sup
  interfaces := ifs
  fields := fds
  methods := ms
  attributes := attrs
def plain (name : String) (sup : Option ClassId) : Class where
  name := name
  kind := .ordinary
  loader := none
  accessFlags := 33
  super := sup
  interfaces := #[]
  cf := none
  fields := #[]
  methods := #[]
  instanceTypes := #[]
  staticTypes := #[]
  resolved := #[]
  callSites := []
  init := .initialized
  statics := none
  mirror := none

def pool0 : Array CpInfo := pool [(5, u "<init>"), (0, u "()V"), (1, .class_ 10), (1, u "java/lang/Object")] 113

def k0c0 : Code := { maxStack := 0, maxLocals := 1, code := object_method_1_code, exceptionTable := #[], attributes := #[] }
def k0m0 : Method := { name := "<init>", desc := "()V", sig := { parameters := [], returnType := none }, accessFlags := 1, code := some k0c0 }
/-- java/lang/Object -/
def k0 : Class := { plain "java/lang/Object" none with
  accessFlags := 33
  interfaces := #[]
  cf := some (fileOf pool0 8 #[] #[{ accessFlags := 1, nameIndex := 5, descriptorIndex := 6, attributes := #[] }] 33 0 #[] #[])
  fields := #[]
  methods := #[k0m0]
  instanceTypes := #[]
  staticTypes := #[]
  resolved := Array.replicate 124 none
  statics := none }

def pool1 : Array CpInfo := pool [(2, .class_ 4), (1, u "java/lang/Object"), (0, u "<init>"), (0, u "()V"), (0, .class_ 8), (0, u "java/lang/String"), (0, .methodref 7 10), (0, .nameAndType 5 11), (0, u "([C)V"), (0, .methodref 13 14), (0, .class_ 15), (0, .nameAndType 16 17), (0, u "com/example/deasil/deasil/NodeEqualsPinLaw"), (0, u "ch"), (0, u "(II)C"), (0, .methodref 7 19), (0, .nameAndType 20 21), (0, u "valueOf"), (0, u "(C)Ljava/lang/String;"), (0, .methodref 13 23), (0, .nameAndType 24 25), (0, u "mk"), (0, u "(II)Ljava/lang/String;"), (0, .class_ 27), (0, u "com/example/deasil/deasil/Node"), (0, .methodref 26 29), (0, .nameAndType 5 30), (0, u "(Ljava/lang/String;I)V"), (0, .methodref 26 32), (0, .nameAndType 33 34), (0, u "equals"), (0, u "(Ljava/lang/Object;)Z"), (0, .methodref 13 36), (0, .nameAndType 37 38), (0, u "sameName"), (0, u "(IIII)Z"), (3, u "law"), (0, u "(IIIII)Z")] 2

def k1m0 : Method := { name := "<init>", desc := "()V", sig := { parameters := [], returnType := none }, accessFlags := 1, code := none }
def k1c1 : Code := { maxStack := 3, maxLocals := 2, code := method_2_code, exceptionTable := #[], attributes := #[] }
def k1m1 : Method := { name := "ch", desc := "(II)C", sig := { parameters := [.int, .int], returnType := some .char }, accessFlags := 10, code := some k1c1 }
def k1c2 : Code := { maxStack := 7, maxLocals := 2, code := method_3_code, exceptionTable := #[], attributes := #[] }
def k1m2 : Method := { name := "mk", desc := "(II)Ljava/lang/String;", sig := { parameters := [.int, .int], returnType := some (.object "java/lang/String") }, accessFlags := 10, code := some k1c2 }
def k1c3 : Code := { maxStack := 3, maxLocals := 4, code := method_4_code, exceptionTable := #[], attributes := #[] }
def k1m3 : Method := { name := "sameName", desc := "(IIII)Z", sig := { parameters := [.int, .int, .int, .int], returnType := some .boolean }, accessFlags := 10, code := some k1c3 }
def k1c4 : Code := { maxStack := 4, maxLocals := 17, code := code, exceptionTable := #[], attributes := #[] }
def k1m4 : Method := { name := "law", desc := "(IIIII)Z", sig := { parameters := [.int, .int, .int, .int, .int], returnType := some .boolean }, accessFlags := 9, code := some k1c4 }
/-- com/example/deasil/deasil/NodeEqualsPinLaw -/
def k1 : Class := { plain "com/example/deasil/deasil/NodeEqualsPinLaw" (some 0) with
  accessFlags := 49
  interfaces := #[]
  cf := some (fileOf pool1 13 #[] #[{ accessFlags := 1, nameIndex := 5, descriptorIndex := 6, attributes := #[] }, { accessFlags := 10, nameIndex := 16, descriptorIndex := 17, attributes := #[] }, { accessFlags := 10, nameIndex := 24, descriptorIndex := 25, attributes := #[] }, { accessFlags := 10, nameIndex := 37, descriptorIndex := 38, attributes := #[] }, { accessFlags := 9, nameIndex := 42, descriptorIndex := 43, attributes := #[] }] 49 2 #[] #[])
  fields := #[]
  methods := #[k1m0, k1m1, k1m2, k1m3, k1m4]
  instanceTypes := #[]
  staticTypes := #[]
  resolved := Array.replicate 46 none
  statics := none }

def pool2 : Array CpInfo := pool [(1, .class_ 2), (0, u "java/io/Serializable"), (0, .class_ 4), (0, u "java/lang/Object")] 2

/-- java/io/Serializable -/
def k2 : Class := { plain "java/io/Serializable" (some 0) with
  accessFlags := 1537
  interfaces := #[]
  cf := some (fileOf pool2 1 #[] #[] 1537 3 #[] #[])
  fields := #[]
  methods := #[]
  instanceTypes := #[]
  staticTypes := #[]
  resolved := Array.replicate 7 none
  statics := none }

def pool3 : Array CpInfo := pool [(1, .class_ 2), (0, u "java/lang/Comparable"), (0, .class_ 4), (0, u "java/lang/Object")] 7

/-- java/lang/Comparable -/
def k3 : Class := { plain "java/lang/Comparable" (some 0) with
  accessFlags := 1537
  interfaces := #[]
  cf := some (fileOf pool3 1 #[] #[] 1537 3 #[] #[])
  fields := #[]
  methods := #[]
  instanceTypes := #[]
  staticTypes := #[]
  resolved := Array.replicate 12 none
  statics := none }

def pool4 : Array CpInfo := pool [(2, .class_ 4), (1, u "java/lang/CharSequence"), (42, .class_ 48), (0, u "java/lang/CharSequence$1CodePointIterator"), (10, .class_ 60), (0, u "java/lang/CharSequence$1CharIterator"), (5, .class_ 67), (0, u "java/lang/Object")] 63

/-- java/lang/CharSequence -/
def k4 : Class := { plain "java/lang/CharSequence" (some 0) with
  accessFlags := 1537
  interfaces := #[]
  cf := some (fileOf pool4 2 #[.nestMembers #[47, 59]] #[] 1537 66 #[] #[])
  fields := #[]
  methods := #[]
  instanceTypes := #[]
  staticTypes := #[]
  resolved := Array.replicate 131 none
  statics := none }

def pool5 : Array CpInfo := pool [(1, .class_ 2), (0, u "java/lang/constant/Constable"), (0, .class_ 4), (0, u "java/lang/Object")] 6

/-- java/lang/constant/Constable -/
def k5 : Class := { plain "java/lang/constant/Constable" (some 0) with
  accessFlags := 1537
  interfaces := #[]
  cf := some (fileOf pool5 1 #[] #[] 1537 3 #[] #[])
  fields := #[]
  methods := #[]
  instanceTypes := #[]
  staticTypes := #[]
  resolved := Array.replicate 11 none
  statics := none }

def pool6 : Array CpInfo := pool [(1, .class_ 2), (0, u "java/lang/constant/ConstantDesc"), (0, .class_ 4), (0, u "java/lang/Object")] 32

/-- java/lang/constant/ConstantDesc -/
def k6 : Class := { plain "java/lang/constant/ConstantDesc" (some 0) with
  accessFlags := 1537
  interfaces := #[]
  cf := some (fileOf pool6 1 #[] #[] 1537 3 #[] #[])
  fields := #[]
  methods := #[]
  instanceTypes := #[]
  staticTypes := #[]
  resolved := Array.replicate 37 none
  statics := none }

def pool7 : Array CpInfo := pool [(1, .methodref 2 3), (0, .class_ 4), (0, .nameAndType 5 6), (0, u "java/lang/Object"), (0, u "<init>"), (0, u "()V"), (0, .string 8), (0, u ""), (0, .fieldref 10 11), (0, .class_ 12), (0, .nameAndType 13 14), (0, u "java/lang/String"), (0, u "value"), (0, u "[B"), (0, .fieldref 10 16), (0, .nameAndType 17 18), (0, u "coder"), (0, u "B"), (2, u "hash"), (0, u "I"), (2, u "hashIsZero"), (0, u "Z"), (0, .methodref 10 28), (0, .nameAndType 5 29), (0, u "([CIILjava/lang/Void;)V"), (8, .fieldref 10 39), (0, .nameAndType 40 26), (0, u "COMPACT_STRINGS"), (1, .class_ 44), (1, u "java/lang/StringUTF16"), (0, u "compress"), (1, .methodref 42 48), (0, .nameAndType 49 50), (0, u "coderFromArrayLen"), (0, u "([BI)B"), (2, u "toBytes"), (53, .class_ 109), (1, u "java/lang/StringLatin1"), (67, .methodref 42 178), (0, .nameAndType 45 179), (0, u "([CII)[B"), (29, .methodref 10 210), (0, .nameAndType 5 211), (0, u "([BB)V"), (157, u "(C)Z"), (171, .methodref 107 542), (0, .nameAndType 543 544), (0, u "equals"), (0, u "([B[B)Z"), (28, u "(Ljava/lang/Object;)Z"), (1, .class_ 576), (0, u "java/lang/CharSequence"), (22, u "CASE_INSENSITIVE_ORDER"), (0, u "Ljava/util/Comparator;"), (181, u "valueOf"), (0, u "(C)Ljava/lang/String;"), (226, u "([C)V"), (4, .methodref 107 1016), (0, .nameAndType 1017 369), (0, u "canEncode"), (0, .methodref 107 1019), (0, .nameAndType 53 1020), (0, u "(C)[B"), (80, u "serialPersistentFields"), (0, u "[Ljava/io/ObjectStreamField;"), (0, .class_ 1104), (0, u "java/lang/String$CaseInsensitiveComparator"), (1, .class_ 1107), (0, u "java/io/Serializable"), (0, .class_ 1109), (0, u "java/lang/Comparable"), (0, .class_ 1111), (0, u "java/lang/constant/Constable"), (0, .class_ 1113), (0, u "java/lang/constant/ConstantDesc"), (2, u "serialVersionUID"), (0, u "J"), (3, u "REPL"), (0, u "C"), (2, u "LATIN1"), (1, u "UTF16")] 323

def k7m0 : Method := { name := "<init>", desc := "()V", sig := { parameters := [], returnType := none }, accessFlags := 1, code := none }
def k7c1 : Code := { maxStack := 5, maxLocals := 2, code := jdk_42_method_3_code, exceptionTable := #[], attributes := #[] }
def k7m1 : Method := { name := "<init>", desc := "([C)V", sig := { parameters := [(.array .char)], returnType := none }, accessFlags := 1, code := some k7c1 }
def k7c2 : Code := { maxStack := 2, maxLocals := 3, code := jdk_42_method_66_code, exceptionTable := #[], attributes := #[] }
def k7m2 : Method := { name := "equals", desc := "(Ljava/lang/Object;)Z", sig := { parameters := [(.object "java/lang/Object")], returnType := some .boolean }, accessFlags := 1, code := some k7c2 }
def k7c3 : Code := { maxStack := 4, maxLocals := 1, code := jdk_42_method_139_code, exceptionTable := #[], attributes := #[] }
def k7m3 : Method := { name := "valueOf", desc := "(C)Ljava/lang/String;", sig := { parameters := [.char], returnType := some (.object "java/lang/String") }, accessFlags := 9, code := some k7c3 }
def k7c4 : Code := { maxStack := 4, maxLocals := 6, code := jdk_42_method_149_code, exceptionTable := #[], attributes := #[] }
def k7m4 : Method := { name := "<init>", desc := "([CIILjava/lang/Void;)V", sig := { parameters := [(.array .char), .int, .int, (.object "java/lang/Void")], returnType := none }, accessFlags := 2, code := some k7c4 }
def k7c5 : Code := { maxStack := 2, maxLocals := 3, code := jdk_42_method_151_code, exceptionTable := #[], attributes := #[] }
def k7m5 : Method := { name := "<init>", desc := "([BB)V", sig := { parameters := [(.array .byte), .byte], returnType := none }, accessFlags := 0, code := some k7c5 }
/-- java/lang/String -/
def k7 : Class := { plain "java/lang/String" (some 0) with
  accessFlags := 49
  interfaces := #[2, 3, 4, 5, 6]
  cf := some (fileOf pool7 10 #[.nestMembers #[1103]] #[{ accessFlags := 1, nameIndex := 5, descriptorIndex := 6, attributes := #[] }, { accessFlags := 1, nameIndex := 5, descriptorIndex := 1010, attributes := #[] }, { accessFlags := 1, nameIndex := 543, descriptorIndex := 573, attributes := #[] }, { accessFlags := 9, nameIndex := 782, descriptorIndex := 783, attributes := #[] }, { accessFlags := 2, nameIndex := 5, descriptorIndex := 29, attributes := #[] }, { accessFlags := 0, nameIndex := 5, descriptorIndex := 211, attributes := #[] }] 49 2 #[1106, 1108, 575, 1110, 1112] #[{ accessFlags := 18, nameIndex := 13, descriptorIndex := 14, attributes := #[] }, { accessFlags := 18, nameIndex := 17, descriptorIndex := 18, attributes := #[] }, { accessFlags := 2, nameIndex := 21, descriptorIndex := 22, attributes := #[] }, { accessFlags := 2, nameIndex := 25, descriptorIndex := 26, attributes := #[] }, { accessFlags := 26, nameIndex := 1116, descriptorIndex := 1117, attributes := #[] }, { accessFlags := 24, nameIndex := 40, descriptorIndex := 26, attributes := #[] }, { accessFlags := 26, nameIndex := 1101, descriptorIndex := 1102, attributes := #[] }, { accessFlags := 26, nameIndex := 1121, descriptorIndex := 1122, attributes := #[] }, { accessFlags := 25, nameIndex := 599, descriptorIndex := 600, attributes := #[] }, { accessFlags := 24, nameIndex := 1125, descriptorIndex := 18, attributes := #[] }, { accessFlags := 24, nameIndex := 1127, descriptorIndex := 18, attributes := #[] }])
  fields := #[{ name := "value", type := (.array .byte), accessFlags := 18, slot := 0, constantValue := 0 }, { name := "coder", type := .byte, accessFlags := 18, slot := 1, constantValue := 0 }, { name := "hash", type := .int, accessFlags := 2, slot := 2, constantValue := 0 }, { name := "hashIsZero", type := .boolean, accessFlags := 2, slot := 3, constantValue := 0 }, { name := "serialVersionUID", type := .long, accessFlags := 26, slot := 0, constantValue := 0 }, { name := "COMPACT_STRINGS", type := .boolean, accessFlags := 24, slot := 1, constantValue := 0 }, { name := "serialPersistentFields", type := (.array (.object "java/io/ObjectStreamField")), accessFlags := 26, slot := 2, constantValue := 0 }, { name := "REPL", type := .char, accessFlags := 26, slot := 3, constantValue := 0 }, { name := "CASE_INSENSITIVE_ORDER", type := (.object "java/util/Comparator"), accessFlags := 25, slot := 4, constantValue := 0 }, { name := "LATIN1", type := .byte, accessFlags := 24, slot := 5, constantValue := 0 }, { name := "UTF16", type := .byte, accessFlags := 24, slot := 6, constantValue := 0 }]
  methods := #[k7m0, k7m1, k7m2, k7m3, k7m4, k7m5]
  instanceTypes := #[(.array .byte), .byte, .int, .boolean]
  staticTypes := #[.long, .boolean, (.array (.object "java/io/ObjectStreamField")), .char, (.object "java/util/Comparator"), .byte, .byte]
  resolved := Array.replicate 1451 none
  statics := some 0 }

def pool8 : Array CpInfo := pool [(2, .class_ 4), (1, u "com/example/deasil/deasil/Node"), (0, u "<init>"), (0, u "(Ljava/lang/String;I)V"), (0, .methodref 8 9), (0, .class_ 10), (0, .nameAndType 5 11), (0, u "java/lang/Object"), (0, u "()V"), (0, .string 13), (0, u "name"), (0, .methodref 15 16), (0, .class_ 17), (0, .nameAndType 18 19), (0, u "java/util/Objects"), (0, u "requireNonNull"), (0, u "(Ljava/lang/Object;Ljava/lang/String;)Ljava/lang/Object;"), (0, .class_ 21), (0, u "java/lang/String"), (0, .fieldref 2 23), (0, .nameAndType 13 24), (0, u "Ljava/lang/String;"), (0, .fieldref 2 26), (0, .nameAndType 27 28), (0, u "weight"), (0, u "I"), (13, u "(Ljava/lang/Object;)Z"), (0, .methodref 20 44), (0, .nameAndType 45 42), (0, u "equals")] 24

def k8c0 : Code := { maxStack := 3, maxLocals := 3, code := prog_14_method_2_code, exceptionTable := #[], attributes := #[] }
def k8m0 : Method := { name := "<init>", desc := "(Ljava/lang/String;I)V", sig := { parameters := [(.object "java/lang/String"), .int], returnType := none }, accessFlags := 1, code := some k8c0 }
def k8c1 : Code := { maxStack := 2, maxLocals := 3, code := prog_14_method_6_code, exceptionTable := #[], attributes := #[] }
def k8m1 : Method := { name := "equals", desc := "(Ljava/lang/Object;)Z", sig := { parameters := [(.object "java/lang/Object")], returnType := some .boolean }, accessFlags := 1, code := some k8c1 }
/-- com/example/deasil/deasil/Node -/
def k8 : Class := { plain "com/example/deasil/deasil/Node" (some 0) with
  accessFlags := 33
  interfaces := #[]
  cf := some (fileOf pool8 2 #[] #[{ accessFlags := 1, nameIndex := 5, descriptorIndex := 6, attributes := #[] }, { accessFlags := 1, nameIndex := 45, descriptorIndex := 42, attributes := #[] }] 33 8 #[] #[{ accessFlags := 18, nameIndex := 13, descriptorIndex := 24, attributes := #[] }, { accessFlags := 18, nameIndex := 27, descriptorIndex := 28, attributes := #[] }])
  fields := #[{ name := "name", type := (.object "java/lang/String"), accessFlags := 18, slot := 0, constantValue := 0 }, { name := "weight", type := .int, accessFlags := 18, slot := 1, constantValue := 0 }]
  methods := #[k8m0, k8m1]
  instanceTypes := #[(.object "java/lang/String"), .int]
  staticTypes := #[]
  resolved := Array.replicate 70 none
  statics := none }

def pool9 : Array CpInfo := pool [(2, .class_ 4), (1, u "java/lang/Object"), (0, u "<init>"), (0, u "()V"), (35, .class_ 44), (1, u "java/util/Objects"), (0, u "requireNonNull"), (48, u "(Ljava/lang/Object;Ljava/lang/String;)Ljava/lang/Object;")] 89

def k9m0 : Method := { name := "<init>", desc := "()V", sig := { parameters := [], returnType := none }, accessFlags := 2, code := none }
def k9c1 : Code := { maxStack := 3, maxLocals := 2, code := jdk_31_method_11_code, exceptionTable := #[], attributes := #[] }
def k9m1 : Method := { name := "requireNonNull", desc := "(Ljava/lang/Object;Ljava/lang/String;)Ljava/lang/Object;", sig := { parameters := [(.object "java/lang/Object"), (.object "java/lang/String")], returnType := some (.object "java/lang/Object") }, accessFlags := 9, code := some k9c1 }
/-- java/util/Objects -/
def k9 : Class := { plain "java/util/Objects" (some 0) with
  accessFlags := 49
  interfaces := #[]
  cf := some (fileOf pool9 42 #[] #[{ accessFlags := 2, nameIndex := 5, descriptorIndex := 6, attributes := #[] }, { accessFlags := 9, nameIndex := 45, descriptorIndex := 94, attributes := #[] }] 49 2 #[] #[])
  fields := #[]
  methods := #[k9m0, k9m1]
  instanceTypes := #[]
  staticTypes := #[]
  resolved := Array.replicate 184 none
  statics := none }

def pool10 : Array CpInfo := pool [(4, .class_ 6), (1, u "java/lang/Object"), (0, u "<init>"), (0, u "()V"), (5, .class_ 16), (1, u "java/lang/StringLatin1"), (73, u "canEncode"), (14, u "(C)Z"), (15, u "$assertionsDisabled"), (0, u "Z"), (98, .class_ 223), (1, u "java/lang/StringLatin1$LinesSpliterator"), (57, u "equals"), (0, u "([B[B)Z"), (97, u "toBytes"), (1, u "(C)[B"), (7, .class_ 391), (0, u "java/lang/StringLatin1$CharsSpliterator")] 3

def k10m0 : Method := { name := "<init>", desc := "()V", sig := { parameters := [], returnType := none }, accessFlags := 0, code := none }
def k10c1 : Code := { maxStack := 2, maxLocals := 1, code := jdk_43_method_3_code, exceptionTable := #[], attributes := #[] }
def k10m1 : Method := { name := "canEncode", desc := "(C)Z", sig := { parameters := [.char], returnType := some .boolean }, accessFlags := 9, code := some k10c1 }
def k10c2 : Code := { maxStack := 3, maxLocals := 3, code := jdk_43_method_13_code, exceptionTable := #[], attributes := #[] }
def k10m2 : Method := { name := "equals", desc := "([B[B)Z", sig := { parameters := [(.array .byte), (.array .byte)], returnType := some .boolean }, accessFlags := 9, code := some k10c2 }
def k10c3 : Code := { maxStack := 4, maxLocals := 1, code := jdk_43_method_46_code, exceptionTable := #[], attributes := #[] }
def k10m3 : Method := { name := "toBytes", desc := "(C)[B", sig := { parameters := [.char], returnType := some (.array .byte) }, accessFlags := 9, code := some k10c3 }
/-- java/lang/StringLatin1 -/
def k10 : Class := { plain "java/lang/StringLatin1" (some 0) with
  accessFlags := 48
  interfaces := #[]
  cf := some (fileOf pool10 14 #[.nestMembers #[390, 221]] #[{ accessFlags := 0, nameIndex := 7, descriptorIndex := 8, attributes := #[] }, { accessFlags := 9, nameIndex := 90, descriptorIndex := 105, attributes := #[] }, { accessFlags := 9, nameIndex := 281, descriptorIndex := 282, attributes := #[] }, { accessFlags := 9, nameIndex := 380, descriptorIndex := 382, attributes := #[] }] 48 4 #[] #[{ accessFlags := 4120, nameIndex := 121, descriptorIndex := 122, attributes := #[] }])
  fields := #[{ name := "$assertionsDisabled", type := .boolean, accessFlags := 4120, slot := 0, constantValue := 0 }]
  methods := #[k10m0, k10m1, k10m2, k10m3]
  instanceTypes := #[]
  staticTypes := #[.boolean]
  resolved := Array.replicate 395 none
  statics := none }

def pool11 : Array CpInfo := pool [(6, .class_ 8), (1, u "java/lang/Object"), (0, u "<init>"), (0, u "()V"), (1, .class_ 14), (1, u "java/lang/StringUTF16"), (31, u "$assertionsDisabled"), (0, u "Z"), (13, u "HI_BYTE_SHIFT"), (0, u "I"), (2, u "LO_BYTE_SHIFT"), (49, .methodref 12 116), (0, .nameAndType 117 118), (0, u "compress"), (0, u "([CI[BII)I"), (3, u "([CII)[B"), (138, u "coderFromArrayLen"), (0, u "([BI)B"), (106, .class_ 371), (1, u "java/lang/StringUTF16$LinesSpliterator"), (58, u "MAX_LENGTH"), (196, .class_ 628), (0, u "java/lang/StringUTF16$CodePointsSpliterator"), (0, .class_ 630), (0, u "java/lang/StringUTF16$CharsSpliterator")] 4

def k11m0 : Method := { name := "<init>", desc := "()V", sig := { parameters := [], returnType := none }, accessFlags := 0, code := none }
def k11c1 : Code := { maxStack := 2, maxLocals := 2, code := jdk_52_method_15_code, exceptionTable := #[], attributes := #[] }
def k11m1 : Method := { name := "coderFromArrayLen", desc := "([BI)B", sig := { parameters := [(.array .byte), .int], returnType := some .byte }, accessFlags := 8, code := some k11c1 }
def k11c2 : Code := { maxStack := 5, maxLocals := 6, code := jdk_52_method_16_code, exceptionTable := #[], attributes := #[] }
def k11m2 : Method := { name := "compress", desc := "([CII)[B", sig := { parameters := [(.array .char), .int, .int], returnType := some (.array .byte) }, accessFlags := 9, code := some k11c2 }
def k11c3 : Code := { maxStack := 3, maxLocals := 7, code := jdk_52_method_21_code, exceptionTable := #[], attributes := #[] }
def k11m3 : Method := { name := "compress", desc := "([CI[BII)I", sig := { parameters := [(.array .char), .int, (.array .byte), .int, .int], returnType := some .int }, accessFlags := 9, code := some k11c3 }
/-- java/lang/StringUTF16 -/
def k11 : Class := { plain "java/lang/StringUTF16" (some 0) with
  accessFlags := 48
  interfaces := #[]
  cf := some (fileOf pool11 12 #[.nestMembers #[627, 629, 369]] #[{ accessFlags := 0, nameIndex := 9, descriptorIndex := 10, attributes := #[] }, { accessFlags := 8, nameIndex := 261, descriptorIndex := 262, attributes := #[] }, { accessFlags := 9, nameIndex := 117, descriptorIndex := 122, attributes := #[] }, { accessFlags := 9, nameIndex := 117, descriptorIndex := 118, attributes := #[] }] 48 6 #[] #[{ accessFlags := 26, nameIndex := 61, descriptorIndex := 62, attributes := #[] }, { accessFlags := 26, nameIndex := 65, descriptorIndex := 62, attributes := #[] }, { accessFlags := 24, nameIndex := 430, descriptorIndex := 62, attributes := #[] }, { accessFlags := 4120, nameIndex := 46, descriptorIndex := 47, attributes := #[] }])
  fields := #[{ name := "HI_BYTE_SHIFT", type := .int, accessFlags := 26, slot := 0, constantValue := 0 }, { name := "LO_BYTE_SHIFT", type := .int, accessFlags := 26, slot := 1, constantValue := 0 }, { name := "MAX_LENGTH", type := .int, accessFlags := 24, slot := 2, constantValue := 0 }, { name := "$assertionsDisabled", type := .boolean, accessFlags := 4120, slot := 3, constantValue := 0 }]
  methods := #[k11m0, k11m1, k11m2, k11m3]
  instanceTypes := #[]
  staticTypes := #[.int, .int, .int, .boolean]
  resolved := Array.replicate 635 none
  statics := none }

def pool12 : Array CpInfo := pool [(2, .class_ 4), (1, u "java/lang/Object"), (0, u "<init>"), (0, u "()V"), (17, .class_ 26), (1, u "jdk/internal/util/Preconditions"), (28, .class_ 56), (0, u "jdk/internal/util/Preconditions$4"), (57, .class_ 115), (0, u "jdk/internal/util/Preconditions$1"), (7, u "SIOOBE_FORMATTER"), (0, u "Ljava/util/function/BiFunction;"), (0, .class_ 126), (0, u "jdk/internal/util/Preconditions$2"), (3, u "AIOOBE_FORMATTER"), (0, .class_ 132), (0, u "jdk/internal/util/Preconditions$3"), (3, u "IOOBE_FORMATTER")] 57

def k12m0 : Method := { name := "<init>", desc := "()V", sig := { parameters := [], returnType := none }, accessFlags := 1, code := none }
/-- jdk/internal/util/Preconditions -/
def k12 : Class := { plain "jdk/internal/util/Preconditions" (some 0) with
  accessFlags := 33
  interfaces := #[]
  cf := some (fileOf pool12 24 #[.nestMembers #[55, 131, 125, 114]] #[{ accessFlags := 1, nameIndex := 5, descriptorIndex := 6, attributes := #[] }] 33 2 #[] #[{ accessFlags := 25, nameIndex := 123, descriptorIndex := 124, attributes := #[] }, { accessFlags := 25, nameIndex := 130, descriptorIndex := 124, attributes := #[] }, { accessFlags := 25, nameIndex := 136, descriptorIndex := 124, attributes := #[] }])
  fields := #[{ name := "SIOOBE_FORMATTER", type := (.object "java/util/function/BiFunction"), accessFlags := 25, slot := 0, constantValue := 0 }, { name := "AIOOBE_FORMATTER", type := (.object "java/util/function/BiFunction"), accessFlags := 25, slot := 1, constantValue := 0 }, { name := "IOOBE_FORMATTER", type := (.object "java/util/function/BiFunction"), accessFlags := 25, slot := 2, constantValue := 0 }]
  methods := #[k12m0]
  instanceTypes := #[]
  staticTypes := #[(.object "java/util/function/BiFunction"), (.object "java/util/function/BiFunction"), (.object "java/util/function/BiFunction")]
  resolved := Array.replicate 194 none
  statics := some 1 }

def pool13 : Array CpInfo := pool [(9, u "<init>"), (6, .class_ 18), (1, u "java/lang/Object"), (0, u "()V"), (1, .class_ 23), (1, u "jdk/internal/util/ArraysSupport"), (0, u "LOG2_ARRAY_LONG_INDEX_SCALE"), (0, u "I"), (2, u "U"), (0, u "Ljdk/internal/misc/Unsafe;"), (8, u "BIG_ENDIAN"), (0, u "Z"), (8, u "LOG2_BYTE_BIT_SIZE"), (4, u "LOG2_ARRAY_INT_INDEX_SCALE"), (54, u "JLA"), (0, u "Ljdk/internal/access/JavaLangAccess;"), (11, u "LOG2_ARRAY_BOOLEAN_INDEX_SCALE"), (9, u "LOG2_ARRAY_BYTE_INDEX_SCALE"), (5, u "LOG2_ARRAY_CHAR_INDEX_SCALE"), (5, u "LOG2_ARRAY_SHORT_INDEX_SCALE"), (18, u "LOG2_ARRAY_FLOAT_INDEX_SCALE"), (24, u "LOG2_ARRAY_DOUBLE_INDEX_SCALE"), (89, u "T_BOOLEAN"), (2, u "T_CHAR"), (1, u "T_FLOAT"), (1, u "T_DOUBLE"), (1, u "T_BYTE"), (1, u "T_SHORT"), (1, u "T_INT"), (1, u "T_LONG"), (1, u "SOFT_MAX_ARRAY_LENGTH")] 83

def k13m0 : Method := { name := "<init>", desc := "()V", sig := { parameters := [], returnType := none }, accessFlags := 2, code := none }
/-- jdk/internal/util/ArraysSupport -/
def k13 : Class := { plain "jdk/internal/util/ArraysSupport" (some 0) with
  accessFlags := 33
  interfaces := #[]
  cf := some (fileOf pool13 21 #[] #[{ accessFlags := 2, nameIndex := 9, descriptorIndex := 19, attributes := #[] }] 33 16 #[] #[{ accessFlags := 24, nameIndex := 28, descriptorIndex := 29, attributes := #[] }, { accessFlags := 26, nameIndex := 38, descriptorIndex := 39, attributes := #[] }, { accessFlags := 25, nameIndex := 121, descriptorIndex := 25, attributes := #[] }, { accessFlags := 25, nameIndex := 131, descriptorIndex := 25, attributes := #[] }, { accessFlags := 25, nameIndex := 137, descriptorIndex := 25, attributes := #[] }, { accessFlags := 25, nameIndex := 143, descriptorIndex := 25, attributes := #[] }, { accessFlags := 25, nameIndex := 53, descriptorIndex := 25, attributes := #[] }, { accessFlags := 25, nameIndex := 24, descriptorIndex := 25, attributes := #[] }, { accessFlags := 25, nameIndex := 162, descriptorIndex := 25, attributes := #[] }, { accessFlags := 25, nameIndex := 187, descriptorIndex := 25, attributes := #[] }, { accessFlags := 26, nameIndex := 48, descriptorIndex := 25, attributes := #[] }, { accessFlags := 25, nameIndex := 277, descriptorIndex := 25, attributes := #[] }, { accessFlags := 25, nameIndex := 280, descriptorIndex := 25, attributes := #[] }, { accessFlags := 25, nameIndex := 282, descriptorIndex := 25, attributes := #[] }, { accessFlags := 25, nameIndex := 284, descriptorIndex := 25, attributes := #[] }, { accessFlags := 25, nameIndex := 286, descriptorIndex := 25, attributes := #[] }, { accessFlags := 25, nameIndex := 288, descriptorIndex := 25, attributes := #[] }, { accessFlags := 25, nameIndex := 290, descriptorIndex := 25, attributes := #[] }, { accessFlags := 25, nameIndex := 292, descriptorIndex := 25, attributes := #[] }, { accessFlags := 26, nameIndex := 108, descriptorIndex := 109, attributes := #[] }, { accessFlags := 25, nameIndex := 294, descriptorIndex := 25, attributes := #[] }])
  fields := #[{ name := "U", type := (.object "jdk/internal/misc/Unsafe"), accessFlags := 24, slot := 0, constantValue := 0 }, { name := "BIG_ENDIAN", type := .boolean, accessFlags := 26, slot := 1, constantValue := 0 }, { name := "LOG2_ARRAY_BOOLEAN_INDEX_SCALE", type := .int, accessFlags := 25, slot := 2, constantValue := 0 }, { name := "LOG2_ARRAY_BYTE_INDEX_SCALE", type := .int, accessFlags := 25, slot := 3, constantValue := 0 }, { name := "LOG2_ARRAY_CHAR_INDEX_SCALE", type := .int, accessFlags := 25, slot := 4, constantValue := 0 }, { name := "LOG2_ARRAY_SHORT_INDEX_SCALE", type := .int, accessFlags := 25, slot := 5, constantValue := 0 }, { name := "LOG2_ARRAY_INT_INDEX_SCALE", type := .int, accessFlags := 25, slot := 6, constantValue := 0 }, { name := "LOG2_ARRAY_LONG_INDEX_SCALE", type := .int, accessFlags := 25, slot := 7, constantValue := 0 }, { name := "LOG2_ARRAY_FLOAT_INDEX_SCALE", type := .int, accessFlags := 25, slot := 8, constantValue := 0 }, { name := "LOG2_ARRAY_DOUBLE_INDEX_SCALE", type := .int, accessFlags := 25, slot := 9, constantValue := 0 }, { name := "LOG2_BYTE_BIT_SIZE", type := .int, accessFlags := 26, slot := 10, constantValue := 0 }, { name := "T_BOOLEAN", type := .int, accessFlags := 25, slot := 11, constantValue := 0 }, { name := "T_CHAR", type := .int, accessFlags := 25, slot := 12, constantValue := 0 }, { name := "T_FLOAT", type := .int, accessFlags := 25, slot := 13, constantValue := 0 }, { name := "T_DOUBLE", type := .int, accessFlags := 25, slot := 14, constantValue := 0 }, { name := "T_BYTE", type := .int, accessFlags := 25, slot := 15, constantValue := 0 }, { name := "T_SHORT", type := .int, accessFlags := 25, slot := 16, constantValue := 0 }, { name := "T_INT", type := .int, accessFlags := 25, slot := 17, constantValue := 0 }, { name := "T_LONG", type := .int, accessFlags := 25, slot := 18, constantValue := 0 }, { name := "JLA", type := (.object "jdk/internal/access/JavaLangAccess"), accessFlags := 26, slot := 19, constantValue := 0 }, { name := "SOFT_MAX_ARRAY_LENGTH", type := .int, accessFlags := 25, slot := 20, constantValue := 0 }]
  methods := #[k13m0]
  instanceTypes := #[]
  staticTypes := #[(.object "jdk/internal/misc/Unsafe"), .boolean, .int, .int, .int, .int, .int, .int, .int, .int, .int, .int, .int, .int, .int, .int, .int, .int, .int, (.object "jdk/internal/access/JavaLangAccess"), .int]
  resolved := Array.replicate 378 none
  statics := none }

def pool14 : Array CpInfo := pool [(1, u "java/lang/Cloneable"), (0, .class_ 1), (0, u "java/lang/Object"), (0, .class_ 3)] 3

/-- java/lang/Cloneable -/
def k14 : Class := { plain "java/lang/Cloneable" (some 0) with
  accessFlags := 1537
  interfaces := #[]
  cf := some (fileOf pool14 2 #[] #[] 1537 4 #[] #[])
  fields := #[]
  methods := #[]
  instanceTypes := #[]
  staticTypes := #[]
  resolved := Array.replicate 8 none
  statics := none }

/-- the primitive byte -/
def k15 : Class := { plain "byte" none with kind := .primitive 'B', accessFlags := 0x411 }
/-- [B -/
def k16 : Class := { plain "[B" (some 0) with kind := .array 15 .byte, interfaces := #[14, 2], accessFlags := 1041 }

/-- the primitive char -/
def k17 : Class := { plain "char" none with kind := .primitive 'C', accessFlags := 0x411 }
/-- [C -/
def k18 : Class := { plain "[C" (some 0) with kind := .array 17 .char, interfaces := #[14, 2], accessFlags := 1041 }

/-- the primitive int -/
def k19 : Class := { plain "int" none with kind := .primitive 'I', accessFlags := 0x411 }
/-- [I -/
def k20 : Class := { plain "[I" (some 0) with kind := .array 19 .int, interfaces := #[14, 2], accessFlags := 1041 }

def heap : Heap := #[{ cls := 7, slots := #[.long 0, .int 1, .null, .int 0, .null, .int 0, .int 0], vm := .statics 7 },
  { cls := 12, slots := #[.null, .null, .null], vm := .statics 12 }]
def classes : Array Class := #[k0, k1, k2, k3, k4, k5, k6, k7, k8, k9, k10, k11, k12, k13, k14, k15, k16, k17, k18, k19, k20]
def interned : List (Array UInt16 × Addr) := []
def slotsUsed : Nat := 10
def theMethod : MethodId := ⟨1, 4⟩
def args0 : Array Value := #[.int 3, .int 11, .int 12, .int 13, .int 14]
def aboutOver (below : List Frame) : State where
  vm := { classes := classes, interned := interned.toArray }
  heap := heap
  slotsUsed := slotsUsed
  threads := #[{ frames := .invoking theMethod args0 :: below }]
def below0 : List Frame := [.native { method := ⟨0, 0⟩, args := #[] }]
def about1 : State := aboutOver below0
def p0 : Program := .bare "" "" ""
def e0 : Env := launch0.env 0 0 0
theorem w_frames : about1.frames = Frame.invoking theMethod args0 :: below0 := rfl
set_option maxRecDepth 65536 in
theorem w_args : argsFit about1.vm theMethod args0 = true := by decide +kernel
set_option maxRecDepth 65536 in
theorem w_heap : heapFits about1 = true := by decide +kernel
set_option maxRecDepth 65536 in
theorem w_runnable : about1.curStatus? = some .runnable := by decide +kernel
set_option maxRecDepth 65536 in
theorem w_alone : about1.alone = true := by decide +kernel
set_option maxRecDepth 65536 in
theorem w_named : about1.methodNamed? x = some theMethod := by decide +kernel
set_option maxRecDepth 65536 in
theorem w_hears : about1.hears theMethod below0 = true := by decide +kernel
set_option maxRecDepth 65536 in
theorem w_ripe : about1.ripe theMethod args0 below0 = true := by decide +kernel
theorem w_running : about1.status = .running := rfl
set_option maxRecDepth 65536 in
theorem w_room : about1.hasRoom e0.platform room_1 = true :=
  launch0.hasRoom_least _ room_1 (by decide +kernel) (by decide +kernel) (by decide +kernel) (by decide +kernel) (by decide +kernel) (by decide +kernel)
theorem allAtoms_all (ts : List Jvm.Cond) (a : Array Jvm.Value) (st : Jvm.State) : (allAtoms ts).before a st = ts.all (fun c => c.before a st) := by
  induction ts with
  | nil => rfl
  | cons c t ih =>
    show (Jvm.Cond.and c (allAtoms t)).before a st = _
    rw [Jvm.Cond.before_and, ih, List.all_cons]
def words1 : List Jvm.Cond := Jvm.Cond.code x code maxLocals ret :: tables_1
/-- a 'code' word, met by the world's own term for the bytes: nothing is compared byte by byte -/
theorem code_word {y : MethodName} {bytes : ByteArray} {mx : Nat} {rt : Option FieldType} {a : Array Value} {s : State} {m : MethodId} {meth : Method} {c : Code} (h1 : s.methodNamed? y = some m) (h2 : s.vm.method? m = some meth) (h3 : meth.code = some c) (h4 : c.code = bytes)
    (h5 : (c.maxLocals == mx && c.exceptionTable.isEmpty && decide (c.maxStack ≤ mostOperands) && decide (meth.sig.returnType = rt) && !meth.locks && decide (parseMethodDescriptor y.desc = some meth.sig)) = true) : (Jvm.Cond.code y bytes mx rt).before a s = true := by
  simp only [Bool.and_eq_true, beq_iff_eq, Bool.not_eq_true', decide_eq_true_eq] at h5
  obtain ⟨⟨⟨⟨⟨g1, g2⟩, g3⟩, g4⟩, g5⟩, g6⟩ := h5
  simp [Cond.before, Cond.holds, Cond.value, h1, h2, h3, h4, g1, g2, g3, g4, g5, g6]
def isCode : Jvm.Cond → Bool
  | .code _ _ _ _ => true
  | _ => false
theorem all_split {L : List Jvm.Cond} {P : Jvm.Cond → Bool} (h1 : L.all (fun c => isCode c || P c) = true) (h2 : ∀ c ∈ L.filter isCode, P c = true) : L.all P = true := by
  refine List.all_eq_true.mpr fun c hc => ?_
  have h := List.all_eq_true.mp h1 c hc
  rcases Bool.eq_false_or_eq_true (isCode c) with hi | hi
  · exact h2 c (List.mem_filter.mpr ⟨hc, hi⟩)
  · simpa [hi] using h
set_option maxRecDepth 65536 in
theorem w_c0 : (Jvm.Cond.code x code maxLocals ret).before args0 about1 = true := code_word (m := ⟨1, 4⟩) (meth := k1m4) (c := k1c4) (by decide +kernel) rfl rfl rfl (by decide +kernel)
set_option maxRecDepth 65536 in
theorem w_c1 : (Jvm.Cond.code ({ cls := "com/example/deasil/deasil/NodeEqualsPinLaw", name := "mk", desc := "(II)Ljava/lang/String;" } : Jvm.MethodName) method_3_code (2 : Nat) (Option.some (Jvm.ClassFile.FieldType.object "java/lang/String"))).before args0 about1 = true := code_word (m := ⟨1, 2⟩) (meth := k1m2) (c := k1c2) (by decide +kernel) rfl rfl rfl (by decide +kernel)
set_option maxRecDepth 65536 in
theorem w_c2 : (Jvm.Cond.code ({ cls := "java/lang/String", name := "<init>", desc := "([C)V" } : Jvm.MethodName) jdk_42_method_3_code (2 : Nat) (Option.none : Option Jvm.ClassFile.FieldType)).before args0 about1 = true := code_word (m := ⟨7, 1⟩) (meth := k7m1) (c := k7c1) (by decide +kernel) rfl rfl rfl (by decide +kernel)
set_option maxRecDepth 65536 in
theorem w_c3 : (Jvm.Cond.code ({ cls := "java/lang/String", name := "<init>", desc := "([CIILjava/lang/Void;)V" } : Jvm.MethodName) jdk_42_method_149_code (6 : Nat) (Option.none : Option Jvm.ClassFile.FieldType)).before args0 about1 = true := code_word (m := ⟨7, 4⟩) (meth := k7m4) (c := k7c4) (by decide +kernel) rfl rfl rfl (by decide +kernel)
set_option maxRecDepth 65536 in
theorem w_c4 : (Jvm.Cond.code ({ cls := "java/lang/Object", name := "<init>", desc := "()V" } : Jvm.MethodName) object_method_1_code (1 : Nat) (Option.none : Option Jvm.ClassFile.FieldType)).before args0 about1 = true := code_word (m := ⟨0, 0⟩) (meth := k0m0) (c := k0c0) (by decide +kernel) rfl rfl rfl (by decide +kernel)
set_option maxRecDepth 65536 in
theorem w_c5 : (Jvm.Cond.code ({ cls := "com/example/deasil/deasil/Node", name := "<init>", desc := "(Ljava/lang/String;I)V" } : Jvm.MethodName) prog_14_method_2_code (3 : Nat) (Option.none : Option Jvm.ClassFile.FieldType)).before args0 about1 = true := code_word (m := ⟨8, 0⟩) (meth := k8m0) (c := k8c0) (by decide +kernel) rfl rfl rfl (by decide +kernel)
set_option maxRecDepth 65536 in
theorem w_c6 : (Jvm.Cond.code ({ cls := "java/util/Objects", name := "requireNonNull", desc := "(Ljava/lang/Object;Ljava/lang/String;)Ljava/lang/Object;" } : Jvm.MethodName) jdk_31_method_11_code (2 : Nat) (Option.some (Jvm.ClassFile.FieldType.object "java/lang/Object"))).before args0 about1 = true := code_word (m := ⟨9, 1⟩) (meth := k9m1) (c := k9c1) (by decide +kernel) rfl rfl rfl (by decide +kernel)
set_option maxRecDepth 65536 in
theorem w_c7 : (Jvm.Cond.code ({ cls := "com/example/deasil/deasil/NodeEqualsPinLaw", name := "sameName", desc := "(IIII)Z" } : Jvm.MethodName) method_4_code (4 : Nat) (Option.some Jvm.ClassFile.FieldType.boolean)).before args0 about1 = true := code_word (m := ⟨1, 3⟩) (meth := k1m3) (c := k1c3) (by decide +kernel) rfl rfl rfl (by decide +kernel)
set_option maxRecDepth 65536 in
theorem w_c8 : (Jvm.Cond.code ({ cls := "com/example/deasil/deasil/Node", name := "equals", desc := "(Ljava/lang/Object;)Z" } : Jvm.MethodName) prog_14_method_6_code (3 : Nat) (Option.some Jvm.ClassFile.FieldType.boolean)).before args0 about1 = true := code_word (m := ⟨8, 1⟩) (meth := k8m1) (c := k8c1) (by decide +kernel) rfl rfl rfl (by decide +kernel)
set_option maxRecDepth 65536 in
theorem w_c9 : (Jvm.Cond.code ({ cls := "java/lang/String", name := "equals", desc := "(Ljava/lang/Object;)Z" } : Jvm.MethodName) jdk_42_method_66_code (3 : Nat) (Option.some Jvm.ClassFile.FieldType.boolean)).before args0 about1 = true := code_word (m := ⟨7, 2⟩) (meth := k7m2) (c := k7c2) (by decide +kernel) rfl rfl rfl (by decide +kernel)
set_option maxRecDepth 65536 in
theorem w_c10 : (Jvm.Cond.code ({ cls := "java/lang/StringLatin1", name := "equals", desc := "([B[B)Z" } : Jvm.MethodName) jdk_43_method_13_code (3 : Nat) (Option.some Jvm.ClassFile.FieldType.boolean)).before args0 about1 = true := code_word (m := ⟨10, 2⟩) (meth := k10m2) (c := k10c2) (by decide +kernel) rfl rfl rfl (by decide +kernel)
set_option maxRecDepth 65536 in
theorem w_c11 : (Jvm.Cond.code ({ cls := "com/example/deasil/deasil/NodeEqualsPinLaw", name := "ch", desc := "(II)C" } : Jvm.MethodName) method_2_code (2 : Nat) (Option.some Jvm.ClassFile.FieldType.char)).before args0 about1 = true := code_word (m := ⟨1, 1⟩) (meth := k1m1) (c := k1c1) (by decide +kernel) rfl rfl rfl (by decide +kernel)
set_option maxRecDepth 65536 in
theorem w_c12 : (Jvm.Cond.code ({ cls := "java/lang/StringUTF16", name := "compress", desc := "([CII)[B" } : Jvm.MethodName) jdk_52_method_16_code (6 : Nat) (Option.some (Jvm.ClassFile.FieldType.array Jvm.ClassFile.FieldType.byte))).before args0 about1 = true := code_word (m := ⟨11, 2⟩) (meth := k11m2) (c := k11c2) (by decide +kernel) rfl rfl rfl (by decide +kernel)
set_option maxRecDepth 65536 in
theorem w_c13 : (Jvm.Cond.code ({ cls := "java/lang/StringUTF16", name := "compress", desc := "([CI[BII)I" } : Jvm.MethodName) jdk_52_method_21_code (7 : Nat) (Option.some Jvm.ClassFile.FieldType.int)).before args0 about1 = true := code_word (m := ⟨11, 3⟩) (meth := k11m3) (c := k11c3) (by decide +kernel) rfl rfl rfl (by decide +kernel)
set_option maxRecDepth 65536 in
theorem w_c14 : (Jvm.Cond.code ({ cls := "java/lang/StringUTF16", name := "coderFromArrayLen", desc := "([BI)B" } : Jvm.MethodName) jdk_52_method_15_code (2 : Nat) (Option.some Jvm.ClassFile.FieldType.byte)).before args0 about1 = true := code_word (m := ⟨11, 1⟩) (meth := k11m1) (c := k11c1) (by decide +kernel) rfl rfl rfl (by decide +kernel)
set_option maxRecDepth 65536 in
theorem w_c15 : (Jvm.Cond.code ({ cls := "java/lang/String", name := "valueOf", desc := "(C)Ljava/lang/String;" } : Jvm.MethodName) jdk_42_method_139_code (1 : Nat) (Option.some (Jvm.ClassFile.FieldType.object "java/lang/String"))).before args0 about1 = true := code_word (m := ⟨7, 3⟩) (meth := k7m3) (c := k7c3) (by decide +kernel) rfl rfl rfl (by decide +kernel)
set_option maxRecDepth 65536 in
theorem w_c16 : (Jvm.Cond.code ({ cls := "java/lang/StringLatin1", name := "canEncode", desc := "(C)Z" } : Jvm.MethodName) jdk_43_method_3_code (1 : Nat) (Option.some Jvm.ClassFile.FieldType.boolean)).before args0 about1 = true := code_word (m := ⟨10, 1⟩) (meth := k10m1) (c := k10c1) (by decide +kernel) rfl rfl rfl (by decide +kernel)
set_option maxRecDepth 65536 in
theorem w_c17 : (Jvm.Cond.code ({ cls := "java/lang/StringLatin1", name := "toBytes", desc := "(C)[B" } : Jvm.MethodName) jdk_43_method_46_code (1 : Nat) (Option.some (Jvm.ClassFile.FieldType.array Jvm.ClassFile.FieldType.byte))).before args0 about1 = true := code_word (m := ⟨10, 3⟩) (meth := k10m3) (c := k10c3) (by decide +kernel) rfl rfl rfl (by decide +kernel)
set_option maxRecDepth 65536 in
theorem w_c18 : (Jvm.Cond.code ({ cls := "java/lang/String", name := "<init>", desc := "([BB)V" } : Jvm.MethodName) jdk_42_method_151_code (3 : Nat) (Option.none : Option Jvm.ClassFile.FieldType)).before args0 about1 = true := code_word (m := ⟨7, 5⟩) (meth := k7m5) (c := k7c5) (by decide +kernel) rfl rfl rfl (by decide +kernel)
def codes1 : List Jvm.Cond := [Jvm.Cond.code x code maxLocals ret, Jvm.Cond.code ({ cls := "com/example/deasil/deasil/NodeEqualsPinLaw", name := "mk", desc := "(II)Ljava/lang/String;" } : Jvm.MethodName) method_3_code (2 : Nat) (Option.some (Jvm.ClassFile.FieldType.object "java/lang/String")), Jvm.Cond.code ({ cls := "java/lang/String", name := "<init>", desc := "([C)V" } : Jvm.MethodName) jdk_42_method_3_code (2 : Nat) (Option.none : Option Jvm.ClassFile.FieldType), Jvm.Cond.code ({ cls := "java/lang/String", name := "<init>", desc := "([CIILjava/lang/Void;)V" } : Jvm.MethodName) jdk_42_method_149_code (6 : Nat) (Option.none : Option Jvm.ClassFile.FieldType), Jvm.Cond.code ({ cls := "java/lang/Object", name := "<init>", desc := "()V" } : Jvm.MethodName) object_method_1_code (1 : Nat) (Option.none : Option Jvm.ClassFile.FieldType), Jvm.Cond.code ({ cls := "com/example/deasil/deasil/Node", name := "<init>", desc := "(Ljava/lang/String;I)V" } : Jvm.MethodName) prog_14_method_2_code (3 : Nat) (Option.none : Option Jvm.ClassFile.FieldType), Jvm.Cond.code ({ cls := "java/util/Objects", name := "requireNonNull", desc := "(Ljava/lang/Object;Ljava/lang/String;)Ljava/lang/Object;" } : Jvm.MethodName) jdk_31_method_11_code (2 : Nat) (Option.some (Jvm.ClassFile.FieldType.object "java/lang/Object")), Jvm.Cond.code ({ cls := "com/example/deasil/deasil/NodeEqualsPinLaw", name := "sameName", desc := "(IIII)Z" } : Jvm.MethodName) method_4_code (4 : Nat) (Option.some Jvm.ClassFile.FieldType.boolean), Jvm.Cond.code ({ cls := "com/example/deasil/deasil/Node", name := "equals", desc := "(Ljava/lang/Object;)Z" } : Jvm.MethodName) prog_14_method_6_code (3 : Nat) (Option.some Jvm.ClassFile.FieldType.boolean), Jvm.Cond.code ({ cls := "java/lang/String", name := "equals", desc := "(Ljava/lang/Object;)Z" } : Jvm.MethodName) jdk_42_method_66_code (3 : Nat) (Option.some Jvm.ClassFile.FieldType.boolean), Jvm.Cond.code ({ cls := "java/lang/StringLatin1", name := "equals", desc := "([B[B)Z" } : Jvm.MethodName) jdk_43_method_13_code (3 : Nat) (Option.some Jvm.ClassFile.FieldType.boolean), Jvm.Cond.code ({ cls := "com/example/deasil/deasil/NodeEqualsPinLaw", name := "ch", desc := "(II)C" } : Jvm.MethodName) method_2_code (2 : Nat) (Option.some Jvm.ClassFile.FieldType.char), Jvm.Cond.code ({ cls := "java/lang/StringUTF16", name := "compress", desc := "([CII)[B" } : Jvm.MethodName) jdk_52_method_16_code (6 : Nat) (Option.some (Jvm.ClassFile.FieldType.array Jvm.ClassFile.FieldType.byte)), Jvm.Cond.code ({ cls := "java/lang/StringUTF16", name := "compress", desc := "([CI[BII)I" } : Jvm.MethodName) jdk_52_method_21_code (7 : Nat) (Option.some Jvm.ClassFile.FieldType.int), Jvm.Cond.code ({ cls := "java/lang/StringUTF16", name := "coderFromArrayLen", desc := "([BI)B" } : Jvm.MethodName) jdk_52_method_15_code (2 : Nat) (Option.some Jvm.ClassFile.FieldType.byte), Jvm.Cond.code ({ cls := "java/lang/String", name := "valueOf", desc := "(C)Ljava/lang/String;" } : Jvm.MethodName) jdk_42_method_139_code (1 : Nat) (Option.some (Jvm.ClassFile.FieldType.object "java/lang/String")), Jvm.Cond.code ({ cls := "java/lang/StringLatin1", name := "canEncode", desc := "(C)Z" } : Jvm.MethodName) jdk_43_method_3_code (1 : Nat) (Option.some Jvm.ClassFile.FieldType.boolean), Jvm.Cond.code ({ cls := "java/lang/StringLatin1", name := "toBytes", desc := "(C)[B" } : Jvm.MethodName) jdk_43_method_46_code (1 : Nat) (Option.some (Jvm.ClassFile.FieldType.array Jvm.ClassFile.FieldType.byte)), Jvm.Cond.code ({ cls := "java/lang/String", name := "<init>", desc := "([BB)V" } : Jvm.MethodName) jdk_42_method_151_code (3 : Nat) (Option.none : Option Jvm.ClassFile.FieldType)]
set_option maxRecDepth 65536 in
theorem codes_eq : words1.filter isCode = codes1 := rfl
theorem w_codes : ∀ c ∈ words1.filter isCode, c.before args0 about1 = true := by
  rw [codes_eq]
  intro c hc
  simp only [codes1, List.mem_cons, List.not_mem_nil, or_false] at hc
  rcases hc with rfl | rfl | rfl | rfl | rfl | rfl | rfl | rfl | rfl | rfl | rfl | rfl | rfl | rfl | rfl | rfl | rfl | rfl | rfl
  · exact w_c0
  · exact w_c1
  · exact w_c2
  · exact w_c3
  · exact w_c4
  · exact w_c5
  · exact w_c6
  · exact w_c7
  · exact w_c8
  · exact w_c9
  · exact w_c10
  · exact w_c11
  · exact w_c12
  · exact w_c13
  · exact w_c14
  · exact w_c15
  · exact w_c16
  · exact w_c17
  · exact w_c18
set_option maxRecDepth 65536 in
theorem w_t1 : (words1.take 24).all (fun c => isCode c || c.before args0 about1) = true := by decide +kernel
set_option maxRecDepth 65536 in
theorem w_t2 : ((words1.drop 24).take 24).all (fun c => isCode c || c.before args0 about1) = true := by decide +kernel
set_option maxRecDepth 65536 in
theorem w_t3 : (((words1.drop 24).drop 24).take 24).all (fun c => isCode c || c.before args0 about1) = true := by decide +kernel
set_option maxRecDepth 65536 in
theorem w_t4 : (((words1.drop 24).drop 24).drop 24).all (fun c => isCode c || c.before args0 about1) = true := by decide +kernel
theorem w_tables : (allAtoms (Jvm.Cond.code x code maxLocals ret :: tables_1)).before args0 about1 = true := by
  rw [allAtoms_all]
  show words1.all (fun c => c.before args0 about1) = true
  refine all_split ?_ w_codes
  rw [← List.take_append_drop 24 words1, List.all_append, w_t1, ← List.take_append_drop 24 (words1.drop 24), List.all_append, w_t2, ← List.take_append_drop 24 ((words1.drop 24).drop 24), List.all_append, w_t3, w_t4]
  rfl
set_option maxRecDepth 65536 in
theorem w_rest : rest_1_c.before args0 about1 = true := by decide +kernel
set_option maxRecDepth 65536 in
theorem w_case : (Jvm.Cond.and given_1 narrow_1).before args0 about1 = true := by decide +kernel
set_option maxRecDepth 65536 in
theorem w_consts : constsHeld consts_1 about1 := Jvm.Lit.constsHeldB_iff.mp (by decide +kernel)
theorem w_applies : (headSpec (Jvm.Cond.code x code maxLocals ret :: tables_1) room_1).applies x e0.platform about1 = true :=
  (Spec.applies_iff w_frames).mpr ⟨w_running, w_runnable, w_alone, w_named, w_hears, w_ripe, w_room, w_tables⟩
theorem atStart : AtStart classFile x code maxLocals ret World_1 tables_1 room_1 Calls_1 rest_1 Pre_1 launch0 p0 e0 about1 theMethod args0 below0 :=
  ⟨lists_1, trivial, launch0.admits_env _ _ _, launch0.least_env, fairChoices_fair.cas, fairChoices_fair.clock, w_frames, w_args, w_heap, w_applies, ⟨w_consts, trivial⟩, w_rest, w_case⟩
end start1
theorem witness_1 : WitnessClaimed_1 := ⟨start1.p0, start1.e0, start1.about1, start1.theMethod, start1.args0, start1.below0, start1.atStart⟩
end Jvm.Pilot.@@N@@
