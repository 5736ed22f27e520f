import JvmDerived
import JvmDerived.Pilot.@@N@@Statement
import JvmDerived.Pilot.@@N@@Code
set_option linter.unusedVariables false
set_option linter.unusedSimpArgs false
namespace Jvm.Pilot.@@N@@
open Jvm Jvm.ClassFile Sem Op Lib Jvm.Free Jvm.Stand Jvm.LawKit Jvm.RoadKit Bundle Jvm.Pilot.@@N@@.Jvm.D
section OwnLayer
variable {p : Program} {l : Launch} {e : Env} {R : Room} {s : State} {m : MethodId} {args : Array Value} {below : List Frame} {meth : Method} {c : Code} {Z : State} {a0 : Array Value} {n0 : Nat} {own nm : String} {bytes : ByteArray} {ml : Nat} {rt : Option FieldType} {Q : Option Value → State → List Loc → Prop} {Q0 : Option Value → Heap → Prop} {h : Heap} {cells slots pc pc' pcY : Nat} {Ls Ls' : Array Slot} {st st' : List Value}
def ushr (x y : Int32) : Int32 := (x.toUInt32 >>> (y &&& 31).toUInt32).toInt32
def ushrL (x : Int64) (y : Int32) : Int64 := (x.toUInt64 >>> (y &&& 0x3f).toInt64.toUInt64).toInt64
/-- what stays the same while a body is walked -/
def OCx (p : Program) (l : Launch) (e : Env) (R : Room) (s : State) (m : MethodId) (args : Array Value) (below : List Frame) (meth : Method) (c : Code) (Z : State) (own nm : String) (bytes : ByteArray) (ml : Nat) (rt : Option FieldType) : Prop :=
  p.tables.exec = Jvm.exec ∧ c.code = bytes ∧ c.maxLocals = ml ∧ meth.sig.returnType = rt ∧ meth.name = nm ∧ meth.locks = false ∧ s.vm.findClass own = some m.cls ∧ Z.Warmed39 s.vm
theorem OCx.ex (K : OCx p l e R s m args below meth c Z own nm bytes ml rt) : p.tables.exec = Jvm.exec := K.1
theorem OCx.by (K : OCx p l e R s m args below meth c Z own nm bytes ml rt) : c.code = bytes := K.2.1
theorem OCx.hml (K : OCx p l e R s m args below meth c Z own nm bytes ml rt) : c.maxLocals = ml := K.2.2.1
theorem OCx.hrt (K : OCx p l e R s m args below meth c Z own nm bytes ml rt) : meth.sig.returnType = rt := K.2.2.2.1
theorem OCx.hnm (K : OCx p l e R s m args below meth c Z own nm bytes ml rt) : meth.name = nm := K.2.2.2.2.1
theorem OCx.lk (K : OCx p l e R s m args below meth c Z own nm bytes ml rt) : meth.locks = false := K.2.2.2.2.2.1
theorem OCx.hown (K : OCx p l e R s m args below meth c Z own nm bytes ml rt) : s.vm.findClass own = some m.cls := K.2.2.2.2.2.2.1
theorem OCx.hZ (K : OCx p l e R s m args below meth c Z own nm bytes ml rt) : Z.Warmed39 s.vm := K.2.2.2.2.2.2.2
/-- from here the body ends as Q says -/
def OGo (p : Program) (l : Launch) (e : Env) (R : Room) (s : State) (m : MethodId) (args : Array Value) (below : List Frame) (meth : Method) (c : Code) (n0 : Nat) (Q : Option Value → State → List Loc → Prop) (h : Heap) (cells slots pc : Nat) (Ls : Array Slot) (st : List Value) : Prop :=
  ∀ (T : State) (locs : List Loc) (k n : Nat), Stand p l e R s m args below meth c T locs k n → T.heap = h → Fr n0 locs → k ≤ cells → n ≤ slots →
    ∃ (s₂ : State) (v : Option Value) (L : List Loc), Steps p.tables e below (T.setTop (mkF m pc Ls st)) s₂ ∧ s₂.status = .running ∧ Ended s₂ below (.returned v) ∧ Q v s₂ L
/-- the narrow end -/
def OP (s : State) (R : Room) (n0 : Nat) (Q0 : Option Value → Heap → Prop) (v : Option Value) (s₂ : State) (L : List Loc) : Prop := Q0 v s₂.heap ∧ Fr n0 L ∧ FrameEnd s (.returned v) s₂ L R.cells R.slots
abbrev OCon (l : Launch) (Z : State) (n0 : Nat) (y : MethodName) (bytes : ByteArray) (maxL : Nat) (ret : Option FieldType) (ws : List Jvm.Cond) (rm : Room) (as' : Array Value) (h0 : Heap) (Q : Option Value → Heap → Prop) : Prop :=
  MetFree l y (head1 (Jvm.Cond.code y bytes maxL ret :: ws) rm) (fun a U => a = as' ∧ Z.Warmed39 U.vm ∧ U.heap = h0) (fun _ _ _ _ _ => True) (fun _ U o U' => ∃ v L, o = .returned v ∧ (Q v U'.heap ∧ Fr n0 L) ∧ FrameEnd U o U' L rm.cells rm.slots)
def OV (P : Value → Heap → Prop) (v : Option Value) (h : Heap) : Prop := ∃ w, v = some w ∧ P w h
def ON (P : Heap → Prop) (v : Option Value) (h : Heap) : Prop := v = none ∧ P h
def own_lay : List Value → List Slot
  | [] => []
  | v :: vs => if v.category = 2 then .val v :: .second :: own_lay vs else .val v :: own_lay vs
theorem own_lay_fold (vs : List Value) (acc : Array Slot) : vs.foldl (fun acc v => if v.category = 2 then (acc.push (.val v)).push .second else acc.push (.val v)) acc = acc ++ (own_lay vs).toArray := by
  induction vs generalizing acc with
  | nil => simp [own_lay]
  | cons v vs ih =>
    rw [List.foldl_cons, ih]
    simp only [own_lay]
    split <;> simp
theorem own_entry (m : MethodId) {vs : List Value} {n : Nat} {L : List Slot} (h : own_lay vs ++ List.replicate (n - (own_lay vs).length) .unset = L) : entryFrame m vs.toArray n = mkF m 0 L.toArray [] := by
  unfold entryFrame mkF argsToLocals
  subst h
  simp [own_lay_fold]
theorem OCon.of {y : MethodName} {maxL : Nat} {ret : Option FieldType} {ws : List Jvm.Cond} {rm : Room} {as' : Array Value} {h0 : Heap} (hpl : plainFor y = true) (hf : ∀ m, entryFrame m as' maxL = mkF m 0 Ls [])
    (body : ∀ p e s m below meth c, OCx p l e rm s m as' below meth c Z y.cls y.name bytes maxL ret → OGo p l e rm s m as' below meth c n0 (OP s rm n0 Q0) h0 0 0 0 Ls []) : OCon l Z n0 y bytes maxL ret ws rm as' h0 Q0 := by
  refine MetFree.of_bodySF hpl hisR ?_
  intro p e s m args below meth c s₁ Bd hml0 hP hK
  obtain ⟨rfl, hZ, hh⟩ := hP
  have X0 : Stand p l e rm s m _ below meth c s₁ [] 0 0 := Stand.of_body Bd
  have e0 : s₁.heap = h0 := by rw [← hh, Bd.state]; rfl
  obtain ⟨s₂, v, L, h1, h2, h3, h4, h5, h6⟩ := body p e s m below meth c ⟨Bd.exec, Bd.bytes, hml0, Bd.returns, (name_of_methodNamed Bd.named Bd.method).1, BodyLoose.notSynchronized Bd, findClass_of_methodNamed Bd.named, hZ⟩ s₁ [] 0 0 X0 e0 (Fr.nil n0) (Nat.le_refl _) (Nat.le_refl _)
  exact ⟨s₂, _, castTop (hf m) h1, h2, h3, v, L, rfl, ⟨h4, h5⟩, h6⟩
theorem OCon.mono {y : MethodName} {maxL : Nat} {ret : Option FieldType} {ws : List Jvm.Cond} {rm : Room} {as' : Array Value} {h0 : Heap} {Q' : Option Value → Heap → Prop} (H : OCon l Z n0 y bytes maxL ret ws rm as' h0 Q0) (k : ∀ v h, Q0 v h → Q' v h) : OCon l Z n0 y bytes maxL ret ws rm as' h0 Q' := by
  intro p e ha hc hk s m args below hf happ hP hK
  obtain ⟨n, o, h1, h2, h3, v, L, h4, ⟨h5, h6⟩, h7⟩ := H p e ha hc hk s m args below hf happ hP hK
  exact ⟨n, o, h1, h2, h3, v, L, h4, ⟨k _ _ h5, h6⟩, h7⟩
theorem OGo.more {cells' slots' : Nat} (r : OGo p l e R s m args below meth c n0 Q h cells' slots' pc Ls st) (hc : cells ≤ cells') (hs : slots ≤ slots') : OGo p l e R s m args below meth c n0 Q h cells slots pc Ls st :=
  fun T locs k n X e0 N h1 h2 => r T locs k n X e0 N (Nat.le_trans h1 hc) (Nat.le_trans h2 hs)
theorem OGo.plain (hs : ∀ (T t : State), At T m c below → Steps p.tables e below (T.setTop (mkF m pc' Ls' st')) t → Steps p.tables e below (T.setTop (mkF m pc Ls st)) t) (r : OGo p l e R s m args below meth c n0 Q h cells slots pc' Ls' st') : OGo p l e R s m args below meth c n0 Q h cells slots pc Ls st := by
  intro T locs k n X e0 N h1 h2
  obtain ⟨s₂, v, L, g, r'⟩ := r T locs k n X e0 N h1 h2
  exact ⟨s₂, v, L, hs T s₂ X.here g, r'⟩
theorem OGo.same (hs : ∀ (T : State) (locs : List Loc) (k n : Nat), Stand p l e R s m args below meth c T locs k n → T.heap = h → ∃ T', Stand p l e R s m args below meth c T' locs k n ∧ T'.heap = h ∧ ∀ t, Steps p.tables e below (T'.setTop (mkF m pc' Ls' st')) t → Steps p.tables e below (T.setTop (mkF m pc Ls st)) t) (r : OGo p l e R s m args below meth c n0 Q h cells slots pc' Ls' st') : OGo p l e R s m args below meth c n0 Q h cells slots pc Ls st := by
  intro T locs k n X e0 N h1 h2
  obtain ⟨T', X', e', st'⟩ := hs T locs k n X e0
  obtain ⟨s₂, v, L, g, r'⟩ := r T' locs k n X' e' N h1 h2
  exact ⟨s₂, v, L, st' _ g, r'⟩
/-- a step that writes one place a -/
theorem OGo.write {a : Addr} {sl : Nat} {v : Value} (ga : n0 ≤ a) (hs : ∀ (T : State) (locs : List Loc) (k n : Nat), Stand p l e R s m args below meth c T locs k n → T.heap = h → ∃ T' h', Stand p l e R s m args below meth c T' (locs ++ [⟨a, sl⟩]) k n ∧ T'.heap = h' ∧ Wr h h' a sl v ∧ ∀ t, Steps p.tables e below (T'.setTop (mkF m pc' Ls' st')) t → Steps p.tables e below (T.setTop (mkF m pc Ls st)) t)
    (r : ∀ h', Wr h h' a sl v → OGo p l e R s m args below meth c n0 Q h' cells slots pc' Ls' st') : OGo p l e R s m args below meth c n0 Q h cells slots pc Ls st := by
  intro T locs k n X e0 N h1 h2
  obtain ⟨T', h', X', e', W, st'⟩ := hs T locs k n X e0
  obtain ⟨s₂, v, L, g, r'⟩ := r h' W T' _ k n X' e' (Fr.snoc X' N ga) h1 h2
  exact ⟨s₂, v, L, st' _ g, r'⟩
theorem OGo.leave {w : Option Value} (K : OCx p l e R s m args below meth c Z own nm bytes ml rt) (hv : rt = none → w = none) (hs : ∀ (T : State) (locs : List Loc) (k n : Nat) (fs : List Frame), Stand p l e R s m args below meth c T locs k n → (∀ (f : JFrame) (acts : List Action), f.method = m → f.locked = none → f.entered = [] → (doReturn e (T.setTop f) acts w).1 = T.setFrames fs) → Steps p.tables e below (T.setTop (mkF m pc Ls st)) (T.setFrames fs))
    (hc : cells ≤ R.cells) (hl : slots ≤ R.slots) (q : Q0 w h) : OGo p l e R s m args below meth c n0 (OP s R n0 Q0) h cells slots pc Ls st := by
  intro T locs k n X e0 N h1 h2
  obtain ⟨fs, hr, hrun, hended, hW, hsame⟩ := X.leave (v := w) (fun x => hv (K.hrt.symm.trans x)) K.lk
  refine ⟨_, w, locs, hs T locs k n fs X hr, hrun, hended, ?_, N, ⟨_, rfl⟩, hW, hsame.mono (Nat.le_trans h1 hc) (Nat.le_trans h2 hl)⟩
  show Q0 w T.heap
  rw [e0]; exact q
theorem OGo.ret {w : Value} {t : FieldType} {i : Instr} {rest : List Value} (K : OCx p l e R s m args below meth c Z own nm bytes ml (some t)) (hd : decode bytes pc = .ok (i, 1)) (hn : narrow t w = w)
    (hi : (i = .ireturn ∧ (t = .int ∨ t = .boolean ∨ t = .byte ∨ t = .char ∨ t = .short) ∧ ∃ z, w = .int z) ∨ (i = .lreturn ∧ t = .long ∧ ∃ z, w = .long z) ∨ (i = .dreturn ∧ t = .double ∧ ∃ z, w = .double z) ∨ (i = .freturn ∧ t = .float ∧ ∃ z, w = .float z) ∨ (i = .areturn ∧ t.isReference = true ∧ w.isRef = true))
    (hc : cells ≤ R.cells) (hl : slots ≤ R.slots) (q : Q0 (some w) h) : OGo p l e R s m args below meth c n0 (OP s R n0 Q0) h cells slots pc Ls (w :: rest) :=
  OGo.leave K (fun x => nomatch x) (fun T locs k n fs X hr => retOut X K.ex K.hrt hn hi (hb K.by hd) hr) hc hl q
theorem OGo.iret {z : Int32} {rest : List Value} (K : OCx p l e R s m args below meth c Z own nm bytes ml (some .int)) (hd : decode bytes pc = .ok (.ireturn, 1)) (hc : cells ≤ R.cells) (hl : slots ≤ R.slots) (q : Q0 (some (.int z)) h) : OGo p l e R s m args below meth c n0 (OP s R n0 Q0) h cells slots pc Ls (.int z :: rest) :=
  OGo.ret K hd rfl (Or.inl ⟨rfl, Or.inl rfl, z, rfl⟩) hc hl q
theorem OGo.nret {z : Int32} {t : FieldType} {rest : List Value} (K : OCx p l e R s m args below meth c Z own nm bytes ml (some t)) (ht : t = .boolean ∨ t = .byte ∨ t = .char ∨ t = .short) (hd : decode bytes pc = .ok (.ireturn, 1)) (hc : cells ≤ R.cells) (hl : slots ≤ R.slots) (q : Q0 (some (.int (nar t z))) h) : OGo p l e R s m args below meth c n0 (OP s R n0 Q0) h cells slots pc Ls (.int z :: rest) :=
  OGo.leave K (fun x => nomatch x) (fun T locs k n fs X hr => retN X K.ex K.hrt ht (hb K.by hd) hr) hc hl q
theorem OGo.lret {z : Int64} {rest : List Value} (K : OCx p l e R s m args below meth c Z own nm bytes ml (some .long)) (hd : decode bytes pc = .ok (.lreturn, 1)) (hc : cells ≤ R.cells) (hl : slots ≤ R.slots) (q : Q0 (some (.long z)) h) : OGo p l e R s m args below meth c n0 (OP s R n0 Q0) h cells slots pc Ls (.long z :: rest) :=
  OGo.ret K hd rfl (Or.inr (Or.inl ⟨rfl, rfl, z, rfl⟩)) hc hl q
theorem OGo.dret {z : UInt64} {rest : List Value} (K : OCx p l e R s m args below meth c Z own nm bytes ml (some .double)) (hd : decode bytes pc = .ok (.dreturn, 1)) (hc : cells ≤ R.cells) (hl : slots ≤ R.slots) (q : Q0 (some (.double z)) h) : OGo p l e R s m args below meth c n0 (OP s R n0 Q0) h cells slots pc Ls (.double z :: rest) :=
  OGo.ret K hd rfl (Or.inr (Or.inr (Or.inl ⟨rfl, rfl, z, rfl⟩))) hc hl q
theorem OGo.aret {w : Value} {t : FieldType} {rest : List Value} (K : OCx p l e R s m args below meth c Z own nm bytes ml (some t)) (hd : decode bytes pc = .ok (.areturn, 1)) (ht : t.isReference = true) (hw : w.isRef = true) (hc : cells ≤ R.cells) (hl : slots ≤ R.slots) (q : Q0 (some w) h) : OGo p l e R s m args below meth c n0 (OP s R n0 Q0) h cells slots pc Ls (w :: rest) :=
  OGo.ret K hd (by cases t <;> first | (cases ht; done) | (cases w <;> first | (cases hw; done) | rfl)) (Or.inr (Or.inr (Or.inr (Or.inr ⟨rfl, ht, hw⟩)))) hc hl q
theorem OGo.vret (K : OCx p l e R s m args below meth c Z own nm bytes ml none) (hd : decode bytes pc = .ok (.return_, 1)) (hc : cells ≤ R.cells) (hl : slots ≤ R.slots) (q : Q0 none h) : OGo p l e R s m args below meth c n0 (OP s R n0 Q0) h cells slots pc Ls [] :=
  OGo.leave K (fun _ => rfl) (fun T locs k n fs X hr => X.returnOut K.ex K.hrt (hb K.by hd) hr) hc hl q

theorem OGo.iload (K : OCx p l e R s m args below meth c Z own nm bytes ml rt) {k : Nat} {v : Int32} (hd : decode bytes pc = .ok (.iload k, 2)) (hp : pc + 2 = pc') (hl : Ls[k]? = some (.val (.int v))) (r : OGo p l e R s m args below meth c n0 Q h cells slots pc' Ls (.int v :: st)) : OGo p l e R s m args below meth c n0 Q h cells slots pc Ls st := by
  subst hp
  exact OGo.plain (fun T t hA q => XS.iload hA K.ex rfl (hb K.by hd) hl q) r
theorem OGo.iloadN (K : OCx p l e R s m args below meth c Z own nm bytes ml rt) {k : Fin 4} {v : Int32} (hd : decode bytes pc = .ok (.iload_n k, 1)) (hp : pc + 1 = pc') (hl : Ls[k.val]? = some (.val (.int v))) (r : OGo p l e R s m args below meth c n0 Q h cells slots pc' Ls (.int v :: st)) : OGo p l e R s m args below meth c n0 Q h cells slots pc Ls st := by
  subst hp
  exact OGo.plain (fun T t hA q => XS.iloadN hA K.ex rfl (hb K.by hd) hl q) r
theorem OGo.lload (K : OCx p l e R s m args below meth c Z own nm bytes ml rt) {k : Nat} {v : Int64} (hd : decode bytes pc = .ok (.lload k, 2)) (hp : pc + 2 = pc') (hl : Ls[k]? = some (.val (.long v))) (r : OGo p l e R s m args below meth c n0 Q h cells slots pc' Ls (.long v :: st)) : OGo p l e R s m args below meth c n0 Q h cells slots pc Ls st := by
  subst hp
  exact OGo.plain (fun T t hA q => XS.lload hA K.ex rfl (hb K.by hd) hl q) r
theorem OGo.lloadN (K : OCx p l e R s m args below meth c Z own nm bytes ml rt) {k : Fin 4} {v : Int64} (hd : decode bytes pc = .ok (.lload_n k, 1)) (hp : pc + 1 = pc') (hl : Ls[k.val]? = some (.val (.long v))) (r : OGo p l e R s m args below meth c n0 Q h cells slots pc' Ls (.long v :: st)) : OGo p l e R s m args below meth c n0 Q h cells slots pc Ls st := by
  subst hp
  exact OGo.plain (fun T t hA q => XS.lloadN hA K.ex rfl (hb K.by hd) hl q) r
theorem OGo.aload (K : OCx p l e R s m args below meth c Z own nm bytes ml rt) {k : Nat} {v : Value} (hd : decode bytes pc = .ok (.aload k, 2)) (hp : pc + 2 = pc') (hl : Ls[k]? = some (.val v)) (hv : v.isRef = true) (r : OGo p l e R s m args below meth c n0 Q h cells slots pc' Ls (v :: st)) : OGo p l e R s m args below meth c n0 Q h cells slots pc Ls st := by
  subst hp
  exact OGo.plain (fun T t hA q => XS.aload hA K.ex rfl (hb K.by hd) hl hv q) r
theorem OGo.aloadN (K : OCx p l e R s m args below meth c Z own nm bytes ml rt) {k : Fin 4} {v : Value} (hd : decode bytes pc = .ok (.aload_n k, 1)) (hp : pc + 1 = pc') (hl : Ls[k.val]? = some (.val v)) (hv : v.isRef = true) (r : OGo p l e R s m args below meth c n0 Q h cells slots pc' Ls (v :: st)) : OGo p l e R s m args below meth c n0 Q h cells slots pc Ls st := by
  subst hp
  exact OGo.plain (fun T t hA q => XS.aloadN hA K.ex rfl (hb K.by hd) hl hv q) r
theorem OGo.istore (K : OCx p l e R s m args below meth c Z own nm bytes ml rt) {k : Nat} {v : Int32} (hd : decode bytes pc = .ok (.istore k, 2)) (hp : pc + 2 = pc') (hl : storeLocals Ls k (.int v) = some Ls') (r : OGo p l e R s m args below meth c n0 Q h cells slots pc' Ls' st) : OGo p l e R s m args below meth c n0 Q h cells slots pc Ls (.int v :: st) := by
  subst hp
  exact OGo.plain (fun T t hA q => XS.istore hA K.ex rfl (hb K.by hd) rfl hl q) r
theorem OGo.istoreN (K : OCx p l e R s m args below meth c Z own nm bytes ml rt) {k : Fin 4} {v : Int32} (hd : decode bytes pc = .ok (.istore_n k, 1)) (hp : pc + 1 = pc') (hl : storeLocals Ls k.val (.int v) = some Ls') (r : OGo p l e R s m args below meth c n0 Q h cells slots pc' Ls' st) : OGo p l e R s m args below meth c n0 Q h cells slots pc Ls (.int v :: st) := by
  subst hp
  exact OGo.plain (fun T t hA q => XS.istoreN hA K.ex rfl (hb K.by hd) rfl hl q) r
theorem OGo.lstore (K : OCx p l e R s m args below meth c Z own nm bytes ml rt) {k : Nat} {v : Int64} (hd : decode bytes pc = .ok (.lstore k, 2)) (hp : pc + 2 = pc') (hl : storeLocals Ls k (.long v) = some Ls') (r : OGo p l e R s m args below meth c n0 Q h cells slots pc' Ls' st) : OGo p l e R s m args below meth c n0 Q h cells slots pc Ls (.long v :: st) := by
  subst hp
  exact OGo.plain (fun T t hA q => XS.lstore hA K.ex rfl (hb K.by hd) rfl hl q) r
theorem OGo.lstoreN (K : OCx p l e R s m args below meth c Z own nm bytes ml rt) {k : Fin 4} {v : Int64} (hd : decode bytes pc = .ok (.lstore_n k, 1)) (hp : pc + 1 = pc') (hl : storeLocals Ls k.val (.long v) = some Ls') (r : OGo p l e R s m args below meth c n0 Q h cells slots pc' Ls' st) : OGo p l e R s m args below meth c n0 Q h cells slots pc Ls (.long v :: st) := by
  subst hp
  exact OGo.plain (fun T t hA q => XS.lstoreN hA K.ex rfl (hb K.by hd) rfl hl q) r
theorem OGo.astore (K : OCx p l e R s m args below meth c Z own nm bytes ml rt) {k : Nat} {v : Value} (hd : decode bytes pc = .ok (.astore k, 2)) (hp : pc + 2 = pc') (hv : v.isRef = true) (hl : storeLocals Ls k v = some Ls') (r : OGo p l e R s m args below meth c n0 Q h cells slots pc' Ls' st) : OGo p l e R s m args below meth c n0 Q h cells slots pc Ls (v :: st) := by
  subst hp
  exact OGo.plain (fun T t hA q => XS.astore hA K.ex rfl (hb K.by hd) rfl hv hl q) r
theorem OGo.astoreN (K : OCx p l e R s m args below meth c Z own nm bytes ml rt) {k : Fin 4} {v : Value} (hd : decode bytes pc = .ok (.astore_n k, 1)) (hp : pc + 1 = pc') (hv : v.isRef = true) (hl : storeLocals Ls k.val v = some Ls') (r : OGo p l e R s m args below meth c n0 Q h cells slots pc' Ls' st) : OGo p l e R s m args below meth c n0 Q h cells slots pc Ls (v :: st) := by
  subst hp
  exact OGo.plain (fun T t hA q => XS.astoreN hA K.ex rfl (hb K.by hd) rfl hv hl q) r
theorem OGo.iconst (K : OCx p l e R s m args below meth c Z own nm bytes ml rt) {i : Int} {z : Int32} (hd : decode bytes pc = .ok (.iconst i, 1)) (hp : pc + 1 = pc') (hz : Int32.ofInt i = z) (r : OGo p l e R s m args below meth c n0 Q h cells slots pc' Ls (.int z :: st)) : OGo p l e R s m args below meth c n0 Q h cells slots pc Ls st := by
  subst hp
  exact OGo.plain (fun T t hA q => XS.iconst hA K.ex rfl (hb K.by hd) (by rw [hz]; exact q)) r
theorem OGo.bipush (K : OCx p l e R s m args below meth c Z own nm bytes ml rt) {i : Int} {z : Int32} (hd : decode bytes pc = .ok (.bipush i, 2)) (hp : pc + 2 = pc') (hz : (Int8.ofInt i).toInt32 = z) (r : OGo p l e R s m args below meth c n0 Q h cells slots pc' Ls (.int z :: st)) : OGo p l e R s m args below meth c n0 Q h cells slots pc Ls st := by
  subst hp
  exact OGo.plain (fun T t hA q => XS.bipush hA K.ex rfl (hb K.by hd) (by rw [hz]; exact q)) r
theorem OGo.sipush (K : OCx p l e R s m args below meth c Z own nm bytes ml rt) {i : Int} {z : Int32} (hd : decode bytes pc = .ok (.sipush i, 3)) (hp : pc + 3 = pc') (hz : (Int16.ofInt i).toInt32 = z) (r : OGo p l e R s m args below meth c n0 Q h cells slots pc' Ls (.int z :: st)) : OGo p l e R s m args below meth c n0 Q h cells slots pc Ls st := by
  subst hp
  exact OGo.plain (fun T t hA q => XS.sipush hA K.ex rfl (hb K.by hd) (by rw [hz]; exact q)) r
theorem OGo.lconst (K : OCx p l e R s m args below meth c Z own nm bytes ml rt) {i : Fin 2} {z : Int64} (hd : decode bytes pc = .ok (.lconst i, 1)) (hp : pc + 1 = pc') (hz : Int64.ofNat i = z) (r : OGo p l e R s m args below meth c n0 Q h cells slots pc' Ls (.long z :: st)) : OGo p l e R s m args below meth c n0 Q h cells slots pc Ls st := by
  subst hp
  exact OGo.plain (fun T t hA q => XS.lconst hA K.ex rfl (hb K.by hd) (by rw [hz]; exact q)) r
theorem OGo.aconstNull (K : OCx p l e R s m args below meth c Z own nm bytes ml rt) (hd : decode bytes pc = .ok (.aconst_null, 1)) (hp : pc + 1 = pc') (r : OGo p l e R s m args below meth c n0 Q h cells slots pc' Ls (.null :: st)) : OGo p l e R s m args below meth c n0 Q h cells slots pc Ls st := by
  subst hp
  exact OGo.plain (fun T t hA q => XS.aconstNull hA K.ex rfl (hb K.by hd) q) r
theorem OGo.iadd (K : OCx p l e R s m args below meth c Z own nm bytes ml rt) {x y : Int32} (hd : decode bytes pc = .ok (.iadd, 1)) (hp : pc + 1 = pc') (r : OGo p l e R s m args below meth c n0 Q h cells slots pc' Ls (.int (x + y) :: st)) : OGo p l e R s m args below meth c n0 Q h cells slots pc Ls (.int y :: .int x :: st) := by
  subst hp
  exact OGo.plain (fun T t hA q => XS.iadd hA K.ex rfl (hb K.by hd) rfl q) r
theorem OGo.isub (K : OCx p l e R s m args below meth c Z own nm bytes ml rt) {x y : Int32} (hd : decode bytes pc = .ok (.isub, 1)) (hp : pc + 1 = pc') (r : OGo p l e R s m args below meth c n0 Q h cells slots pc' Ls (.int (x - y) :: st)) : OGo p l e R s m args below meth c n0 Q h cells slots pc Ls (.int y :: .int x :: st) := by
  subst hp
  exact OGo.plain (fun T t hA q => XS.isub hA K.ex rfl (hb K.by hd) rfl q) r
theorem OGo.imul (K : OCx p l e R s m args below meth c Z own nm bytes ml rt) {x y : Int32} (hd : decode bytes pc = .ok (.imul, 1)) (hp : pc + 1 = pc') (r : OGo p l e R s m args below meth c n0 Q h cells slots pc' Ls (.int (x * y) :: st)) : OGo p l e R s m args below meth c n0 Q h cells slots pc Ls (.int y :: .int x :: st) := by
  subst hp
  exact OGo.plain (fun T t hA q => XS.imul hA K.ex rfl (hb K.by hd) rfl q) r
theorem OGo.iand (K : OCx p l e R s m args below meth c Z own nm bytes ml rt) {x y : Int32} (hd : decode bytes pc = .ok (.iand, 1)) (hp : pc + 1 = pc') (r : OGo p l e R s m args below meth c n0 Q h cells slots pc' Ls (.int (x &&& y) :: st)) : OGo p l e R s m args below meth c n0 Q h cells slots pc Ls (.int y :: .int x :: st) := by
  subst hp
  exact OGo.plain (fun T t hA q => XS.iand hA K.ex rfl (hb K.by hd) rfl q) r
theorem OGo.ior (K : OCx p l e R s m args below meth c Z own nm bytes ml rt) {x y : Int32} (hd : decode bytes pc = .ok (.ior, 1)) (hp : pc + 1 = pc') (r : OGo p l e R s m args below meth c n0 Q h cells slots pc' Ls (.int (x ||| y) :: st)) : OGo p l e R s m args below meth c n0 Q h cells slots pc Ls (.int y :: .int x :: st) := by
  subst hp
  exact OGo.plain (fun T t hA q => XS.ior hA K.ex rfl (hb K.by hd) rfl q) r
theorem OGo.ixor (K : OCx p l e R s m args below meth c Z own nm bytes ml rt) {x y : Int32} (hd : decode bytes pc = .ok (.ixor, 1)) (hp : pc + 1 = pc') (r : OGo p l e R s m args below meth c n0 Q h cells slots pc' Ls (.int (x ^^^ y) :: st)) : OGo p l e R s m args below meth c n0 Q h cells slots pc Ls (.int y :: .int x :: st) := by
  subst hp
  exact OGo.plain (fun T t hA q => XS.ixor hA K.ex rfl (hb K.by hd) rfl q) r
theorem OGo.ladd (K : OCx p l e R s m args below meth c Z own nm bytes ml rt) {x y : Int64} (hd : decode bytes pc = .ok (.ladd, 1)) (hp : pc + 1 = pc') (r : OGo p l e R s m args below meth c n0 Q h cells slots pc' Ls (.long (x + y) :: st)) : OGo p l e R s m args below meth c n0 Q h cells slots pc Ls (.long y :: .long x :: st) := by
  subst hp
  exact OGo.plain (fun T t hA q => XS.ladd hA K.ex rfl (hb K.by hd) rfl q) r
theorem OGo.lsub (K : OCx p l e R s m args below meth c Z own nm bytes ml rt) {x y : Int64} (hd : decode bytes pc = .ok (.lsub, 1)) (hp : pc + 1 = pc') (r : OGo p l e R s m args below meth c n0 Q h cells slots pc' Ls (.long (x - y) :: st)) : OGo p l e R s m args below meth c n0 Q h cells slots pc Ls (.long y :: .long x :: st) := by
  subst hp
  exact OGo.plain (fun T t hA q => XS.lsub hA K.ex rfl (hb K.by hd) rfl q) r
theorem OGo.lmul (K : OCx p l e R s m args below meth c Z own nm bytes ml rt) {x y : Int64} (hd : decode bytes pc = .ok (.lmul, 1)) (hp : pc + 1 = pc') (r : OGo p l e R s m args below meth c n0 Q h cells slots pc' Ls (.long (x * y) :: st)) : OGo p l e R s m args below meth c n0 Q h cells slots pc Ls (.long y :: .long x :: st) := by
  subst hp
  exact OGo.plain (fun T t hA q => XS.lmul hA K.ex rfl (hb K.by hd) rfl q) r
theorem OGo.land (K : OCx p l e R s m args below meth c Z own nm bytes ml rt) {x y : Int64} (hd : decode bytes pc = .ok (.land, 1)) (hp : pc + 1 = pc') (r : OGo p l e R s m args below meth c n0 Q h cells slots pc' Ls (.long (x &&& y) :: st)) : OGo p l e R s m args below meth c n0 Q h cells slots pc Ls (.long y :: .long x :: st) := by
  subst hp
  exact OGo.plain (fun T t hA q => XS.land hA K.ex rfl (hb K.by hd) rfl q) r
theorem OGo.lor (K : OCx p l e R s m args below meth c Z own nm bytes ml rt) {x y : Int64} (hd : decode bytes pc = .ok (.lor, 1)) (hp : pc + 1 = pc') (r : OGo p l e R s m args below meth c n0 Q h cells slots pc' Ls (.long (x ||| y) :: st)) : OGo p l e R s m args below meth c n0 Q h cells slots pc Ls (.long y :: .long x :: st) := by
  subst hp
  exact OGo.plain (fun T t hA q => XS.lor hA K.ex rfl (hb K.by hd) rfl q) r
theorem OGo.lxor (K : OCx p l e R s m args below meth c Z own nm bytes ml rt) {x y : Int64} (hd : decode bytes pc = .ok (.lxor, 1)) (hp : pc + 1 = pc') (r : OGo p l e R s m args below meth c n0 Q h cells slots pc' Ls (.long (x ^^^ y) :: st)) : OGo p l e R s m args below meth c n0 Q h cells slots pc Ls (.long y :: .long x :: st) := by
  subst hp
  exact OGo.plain (fun T t hA q => XS.lxor hA K.ex rfl (hb K.by hd) rfl q) r
theorem OGo.ishl (K : OCx p l e R s m args below meth c Z own nm bytes ml rt) {x y : Int32} (hd : decode bytes pc = .ok (.ishl, 1)) (hp : pc + 1 = pc') (r : OGo p l e R s m args below meth c n0 Q h cells slots pc' Ls (.int (x <<< (y &&& 31)) :: st)) : OGo p l e R s m args below meth c n0 Q h cells slots pc Ls (.int y :: .int x :: st) := by
  subst hp
  exact OGo.plain (fun T t hA q => XS.ishl hA K.ex rfl (hb K.by hd) rfl q) r
theorem OGo.ishr (K : OCx p l e R s m args below meth c Z own nm bytes ml rt) {x y : Int32} (hd : decode bytes pc = .ok (.ishr, 1)) (hp : pc + 1 = pc') (r : OGo p l e R s m args below meth c n0 Q h cells slots pc' Ls (.int (x >>> (y &&& 31)) :: st)) : OGo p l e R s m args below meth c n0 Q h cells slots pc Ls (.int y :: .int x :: st) := by
  subst hp
  exact OGo.plain (fun T t hA q => XS.ishr hA K.ex rfl (hb K.by hd) rfl q) r
theorem OGo.iushr (K : OCx p l e R s m args below meth c Z own nm bytes ml rt) {x y : Int32} (hd : decode bytes pc = .ok (.iushr, 1)) (hp : pc + 1 = pc') (r : OGo p l e R s m args below meth c n0 Q h cells slots pc' Ls (.int (ushr x y) :: st)) : OGo p l e R s m args below meth c n0 Q h cells slots pc Ls (.int y :: .int x :: st) := by
  subst hp
  exact OGo.plain (fun T t hA q => XS.iushr hA K.ex rfl (hb K.by hd) rfl q) r
theorem OGo.lshl (K : OCx p l e R s m args below meth c Z own nm bytes ml rt) {x : Int64} {y : Int32} (hd : decode bytes pc = .ok (.lshl, 1)) (hp : pc + 1 = pc') (r : OGo p l e R s m args below meth c n0 Q h cells slots pc' Ls (.long (x <<< (y &&& 63).toInt64) :: st)) : OGo p l e R s m args below meth c n0 Q h cells slots pc Ls (.int y :: .long x :: st) := by
  subst hp
  exact OGo.plain (fun T t hA q => XS.lshl hA K.ex rfl (hb K.by hd) rfl q) r
theorem OGo.lshr (K : OCx p l e R s m args below meth c Z own nm bytes ml rt) {x : Int64} {y : Int32} (hd : decode bytes pc = .ok (.lshr, 1)) (hp : pc + 1 = pc') (r : OGo p l e R s m args below meth c n0 Q h cells slots pc' Ls (.long (x >>> (y &&& 63).toInt64) :: st)) : OGo p l e R s m args below meth c n0 Q h cells slots pc Ls (.int y :: .long x :: st) := by
  subst hp
  exact OGo.plain (fun T t hA q => XS.lshr hA K.ex rfl (hb K.by hd) rfl q) r
theorem OGo.lushr (K : OCx p l e R s m args below meth c Z own nm bytes ml rt) {x : Int64} {y : Int32} (hd : decode bytes pc = .ok (.lushr, 1)) (hp : pc + 1 = pc') (r : OGo p l e R s m args below meth c n0 Q h cells slots pc' Ls (.long (ushrL x y) :: st)) : OGo p l e R s m args below meth c n0 Q h cells slots pc Ls (.int y :: .long x :: st) := by
  subst hp
  exact OGo.plain (fun T t hA q => XS.lushr hA K.ex rfl (hb K.by hd) rfl q) r
theorem OGo.idiv (K : OCx p l e R s m args below meth c Z own nm bytes ml rt) {x y : Int32} (hd : decode bytes pc = .ok (.idiv, 1)) (hp : pc + 1 = pc') (hy : y ≠ 0) (r : OGo p l e R s m args below meth c n0 Q h cells slots pc' Ls (.int (x / y) :: st)) : OGo p l e R s m args below meth c n0 Q h cells slots pc Ls (.int y :: .int x :: st) := by
  subst hp
  exact OGo.plain (fun T t hA q => XS.idiv hA K.ex rfl (hb K.by hd) rfl hy q) r
theorem OGo.irem (K : OCx p l e R s m args below meth c Z own nm bytes ml rt) {x y : Int32} (hd : decode bytes pc = .ok (.irem, 1)) (hp : pc + 1 = pc') (hy : y ≠ 0) (r : OGo p l e R s m args below meth c n0 Q h cells slots pc' Ls (.int (x % y) :: st)) : OGo p l e R s m args below meth c n0 Q h cells slots pc Ls (.int y :: .int x :: st) := by
  subst hp
  exact OGo.plain (fun T t hA q => XS.irem hA K.ex rfl (hb K.by hd) rfl hy (by rw [show x - x / y * y = x % y from irem_eq_mod x y]; exact q)) r
theorem OGo.ldiv (K : OCx p l e R s m args below meth c Z own nm bytes ml rt) {x y : Int64} (hd : decode bytes pc = .ok (.ldiv, 1)) (hp : pc + 1 = pc') (hy : y ≠ 0) (r : OGo p l e R s m args below meth c n0 Q h cells slots pc' Ls (.long (x / y) :: st)) : OGo p l e R s m args below meth c n0 Q h cells slots pc Ls (.long y :: .long x :: st) := by
  subst hp
  exact OGo.plain (fun T t hA q => XS.ldiv hA K.ex rfl (hb K.by hd) rfl hy q) r
theorem OGo.lrem (K : OCx p l e R s m args below meth c Z own nm bytes ml rt) {x y : Int64} (hd : decode bytes pc = .ok (.lrem, 1)) (hp : pc + 1 = pc') (hy : y ≠ 0) (r : OGo p l e R s m args below meth c n0 Q h cells slots pc' Ls (.long (x - (x / y) * y) :: st)) : OGo p l e R s m args below meth c n0 Q h cells slots pc Ls (.long y :: .long x :: st) := by
  subst hp
  exact OGo.plain (fun T t hA q => XS.lrem hA K.ex rfl (hb K.by hd) rfl hy q) r
theorem OGo.ineg (K : OCx p l e R s m args below meth c Z own nm bytes ml rt) {x : Int32} (hd : decode bytes pc = .ok (.ineg, 1)) (hp : pc + 1 = pc') (r : OGo p l e R s m args below meth c n0 Q h cells slots pc' Ls (.int (-x) :: st)) : OGo p l e R s m args below meth c n0 Q h cells slots pc Ls (.int x :: st) := by
  subst hp
  exact OGo.plain (fun T t hA q => XS.ineg hA K.ex rfl (hb K.by hd) rfl q) r
theorem OGo.lneg (K : OCx p l e R s m args below meth c Z own nm bytes ml rt) {x : Int64} (hd : decode bytes pc = .ok (.lneg, 1)) (hp : pc + 1 = pc') (r : OGo p l e R s m args below meth c n0 Q h cells slots pc' Ls (.long (-x) :: st)) : OGo p l e R s m args below meth c n0 Q h cells slots pc Ls (.long x :: st) := by
  subst hp
  exact OGo.plain (fun T t hA q => XS.lneg hA K.ex rfl (hb K.by hd) rfl q) r
theorem OGo.i2l (K : OCx p l e R s m args below meth c Z own nm bytes ml rt) {x : Int32} (hd : decode bytes pc = .ok (.i2l, 1)) (hp : pc + 1 = pc') (r : OGo p l e R s m args below meth c n0 Q h cells slots pc' Ls (.long x.toInt64 :: st)) : OGo p l e R s m args below meth c n0 Q h cells slots pc Ls (.int x :: st) := by
  subst hp
  exact OGo.plain (fun T t hA q => XS.i2l hA K.ex rfl (hb K.by hd) rfl q) r
theorem OGo.l2i (K : OCx p l e R s m args below meth c Z own nm bytes ml rt) {x : Int64} (hd : decode bytes pc = .ok (.l2i, 1)) (hp : pc + 1 = pc') (r : OGo p l e R s m args below meth c n0 Q h cells slots pc' Ls (.int x.toInt32 :: st)) : OGo p l e R s m args below meth c n0 Q h cells slots pc Ls (.long x :: st) := by
  subst hp
  exact OGo.plain (fun T t hA q => XS.l2i hA K.ex rfl (hb K.by hd) rfl q) r
theorem OGo.i2b (K : OCx p l e R s m args below meth c Z own nm bytes ml rt) {x : Int32} (hd : decode bytes pc = .ok (.i2b, 1)) (hp : pc + 1 = pc') (r : OGo p l e R s m args below meth c n0 Q h cells slots pc' Ls (.int x.toInt8.toInt32 :: st)) : OGo p l e R s m args below meth c n0 Q h cells slots pc Ls (.int x :: st) := by
  subst hp
  exact OGo.plain (fun T t hA q => XS.i2b hA K.ex rfl (hb K.by hd) rfl q) r
theorem OGo.i2s (K : OCx p l e R s m args below meth c Z own nm bytes ml rt) {x : Int32} (hd : decode bytes pc = .ok (.i2s, 1)) (hp : pc + 1 = pc') (r : OGo p l e R s m args below meth c n0 Q h cells slots pc' Ls (.int x.toInt16.toInt32 :: st)) : OGo p l e R s m args below meth c n0 Q h cells slots pc Ls (.int x :: st) := by
  subst hp
  exact OGo.plain (fun T t hA q => XS.i2s hA K.ex rfl (hb K.by hd) rfl q) r
theorem OGo.i2c (K : OCx p l e R s m args below meth c Z own nm bytes ml rt) {x : Int32} (hd : decode bytes pc = .ok (.i2c, 1)) (hp : pc + 1 = pc') (r : OGo p l e R s m args below meth c n0 Q h cells slots pc' Ls (.int x.toUInt32.toUInt16.toUInt32.toInt32 :: st)) : OGo p l e R s m args below meth c n0 Q h cells slots pc Ls (.int x :: st) := by
  subst hp
  exact OGo.plain (fun T t hA q => XS.i2c hA K.ex rfl (hb K.by hd) rfl q) r
theorem OGo.iinc (K : OCx p l e R s m args below meth c Z own nm bytes ml rt) {k : Nat} {i : Int} {x z : Int32} (hd : decode bytes pc = .ok (.iinc k i, 3)) (hp : pc + 3 = pc') (hl : Ls[k]? = some (.val (.int x))) (hz : Int32.ofInt i = z) (hl' : storeLocals Ls k (.int (x + z)) = some Ls') (r : OGo p l e R s m args below meth c n0 Q h cells slots pc' Ls' st) : OGo p l e R s m args below meth c n0 Q h cells slots pc Ls st := by
  subst hp
  exact OGo.plain (fun T t hA q => XS.iinc hA K.ex rfl (hb K.by hd) hl (by rw [hz]; exact hl') q) r
theorem OGo.dup (K : OCx p l e R s m args below meth c Z own nm bytes ml rt) {v : Value} (hd : decode bytes pc = .ok (.dup, 1)) (hp : pc + 1 = pc') (hc : v.category = 1) (r : OGo p l e R s m args below meth c n0 Q h cells slots pc' Ls (v :: v :: st)) : OGo p l e R s m args below meth c n0 Q h cells slots pc Ls (v :: st) := by
  subst hp
  exact OGo.plain (fun T t hA q => XS.dup hA K.ex rfl (hb K.by hd) rfl hc q) r
theorem OGo.pop (K : OCx p l e R s m args below meth c Z own nm bytes ml rt) {v : Value} (hd : decode bytes pc = .ok (.pop, 1)) (hp : pc + 1 = pc') (hc : v.category = 1) (r : OGo p l e R s m args below meth c n0 Q h cells slots pc' Ls st) : OGo p l e R s m args below meth c n0 Q h cells slots pc Ls (v :: st) := by
  subst hp
  exact OGo.plain (fun T t hA q => XS.pop hA K.ex rfl (hb K.by hd) rfl hc q) r
theorem OGo.dupX1 (K : OCx p l e R s m args below meth c Z own nm bytes ml rt) {v w : Value} (hd : decode bytes pc = .ok (.dup_x1, 1)) (hp : pc + 1 = pc') (hc : v.category = 1) (hc' : w.category = 1) (r : OGo p l e R s m args below meth c n0 Q h cells slots pc' Ls (v :: w :: v :: st)) : OGo p l e R s m args below meth c n0 Q h cells slots pc Ls (v :: w :: st) := by
  subst hp
  exact OGo.plain (fun T t hA q => XS.dupX1 hA K.ex rfl (hb K.by hd) rfl hc hc' q) r
theorem OGo.dup2 (K : OCx p l e R s m args below meth c Z own nm bytes ml rt) {v w : Value} (hd : decode bytes pc = .ok (.dup2, 1)) (hp : pc + 1 = pc') (hc : v.category = 1) (hc' : w.category = 1) (r : OGo p l e R s m args below meth c n0 Q h cells slots pc' Ls (v :: w :: v :: w :: st)) : OGo p l e R s m args below meth c n0 Q h cells slots pc Ls (v :: w :: st) := by
  subst hp
  exact OGo.plain (fun T t hA q => XT.dup2 hA K.ex rfl (hb K.by hd) rfl hc hc' q) r
theorem OGo.dup2L (K : OCx p l e R s m args below meth c Z own nm bytes ml rt) {x : Int64} (hd : decode bytes pc = .ok (.dup2, 1)) (hp : pc + 1 = pc') (r : OGo p l e R s m args below meth c n0 Q h cells slots pc' Ls (.long x :: .long x :: st)) : OGo p l e R s m args below meth c n0 Q h cells slots pc Ls (.long x :: st) := by
  subst hp
  exact OGo.plain (fun T t hA q => XT.dup2L hA K.ex rfl (hb K.by hd) rfl q) r
theorem OGo.lcmp (K : OCx p l e R s m args below meth c Z own nm bytes ml rt) {x y : Int64} (hd : decode bytes pc = .ok (.lcmp, 1)) (hp : pc + 1 = pc') (r : OGo p l e R s m args below meth c n0 Q h cells slots pc' Ls (.int (lcmpW x y) :: st)) : OGo p l e R s m args below meth c n0 Q h cells slots pc Ls (.long y :: .long x :: st) := by
  subst hp
  exact OGo.plain (fun T t hA q => XS.lcmp hA K.ex rfl (hb K.by hd) rfl q) r
theorem OGo.dload (K : OCx p l e R s m args below meth c Z own nm bytes ml rt) {k : Nat} {v : UInt64} (hd : decode bytes pc = .ok (.dload k, 2)) (hp : pc + 2 = pc') (hl : Ls[k]? = some (.val (.double v))) (r : OGo p l e R s m args below meth c n0 Q h cells slots pc' Ls (.double v :: st)) : OGo p l e R s m args below meth c n0 Q h cells slots pc Ls st := by
  subst hp
  exact OGo.plain (fun T t hA q => XS.dload hA K.ex rfl (hb K.by hd) hl q) r
theorem OGo.dloadN (K : OCx p l e R s m args below meth c Z own nm bytes ml rt) {k : Fin 4} {v : UInt64} (hd : decode bytes pc = .ok (.dload_n k, 1)) (hp : pc + 1 = pc') (hl : Ls[k.val]? = some (.val (.double v))) (r : OGo p l e R s m args below meth c n0 Q h cells slots pc' Ls (.double v :: st)) : OGo p l e R s m args below meth c n0 Q h cells slots pc Ls st := by
  subst hp
  exact OGo.plain (fun T t hA q => XS.dloadN hA K.ex rfl (hb K.by hd) hl q) r
theorem OGo.dstore (K : OCx p l e R s m args below meth c Z own nm bytes ml rt) {k : Nat} {v : UInt64} (hd : decode bytes pc = .ok (.dstore k, 2)) (hp : pc + 2 = pc') (hl : storeLocals Ls k (.double v) = some Ls') (r : OGo p l e R s m args below meth c n0 Q h cells slots pc' Ls' st) : OGo p l e R s m args below meth c n0 Q h cells slots pc Ls (.double v :: st) := by
  subst hp
  exact OGo.plain (fun T t hA q => XS.dstore hA K.ex rfl (hb K.by hd) rfl hl q) r
theorem OGo.dstoreN (K : OCx p l e R s m args below meth c Z own nm bytes ml rt) {k : Fin 4} {v : UInt64} (hd : decode bytes pc = .ok (.dstore_n k, 1)) (hp : pc + 1 = pc') (hl : storeLocals Ls k.val (.double v) = some Ls') (r : OGo p l e R s m args below meth c n0 Q h cells slots pc' Ls' st) : OGo p l e R s m args below meth c n0 Q h cells slots pc Ls (.double v :: st) := by
  subst hp
  exact OGo.plain (fun T t hA q => XS.dstoreN hA K.ex rfl (hb K.by hd) rfl hl q) r
theorem OGo.dconst0 (K : OCx p l e R s m args below meth c Z own nm bytes ml rt) {z : UInt64} (hd : decode bytes pc = .ok (.dconst 0, 1)) (hp : pc + 1 = pc') (hz : FP.dconst0 = z) (r : OGo p l e R s m args below meth c n0 Q h cells slots pc' Ls (.double z :: st)) : OGo p l e R s m args below meth c n0 Q h cells slots pc Ls st := by
  subst hp
  exact OGo.plain (fun T t hA q => XS.dconst0 hA K.ex rfl (hb K.by hd) hz q) r
theorem OGo.dconst1 (K : OCx p l e R s m args below meth c Z own nm bytes ml rt) {z : UInt64} (hd : decode bytes pc = .ok (.dconst 1, 1)) (hp : pc + 1 = pc') (hz : FP.dconst1 = z) (r : OGo p l e R s m args below meth c n0 Q h cells slots pc' Ls (.double z :: st)) : OGo p l e R s m args below meth c n0 Q h cells slots pc Ls st := by
  subst hp
  exact OGo.plain (fun T t hA q => XS.dconst1 hA K.ex rfl (hb K.by hd) hz q) r
theorem OGo.i2d (K : OCx p l e R s m args below meth c Z own nm bytes ml rt) {x : Int32} (hd : decode bytes pc = .ok (.i2d, 1)) (hp : pc + 1 = pc') (r : OGo p l e R s m args below meth c n0 Q h cells slots pc' Ls (.double (FP.i2d x) :: st)) : OGo p l e R s m args below meth c n0 Q h cells slots pc Ls (.int x :: st) := by
  subst hp
  exact OGo.plain (fun T t hA q => XS.i2dS hA K.ex rfl (hb K.by hd) rfl rfl q) r
theorem OGo.dadd (K : OCx p l e R s m args below meth c Z own nm bytes ml rt) {x y z : UInt64} (hd : decode bytes pc = .ok (.dadd, 1)) (hp : pc + 1 = pc') (hn : Jvm.Free.Fl.NoNaN64 (FP.dadd x y)) (hz : FP.dadd x y = z) (r : OGo p l e R s m args below meth c n0 Q h cells slots pc' Ls (.double z :: st)) : OGo p l e R s m args below meth c n0 Q h cells slots pc Ls (.double y :: .double x :: st) := by
  subst hp
  exact OGo.plain (fun T t hA q => XS.daddS hA K.ex rfl (hb K.by hd) rfl hn hz q) r
theorem OGo.dsub (K : OCx p l e R s m args below meth c Z own nm bytes ml rt) {x y z : UInt64} (hd : decode bytes pc = .ok (.dsub, 1)) (hp : pc + 1 = pc') (hn : Jvm.Free.Fl.NoNaN64 (FP.dsub x y)) (hz : FP.dsub x y = z) (r : OGo p l e R s m args below meth c n0 Q h cells slots pc' Ls (.double z :: st)) : OGo p l e R s m args below meth c n0 Q h cells slots pc Ls (.double y :: .double x :: st) := by
  subst hp
  exact OGo.plain (fun T t hA q => XS.dsubS hA K.ex rfl (hb K.by hd) rfl hn hz q) r
theorem OGo.dmul (K : OCx p l e R s m args below meth c Z own nm bytes ml rt) {x y z : UInt64} (hd : decode bytes pc = .ok (.dmul, 1)) (hp : pc + 1 = pc') (hn : Jvm.Free.Fl.NoNaN64 (FP.dmul x y)) (hz : FP.dmul x y = z) (r : OGo p l e R s m args below meth c n0 Q h cells slots pc' Ls (.double z :: st)) : OGo p l e R s m args below meth c n0 Q h cells slots pc Ls (.double y :: .double x :: st) := by
  subst hp
  exact OGo.plain (fun T t hA q => XS.dmulS hA K.ex rfl (hb K.by hd) rfl hn hz q) r
theorem OGo.ddiv (K : OCx p l e R s m args below meth c Z own nm bytes ml rt) {x y z : UInt64} (hd : decode bytes pc = .ok (.ddiv, 1)) (hp : pc + 1 = pc') (hn : Jvm.Free.Fl.NoNaN64 (FP.ddiv x y)) (hz : FP.ddiv x y = z) (r : OGo p l e R s m args below meth c n0 Q h cells slots pc' Ls (.double z :: st)) : OGo p l e R s m args below meth c n0 Q h cells slots pc Ls (.double y :: .double x :: st) := by
  subst hp
  exact OGo.plain (fun T t hA q => XS.ddivS hA K.ex rfl (hb K.by hd) rfl hn hz q) r
theorem OGo.dcmp (K : OCx p l e R s m args below meth c Z own nm bytes ml rt) {o : CmpOp} {x y : UInt64} {z : Int32} (hd : decode bytes pc = .ok (.dcmp o, 1)) (hp : pc + 1 = pc') (hz : cmpValue (FP.dcmp x y) o = z) (r : OGo p l e R s m args below meth c n0 Q h cells slots pc' Ls (.int z :: st)) : OGo p l e R s m args below meth c n0 Q h cells slots pc Ls (.double y :: .double x :: st) := by
  subst hp
  exact OGo.plain (fun T t hA q => XS.dcmpS hA K.ex rfl (hb K.by hd) rfl hz q) r
theorem OGo.goto (K : OCx p l e R s m args below meth c Z own nm bytes ml rt) {o : Int} (hd : decode bytes pc = .ok (.goto o, 3)) (ho : 0 ≤ (pc : Int) + o) (hp : ((pc : Int) + o).toNat = pc') (r : OGo p l e R s m args below meth c n0 Q h cells slots pc' Ls st) : OGo p l e R s m args below meth c n0 Q h cells slots pc Ls st :=
  OGo.plain (fun T t hA q => XS.goto hA K.ex rfl rfl (hb K.by hd) ho hp q) r
theorem OGo.icmp (K : OCx p l e R s m args below meth c Z own nm bytes ml rt) {cd : ClassFile.Cond} {o : Int} {x y : Int32} (hd : decode bytes pc = .ok (.if_icmp cd o, 3)) (hp : pc + 3 = pc') (ho : 0 ≤ (pc : Int) + o) (hq : ((pc : Int) + o).toNat = pcY) (ry : if_icmp.holds cd x y = true → OGo p l e R s m args below meth c n0 Q h cells slots pcY Ls st) (rn : if_icmp.holds cd x y = false → OGo p l e R s m args below meth c n0 Q h cells slots pc' Ls st) : OGo p l e R s m args below meth c n0 Q h cells slots pc Ls (.int y :: .int x :: st) := by
  subst hp
  cases hc : if_icmp.holds cd x y
  · exact OGo.plain (fun T t hA q => XS.icmpNo hA K.ex rfl (hb K.by hd) rfl hc q) (rn hc)
  · exact OGo.plain (fun T t hA q => XS.icmpYes hA K.ex rfl rfl (hb K.by hd) rfl hc ho hq q) (ry hc)
theorem OGo.ifc (K : OCx p l e R s m args below meth c Z own nm bytes ml rt) {cd : ClassFile.Cond} {o : Int} {x : Int32} (hd : decode bytes pc = .ok (.ifCond cd o, 3)) (hp : pc + 3 = pc') (ho : 0 ≤ (pc : Int) + o) (hq : ((pc : Int) + o).toNat = pcY) (ry : if_icmp.holds cd x 0 = true → OGo p l e R s m args below meth c n0 Q h cells slots pcY Ls st) (rn : if_icmp.holds cd x 0 = false → OGo p l e R s m args below meth c n0 Q h cells slots pc' Ls st) : OGo p l e R s m args below meth c n0 Q h cells slots pc Ls (.int x :: st) := by
  subst hp
  cases hc : if_icmp.holds cd x 0
  · exact OGo.plain (fun T t hA q => XS.ifNo hA K.ex rfl (hb K.by hd) rfl ((if0 _ _).trans hc) q) (rn hc)
  · exact OGo.plain (fun T t hA q => XS.ifYes hA K.ex rfl rfl (hb K.by hd) rfl ((if0 _ _).trans hc) ho hq q) (ry hc)
theorem own_holds {cd : ClassFile.Cond} {x y : Int32} {b : Bool} (q : if_icmp.holds cd x y = b) : match cd with | .eq => (x = y) = (b = true) | .ne => (¬ x = y) = (b = true) | .lt => (x < y) = (b = true) | .ge => (¬ x < y) = (b = true) | .gt => (y < x) = (b = true) | .le => (¬ y < x) = (b = true) := by
  subst q
  cases cd
  all_goals simp only [eq_iff_iff]
  · constructor
    · intro h; exact (teq h).1
    · intro h; by_cases q : x = y
      · exact q
      · rw [(feq q).1] at h; cases h
  · constructor
    · intro h; exact (feq h).2
    · intro h q; rw [(teq q).2] at h; cases h
  · constructor
    · intro h; exact (tlt h).1
    · intro h; by_cases q : x < y
      · exact q
      · rw [(flt q).1] at h; cases h
  · constructor
    · intro h; exact (flt h).2.1
    · intro h q; rw [(tlt q).2.1] at h; cases h
  · constructor
    · intro h; exact (tlt h).2.2.1
    · intro h; by_cases q : y < x
      · exact q
      · rw [(flt q).2.2.1] at h; cases h
  · constructor
    · intro h; exact (flt h).2.2.2
    · intro h q; rw [(tlt q).2.2.2] at h; cases h
theorem OGo.icmpEq (K : OCx p l e R s m args below meth c Z own nm bytes ml rt) {o : Int} {x y : Int32} (hd : decode bytes pc = .ok (.if_icmp .eq o, 3)) (hp : pc + 3 = pc') (ho : 0 ≤ (pc : Int) + o) (hq : ((pc : Int) + o).toNat = pcY) (ry : x = y → OGo p l e R s m args below meth c n0 Q h cells slots pcY Ls st) (rn : ¬ x = y → OGo p l e R s m args below meth c n0 Q h cells slots pc' Ls st) : OGo p l e R s m args below meth c n0 Q h cells slots pc Ls (.int y :: .int x :: st) :=
  OGo.icmp K hd hp ho hq (fun q => ry ((own_holds q : _ = _).mpr rfl)) (fun q => rn (fun z => Bool.false_ne_true ((own_holds q : _ = _).mp z)))
theorem OGo.ifEq (K : OCx p l e R s m args below meth c Z own nm bytes ml rt) {o : Int} {x : Int32} (hd : decode bytes pc = .ok (.ifCond .eq o, 3)) (hp : pc + 3 = pc') (ho : 0 ≤ (pc : Int) + o) (hq : ((pc : Int) + o).toNat = pcY) (ry : x = 0 → OGo p l e R s m args below meth c n0 Q h cells slots pcY Ls st) (rn : ¬ x = 0 → OGo p l e R s m args below meth c n0 Q h cells slots pc' Ls st) : OGo p l e R s m args below meth c n0 Q h cells slots pc Ls (.int x :: st) :=
  OGo.ifc K hd hp ho hq (fun q => ry ((own_holds q : _ = _).mpr rfl)) (fun q => rn (fun z => Bool.false_ne_true ((own_holds q : _ = _).mp z)))
theorem OGo.lcmpEq (K : OCx p l e R s m args below meth c Z own nm bytes ml rt) {o : Int} {x y : Int64} {pc1 : Nat} (hd0 : decode bytes pc = .ok (.lcmp, 1)) (hp0 : pc + 1 = pc1) (hd : decode bytes pc1 = .ok (.ifCond .eq o, 3)) (hp : pc1 + 3 = pc') (ho : 0 ≤ (pc1 : Int) + o) (hq : ((pc1 : Int) + o).toNat = pcY) (ry : x = y → OGo p l e R s m args below meth c n0 Q h cells slots pcY Ls st) (rn : ¬ x = y → OGo p l e R s m args below meth c n0 Q h cells slots pc' Ls st) : OGo p l e R s m args below meth c n0 Q h cells slots pc Ls (.long y :: .long x :: st) :=
  OGo.lcmp K hd0 hp0 (OGo.ifEq K hd hp ho hq (fun q => ry ((lw_eq x y).mp q)) (fun q => rn (fun z => q ((lw_eq x y).mpr z))))
theorem OGo.icmpNe (K : OCx p l e R s m args below meth c Z own nm bytes ml rt) {o : Int} {x y : Int32} (hd : decode bytes pc = .ok (.if_icmp .ne o, 3)) (hp : pc + 3 = pc') (ho : 0 ≤ (pc : Int) + o) (hq : ((pc : Int) + o).toNat = pcY) (ry : ¬ x = y → OGo p l e R s m args below meth c n0 Q h cells slots pcY Ls st) (rn : x = y → OGo p l e R s m args below meth c n0 Q h cells slots pc' Ls st) : OGo p l e R s m args below meth c n0 Q h cells slots pc Ls (.int y :: .int x :: st) :=
  OGo.icmp K hd hp ho hq (fun q => ry ((own_holds q : _ = _).mpr rfl)) (fun q => rn (Classical.byContradiction fun z => Bool.false_ne_true ((own_holds q : _ = _).mp z)))
theorem OGo.ifNe (K : OCx p l e R s m args below meth c Z own nm bytes ml rt) {o : Int} {x : Int32} (hd : decode bytes pc = .ok (.ifCond .ne o, 3)) (hp : pc + 3 = pc') (ho : 0 ≤ (pc : Int) + o) (hq : ((pc : Int) + o).toNat = pcY) (ry : ¬ x = 0 → OGo p l e R s m args below meth c n0 Q h cells slots pcY Ls st) (rn : x = 0 → OGo p l e R s m args below meth c n0 Q h cells slots pc' Ls st) : OGo p l e R s m args below meth c n0 Q h cells slots pc Ls (.int x :: st) :=
  OGo.ifc K hd hp ho hq (fun q => ry ((own_holds q : _ = _).mpr rfl)) (fun q => rn (Classical.byContradiction fun z => Bool.false_ne_true ((own_holds q : _ = _).mp z)))
theorem OGo.lcmpNe (K : OCx p l e R s m args below meth c Z own nm bytes ml rt) {o : Int} {x y : Int64} {pc1 : Nat} (hd0 : decode bytes pc = .ok (.lcmp, 1)) (hp0 : pc + 1 = pc1) (hd : decode bytes pc1 = .ok (.ifCond .ne o, 3)) (hp : pc1 + 3 = pc') (ho : 0 ≤ (pc1 : Int) + o) (hq : ((pc1 : Int) + o).toNat = pcY) (ry : ¬ x = y → OGo p l e R s m args below meth c n0 Q h cells slots pcY Ls st) (rn : x = y → OGo p l e R s m args below meth c n0 Q h cells slots pc' Ls st) : OGo p l e R s m args below meth c n0 Q h cells slots pc Ls (.long y :: .long x :: st) :=
  OGo.lcmp K hd0 hp0 (OGo.ifNe K hd hp ho hq (fun q => ry (fun z => q ((lw_eq x y).mpr z))) (fun q => rn ((lw_eq x y).mp q)))
theorem OGo.icmpLt (K : OCx p l e R s m args below meth c Z own nm bytes ml rt) {o : Int} {x y : Int32} (hd : decode bytes pc = .ok (.if_icmp .lt o, 3)) (hp : pc + 3 = pc') (ho : 0 ≤ (pc : Int) + o) (hq : ((pc : Int) + o).toNat = pcY) (ry : x < y → OGo p l e R s m args below meth c n0 Q h cells slots pcY Ls st) (rn : ¬ x < y → OGo p l e R s m args below meth c n0 Q h cells slots pc' Ls st) : OGo p l e R s m args below meth c n0 Q h cells slots pc Ls (.int y :: .int x :: st) :=
  OGo.icmp K hd hp ho hq (fun q => ry ((own_holds q : _ = _).mpr rfl)) (fun q => rn (fun z => Bool.false_ne_true ((own_holds q : _ = _).mp z)))
theorem OGo.ifLt (K : OCx p l e R s m args below meth c Z own nm bytes ml rt) {o : Int} {x : Int32} (hd : decode bytes pc = .ok (.ifCond .lt o, 3)) (hp : pc + 3 = pc') (ho : 0 ≤ (pc : Int) + o) (hq : ((pc : Int) + o).toNat = pcY) (ry : x < 0 → OGo p l e R s m args below meth c n0 Q h cells slots pcY Ls st) (rn : ¬ x < 0 → OGo p l e R s m args below meth c n0 Q h cells slots pc' Ls st) : OGo p l e R s m args below meth c n0 Q h cells slots pc Ls (.int x :: st) :=
  OGo.ifc K hd hp ho hq (fun q => ry ((own_holds q : _ = _).mpr rfl)) (fun q => rn (fun z => Bool.false_ne_true ((own_holds q : _ = _).mp z)))
theorem OGo.lcmpLt (K : OCx p l e R s m args below meth c Z own nm bytes ml rt) {o : Int} {x y : Int64} {pc1 : Nat} (hd0 : decode bytes pc = .ok (.lcmp, 1)) (hp0 : pc + 1 = pc1) (hd : decode bytes pc1 = .ok (.ifCond .lt o, 3)) (hp : pc1 + 3 = pc') (ho : 0 ≤ (pc1 : Int) + o) (hq : ((pc1 : Int) + o).toNat = pcY) (ry : x < y → OGo p l e R s m args below meth c n0 Q h cells slots pcY Ls st) (rn : ¬ x < y → OGo p l e R s m args below meth c n0 Q h cells slots pc' Ls st) : OGo p l e R s m args below meth c n0 Q h cells slots pc Ls (.long y :: .long x :: st) :=
  OGo.lcmp K hd0 hp0 (OGo.ifLt K hd hp ho hq (fun q => ry ((lw_lt x y).mp q)) (fun q => rn (fun z => q ((lw_lt x y).mpr z))))
theorem OGo.icmpGe (K : OCx p l e R s m args below meth c Z own nm bytes ml rt) {o : Int} {x y : Int32} (hd : decode bytes pc = .ok (.if_icmp .ge o, 3)) (hp : pc + 3 = pc') (ho : 0 ≤ (pc : Int) + o) (hq : ((pc : Int) + o).toNat = pcY) (ry : ¬ x < y → OGo p l e R s m args below meth c n0 Q h cells slots pcY Ls st) (rn : x < y → OGo p l e R s m args below meth c n0 Q h cells slots pc' Ls st) : OGo p l e R s m args below meth c n0 Q h cells slots pc Ls (.int y :: .int x :: st) :=
  OGo.icmp K hd hp ho hq (fun q => ry ((own_holds q : _ = _).mpr rfl)) (fun q => rn (Classical.byContradiction fun z => Bool.false_ne_true ((own_holds q : _ = _).mp z)))
theorem OGo.ifGe (K : OCx p l e R s m args below meth c Z own nm bytes ml rt) {o : Int} {x : Int32} (hd : decode bytes pc = .ok (.ifCond .ge o, 3)) (hp : pc + 3 = pc') (ho : 0 ≤ (pc : Int) + o) (hq : ((pc : Int) + o).toNat = pcY) (ry : ¬ x < 0 → OGo p l e R s m args below meth c n0 Q h cells slots pcY Ls st) (rn : x < 0 → OGo p l e R s m args below meth c n0 Q h cells slots pc' Ls st) : OGo p l e R s m args below meth c n0 Q h cells slots pc Ls (.int x :: st) :=
  OGo.ifc K hd hp ho hq (fun q => ry ((own_holds q : _ = _).mpr rfl)) (fun q => rn (Classical.byContradiction fun z => Bool.false_ne_true ((own_holds q : _ = _).mp z)))
theorem OGo.lcmpGe (K : OCx p l e R s m args below meth c Z own nm bytes ml rt) {o : Int} {x y : Int64} {pc1 : Nat} (hd0 : decode bytes pc = .ok (.lcmp, 1)) (hp0 : pc + 1 = pc1) (hd : decode bytes pc1 = .ok (.ifCond .ge o, 3)) (hp : pc1 + 3 = pc') (ho : 0 ≤ (pc1 : Int) + o) (hq : ((pc1 : Int) + o).toNat = pcY) (ry : ¬ x < y → OGo p l e R s m args below meth c n0 Q h cells slots pcY Ls st) (rn : x < y → OGo p l e R s m args below meth c n0 Q h cells slots pc' Ls st) : OGo p l e R s m args below meth c n0 Q h cells slots pc Ls (.long y :: .long x :: st) :=
  OGo.lcmp K hd0 hp0 (OGo.ifGe K hd hp ho hq (fun q => ry (fun z => q ((lw_lt x y).mpr z))) (fun q => rn ((lw_lt x y).mp q)))
theorem OGo.icmpGt (K : OCx p l e R s m args below meth c Z own nm bytes ml rt) {o : Int} {x y : Int32} (hd : decode bytes pc = .ok (.if_icmp .gt o, 3)) (hp : pc + 3 = pc') (ho : 0 ≤ (pc : Int) + o) (hq : ((pc : Int) + o).toNat = pcY) (ry : y < x → OGo p l e R s m args below meth c n0 Q h cells slots pcY Ls st) (rn : ¬ y < x → OGo p l e R s m args below meth c n0 Q h cells slots pc' Ls st) : OGo p l e R s m args below meth c n0 Q h cells slots pc Ls (.int y :: .int x :: st) :=
  OGo.icmp K hd hp ho hq (fun q => ry ((own_holds q : _ = _).mpr rfl)) (fun q => rn (fun z => Bool.false_ne_true ((own_holds q : _ = _).mp z)))
theorem OGo.ifGt (K : OCx p l e R s m args below meth c Z own nm bytes ml rt) {o : Int} {x : Int32} (hd : decode bytes pc = .ok (.ifCond .gt o, 3)) (hp : pc + 3 = pc') (ho : 0 ≤ (pc : Int) + o) (hq : ((pc : Int) + o).toNat = pcY) (ry : 0 < x → OGo p l e R s m args below meth c n0 Q h cells slots pcY Ls st) (rn : ¬ 0 < x → OGo p l e R s m args below meth c n0 Q h cells slots pc' Ls st) : OGo p l e R s m args below meth c n0 Q h cells slots pc Ls (.int x :: st) :=
  OGo.ifc K hd hp ho hq (fun q => ry ((own_holds q : _ = _).mpr rfl)) (fun q => rn (fun z => Bool.false_ne_true ((own_holds q : _ = _).mp z)))
theorem OGo.lcmpGt (K : OCx p l e R s m args below meth c Z own nm bytes ml rt) {o : Int} {x y : Int64} {pc1 : Nat} (hd0 : decode bytes pc = .ok (.lcmp, 1)) (hp0 : pc + 1 = pc1) (hd : decode bytes pc1 = .ok (.ifCond .gt o, 3)) (hp : pc1 + 3 = pc') (ho : 0 ≤ (pc1 : Int) + o) (hq : ((pc1 : Int) + o).toNat = pcY) (ry : y < x → OGo p l e R s m args below meth c n0 Q h cells slots pcY Ls st) (rn : ¬ y < x → OGo p l e R s m args below meth c n0 Q h cells slots pc' Ls st) : OGo p l e R s m args below meth c n0 Q h cells slots pc Ls (.long y :: .long x :: st) :=
  OGo.lcmp K hd0 hp0 (OGo.ifGt K hd hp ho hq (fun q => ry ((lw_gt x y).mp q)) (fun q => rn (fun z => q ((lw_gt x y).mpr z))))
theorem OGo.icmpLe (K : OCx p l e R s m args below meth c Z own nm bytes ml rt) {o : Int} {x y : Int32} (hd : decode bytes pc = .ok (.if_icmp .le o, 3)) (hp : pc + 3 = pc') (ho : 0 ≤ (pc : Int) + o) (hq : ((pc : Int) + o).toNat = pcY) (ry : ¬ y < x → OGo p l e R s m args below meth c n0 Q h cells slots pcY Ls st) (rn : y < x → OGo p l e R s m args below meth c n0 Q h cells slots pc' Ls st) : OGo p l e R s m args below meth c n0 Q h cells slots pc Ls (.int y :: .int x :: st) :=
  OGo.icmp K hd hp ho hq (fun q => ry ((own_holds q : _ = _).mpr rfl)) (fun q => rn (Classical.byContradiction fun z => Bool.false_ne_true ((own_holds q : _ = _).mp z)))
theorem OGo.ifLe (K : OCx p l e R s m args below meth c Z own nm bytes ml rt) {o : Int} {x : Int32} (hd : decode bytes pc = .ok (.ifCond .le o, 3)) (hp : pc + 3 = pc') (ho : 0 ≤ (pc : Int) + o) (hq : ((pc : Int) + o).toNat = pcY) (ry : ¬ 0 < x → OGo p l e R s m args below meth c n0 Q h cells slots pcY Ls st) (rn : 0 < x → OGo p l e R s m args below meth c n0 Q h cells slots pc' Ls st) : OGo p l e R s m args below meth c n0 Q h cells slots pc Ls (.int x :: st) :=
  OGo.ifc K hd hp ho hq (fun q => ry ((own_holds q : _ = _).mpr rfl)) (fun q => rn (Classical.byContradiction fun z => Bool.false_ne_true ((own_holds q : _ = _).mp z)))
theorem OGo.lcmpLe (K : OCx p l e R s m args below meth c Z own nm bytes ml rt) {o : Int} {x y : Int64} {pc1 : Nat} (hd0 : decode bytes pc = .ok (.lcmp, 1)) (hp0 : pc + 1 = pc1) (hd : decode bytes pc1 = .ok (.ifCond .le o, 3)) (hp : pc1 + 3 = pc') (ho : 0 ≤ (pc1 : Int) + o) (hq : ((pc1 : Int) + o).toNat = pcY) (ry : ¬ y < x → OGo p l e R s m args below meth c n0 Q h cells slots pcY Ls st) (rn : y < x → OGo p l e R s m args below meth c n0 Q h cells slots pc' Ls st) : OGo p l e R s m args below meth c n0 Q h cells slots pc Ls (.long y :: .long x :: st) :=
  OGo.lcmp K hd0 hp0 (OGo.ifLe K hd hp ho hq (fun q => ry (fun z => q ((lw_gt x y).mpr z))) (fun q => rn ((lw_gt x y).mp q)))
theorem OGo.ifnullY (K : OCx p l e R s m args below meth c Z own nm bytes ml rt) {o : Int} (hd : decode bytes pc = .ok (.ifnull o, 3)) (ho : 0 ≤ (pc : Int) + o) (hq : ((pc : Int) + o).toNat = pc') (r : OGo p l e R s m args below meth c n0 Q h cells slots pc' Ls st) : OGo p l e R s m args below meth c n0 Q h cells slots pc Ls (.null :: st) :=
  OGo.plain (fun T t hA q => XS.ifnullYes hA K.ex rfl rfl (hb K.by hd) rfl ho hq q) r
theorem OGo.ifnullN (K : OCx p l e R s m args below meth c Z own nm bytes ml rt) {b : Addr} {o : Int} (hd : decode bytes pc = .ok (.ifnull o, 3)) (hp : pc + 3 = pc') (r : OGo p l e R s m args below meth c n0 Q h cells slots pc' Ls st) : OGo p l e R s m args below meth c n0 Q h cells slots pc Ls (.ref b :: st) := by
  subst hp
  exact OGo.plain (fun T t hA q => XS.ifnullNo hA K.ex rfl (hb K.by hd) rfl q) r
theorem OGo.ifnonnullY (K : OCx p l e R s m args below meth c Z own nm bytes ml rt) {b : Addr} {o : Int} (hd : decode bytes pc = .ok (.ifnonnull o, 3)) (ho : 0 ≤ (pc : Int) + o) (hq : ((pc : Int) + o).toNat = pc') (r : OGo p l e R s m args below meth c n0 Q h cells slots pc' Ls st) : OGo p l e R s m args below meth c n0 Q h cells slots pc Ls (.ref b :: st) :=
  OGo.plain (fun T t hA q => XS.ifnonnullYes hA K.ex rfl rfl (hb K.by hd) rfl ho hq q) r
theorem OGo.ifnonnullN (K : OCx p l e R s m args below meth c Z own nm bytes ml rt) {o : Int} (hd : decode bytes pc = .ok (.ifnonnull o, 3)) (hp : pc + 3 = pc') (r : OGo p l e R s m args below meth c n0 Q h cells slots pc' Ls st) : OGo p l e R s m args below meth c n0 Q h cells slots pc Ls (.null :: st) := by
  subst hp
  exact OGo.plain (fun T t hA q => XS.ifnonnullNo hA K.ex rfl (hb K.by hd) rfl q) r
theorem OGo.getF (K : OCx p l e R s m args below meth c Z own nm bytes ml rt) {R0 O n d host : String} {index : Nat} {a : Addr} {v : Value} (w : (Jvm.Cond.fieldLink own index R0 n d).before a0 Z = true ∨ (Jvm.Cond.fieldLinkNest own index R0 n d host).before a0 Z = true) (via : Via Z R0 O n d) (F : Fld Z h a O n d v) (hd : decode bytes pc = .ok (.getfield index, 3)) (hp : pc + 3 = pc') (r : OGo p l e R s m args below meth c n0 Q h cells slots pc' Ls (v :: st)) : OGo p l e R s m args below meth c n0 Q h cells slots pc Ls (.ref a :: st) := by
  subst hp
  exact OGo.same (fun T locs k n X e0 => RoadKit.getF X K.ex K.hZ K.hown w via e0 F (g := mkF m pc Ls (.ref a :: st)) rfl rfl (hb K.by hd)) r
theorem OGo.getS (K : OCx p l e R s m args below meth c Z own nm bytes ml rt) {R0 O n d host : String} {index : Nat} {v : Value} (w : (Jvm.Cond.fieldLink own index R0 n d).before a0 Z = true ∨ (Jvm.Cond.fieldLinkNest own index R0 n d host).before a0 Z = true) (via : Via Z R0 O n d) (F : Sta Z h O n d v) (hd : decode bytes pc = .ok (.getstatic index, 3)) (hp : pc + 3 = pc') (r : OGo p l e R s m args below meth c n0 Q h cells slots pc' Ls (v :: st)) : OGo p l e R s m args below meth c n0 Q h cells slots pc Ls st := by
  subst hp
  exact OGo.same (fun T locs k n X e0 => RoadKit.getS2 X K.ex K.hZ K.hown w via e0 F (g := mkF m pc Ls st) rfl (hb K.by hd)) r
theorem OGo.putF (K : OCx p l e R s m args below meth c Z own nm bytes ml rt) {R0 O n d host C : String} {index kk : Nat} {ty : FieldType} {a : Addr} {v old : Value} (w : (Jvm.Cond.fieldLink own index R0 n d).before a0 Z = true ∨ (Jvm.Cond.fieldLinkNest own index R0 n d host).before a0 Z = true) (via : Via Z R0 O n d) (F : Fld Z h a O n d old) (E : Exa Z h a C) (L : (Jvm.Cond.lays C O n d).before a0 Z = true ∨ ((Jvm.Cond.laysFinal C O n d).before a0 Z = true ∧ own = O ∧ nm = "<init>")) (wi : (Jvm.Cond.instantiable C kk).before a0 Z = true) (hty : parseFieldDescriptor d = some ty) (hn : narrow ty v = v) (hf : fits ty v = true) (ga : n0 ≤ a) (hd : decode bytes pc = .ok (.putfield index, 3)) (hp : pc + 3 = pc')
    (r : ∀ h', Wr h h' a (RoadKit.slotOf Z O n d) v → OGo p l e R s m args below meth c n0 Q h' cells slots pc' Ls st) : OGo p l e R s m args below meth c n0 Q h cells slots pc Ls (v :: .ref a :: st) := by
  subst hp
  exact OGo.write ga (fun T locs k n X e0 => RoadKit.putF X K.ex K.hZ K.hown w via e0 F E (L.imp id fun q => ⟨q.1, q.2.1, K.hnm.trans q.2.2⟩) wi hty hn hf (g := mkF m pc Ls (v :: .ref a :: st)) rfl rfl (hb K.by hd)) r
theorem OGo.putFN (K : OCx p l e R s m args below meth c Z own nm bytes ml rt) {R0 O n d C : String} {index kk : Nat} {ty : FieldType} {a : Addr} {v v' old : Value} (w : (Jvm.Cond.fieldLink own index R0 n d).before a0 Z = true) (via : Via Z R0 O n d) (F : Fld Z h a O n d old) (E : Exa Z h a C) (L : (Jvm.Cond.lays C O n d).before a0 Z = true ∨ ((Jvm.Cond.laysFinal C O n d).before a0 Z = true ∧ own = O ∧ nm = "<init>")) (wi : (Jvm.Cond.instantiable C kk).before a0 Z = true) (hty : parseFieldDescriptor d = some ty) (hn : narrow ty v = v') (hf : fits ty v' = true) (ga : n0 ≤ a) (hd : decode bytes pc = .ok (.putfield index, 3)) (hp : pc + 3 = pc')
    (r : ∀ h', Wr h h' a (RoadKit.slotOf Z O n d) v' → OGo p l e R s m args below meth c n0 Q h' cells slots pc' Ls st) : OGo p l e R s m args below meth c n0 Q h cells slots pc Ls (v :: .ref a :: st) := by
  subst hp
  exact OGo.write ga (fun T locs k n X e0 => RoadKit.putFN X K.ex K.hZ K.hown w via e0 F E (L.imp id fun q => ⟨q.1, q.2.1, K.hnm.trans q.2.2⟩) wi hty hn hf (g := mkF m pc Ls (v :: .ref a :: st)) rfl rfl (hb K.by hd)) r
theorem OGo.newO (K : OCx p l e R s m args below meth c Z own nm bytes ml rt) {C : String} {index n cells' slots' : Nat} (w : (Jvm.Cond.classLink own index C).before a0 Z = true) (wi : (Jvm.Cond.instantiable C n).before a0 Z = true) (wz : (Jvm.Cond.initialized C).before a0 Z = true) (hd : decode bytes pc = .ok (.new index, 3)) (hp : pc + 3 = pc') (hc : cells + 1 = cells') (hl : slots + n = slots') (hc' : cells' ≤ R.cells) (hl' : slots' ≤ R.slots)
    (r : ∀ (h' : Heap) (a : Addr), a = h.size → Ext h h' → Exa Z h' a C → (∀ {O nm d : String} {ty : FieldType}, Laid Z a0 C O nm d → parseFieldDescriptor d = some ty → Fld Z h' a O nm d (defaultValue ty)) → OGo p l e R s m args below meth c n0 Q h' cells' slots' pc' Ls (.ref a :: st)) : OGo p l e R s m args below meth c n0 Q h cells slots pc Ls st := by
  subst hp hc hl
  intro T locs k j X e0 N h1 h2
  obtain ⟨T', h', X', e', E, A, D, -, st'⟩ := RoadKit.newO X K.ex K.hZ K.hown w wi wz e0 (g := mkF m pc Ls st) rfl (hb K.by hd) (by omega) (by omega)
  obtain ⟨s₂, v, L, g, r'⟩ := r h' h.size rfl E A D T' locs _ _ X' e' N (by omega) (by omega)
  exact ⟨s₂, v, L, st' _ g, r'⟩
theorem OGo.newP (K : OCx p l e R s m args below meth c Z own nm bytes ml rt) {aty : ArrayType} {z : Int32} {cap cells' slots' : Nat} (w : (Jvm.Cond.arrayClass (newarray.typeOf aty)).before a0 Z = true) (hd : decode bytes pc = .ok (.newarray aty, 2)) (hp : pc + 2 = pc') (hz : ¬ z < 0) (hcap : z.toNatClampNeg ≤ cap) (hb' : cap * 8 ≤ 536870912) (hc : cells + 1 = cells') (hl : slots + cap = slots') (hc' : cells' ≤ R.cells) (hl' : slots' ≤ R.slots)
    (r : ∀ (h' : Heap) (a : Addr) (ca : ClassId), a = h.size → Ext h h' → Arv Z h' a ca (newarray.typeOf aty) z [] (defaultValue (newarray.typeOf aty)) → OGo p l e R s m args below meth c n0 Q h' cells' slots' pc' Ls (.ref a :: st)) : OGo p l e R s m args below meth c n0 Q h cells slots pc Ls (.int z :: st) := by
  subst hp hc hl
  intro T locs k j X e0 N h1 h2
  obtain ⟨T', h', ca, X', e', E, A, st'⟩ := RoadKit.newP X K.ex K.hZ w e0 (g := mkF m pc Ls (.int z :: st)) rfl (hb K.by hd) rfl hz (cap := cap) hcap hb' (by omega) (by omega)
  obtain ⟨s₂, v, L, g, r'⟩ := r h' h.size ca rfl E (Arv.new A hz) T' locs _ _ X' e' N (by omega) (by omega)
  exact ⟨s₂, v, L, st' _ g, r'⟩
theorem OGo.newR (K : OCx p l e R s m args below meth c Z own nm bytes ml rt) {C : String} {index : Nat} {z : Int32} {cap cells' slots' : Nat} (w1 : (Jvm.Cond.classLink own index C).before a0 Z = true) (w2 : (Jvm.Cond.arrayOver (.object C)).before a0 Z = true) (hd : decode bytes pc = .ok (.anewarray index, 3)) (hp : pc + 3 = pc') (hz : ¬ z < 0) (hcap : z.toNatClampNeg ≤ cap) (hb' : cap * 8 ≤ 536870912) (hc : cells + 1 = cells') (hl : slots + cap = slots') (hc' : cells' ≤ R.cells) (hl' : slots' ≤ R.slots)
    (r : ∀ (h' : Heap) (a : Addr) (ca : ClassId), a = h.size → Ext h h' → Arv Z h' a ca (.object C) z [] .null → Ovr Z ca C → OGo p l e R s m args below meth c n0 Q h' cells' slots' pc' Ls (.ref a :: st)) : OGo p l e R s m args below meth c n0 Q h cells slots pc Ls (.int z :: st) := by
  subst hp hc hl
  intro T locs k j X e0 N h1 h2
  obtain ⟨T', h', ca, X', e', E, A, O, st'⟩ := RoadKit.newR X K.ex K.hZ K.hown w1 w2 e0 (g := mkF m pc Ls (.int z :: st)) rfl (hb K.by hd) rfl hz (cap := cap) hcap hb' (by omega) (by omega)
  obtain ⟨s₂, v, L, g, r'⟩ := r h' h.size ca rfl E (Arv.new A hz) O T' locs _ _ X' e' N (by omega) (by omega)
  exact ⟨s₂, v, L, st' _ g, r'⟩
theorem OGo.iaload (K : OCx p l e R s m args below meth c Z own nm bytes ml rt) {a : Addr} {ca : ClassId} {z j : Int32} {vs : List Value} {dv v : Value} (A : Arv Z h a ca .int z vs dv) (hj : ¬ j < 0 ∧ j < z) (hv : vs.getD j.toNatClampNeg dv = v) (hd : decode bytes pc = .ok (.iaload, 1)) (hp : pc + 1 = pc') (r : OGo p l e R s m args below meth c n0 Q h cells slots pc' Ls (v :: st)) : OGo p l e R s m args below meth c n0 Q h cells slots pc Ls (.int j :: .ref a :: st) := by
  subst hp
  obtain ⟨cl, A, -, S, -, H, -⟩ := A
  have hin := inb_of S hj
  exact OGo.same (fun T locs k n X e0 => ⟨T, X, e0, fun t q => X.iaload K.ex (j := j) (by rw [e0]; exact A.1) (State.isArrayOf_alike K.hZ.alike A.2.1) A.2.2 hin (H.at hin hv) (g := mkF m pc Ls (.int j :: .ref a :: st)) rfl rfl (hb K.by hd) t q⟩) r
theorem OGo.laload (K : OCx p l e R s m args below meth c Z own nm bytes ml rt) {a : Addr} {ca : ClassId} {z j : Int32} {vs : List Value} {dv v : Value} (A : Arv Z h a ca .long z vs dv) (hj : ¬ j < 0 ∧ j < z) (hv : vs.getD j.toNatClampNeg dv = v) (hd : decode bytes pc = .ok (.laload, 1)) (hp : pc + 1 = pc') (r : OGo p l e R s m args below meth c n0 Q h cells slots pc' Ls (v :: st)) : OGo p l e R s m args below meth c n0 Q h cells slots pc Ls (.int j :: .ref a :: st) := by
  subst hp
  obtain ⟨cl, A, -, S, -, H, -⟩ := A
  have hin := inb_of S hj
  exact OGo.same (fun T locs k n X e0 => ⟨T, X, e0, fun t q => X.laload K.ex (j := j) (by rw [e0]; exact A.1) (State.isArrayOf_alike K.hZ.alike A.2.1) A.2.2 hin (H.at hin hv) (g := mkF m pc Ls (.int j :: .ref a :: st)) rfl rfl (hb K.by hd) t q⟩) r
theorem OGo.caload (K : OCx p l e R s m args below meth c Z own nm bytes ml rt) {a : Addr} {ca : ClassId} {z j : Int32} {vs : List Value} {dv v : Value} (A : Arv Z h a ca .char z vs dv) (hj : ¬ j < 0 ∧ j < z) (hv : vs.getD j.toNatClampNeg dv = v) (hd : decode bytes pc = .ok (.caload, 1)) (hp : pc + 1 = pc') (r : OGo p l e R s m args below meth c n0 Q h cells slots pc' Ls (v :: st)) : OGo p l e R s m args below meth c n0 Q h cells slots pc Ls (.int j :: .ref a :: st) := by
  subst hp
  obtain ⟨cl, A, -, S, -, H, -⟩ := A
  have hin := inb_of S hj
  exact OGo.same (fun T locs k n X e0 => ⟨T, X, e0, fun t q => X.caload K.ex (j := j) (by rw [e0]; exact A.1) (State.isArrayOf_alike K.hZ.alike A.2.1) A.2.2 hin (H.at hin hv) (g := mkF m pc Ls (.int j :: .ref a :: st)) rfl rfl (hb K.by hd) t q⟩) r
theorem OGo.saload (K : OCx p l e R s m args below meth c Z own nm bytes ml rt) {a : Addr} {ca : ClassId} {z j : Int32} {vs : List Value} {dv v : Value} (A : Arv Z h a ca .short z vs dv) (hj : ¬ j < 0 ∧ j < z) (hv : vs.getD j.toNatClampNeg dv = v) (hd : decode bytes pc = .ok (.saload, 1)) (hp : pc + 1 = pc') (r : OGo p l e R s m args below meth c n0 Q h cells slots pc' Ls (v :: st)) : OGo p l e R s m args below meth c n0 Q h cells slots pc Ls (.int j :: .ref a :: st) := by
  subst hp
  obtain ⟨cl, A, -, S, -, H, -⟩ := A
  have hin := inb_of S hj
  exact OGo.same (fun T locs k n X e0 => ⟨T, X, e0, fun t q => X.saload K.ex (j := j) (by rw [e0]; exact A.1) (State.isArrayOf_alike K.hZ.alike A.2.1) A.2.2 hin (H.at hin hv) (g := mkF m pc Ls (.int j :: .ref a :: st)) rfl rfl (hb K.by hd) t q⟩) r
theorem OGo.baload (K : OCx p l e R s m args below meth c Z own nm bytes ml rt) {a : Addr} {ca : ClassId} {z j : Int32} {vs : List Value} {dv v : Value} (A : Arv Z h a ca .byte z vs dv) (hj : ¬ j < 0 ∧ j < z) (hv : vs.getD j.toNatClampNeg dv = v) (hd : decode bytes pc = .ok (.baload, 1)) (hp : pc + 1 = pc') (r : OGo p l e R s m args below meth c n0 Q h cells slots pc' Ls (v :: st)) : OGo p l e R s m args below meth c n0 Q h cells slots pc Ls (.int j :: .ref a :: st) := by
  subst hp
  obtain ⟨cl, A, -, S, -, H, -⟩ := A
  have hin := inb_of S hj
  exact OGo.same (fun T locs k n X e0 => ⟨T, X, e0, fun t q => X.baloadBytes K.ex (j := j) (by rw [e0]; exact A.1) (State.isArrayOf_alike K.hZ.alike A.2.1) A.2.2 hin (H.at hin hv) (g := mkF m pc Ls (.int j :: .ref a :: st)) rfl rfl (hb K.by hd) t q⟩) r
theorem OGo.zaload (K : OCx p l e R s m args below meth c Z own nm bytes ml rt) {a : Addr} {ca : ClassId} {z j : Int32} {vs : List Value} {dv v : Value} (A : Arv Z h a ca .boolean z vs dv) (hj : ¬ j < 0 ∧ j < z) (hv : vs.getD j.toNatClampNeg dv = v) (hd : decode bytes pc = .ok (.baload, 1)) (hp : pc + 1 = pc') (r : OGo p l e R s m args below meth c n0 Q h cells slots pc' Ls (v :: st)) : OGo p l e R s m args below meth c n0 Q h cells slots pc Ls (.int j :: .ref a :: st) := by
  subst hp
  obtain ⟨cl, A, -, S, -, H, -⟩ := A
  have hin := inb_of S hj
  exact OGo.same (fun T locs k n X e0 => ⟨T, X, e0, fun t q => X.baloadBooleans K.ex (j := j) (by rw [e0]; exact A.1) (State.isArrayOf_alike K.hZ.alike A.2.1) A.2.2 hin (H.at hin hv) (g := mkF m pc Ls (.int j :: .ref a :: st)) rfl rfl (hb K.by hd) t q⟩) r
theorem OGo.aaload (K : OCx p l e R s m args below meth c Z own nm bytes ml rt) {a : Addr} {ca : ClassId} {ty : FieldType} {z j : Int32} {vs : List Value} {dv v : Value} (A : Arv Z h a ca ty z vs dv) (hty : ty.isReference = true) (hj : ¬ j < 0 ∧ j < z) (hv : vs.getD j.toNatClampNeg dv = v) (hd : decode bytes pc = .ok (.aaload, 1)) (hp : pc + 1 = pc') (r : OGo p l e R s m args below meth c n0 Q h cells slots pc' Ls (v :: st)) : OGo p l e R s m args below meth c n0 Q h cells slots pc Ls (.int j :: .ref a :: st) := by
  subst hp
  obtain ⟨cl, A, -, S, -, H, -⟩ := A
  have hin := inb_of S hj
  exact OGo.same (fun T locs k n X e0 => ⟨T, X, e0, fun t q => X.aaload K.ex (j := j) (by rw [e0]; exact A.1) (State.isArrayOf_alike K.hZ.alike A.2.1) hty A.2.2 hin (H.at hin hv) (g := mkF m pc Ls (.int j :: .ref a :: st)) rfl rfl (hb K.by hd) t q⟩) r
theorem OGo.alen (K : OCx p l e R s m args below meth c Z own nm bytes ml rt) {a : Addr} {ca : ClassId} {ty : FieldType} {z : Int32} {vs : List Value} {dv : Value} (A : Arv Z h a ca ty z vs dv) (hd : decode bytes pc = .ok (.arraylength, 1)) (hp : pc + 1 = pc') (r : OGo p l e R s m args below meth c n0 Q h cells slots pc' Ls (.int z :: st)) : OGo p l e R s m args below meth c n0 Q h cells slots pc Ls (.ref a :: st) := by
  subst hp
  obtain ⟨cl, A, -, S, hz, -, -⟩ := A
  exact OGo.same (fun T locs k n X e0 => ⟨T, X, e0, fun t q => X.arraylength K.ex (by rw [e0]; exact A.1) (State.isArrayOf_alike K.hZ.alike A.2.1) (g := mkF m pc Ls (.ref a :: st)) rfl rfl (hb K.by hd) t (by rw [len_of S hz]; exact q)⟩) r
theorem OGo.iastore (K : OCx p l e R s m args below meth c Z own nm bytes ml rt) {a : Addr} {ca : ClassId} {z j : Int32} {vs : List Value} {dv : Value} {x : Int32} (A : Arv Z h a ca .int z vs dv) (hj : ¬ j < 0 ∧ j < z) {i : Nat} (hij : j.toNatClampNeg = i) (hi : i < vs.length) (ga : n0 ≤ a) (hd : decode bytes pc = .ok (.iastore, 1)) (hp : pc + 1 = pc')
    (r : ∀ h', Wr h h' a j.toNatClampNeg (.int x) → Arv Z h' a ca .int z (vs.set i (.int x)) dv → OGo p l e R s m args below meth c n0 Q h' cells slots pc' Ls st) : OGo p l e R s m args below meth c n0 Q h cells slots pc Ls (.int x :: .int j :: .ref a :: st) := by
  subst hp
  obtain ⟨cl, A, q1, S, hz, H, G⟩ := A
  have hin := inb_of S hj
  exact OGo.write ga (fun T locs k n X e0 => RoadKit.stI X K.ex K.hZ e0 A (j := j) hin (g := mkF m pc Ls (.int x :: .int j :: .ref a :: st)) rfl rfl (hb K.by hd)) (fun h' W => r h' W (Arv.set A q1 S hz H G rfl W _ hij hi))
theorem OGo.lastore (K : OCx p l e R s m args below meth c Z own nm bytes ml rt) {a : Addr} {ca : ClassId} {z j : Int32} {vs : List Value} {dv : Value} {x : Int64} (A : Arv Z h a ca .long z vs dv) (hj : ¬ j < 0 ∧ j < z) {i : Nat} (hij : j.toNatClampNeg = i) (hi : i < vs.length) (ga : n0 ≤ a) (hd : decode bytes pc = .ok (.lastore, 1)) (hp : pc + 1 = pc')
    (r : ∀ h', Wr h h' a j.toNatClampNeg (.long x) → Arv Z h' a ca .long z (vs.set i (.long x)) dv → OGo p l e R s m args below meth c n0 Q h' cells slots pc' Ls st) : OGo p l e R s m args below meth c n0 Q h cells slots pc Ls (.long x :: .int j :: .ref a :: st) := by
  subst hp
  obtain ⟨cl, A, q1, S, hz, H, G⟩ := A
  have hin := inb_of S hj
  exact OGo.write ga (fun T locs k n X e0 => RoadKit.stJ X K.ex K.hZ e0 A (j := j) hin (g := mkF m pc Ls (.long x :: .int j :: .ref a :: st)) rfl rfl (hb K.by hd)) (fun h' W => r h' W (Arv.set A q1 S hz H G rfl W _ hij hi))
theorem OGo.castore (K : OCx p l e R s m args below meth c Z own nm bytes ml rt) {a : Addr} {ca : ClassId} {z j : Int32} {vs : List Value} {dv : Value} {x : Int32} (A : Arv Z h a ca .char z vs dv) (hj : ¬ j < 0 ∧ j < z) {i : Nat} (hij : j.toNatClampNeg = i) (hi : i < vs.length) (ga : n0 ≤ a) (hd : decode bytes pc = .ok (.castore, 1)) (hp : pc + 1 = pc')
    (r : ∀ h', Wr h h' a j.toNatClampNeg (.int (nar .char x)) → Arv Z h' a ca .char z (vs.set i (.int (nar .char x))) dv → OGo p l e R s m args below meth c n0 Q h' cells slots pc' Ls st) : OGo p l e R s m args below meth c n0 Q h cells slots pc Ls (.int x :: .int j :: .ref a :: st) := by
  subst hp
  obtain ⟨cl, A, q1, S, hz, H, G⟩ := A
  have hin := inb_of S hj
  exact OGo.write ga (fun T locs k n X e0 => RoadKit.stC X K.ex K.hZ e0 A (j := j) hin (g := mkF m pc Ls (.int x :: .int j :: .ref a :: st)) rfl rfl (hb K.by hd)) (fun h' W => r h' W (Arv.set A q1 S hz H G (fits_nar_char x) W _ hij hi))
theorem OGo.sastore (K : OCx p l e R s m args below meth c Z own nm bytes ml rt) {a : Addr} {ca : ClassId} {z j : Int32} {vs : List Value} {dv : Value} {x : Int32} (A : Arv Z h a ca .short z vs dv) (hj : ¬ j < 0 ∧ j < z) {i : Nat} (hij : j.toNatClampNeg = i) (hi : i < vs.length) (ga : n0 ≤ a) (hd : decode bytes pc = .ok (.sastore, 1)) (hp : pc + 1 = pc')
    (r : ∀ h', Wr h h' a j.toNatClampNeg (.int (nar .short x)) → Arv Z h' a ca .short z (vs.set i (.int (nar .short x))) dv → OGo p l e R s m args below meth c n0 Q h' cells slots pc' Ls st) : OGo p l e R s m args below meth c n0 Q h cells slots pc Ls (.int x :: .int j :: .ref a :: st) := by
  subst hp
  obtain ⟨cl, A, q1, S, hz, H, G⟩ := A
  have hin := inb_of S hj
  exact OGo.write ga (fun T locs k n X e0 => RoadKit.stS X K.ex K.hZ e0 A (j := j) hin (g := mkF m pc Ls (.int x :: .int j :: .ref a :: st)) rfl rfl (hb K.by hd)) (fun h' W => r h' W (Arv.set A q1 S hz H G (fits_nar_short x) W _ hij hi))
theorem OGo.bastore (K : OCx p l e R s m args below meth c Z own nm bytes ml rt) {a : Addr} {ca : ClassId} {z j : Int32} {vs : List Value} {dv : Value} {x : Int32} (A : Arv Z h a ca .byte z vs dv) (hj : ¬ j < 0 ∧ j < z) {i : Nat} (hij : j.toNatClampNeg = i) (hi : i < vs.length) (ga : n0 ≤ a) (hd : decode bytes pc = .ok (.bastore, 1)) (hp : pc + 1 = pc')
    (r : ∀ h', Wr h h' a j.toNatClampNeg (.int (nar .byte x)) → Arv Z h' a ca .byte z (vs.set i (.int (nar .byte x))) dv → OGo p l e R s m args below meth c n0 Q h' cells slots pc' Ls st) : OGo p l e R s m args below meth c n0 Q h cells slots pc Ls (.int x :: .int j :: .ref a :: st) := by
  subst hp
  obtain ⟨cl, A, q1, S, hz, H, G⟩ := A
  have hin := inb_of S hj
  exact OGo.write ga (fun T locs k n X e0 => RoadKit.stB X K.ex K.hZ e0 A (j := j) hin (g := mkF m pc Ls (.int x :: .int j :: .ref a :: st)) rfl rfl (hb K.by hd)) (fun h' W => r h' W (Arv.set A q1 S hz H G (fits_nar_byte x) W _ hij hi))
theorem OGo.zastore (K : OCx p l e R s m args below meth c Z own nm bytes ml rt) {a : Addr} {ca : ClassId} {z j : Int32} {vs : List Value} {dv : Value} {x : Int32} (A : Arv Z h a ca .boolean z vs dv) (hj : ¬ j < 0 ∧ j < z) {i : Nat} (hij : j.toNatClampNeg = i) (hi : i < vs.length) (ga : n0 ≤ a) (hd : decode bytes pc = .ok (.bastore, 1)) (hp : pc + 1 = pc')
    (r : ∀ h', Wr h h' a j.toNatClampNeg (.int (nar .boolean x)) → Arv Z h' a ca .boolean z (vs.set i (.int (nar .boolean x))) dv → OGo p l e R s m args below meth c n0 Q h' cells slots pc' Ls st) : OGo p l e R s m args below meth c n0 Q h cells slots pc Ls (.int x :: .int j :: .ref a :: st) := by
  subst hp
  obtain ⟨cl, A, q1, S, hz, H, G⟩ := A
  have hin := inb_of S hj
  exact OGo.write ga (fun T locs k n X e0 => RoadKit.stZ X K.ex K.hZ e0 A (j := j) hin (g := mkF m pc Ls (.int x :: .int j :: .ref a :: st)) rfl rfl (hb K.by hd)) (fun h' W => r h' W (Arv.set A q1 S hz H G (fits_nar_bool x) W _ hij hi))
theorem OGo.aastore (K : OCx p l e R s m args below meth c Z own nm bytes ml rt) {a : Addr} {ca : ClassId} {ty : FieldType} {z j : Int32} {vs : List Value} {dv v : Value} (A : Arv Z h a ca ty z vs dv) (hty : ty.isReference = true) (hv : v.isRef = true) (F : Sto Z h a v) (hj : ¬ j < 0 ∧ j < z) {i : Nat} (hij : j.toNatClampNeg = i) (hi : i < vs.length) (ga : n0 ≤ a) (hd : decode bytes pc = .ok (.aastore, 1)) (hp : pc + 1 = pc')
    (r : ∀ h', Wr h h' a j.toNatClampNeg v → Arv Z h' a ca ty z (vs.set i v) dv → OGo p l e R s m args below meth c n0 Q h' cells slots pc' Ls st) : OGo p l e R s m args below meth c n0 Q h cells slots pc Ls (v :: .int j :: .ref a :: st) := by
  subst hp
  obtain ⟨cl, A, q1, S, hz, H, G⟩ := A
  have hin := inb_of S hj
  exact OGo.write ga (fun T locs k n X e0 => RoadKit.stR X K.ex K.hZ e0 A (j := j) hin hty F (g := mkF m pc Ls (v :: .int j :: .ref a :: st)) rfl rfl (hb K.by hd)) (fun h' W => r h' W (Arv.set A q1 S hz H G (by cases ty <;> first | (cases hty; done) | (cases v <;> first | (cases hv; done) | rfl)) W _ hij hi))
theorem OGo.initO (K : OCx p l e R s m args below meth c Z own nm bytes ml rt) {idx W : Nat} {a : Addr} (w1 : (Jvm.Cond.methodLink own idx Lib.objectInit).before a0 Z = true) (w2 : (Jvm.Cond.instanceMethod Lib.objectInit).before a0 Z = true) (w3 : (Jvm.Cond.code Lib.objectInit ⟨#[0xb1]⟩ 1 none).before a0 Z = true) (hd : decode bytes pc = .ok (.invokespecial idx, 3)) (hp : pc + 3 = pc') (hsz : Ls.size = ml) (hW : 2 * 0 + (st.map fun v => v.category).sum ≤ W) (hf : 1 ≤ R.frames) (hl : W + 12 ≤ R.locals) (r : OGo p l e R s m args below meth c n0 Q h cells slots pc' Ls st) : OGo p l e R s m args below meth c n0 Q h cells slots pc Ls (.ref a :: st) := by
  subst hp
  exact OGo.same (fun T locs k n X e0 => RoadKit.initO X K.ex K.hZ K.hown w1 w2 w3 e0 (g := mkF m pc Ls (.ref a :: st)) rfl (hsz.trans K.hml.symm) rfl (hb K.by hd) hf hW hl) r
theorem own_private {T : State} {locs : List Loc} {cells slots : Nat} (X : Stand p l e R s m args below meth c T locs cells slots) (hexec : p.tables.exec = Jvm.exec) {own : String} {index ni : Nat} {y : MethodName} {bytes : ByteArray} {maxL : Nat} {ret : Option FieldType}
    (hown : s.vm.findClass own = some m.cls) (hlink : (Jvm.Cond.methodLink own index y).before args s = true) (hinst : (Jvm.Cond.instanceMethod y).before args s = true) (hi : (Jvm.Cond.instantiable y.cls ni).before args s = true) (hpriv : s.PrivateAt y) (hcode : (Jvm.Cond.code y bytes maxL ret).before args s = true) (hy : y.cls ≠ "java/lang/invoke/MethodHandle" ∧ y.cls ≠ "java/lang/invoke/VarHandle")
    {W : Nat} {Pre : Pt → Array Value → Prop} {Post : Pt → Array Value → Option Value → Pt → Prop} (hK : Back l R p e below s args y 3 W Pre Post) {g : JFrame} (hg : g.method = m) (hsize : g.locals.size = c.maxLocals) {a : Addr} {cell : Cell} (hcell : T.heap[a]? = some cell) (hobj : ∀ q, cell.vm ≠ .statics q)
    {argsL rest : List Value} (hlen : ∀ sig, parseMethodDescriptor y.desc = some sig → argsL.length = sig.parameters.length) (hstack : g.stack = argsL.reverse ++ .ref a :: rest) (hW : 2 * g.monitorRoom + (rest.map fun v => v.category).sum ≤ W) (hdg : decode c.code g.pc = .ok (.invokevirtual index, 3))
    (hpre : ∀ vm₁, s.WarmedH vm₁ → Pre ⟨T.setVm vm₁, locs, cells, slots⟩ (.ref a :: argsL).toArray) :
    ∃ (v : Option Value) (vm₁ : Vm) (B : Pt), s.WarmedH vm₁ ∧ Stand p l e R s m args below meth c B.U B.locs B.cells B.slots ∧ Post ⟨T.setVm vm₁, locs, cells, slots⟩ (.ref a :: argsL).toArray v B ∧ Steps p.tables e below (T.setTop g) (B.U.setTop { g with pc := g.pc + 3, stack := v.toList ++ rest }) := by
  obtain ⟨mk, mt, n1, n2, n3, n4⟩ := Cond.instanceMethod_spec hinst
  obtain ⟨mt', ct, c1, -, -, -, -, -, -, c2⟩ := Cond.code_spec n1 hcode
  obtain rfl : mt' = mt := Option.some.inj (c1.symm.trans n2)
  obtain ⟨ci, ki, i1, i2, -, i3, -⟩ := Cond.instantiable_spec hi
  have i4 : s.vm.classes[mk.cls]? = some ki := by rw [Option.some.inj ((findClass_of_methodNamed n1).symm.trans i1)]; exact i2
  have i5 : ki.isInterface = false := (Bool.or_eq_false_iff.mp i3).1
  obtain ⟨vm₁, Y, sp⟩ := X.invokevirtual hexec hown hlink n1 n2 n3 i4 i5 hy hcell hobj (selectMethod_private n2 (hpriv mk mt' n1 n2)) n2 n4 i4 i5 hg (hlen _ c2) hstack hdg
  obtain ⟨v, B, Y', P', go⟩ := hK m meth c ⟨T.setVm vm₁, locs, cells, slots⟩ { g with stack := rest } (.invokevirtual index) mk (.ref a :: argsL).toArray Y hg hsize hdg hW (Y.named n1) (hpre vm₁ Y.warmed)
  exact ⟨v, vm₁, B, Y.warmed, Y', P', (sp _ fun acts => by rw [doInvoke_state]; exact Steps.refl _).trans go⟩
theorem OGo.callSV (K : OCx p l e R s m args below meth c Z own nm bytes ml rt) {y : MethodName} {index : Nat} {bytes' : ByteArray} {maxL : Nat} {ret : Option FieldType} {rm : Room} {W cells' slots' : Nat} {argsL : List Value} {P : Value → Heap → Prop} (w1 : (Jvm.Cond.methodLink own index y).before a0 Z = true) (w2 : (Jvm.Cond.static y).before a0 Z = true) (w3 : (Jvm.Cond.initialized y.cls).before a0 Z = true) (w4 : (Jvm.Cond.code y bytes' maxL ret).before a0 Z = true) (hy : y.cls ≠ "java/lang/invoke/MethodHandle" ∧ y.cls ≠ "java/lang/invoke/VarHandle") (C : OCon l Z n0 y bytes' maxL ret [] rm (argsL.toArray) h (OV P)) (hd : decode bytes pc = .ok (.invokestatic index, 3)) (hp : pc + 3 = pc') (hsz : Ls.size = ml) (hlen : ∀ sig, parseMethodDescriptor y.desc = some sig → argsL.length = sig.parameters.length) (hW : 2 * 0 + (st.map fun v => v.category).sum ≤ W) (hf : rm.frames + 1 ≤ R.frames) (hlo : W + (maxL + 11) + rm.locals ≤ R.locals) (hc : cells + rm.cells = cells') (hl : slots + rm.slots = slots') (hc' : cells' ≤ R.cells) (hl' : slots' ≤ R.slots) (r : ∀ (w : Value) (h' : Heap), P w h' → OGo p l e R s m args below meth c n0 Q h' cells' slots' pc' Ls (w :: st))
    : OGo p l e R s m args below meth c n0 Q h cells slots pc Ls (argsL.reverse ++ st) := by
  subst hp hc hl
  intro T locs k n X e0 N h1 h2
  obtain ⟨_, _, ⟨T', L', k', n'⟩, -, X', ⟨Lc, ⟨hQ, hN⟩, l', y', z'⟩, stp⟩ := Jvm.LawKit.callS X K.ex (y := y) K.hown (mvT K.hZ w1) (mvT K.hZ w2) (mvT K.hZ w3) (mvT K.hZ w4) hy (backOf (W := W) (Q := fun v h L => (OV P) v h ∧ Fr n0 L) C K.hZ w4 w3 hf hlo) (g := mkF m pc Ls (argsL.reverse ++ st)) rfl (hsz.trans K.hml.symm) (argsL := argsL) (rest := st) hlen rfl hW (hb K.by hd) (fun _ _ => ⟨rfl, e0, (by show k + rm.cells ≤ R.cells; omega), (by show n + rm.slots ≤ R.slots; omega)⟩)
  dsimp only [Pt.U, Pt.locs, Pt.cells, Pt.slots] at X' l' y' z' stp hQ
  subst l' y' z'
  obtain ⟨w, rfl, hQ⟩ := hQ
  obtain ⟨s₂, v, L, g, r'⟩ := r w _ hQ T' _ _ _ X' rfl (Fr.app N hN) (by omega) (by omega)
  exact ⟨s₂, v, L, stp _ g, r'⟩
theorem OGo.callSN (K : OCx p l e R s m args below meth c Z own nm bytes ml rt) {y : MethodName} {index : Nat} {bytes' : ByteArray} {maxL : Nat} {ret : Option FieldType} {rm : Room} {W cells' slots' : Nat} {argsL : List Value} {P : Heap → Prop} (w1 : (Jvm.Cond.methodLink own index y).before a0 Z = true) (w2 : (Jvm.Cond.static y).before a0 Z = true) (w3 : (Jvm.Cond.initialized y.cls).before a0 Z = true) (w4 : (Jvm.Cond.code y bytes' maxL ret).before a0 Z = true) (hy : y.cls ≠ "java/lang/invoke/MethodHandle" ∧ y.cls ≠ "java/lang/invoke/VarHandle") (C : OCon l Z n0 y bytes' maxL ret [] rm (argsL.toArray) h (ON P)) (hd : decode bytes pc = .ok (.invokestatic index, 3)) (hp : pc + 3 = pc') (hsz : Ls.size = ml) (hlen : ∀ sig, parseMethodDescriptor y.desc = some sig → argsL.length = sig.parameters.length) (hW : 2 * 0 + (st.map fun v => v.category).sum ≤ W) (hf : rm.frames + 1 ≤ R.frames) (hlo : W + (maxL + 11) + rm.locals ≤ R.locals) (hc : cells + rm.cells = cells') (hl : slots + rm.slots = slots') (hc' : cells' ≤ R.cells) (hl' : slots' ≤ R.slots) (r : ∀ (h' : Heap), P h' → OGo p l e R s m args below meth c n0 Q h' cells' slots' pc' Ls st)
    : OGo p l e R s m args below meth c n0 Q h cells slots pc Ls (argsL.reverse ++ st) := by
  subst hp hc hl
  intro T locs k n X e0 N h1 h2
  obtain ⟨_, _, ⟨T', L', k', n'⟩, -, X', ⟨Lc, ⟨hQ, hN⟩, l', y', z'⟩, stp⟩ := Jvm.LawKit.callS X K.ex (y := y) K.hown (mvT K.hZ w1) (mvT K.hZ w2) (mvT K.hZ w3) (mvT K.hZ w4) hy (backOf (W := W) (Q := fun v h L => (ON P) v h ∧ Fr n0 L) C K.hZ w4 w3 hf hlo) (g := mkF m pc Ls (argsL.reverse ++ st)) rfl (hsz.trans K.hml.symm) (argsL := argsL) (rest := st) hlen rfl hW (hb K.by hd) (fun _ _ => ⟨rfl, e0, (by show k + rm.cells ≤ R.cells; omega), (by show n + rm.slots ≤ R.slots; omega)⟩)
  dsimp only [Pt.U, Pt.locs, Pt.cells, Pt.slots] at X' l' y' z' stp hQ
  subst l' y' z'
  obtain ⟨rfl, hQ⟩ := hQ
  obtain ⟨s₂, v, L, g, r'⟩ := r  _ hQ T' _ _ _ X' rfl (Fr.app N hN) (by omega) (by omega)
  exact ⟨s₂, v, L, stp _ g, r'⟩
theorem OGo.callIV (K : OCx p l e R s m args below meth c Z own nm bytes ml rt) {y : MethodName} {a : Addr} {index : Nat} {bytes' : ByteArray} {maxL : Nat} {rm : Room} {W cells' slots' : Nat} {argsL : List Value} {P : Value → Heap → Prop} (hy1 : y.name = "<init>") (w1 : (Jvm.Cond.methodLink own index y).before a0 Z = true) (w2 : (Jvm.Cond.instanceMethod y).before a0 Z = true) (w3 : (Jvm.Cond.initialized y.cls).before a0 Z = true) (w4 : (Jvm.Cond.code y bytes' maxL none).before a0 Z = true) (hy : y.cls ≠ "java/lang/invoke/MethodHandle" ∧ y.cls ≠ "java/lang/invoke/VarHandle") (C : OCon l Z n0 y bytes' maxL none [] rm ((.ref a :: argsL).toArray) h (OV P)) (hd : decode bytes pc = .ok (.invokespecial index, 3)) (hp : pc + 3 = pc') (hsz : Ls.size = ml) (hlen : ∀ sig, parseMethodDescriptor y.desc = some sig → argsL.length = sig.parameters.length) (hW : 2 * 0 + (st.map fun v => v.category).sum ≤ W) (hf : rm.frames + 1 ≤ R.frames) (hlo : W + (maxL + 11) + rm.locals ≤ R.locals) (hc : cells + rm.cells = cells') (hl : slots + rm.slots = slots') (hc' : cells' ≤ R.cells) (hl' : slots' ≤ R.slots) (r : ∀ (w : Value) (h' : Heap), P w h' → OGo p l e R s m args below meth c n0 Q h' cells' slots' pc' Ls (w :: st))
    : OGo p l e R s m args below meth c n0 Q h cells slots pc Ls (argsL.reverse ++ .ref a :: st) := by
  subst hp hc hl
  intro T locs k n X e0 N h1 h2
  obtain ⟨_, _, ⟨T', L', k', n'⟩, -, X', ⟨Lc, ⟨hQ, hN⟩, l', y', z'⟩, stp⟩ := X.specialBack K.ex (y := y) hy1 K.hown (mvT K.hZ w1) (mvT K.hZ w2) (mvT K.hZ w4) hy (backOf (W := W) (Q := fun v h L => (OV P) v h ∧ Fr n0 L) C K.hZ w4 w3 hf hlo) (g := mkF m pc Ls (argsL.reverse ++ .ref a :: st)) rfl (hsz.trans K.hml.symm) (Steps.refl _) (a := a) (argsL := argsL) (rest := st) hlen rfl hW (hb K.by hd) (fun _ _ => ⟨rfl, e0, (by show k + rm.cells ≤ R.cells; omega), (by show n + rm.slots ≤ R.slots; omega)⟩)
  dsimp only [Pt.U, Pt.locs, Pt.cells, Pt.slots] at X' l' y' z' stp hQ
  subst l' y' z'
  obtain ⟨w, rfl, hQ⟩ := hQ
  obtain ⟨s₂, v, L, g, r'⟩ := r w _ hQ T' _ _ _ X' rfl (Fr.app N hN) (by omega) (by omega)
  exact ⟨s₂, v, L, stp.trans g, r'⟩
theorem OGo.callIN (K : OCx p l e R s m args below meth c Z own nm bytes ml rt) {y : MethodName} {a : Addr} {index : Nat} {bytes' : ByteArray} {maxL : Nat} {rm : Room} {W cells' slots' : Nat} {argsL : List Value} {P : Heap → Prop} (hy1 : y.name = "<init>") (w1 : (Jvm.Cond.methodLink own index y).before a0 Z = true) (w2 : (Jvm.Cond.instanceMethod y).before a0 Z = true) (w3 : (Jvm.Cond.initialized y.cls).before a0 Z = true) (w4 : (Jvm.Cond.code y bytes' maxL none).before a0 Z = true) (hy : y.cls ≠ "java/lang/invoke/MethodHandle" ∧ y.cls ≠ "java/lang/invoke/VarHandle") (C : OCon l Z n0 y bytes' maxL none [] rm ((.ref a :: argsL).toArray) h (ON P)) (hd : decode bytes pc = .ok (.invokespecial index, 3)) (hp : pc + 3 = pc') (hsz : Ls.size = ml) (hlen : ∀ sig, parseMethodDescriptor y.desc = some sig → argsL.length = sig.parameters.length) (hW : 2 * 0 + (st.map fun v => v.category).sum ≤ W) (hf : rm.frames + 1 ≤ R.frames) (hlo : W + (maxL + 11) + rm.locals ≤ R.locals) (hc : cells + rm.cells = cells') (hl : slots + rm.slots = slots') (hc' : cells' ≤ R.cells) (hl' : slots' ≤ R.slots) (r : ∀ (h' : Heap), P h' → OGo p l e R s m args below meth c n0 Q h' cells' slots' pc' Ls st)
    : OGo p l e R s m args below meth c n0 Q h cells slots pc Ls (argsL.reverse ++ .ref a :: st) := by
  subst hp hc hl
  intro T locs k n X e0 N h1 h2
  obtain ⟨_, _, ⟨T', L', k', n'⟩, -, X', ⟨Lc, ⟨hQ, hN⟩, l', y', z'⟩, stp⟩ := X.specialBack K.ex (y := y) hy1 K.hown (mvT K.hZ w1) (mvT K.hZ w2) (mvT K.hZ w4) hy (backOf (W := W) (Q := fun v h L => (ON P) v h ∧ Fr n0 L) C K.hZ w4 w3 hf hlo) (g := mkF m pc Ls (argsL.reverse ++ .ref a :: st)) rfl (hsz.trans K.hml.symm) (Steps.refl _) (a := a) (argsL := argsL) (rest := st) hlen rfl hW (hb K.by hd) (fun _ _ => ⟨rfl, e0, (by show k + rm.cells ≤ R.cells; omega), (by show n + rm.slots ≤ R.slots; omega)⟩)
  dsimp only [Pt.U, Pt.locs, Pt.cells, Pt.slots] at X' l' y' z' stp hQ
  subst l' y' z'
  obtain ⟨rfl, hQ⟩ := hQ
  obtain ⟨s₂, v, L, g, r'⟩ := r  _ hQ T' _ _ _ X' rfl (Fr.app N hN) (by omega) (by omega)
  exact ⟨s₂, v, L, stp.trans g, r'⟩
theorem OGo.callPV (K : OCx p l e R s m args below meth c Z own nm bytes ml rt) {y : MethodName} {a : Addr} {C0 : String} {index : Nat} {bytes' : ByteArray} {maxL : Nat} {ret : Option FieldType} {rm : Room} {W cells' slots' : Nat} {argsL : List Value} {P : Value → Heap → Prop} (E : Exa Z h a C0) (w1 : (Jvm.Cond.methodLink own index y).before a0 Z = true) (w2 : (Jvm.Cond.instanceMethod y).before a0 Z = true) (w5 : (Jvm.Cond.selects y.cls y y).before a0 Z = true) (w6 : (Jvm.Cond.privateMethod y).before a0 Z = true) (w3 : (Jvm.Cond.initialized y.cls).before a0 Z = true) (w4 : (Jvm.Cond.code y bytes' maxL ret).before a0 Z = true) (hy : y.cls ≠ "java/lang/invoke/MethodHandle" ∧ y.cls ≠ "java/lang/invoke/VarHandle") (C : OCon l Z n0 y bytes' maxL ret [] rm ((.ref a :: argsL).toArray) h (OV P)) (hd : decode bytes pc = .ok (.invokevirtual index, 3)) (hp : pc + 3 = pc') (hsz : Ls.size = ml) (hlen : ∀ sig, parseMethodDescriptor y.desc = some sig → argsL.length = sig.parameters.length) (hW : 2 * 0 + (st.map fun v => v.category).sum ≤ W) (hf : rm.frames + 1 ≤ R.frames) (hlo : W + (maxL + 11) + rm.locals ≤ R.locals) (hc : cells + rm.cells = cells') (hl : slots + rm.slots = slots') (hc' : cells' ≤ R.cells) (hl' : slots' ≤ R.slots) (r : ∀ (w : Value) (h' : Heap), P w h' → OGo p l e R s m args below meth c n0 Q h' cells' slots' pc' Ls (w :: st))
    : OGo p l e R s m args below meth c n0 Q h cells slots pc Ls (argsL.reverse ++ .ref a :: st) := by
  subst hp hc hl
  intro T locs k n X e0 N h1 h2
  obtain ⟨cq, q, q'⟩ := E.cell
  obtain ⟨_, _, ⟨T', L', k', n'⟩, -, X', ⟨Lc, ⟨hQ, hN⟩, l', y', z'⟩, stp⟩ := X.privateBack K.ex (y := y) K.hown (mvT K.hZ w1) (mvT K.hZ w2) (mvT K.hZ w5) (Cond.privateMethod_at (mvP K.hZ w6 (args := #[]))) (mvT K.hZ w4) hy (backOf (W := W) (Q := fun v h L => (OV P) v h ∧ Fr n0 L) C K.hZ w4 w3 hf hlo) (g := mkF m pc Ls (argsL.reverse ++ .ref a :: st)) rfl (hsz.trans K.hml.symm) (Steps.refl _) (a := a) (by rw [e0]; exact q) q' (argsL := argsL) (rest := st) hlen rfl hW (hb K.by hd) (fun _ _ => ⟨rfl, e0, (by show k + rm.cells ≤ R.cells; omega), (by show n + rm.slots ≤ R.slots; omega)⟩)
  dsimp only [Pt.U, Pt.locs, Pt.cells, Pt.slots] at X' l' y' z' stp hQ
  subst l' y' z'
  obtain ⟨w, rfl, hQ⟩ := hQ
  obtain ⟨s₂, v, L, g, r'⟩ := r w _ hQ T' _ _ _ X' rfl (Fr.app N hN) (by omega) (by omega)
  exact ⟨s₂, v, L, stp.trans g, r'⟩
theorem OGo.callPN (K : OCx p l e R s m args below meth c Z own nm bytes ml rt) {y : MethodName} {a : Addr} {C0 : String} {index : Nat} {bytes' : ByteArray} {maxL : Nat} {ret : Option FieldType} {rm : Room} {W cells' slots' : Nat} {argsL : List Value} {P : Heap → Prop} (E : Exa Z h a C0) (w1 : (Jvm.Cond.methodLink own index y).before a0 Z = true) (w2 : (Jvm.Cond.instanceMethod y).before a0 Z = true) (w5 : (Jvm.Cond.selects y.cls y y).before a0 Z = true) (w6 : (Jvm.Cond.privateMethod y).before a0 Z = true) (w3 : (Jvm.Cond.initialized y.cls).before a0 Z = true) (w4 : (Jvm.Cond.code y bytes' maxL ret).before a0 Z = true) (hy : y.cls ≠ "java/lang/invoke/MethodHandle" ∧ y.cls ≠ "java/lang/invoke/VarHandle") (C : OCon l Z n0 y bytes' maxL ret [] rm ((.ref a :: argsL).toArray) h (ON P)) (hd : decode bytes pc = .ok (.invokevirtual index, 3)) (hp : pc + 3 = pc') (hsz : Ls.size = ml) (hlen : ∀ sig, parseMethodDescriptor y.desc = some sig → argsL.length = sig.parameters.length) (hW : 2 * 0 + (st.map fun v => v.category).sum ≤ W) (hf : rm.frames + 1 ≤ R.frames) (hlo : W + (maxL + 11) + rm.locals ≤ R.locals) (hc : cells + rm.cells = cells') (hl : slots + rm.slots = slots') (hc' : cells' ≤ R.cells) (hl' : slots' ≤ R.slots) (r : ∀ (h' : Heap), P h' → OGo p l e R s m args below meth c n0 Q h' cells' slots' pc' Ls st)
    : OGo p l e R s m args below meth c n0 Q h cells slots pc Ls (argsL.reverse ++ .ref a :: st) := by
  subst hp hc hl
  intro T locs k n X e0 N h1 h2
  obtain ⟨cq, q, q'⟩ := E.cell
  obtain ⟨_, _, ⟨T', L', k', n'⟩, -, X', ⟨Lc, ⟨hQ, hN⟩, l', y', z'⟩, stp⟩ := X.privateBack K.ex (y := y) K.hown (mvT K.hZ w1) (mvT K.hZ w2) (mvT K.hZ w5) (Cond.privateMethod_at (mvP K.hZ w6 (args := #[]))) (mvT K.hZ w4) hy (backOf (W := W) (Q := fun v h L => (ON P) v h ∧ Fr n0 L) C K.hZ w4 w3 hf hlo) (g := mkF m pc Ls (argsL.reverse ++ .ref a :: st)) rfl (hsz.trans K.hml.symm) (Steps.refl _) (a := a) (by rw [e0]; exact q) q' (argsL := argsL) (rest := st) hlen rfl hW (hb K.by hd) (fun _ _ => ⟨rfl, e0, (by show k + rm.cells ≤ R.cells; omega), (by show n + rm.slots ≤ R.slots; omega)⟩)
  dsimp only [Pt.U, Pt.locs, Pt.cells, Pt.slots] at X' l' y' z' stp hQ
  subst l' y' z'
  obtain ⟨rfl, hQ⟩ := hQ
  obtain ⟨s₂, v, L, g, r'⟩ := r  _ hQ T' _ _ _ X' rfl (Fr.app N hN) (by omega) (by omega)
  exact ⟨s₂, v, L, stp.trans g, r'⟩
theorem OGo.callVV (K : OCx p l e R s m args below meth c Z own nm bytes ml rt) {y z : MethodName} {a : Addr} {C0 : String} {index : Nat} {bytes' : ByteArray} {maxL : Nat} {ret : Option FieldType} {rm : Room} {W cells' slots' : Nat} {argsL : List Value} {P : Value → Heap → Prop} (E : Exa Z h a C0) (w1 : (Jvm.Cond.methodLink own index y).before a0 Z = true) (w2 : (Jvm.Cond.declares y).before a0 Z = true) (hnf : NotFace s y) (w5 : (Jvm.Cond.selects C0 y z).before a0 Z = true) (w6 : (Jvm.Cond.instanceMethod z).before a0 Z = true) (w3 : (Jvm.Cond.initialized z.cls).before a0 Z = true) (w4 : (Jvm.Cond.code z bytes' maxL ret).before a0 Z = true) (hy : y.cls ≠ "java/lang/invoke/MethodHandle" ∧ y.cls ≠ "java/lang/invoke/VarHandle") (C : OCon l Z n0 z bytes' maxL ret [] rm ((.ref a :: argsL).toArray) h (OV P)) (hd : decode bytes pc = .ok (.invokevirtual index, 3)) (hp : pc + 3 = pc') (hsz : Ls.size = ml) (hlen : ∀ sig, parseMethodDescriptor y.desc = some sig → argsL.length = sig.parameters.length) (hW : 2 * 0 + (st.map fun v => v.category).sum ≤ W) (hf : rm.frames + 1 ≤ R.frames) (hlo : W + (maxL + 11) + rm.locals ≤ R.locals) (hc : cells + rm.cells = cells') (hl : slots + rm.slots = slots') (hc' : cells' ≤ R.cells) (hl' : slots' ≤ R.slots) (r : ∀ (w : Value) (h' : Heap), P w h' → OGo p l e R s m args below meth c n0 Q h' cells' slots' pc' Ls (w :: st))
    : OGo p l e R s m args below meth c n0 Q h cells slots pc Ls (argsL.reverse ++ .ref a :: st) := by
  subst hp hc hl
  intro T locs k n X e0 N h1 h2
  obtain ⟨cq, kq, qa, qb, qc⟩ := isOf K.hZ e0 E
  obtain ⟨_, _, ⟨T', L', k', n'⟩, -, X', ⟨Lc, ⟨hQ, hN⟩, l', y', z'⟩, stp⟩ := X.virtualBack K.ex (y := y) (z := z) K.hown (mvT K.hZ w1) (mvT K.hZ w2) hnf (mvT K.hZ w5) (mvT K.hZ w6) hy (backOf (W := W) (Q := fun v h L => (OV P) v h ∧ Fr n0 L) C K.hZ w4 w3 hf hlo) qa qc (g := mkF m pc Ls (argsL.reverse ++ .ref a :: st)) rfl (hsz.trans K.hml.symm) (Steps.refl _) (argsL := argsL) (rest := st) hlen rfl hW (hb K.by hd) (fun _ _ => ⟨rfl, e0, (by show k + rm.cells ≤ R.cells; omega), (by show n + rm.slots ≤ R.slots; omega)⟩)
  dsimp only [Pt.U, Pt.locs, Pt.cells, Pt.slots] at X' l' y' z' stp hQ
  subst l' y' z'
  obtain ⟨w, rfl, hQ⟩ := hQ
  obtain ⟨s₂, v, L, g, r'⟩ := r w _ hQ T' _ _ _ X' rfl (Fr.app N hN) (by omega) (by omega)
  exact ⟨s₂, v, L, stp.trans g, r'⟩
theorem OGo.callVN (K : OCx p l e R s m args below meth c Z own nm bytes ml rt) {y z : MethodName} {a : Addr} {C0 : String} {index : Nat} {bytes' : ByteArray} {maxL : Nat} {ret : Option FieldType} {rm : Room} {W cells' slots' : Nat} {argsL : List Value} {P : Heap → Prop} (E : Exa Z h a C0) (w1 : (Jvm.Cond.methodLink own index y).before a0 Z = true) (w2 : (Jvm.Cond.declares y).before a0 Z = true) (hnf : NotFace s y) (w5 : (Jvm.Cond.selects C0 y z).before a0 Z = true) (w6 : (Jvm.Cond.instanceMethod z).before a0 Z = true) (w3 : (Jvm.Cond.initialized z.cls).before a0 Z = true) (w4 : (Jvm.Cond.code z bytes' maxL ret).before a0 Z = true) (hy : y.cls ≠ "java/lang/invoke/MethodHandle" ∧ y.cls ≠ "java/lang/invoke/VarHandle") (C : OCon l Z n0 z bytes' maxL ret [] rm ((.ref a :: argsL).toArray) h (ON P)) (hd : decode bytes pc = .ok (.invokevirtual index, 3)) (hp : pc + 3 = pc') (hsz : Ls.size = ml) (hlen : ∀ sig, parseMethodDescriptor y.desc = some sig → argsL.length = sig.parameters.length) (hW : 2 * 0 + (st.map fun v => v.category).sum ≤ W) (hf : rm.frames + 1 ≤ R.frames) (hlo : W + (maxL + 11) + rm.locals ≤ R.locals) (hc : cells + rm.cells = cells') (hl : slots + rm.slots = slots') (hc' : cells' ≤ R.cells) (hl' : slots' ≤ R.slots) (r : ∀ (h' : Heap), P h' → OGo p l e R s m args below meth c n0 Q h' cells' slots' pc' Ls st)
    : OGo p l e R s m args below meth c n0 Q h cells slots pc Ls (argsL.reverse ++ .ref a :: st) := by
  subst hp hc hl
  intro T locs k n X e0 N h1 h2
  obtain ⟨cq, kq, qa, qb, qc⟩ := isOf K.hZ e0 E
  obtain ⟨_, _, ⟨T', L', k', n'⟩, -, X', ⟨Lc, ⟨hQ, hN⟩, l', y', z'⟩, stp⟩ := X.virtualBack K.ex (y := y) (z := z) K.hown (mvT K.hZ w1) (mvT K.hZ w2) hnf (mvT K.hZ w5) (mvT K.hZ w6) hy (backOf (W := W) (Q := fun v h L => (ON P) v h ∧ Fr n0 L) C K.hZ w4 w3 hf hlo) qa qc (g := mkF m pc Ls (argsL.reverse ++ .ref a :: st)) rfl (hsz.trans K.hml.symm) (Steps.refl _) (argsL := argsL) (rest := st) hlen rfl hW (hb K.by hd) (fun _ _ => ⟨rfl, e0, (by show k + rm.cells ≤ R.cells; omega), (by show n + rm.slots ≤ R.slots; omega)⟩)
  dsimp only [Pt.U, Pt.locs, Pt.cells, Pt.slots] at X' l' y' z' stp hQ
  subst l' y' z'
  obtain ⟨rfl, hQ⟩ := hQ
  obtain ⟨s₂, v, L, g, r'⟩ := r  _ hQ T' _ _ _ X' rfl (Fr.app N hN) (by omega) (by omega)
  exact ⟨s₂, v, L, stp.trans g, r'⟩
theorem OGo.callFV (K : OCx p l e R s m args below meth c Z own nm bytes ml rt) {y z : MethodName} {a : Addr} {C0 : String} {cnt : Nat} {index : Nat} {bytes' : ByteArray} {maxL : Nat} {ret : Option FieldType} {rm : Room} {W cells' slots' : Nat} {argsL : List Value} {P : Value → Heap → Prop} (E : Exa Z h a C0) (w1 : (Jvm.Cond.methodLink own index y).before a0 Z = true) (w2 : (Jvm.Cond.declares y).before a0 Z = true) (w7 : (Jvm.Cond.interfaceMethod y.cls y.cls y.name y.desc).before a0 Z = true) (w5 : (Jvm.Cond.selects C0 y z).before a0 Z = true) (w6 : (Jvm.Cond.instanceMethod z).before a0 Z = true) (w8 : (Jvm.Cond.publicMethod z).before a0 Z = true) (w9 : (Jvm.Cond.unhidden C0 y.name y.desc).before a0 Z = true) (w10 : (Jvm.Cond.castable C0 y.cls).before a0 Z = true) (w3 : (Jvm.Cond.initialized z.cls).before a0 Z = true) (w4 : (Jvm.Cond.code z bytes' maxL ret).before a0 Z = true) (hy : y.cls ≠ "java/lang/invoke/MethodHandle" ∧ y.cls ≠ "java/lang/invoke/VarHandle") (C : OCon l Z n0 z bytes' maxL ret [] rm ((.ref a :: argsL).toArray) h (OV P)) (hd : decode bytes pc = .ok (.invokeinterface index cnt, 5)) (hp : pc + 5 = pc') (hsz : Ls.size = ml) (hlen : ∀ sig, parseMethodDescriptor y.desc = some sig → argsL.length = sig.parameters.length) (hW : 2 * 0 + (st.map fun v => v.category).sum ≤ W) (hf : rm.frames + 1 ≤ R.frames) (hlo : W + (maxL + 11) + rm.locals ≤ R.locals) (hc : cells + rm.cells = cells') (hl : slots + rm.slots = slots') (hc' : cells' ≤ R.cells) (hl' : slots' ≤ R.slots) (r : ∀ (w : Value) (h' : Heap), P w h' → OGo p l e R s m args below meth c n0 Q h' cells' slots' pc' Ls (w :: st))
    : OGo p l e R s m args below meth c n0 Q h cells slots pc Ls (argsL.reverse ++ .ref a :: st) := by
  subst hp hc hl
  intro T locs k n X e0 N h1 h2
  obtain ⟨cq, kq, qa, qb, qc⟩ := isOf K.hZ e0 E
  obtain ⟨_, _, ⟨T', L', k', n'⟩, -, X', ⟨Lc, ⟨hQ, hN⟩, l', y', z'⟩, stp⟩ := X.interfaceBack K.ex (xi := y) (y := z) K.hown (mvT K.hZ w1) (mvT K.hZ w2) (mvT K.hZ w7 (by simp [Cond.onTables, Cond.keepsFace, Cond.keeps, Cond.steady, Cond.faceAtom, hy.1, hy.2])) (mvT K.hZ w5) (mvT K.hZ w6) (mvT K.hZ w8) (mvT K.hZ w9) (mvT K.hZ w10) hy (backOf (W := W) (Q := fun v h L => (OV P) v h ∧ Fr n0 L) C K.hZ w4 w3 hf hlo) qa qb qc (g := mkF m pc Ls (argsL.reverse ++ .ref a :: st)) rfl (hsz.trans K.hml.symm) (Steps.refl _) (argsL := argsL) (rest := st) hlen rfl hW (hb K.by hd) (fun _ _ => ⟨rfl, e0, (by show k + rm.cells ≤ R.cells; omega), (by show n + rm.slots ≤ R.slots; omega)⟩)
  dsimp only [Pt.U, Pt.locs, Pt.cells, Pt.slots] at X' l' y' z' stp hQ
  subst l' y' z'
  obtain ⟨w, rfl, hQ⟩ := hQ
  obtain ⟨s₂, v, L, g, r'⟩ := r w _ hQ T' _ _ _ X' rfl (Fr.app N hN) (by omega) (by omega)
  exact ⟨s₂, v, L, stp.trans g, r'⟩
theorem OGo.callFN (K : OCx p l e R s m args below meth c Z own nm bytes ml rt) {y z : MethodName} {a : Addr} {C0 : String} {cnt : Nat} {index : Nat} {bytes' : ByteArray} {maxL : Nat} {ret : Option FieldType} {rm : Room} {W cells' slots' : Nat} {argsL : List Value} {P : Heap → Prop} (E : Exa Z h a C0) (w1 : (Jvm.Cond.methodLink own index y).before a0 Z = true) (w2 : (Jvm.Cond.declares y).before a0 Z = true) (w7 : (Jvm.Cond.interfaceMethod y.cls y.cls y.name y.desc).before a0 Z = true) (w5 : (Jvm.Cond.selects C0 y z).before a0 Z = true) (w6 : (Jvm.Cond.instanceMethod z).before a0 Z = true) (w8 : (Jvm.Cond.publicMethod z).before a0 Z = true) (w9 : (Jvm.Cond.unhidden C0 y.name y.desc).before a0 Z = true) (w10 : (Jvm.Cond.castable C0 y.cls).before a0 Z = true) (w3 : (Jvm.Cond.initialized z.cls).before a0 Z = true) (w4 : (Jvm.Cond.code z bytes' maxL ret).before a0 Z = true) (hy : y.cls ≠ "java/lang/invoke/MethodHandle" ∧ y.cls ≠ "java/lang/invoke/VarHandle") (C : OCon l Z n0 z bytes' maxL ret [] rm ((.ref a :: argsL).toArray) h (ON P)) (hd : decode bytes pc = .ok (.invokeinterface index cnt, 5)) (hp : pc + 5 = pc') (hsz : Ls.size = ml) (hlen : ∀ sig, parseMethodDescriptor y.desc = some sig → argsL.length = sig.parameters.length) (hW : 2 * 0 + (st.map fun v => v.category).sum ≤ W) (hf : rm.frames + 1 ≤ R.frames) (hlo : W + (maxL + 11) + rm.locals ≤ R.locals) (hc : cells + rm.cells = cells') (hl : slots + rm.slots = slots') (hc' : cells' ≤ R.cells) (hl' : slots' ≤ R.slots) (r : ∀ (h' : Heap), P h' → OGo p l e R s m args below meth c n0 Q h' cells' slots' pc' Ls st)
    : OGo p l e R s m args below meth c n0 Q h cells slots pc Ls (argsL.reverse ++ .ref a :: st) := by
  subst hp hc hl
  intro T locs k n X e0 N h1 h2
  obtain ⟨cq, kq, qa, qb, qc⟩ := isOf K.hZ e0 E
  obtain ⟨_, _, ⟨T', L', k', n'⟩, -, X', ⟨Lc, ⟨hQ, hN⟩, l', y', z'⟩, stp⟩ := X.interfaceBack K.ex (xi := y) (y := z) K.hown (mvT K.hZ w1) (mvT K.hZ w2) (mvT K.hZ w7 (by simp [Cond.onTables, Cond.keepsFace, Cond.keeps, Cond.steady, Cond.faceAtom, hy.1, hy.2])) (mvT K.hZ w5) (mvT K.hZ w6) (mvT K.hZ w8) (mvT K.hZ w9) (mvT K.hZ w10) hy (backOf (W := W) (Q := fun v h L => (ON P) v h ∧ Fr n0 L) C K.hZ w4 w3 hf hlo) qa qb qc (g := mkF m pc Ls (argsL.reverse ++ .ref a :: st)) rfl (hsz.trans K.hml.symm) (Steps.refl _) (argsL := argsL) (rest := st) hlen rfl hW (hb K.by hd) (fun _ _ => ⟨rfl, e0, (by show k + rm.cells ≤ R.cells; omega), (by show n + rm.slots ≤ R.slots; omega)⟩)
  dsimp only [Pt.U, Pt.locs, Pt.cells, Pt.slots] at X' l' y' z' stp hQ
  subst l' y' z'
  obtain ⟨rfl, hQ⟩ := hQ
  obtain ⟨s₂, v, L, g, r'⟩ := r  _ hQ T' _ _ _ X' rfl (Fr.app N hN) (by omega) (by omega)
  exact ⟨s₂, v, L, stp.trans g, r'⟩
theorem OGo.copy (K : OCx p l e R s m args below meth c Z own nm bytes ml rt) {index W : Nat} {a b : Addr} {k k' : ClassId} {ty : FieldType} {z z' sp dp nn : Int32} {vs vd us : List Value} {dv dd : Value} (w1 : (Jvm.Cond.methodLink own index Jvm.Stand.acN).before a0 Z = true) (w2 : (Jvm.Cond.native Jvm.Stand.acN).before a0 Z = true) (w3 : (Jvm.Cond.static Jvm.Stand.acN).before a0 Z = true) (w4 : (Jvm.Cond.initialized "java/lang/System").before a0 Z = true)
    (A : Arv Z h a k ty z vs dv) (B : Arv Z h b k' ty z' vd dd) (hty : refKind ty = false) (h1 : ¬ sp < 0) (h2 : ¬ dp < 0) (h3 : ¬ nn < 0) (h4 : sp.toNatClampNeg + nn.toNatClampNeg ≤ z.toNatClampNeg) (h5 : dp.toNatClampNeg + nn.toNatClampNeg ≤ z'.toNatClampNeg) (hus : us = (List.range nn.toNatClampNeg).map fun i => vs.getD (sp.toNatClampNeg + i) dv) (hl : dp.toNatClampNeg + nn.toNatClampNeg ≤ vd.length) (ge : n0 ≤ b)
    (hd : decode bytes pc = .ok (.invokestatic index, 3)) (hp : pc + 3 = pc') (hsz : Ls.size = ml) (hf : 1 ≤ R.frames) (hW : 2 * 0 + (st.map fun v => v.category).sum ≤ W) (hlo : W + (nativeFrameWords "java/lang/System" "arraycopy" 5 + 11) ≤ R.locals)
    (r : ∀ h', Keep h h' [b] → Arv Z h' b k' ty z' (vd.take dp.toNatClampNeg ++ us ++ vd.drop (dp.toNatClampNeg + nn.toNatClampNeg)) dd → OGo p l e R s m args below meth c n0 Q h' cells slots pc' Ls st) : OGo p l e R s m args below meth c n0 Q h cells slots pc Ls (.int nn :: .int dp :: .ref b :: .int sp :: .ref a :: st) := by
  subst hp
  intro T locs k n X e0 N h1' h2'
  obtain ⟨T', h', L, X', e', N', K', V', st'⟩ := RoadKit.cpA X K.ex K.hZ K.hown w1 w2 w3 w4 e0 A B (Or.inl ⟨rfl, hty⟩) h1 h2 h3 h4 h5 hus hl N ge (g := mkF m pc Ls (.int nn :: .int dp :: .ref b :: .int sp :: .ref a :: st)) rfl (hsz.trans K.hml.symm) rfl (hb K.by hd) hf hW hlo
  obtain ⟨s₂, v, L2, g, r'⟩ := r h' K' V' T' L k n X' e' N' h1' h2'
  exact ⟨s₂, v, L2, st' _ g, r'⟩
theorem OGo.callQV (K : OCx p l e R s m args below meth c Z own nm bytes ml rt) {y : MethodName} {a : Addr} {C0 : String} {ni : Nat} {index : Nat} {bytes' : ByteArray} {maxL : Nat} {ret : Option FieldType} {rm : Room} {W cells' slots' : Nat} {argsL : List Value} {P : Value → Heap → Prop} (E : Exa Z h a C0) (w1 : (Jvm.Cond.methodLink own index y).before a0 Z = true) (w2 : (Jvm.Cond.instanceMethod y).before a0 Z = true) (w5 : (Jvm.Cond.instantiable y.cls ni).before a0 Z = true) (w6 : (Jvm.Cond.privateMethod y).before a0 Z = true) (w3 : (Jvm.Cond.initialized y.cls).before a0 Z = true) (w4 : (Jvm.Cond.code y bytes' maxL ret).before a0 Z = true) (hy : y.cls ≠ "java/lang/invoke/MethodHandle" ∧ y.cls ≠ "java/lang/invoke/VarHandle") (C : OCon l Z n0 y bytes' maxL ret [] rm ((.ref a :: argsL).toArray) h (OV P)) (hd : decode bytes pc = .ok (.invokevirtual index, 3)) (hp : pc + 3 = pc') (hsz : Ls.size = ml) (hlen : ∀ sig, parseMethodDescriptor y.desc = some sig → argsL.length = sig.parameters.length) (hW : 2 * 0 + (st.map fun v => v.category).sum ≤ W) (hf : rm.frames + 1 ≤ R.frames) (hlo : W + (maxL + 11) + rm.locals ≤ R.locals) (hc : cells + rm.cells = cells') (hl : slots + rm.slots = slots') (hc' : cells' ≤ R.cells) (hl' : slots' ≤ R.slots) (r : ∀ (w : Value) (h' : Heap), P w h' → OGo p l e R s m args below meth c n0 Q h' cells' slots' pc' Ls (w :: st))
    : OGo p l e R s m args below meth c n0 Q h cells slots pc Ls (argsL.reverse ++ .ref a :: st) := by
  subst hp hc hl
  intro T locs k n X e0 N h1 h2
  obtain ⟨cq, q, q'⟩ := E.cell
  obtain ⟨_, _, ⟨T', L', k', n'⟩, -, X', ⟨Lc, ⟨hQ, hN⟩, l', y', z'⟩, stp⟩ := own_private X K.ex (y := y) K.hown (mvT K.hZ w1) (mvT K.hZ w2) (mvT K.hZ w5) (Cond.privateMethod_at (mvP K.hZ w6 (args := #[]))) (mvT K.hZ w4) hy (backOf (W := W) (Q := fun v h L => (OV P) v h ∧ Fr n0 L) C K.hZ w4 w3 hf hlo) (g := mkF m pc Ls (argsL.reverse ++ .ref a :: st)) rfl (hsz.trans K.hml.symm) (a := a) (by rw [e0]; exact q) q' (argsL := argsL) (rest := st) hlen rfl hW (hb K.by hd) (fun _ _ => ⟨rfl, e0, (by show k + rm.cells ≤ R.cells; omega), (by show n + rm.slots ≤ R.slots; omega)⟩)
  dsimp only [Pt.U, Pt.locs, Pt.cells, Pt.slots] at X' l' y' z' stp hQ
  subst l' y' z'
  obtain ⟨w, rfl, hQ⟩ := hQ
  obtain ⟨s₂, v, L, g, r'⟩ := r w _ hQ T' _ _ _ X' rfl (Fr.app N hN) (by omega) (by omega)
  exact ⟨s₂, v, L, stp.trans g, r'⟩
theorem OGo.callQN (K : OCx p l e R s m args below meth c Z own nm bytes ml rt) {y : MethodName} {a : Addr} {C0 : String} {ni : Nat} {index : Nat} {bytes' : ByteArray} {maxL : Nat} {ret : Option FieldType} {rm : Room} {W cells' slots' : Nat} {argsL : List Value} {P : Heap → Prop} (E : Exa Z h a C0) (w1 : (Jvm.Cond.methodLink own index y).before a0 Z = true) (w2 : (Jvm.Cond.instanceMethod y).before a0 Z = true) (w5 : (Jvm.Cond.instantiable y.cls ni).before a0 Z = true) (w6 : (Jvm.Cond.privateMethod y).before a0 Z = true) (w3 : (Jvm.Cond.initialized y.cls).before a0 Z = true) (w4 : (Jvm.Cond.code y bytes' maxL ret).before a0 Z = true) (hy : y.cls ≠ "java/lang/invoke/MethodHandle" ∧ y.cls ≠ "java/lang/invoke/VarHandle") (C : OCon l Z n0 y bytes' maxL ret [] rm ((.ref a :: argsL).toArray) h (ON P)) (hd : decode bytes pc = .ok (.invokevirtual index, 3)) (hp : pc + 3 = pc') (hsz : Ls.size = ml) (hlen : ∀ sig, parseMethodDescriptor y.desc = some sig → argsL.length = sig.parameters.length) (hW : 2 * 0 + (st.map fun v => v.category).sum ≤ W) (hf : rm.frames + 1 ≤ R.frames) (hlo : W + (maxL + 11) + rm.locals ≤ R.locals) (hc : cells + rm.cells = cells') (hl : slots + rm.slots = slots') (hc' : cells' ≤ R.cells) (hl' : slots' ≤ R.slots) (r : ∀ (h' : Heap), P h' → OGo p l e R s m args below meth c n0 Q h' cells' slots' pc' Ls st)
    : OGo p l e R s m args below meth c n0 Q h cells slots pc Ls (argsL.reverse ++ .ref a :: st) := by
  subst hp hc hl
  intro T locs k n X e0 N h1 h2
  obtain ⟨cq, q, q'⟩ := E.cell
  obtain ⟨_, _, ⟨T', L', k', n'⟩, -, X', ⟨Lc, ⟨hQ, hN⟩, l', y', z'⟩, stp⟩ := own_private X K.ex (y := y) K.hown (mvT K.hZ w1) (mvT K.hZ w2) (mvT K.hZ w5) (Cond.privateMethod_at (mvP K.hZ w6 (args := #[]))) (mvT K.hZ w4) hy (backOf (W := W) (Q := fun v h L => (ON P) v h ∧ Fr n0 L) C K.hZ w4 w3 hf hlo) (g := mkF m pc Ls (argsL.reverse ++ .ref a :: st)) rfl (hsz.trans K.hml.symm) (a := a) (by rw [e0]; exact q) q' (argsL := argsL) (rest := st) hlen rfl hW (hb K.by hd) (fun _ _ => ⟨rfl, e0, (by show k + rm.cells ≤ R.cells; omega), (by show n + rm.slots ≤ R.slots; omega)⟩)
  dsimp only [Pt.U, Pt.locs, Pt.cells, Pt.slots] at X' l' y' z' stp hQ
  subst l' y' z'
  obtain ⟨rfl, hQ⟩ := hQ
  obtain ⟨s₂, v, L, g, r'⟩ := r  _ hQ T' _ _ _ X' rfl (Fr.app N hN) (by omega) (by omega)
  exact ⟨s₂, v, L, stp.trans g, r'⟩
theorem OGo.acmp (K : OCx p l e R s m args below meth c Z own nm bytes ml rt) {cd : ACond} {o : Int} {x y : Value} {same : Bool} (hd : decode bytes pc = .ok (.if_acmp cd o, 3)) (h1 : x.isRef = true) (h2 : y.isRef = true) (hq : decide (x = y) = same) (ho : 0 ≤ (pc : Int) + o) (hp : pc' = if acV cd same = true then ((pc : Int) + o).toNat else pc + 3) (r : OGo p l e R s m args below meth c n0 Q h cells slots pc' Ls st) : OGo p l e R s m args below meth c n0 Q h cells slots pc Ls (y :: x :: st) :=
  OGo.same (fun T locs k n X e0 => ⟨T, X, e0, fun t q => RoadKit.acmp X K.ex (g := mkF m pc Ls (y :: x :: st)) rfl h1 h2 rfl (hb K.by hd) rfl hq ho hp q⟩) r
theorem OGo.castY (K : OCx p l e R s m args below meth c Z own nm bytes ml rt) {C : String} {index : Nat} {a : Addr} (w : (Jvm.Cond.classLink own index C).before a0 Z = true) (I : Ins Z h a C true) (hd : decode bytes pc = .ok (.checkcast index, 3)) (hp : pc + 3 = pc') (r : OGo p l e R s m args below meth c n0 Q h cells slots pc' Ls (.ref a :: st)) : OGo p l e R s m args below meth c n0 Q h cells slots pc Ls (.ref a :: st) := by
  subst hp
  exact OGo.same (fun T locs k n X e0 => RoadKit.castY X K.ex K.hZ K.hown w e0 I (g := mkF m pc Ls (.ref a :: st)) rfl rfl (hb K.by hd)) r
theorem OGo.instY (K : OCx p l e R s m args below meth c Z own nm bytes ml rt) {C : String} {index : Nat} {a : Addr} (w : (Jvm.Cond.classLink own index C).before a0 Z = true) (I : Ins Z h a C true) (hd : decode bytes pc = .ok (.instanceof index, 3)) (hp : pc + 3 = pc') (r : OGo p l e R s m args below meth c n0 Q h cells slots pc' Ls (.int 1 :: st)) : OGo p l e R s m args below meth c n0 Q h cells slots pc Ls (.ref a :: st) := by
  subst hp
  exact OGo.same (fun T locs k n X e0 => RoadKit.instY X K.ex K.hZ K.hown w e0 I (g := mkF m pc Ls (.ref a :: st)) rfl rfl (hb K.by hd)) r
theorem OGo.ldcI (K : OCx p l e R s m args below meth c Z own nm bytes ml rt) {index : Nat} {v : Int32} (w : (Jvm.Cond.constant own index v).before a0 Z = true) (hd : decode bytes pc = .ok (.ldc index, 2)) (hp : pc + 2 = pc') (r : OGo p l e R s m args below meth c n0 Q h cells slots pc' Ls (.int v :: st)) : OGo p l e R s m args below meth c n0 Q h cells slots pc Ls st := by
  subst hp
  exact OGo.same (fun T locs k n X e0 => ⟨T, X, e0, fun t q => X.ldcInt K.ex K.hown (mvT K.hZ w) (g := mkF m pc Ls st) rfl (hb K.by hd) t q⟩) r
theorem OGo.ldcwI (K : OCx p l e R s m args below meth c Z own nm bytes ml rt) {index : Nat} {v : Int32} (w : (Jvm.Cond.constant own index v).before a0 Z = true) (hd : decode bytes pc = .ok (.ldc_w index, 3)) (hp : pc + 3 = pc') (r : OGo p l e R s m args below meth c n0 Q h cells slots pc' Ls (.int v :: st)) : OGo p l e R s m args below meth c n0 Q h cells slots pc Ls st := by
  subst hp
  exact OGo.same (fun T locs k n X e0 => ⟨T, X, e0, fun t q => X.ldcwInt K.ex K.hown (mvT K.hZ w) (g := mkF m pc Ls st) rfl (hb K.by hd) t q⟩) r
theorem OGo.ldcJ (K : OCx p l e R s m args below meth c Z own nm bytes ml rt) {index : Nat} {v : Int64} (w : (Jvm.Cond.constantLong own index v).before a0 Z = true) (hd : decode bytes pc = .ok (.ldc2_w index, 3)) (hp : pc + 3 = pc') (r : OGo p l e R s m args below meth c n0 Q h cells slots pc' Ls (.long v :: st)) : OGo p l e R s m args below meth c n0 Q h cells slots pc Ls st := by
  subst hp
  exact OGo.same (fun T locs k n X e0 => ⟨T, X, e0, fun t q => X.ldc2Long K.ex K.hown (mvT K.hZ w) (g := mkF m pc Ls st) rfl (hb K.by hd) t q⟩) r
theorem OGo.ldcD (K : OCx p l e R s m args below meth c Z own nm bytes ml rt) {index : Nat} {v : UInt64} (w : (Jvm.Cond.constantDouble own index v).before a0 Z = true) (hd : decode bytes pc = .ok (.ldc2_w index, 3)) (hp : pc + 3 = pc') (r : OGo p l e R s m args below meth c n0 Q h cells slots pc' Ls (.double v :: st)) : OGo p l e R s m args below meth c n0 Q h cells slots pc Ls st := by
  subst hp
  exact OGo.same (fun T locs k n X e0 => ⟨T, X, e0, fun t q => X.ldc2DoubleC K.ex K.hown (mvT K.hZ w) (g := mkF m pc Ls st) rfl (hb K.by hd) t q⟩) r
theorem OGo.ldcF (K : OCx p l e R s m args below meth c Z own nm bytes ml rt) {index : Nat} {v : UInt32} (w : (Jvm.Cond.constantFloat own index v).before a0 Z = true) (hd : decode bytes pc = .ok (.ldc index, 2)) (hp : pc + 2 = pc') (r : OGo p l e R s m args below meth c n0 Q h cells slots pc' Ls (.float v :: st)) : OGo p l e R s m args below meth c n0 Q h cells slots pc Ls st := by
  subst hp
  exact OGo.same (fun T locs k n X e0 => ⟨T, X, e0, fun t q => X.ldcFloatC K.ex K.hown (mvT K.hZ w) (g := mkF m pc Ls st) rfl (hb K.by hd) t q⟩) r
end OwnLayer
section OwnWide
variable {p : Program} {l : Launch} {e : Env} {R : Room} {s : State} {m : MethodId} {args : Array Value} {below : List Frame} {meth : Method} {c : Code} {Z : State} {a0 : Array Value} {n0 : Nat} {own nm : String} {bytes : ByteArray} {ml : Nat} {rt : Option FieldType} {Q : Option Value → State → List Loc → Prop} {Q0 : Option Value → Heap → Prop} {h hs h' : Heap} {cells slots pc pc' pcY : Nat} {Ls Ls' : Array Slot} {st st' : List Value} {EL : List (String × Nat)} {vm : Vm}
/-- the wide mode's side facts: what was interned since the start lies behind it; the constants of EL that are booked spell their texts -/
def OSx (Z : State) (a0 : Array Value) (EL : List (String × Nat)) (s : State) (hs : Heap) (vm : Vm) (h : Heap) : Prop := (∃ k0, s.Since vm k0 ∧ k0 ≤ h.size) ∧ CHr Z EL s.vm hs vm h ∧ EW Z a0 EL
theorem OSx.ext (C : OSx Z a0 EL s hs vm h) (E : Ext h h') : OSx Z a0 EL s hs vm h' := by
  obtain ⟨⟨k0, hS, hk⟩, hC, hE⟩ := C
  exact ⟨⟨k0, hS, Nat.le_trans hk E.1⟩, hC.trans (CHr.ext E hC.1), hE⟩
theorem OSx.wr {a : Addr} {sl : Nat} {v : Value} (C : OSx Z a0 EL s hs vm h) (W : Wr h h' a sl v) (S : Safe Z EL vm h a) : OSx Z a0 EL s hs vm h' := by
  obtain ⟨⟨k0, hS, hk⟩, hC, hE⟩ := C
  have B := CHr.wr W S hC.1
  exact ⟨⟨k0, hS, Nat.le_trans hk B.2.1⟩, hC.trans B, hE⟩
theorem OSx.keep {ws : List Addr} (C : OSx Z a0 EL s hs vm h) (K : Keep h h' ws) (S : ∀ x ∈ ws, Safe Z EL vm h x) : OSx Z a0 EL s hs vm h' := by
  obtain ⟨⟨k0, hS, hk⟩, hC, hE⟩ := C
  exact ⟨⟨k0, hS, Nat.le_trans hk K.1⟩, hC.trans (CHr.keep K S hC.1), hE⟩
theorem OSx.H (C : OSx Z a0 EL s hs vm h) : CHv Z EL vm h := C.2.1.1
theorem OSx.safeE {x : Addr} (C : OSx Z a0 EL s hs vm h) (E : Ext h h') (S : Safe Z EL vm h x) : Safe Z EL vm h' x := S.ext E C.H
theorem OSx.safeW {a x : Addr} {sl : Nat} {v : Value} (C : OSx Z a0 EL s hs vm h) (W : Wr h h' a sl v) (S : Safe Z EL vm h a) (Sx : Safe Z EL vm h x) : Safe Z EL vm h' x := Safe.wr W S C.H Sx
theorem OSx.safeK {x : Addr} {ws : List Addr} (C : OSx Z a0 EL s hs vm h) (K : Keep h h' ws) (S : ∀ x ∈ ws, Safe Z EL vm h x) (Sx : Safe Z EL vm h x) : Safe Z EL vm h' x := Safe.keep K S C.H Sx
/-- the wide end -/
def OPs (Z : State) (EL : List (String × Nat)) (s : State) (hs : Heap) (R : Room) (n0 : Nat) (Q0 : Option Value → Heap → Prop) (v : Option Value) (s₂ : State) (L : List Loc) : Prop := Q0 v s₂.heap ∧ Fr n0 L ∧ CHr Z EL s.vm hs s₂.vm s₂.heap ∧ ReturnedEndW s (.returned v) s₂ L R.cells R.slots
abbrev OConS (l : Launch) (Z : State) (EL : List (String × Nat)) (n0 : Nat) (y : MethodName) (bytes : ByteArray) (maxL : Nat) (ret : Option FieldType) (ws : List Jvm.Cond) (rm : Room) (as' : Array Value) (h0 : Heap) (PV : Vm → Prop) (Q0 : Option Value → Heap → Prop) : Prop :=
  MetFree l y (head1 (Jvm.Cond.code y bytes maxL ret :: ws) rm) (fun a U => a = as' ∧ Z.Warmed39 U.vm ∧ U.heap = h0 ∧ CHv Z EL U.vm h0 ∧ PV U.vm) (fun _ _ _ _ _ => True) (fun _ U o U' => ∃ v L, o = .returned v ∧ (Q0 v U'.heap ∧ Fr n0 L) ∧ CHr Z EL U.vm U.heap U'.vm U'.heap ∧ ReturnedEndW U o U' L rm.cells rm.slots)
theorem OConS.of {y : MethodName} {maxL : Nat} {ret : Option FieldType} {ws : List Jvm.Cond} {rm : Room} {as' : Array Value} {h0 : Heap} {PV : Vm → Prop} (hEL : EW Z a0 EL) (hpl : plainFor y = true) (hf : ∀ m, entryFrame m as' maxL = mkF m 0 Ls [])
    (body : ∀ p e s m below meth c, OCx p l e rm (s.setVm s.vm) m as' below meth c Z y.cls y.name bytes maxL ret → OSx Z a0 EL s h0 s.vm h0 → PV s.vm → OGo p l e rm (s.setVm s.vm) m as' below meth c n0 (OPs Z EL s h0 rm n0 Q0) h0 0 0 0 Ls []) : OConS l Z EL n0 y bytes maxL ret ws rm as' h0 PV Q0 := by
  refine MetFree.of_bodySF hpl hisR ?_
  intro p e s m args below meth c s₁ Bd hml0 hP hK
  obtain ⟨rfl, hZ, hh, hC, hV⟩ := hP
  have X0 : Stand p l e rm s m _ below meth c s₁ [] 0 0 := Stand.of_body Bd
  have e0 : s₁.heap = h0 := by rw [← hh, Bd.state]; rfl
  obtain ⟨s₂, v, L, h1, h2, h3, h4, h5, h6, h7⟩ := body p e s m below meth c ⟨Bd.exec, Bd.bytes, hml0, Bd.returns, (name_of_methodNamed Bd.named Bd.method).1, BodyLoose.notSynchronized Bd, findClass_of_methodNamed Bd.named, hZ⟩ ⟨⟨0, (State.WarmedH.refl s).since 0, Nat.zero_le _⟩, CHr.refl hC, hEL⟩ hV s₁ [] 0 0 X0 e0 (Fr.nil n0) (Nat.le_refl _) (Nat.le_refl _)
  exact ⟨s₂, _, castTop (hf m) h1, h2, h3, v, L, rfl, ⟨h4, h5⟩, by rw [hh]; exact h6, h7⟩
theorem OGo.s_leave {w : Option Value} (K : OCx p l e R (s.setVm vm) m args below meth c Z own nm bytes ml rt) (hv : rt = none → w = none) (hs' : ∀ (T : State) (locs : List Loc) (k n : Nat) (fs : List Frame), Stand p l e R (s.setVm vm) m args below meth c T locs k n → (∀ (f : JFrame) (acts : List Action), f.method = m → f.locked = none → f.entered = [] → (doReturn e (T.setTop f) acts w).1 = T.setFrames fs) → Steps p.tables e below (T.setTop (mkF m pc Ls st)) (T.setFrames fs))
    (hc : cells ≤ R.cells) (hl : slots ≤ R.slots) (C : OSx Z a0 EL s hs vm h) (q : Q0 w h) : OGo p l e R (s.setVm vm) m args below meth c n0 (OPs Z EL s hs R n0 Q0) h cells slots pc Ls st := by
  intro T locs k n X e0 N h1 h2
  obtain ⟨⟨k0, hS, hk⟩, hC, hEL⟩ := C
  obtain ⟨fs, hr, hrun, hended, e1, e2, e3, e4⟩ := X.leaveW hS (by rw [e0]; exact hk) (v := w) (fun x => hv (K.hrt.symm.trans x)) K.lk
  refine ⟨_, w, locs, hs' T locs k n fs X hr, hrun, hended, ?_, N, ?_, e1, e2, e3, e4.mono (Nat.le_trans h1 hc) (Nat.le_trans h2 hl)⟩
  · show Q0 w T.heap
    rw [e0]; exact q
  · show CHr Z EL s.vm hs T.vm T.heap
    rw [e0]; exact hC.trans (CHv.at X K.hZ hEL hC.1)
theorem OGo.s_ret {w : Value} {t : FieldType} {i : Instr} {rest : List Value} (K : OCx p l e R (s.setVm vm) m args below meth c Z own nm bytes ml (some t)) (hd : decode bytes pc = .ok (i, 1)) (hn : narrow t w = w)
    (hi : (i = .ireturn ∧ (t = .int ∨ t = .boolean ∨ t = .byte ∨ t = .char ∨ t = .short) ∧ ∃ z, w = .int z) ∨ (i = .lreturn ∧ t = .long ∧ ∃ z, w = .long z) ∨ (i = .dreturn ∧ t = .double ∧ ∃ z, w = .double z) ∨ (i = .freturn ∧ t = .float ∧ ∃ z, w = .float z) ∨ (i = .areturn ∧ t.isReference = true ∧ w.isRef = true))
    (hc : cells ≤ R.cells) (hl : slots ≤ R.slots) (C : OSx Z a0 EL s hs vm h) (q : Q0 (some w) h) : OGo p l e R (s.setVm vm) m args below meth c n0 (OPs Z EL s hs R n0 Q0) h cells slots pc Ls (w :: rest) :=
  OGo.s_leave K (fun x => nomatch x) (fun T locs k n fs X hr => retOut X K.ex K.hrt hn hi (hb K.by hd) hr) hc hl C q
theorem OGo.s_iret {z : Int32} {rest : List Value} (K : OCx p l e R (s.setVm vm) m args below meth c Z own nm bytes ml (some .int)) (hd : decode bytes pc = .ok (.ireturn, 1)) (hc : cells ≤ R.cells) (hl : slots ≤ R.slots) (C : OSx Z a0 EL s hs vm h) (q : Q0 (some (.int z)) h) : OGo p l e R (s.setVm vm) m args below meth c n0 (OPs Z EL s hs R n0 Q0) h cells slots pc Ls (.int z :: rest) :=
  OGo.s_ret K hd rfl (Or.inl ⟨rfl, Or.inl rfl, z, rfl⟩) hc hl C q
theorem OGo.s_nret {z : Int32} {t : FieldType} {rest : List Value} (K : OCx p l e R (s.setVm vm) m args below meth c Z own nm bytes ml (some t)) (ht : t = .boolean ∨ t = .byte ∨ t = .char ∨ t = .short) (hd : decode bytes pc = .ok (.ireturn, 1)) (hc : cells ≤ R.cells) (hl : slots ≤ R.slots) (C : OSx Z a0 EL s hs vm h) (q : Q0 (some (.int (nar t z))) h) : OGo p l e R (s.setVm vm) m args below meth c n0 (OPs Z EL s hs R n0 Q0) h cells slots pc Ls (.int z :: rest) :=
  OGo.s_leave K (fun x => nomatch x) (fun T locs k n fs X hr => retN X K.ex K.hrt ht (hb K.by hd) hr) hc hl C q
theorem OGo.s_lret {z : Int64} {rest : List Value} (K : OCx p l e R (s.setVm vm) m args below meth c Z own nm bytes ml (some .long)) (hd : decode bytes pc = .ok (.lreturn, 1)) (hc : cells ≤ R.cells) (hl : slots ≤ R.slots) (C : OSx Z a0 EL s hs vm h) (q : Q0 (some (.long z)) h) : OGo p l e R (s.setVm vm) m args below meth c n0 (OPs Z EL s hs R n0 Q0) h cells slots pc Ls (.long z :: rest) :=
  OGo.s_ret K hd rfl (Or.inr (Or.inl ⟨rfl, rfl, z, rfl⟩)) hc hl C q
theorem OGo.s_dret {z : UInt64} {rest : List Value} (K : OCx p l e R (s.setVm vm) m args below meth c Z own nm bytes ml (some .double)) (hd : decode bytes pc = .ok (.dreturn, 1)) (hc : cells ≤ R.cells) (hl : slots ≤ R.slots) (C : OSx Z a0 EL s hs vm h) (q : Q0 (some (.double z)) h) : OGo p l e R (s.setVm vm) m args below meth c n0 (OPs Z EL s hs R n0 Q0) h cells slots pc Ls (.double z :: rest) :=
  OGo.s_ret K hd rfl (Or.inr (Or.inr (Or.inl ⟨rfl, rfl, z, rfl⟩))) hc hl C q
theorem OGo.s_aret {w : Value} {t : FieldType} {rest : List Value} (K : OCx p l e R (s.setVm vm) m args below meth c Z own nm bytes ml (some t)) (hd : decode bytes pc = .ok (.areturn, 1)) (ht : t.isReference = true) (hw : w.isRef = true) (hc : cells ≤ R.cells) (hl : slots ≤ R.slots) (C : OSx Z a0 EL s hs vm h) (q : Q0 (some w) h) : OGo p l e R (s.setVm vm) m args below meth c n0 (OPs Z EL s hs R n0 Q0) h cells slots pc Ls (w :: rest) :=
  OGo.s_ret K hd (by cases t <;> first | (cases ht; done) | (cases w <;> first | (cases hw; done) | rfl)) (Or.inr (Or.inr (Or.inr (Or.inr ⟨rfl, ht, hw⟩)))) hc hl C q
theorem OGo.s_vret (K : OCx p l e R (s.setVm vm) m args below meth c Z own nm bytes ml none) (hd : decode bytes pc = .ok (.return_, 1)) (hc : cells ≤ R.cells) (hl : slots ≤ R.slots) (C : OSx Z a0 EL s hs vm h) (q : Q0 none h) : OGo p l e R (s.setVm vm) m args below meth c n0 (OPs Z EL s hs R n0 Q0) h cells slots pc Ls [] :=
  OGo.s_leave K (fun _ => rfl) (fun T locs k n fs X hr => X.returnOut K.ex K.hrt (hb K.by hd) hr) hc hl C q
/-- a String constant of EL is loaded -/
theorem OGo.ldcS (K : OCx p l e R (s.setVm vm) m args below meth c Z own nm bytes ml rt) {text : String} {index n cells' slots' : Nat} {vs : List Value} {z : Int32} (w : (Jvm.Cond.stringLink own index text).before a0 Z = true) (wS : ∀ a ∈ Bundle.stringAtoms, a.before a0 Z = true) (hmem : (own, index) ∈ EL) (C : OSx Z a0 EL s hs vm h)
    (ht : (∀ c ∈ text.toList, c.toNat < 256) ∧ text.toList.map (fun c => Value.int (Jvm.Lit.byteI c.toNat.toUInt16)) = vs) (hz : ¬ z < 0) (hl : z.toNatClampNeg = vs.length) (hd : decode bytes pc = .ok (.ldc index, 2)) (hp : pc + 2 = pc') (hn : 4 * text.toList.length ≤ n) (hbig : n ≤ 536870912) (hc : cells + 2 = cells') (hl2 : slots + (n + 4) = slots') (hc' : cells' ≤ R.cells) (hl' : slots' ≤ R.slots)
    (r : ∀ (vm1 : Vm) (h' : Heap) (a b : Addr) (k : ClassId), OCx p l e R (s.setVm vm1) m args below meth c Z own nm bytes ml rt → OSx Z a0 EL s hs vm1 h' → Ext h h' → CHr Z EL vm h vm1 h' → Exa Z h' a "java/lang/String" → Fld Z h' a "java/lang/String" "coder" "B" (.int 0) → Fld Z h' a "java/lang/String" "value" "[B" (.ref b) → Arv Z h' b k .byte z vs (.int 0) → (∀ x, Safe Z EL vm1 h' x → x ≠ a ∧ x ≠ b) → OGo p l e R (s.setVm vm1) m args below meth c n0 Q h' cells' slots' pc' Ls (.ref a :: st)) : OGo p l e R (s.setVm vm) m args below meth c n0 Q h cells slots pc Ls st := by
  subst hp hc hl2
  intro T locs k j X e0 N h1 h2
  obtain ⟨⟨k0, hS, hk⟩, hC, hEL⟩ := C
  obtain ⟨a, T', h', k1, b, kb, X', e', E, hS', hk', hW', hf', f1, f2, f3, f4, -, -, hC', -, f5, st'⟩ := ldcCH X K.ex K.hZ K.hown w wS e0 hS hk hEL hmem hC.1 ht hz hl (g := mkF m pc Ls st) rfl (hb K.by hd) (n := n) hn hbig (by omega) (by omega)
  obtain ⟨s₂, v, L, g, r'⟩ := r T'.vm h' a b kb ⟨K.ex, K.by, K.hml, K.hrt, K.hnm, K.lk, hf', hW'⟩ ⟨⟨k1, hS', hk'⟩, hC.trans hC', hEL⟩ E hC' f1 f2 f3 f4 f5 T' locs _ _ X' e' N (by omega) (by omega)
  exact ⟨s₂, v, L, st' _ g, r'⟩
theorem own_backS {y : MethodName} {bytes : ByteArray} {maxL : Nat} {ret : Option FieldType} {rm : Room} {len W : Nat} {as' : Array Value} {PV : Vm → Prop} {Q1 : Option Value → Heap → List Loc → Prop}
    (hM : MetFree l y (head1 [Cond.code y bytes maxL ret] rm) (fun a U => a = as' ∧ Z.Warmed39 U.vm ∧ U.heap = h ∧ CHv Z EL U.vm h ∧ PV U.vm) (fun _ _ _ _ _ => True) (fun _ U o U' => ∃ v L, o = .returned v ∧ Q1 v U'.heap L ∧ CHr Z EL U.vm U.heap U'.vm U'.heap ∧ ReturnedEndW U o U' L rm.cells rm.slots))
    (hZ : Z.Warmed39 vm) (wc : (Cond.code y bytes maxL ret).before a0 Z = true) (wz : (Cond.initialized y.cls).before a0 Z = true) (hf : rm.frames + 1 ≤ R.frames) (hl : W + (maxL + 11) + rm.locals ≤ R.locals) (hEL : EW Z a0 EL) (H : CHv Z EL vm h) (hV : ∀ vm1, CHr Z EL vm h vm1 h → PV vm1) :
    BackS l R p e below (s.setVm vm) args y len W (fun A a => a = as' ∧ A.U.heap = h ∧ A.cells + rm.cells ≤ R.cells ∧ A.slots + rm.slots ≤ R.slots)
      (fun A _ v B => ∃ L, Q1 v B.U.heap L ∧ B.locs = A.locs ++ L ∧ B.cells = A.cells + rm.cells ∧ B.slots = A.slots + rm.slots ∧ CHr Z EL vm h B.U.vm B.U.heap) :=
  BackS.of_freeW (bytes := bytes) (maxL := maxL) (ret := ret) (E := fun _ first o t L k n => k = rm.cells ∧ n = rm.slots ∧ (∃ v, o = .returned v ∧ Q1 v t.heap L) ∧ CHr Z EL first.vm first.heap t.vm t.heap) hM hf hl
    (fun m meth c A a Y hp => have hU : Z.Warmed39 A.U.vm := wtrans (s := s.setVm vm) hZ Y.warmed
      ⟨by show (Cond.and _ .tt).before a A.U = true; rw [Cond.before_and, mv hU wc]; rfl, mv hU wc, mv hU wz, hp.2.2.1, hp.2.2.2⟩)
    (fun m meth c A a g mk Y hp => ⟨hp.1, wtrans (s := s.setVm vm) hZ Y.warmed, hp.2.1, (CHv.at Y hZ hEL H).1, (show PV A.U.vm from hV _ (CHv.at Y hZ hEL H))⟩) (fun _ _ _ _ _ _ _ _ _ => trivial)
    (fun _ _ _ _ ⟨v, L, h1, h2, h3, h4⟩ => ⟨L, _, _, h4, rfl, rfl, ⟨v, h1, h2⟩, h3⟩)
    (fun m meth c A a g mk v t L k n Y hp _ _ ⟨e1, e2, ⟨v', e3, e4⟩, e5⟩ => by
      cases e3; subst e1 e2
      refine ⟨L, e4, rfl, rfl, rfl, (CHv.at Y hZ hEL H).trans ?_⟩
      rw [← hp.2.1]; exact e5)
theorem OGo.callSSV (K : OCx p l e R (s.setVm vm) m args below meth c Z own nm bytes ml rt) {y : MethodName} {bytes' : ByteArray} {maxL : Nat} {ret : Option FieldType} {rm : Room} {W cells' slots' : Nat} {argsL : List Value} {PV : Vm → Prop} {index : Nat} {P : Value → Heap → Prop} (w1 : (Jvm.Cond.methodLink own index y).before a0 Z = true) (w2 : (Jvm.Cond.static y).before a0 Z = true) (w3 : (Jvm.Cond.initialized y.cls).before a0 Z = true) (w4 : (Jvm.Cond.code y bytes' maxL ret).before a0 Z = true) (hy : y.cls ≠ "java/lang/invoke/MethodHandle" ∧ y.cls ≠ "java/lang/invoke/VarHandle") (G : OConS l Z EL n0 y bytes' maxL ret [] rm (argsL.toArray) h PV (OV P)) (C : OSx Z a0 EL s hs vm h) (hV : ∀ vm1, CHr Z EL vm h vm1 h → PV vm1) (hd : decode bytes pc = .ok (.invokestatic index, 3)) (hp : pc + 3 = pc') (hsz : Ls.size = ml) (hlen : ∀ sig, parseMethodDescriptor y.desc = some sig → argsL.length = sig.parameters.length) (hW : 2 * 0 + (st.map fun v => v.category).sum ≤ W) (hf : rm.frames + 1 ≤ R.frames) (hlo : W + (maxL + 11) + rm.locals ≤ R.locals) (hc : cells + rm.cells = cells') (hl : slots + rm.slots = slots') (hc' : cells' ≤ R.cells) (hl' : slots' ≤ R.slots)
    (r : ∀ (vm1 : Vm) (w : Value) (h' : Heap), OCx p l e R (s.setVm vm1) m args below meth c Z own nm bytes ml rt → OSx Z a0 EL s hs vm1 h' → CHr Z EL vm h vm1 h' → P w h' → OGo p l e R (s.setVm vm1) m args below meth c n0 Q h' cells' slots' pc' Ls (w :: st)) : OGo p l e R (s.setVm vm) m args below meth c n0 Q h cells slots pc Ls (argsL.reverse ++ st) := by
  subst hp hc hl
  intro T locs k n X e0 N h1 h2
  obtain ⟨⟨k0, hS, hk⟩, hC, hEL⟩ := C
  obtain ⟨_, _, ⟨T', L', k', n'⟩, -, X', hSS, hgr, ⟨Lc, ⟨hQ, hN⟩, l', y', z', hCC⟩, stp⟩ := RoadKit.callSS X K.ex (y := y) K.hown (mvT K.hZ w1) (mvT K.hZ w2) (mvT K.hZ w3) (mvT K.hZ w4) hy (own_backS (W := W) (Q1 := fun v h L => (OV P) v h ∧ Fr n0 L) G K.hZ w4 w3 hf hlo hEL hC.1 hV) (g := mkF m pc Ls (argsL.reverse ++ st)) rfl (hsz.trans K.hml.symm) (argsL := argsL) (rest := st) hlen rfl hW (hb K.by hd) (fun _ _ => ⟨rfl, e0, (by show k + rm.cells ≤ R.cells; omega), (by show n + rm.slots ≤ R.slots; omega)⟩)
  dsimp only [Pt.U, Pt.locs, Pt.cells, Pt.slots] at X' l' y' z' stp hQ hSS hgr hCC
  subst l' y' z'
  obtain ⟨w, rfl, hQ⟩ := hQ
  have hW1 : Z.Warmed39 T'.vm := State.Warmed39.trans (t := s.setVm vm) K.hZ hSS.1
  obtain ⟨s₂, v, L, g, r'⟩ := r T'.vm w _ ⟨K.ex, K.by, K.hml, K.hrt, K.hnm, K.lk, (by show T'.vm.findClass own = some m.cls; rw [hSS.1.alike.findClass]; exact K.hown), hW1⟩ ⟨⟨_, hS.trans hSS (Nat.le_trans hk (by rw [← e0]; exact hgr)), Nat.le_refl _⟩, hC.trans hCC, hEL⟩ hCC hQ T' _ _ _ X' rfl (Fr.app N hN) (by omega) (by omega)
  exact ⟨s₂, v, L, stp.trans g, r'⟩
theorem OGo.callSSN (K : OCx p l e R (s.setVm vm) m args below meth c Z own nm bytes ml rt) {y : MethodName} {bytes' : ByteArray} {maxL : Nat} {ret : Option FieldType} {rm : Room} {W cells' slots' : Nat} {argsL : List Value} {PV : Vm → Prop} {index : Nat} {P : Heap → Prop} (w1 : (Jvm.Cond.methodLink own index y).before a0 Z = true) (w2 : (Jvm.Cond.static y).before a0 Z = true) (w3 : (Jvm.Cond.initialized y.cls).before a0 Z = true) (w4 : (Jvm.Cond.code y bytes' maxL ret).before a0 Z = true) (hy : y.cls ≠ "java/lang/invoke/MethodHandle" ∧ y.cls ≠ "java/lang/invoke/VarHandle") (G : OConS l Z EL n0 y bytes' maxL ret [] rm (argsL.toArray) h PV (ON P)) (C : OSx Z a0 EL s hs vm h) (hV : ∀ vm1, CHr Z EL vm h vm1 h → PV vm1) (hd : decode bytes pc = .ok (.invokestatic index, 3)) (hp : pc + 3 = pc') (hsz : Ls.size = ml) (hlen : ∀ sig, parseMethodDescriptor y.desc = some sig → argsL.length = sig.parameters.length) (hW : 2 * 0 + (st.map fun v => v.category).sum ≤ W) (hf : rm.frames + 1 ≤ R.frames) (hlo : W + (maxL + 11) + rm.locals ≤ R.locals) (hc : cells + rm.cells = cells') (hl : slots + rm.slots = slots') (hc' : cells' ≤ R.cells) (hl' : slots' ≤ R.slots)
    (r : ∀ (vm1 : Vm) (h' : Heap), OCx p l e R (s.setVm vm1) m args below meth c Z own nm bytes ml rt → OSx Z a0 EL s hs vm1 h' → CHr Z EL vm h vm1 h' → P h' → OGo p l e R (s.setVm vm1) m args below meth c n0 Q h' cells' slots' pc' Ls st) : OGo p l e R (s.setVm vm) m args below meth c n0 Q h cells slots pc Ls (argsL.reverse ++ st) := by
  subst hp hc hl
  intro T locs k n X e0 N h1 h2
  obtain ⟨⟨k0, hS, hk⟩, hC, hEL⟩ := C
  obtain ⟨_, _, ⟨T', L', k', n'⟩, -, X', hSS, hgr, ⟨Lc, ⟨hQ, hN⟩, l', y', z', hCC⟩, stp⟩ := RoadKit.callSS X K.ex (y := y) K.hown (mvT K.hZ w1) (mvT K.hZ w2) (mvT K.hZ w3) (mvT K.hZ w4) hy (own_backS (W := W) (Q1 := fun v h L => (ON P) v h ∧ Fr n0 L) G K.hZ w4 w3 hf hlo hEL hC.1 hV) (g := mkF m pc Ls (argsL.reverse ++ st)) rfl (hsz.trans K.hml.symm) (argsL := argsL) (rest := st) hlen rfl hW (hb K.by hd) (fun _ _ => ⟨rfl, e0, (by show k + rm.cells ≤ R.cells; omega), (by show n + rm.slots ≤ R.slots; omega)⟩)
  dsimp only [Pt.U, Pt.locs, Pt.cells, Pt.slots] at X' l' y' z' stp hQ hSS hgr hCC
  subst l' y' z'
  obtain ⟨rfl, hQ⟩ := hQ
  have hW1 : Z.Warmed39 T'.vm := State.Warmed39.trans (t := s.setVm vm) K.hZ hSS.1
  obtain ⟨s₂, v, L, g, r'⟩ := r T'.vm  _ ⟨K.ex, K.by, K.hml, K.hrt, K.hnm, K.lk, (by show T'.vm.findClass own = some m.cls; rw [hSS.1.alike.findClass]; exact K.hown), hW1⟩ ⟨⟨_, hS.trans hSS (Nat.le_trans hk (by rw [← e0]; exact hgr)), Nat.le_refl _⟩, hC.trans hCC, hEL⟩ hCC hQ T' _ _ _ X' rfl (Fr.app N hN) (by omega) (by omega)
  exact ⟨s₂, v, L, stp.trans g, r'⟩
theorem OGo.callISN (K : OCx p l e R (s.setVm vm) m args below meth c Z own nm bytes ml rt) {y : MethodName} {a : Addr} {bytes' : ByteArray} {maxL : Nat} {rm : Room} {W cells' slots' : Nat} {argsL : List Value} {PV : Vm → Prop} {index : Nat} {P : Heap → Prop} (hy1 : y.name = "<init>") (w1 : (Jvm.Cond.methodLink own index y).before a0 Z = true) (w2 : (Jvm.Cond.instanceMethod y).before a0 Z = true) (w3 : (Jvm.Cond.initialized y.cls).before a0 Z = true) (w4 : (Jvm.Cond.code y bytes' maxL none).before a0 Z = true) (hy : y.cls ≠ "java/lang/invoke/MethodHandle" ∧ y.cls ≠ "java/lang/invoke/VarHandle") (G : OConS l Z EL n0 y bytes' maxL none [] rm ((.ref a :: argsL).toArray) h PV (ON P)) (C : OSx Z a0 EL s hs vm h) (hV : ∀ vm1, CHr Z EL vm h vm1 h → PV vm1) (hd : decode bytes pc = .ok (.invokespecial index, 3)) (hp : pc + 3 = pc') (hsz : Ls.size = ml) (hlen : ∀ sig, parseMethodDescriptor y.desc = some sig → argsL.length = sig.parameters.length) (hW : 2 * 0 + (st.map fun v => v.category).sum ≤ W) (hf : rm.frames + 1 ≤ R.frames) (hlo : W + (maxL + 11) + rm.locals ≤ R.locals) (hc : cells + rm.cells = cells') (hl : slots + rm.slots = slots') (hc' : cells' ≤ R.cells) (hl' : slots' ≤ R.slots)
    (r : ∀ (vm1 : Vm) (h' : Heap), OCx p l e R (s.setVm vm1) m args below meth c Z own nm bytes ml rt → OSx Z a0 EL s hs vm1 h' → CHr Z EL vm h vm1 h' → P h' → OGo p l e R (s.setVm vm1) m args below meth c n0 Q h' cells' slots' pc' Ls st) : OGo p l e R (s.setVm vm) m args below meth c n0 Q h cells slots pc Ls (argsL.reverse ++ .ref a :: st) := by
  subst hp hc hl
  intro T locs k n X e0 N h1 h2
  obtain ⟨⟨k0, hS, hk⟩, hC, hEL⟩ := C
  obtain ⟨_, _, ⟨T', L', k', n'⟩, -, X', hSS, hgr, ⟨Lc, ⟨hQ, hN⟩, l', y', z', hCC⟩, stp⟩ := X.specialBackS K.ex (y := y) hy1 K.hown (mvT K.hZ w1) (mvT K.hZ w2) (mvT K.hZ w4) hy (own_backS (W := W) (Q1 := fun v h L => (ON P) v h ∧ Fr n0 L) G K.hZ w4 w3 hf hlo hEL hC.1 hV) (g := mkF m pc Ls (argsL.reverse ++ .ref a :: st)) rfl (hsz.trans K.hml.symm) (Steps.refl _) (a := a) (argsL := argsL) (rest := st) hlen rfl hW (hb K.by hd) (fun _ _ => ⟨rfl, e0, (by show k + rm.cells ≤ R.cells; omega), (by show n + rm.slots ≤ R.slots; omega)⟩)
  dsimp only [Pt.U, Pt.locs, Pt.cells, Pt.slots] at X' l' y' z' stp hQ hSS hgr hCC
  subst l' y' z'
  obtain ⟨rfl, hQ⟩ := hQ
  have hW1 : Z.Warmed39 T'.vm := State.Warmed39.trans (t := s.setVm vm) K.hZ hSS.1
  obtain ⟨s₂, v, L, g, r'⟩ := r T'.vm  _ ⟨K.ex, K.by, K.hml, K.hrt, K.hnm, K.lk, (by show T'.vm.findClass own = some m.cls; rw [hSS.1.alike.findClass]; exact K.hown), hW1⟩ ⟨⟨_, hS.trans hSS (Nat.le_trans hk (by rw [← e0]; exact hgr)), Nat.le_refl _⟩, hC.trans hCC, hEL⟩ hCC hQ T' _ _ _ X' rfl (Fr.app N hN) (by omega) (by omega)
  exact ⟨s₂, v, L, stp.trans g, r'⟩
end OwnWide
theorem own_eqi {args : Array Value} {first s : State} {o : Option Outcome} {idx : List Nat} {a : Term} {k : Int32} (h : (Jvm.Cond.eq a (Jvm.Term.int k)).value args first o s idx = some true) : a.eval args first o idx s = some (.int k) := by
  obtain ⟨x, y, h1, h2, h3, h4⟩ := cmp_v (Or.inl h)
  have h5 : y = .int k := Option.some.inj (h2.symm.trans (Term.int_eval k))
  subst h5
  obtain ⟨z, rfl⟩ := h4
  have h6 : (Jvm.Cond.eq a (Jvm.Term.int k)).value args first o s idx = some (decide (z = k)) := by simp [Cond.value, h1, h2]
  have h7 := gotT h6 h
  rw [h1, h7]
def OS (Z : State) (n0 : Nat) (h : Heap) (C n d : String) (v : Value) : Prop := ∃ (cf i : Nat) (k : Class) (f : Field) (st : Addr) (cell : Cell), Z.fieldFound? C n d = some (cf, k, i, f) ∧ f.isStatic = true ∧ k.init = .initialized ∧ k.statics = some st ∧ h[st]? = some cell ∧ cell.vm.isStatics = true ∧ cell.slots[f.slot]? = some v ∧ st < n0
theorem OS.sta {Z : State} {n0 : Nat} {h : Heap} {C n d : String} {v : Value} (F : OS Z n0 h C n d v) : Sta Z h C n d v := by
  obtain ⟨cf, i, k, f, st, cell, h1, h2, h3, h4, h5, h6, h7, -⟩ := F
  exact ⟨cf, i, k, f, st, cell, h1, h2, h3, h4, h5, h6, h7⟩
theorem OS.of {Z : State} {n0 : Nat} {h : Heap} {C n d : String} {v : Value} (F : Sta Z h C n d v) (q : h.size ≤ n0) : OS Z n0 h C n d v := by
  obtain ⟨cf, i, k, f, st, cell, h1, h2, h3, h4, h5, h6, h7⟩ := F
  exact ⟨cf, i, k, f, st, cell, h1, h2, h3, h4, h5, h6, h7, Nat.lt_of_lt_of_le (Array.getElem?_eq_some_iff.mp h5).1 q⟩
theorem own_lt_nin {n0 : Nat} {x : Addr} {ws : List Addr} (q : x < n0) (r : ∀ y ∈ ws, n0 ≤ y) : x ∉ ws := fun z => absurd q (Nat.not_lt.mpr (r x z))
theorem OS.keep {Z : State} {n0 : Nat} {h h' : Heap} {ws : List Addr} {C n d : String} {v : Value} (F : OS Z n0 h C n d v) (K : Keep h h' ws) (r : ∀ y ∈ ws, n0 ≤ y) : OS Z n0 h' C n d v := by
  obtain ⟨cf, i, k, f, st, cell, h1, h2, h3, h4, h5, h6, h7, h8⟩ := F
  exact ⟨cf, i, k, f, st, cell, h1, h2, h3, h4, K.2.1 _ _ h5 (own_lt_nin h8 r), h6, h7, h8⟩
theorem own_keep_ext {h h' : Heap} (E : Ext h h') : Keep h h' [] := (Keep.refl h []).ext E
def OWd (Z : State) (n0 : Nat) (h : Heap) (d : Addr) : Prop := OS Z n0 h "java/util/ArrayList" "DEFAULTCAPACITY_EMPTY_ELEMENTDATA" "[Ljava/lang/Object;" (.ref d) ∧ (∃ k, Arv Z h d k (.object "java/lang/Object") 0 [] .null) ∧ d < n0
theorem OWd.keep {Z : State} {n0 : Nat} {h h' : Heap} {ws : List Addr} {d : Addr} (F : OWd Z n0 h d) (K : Keep h h' ws) (r : ∀ y ∈ ws, n0 ≤ y) : OWd Z n0 h' d := by
  obtain ⟨S, ⟨k, A⟩, q⟩ := F
  exact ⟨S.keep K r, ⟨k, A.keep K (own_lt_nin q r)⟩, q⟩
theorem OWd.ext {Z : State} {n0 : Nat} {h h' : Heap} {d : Addr} (F : OWd Z n0 h d) (E : Ext h h') : OWd Z n0 h' d := F.keep (own_keep_ext E) all0
theorem OWd.wr {Z : State} {n0 : Nat} {h h' : Heap} {d a : Addr} {sl : Nat} {v : Value} (F : OWd Z n0 h d) (W : Wr h h' a sl v) (g : n0 ≤ a) : OWd Z n0 h' d := F.keep (Keep.of_wr W) (allS g all0)
def OAL0 (Z : State) (n0 : Nat) (h : Heap) (a d : Addr) : Prop := Exa Z h a "java/util/ArrayList" ∧ Fld Z h a "java/util/ArrayList" "size" "I" (.int 0) ∧ (∃ mc, Fld Z h a "java/util/AbstractList" "modCount" "I" (.int mc)) ∧ Fld Z h a "java/util/ArrayList" "elementData" "[Ljava/lang/Object;" (.ref d) ∧ n0 ≤ a
def OAL1 (Z : State) (n0 : Nat) (h : Heap) (a x : Addr) (vs : List Addr) : Prop := Exa Z h a "java/util/ArrayList" ∧ Fld Z h a "java/util/ArrayList" "size" "I" (.int (Int32.ofNat vs.length)) ∧ (∃ mc, Fld Z h a "java/util/AbstractList" "modCount" "I" (.int mc)) ∧ Fld Z h a "java/util/ArrayList" "elementData" "[Ljava/lang/Object;" (.ref x) ∧
  (∃ k us, Arv Z h x k (.object "java/lang/Object") 10 us .null ∧ us.length = 10 ∧ Ovr Z k "java/lang/Object" ∧ ∀ i (hi : i < vs.length), us.getD i .null = .ref vs[i]) ∧ a ≠ x ∧ n0 ≤ a ∧ n0 ≤ x
theorem OAL0.keep {Z : State} {n0 : Nat} {h h' : Heap} {ws : List Addr} {a d : Addr} (F : OAL0 Z n0 h a d) (K : Keep h h' ws) (r : a ∉ ws) : OAL0 Z n0 h' a d := by
  obtain ⟨E, F1, ⟨mc, F2⟩, F3, g⟩ := F
  exact ⟨E.keep K, F1.keep K r, ⟨mc, F2.keep K r⟩, F3.keep K r, g⟩
theorem OAL1.keep {Z : State} {n0 : Nat} {h h' : Heap} {ws : List Addr} {a x : Addr} {vs : List Addr} (F : OAL1 Z n0 h a x vs) (K : Keep h h' ws) (r : a ∉ ws) (r2 : x ∉ ws) : OAL1 Z n0 h' a x vs := by
  obtain ⟨E, F1, ⟨mc, F2⟩, F3, ⟨k, us, A, q⟩, g⟩ := F
  exact ⟨E.keep K, F1.keep K r, ⟨mc, F2.keep K r⟩, F3.keep K r, ⟨k, us, A.keep K r2, q⟩, g⟩
theorem OAL0.lta {Z : State} {n0 : Nat} {h : Heap} {a d : Addr} (F : OAL0 Z n0 h a d) : a < h.size := F.1.lt
theorem OAL1.lta {Z : State} {n0 : Nat} {h : Heap} {a x : Addr} {vs : List Addr} (F : OAL1 Z n0 h a x vs) : a < h.size := F.1.lt
theorem OAL1.ltx {Z : State} {n0 : Nat} {h : Heap} {a x : Addr} {vs : List Addr} (F : OAL1 Z n0 h a x vs) : x < h.size := by
  obtain ⟨-, -, -, -, ⟨k, us, A, -⟩, -⟩ := F
  exact A.lt
theorem own_i10 {n : Nat} (h : n < 10) : ¬ (Int32.ofNat n) < 0 ∧ Int32.ofNat n < 10 ∧ (Int32.ofNat n).toNatClampNeg = n ∧ ¬ Int32.ofNat n = 10 := by
  have e1 := toInt_of (n := Int32.ofNat n) rfl (by omega)
  have e2 := clamp_of (n := Int32.ofNat n) rfl (by omega)
  have e3 : (10 : Int32).toInt = 10 := rfl
  have e4 : (0 : Int32).toInt = 0 := rfl
  refine ⟨by rw [Int32.lt_iff_toInt_lt, e1, e4]; omega, by rw [Int32.lt_iff_toInt_lt, e1, e3]; omega, e2, fun q => ?_⟩
  have := congrArg Int32.toInt q
  rw [e1, e3] at this; omega
theorem own_al_push {us : List Value} {vs : List Addr} {y : Addr} (hl : us.length = 10) (hn : vs.length < 10) (H : ∀ i (hi : i < vs.length), us.getD i .null = .ref vs[i]) : ∀ i (hi : i < (vs ++ [y]).length), (us.set vs.length (.ref y)).getD i .null = .ref (vs ++ [y])[i] := by
  intro i hi
  simp only [List.length_append, List.length_cons, List.length_nil] at hi
  rw [List.getD_eq_getElem?_getD]
  by_cases q : i = vs.length
  · subst q
    rw [List.getElem?_set_self (by omega)]
    simp
  · have q' : i < vs.length := by omega
    rw [List.getElem?_set_ne (Ne.symm q), ← List.getD_eq_getElem?_getD, H i q', List.getElem_append_left q']
theorem own_i32lt {i n : Nat} (h : i < n) (hn : n < 2 ^ 31) : Int32.ofNat i < Int32.ofNat n := by
  rw [Int32.lt_iff_toInt_lt, toInt_of (n := Int32.ofNat i) rfl (by omega), toInt_of (n := Int32.ofNat n) rfl hn]; omega
theorem own_sta_keep {Z : State} {h h' : Heap} {C n d : String} {v : Value} (F : Sta Z h C n d v) (K : Keep h h' []) : Sta Z h' C n d v := by
  obtain ⟨cf, i, k, f, st, cell, h1, h2, h3, h4, h5, r⟩ := F
  exact ⟨cf, i, k, f, st, cell, h1, h2, h3, h4, K.2.1 _ _ h5 nin0, r⟩
theorem own_sto {Z : State} {h : Heap} {a y : Addr} {k : ClassId} {ty : FieldType} {z : Int32} {vs : List Value} {dv : Value} {C : String} (A : Arv Z h a k ty z vs dv) (O : Ovr Z k C) (I : Ins Z h y C true) : Sto Z h a (.ref y) := by
  obtain ⟨c, A, q, -⟩ := A
  exact Sto.ofV A q O I
theorem own_ins_keep {Z : State} {h h' : Heap} {ws : List Addr} {a : Addr} {C : String} (F : Ins Z h a C true) (K : Keep h h' ws) : Ins Z h' a C true := by
  obtain ⟨cell, cT, h1, h2, h3⟩ := F
  obtain ⟨c', q, r1, r2, -⟩ := K.2.2 a cell h1
  exact ⟨c', cT, q, h2, by rw [r1, r2]; exact h3⟩
theorem own_lenspec {s : State} {args : Array Value} {t : Term} {a : Addr} {cl : Cell} {z : Int32} (ht : t.eval args s none [] s = some (.ref a)) (hc : s.heap[a]? = some cl) (h : (Term.length t).eval args s none [] s = some (.int z)) : cl.slots.size < 2 ^ 31 ∧ cl.slots.size.toInt32 = z := by
  simp only [Term.eval, Option.bind_eq_bind] at h
  simp [ht] at h
  obtain ⟨cell, hcell, h⟩ := Option.bind_eq_some_iff.mp h
  cases hc.symm.trans (State.arrayAt?_spec hcell).1
  by_cases hn : cl.slots.size < 2147483648
  · rw [if_pos hn] at h; cases h; exact ⟨hn, rfl⟩
  · rw [if_neg hn] at h; cases h
theorem own_wd {s : State} {args : Array Value} (hfit : Fit s) (w0 : (Jvm.Cond.initialized "java/util/ArrayList").before args s = true) (w1 : (Jvm.Cond.laysStatic "java/util/ArrayList" "DEFAULTCAPACITY_EMPTY_ELEMENTDATA" "[Ljava/lang/Object;").before args s = true) (w2 : (Jvm.Cond.arrayOf (Jvm.Term.static "java/util/ArrayList" "DEFAULTCAPACITY_EMPTY_ELEMENTDATA" "[Ljava/lang/Object;") (Jvm.ClassFile.FieldType.object "java/lang/Object")).before args s = true) (w3 : (Jvm.Cond.eq (Jvm.Term.length (Jvm.Term.static "java/util/ArrayList" "DEFAULTCAPACITY_EMPTY_ELEMENTDATA" "[Ljava/lang/Object;")) (Jvm.Term.int (0 : Int32))).before args s = true) : ∃ d, OWd s s.heap.size s.heap d := by
  obtain ⟨d, ev⟩ := arr_v (Cond.before_iff.mp w2)
  have S := Sta.start ev (Or.inr ⟨w0, w1⟩)
  obtain ⟨c, A⟩ := Arr.start ev (Cond.before_iff.mp w2)
  obtain ⟨q1, q2⟩ := own_lenspec ev A.1 (own_eqi (Cond.before_iff.mp w3))
  exact ⟨d, OS.of S (Nat.le_refl _), ⟨_, Arv.start hfit A q1 q2 (by decide) rfl trivial⟩, A.lt⟩
def own_by (c : Int32) : Value := .int c.toInt8.toInt32
def OStr (Z : State) (n0 : Nat) (h : Heap) (s t : Addr) (cs : List Int32) : Prop := Exa Z h s "java/lang/String" ∧ Fld Z h s "java/lang/String" "value" "[B" (.ref t) ∧ Fld Z h s "java/lang/String" "coder" "B" (.int 0) ∧ (∃ k, Arv Z h t k .byte (Int32.ofNat cs.length) (cs.map own_by) (.int 0)) ∧ s ≠ t ∧ n0 ≤ s ∧ n0 ≤ t
theorem OStr.keep {Z : State} {n0 : Nat} {h h' : Heap} {s t : Addr} {cs : List Int32} {ws : List Addr} (F : OStr Z n0 h s t cs) (K : Keep h h' ws) (q1 : s ∉ ws) (q2 : t ∉ ws) : OStr Z n0 h' s t cs := by
  obtain ⟨E, F1, F2, ⟨k, V⟩, r⟩ := F
  exact ⟨E.keep K, F1.keep K q1, F2.keep K q1, ⟨k, V.keep K q2⟩, r⟩
theorem OStr.lts {Z : State} {n0 : Nat} {h : Heap} {s t : Addr} {cs : List Int32} (F : OStr Z n0 h s t cs) : s < h.size := F.1.lt
theorem OStr.ltt {Z : State} {n0 : Nat} {h : Heap} {s t : Addr} {cs : List Int32} (F : OStr Z n0 h s t cs) : t < h.size := by
  obtain ⟨E, F1, F2, ⟨k, V⟩, r⟩ := F
  exact V.lt
theorem own_s32 {n : Nat} (h : n < 1000) : (Int32.ofNat n).toInt = n ∧ ¬ (Int32.ofNat n) < 0 ∧ (Int32.ofNat n).toNatClampNeg = n := by
  have e1 := toInt_of (n := Int32.ofNat n) rfl (by omega)
  have e2 := clamp_of (n := Int32.ofNat n) rfl (by omega)
  have e4 : (0 : Int32).toInt = 0 := rfl
  exact ⟨e1, by rw [Int32.lt_iff_toInt_lt, e1, e4]; omega, e2⟩
theorem own_slt {n N : Nat} (h : n < 1000) (hN : N < 1000) : Int32.ofNat n < Int32.ofNat N ↔ n < N := by
  rw [Int32.lt_iff_toInt_lt, (own_s32 h).1, (own_s32 hN).1]; omega
theorem own_narb (c : Int32) : Value.int (nar .byte c.toInt8.toInt32) = own_by c := by
  unfold own_by
  show Value.int (c.toInt8.toInt32.toInt8.toInt32) = _
  rw [Int8.toInt8_toInt32]
theorem own_map_of {us : List Value} {cs : List Int32} (hl : us.length = cs.length) (H : ∀ j (hj : j < cs.length), us.getD j (.int 0) = own_by cs[j]) : us = cs.map own_by := by
  apply List.ext_getElem (by simpa using hl)
  intro i h1 h2
  have := H i (by simpa using h2)
  rw [List.getD_eq_getElem?_getD, List.getElem?_eq_getElem h1] at this
  simpa using this
theorem own_getD_map {cs : List Int32} {d : Value} {j : Nat} (hj : j < cs.length) : (cs.map Value.int).getD j d = .int cs[j] := by
  rw [List.getD_eq_getElem?_getD, List.getElem?_map, List.getElem?_eq_getElem hj]; rfl
theorem own_sset_ne {us : List Value} {i j : Nat} {v d : Value} (h : i ≠ j) : (us.set i v).getD j d = us.getD j d := by
  rw [List.getD_eq_getElem?_getD, List.getD_eq_getElem?_getD, List.getElem?_set_ne h]
theorem own_sset_eq {us : List Value} {i : Nat} {v d : Value} (h : i < us.length) : (us.set i v).getD i d = v := by
  rw [List.getD_eq_getElem?_getD, List.getElem?_set_self h]; rfl
theorem own_cs {s : State} {args : Array Value} (w0 : (Jvm.Cond.initializedFor "java/lang/String" "COMPACT_STRINGS" "Z").before args s = true) (w1 : (Jvm.Cond.isInt (Jvm.Term.static "java/lang/String" "COMPACT_STRINGS" "Z")).before args s = true) (w2 : (Jvm.Cond.not (Jvm.Cond.eq (Jvm.Term.static "java/lang/String" "COMPACT_STRINGS" "Z") (Jvm.Term.int (0 : Int32)))).before args s = true) : ∃ cz, OS s s.heap.size s.heap "java/lang/String" "COMPACT_STRINGS" "Z" (.int cz) ∧ ¬ cz = 0 := by
  obtain ⟨z, ev⟩ := is_v (Cond.before_iff.mp w1)
  have h2 := not_v (Cond.before_iff.mp w2)
  have h3 : (Jvm.Cond.eq (Jvm.Term.static "java/lang/String" "COMPACT_STRINGS" "Z") (Jvm.Term.int (0 : Int32))).value args s none s [] = some (decide (z = 0)) := by simp [Cond.value, ev, Term.int_eval]
  exact ⟨z, OS.of (Sta.start ev (Or.inl w0)) (Nat.le_refl _), gotF h3 h2⟩
def OWs (Z : State) (h : Heap) (s t : Addr) (n : Nat) (vs : List Value) : Prop := Exa Z h s "java/lang/String" ∧ Fld Z h s "java/lang/String" "value" "[B" (.ref t) ∧ Fld Z h s "java/lang/String" "coder" "B" (.int 0) ∧ ∃ k, Arv Z h t k .byte (Int32.ofNat n) vs (.int 0)
theorem OWs.keep {Z : State} {h h' : Heap} {s t : Addr} {n : Nat} {vs : List Value} {ws : List Addr} (F : OWs Z h s t n vs) (K : Keep h h' ws) (q1 : s ∉ ws) (q2 : t ∉ ws) : OWs Z h' s t n vs := by
  obtain ⟨E, F1, F2, k, V⟩ := F
  exact ⟨E.keep K, F1.keep K q1, F2.keep K q1, k, V.keep K q2⟩
theorem OWs.lts {Z : State} {h : Heap} {s t : Addr} {n : Nat} {vs : List Value} (F : OWs Z h s t n vs) : s < h.size := F.1.lt
theorem OWs.ltt {Z : State} {h : Heap} {s t : Addr} {n : Nat} {vs : List Value} (F : OWs Z h s t n vs) : t < h.size := by
  obtain ⟨E, F1, F2, k, V⟩ := F
  exact V.lt
theorem own_sh0 {k : Nat} (h : k ≤ 19) : Int32.ofNat k >>> ((0 : Int32) &&& 31) = Int32.ofNat k := by
  have q : ∀ j, j < 20 → Int32.ofNat j >>> ((0 : Int32) &&& 31) = Int32.ofNat j := by decide +kernel
  exact q k (by omega)
def own_EL : List (String × Nat) := [("com/example/nextfront/nextfront/cli/Arguments", 41), ("java/lang/String", 7)]
set_option maxRecDepth 65536 in
theorem own_ew {Z : State} {a0 : Array Value} (hw : ∀ d ∈ tables_1, d.before a0 Z = true) : EW Z a0 own_EL := (EW.cons (hw _ (List.mem_of_getElem? (i := 172) rfl)) (by decide) (EW.cons (hw _ (List.mem_of_getElem? (i := 34) rfl)) (by decide) EW.nil))
set_option maxRecDepth 65536 in
theorem own_wS {Z : State} {a0 : Array Value} (hw : ∀ d ∈ tables_1, d.before a0 Z = true) : ∀ a ∈ Bundle.stringAtoms, a.before a0 Z = true := by
  intro d hd
  simp only [Bundle.stringAtoms, List.mem_cons, List.not_mem_nil, or_false] at hd
  rcases hd with rfl | rfl | rfl | rfl | rfl | rfl | rfl
  · exact (hw _ (List.mem_of_getElem? (i := 6) rfl))
  · exact (hw _ (List.mem_of_getElem? (i := 5) rfl))
  · exact (hw _ (List.mem_of_getElem? (i := 23) rfl))
  · exact (hw _ (List.mem_of_getElem? (i := 33) rfl))
  · exact (hw _ (List.mem_of_getElem? (i := 31) rfl))
  · exact (hw _ (List.mem_of_getElem? (i := 35) rfl))
  · exact (hw _ (List.mem_of_getElem? (i := 36) rfl))
theorem own_o32 {x : Int32} {n : Nat} (h : x.toInt = n) (hn : n < 1000) : x = Int32.ofNat n := by
  apply Int32.toInt_inj.mp
  rw [h, toInt_of (n := Int32.ofNat n) rfl (by omega)]
theorem own_and3 (x : Int32) : x &&& 3 = 0 ∨ x &&& 3 = 1 ∨ x &&& 3 = 2 ∨ x &&& 3 = 3 := by
  have h := c_and x 3 (by decide)
  rw [show (3 : Int32).toInt = 3 from rfl] at h
  have e : ∀ k : Nat, k < 4 → (x &&& 3).toInt = k → x &&& 3 = Int32.ofNat k := fun k hk q => own_o32 q (by omega)
  have : (x &&& 3).toInt = (0 : Nat) ∨ (x &&& 3).toInt = (1 : Nat) ∨ (x &&& 3).toInt = (2 : Nat) ∨ (x &&& 3).toInt = (3 : Nat) := by omega
  rcases this with q | q | q | q
  · exact Or.inl (e 0 (by decide) q)
  · exact Or.inr (Or.inl (e 1 (by decide) q))
  · exact Or.inr (Or.inr (Or.inl (e 2 (by decide) q)))
  · exact Or.inr (Or.inr (Or.inr (e 3 (by decide) q)))
theorem own_cc (c : Int32) : ¬ (255 : Int32) < nar .char (c &&& 255).toUInt32.toUInt16.toUInt32.toInt32 := by
  rw [i2c_mask]
  show ¬ (255 : Int32) < (c &&& 255).toUInt32.toUInt16.toUInt32.toInt32
  rw [i2c_mask, Int32.lt_iff_toInt_lt]
  have := (c_and c 255 (by decide)).2
  omega
theorem own_c45 (c : Int32) (h : ¬ (c &&& 255).toUInt32.toUInt16.toUInt32.toInt32 = 45) : ¬ (nar .char (c &&& 255).toUInt32.toUInt16.toUInt32.toInt32).toInt8.toInt32 = 45 := fun q => by
  rw [i2c_mask] at q h
  have q' : ((c &&& 255).toUInt32.toUInt16.toUInt32.toInt32).toInt8.toInt32 = 45 := q
  rw [i2c_mask] at q'
  have b := c_i2b (c &&& 255)
  rw [q'] at b
  have r := c_and c 255 (by decide)
  rw [show (255 : Int32).toInt = 255 from rfl] at r
  apply h
  apply Int32.toInt_inj.mp
  rw [show (45 : Int32).toInt = 45 from rfl] at b ⊢
  omega
theorem own_d10_0 : decode jdk_22_method_1_code 0 = .ok (.aload_n 0, 1) := by decide +kernel
theorem own_d10_1 : decode jdk_22_method_1_code 1 = .ok (.invokespecial 1, 3) := by decide +kernel
theorem own_d10_4 : decode jdk_22_method_1_code 4 = .ok (.return_, 1) := by decide +kernel
theorem own_pn_10 : plainName "java/util/AbstractCollection" = true := by first | (simp [plainName, overriddenIn]; done) | decide +kernel
theorem own_d9_0 : decode jdk_39_method_1_code 0 = .ok (.aload_n 0, 1) := by decide +kernel
theorem own_d9_1 : decode jdk_39_method_1_code 1 = .ok (.invokespecial 1, 3) := by decide +kernel
theorem own_pd1 : parseMethodDescriptor "()V" = some ⟨[], none⟩ := by decide +kernel
theorem own_d9_4 : decode jdk_39_method_1_code 4 = .ok (.aload_n 0, 1) := by decide +kernel
theorem own_d9_5 : decode jdk_39_method_1_code 5 = .ok (.iconst 0, 1) := by decide +kernel
theorem own_d9_6 : decode jdk_39_method_1_code 6 = .ok (.putfield 7, 3) := by decide +kernel
theorem own_d9_9 : decode jdk_39_method_1_code 9 = .ok (.return_, 1) := by decide +kernel
theorem own_pn_9 : plainName "java/util/AbstractList" = true := by first | (simp [plainName, overriddenIn]; done) | decide +kernel
theorem own_d8_0 : decode jdk_38_method_2_code 0 = .ok (.aload_n 0, 1) := by decide +kernel
theorem own_d8_1 : decode jdk_38_method_2_code 1 = .ok (.invokespecial 1, 3) := by decide +kernel
theorem own_d8_4 : decode jdk_38_method_2_code 4 = .ok (.aload_n 0, 1) := by decide +kernel
theorem own_d8_5 : decode jdk_38_method_2_code 5 = .ok (.getstatic 39, 3) := by decide +kernel
theorem own_d8_8 : decode jdk_38_method_2_code 8 = .ok (.putfield 9, 3) := by decide +kernel
theorem own_d8_11 : decode jdk_38_method_2_code 11 = .ok (.return_, 1) := by decide +kernel
theorem own_pn_8 : plainName "java/util/ArrayList" = true := by first | (simp [plainName, overriddenIn]; done) | decide +kernel
theorem own_d15_0 : decode jdk_29_method_65_code 0 = .ok (.iload_n 0, 1) := by decide +kernel
theorem own_d15_1 : decode jdk_29_method_65_code 1 = .ok (.iload_n 1, 1) := by decide +kernel
theorem own_d15_2 : decode jdk_29_method_65_code 2 = .ok (.if_icmp .lt 7, 3) := by decide +kernel
theorem own_d15_9 : decode jdk_29_method_65_code 9 = .ok (.iload_n 1, 1) := by decide +kernel
theorem own_d15_10 : decode jdk_29_method_65_code 10 = .ok (.ireturn, 1) := by decide +kernel
theorem own_d15_5 : decode jdk_29_method_65_code 5 = .ok (.iload_n 0, 1) := by decide +kernel
theorem own_d15_6 : decode jdk_29_method_65_code 6 = .ok (.goto 4, 3) := by decide +kernel
theorem own_d14_0 : decode jdk_38_method_6_code 0 = .ok (.aload_n 0, 1) := by decide +kernel
theorem own_d14_1 : decode jdk_38_method_6_code 1 = .ok (.getfield 9, 3) := by decide +kernel
theorem own_d14_4 : decode jdk_38_method_6_code 4 = .ok (.arraylength, 1) := by decide +kernel
theorem own_d14_5 : decode jdk_38_method_6_code 5 = .ok (.istore_n 2, 1) := by decide +kernel
theorem own_d14_6 : decode jdk_38_method_6_code 6 = .ok (.iload_n 2, 1) := by decide +kernel
theorem own_d14_7 : decode jdk_38_method_6_code 7 = .ok (.ifCond .gt 13, 3) := by decide +kernel
theorem own_d14_10 : decode jdk_38_method_6_code 10 = .ok (.aload_n 0, 1) := by decide +kernel
theorem own_d14_11 : decode jdk_38_method_6_code 11 = .ok (.getfield 9, 3) := by decide +kernel
theorem own_d14_14 : decode jdk_38_method_6_code 14 = .ok (.getstatic 39, 3) := by decide +kernel
theorem own_d14_17 : decode jdk_38_method_6_code 17 = .ok (.if_acmp .eq 28, 3) := by decide +kernel
theorem own_d14_45 : decode jdk_38_method_6_code 45 = .ok (.aload_n 0, 1) := by decide +kernel
theorem own_d14_46 : decode jdk_38_method_6_code 46 = .ok (.bipush 10, 2) := by decide +kernel
theorem own_d14_48 : decode jdk_38_method_6_code 48 = .ok (.iload_n 1, 1) := by decide +kernel
theorem own_d14_49 : decode jdk_38_method_6_code 49 = .ok (.invokestatic 79, 3) := by decide +kernel
theorem own_pd4 : parseMethodDescriptor "(II)I" = some ⟨[.int, .int], some .int⟩ := by decide +kernel
theorem own_d14_52 : decode jdk_38_method_6_code 52 = .ok (.anewarray 7, 3) := by decide +kernel
theorem own_d14_55 : decode jdk_38_method_6_code 55 = .ok (.dup_x1, 1) := by decide +kernel
theorem own_d14_56 : decode jdk_38_method_6_code 56 = .ok (.putfield 9, 3) := by decide +kernel
theorem own_d14_59 : decode jdk_38_method_6_code 59 = .ok (.areturn, 1) := by decide +kernel
theorem own_d13_0 : decode jdk_38_method_7_code 0 = .ok (.aload_n 0, 1) := by decide +kernel
theorem own_d13_1 : decode jdk_38_method_7_code 1 = .ok (.aload_n 0, 1) := by decide +kernel
theorem own_d13_2 : decode jdk_38_method_7_code 2 = .ok (.getfield 48, 3) := by decide +kernel
theorem own_d13_5 : decode jdk_38_method_7_code 5 = .ok (.iconst 1, 1) := by decide +kernel
theorem own_d13_6 : decode jdk_38_method_7_code 6 = .ok (.iadd, 1) := by decide +kernel
theorem own_d13_7 : decode jdk_38_method_7_code 7 = .ok (.invokevirtual 69, 3) := by decide +kernel
theorem own_pd5 : parseMethodDescriptor "(I)[Ljava/lang/Object;" = some ⟨[.int], some (.array (.object "java/lang/Object"))⟩ := by decide +kernel
theorem own_d13_10 : decode jdk_38_method_7_code 10 = .ok (.areturn, 1) := by decide +kernel
theorem own_d12_0 : decode jdk_38_method_24_code 0 = .ok (.iload_n 3, 1) := by decide +kernel
theorem own_d12_1 : decode jdk_38_method_24_code 1 = .ok (.aload_n 2, 1) := by decide +kernel
theorem own_d12_2 : decode jdk_38_method_24_code 2 = .ok (.arraylength, 1) := by decide +kernel
theorem own_d12_3 : decode jdk_38_method_24_code 3 = .ok (.if_icmp .ne 8, 3) := by decide +kernel
theorem own_d12_11 : decode jdk_38_method_24_code 11 = .ok (.aload_n 2, 1) := by decide +kernel
theorem own_d12_12 : decode jdk_38_method_24_code 12 = .ok (.iload_n 3, 1) := by decide +kernel
theorem own_d12_13 : decode jdk_38_method_24_code 13 = .ok (.aload_n 1, 1) := by decide +kernel
theorem own_d12_14 : decode jdk_38_method_24_code 14 = .ok (.aastore, 1) := by decide +kernel
theorem own_d12_15 : decode jdk_38_method_24_code 15 = .ok (.aload_n 0, 1) := by decide +kernel
theorem own_d12_16 : decode jdk_38_method_24_code 16 = .ok (.iload_n 3, 1) := by decide +kernel
theorem own_d12_17 : decode jdk_38_method_24_code 17 = .ok (.iconst 1, 1) := by decide +kernel
theorem own_d12_18 : decode jdk_38_method_24_code 18 = .ok (.iadd, 1) := by decide +kernel
theorem own_d12_19 : decode jdk_38_method_24_code 19 = .ok (.putfield 48, 3) := by decide +kernel
theorem own_d12_22 : decode jdk_38_method_24_code 22 = .ok (.return_, 1) := by decide +kernel
theorem own_d12_6 : decode jdk_38_method_24_code 6 = .ok (.aload_n 0, 1) := by decide +kernel
theorem own_d12_7 : decode jdk_38_method_24_code 7 = .ok (.invokevirtual 129, 3) := by decide +kernel
theorem own_pd6 : parseMethodDescriptor "()[Ljava/lang/Object;" = some ⟨[], some (.array (.object "java/lang/Object"))⟩ := by decide +kernel
theorem own_d12_10 : decode jdk_38_method_24_code 10 = .ok (.astore_n 2, 1) := by decide +kernel
theorem own_d11_0 : decode jdk_38_method_25_code 0 = .ok (.aload_n 0, 1) := by decide +kernel
theorem own_d11_1 : decode jdk_38_method_25_code 1 = .ok (.dup, 1) := by decide +kernel
theorem own_d11_2 : decode jdk_38_method_25_code 2 = .ok (.getfield 63, 3) := by decide +kernel
theorem own_d11_5 : decode jdk_38_method_25_code 5 = .ok (.iconst 1, 1) := by decide +kernel
theorem own_d11_6 : decode jdk_38_method_25_code 6 = .ok (.iadd, 1) := by decide +kernel
theorem own_d11_7 : decode jdk_38_method_25_code 7 = .ok (.putfield 63, 3) := by decide +kernel
theorem own_d11_10 : decode jdk_38_method_25_code 10 = .ok (.aload_n 0, 1) := by decide +kernel
theorem own_d11_11 : decode jdk_38_method_25_code 11 = .ok (.aload_n 1, 1) := by decide +kernel
theorem own_d11_12 : decode jdk_38_method_25_code 12 = .ok (.aload_n 0, 1) := by decide +kernel
theorem own_d11_13 : decode jdk_38_method_25_code 13 = .ok (.getfield 9, 3) := by decide +kernel
theorem own_d11_16 : decode jdk_38_method_25_code 16 = .ok (.aload_n 0, 1) := by decide +kernel
theorem own_d11_17 : decode jdk_38_method_25_code 17 = .ok (.getfield 48, 3) := by decide +kernel
theorem own_d11_20 : decode jdk_38_method_25_code 20 = .ok (.invokevirtual 131, 3) := by decide +kernel
theorem own_pd7 : parseMethodDescriptor "(Ljava/lang/Object;[Ljava/lang/Object;I)V" = some ⟨[(.object "java/lang/Object"), (.array (.object "java/lang/Object")), .int], none⟩ := by decide +kernel
theorem own_d11_23 : decode jdk_38_method_25_code 23 = .ok (.iconst 1, 1) := by decide +kernel
theorem own_d11_24 : decode jdk_38_method_25_code 24 = .ok (.ireturn, 1) := by decide +kernel
theorem own_d31_0 : decode jdk_38_method_8_code 0 = .ok (.aload_n 0, 1) := by decide +kernel
theorem own_d31_1 : decode jdk_38_method_8_code 1 = .ok (.getfield 48, 3) := by decide +kernel
theorem own_d31_4 : decode jdk_38_method_8_code 4 = .ok (.ireturn, 1) := by decide +kernel
theorem own_d34_0 : decode jdk_41_method_11_code 0 = .ok (.iload_n 0, 1) := by decide +kernel
theorem own_d34_1 : decode jdk_41_method_11_code 1 = .ok (.ifCond .lt 8, 3) := by decide +kernel
theorem own_d34_4 : decode jdk_41_method_11_code 4 = .ok (.iload_n 0, 1) := by decide +kernel
theorem own_d34_5 : decode jdk_41_method_11_code 5 = .ok (.iload_n 1, 1) := by decide +kernel
theorem own_d34_6 : decode jdk_41_method_11_code 6 = .ok (.if_icmp .lt 10, 3) := by decide +kernel
theorem own_d34_16 : decode jdk_41_method_11_code 16 = .ok (.iload_n 0, 1) := by decide +kernel
theorem own_d34_17 : decode jdk_41_method_11_code 17 = .ok (.ireturn, 1) := by decide +kernel
theorem own_pn_34 : plainName "jdk/internal/util/Preconditions" = true := by first | (simp [plainName, overriddenIn]; done) | decide +kernel
theorem own_d33_0 : decode jdk_31_method_17_code 0 = .ok (.iload_n 0, 1) := by decide +kernel
theorem own_d33_1 : decode jdk_31_method_17_code 1 = .ok (.iload_n 1, 1) := by decide +kernel
theorem own_d33_2 : decode jdk_31_method_17_code 2 = .ok (.aconst_null, 1) := by decide +kernel
theorem own_d33_3 : decode jdk_31_method_17_code 3 = .ok (.invokestatic 105, 3) := by decide +kernel
theorem own_pd9 : parseMethodDescriptor "(IILjava/util/function/BiFunction;)I" = some ⟨[.int, .int, (.object "java/util/function/BiFunction")], some .int⟩ := by decide +kernel
theorem own_d33_6 : decode jdk_31_method_17_code 6 = .ok (.ireturn, 1) := by decide +kernel
theorem own_pn_33 : plainName "java/util/Objects" = true := by first | (simp [plainName, overriddenIn]; done) | decide +kernel
theorem own_d35_0 : decode jdk_38_method_18_code 0 = .ok (.aload_n 0, 1) := by decide +kernel
theorem own_d35_1 : decode jdk_38_method_18_code 1 = .ok (.getfield 9, 3) := by decide +kernel
theorem own_d35_4 : decode jdk_38_method_18_code 4 = .ok (.iload_n 1, 1) := by decide +kernel
theorem own_d35_5 : decode jdk_38_method_18_code 5 = .ok (.aaload, 1) := by decide +kernel
theorem own_d35_6 : decode jdk_38_method_18_code 6 = .ok (.areturn, 1) := by decide +kernel
theorem own_d32_0 : decode jdk_38_method_20_code 0 = .ok (.iload_n 1, 1) := by decide +kernel
theorem own_d32_1 : decode jdk_38_method_20_code 1 = .ok (.aload_n 0, 1) := by decide +kernel
theorem own_d32_2 : decode jdk_38_method_20_code 2 = .ok (.getfield 48, 3) := by decide +kernel
theorem own_d32_5 : decode jdk_38_method_20_code 5 = .ok (.invokestatic 118, 3) := by decide +kernel
theorem own_d32_8 : decode jdk_38_method_20_code 8 = .ok (.pop, 1) := by decide +kernel
theorem own_d32_9 : decode jdk_38_method_20_code 9 = .ok (.aload_n 0, 1) := by decide +kernel
theorem own_d32_10 : decode jdk_38_method_20_code 10 = .ok (.iload_n 1, 1) := by decide +kernel
theorem own_d32_11 : decode jdk_38_method_20_code 11 = .ok (.invokevirtual 123, 3) := by decide +kernel
theorem own_pd11 : parseMethodDescriptor "(I)Ljava/lang/Object;" = some ⟨[.int], some (.object "java/lang/Object")⟩ := by decide +kernel
theorem own_d32_14 : decode jdk_38_method_20_code 14 = .ok (.areturn, 1) := by decide +kernel
theorem own_d6_3 : decode jdk_52_method_21_code 3 = .ok (.iload 5, 2) := by decide +kernel
theorem own_d6_5 : decode jdk_52_method_21_code 5 = .ok (.iload 4, 2) := by decide +kernel
theorem own_d6_7 : decode jdk_52_method_21_code 7 = .ok (.if_icmp .ge 37, 3) := by decide +kernel
theorem own_d6_44 : decode jdk_52_method_21_code 44 = .ok (.iload 4, 2) := by decide +kernel
theorem own_d6_46 : decode jdk_52_method_21_code 46 = .ok (.ireturn, 1) := by decide +kernel
theorem own_d6_10 : decode jdk_52_method_21_code 10 = .ok (.aload_n 0, 1) := by decide +kernel
theorem own_d6_11 : decode jdk_52_method_21_code 11 = .ok (.iload_n 1, 1) := by decide +kernel
theorem own_d6_12 : decode jdk_52_method_21_code 12 = .ok (.caload, 1) := by decide +kernel
theorem own_d6_13 : decode jdk_52_method_21_code 13 = .ok (.istore 6, 2) := by decide +kernel
theorem own_d6_15 : decode jdk_52_method_21_code 15 = .ok (.iload 6, 2) := by decide +kernel
theorem own_d6_17 : decode jdk_52_method_21_code 17 = .ok (.sipush 255, 3) := by decide +kernel
theorem own_d6_20 : decode jdk_52_method_21_code 20 = .ok (.if_icmp .le 6, 3) := by decide +kernel
theorem own_d6_26 : decode jdk_52_method_21_code 26 = .ok (.aload_n 2, 1) := by decide +kernel
theorem own_d6_27 : decode jdk_52_method_21_code 27 = .ok (.iload_n 3, 1) := by decide +kernel
theorem own_d6_28 : decode jdk_52_method_21_code 28 = .ok (.iload 6, 2) := by decide +kernel
theorem own_d6_30 : decode jdk_52_method_21_code 30 = .ok (.i2b, 1) := by decide +kernel
theorem own_d6_31 : decode jdk_52_method_21_code 31 = .ok (.bastore, 1) := by decide +kernel
theorem own_d6_32 : decode jdk_52_method_21_code 32 = .ok (.iinc 1 1, 3) := by decide +kernel
theorem own_d6_35 : decode jdk_52_method_21_code 35 = .ok (.iinc 3 1, 3) := by decide +kernel
theorem own_d6_38 : decode jdk_52_method_21_code 38 = .ok (.iinc 5 1, 3) := by decide +kernel
theorem own_d6_41 : decode jdk_52_method_21_code 41 = .ok (.goto (-38), 3) := by decide +kernel
theorem own_d6_0 : decode jdk_52_method_21_code 0 = .ok (.iconst 0, 1) := by decide +kernel
theorem own_d6_1 : decode jdk_52_method_21_code 1 = .ok (.istore 5, 2) := by decide +kernel
theorem own_pn_6 : plainName "java/lang/StringUTF16" = true := by first | (simp [plainName, overriddenIn]; done) | decide +kernel
theorem own_d5_0 : decode jdk_52_method_16_code 0 = .ok (.iload_n 2, 1) := by decide +kernel
theorem own_d5_1 : decode jdk_52_method_16_code 1 = .ok (.newarray .byte, 2) := by decide +kernel
theorem own_d5_3 : decode jdk_52_method_16_code 3 = .ok (.astore_n 3, 1) := by decide +kernel
theorem own_d5_4 : decode jdk_52_method_16_code 4 = .ok (.aload_n 0, 1) := by decide +kernel
theorem own_d5_5 : decode jdk_52_method_16_code 5 = .ok (.iload_n 1, 1) := by decide +kernel
theorem own_d5_6 : decode jdk_52_method_16_code 6 = .ok (.aload_n 3, 1) := by decide +kernel
theorem own_d5_7 : decode jdk_52_method_16_code 7 = .ok (.iconst 0, 1) := by decide +kernel
theorem own_d5_8 : decode jdk_52_method_16_code 8 = .ok (.iload_n 2, 1) := by decide +kernel
theorem own_d5_9 : decode jdk_52_method_16_code 9 = .ok (.invokestatic 115, 3) := by decide +kernel
theorem own_pd13 : parseMethodDescriptor "([CI[BII)I" = some ⟨[(.array .char), .int, (.array .byte), .int, .int], some .int⟩ := by decide +kernel
theorem own_d5_12 : decode jdk_52_method_16_code 12 = .ok (.istore 4, 2) := by decide +kernel
theorem own_d5_14 : decode jdk_52_method_16_code 14 = .ok (.iload 4, 2) := by decide +kernel
theorem own_d5_16 : decode jdk_52_method_16_code 16 = .ok (.iload_n 2, 1) := by decide +kernel
theorem own_d5_17 : decode jdk_52_method_16_code 17 = .ok (.if_icmp .eq 40, 3) := by decide +kernel
theorem own_d5_57 : decode jdk_52_method_16_code 57 = .ok (.aload_n 3, 1) := by decide +kernel
theorem own_d5_58 : decode jdk_52_method_16_code 58 = .ok (.areturn, 1) := by decide +kernel
theorem own_d7_0 : decode jdk_52_method_15_code 0 = .ok (.iload_n 1, 1) := by decide +kernel
theorem own_d7_1 : decode jdk_52_method_15_code 1 = .ok (.aload_n 0, 1) := by decide +kernel
theorem own_d7_2 : decode jdk_52_method_15_code 2 = .ok (.arraylength, 1) := by decide +kernel
theorem own_d7_3 : decode jdk_52_method_15_code 3 = .ok (.isub, 1) := by decide +kernel
theorem own_d7_4 : decode jdk_52_method_15_code 4 = .ok (.bipush 31, 2) := by decide +kernel
theorem own_d7_6 : decode jdk_52_method_15_code 6 = .ok (.iushr, 1) := by decide +kernel
theorem own_d7_7 : decode jdk_52_method_15_code 7 = .ok (.i2b, 1) := by decide +kernel
theorem own_d7_8 : decode jdk_52_method_15_code 8 = .ok (.ireturn, 1) := by decide +kernel
theorem own_d3_0 : decode jdk_42_method_149_code 0 = .ok (.aload_n 0, 1) := by decide +kernel
theorem own_d3_1 : decode jdk_42_method_149_code 1 = .ok (.invokespecial 1, 3) := by decide +kernel
theorem own_d3_4 : decode jdk_42_method_149_code 4 = .ok (.iload_n 3, 1) := by decide +kernel
theorem own_d3_5 : decode jdk_42_method_149_code 5 = .ok (.ifCond .ne 22, 3) := by decide +kernel
theorem own_d3_27 : decode jdk_42_method_149_code 27 = .ok (.getstatic 38, 3) := by decide +kernel
theorem own_d3_30 : decode jdk_42_method_149_code 30 = .ok (.ifCond .eq 28, 3) := by decide +kernel
theorem own_d3_33 : decode jdk_42_method_149_code 33 = .ok (.aload_n 1, 1) := by decide +kernel
theorem own_d3_34 : decode jdk_42_method_149_code 34 = .ok (.iload_n 2, 1) := by decide +kernel
theorem own_d3_35 : decode jdk_42_method_149_code 35 = .ok (.iload_n 3, 1) := by decide +kernel
theorem own_d3_36 : decode jdk_42_method_149_code 36 = .ok (.invokestatic 177, 3) := by decide +kernel
theorem own_pd14 : parseMethodDescriptor "([CII)[B" = some ⟨[(.array .char), .int, .int], some (.array .byte)⟩ := by decide +kernel
theorem own_d3_39 : decode jdk_42_method_149_code 39 = .ok (.astore 5, 2) := by decide +kernel
theorem own_d3_41 : decode jdk_42_method_149_code 41 = .ok (.aload_n 0, 1) := by decide +kernel
theorem own_d3_42 : decode jdk_42_method_149_code 42 = .ok (.aload 5, 2) := by decide +kernel
theorem own_d3_44 : decode jdk_42_method_149_code 44 = .ok (.iload_n 3, 1) := by decide +kernel
theorem own_d3_45 : decode jdk_42_method_149_code 45 = .ok (.invokestatic 47, 3) := by decide +kernel
theorem own_pd15 : parseMethodDescriptor "([BI)B" = some ⟨[(.array .byte), .int], some .byte⟩ := by decide +kernel
theorem own_d3_48 : decode jdk_42_method_149_code 48 = .ok (.putfield 15, 3) := by decide +kernel
theorem own_d3_51 : decode jdk_42_method_149_code 51 = .ok (.aload_n 0, 1) := by decide +kernel
theorem own_d3_52 : decode jdk_42_method_149_code 52 = .ok (.aload 5, 2) := by decide +kernel
theorem own_d3_54 : decode jdk_42_method_149_code 54 = .ok (.putfield 9, 3) := by decide +kernel
theorem own_d3_57 : decode jdk_42_method_149_code 57 = .ok (.return_, 1) := by decide +kernel
theorem own_pn_3 : plainName "java/lang/String" = true := by first | (simp [plainName, overriddenIn]; done) | decide +kernel
theorem own_d2_0 : decode jdk_42_method_3_code 0 = .ok (.aload_n 0, 1) := by decide +kernel
theorem own_d2_1 : decode jdk_42_method_3_code 1 = .ok (.aload_n 1, 1) := by decide +kernel
theorem own_d2_2 : decode jdk_42_method_3_code 2 = .ok (.iconst 0, 1) := by decide +kernel
theorem own_d2_3 : decode jdk_42_method_3_code 3 = .ok (.aload_n 1, 1) := by decide +kernel
theorem own_d2_4 : decode jdk_42_method_3_code 4 = .ok (.arraylength, 1) := by decide +kernel
theorem own_d2_5 : decode jdk_42_method_3_code 5 = .ok (.aconst_null, 1) := by decide +kernel
theorem own_d2_6 : decode jdk_42_method_3_code 6 = .ok (.invokespecial 27, 3) := by decide +kernel
theorem own_pd17 : parseMethodDescriptor "([CIILjava/lang/Void;)V" = some ⟨[(.array .char), .int, .int, (.object "java/lang/Void")], none⟩ := by decide +kernel
theorem own_d2_9 : decode jdk_42_method_3_code 9 = .ok (.return_, 1) := by decide +kernel
theorem own_d27_0 : decode jdk_42_method_152_code 0 = .ok (.getstatic 38, 3) := by decide +kernel
theorem own_d27_3 : decode jdk_42_method_152_code 3 = .ok (.ifCond .eq 10, 3) := by decide +kernel
theorem own_d27_6 : decode jdk_42_method_152_code 6 = .ok (.aload_n 0, 1) := by decide +kernel
theorem own_d27_7 : decode jdk_42_method_152_code 7 = .ok (.getfield 15, 3) := by decide +kernel
theorem own_d27_10 : decode jdk_42_method_152_code 10 = .ok (.goto 4, 3) := by decide +kernel
theorem own_d27_14 : decode jdk_42_method_152_code 14 = .ok (.ireturn, 1) := by decide +kernel
theorem own_d26_0 : decode jdk_42_method_54_code 0 = .ok (.aload_n 0, 1) := by decide +kernel
theorem own_d26_1 : decode jdk_42_method_54_code 1 = .ok (.getfield 9, 3) := by decide +kernel
theorem own_d26_4 : decode jdk_42_method_54_code 4 = .ok (.arraylength, 1) := by decide +kernel
theorem own_d26_5 : decode jdk_42_method_54_code 5 = .ok (.aload_n 0, 1) := by decide +kernel
theorem own_d26_6 : decode jdk_42_method_54_code 6 = .ok (.invokevirtual 335, 3) := by decide +kernel
theorem own_pd18 : parseMethodDescriptor "()B" = some ⟨[], some .byte⟩ := by decide +kernel
theorem own_d26_9 : decode jdk_42_method_54_code 9 = .ok (.ishr, 1) := by decide +kernel
theorem own_d26_10 : decode jdk_42_method_54_code 10 = .ok (.ireturn, 1) := by decide +kernel
theorem own_d28_0 : decode jdk_48_method_14_code 0 = .ok (.iconst 0, 1) := by decide +kernel
theorem own_d28_1 : decode jdk_48_method_14_code 1 = .ok (.istore 5, 2) := by decide +kernel
theorem own_d28_3 : decode jdk_48_method_14_code 3 = .ok (.iload 4, 2) := by decide +kernel
theorem own_d28_5 : decode jdk_48_method_14_code 5 = .ok (.bipush 7, 2) := by decide +kernel
theorem own_d28_7 : decode jdk_48_method_14_code 7 = .ok (.if_icmp .le 63, 3) := by decide +kernel
theorem own_d28_70 : decode jdk_48_method_14_code 70 = .ok (.iload 5, 2) := by decide +kernel
theorem own_d28_72 : decode jdk_48_method_14_code 72 = .ok (.iload 4, 2) := by decide +kernel
theorem own_d28_74 : decode jdk_48_method_14_code 74 = .ok (.if_icmp .ge 27, 3) := by decide +kernel
theorem own_d28_77 : decode jdk_48_method_14_code 77 = .ok (.aload_n 0, 1) := by decide +kernel
theorem own_d28_78 : decode jdk_48_method_14_code 78 = .ok (.iload_n 1, 1) := by decide +kernel
theorem own_d28_79 : decode jdk_48_method_14_code 79 = .ok (.iload 5, 2) := by decide +kernel
theorem own_d28_81 : decode jdk_48_method_14_code 81 = .ok (.iadd, 1) := by decide +kernel
theorem own_d28_82 : decode jdk_48_method_14_code 82 = .ok (.baload, 1) := by decide +kernel
theorem own_d28_83 : decode jdk_48_method_14_code 83 = .ok (.aload_n 2, 1) := by decide +kernel
theorem own_d28_84 : decode jdk_48_method_14_code 84 = .ok (.iload_n 3, 1) := by decide +kernel
theorem own_d28_85 : decode jdk_48_method_14_code 85 = .ok (.iload 5, 2) := by decide +kernel
theorem own_d28_87 : decode jdk_48_method_14_code 87 = .ok (.iadd, 1) := by decide +kernel
theorem own_d28_88 : decode jdk_48_method_14_code 88 = .ok (.baload, 1) := by decide +kernel
theorem own_d28_89 : decode jdk_48_method_14_code 89 = .ok (.if_icmp .eq 6, 3) := by decide +kernel
theorem own_d28_92 : decode jdk_48_method_14_code 92 = .ok (.iload 5, 2) := by decide +kernel
theorem own_d28_94 : decode jdk_48_method_14_code 94 = .ok (.ireturn, 1) := by decide +kernel
theorem own_pn_28 : plainName "jdk/internal/util/ArraysSupport" = true := by first | (simp [plainName, overriddenIn]; done) | decide +kernel
theorem own_d25_0 : decode jdk_42_method_75_code 0 = .ok (.iload_n 2, 1) := by decide +kernel
theorem own_d25_1 : decode jdk_42_method_75_code 1 = .ok (.ifCond .lt 16, 3) := by decide +kernel
theorem own_d25_4 : decode jdk_42_method_75_code 4 = .ok (.iload_n 2, 1) := by decide +kernel
theorem own_d25_5 : decode jdk_42_method_75_code 5 = .ok (.aload_n 0, 1) := by decide +kernel
theorem own_d25_6 : decode jdk_42_method_75_code 6 = .ok (.invokevirtual 505, 3) := by decide +kernel
theorem own_pd20 : parseMethodDescriptor "()I" = some ⟨[], some .int⟩ := by decide +kernel
theorem own_d25_9 : decode jdk_42_method_75_code 9 = .ok (.aload_n 1, 1) := by decide +kernel
theorem own_d25_10 : decode jdk_42_method_75_code 10 = .ok (.invokevirtual 505, 3) := by decide +kernel
theorem own_d25_13 : decode jdk_42_method_75_code 13 = .ok (.isub, 1) := by decide +kernel
theorem own_d25_14 : decode jdk_42_method_75_code 14 = .ok (.if_icmp .le 5, 3) := by decide +kernel
theorem own_d25_19 : decode jdk_42_method_75_code 19 = .ok (.aload_n 0, 1) := by decide +kernel
theorem own_d25_20 : decode jdk_42_method_75_code 20 = .ok (.getfield 9, 3) := by decide +kernel
theorem own_d25_23 : decode jdk_42_method_75_code 23 = .ok (.astore_n 3, 1) := by decide +kernel
theorem own_d25_24 : decode jdk_42_method_75_code 24 = .ok (.aload_n 1, 1) := by decide +kernel
theorem own_d25_25 : decode jdk_42_method_75_code 25 = .ok (.getfield 9, 3) := by decide +kernel
theorem own_d25_28 : decode jdk_42_method_75_code 28 = .ok (.astore 4, 2) := by decide +kernel
theorem own_d25_30 : decode jdk_42_method_75_code 30 = .ok (.iconst 0, 1) := by decide +kernel
theorem own_d25_31 : decode jdk_42_method_75_code 31 = .ok (.istore 5, 2) := by decide +kernel
theorem own_d25_33 : decode jdk_42_method_75_code 33 = .ok (.aload 4, 2) := by decide +kernel
theorem own_d25_35 : decode jdk_42_method_75_code 35 = .ok (.arraylength, 1) := by decide +kernel
theorem own_d25_36 : decode jdk_42_method_75_code 36 = .ok (.istore 6, 2) := by decide +kernel
theorem own_d25_38 : decode jdk_42_method_75_code 38 = .ok (.aload_n 0, 1) := by decide +kernel
theorem own_d25_39 : decode jdk_42_method_75_code 39 = .ok (.invokevirtual 335, 3) := by decide +kernel
theorem own_d25_42 : decode jdk_42_method_75_code 42 = .ok (.istore 7, 2) := by decide +kernel
theorem own_d25_44 : decode jdk_42_method_75_code 44 = .ok (.iload 7, 2) := by decide +kernel
theorem own_d25_46 : decode jdk_42_method_75_code 46 = .ok (.aload_n 1, 1) := by decide +kernel
theorem own_d25_47 : decode jdk_42_method_75_code 47 = .ok (.invokevirtual 335, 3) := by decide +kernel
theorem own_d25_50 : decode jdk_42_method_75_code 50 = .ok (.if_icmp .ne 32, 3) := by decide +kernel
theorem own_d25_53 : decode jdk_42_method_75_code 53 = .ok (.iload 7, 2) := by decide +kernel
theorem own_d25_55 : decode jdk_42_method_75_code 55 = .ok (.iconst 1, 1) := by decide +kernel
theorem own_d25_56 : decode jdk_42_method_75_code 56 = .ok (.if_icmp .ne 7, 3) := by decide +kernel
theorem own_d25_63 : decode jdk_42_method_75_code 63 = .ok (.aload_n 3, 1) := by decide +kernel
theorem own_d25_64 : decode jdk_42_method_75_code 64 = .ok (.iload_n 2, 1) := by decide +kernel
theorem own_d25_65 : decode jdk_42_method_75_code 65 = .ok (.aload 4, 2) := by decide +kernel
theorem own_d25_67 : decode jdk_42_method_75_code 67 = .ok (.iconst 0, 1) := by decide +kernel
theorem own_d25_68 : decode jdk_42_method_75_code 68 = .ok (.iload 6, 2) := by decide +kernel
theorem own_d25_70 : decode jdk_42_method_75_code 70 = .ok (.invokestatic 607, 3) := by decide +kernel
theorem own_pd21 : parseMethodDescriptor "([BI[BII)I" = some ⟨[(.array .byte), .int, (.array .byte), .int, .int], some .int⟩ := by decide +kernel
theorem own_d25_73 : decode jdk_42_method_75_code 73 = .ok (.ifCond .ge 7, 3) := by decide +kernel
theorem own_d25_80 : decode jdk_42_method_75_code 80 = .ok (.iconst 0, 1) := by decide +kernel
theorem own_d25_81 : decode jdk_42_method_75_code 81 = .ok (.ireturn, 1) := by decide +kernel
theorem own_d25_17 : decode jdk_42_method_75_code 17 = .ok (.iconst 0, 1) := by decide +kernel
theorem own_d25_18 : decode jdk_42_method_75_code 18 = .ok (.ireturn, 1) := by decide +kernel
theorem own_d24_0 : decode jdk_42_method_76_code 0 = .ok (.aload_n 0, 1) := by decide +kernel
theorem own_d24_1 : decode jdk_42_method_76_code 1 = .ok (.aload_n 1, 1) := by decide +kernel
theorem own_d24_2 : decode jdk_42_method_76_code 2 = .ok (.iconst 0, 1) := by decide +kernel
theorem own_d24_3 : decode jdk_42_method_76_code 3 = .ok (.invokevirtual 624, 3) := by decide +kernel
theorem own_pd22 : parseMethodDescriptor "(Ljava/lang/String;I)Z" = some ⟨[(.object "java/lang/String"), .int], some .boolean⟩ := by decide +kernel
theorem own_d24_6 : decode jdk_42_method_76_code 6 = .ok (.ireturn, 1) := by decide +kernel
theorem own_d20_0 : decode jdk_49_method_1_code 0 = .ok (.aload_n 0, 1) := by decide +kernel
theorem own_d20_1 : decode jdk_49_method_1_code 1 = .ok (.aload_n 1, 1) := by decide +kernel
theorem own_d20_2 : decode jdk_49_method_1_code 2 = .ok (.putfield 1, 3) := by decide +kernel
theorem own_d20_5 : decode jdk_49_method_1_code 5 = .ok (.aload_n 0, 1) := by decide +kernel
theorem own_d20_6 : decode jdk_49_method_1_code 6 = .ok (.invokespecial 7, 3) := by decide +kernel
theorem own_d20_9 : decode jdk_49_method_1_code 9 = .ok (.aload_n 0, 1) := by decide +kernel
theorem own_d20_10 : decode jdk_49_method_1_code 10 = .ok (.iconst (-1), 1) := by decide +kernel
theorem own_d20_11 : decode jdk_49_method_1_code 11 = .ok (.putfield 13, 3) := by decide +kernel
theorem own_d20_14 : decode jdk_49_method_1_code 14 = .ok (.aload_n 0, 1) := by decide +kernel
theorem own_d20_15 : decode jdk_49_method_1_code 15 = .ok (.aload_n 0, 1) := by decide +kernel
theorem own_d20_16 : decode jdk_49_method_1_code 16 = .ok (.getfield 1, 3) := by decide +kernel
theorem own_d20_19 : decode jdk_49_method_1_code 19 = .ok (.getfield 17, 3) := by decide +kernel
theorem own_d20_22 : decode jdk_49_method_1_code 22 = .ok (.putfield 22, 3) := by decide +kernel
theorem own_d20_25 : decode jdk_49_method_1_code 25 = .ok (.return_, 1) := by decide +kernel
theorem own_pn_20 : plainName "java/util/ArrayList$Itr" = true := by first | (simp [plainName, overriddenIn]; done) | decide +kernel
theorem own_d19_0 : decode jdk_38_method_55_code 0 = .ok (.new 267, 3) := by decide +kernel
theorem own_d19_3 : decode jdk_38_method_55_code 3 = .ok (.dup, 1) := by decide +kernel
theorem own_d19_4 : decode jdk_38_method_55_code 4 = .ok (.aload_n 0, 1) := by decide +kernel
theorem own_d19_5 : decode jdk_38_method_55_code 5 = .ok (.invokespecial 269, 3) := by decide +kernel
theorem own_pd24 : parseMethodDescriptor "(Ljava/util/ArrayList;)V" = some ⟨[(.object "java/util/ArrayList")], none⟩ := by decide +kernel
theorem own_d19_8 : decode jdk_38_method_55_code 8 = .ok (.areturn, 1) := by decide +kernel
theorem own_d21_0 : decode jdk_49_method_2_code 0 = .ok (.aload_n 0, 1) := by decide +kernel
theorem own_d21_1 : decode jdk_49_method_2_code 1 = .ok (.getfield 25, 3) := by decide +kernel
theorem own_d21_4 : decode jdk_49_method_2_code 4 = .ok (.aload_n 0, 1) := by decide +kernel
theorem own_d21_5 : decode jdk_49_method_2_code 5 = .ok (.getfield 1, 3) := by decide +kernel
theorem own_d21_8 : decode jdk_49_method_2_code 8 = .ok (.getfield 28, 3) := by decide +kernel
theorem own_d21_11 : decode jdk_49_method_2_code 11 = .ok (.if_icmp .eq 7, 3) := by decide +kernel
theorem own_d21_18 : decode jdk_49_method_2_code 18 = .ok (.iconst 0, 1) := by decide +kernel
theorem own_d21_19 : decode jdk_49_method_2_code 19 = .ok (.ireturn, 1) := by decide +kernel
theorem own_d21_14 : decode jdk_49_method_2_code 14 = .ok (.iconst 1, 1) := by decide +kernel
theorem own_d21_15 : decode jdk_49_method_2_code 15 = .ok (.goto 4, 3) := by decide +kernel
theorem own_d23_0 : decode jdk_49_method_6_code 0 = .ok (.aload_n 0, 1) := by decide +kernel
theorem own_d23_1 : decode jdk_49_method_6_code 1 = .ok (.getfield 1, 3) := by decide +kernel
theorem own_d23_4 : decode jdk_49_method_6_code 4 = .ok (.getfield 17, 3) := by decide +kernel
theorem own_d23_7 : decode jdk_49_method_6_code 7 = .ok (.aload_n 0, 1) := by decide +kernel
theorem own_d23_8 : decode jdk_49_method_6_code 8 = .ok (.getfield 22, 3) := by decide +kernel
theorem own_d23_11 : decode jdk_49_method_6_code 11 = .ok (.if_icmp .eq 11, 3) := by decide +kernel
theorem own_d23_22 : decode jdk_49_method_6_code 22 = .ok (.return_, 1) := by decide +kernel
theorem own_d22_0 : decode jdk_49_method_3_code 0 = .ok (.aload_n 0, 1) := by decide +kernel
theorem own_d22_1 : decode jdk_49_method_3_code 1 = .ok (.invokevirtual 31, 3) := by decide +kernel
theorem own_d22_4 : decode jdk_49_method_3_code 4 = .ok (.aload_n 0, 1) := by decide +kernel
theorem own_d22_5 : decode jdk_49_method_3_code 5 = .ok (.getfield 25, 3) := by decide +kernel
theorem own_d22_8 : decode jdk_49_method_3_code 8 = .ok (.istore_n 1, 1) := by decide +kernel
theorem own_d22_9 : decode jdk_49_method_3_code 9 = .ok (.iload_n 1, 1) := by decide +kernel
theorem own_d22_10 : decode jdk_49_method_3_code 10 = .ok (.aload_n 0, 1) := by decide +kernel
theorem own_d22_11 : decode jdk_49_method_3_code 11 = .ok (.getfield 1, 3) := by decide +kernel
theorem own_d22_14 : decode jdk_49_method_3_code 14 = .ok (.getfield 28, 3) := by decide +kernel
theorem own_d22_17 : decode jdk_49_method_3_code 17 = .ok (.if_icmp .lt 11, 3) := by decide +kernel
theorem own_d22_28 : decode jdk_49_method_3_code 28 = .ok (.aload_n 0, 1) := by decide +kernel
theorem own_d22_29 : decode jdk_49_method_3_code 29 = .ok (.getfield 1, 3) := by decide +kernel
theorem own_d22_32 : decode jdk_49_method_3_code 32 = .ok (.getfield 37, 3) := by decide +kernel
theorem own_d22_35 : decode jdk_49_method_3_code 35 = .ok (.astore_n 2, 1) := by decide +kernel
theorem own_d22_36 : decode jdk_49_method_3_code 36 = .ok (.iload_n 1, 1) := by decide +kernel
theorem own_d22_37 : decode jdk_49_method_3_code 37 = .ok (.aload_n 2, 1) := by decide +kernel
theorem own_d22_38 : decode jdk_49_method_3_code 38 = .ok (.arraylength, 1) := by decide +kernel
theorem own_d22_39 : decode jdk_49_method_3_code 39 = .ok (.if_icmp .lt 11, 3) := by decide +kernel
theorem own_d22_50 : decode jdk_49_method_3_code 50 = .ok (.aload_n 0, 1) := by decide +kernel
theorem own_d22_51 : decode jdk_49_method_3_code 51 = .ok (.iload_n 1, 1) := by decide +kernel
theorem own_d22_52 : decode jdk_49_method_3_code 52 = .ok (.iconst 1, 1) := by decide +kernel
theorem own_d22_53 : decode jdk_49_method_3_code 53 = .ok (.iadd, 1) := by decide +kernel
theorem own_d22_54 : decode jdk_49_method_3_code 54 = .ok (.putfield 25, 3) := by decide +kernel
theorem own_d22_57 : decode jdk_49_method_3_code 57 = .ok (.aload_n 2, 1) := by decide +kernel
theorem own_d22_58 : decode jdk_49_method_3_code 58 = .ok (.aload_n 0, 1) := by decide +kernel
theorem own_d22_59 : decode jdk_49_method_3_code 59 = .ok (.iload_n 1, 1) := by decide +kernel
theorem own_d22_60 : decode jdk_49_method_3_code 60 = .ok (.dup_x1, 1) := by decide +kernel
theorem own_d22_61 : decode jdk_49_method_3_code 61 = .ok (.putfield 13, 3) := by decide +kernel
theorem own_d22_64 : decode jdk_49_method_3_code 64 = .ok (.aaload, 1) := by decide +kernel
theorem own_d22_65 : decode jdk_49_method_3_code 65 = .ok (.areturn, 1) := by decide +kernel
theorem own_d18_0 : decode jdk_71_method_1_code 0 = .ok (.aload_n 0, 1) := by decide +kernel
theorem own_d18_1 : decode jdk_71_method_1_code 1 = .ok (.invokespecial 1, 3) := by decide +kernel
theorem own_d18_4 : decode jdk_71_method_1_code 4 = .ok (.return_, 1) := by decide +kernel
theorem own_pn_18 : plainName "java/util/AbstractMap" = true := by first | (simp [plainName, overriddenIn]; done) | decide +kernel
theorem own_d17_0 : decode jdk_69_method_7_code 0 = .ok (.aload_n 0, 1) := by decide +kernel
theorem own_d17_1 : decode jdk_69_method_7_code 1 = .ok (.invokespecial 43, 3) := by decide +kernel
theorem own_d17_4 : decode jdk_69_method_7_code 4 = .ok (.aload_n 0, 1) := by decide +kernel
theorem own_d17_5 : decode jdk_69_method_7_code 5 = .ok (.ldc 92, 2) := by decide +kernel
theorem own_d17_7 : decode jdk_69_method_7_code 7 = .ok (.putfield 81, 3) := by decide +kernel
theorem own_d17_10 : decode jdk_69_method_7_code 10 = .ok (.return_, 1) := by decide +kernel
theorem own_pn_17 : plainName "java/util/HashMap" = true := by first | (simp [plainName, overriddenIn]; done) | decide +kernel
theorem own_d30_0 : decode jdk_38_method_9_code 0 = .ok (.aload_n 0, 1) := by decide +kernel
theorem own_d30_1 : decode jdk_38_method_9_code 1 = .ok (.getfield 48, 3) := by decide +kernel
theorem own_d30_4 : decode jdk_38_method_9_code 4 = .ok (.ifCond .ne 7, 3) := by decide +kernel
theorem own_d30_11 : decode jdk_38_method_9_code 11 = .ok (.iconst 0, 1) := by decide +kernel
theorem own_d30_12 : decode jdk_38_method_9_code 12 = .ok (.ireturn, 1) := by decide +kernel
theorem own_d30_7 : decode jdk_38_method_9_code 7 = .ok (.iconst 1, 1) := by decide +kernel
theorem own_d30_8 : decode jdk_38_method_9_code 8 = .ok (.goto 4, 3) := by decide +kernel
theorem own_d29_0 : decode prog_1_method_2_code 0 = .ok (.aload_n 0, 1) := by decide +kernel
theorem own_d29_1 : decode prog_1_method_2_code 1 = .ok (.getfield 10, 3) := by decide +kernel
theorem own_d29_4 : decode prog_1_method_2_code 4 = .ok (.invokeinterface 73 1, 5) := by decide +kernel
theorem own_pd27 : parseMethodDescriptor "()Z" = some ⟨[], some .boolean⟩ := by decide +kernel
theorem own_d29_9 : decode prog_1_method_2_code 9 = .ok (.ifCond .eq 17, 3) := by decide +kernel
theorem own_d29_26 : decode prog_1_method_2_code 26 = .ok (.aload_n 0, 1) := by decide +kernel
theorem own_d29_27 : decode prog_1_method_2_code 27 = .ok (.getfield 10, 3) := by decide +kernel
theorem own_d29_30 : decode prog_1_method_2_code 30 = .ok (.invokeinterface 77 1, 5) := by decide +kernel
theorem own_d29_35 : decode prog_1_method_2_code 35 = .ok (.iconst 1, 1) := by decide +kernel
theorem own_d29_36 : decode prog_1_method_2_code 36 = .ok (.if_icmp .le 29, 3) := by decide +kernel
theorem own_d29_65 : decode prog_1_method_2_code 65 = .ok (.aload_n 0, 1) := by decide +kernel
theorem own_d29_66 : decode prog_1_method_2_code 66 = .ok (.getfield 10, 3) := by decide +kernel
theorem own_d29_69 : decode prog_1_method_2_code 69 = .ok (.iconst 0, 1) := by decide +kernel
theorem own_d29_70 : decode prog_1_method_2_code 70 = .ok (.invokeinterface 81 2, 5) := by decide +kernel
theorem own_d29_75 : decode prog_1_method_2_code 75 = .ok (.checkcast 39, 3) := by decide +kernel
theorem own_d29_78 : decode prog_1_method_2_code 78 = .ok (.areturn, 1) := by decide +kernel
theorem own_pn_29 : plainName "com/example/nextfront/nextfront/cli/Arguments" = true := by first | (simp [plainName, overriddenIn]; done) | decide +kernel
theorem own_d36_0 : decode jdk_42_method_66_code 0 = .ok (.aload_n 0, 1) := by decide +kernel
theorem own_d36_1 : decode jdk_42_method_66_code 1 = .ok (.aload_n 1, 1) := by decide +kernel
theorem own_d36_2 : decode jdk_42_method_66_code 2 = .ok (.if_acmp .ne 5, 3) := by decide +kernel
theorem own_d36_5 : decode jdk_42_method_66_code 5 = .ok (.iconst 1, 1) := by decide +kernel
theorem own_d36_6 : decode jdk_42_method_66_code 6 = .ok (.ireturn, 1) := by decide +kernel
theorem own_d1_0 : decode method_2_code 0 = .ok (.iload_n 0, 1) := by decide +kernel
theorem own_d1_1 : decode method_2_code 1 = .ok (.ifCond .ne 14, 3) := by decide +kernel
theorem own_d1_15 : decode method_2_code 15 = .ok (.iload_n 0, 1) := by decide +kernel
theorem own_d1_16 : decode method_2_code 16 = .ok (.iconst 1, 1) := by decide +kernel
theorem own_d1_17 : decode method_2_code 17 = .ok (.if_icmp .ne 18, 3) := by decide +kernel
theorem own_d1_20 : decode method_2_code 20 = .ok (.new 7, 3) := by decide +kernel
theorem own_d1_23 : decode method_2_code 23 = .ok (.dup, 1) := by decide +kernel
theorem own_d1_24 : decode method_2_code 24 = .ok (.iconst 1, 1) := by decide +kernel
theorem own_d1_25 : decode method_2_code 25 = .ok (.newarray .char, 2) := by decide +kernel
theorem own_d1_27 : decode method_2_code 27 = .ok (.dup, 1) := by decide +kernel
theorem own_d1_28 : decode method_2_code 28 = .ok (.iconst 0, 1) := by decide +kernel
theorem own_d1_29 : decode method_2_code 29 = .ok (.iload_n 1, 1) := by decide +kernel
theorem own_d1_30 : decode method_2_code 30 = .ok (.castore, 1) := by decide +kernel
theorem own_d1_31 : decode method_2_code 31 = .ok (.invokespecial 9, 3) := by decide +kernel
theorem own_pd29 : parseMethodDescriptor "([C)V" = some ⟨[(.array .char)], none⟩ := by decide +kernel
theorem own_d1_34 : decode method_2_code 34 = .ok (.areturn, 1) := by decide +kernel
theorem own_pn_1 : plainName "com/example/nextfront/nextfront/cli/ArgumentsOnlyPositionalPinLaw" = true := by first | (simp [plainName, overriddenIn]; done) | decide +kernel
theorem own_d1_35 : decode method_2_code 35 = .ok (.iload_n 0, 1) := by decide +kernel
theorem own_d1_36 : decode method_2_code 36 = .ok (.iconst 2, 1) := by decide +kernel
theorem own_d1_37 : decode method_2_code 37 = .ok (.if_icmp .ne 22, 3) := by decide +kernel
theorem own_d1_40 : decode method_2_code 40 = .ok (.new 7, 3) := by decide +kernel
theorem own_d1_43 : decode method_2_code 43 = .ok (.dup, 1) := by decide +kernel
theorem own_d1_44 : decode method_2_code 44 = .ok (.iconst 2, 1) := by decide +kernel
theorem own_d1_45 : decode method_2_code 45 = .ok (.newarray .char, 2) := by decide +kernel
theorem own_d1_47 : decode method_2_code 47 = .ok (.dup, 1) := by decide +kernel
theorem own_d1_48 : decode method_2_code 48 = .ok (.iconst 0, 1) := by decide +kernel
theorem own_d1_49 : decode method_2_code 49 = .ok (.iload_n 1, 1) := by decide +kernel
theorem own_d1_50 : decode method_2_code 50 = .ok (.castore, 1) := by decide +kernel
theorem own_d1_51 : decode method_2_code 51 = .ok (.dup, 1) := by decide +kernel
theorem own_d1_52 : decode method_2_code 52 = .ok (.iconst 1, 1) := by decide +kernel
theorem own_d1_53 : decode method_2_code 53 = .ok (.iload_n 2, 1) := by decide +kernel
theorem own_d1_54 : decode method_2_code 54 = .ok (.castore, 1) := by decide +kernel
theorem own_d1_55 : decode method_2_code 55 = .ok (.invokespecial 9, 3) := by decide +kernel
theorem own_d1_58 : decode method_2_code 58 = .ok (.areturn, 1) := by decide +kernel
theorem own_d1_59 : decode method_2_code 59 = .ok (.new 7, 3) := by decide +kernel
theorem own_d1_62 : decode method_2_code 62 = .ok (.dup, 1) := by decide +kernel
theorem own_d1_63 : decode method_2_code 63 = .ok (.iconst 3, 1) := by decide +kernel
theorem own_d1_64 : decode method_2_code 64 = .ok (.newarray .char, 2) := by decide +kernel
theorem own_d1_66 : decode method_2_code 66 = .ok (.dup, 1) := by decide +kernel
theorem own_d1_67 : decode method_2_code 67 = .ok (.iconst 0, 1) := by decide +kernel
theorem own_d1_68 : decode method_2_code 68 = .ok (.iload_n 1, 1) := by decide +kernel
theorem own_d1_69 : decode method_2_code 69 = .ok (.castore, 1) := by decide +kernel
theorem own_d1_70 : decode method_2_code 70 = .ok (.dup, 1) := by decide +kernel
theorem own_d1_71 : decode method_2_code 71 = .ok (.iconst 1, 1) := by decide +kernel
theorem own_d1_72 : decode method_2_code 72 = .ok (.iload_n 2, 1) := by decide +kernel
theorem own_d1_73 : decode method_2_code 73 = .ok (.castore, 1) := by decide +kernel
theorem own_d1_74 : decode method_2_code 74 = .ok (.dup, 1) := by decide +kernel
theorem own_d1_75 : decode method_2_code 75 = .ok (.iconst 2, 1) := by decide +kernel
theorem own_d1_76 : decode method_2_code 76 = .ok (.iload_n 3, 1) := by decide +kernel
theorem own_d1_77 : decode method_2_code 77 = .ok (.castore, 1) := by decide +kernel
theorem own_d1_78 : decode method_2_code 78 = .ok (.invokespecial 9, 3) := by decide +kernel
theorem own_d1_81 : decode method_2_code 81 = .ok (.areturn, 1) := by decide +kernel
theorem own_d3_8 : decode jdk_42_method_149_code 8 = .ok (.aload_n 0, 1) := by decide +kernel
theorem own_d3_9 : decode jdk_42_method_149_code 9 = .ok (.ldc 7, 2) := by decide +kernel
theorem own_d3_11 : decode jdk_42_method_149_code 11 = .ok (.getfield 9, 3) := by decide +kernel
theorem own_d3_14 : decode jdk_42_method_149_code 14 = .ok (.putfield 9, 3) := by decide +kernel
theorem own_d3_17 : decode jdk_42_method_149_code 17 = .ok (.aload_n 0, 1) := by decide +kernel
theorem own_d3_18 : decode jdk_42_method_149_code 18 = .ok (.ldc 7, 2) := by decide +kernel
theorem own_d3_20 : decode jdk_42_method_149_code 20 = .ok (.getfield 15, 3) := by decide +kernel
theorem own_d3_23 : decode jdk_42_method_149_code 23 = .ok (.putfield 15, 3) := by decide +kernel
theorem own_d3_26 : decode jdk_42_method_149_code 26 = .ok (.return_, 1) := by decide +kernel
theorem own_d1_4 : decode method_2_code 4 = .ok (.new 7, 3) := by decide +kernel
theorem own_d1_7 : decode method_2_code 7 = .ok (.dup, 1) := by decide +kernel
theorem own_d1_8 : decode method_2_code 8 = .ok (.iconst 0, 1) := by decide +kernel
theorem own_d1_9 : decode method_2_code 9 = .ok (.newarray .char, 2) := by decide +kernel
theorem own_d1_11 : decode method_2_code 11 = .ok (.invokespecial 9, 3) := by decide +kernel
theorem own_d1_14 : decode method_2_code 14 = .ok (.areturn, 1) := by decide +kernel
theorem own_d16_0 : decode prog_1_method_1_code 0 = .ok (.aload_n 0, 1) := by decide +kernel
theorem own_d16_1 : decode prog_1_method_1_code 1 = .ok (.invokespecial 1, 3) := by decide +kernel
theorem own_d16_4 : decode prog_1_method_1_code 4 = .ok (.aload_n 0, 1) := by decide +kernel
theorem own_d16_5 : decode prog_1_method_1_code 5 = .ok (.new 7, 3) := by decide +kernel
theorem own_d16_8 : decode prog_1_method_1_code 8 = .ok (.dup, 1) := by decide +kernel
theorem own_d16_9 : decode prog_1_method_1_code 9 = .ok (.invokespecial 9, 3) := by decide +kernel
theorem own_d16_12 : decode prog_1_method_1_code 12 = .ok (.putfield 10, 3) := by decide +kernel
theorem own_d16_15 : decode prog_1_method_1_code 15 = .ok (.aload_n 0, 1) := by decide +kernel
theorem own_d16_16 : decode prog_1_method_1_code 16 = .ok (.new 16, 3) := by decide +kernel
theorem own_d16_19 : decode prog_1_method_1_code 19 = .ok (.dup, 1) := by decide +kernel
theorem own_d16_20 : decode prog_1_method_1_code 20 = .ok (.invokespecial 18, 3) := by decide +kernel
theorem own_d16_23 : decode prog_1_method_1_code 23 = .ok (.putfield 19, 3) := by decide +kernel
theorem own_d16_26 : decode prog_1_method_1_code 26 = .ok (.aload_n 1, 1) := by decide +kernel
theorem own_d16_27 : decode prog_1_method_1_code 27 = .ok (.invokeinterface 23 1, 5) := by decide +kernel
theorem own_pd31 : parseMethodDescriptor "()Ljava/util/Iterator;" = some ⟨[], some (.object "java/util/Iterator")⟩ := by decide +kernel
theorem own_d16_32 : decode prog_1_method_1_code 32 = .ok (.astore_n 3, 1) := by decide +kernel
theorem own_d16_33 : decode prog_1_method_1_code 33 = .ok (.aload_n 3, 1) := by decide +kernel
theorem own_d16_34 : decode prog_1_method_1_code 34 = .ok (.invokeinterface 29 1, 5) := by decide +kernel
theorem own_d16_39 : decode prog_1_method_1_code 39 = .ok (.ifCond .eq 130, 3) := by decide +kernel
theorem own_d16_42 : decode prog_1_method_1_code 42 = .ok (.aload_n 3, 1) := by decide +kernel
theorem own_d16_43 : decode prog_1_method_1_code 43 = .ok (.invokeinterface 35 1, 5) := by decide +kernel
theorem own_pd32 : parseMethodDescriptor "()Ljava/lang/Object;" = some ⟨[], some (.object "java/lang/Object")⟩ := by decide +kernel
theorem own_d16_48 : decode prog_1_method_1_code 48 = .ok (.checkcast 39, 3) := by decide +kernel
theorem own_d16_51 : decode prog_1_method_1_code 51 = .ok (.astore 4, 2) := by decide +kernel
theorem own_d16_53 : decode prog_1_method_1_code 53 = .ok (.aload 4, 2) := by decide +kernel
theorem own_d16_55 : decode prog_1_method_1_code 55 = .ok (.ldc 41, 2) := by decide +kernel
theorem own_d16_57 : decode prog_1_method_1_code 57 = .ok (.invokevirtual 43, 3) := by decide +kernel
theorem own_pd33 : parseMethodDescriptor "(Ljava/lang/String;)Z" = some ⟨[(.object "java/lang/String")], some .boolean⟩ := by decide +kernel
theorem own_d16_60 : decode prog_1_method_1_code 60 = .ok (.ifCond .ne 18, 3) := by decide +kernel
theorem own_d16_63 : decode prog_1_method_1_code 63 = .ok (.aload_n 0, 1) := by decide +kernel
theorem own_d16_64 : decode prog_1_method_1_code 64 = .ok (.getfield 10, 3) := by decide +kernel
theorem own_d16_67 : decode prog_1_method_1_code 67 = .ok (.aload 4, 2) := by decide +kernel
theorem own_d16_69 : decode prog_1_method_1_code 69 = .ok (.invokeinterface 47 2, 5) := by decide +kernel
theorem own_pd34 : parseMethodDescriptor "(Ljava/lang/Object;)Z" = some ⟨[(.object "java/lang/Object")], some .boolean⟩ := by decide +kernel
theorem own_d16_74 : decode prog_1_method_1_code 74 = .ok (.pop, 1) := by decide +kernel
theorem own_d16_75 : decode prog_1_method_1_code 75 = .ok (.goto (-42), 3) := by decide +kernel
theorem own_d16_169 : decode prog_1_method_1_code 169 = .ok (.return_, 1) := by decide +kernel
theorem own_pd35 : parseMethodDescriptor "(ICCC)Ljava/lang/String;" = some ⟨[.int, .char, .char, .char], some (.object "java/lang/String")⟩ := by decide +kernel
theorem own_pd36 : parseMethodDescriptor "(Ljava/util/List;Ljava/util/Set;)V" = some ⟨[(.object "java/util/List"), (.object "java/util/Set")], none⟩ := by decide +kernel
theorem own_pd37 : parseMethodDescriptor "(Ljava/lang/String;)Ljava/lang/String;" = some ⟨[(.object "java/lang/String")], some (.object "java/lang/String")⟩ := by decide +kernel
set_option maxRecDepth 65536 in
set_option maxHeartbeats 40000000 in
theorem own_acol (l : Launch) (Z : State) (a0 : Array Value) (hw : ∀ d ∈ tables_1, d.before a0 Z = true) (a : Addr) (h0 : Heap) (n0 : Nat) (Z0 : n0 ≤ h0.size)  :
    OCon l Z n0 (⟨"java/util/AbstractCollection", "<init>", "()V"⟩ : MethodName) jdk_22_method_1_code 1 none [] ({ frames := 1, cells := 0, slots := 0, locals := 12 } : Room) #[(.ref a)] h0 (ON fun h => h = h0) := by
  refine OCon.of (Ls := #[.val (.ref a)]) (plainFor_of_name own_pn_10) (fun m => own_entry m rfl) ?_
  intro p e s m below meth c K
  refine OGo.aloadN K (pc' := 1) own_d10_0 rfl rfl rfl ?_
  refine OGo.initO K (pc' := 4) (W := 0) (hw _ (List.mem_of_getElem? (i := 55) rfl)) (hw _ (List.mem_of_getElem? (i := 16) rfl)) (hw _ (List.mem_of_getElem? (i := 17) rfl)) own_d10_1 rfl rfl (by show 2 * 0 + _ ≤ _; exact Nat.le_of_eq rfl) (by decide) (by decide) ?_
  exact OGo.vret K own_d10_4 (by decide) (by decide) ⟨rfl, rfl⟩
set_option maxRecDepth 65536 in
set_option maxHeartbeats 40000000 in
theorem own_abl (l : Launch) (Z : State) (a0 : Array Value) (hw : ∀ d ∈ tables_1, d.before a0 Z = true) (a : Addr) (u : Value) (h0 : Heap) (n0 : Nat) (Z0 : n0 ≤ h0.size) (E : Exa Z h0 a "java/util/ArrayList") (F : Fld Z h0 a "java/util/AbstractList" "modCount" "I" u) (g_a : n0 ≤ a) :
    OCon l Z n0 (⟨"java/util/AbstractList", "<init>", "()V"⟩ : MethodName) jdk_39_method_1_code 1 none [] ({ frames := 2, cells := 0, slots := 0, locals := 24 } : Room) #[(.ref a)] h0 (ON fun h => ∃ sl v, Wr h0 h a sl v ∧ sl = RoadKit.slotOf Z "java/util/AbstractList" "modCount" "I" ∧ Fld Z h a "java/util/AbstractList" "modCount" "I" (.int 0)) := by
  refine OCon.of (Ls := #[.val (.ref a)]) (plainFor_of_name own_pn_9) (fun m => own_entry m rfl) ?_
  intro p e s m below meth c K
  refine OGo.aloadN K (pc' := 1) own_d9_0 rfl rfl rfl ?_
  refine OGo.callIN K (pc' := 4) (y := (⟨"java/util/AbstractCollection", "<init>", "()V"⟩ : MethodName)) (a := a) (W := 0) (cells' := 0) (slots' := 0) (argsL := []) (st := []) rfl (hw _ (List.mem_of_getElem? (i := 49) rfl)) (hw _ (List.mem_of_getElem? (i := 50) rfl)) (hw _ (List.mem_of_getElem? (i := 53) rfl)) (hw _ (List.mem_of_getElem? (i := 54) rfl)) (by decide) (own_acol l Z a0 hw a h0 n0 Z0) own_d9_1 rfl rfl (lenOf own_pd1 rfl) (by show 2 * 0 + _ ≤ _; exact Nat.le_of_eq rfl) (by decide) (by decide) rfl rfl (by decide) (by decide) ?_
  rintro h1 e1
  rw [e1]
  refine OGo.aloadN K (pc' := 5) own_d9_4 rfl rfl rfl ?_
  refine OGo.iconst K (pc' := 6) (z := 0) own_d9_5 rfl rfl ?_
  refine OGo.putF K (pc' := 9) (host := "") (Or.inl (hw _ (List.mem_of_getElem? (i := 56) rfl))) Via.refl F E (Or.inl (hw _ (List.mem_of_getElem? (i := 57) rfl))) (hw _ (List.mem_of_getElem? (i := 38) rfl)) (ty := .int) (by decide) rfl rfl g_a own_d9_6 rfl ?_
  intro h2 W2
  have Z2 : n0 ≤ h2.size := by rw [W2.size]; exact Z0
  have Fw_modCount_a_2 := F.same W2
  have E_2 := E.wr W2
  exact OGo.vret K own_d9_9 (by decide) (by decide) ⟨rfl, _, _, W2, rfl, Fw_modCount_a_2⟩
set_option maxRecDepth 65536 in
set_option maxHeartbeats 40000000 in
theorem own_al_init (l : Launch) (Z : State) (a0 : Array Value) (hw : ∀ d ∈ tables_1, d.before a0 Z = true) (a dd : Addr) (u1 u2 : Value) (h0 : Heap) (n0 : Nat) (Z0 : n0 ≤ h0.size) (E : Exa Z h0 a "java/util/ArrayList") (F1 : Fld Z h0 a "java/util/ArrayList" "elementData" "[Ljava/lang/Object;" u1) (F2 : Fld Z h0 a "java/util/ArrayList" "size" "I" (.int 0)) (F3 : Fld Z h0 a "java/util/AbstractList" "modCount" "I" u2) (g_a : n0 ≤ a) (Wd : OWd Z n0 h0 dd) :
    OCon l Z n0 (⟨"java/util/ArrayList", "<init>", "()V"⟩ : MethodName) jdk_38_method_2_code 1 none [] ({ frames := 3, cells := 0, slots := 0, locals := 36 } : Room) #[(.ref a)] h0 (ON fun h => OAL0 Z n0 h a dd ∧ Keep h0 h [a]) := by
  refine OCon.of (Ls := #[.val (.ref a)]) (plainFor_of_name own_pn_8) (fun m => own_entry m rfl) ?_
  intro p e s m below meth c K
  refine OGo.aloadN K (pc' := 1) own_d8_0 rfl rfl rfl ?_
  refine OGo.callIN K (pc' := 4) (y := (⟨"java/util/AbstractList", "<init>", "()V"⟩ : MethodName)) (a := a) (W := 0) (cells' := 0) (slots' := 0) (argsL := []) (st := []) rfl (hw _ (List.mem_of_getElem? (i := 43) rfl)) (hw _ (List.mem_of_getElem? (i := 44) rfl)) (hw _ (List.mem_of_getElem? (i := 47) rfl)) (hw _ (List.mem_of_getElem? (i := 48) rfl)) (by decide) (own_abl l Z a0 hw a _ h0 n0 Z0 E F3 g_a) own_d8_1 rfl rfl (lenOf own_pd1 rfl) (by show 2 * 0 + _ ≤ _; exact Nat.le_of_eq rfl) (by decide) (by decide) rfl rfl (by decide) (by decide) ?_
  rintro h1 ⟨sl1, v1, W1, es1, Fm1⟩
  subst es1
  have Z1 : n0 ≤ h1.size := by rw [W1.size]; exact Z0
  have E_1 := E.wr W1
  have F1_1 := F1.other W1 (Or.inr (slot_ne (Or.inl (hw _ (List.mem_of_getElem? (i := 60) rfl))) (Or.inl (hw _ (List.mem_of_getElem? (i := 57) rfl))) (by decide) (t := (.array (.object "java/lang/Object"))) (t' := .int) (by decide) (by decide)))
  have F2_1 := F2.other W1 (Or.inr (slot_ne (Or.inl (hw _ (List.mem_of_getElem? (i := 69) rfl))) (Or.inl (hw _ (List.mem_of_getElem? (i := 57) rfl))) (by decide) (t := .int) (t' := .int) (by decide) (by decide)))
  have Wd_1 := OWd.wr Wd W1 g_a
  have Kp1 : Keep h0 h1 [a] := (Keep.refl h0 [a]).wr W1 (Or.inl (List.mem_of_getElem? (i := 0) rfl))
  refine OGo.aloadN K (pc' := 5) own_d8_4 rfl rfl rfl ?_
  refine OGo.getS K (pc' := 8) (host := "") (Or.inl (hw _ (List.mem_of_getElem? (i := 58) rfl))) Via.refl Wd_1.1.sta own_d8_5 rfl ?_
  refine OGo.putF K (pc' := 11) (host := "") (Or.inl (hw _ (List.mem_of_getElem? (i := 59) rfl))) Via.refl F1_1 E_1 (Or.inl (hw _ (List.mem_of_getElem? (i := 60) rfl))) (hw _ (List.mem_of_getElem? (i := 38) rfl)) (ty := (.array (.object "java/lang/Object"))) (by decide) rfl rfl g_a own_d8_8 rfl ?_
  intro h2 W2
  have Z2 : n0 ≤ h2.size := by rw [W2.size]; exact Z1
  have Fw_elementData_a_2 := F1_1.same W2
  have E_2 := E_1.wr W2
  have F2_2 := F2_1.other W2 (Or.inr (slot_ne (Or.inl (hw _ (List.mem_of_getElem? (i := 69) rfl))) (Or.inl (hw _ (List.mem_of_getElem? (i := 60) rfl))) (by decide) (t := .int) (t' := (.array (.object "java/lang/Object"))) (by decide) (by decide)))
  have Fm1_2 := Fm1.other W2 (Or.inr (slot_ne (Or.inl (hw _ (List.mem_of_getElem? (i := 57) rfl))) (Or.inl (hw _ (List.mem_of_getElem? (i := 60) rfl))) (by decide) (t := .int) (t' := (.array (.object "java/lang/Object"))) (by decide) (by decide)))
  have Wd_2 := OWd.wr Wd_1 W2 g_a
  have Kp2 : Keep h0 h2 [a] := Kp1.wr W2 (Or.inl (List.mem_of_getElem? (i := 0) rfl))
  exact OGo.vret K own_d8_11 (by decide) (by decide) ⟨rfl, ⟨E_2, F2_2, ⟨_, Fm1_2⟩, Fw_elementData_a_2, g_a⟩, Kp2⟩
set_option maxRecDepth 65536 in
set_option maxHeartbeats 40000000 in
theorem own_maxI (l : Launch) (Z : State) (a0 : Array Value) (hw : ∀ d ∈ tables_1, d.before a0 Z = true) (u v : Int32) (h0 : Heap) (n0 : Nat) (Z0 : n0 ≤ h0.size)  :
    OCon l Z n0 (⟨"java/lang/Math", "max", "(II)I"⟩ : MethodName) jdk_29_method_65_code 2 (some .int) [] ({ frames := 0, cells := 0, slots := 0, locals := 0 } : Room) #[(.int u), (.int v)] h0 (OV fun w h => w = .int (if u < v then v else u) ∧ h = h0) := by
  refine OCon.of (Ls := #[.val (.int u), .val (.int v)]) (Jvm.Free.JP.mathPlain rfl (by decide +kernel)) (fun m => own_entry m rfl) ?_
  intro p e s m below meth c K
  refine OGo.iloadN K (pc' := 1) own_d15_0 rfl rfl ?_
  refine OGo.iloadN K (pc' := 2) own_d15_1 rfl rfl ?_
  refine OGo.icmpLt K (pc' := 5) (pcY := 9) own_d15_2 rfl (by decide) rfl (fun hc => ?_) (fun hc => ?_)
  · skip
    refine OGo.iloadN K (pc' := 10) own_d15_9 rfl rfl ?_
    exact OGo.iret K own_d15_10 (by decide) (by decide) ⟨_, rfl, by rw [if_pos hc], rfl⟩
  · skip
    refine OGo.iloadN K (pc' := 6) own_d15_5 rfl rfl ?_
    refine OGo.goto K (pc' := 10) own_d15_6 (by decide) rfl ?_
    exact OGo.iret K own_d15_10 (by decide) (by decide) ⟨_, rfl, by rw [if_neg hc], rfl⟩
set_option maxRecDepth 65536 in
set_option maxHeartbeats 40000000 in
theorem own_al_grow1 (l : Launch) (Z : State) (a0 : Array Value) (hw : ∀ d ∈ tables_1, d.before a0 Z = true) (a dd : Addr) (h0 : Heap) (n0 : Nat) (Z0 : n0 ≤ h0.size) (L : OAL0 Z n0 h0 a dd) (Wd : OWd Z n0 h0 dd) :
    OCon l Z n0 (⟨"java/util/ArrayList", "grow", "(I)[Ljava/lang/Object;"⟩ : MethodName) jdk_38_method_6_code 4 (some (.array (.object "java/lang/Object"))) [] ({ frames := 1, cells := 1, slots := 10, locals := 14 } : Room) #[(.ref a), (.int 1)] h0 (OV fun w h => ∃ x, w = .ref x ∧ OAL1 Z n0 h a x [] ∧ Keep h0 h [a] ∧ h0.size ≤ x) := by
  refine OCon.of (Ls := #[.val (.ref a), .val (.int 1), .unset, .unset]) (plainFor_of_name own_pn_8) (fun m => own_entry m rfl) ?_
  intro p e s m below meth c K
  obtain ⟨E, F1, ⟨mc, F2⟩, F3, g_a⟩ := L
  obtain ⟨Sd, ⟨kd, Vd⟩, ld⟩ := Wd
  refine OGo.aloadN K (pc' := 1) own_d14_0 rfl rfl rfl ?_
  refine OGo.getF K (pc' := 4) (host := "") (Or.inl (hw _ (List.mem_of_getElem? (i := 59) rfl))) Via.refl F3 own_d14_1 rfl ?_
  refine OGo.alen K (pc' := 5) Vd own_d14_4 rfl ?_
  refine OGo.istoreN K (pc' := 6) (Ls' := #[.val (.ref a), .val (.int (1 : Int32)), .val (.int (0 : Int32)), .unset]) own_d14_5 rfl rfl ?_
  refine OGo.iloadN K (pc' := 7) own_d14_6 rfl rfl ?_
  refine OGo.ifGt K (pc' := 10) (pcY := 20) own_d14_7 rfl (by decide) rfl (fun hc7 => absurd hc7 (by decide : ¬ (0 : Int32) < (0 : Int32))) (fun hc7 => ?_)
  refine OGo.aloadN K (pc' := 11) own_d14_10 rfl rfl rfl ?_
  refine OGo.getF K (pc' := 14) (host := "") (Or.inl (hw _ (List.mem_of_getElem? (i := 59) rfl))) Via.refl F3 own_d14_11 rfl ?_
  refine OGo.getS K (pc' := 17) (host := "") (Or.inl (hw _ (List.mem_of_getElem? (i := 58) rfl))) Via.refl Sd.sta own_d14_14 rfl ?_
  refine OGo.acmp K (pc' := 45) (same := true) own_d14_17 rfl rfl (decide_eq_true rfl) (by decide) rfl ?_
  refine OGo.aloadN K (pc' := 46) own_d14_45 rfl rfl rfl ?_
  refine OGo.bipush K (pc' := 48) (z := 10) own_d14_46 rfl rfl ?_
  refine OGo.iloadN K (pc' := 49) own_d14_48 rfl rfl ?_
  refine OGo.callSV K (pc' := 52) (y := (⟨"java/lang/Math", "max", "(II)I"⟩ : MethodName)) (W := 1) (cells' := 0) (slots' := 0) (argsL := [(.int (10 : Int32)), (.int (1 : Int32))]) (st := [(.ref a)]) (hw _ (List.mem_of_getElem? (i := 85) rfl)) (hw _ (List.mem_of_getElem? (i := 86) rfl)) (hw _ (List.mem_of_getElem? (i := 87) rfl)) (hw _ (List.mem_of_getElem? (i := 88) rfl)) (by decide) (own_maxI l Z a0 hw 10 1 h0 n0 Z0) own_d14_49 rfl rfl (lenOf own_pd4 rfl) (by show 2 * 0 + _ ≤ _; exact Nat.le_of_eq rfl) (by decide) (by decide) rfl rfl (by decide) (by decide) ?_
  rintro _ h1 ⟨rfl, e1⟩
  rw [e1]
  show OGo p l e _ _ m _ below meth c n0 _ h0 0 0 52 #[.val (.ref a), .val (.int (1 : Int32)), .val (.int (0 : Int32)), .unset] [(.int (if (10 : Int32) < (1 : Int32) then (1 : Int32) else (10 : Int32))), (.ref a)]
  rw [show (if (10 : Int32) < (1 : Int32) then (1 : Int32) else (10 : Int32)) = 10 from by decide]
  refine OGo.newR K (pc' := 55) (cap := 10) (cells' := 1) (slots' := 10) (hw _ (List.mem_of_getElem? (i := 89) rfl)) (hw _ (List.mem_of_getElem? (i := 90) rfl)) own_d14_52 rfl (by decide) (by decide) (by decide) rfl rfl (by decide) (by decide) ?_
  intro h2 x k_x gq2 E2 V_x O_x
  have ne_a_x : a ≠ x := Nat.ne_of_lt (Nat.lt_of_lt_of_le F3.lt (Nat.le_of_eq gq2.symm))
  have g_x : n0 ≤ x := Nat.le_trans Z0 (Nat.le_of_eq gq2.symm)
  have sz_x : h0.size ≤ x := Nat.le_trans (Keep.refl h0 [a]).1 (Nat.le_of_eq gq2.symm)
  have Z2 : n0 ≤ h2.size := Nat.le_trans Z0 E2.1
  have Kp2 : Keep h0 h2 [a] := (Keep.refl h0 [a]).ext E2
  have F3_2 := F3.ext E2
  have F1_2 := F1.ext E2
  have E_2 := E.ext E2
  have F2_2 := F2.ext E2
  refine OGo.dupX1 K (pc' := 56) own_d14_55 rfl rfl rfl ?_
  refine OGo.putF K (pc' := 59) (host := "") (Or.inl (hw _ (List.mem_of_getElem? (i := 59) rfl))) Via.refl F3_2 E_2 (Or.inl (hw _ (List.mem_of_getElem? (i := 60) rfl))) (hw _ (List.mem_of_getElem? (i := 38) rfl)) (ty := (.array (.object "java/lang/Object"))) (by decide) rfl rfl g_a own_d14_56 rfl ?_
  intro h3 W3
  have Z3 : n0 ≤ h3.size := by rw [W3.size]; exact Z2
  have Fw_elementData_a_3 := F3_2.same W3
  have F1_3 := F1_2.other W3 (Or.inr (slot_ne (Or.inl (hw _ (List.mem_of_getElem? (i := 69) rfl))) (Or.inl (hw _ (List.mem_of_getElem? (i := 60) rfl))) (by decide) (t := .int) (t' := (.array (.object "java/lang/Object"))) (by decide) (by decide)))
  have E_3 := E_2.wr W3
  have F2_3 := F2_2.other W3 (Or.inr (slot_ne (Or.inl (hw _ (List.mem_of_getElem? (i := 57) rfl))) (Or.inl (hw _ (List.mem_of_getElem? (i := 60) rfl))) (by decide) (t := .int) (t' := (.array (.object "java/lang/Object"))) (by decide) (by decide)))
  have V_x_3 := V_x.other W3 (Ne.symm ne_a_x)
  have Kp3 : Keep h0 h3 [a] := Kp2.wr W3 (Or.inl (List.mem_of_getElem? (i := 0) rfl))
  exact OGo.aret K own_d14_59 rfl rfl (by decide) (by decide) ⟨_, rfl, x, rfl, ⟨E_3, F1_3, ⟨_, F2_3⟩, Fw_elementData_a_3, ⟨_, _, V_x_3.pad (pad_rep [] _ 10), rfl, O_x, fun i hi => absurd hi (Nat.not_lt_zero i)⟩, ne_a_x, g_a, g_x⟩, Kp3, sz_x⟩
set_option maxRecDepth 65536 in
set_option maxHeartbeats 40000000 in
theorem own_al_grow0 (l : Launch) (Z : State) (a0 : Array Value) (hw : ∀ d ∈ tables_1, d.before a0 Z = true) (a dd : Addr) (h0 : Heap) (n0 : Nat) (Z0 : n0 ≤ h0.size) (L : OAL0 Z n0 h0 a dd) (Wd : OWd Z n0 h0 dd) :
    OCon l Z n0 (⟨"java/util/ArrayList", "grow", "()[Ljava/lang/Object;"⟩ : MethodName) jdk_38_method_7_code 1 (some (.array (.object "java/lang/Object"))) [] ({ frames := 2, cells := 1, slots := 10, locals := 29 } : Room) #[(.ref a)] h0 (OV fun w h => ∃ x, w = .ref x ∧ OAL1 Z n0 h a x [] ∧ Keep h0 h [a] ∧ h0.size ≤ x) := by
  refine OCon.of (Ls := #[.val (.ref a)]) (plainFor_of_name own_pn_8) (fun m => own_entry m rfl) ?_
  intro p e s m below meth c K
  refine OGo.aloadN K (pc' := 1) own_d13_0 rfl rfl rfl ?_
  refine OGo.aloadN K (pc' := 2) own_d13_1 rfl rfl rfl ?_
  refine OGo.getF K (pc' := 5) (host := "") (Or.inl (hw _ (List.mem_of_getElem? (i := 68) rfl))) Via.refl L.2.1 own_d13_2 rfl ?_
  refine OGo.iconst K (pc' := 6) (z := 1) own_d13_5 rfl rfl ?_
  refine OGo.iadd K (pc' := 7) own_d13_6 rfl ?_
  refine OGo.callPV K (pc' := 10) (y := (⟨"java/util/ArrayList", "grow", "(I)[Ljava/lang/Object;"⟩ : MethodName)) (a := a) (W := 0) (cells' := 1) (slots' := 10) (argsL := [(.int ((0 : Int32) + (1 : Int32)))]) (st := []) L.1 (hw _ (List.mem_of_getElem? (i := 80) rfl)) (hw _ (List.mem_of_getElem? (i := 81) rfl)) (hw _ (List.mem_of_getElem? (i := 83) rfl)) (hw _ (List.mem_of_getElem? (i := 82) rfl)) (hw _ (List.mem_of_getElem? (i := 39) rfl)) (hw _ (List.mem_of_getElem? (i := 84) rfl)) (by decide) (own_al_grow1 l Z a0 hw a dd h0 n0 Z0 L Wd) own_d13_7 rfl rfl (lenOf own_pd5 rfl) (by show 2 * 0 + _ ≤ _; exact Nat.le_of_eq rfl) (by decide) (by decide) rfl rfl (by decide) (by decide) ?_
  rintro _ h1 ⟨x, rfl, L1, K1, s1⟩
  have Z1 : n0 ≤ h1.size := Nat.le_trans Z0 K1.1
  show OGo p l e _ _ m _ below meth c n0 _ h1 1 10 10 #[.val (.ref a)] [(.ref x)]
  exact OGo.aret K own_d13_10 rfl rfl (by decide) (by decide) ⟨_, rfl, x, rfl, L1, K1, s1⟩
set_option maxRecDepth 65536 in
set_option maxHeartbeats 40000000 in
theorem own_al_add3_1 (l : Launch) (Z : State) (a0 : Array Value) (hw : ∀ d ∈ tables_1, d.before a0 Z = true) (a y x : Addr) (vs : List Addr) (h0 : Heap) (n0 : Nat) (Z0 : n0 ≤ h0.size) (L : OAL1 Z n0 h0 a x vs) (hn : vs.length < 10) (I' : Ins Z h0 y "java/lang/Object" true) :
    OCon l Z n0 (⟨"java/util/ArrayList", "add", "(Ljava/lang/Object;[Ljava/lang/Object;I)V"⟩ : MethodName) jdk_38_method_24_code 4 none [] ({ frames := 0, cells := 0, slots := 0, locals := 0 } : Room) #[(.ref a), (.ref y), (.ref x), (.int (Int32.ofNat vs.length))] h0 (ON fun h => OAL1 Z n0 h a x (vs ++ [y]) ∧ Keep h0 h [a, x]) := by
  refine OCon.of (Ls := #[.val (.ref a), .val (.ref y), .val (.ref x), .val (.int (Int32.ofNat vs.length))]) (plainFor_of_name own_pn_8) (fun m => own_entry m rfl) ?_
  intro p e s m below meth c K
  obtain ⟨E, F1, ⟨mc, F2⟩, F3, ⟨k, us, Vx, lx, Ox, Hx⟩, ne1, g_a, g_x⟩ := L
  obtain ⟨i1, i2, i3, i4⟩ := own_i10 hn
  refine OGo.iloadN K (pc' := 1) own_d12_0 rfl rfl ?_
  refine OGo.aloadN K (pc' := 2) own_d12_1 rfl rfl rfl ?_
  refine OGo.alen K (pc' := 3) Vx own_d12_2 rfl ?_
  refine OGo.icmpNe K (pc' := 6) (pcY := 11) own_d12_3 rfl (by decide) rfl (fun hc3 => ?_) (fun hc3 => absurd hc3 (i4 : ¬ (Int32.ofNat vs.length) = (10 : Int32)))
  refine OGo.aloadN K (pc' := 12) own_d12_11 rfl rfl rfl ?_
  refine OGo.iloadN K (pc' := 13) own_d12_12 rfl rfl ?_
  refine OGo.aloadN K (pc' := 14) own_d12_13 rfl rfl rfl ?_
  refine OGo.aastore K (pc' := 15) (i := vs.length) Vx rfl rfl (own_sto Vx Ox (I')) ⟨i1, i2⟩ i3 (by rw [lx]; exact hn) g_x own_d12_14 rfl ?_
  intro h1 W1 Vx_1
  have Z1 : n0 ≤ h1.size := by rw [W1.size]; exact Z0
  have F3_1 := F3.other W1 (Or.inl ne1)
  have F1_1 := F1.other W1 (Or.inl ne1)
  have E_1 := E.wr W1
  have F2_1 := F2.other W1 (Or.inl ne1)
  have Kp1 : Keep h0 h1 [a, x] := (Keep.refl h0 [a, x]).wr W1 (Or.inl (List.mem_of_getElem? (i := 1) rfl))
  refine OGo.aloadN K (pc' := 16) own_d12_15 rfl rfl rfl ?_
  refine OGo.iloadN K (pc' := 17) own_d12_16 rfl rfl ?_
  refine OGo.iconst K (pc' := 18) (z := 1) own_d12_17 rfl rfl ?_
  refine OGo.iadd K (pc' := 19) own_d12_18 rfl ?_
  refine OGo.putF K (pc' := 22) (host := "") (Or.inl (hw _ (List.mem_of_getElem? (i := 68) rfl))) Via.refl F1_1 E_1 (Or.inl (hw _ (List.mem_of_getElem? (i := 69) rfl))) (hw _ (List.mem_of_getElem? (i := 38) rfl)) (ty := .int) (by decide) rfl rfl g_a own_d12_19 rfl ?_
  intro h2 W2
  have Z2 : n0 ≤ h2.size := by rw [W2.size]; exact Z1
  have Fw_size_a_2 := F1_1.same W2
  have F3_2 := F3_1.other W2 (Or.inr (slot_ne (Or.inl (hw _ (List.mem_of_getElem? (i := 60) rfl))) (Or.inl (hw _ (List.mem_of_getElem? (i := 69) rfl))) (by decide) (t := (.array (.object "java/lang/Object"))) (t' := .int) (by decide) (by decide)))
  have Vx_2 := Vx_1.other W2 (Ne.symm ne1)
  have E_2 := E_1.wr W2
  have F2_2 := F2_1.other W2 (Or.inr (slot_ne (Or.inl (hw _ (List.mem_of_getElem? (i := 57) rfl))) (Or.inl (hw _ (List.mem_of_getElem? (i := 69) rfl))) (by decide) (t := .int) (t' := .int) (by decide) (by decide)))
  have Kp2 : Keep h0 h2 [a, x] := Kp1.wr W2 (Or.inl (List.mem_of_getElem? (i := 0) rfl))
  exact OGo.vret K own_d12_22 (by decide) (by decide) ⟨rfl, ⟨E_2, (by first | (rw [List.length_append, show vs.length + [y].length = vs.length + 1 from rfl, inc_ofNat]; exact Fw_size_a_2) | exact Fw_size_a_2), ⟨_, F2_2⟩, F3_2, ⟨_, _, Vx_2, by rw [List.length_set]; exact lx, Ox, own_al_push lx hn Hx⟩, ne1, g_a, g_x⟩, Kp2⟩
set_option maxRecDepth 65536 in
set_option maxHeartbeats 40000000 in
theorem own_al_add3_0 (l : Launch) (Z : State) (a0 : Array Value) (hw : ∀ d ∈ tables_1, d.before a0 Z = true) (a y dd : Addr) (h0 : Heap) (n0 : Nat) (Z0 : n0 ≤ h0.size) (L : OAL0 Z n0 h0 a dd) (Wd : OWd Z n0 h0 dd) (I0 : Ins Z h0 y "java/lang/Object" true) :
    OCon l Z n0 (⟨"java/util/ArrayList", "add", "(Ljava/lang/Object;[Ljava/lang/Object;I)V"⟩ : MethodName) jdk_38_method_24_code 4 none [] ({ frames := 3, cells := 1, slots := 10, locals := 41 } : Room) #[(.ref a), (.ref y), (.ref dd), (.int 0)] h0 (ON fun h => ∃ x, OAL1 Z n0 h a x [y] ∧ Keep h0 h [a] ∧ h0.size ≤ x) := by
  refine OCon.of (Ls := #[.val (.ref a), .val (.ref y), .val (.ref dd), .val (.int 0)]) (plainFor_of_name own_pn_8) (fun m => own_entry m rfl) ?_
  intro p e s m below meth c K
  obtain ⟨kd, Vd⟩ := Wd.2.1
  refine OGo.iloadN K (pc' := 1) own_d12_0 rfl rfl ?_
  refine OGo.aloadN K (pc' := 2) own_d12_1 rfl rfl rfl ?_
  refine OGo.alen K (pc' := 3) Vd own_d12_2 rfl ?_
  refine OGo.icmpNe K (pc' := 6) (pcY := 11) own_d12_3 rfl (by decide) rfl (fun hc3 => absurd (rfl : (0 : Int32) = (0 : Int32)) hc3) (fun hc3 => ?_)
  refine OGo.aloadN K (pc' := 7) own_d12_6 rfl rfl rfl ?_
  refine OGo.callPV K (pc' := 10) (y := (⟨"java/util/ArrayList", "grow", "()[Ljava/lang/Object;"⟩ : MethodName)) (a := a) (W := 0) (cells' := 1) (slots' := 10) (argsL := []) (st := []) L.1 (hw _ (List.mem_of_getElem? (i := 75) rfl)) (hw _ (List.mem_of_getElem? (i := 76) rfl)) (hw _ (List.mem_of_getElem? (i := 78) rfl)) (hw _ (List.mem_of_getElem? (i := 77) rfl)) (hw _ (List.mem_of_getElem? (i := 39) rfl)) (hw _ (List.mem_of_getElem? (i := 79) rfl)) (by decide) (own_al_grow0 l Z a0 hw a dd h0 n0 Z0 L Wd) own_d12_7 rfl rfl (lenOf own_pd6 rfl) (by show 2 * 0 + _ ≤ _; exact Nat.le_of_eq rfl) (by decide) (by decide) rfl rfl (by decide) (by decide) ?_
  rintro _ h1 ⟨x, rfl, L1, K1, s1⟩
  have Z1 : n0 ≤ h1.size := Nat.le_trans Z0 K1.1
  show OGo p l e _ _ m _ below meth c n0 _ h1 1 10 10 #[.val (.ref a), .val (.ref y), .val (.ref dd), .val (.int (0 : Int32))] [(.ref x)]
  obtain ⟨E, F1, ⟨mc, F2⟩, F3, ⟨k, us, Vx, lx, Ox, Hx⟩, ne1, g_a, g_x⟩ := L1
  have hn : ([] : List Addr).length < 10 := by decide
  obtain ⟨i1, i2, i3, i4⟩ := own_i10 hn
  have I' := own_ins_keep I0 K1
  have sz_x := s1
  refine OGo.astoreN K (pc' := 11) (Ls' := #[.val (.ref a), .val (.ref y), .val (.ref x), .val (.int (0 : Int32))]) own_d12_10 rfl rfl rfl ?_
  show OGo p l e _ _ m _ below meth c n0 _ h1 1 10 11 #[.val (.ref a), .val (.ref y), .val (.ref x), .val (.int (Int32.ofNat ([] : List Addr).length))] []
  refine OGo.aloadN K (pc' := 12) own_d12_11 rfl rfl rfl ?_
  refine OGo.iloadN K (pc' := 13) own_d12_12 rfl rfl ?_
  refine OGo.aloadN K (pc' := 14) own_d12_13 rfl rfl rfl ?_
  refine OGo.aastore K (pc' := 15) (i := ([] : List Addr).length) Vx rfl rfl (own_sto Vx Ox (I')) ⟨i1, i2⟩ i3 (by rw [lx]; exact hn) g_x own_d12_14 rfl ?_
  intro h2 W2 Vx_2
  have Z2 : n0 ≤ h2.size := by rw [W2.size]; exact Z1
  have F3_2 := F3.other W2 (Or.inl ne1)
  have F1_2 := F1.other W2 (Or.inl ne1)
  have E_2 := E.wr W2
  have F2_2 := F2.other W2 (Or.inl ne1)
  have Kp2 : Keep h0 h2 [a] := K1.wr W2 (Or.inr sz_x)
  refine OGo.aloadN K (pc' := 16) own_d12_15 rfl rfl rfl ?_
  refine OGo.iloadN K (pc' := 17) own_d12_16 rfl rfl ?_
  refine OGo.iconst K (pc' := 18) (z := 1) own_d12_17 rfl rfl ?_
  refine OGo.iadd K (pc' := 19) own_d12_18 rfl ?_
  refine OGo.putF K (pc' := 22) (host := "") (Or.inl (hw _ (List.mem_of_getElem? (i := 68) rfl))) Via.refl F1_2 E_2 (Or.inl (hw _ (List.mem_of_getElem? (i := 69) rfl))) (hw _ (List.mem_of_getElem? (i := 38) rfl)) (ty := .int) (by decide) rfl rfl g_a own_d12_19 rfl ?_
  intro h3 W3
  have Z3 : n0 ≤ h3.size := by rw [W3.size]; exact Z2
  have Fw_size_a_3 := F1_2.same W3
  have F3_3 := F3_2.other W3 (Or.inr (slot_ne (Or.inl (hw _ (List.mem_of_getElem? (i := 60) rfl))) (Or.inl (hw _ (List.mem_of_getElem? (i := 69) rfl))) (by decide) (t := (.array (.object "java/lang/Object"))) (t' := .int) (by decide) (by decide)))
  have Vx_3 := Vx_2.other W3 (Ne.symm ne1)
  have E_3 := E_2.wr W3
  have F2_3 := F2_2.other W3 (Or.inr (slot_ne (Or.inl (hw _ (List.mem_of_getElem? (i := 57) rfl))) (Or.inl (hw _ (List.mem_of_getElem? (i := 69) rfl))) (by decide) (t := .int) (t' := .int) (by decide) (by decide)))
  have Kp3 : Keep h0 h3 [a] := Kp2.wr W3 (Or.inl (List.mem_of_getElem? (i := 0) rfl))
  exact OGo.vret K own_d12_22 (by decide) (by decide) ⟨rfl, x, ⟨E_3, (by first | (rw [List.length_append, show ([] : List Addr).length + [y].length = ([] : List Addr).length + 1 from rfl, inc_ofNat]; exact Fw_size_a_3) | exact Fw_size_a_3), ⟨_, F2_3⟩, F3_3, ⟨_, _, Vx_3, by rw [List.length_set]; exact lx, Ox, own_al_push lx hn Hx⟩, ne1, g_a, g_x⟩, Kp3, sz_x⟩
set_option maxRecDepth 65536 in
set_option maxHeartbeats 40000000 in
theorem own_al_add0 (l : Launch) (Z : State) (a0 : Array Value) (hw : ∀ d ∈ tables_1, d.before a0 Z = true) (a y dd : Addr) (h0 : Heap) (n0 : Nat) (Z0 : n0 ≤ h0.size) (L : OAL0 Z n0 h0 a dd) (Wd : OWd Z n0 h0 dd) (I0 : Ins Z h0 y "java/lang/Object" true) :
    OCon l Z n0 (⟨"java/util/ArrayList", "add", "(Ljava/lang/Object;)Z"⟩ : MethodName) jdk_38_method_25_code 2 (some .boolean) [] ({ frames := 4, cells := 1, slots := 10, locals := 56 } : Room) #[(.ref a), (.ref y)] h0 (OV fun w h => w = .int 1 ∧ ∃ x, OAL1 Z n0 h a x [y] ∧ Keep h0 h [a] ∧ h0.size ≤ x) := by
  refine OCon.of (Ls := #[.val (.ref a), .val (.ref y)]) (plainFor_of_name own_pn_8) (fun m => own_entry m rfl) ?_
  intro p e s m below meth c K
  obtain ⟨E, F1, ⟨mc, F2⟩, F3, g_a⟩ := L
  refine OGo.aloadN K (pc' := 1) own_d11_0 rfl rfl rfl ?_
  refine OGo.dup K (pc' := 2) own_d11_1 rfl rfl ?_
  refine OGo.getF K (pc' := 5) (host := "") (Or.inl (hw _ (List.mem_of_getElem? (i := 66) rfl))) (Via.of (hw _ (List.mem_of_getElem? (i := 67) rfl))) F2 own_d11_2 rfl ?_
  refine OGo.iconst K (pc' := 6) (z := 1) own_d11_5 rfl rfl ?_
  refine OGo.iadd K (pc' := 7) own_d11_6 rfl ?_
  refine OGo.putF K (pc' := 10) (host := "") (Or.inl (hw _ (List.mem_of_getElem? (i := 66) rfl))) (Via.of (hw _ (List.mem_of_getElem? (i := 67) rfl))) F2 E (Or.inl (hw _ (List.mem_of_getElem? (i := 57) rfl))) (hw _ (List.mem_of_getElem? (i := 38) rfl)) (ty := .int) (by decide) rfl rfl g_a own_d11_7 rfl ?_
  intro h1 W1
  have Z1 : n0 ≤ h1.size := by rw [W1.size]; exact Z0
  have Fw_modCount_a_1 := F2.same W1
  have F3_1 := F3.other W1 (Or.inr (slot_ne (Or.inl (hw _ (List.mem_of_getElem? (i := 60) rfl))) (Or.inl (hw _ (List.mem_of_getElem? (i := 57) rfl))) (by decide) (t := (.array (.object "java/lang/Object"))) (t' := .int) (by decide) (by decide)))
  have F1_1 := F1.other W1 (Or.inr (slot_ne (Or.inl (hw _ (List.mem_of_getElem? (i := 69) rfl))) (Or.inl (hw _ (List.mem_of_getElem? (i := 57) rfl))) (by decide) (t := .int) (t' := .int) (by decide) (by decide)))
  have E_1 := E.wr W1
  have Wd_1 := OWd.wr Wd W1 g_a
  have Kp1 : Keep h0 h1 [a] := (Keep.refl h0 [a]).wr W1 (Or.inl (List.mem_of_getElem? (i := 0) rfl))
  have L' : OAL0 Z n0 h1 a dd := ⟨E_1, F1_1, ⟨_, Fw_modCount_a_1⟩, F3_1, g_a⟩
  refine OGo.aloadN K (pc' := 11) own_d11_10 rfl rfl rfl ?_
  refine OGo.aloadN K (pc' := 12) own_d11_11 rfl rfl rfl ?_
  refine OGo.aloadN K (pc' := 13) own_d11_12 rfl rfl rfl ?_
  refine OGo.getF K (pc' := 16) (host := "") (Or.inl (hw _ (List.mem_of_getElem? (i := 59) rfl))) Via.refl F3_1 own_d11_13 rfl ?_
  refine OGo.aloadN K (pc' := 17) own_d11_16 rfl rfl rfl ?_
  refine OGo.getF K (pc' := 20) (host := "") (Or.inl (hw _ (List.mem_of_getElem? (i := 68) rfl))) Via.refl F1_1 own_d11_17 rfl ?_
  refine OGo.callPN K (pc' := 23) (y := (⟨"java/util/ArrayList", "add", "(Ljava/lang/Object;[Ljava/lang/Object;I)V"⟩ : MethodName)) (a := a) (W := 0) (cells' := 1) (slots' := 10) (argsL := [(.ref y), (.ref dd), (.int (0 : Int32))]) (st := []) E_1 (hw _ (List.mem_of_getElem? (i := 70) rfl)) (hw _ (List.mem_of_getElem? (i := 71) rfl)) (hw _ (List.mem_of_getElem? (i := 73) rfl)) (hw _ (List.mem_of_getElem? (i := 72) rfl)) (hw _ (List.mem_of_getElem? (i := 39) rfl)) (hw _ (List.mem_of_getElem? (i := 74) rfl)) (by decide) (own_al_add3_0 l Z a0 hw a y dd h1 n0 Z1 L' Wd_1 (own_ins_keep I0 Kp1)) own_d11_20 rfl rfl (lenOf own_pd7 rfl) (by show 2 * 0 + _ ≤ _; exact Nat.le_of_eq rfl) (by decide) (by decide) rfl rfl (by decide) (by decide) ?_
  rintro h2 ⟨x, L2, K2, s2⟩
  have Z2 : n0 ≤ h2.size := Nat.le_trans Z1 K2.1
  have Kp2 : Keep h0 h2 [a] := Kp1.trans K2 (allS (Or.inl (List.mem_of_getElem? (i := 0) rfl)) all0)
  refine OGo.iconst K (pc' := 24) (z := 1) own_d11_23 rfl rfl ?_
  exact OGo.ret K own_d11_24 rfl (Or.inl ⟨rfl, by simp, _, rfl⟩) (by decide) (by decide) ⟨_, rfl, rfl, x, L2, Kp2, Nat.le_trans Kp1.1 s2⟩
set_option maxRecDepth 65536 in
set_option maxHeartbeats 40000000 in
theorem own_al_add1 (l : Launch) (Z : State) (a0 : Array Value) (hw : ∀ d ∈ tables_1, d.before a0 Z = true) (a y x : Addr) (vs : List Addr) (h0 : Heap) (n0 : Nat) (Z0 : n0 ≤ h0.size) (L : OAL1 Z n0 h0 a x vs) (hn : vs.length < 10) (I0 : Ins Z h0 y "java/lang/Object" true) :
    OCon l Z n0 (⟨"java/util/ArrayList", "add", "(Ljava/lang/Object;)Z"⟩ : MethodName) jdk_38_method_25_code 2 (some .boolean) [] ({ frames := 1, cells := 0, slots := 0, locals := 15 } : Room) #[(.ref a), (.ref y)] h0 (OV fun w h => w = .int 1 ∧ OAL1 Z n0 h a x (vs ++ [y]) ∧ Keep h0 h [a, x]) := by
  refine OCon.of (Ls := #[.val (.ref a), .val (.ref y)]) (plainFor_of_name own_pn_8) (fun m => own_entry m rfl) ?_
  intro p e s m below meth c K
  obtain ⟨E, F1, ⟨mc, F2⟩, F3, ⟨k, us, Vx, lx, Ox, Hx⟩, ne1, g_a, g_x⟩ := L
  refine OGo.aloadN K (pc' := 1) own_d11_0 rfl rfl rfl ?_
  refine OGo.dup K (pc' := 2) own_d11_1 rfl rfl ?_
  refine OGo.getF K (pc' := 5) (host := "") (Or.inl (hw _ (List.mem_of_getElem? (i := 66) rfl))) (Via.of (hw _ (List.mem_of_getElem? (i := 67) rfl))) F2 own_d11_2 rfl ?_
  refine OGo.iconst K (pc' := 6) (z := 1) own_d11_5 rfl rfl ?_
  refine OGo.iadd K (pc' := 7) own_d11_6 rfl ?_
  refine OGo.putF K (pc' := 10) (host := "") (Or.inl (hw _ (List.mem_of_getElem? (i := 66) rfl))) (Via.of (hw _ (List.mem_of_getElem? (i := 67) rfl))) F2 E (Or.inl (hw _ (List.mem_of_getElem? (i := 57) rfl))) (hw _ (List.mem_of_getElem? (i := 38) rfl)) (ty := .int) (by decide) rfl rfl g_a own_d11_7 rfl ?_
  intro h1 W1
  have Z1 : n0 ≤ h1.size := by rw [W1.size]; exact Z0
  have Fw_modCount_a_1 := F2.same W1
  have F3_1 := F3.other W1 (Or.inr (slot_ne (Or.inl (hw _ (List.mem_of_getElem? (i := 60) rfl))) (Or.inl (hw _ (List.mem_of_getElem? (i := 57) rfl))) (by decide) (t := (.array (.object "java/lang/Object"))) (t' := .int) (by decide) (by decide)))
  have F1_1 := F1.other W1 (Or.inr (slot_ne (Or.inl (hw _ (List.mem_of_getElem? (i := 69) rfl))) (Or.inl (hw _ (List.mem_of_getElem? (i := 57) rfl))) (by decide) (t := .int) (t' := .int) (by decide) (by decide)))
  have Vx_1 := Vx.other W1 (Ne.symm ne1)
  have E_1 := E.wr W1
  have Kp1 : Keep h0 h1 [a, x] := (Keep.refl h0 [a, x]).wr W1 (Or.inl (List.mem_of_getElem? (i := 0) rfl))
  have L' : OAL1 Z n0 h1 a x vs := ⟨E_1, F1_1, ⟨_, Fw_modCount_a_1⟩, F3_1, ⟨k, us, Vx_1, lx, Ox, Hx⟩, ne1, g_a, g_x⟩
  refine OGo.aloadN K (pc' := 11) own_d11_10 rfl rfl rfl ?_
  refine OGo.aloadN K (pc' := 12) own_d11_11 rfl rfl rfl ?_
  refine OGo.aloadN K (pc' := 13) own_d11_12 rfl rfl rfl ?_
  refine OGo.getF K (pc' := 16) (host := "") (Or.inl (hw _ (List.mem_of_getElem? (i := 59) rfl))) Via.refl F3_1 own_d11_13 rfl ?_
  refine OGo.aloadN K (pc' := 17) own_d11_16 rfl rfl rfl ?_
  refine OGo.getF K (pc' := 20) (host := "") (Or.inl (hw _ (List.mem_of_getElem? (i := 68) rfl))) Via.refl F1_1 own_d11_17 rfl ?_
  refine OGo.callPN K (pc' := 23) (y := (⟨"java/util/ArrayList", "add", "(Ljava/lang/Object;[Ljava/lang/Object;I)V"⟩ : MethodName)) (a := a) (W := 0) (cells' := 0) (slots' := 0) (argsL := [(.ref y), (.ref x), (.int (Int32.ofNat vs.length))]) (st := []) E_1 (hw _ (List.mem_of_getElem? (i := 70) rfl)) (hw _ (List.mem_of_getElem? (i := 71) rfl)) (hw _ (List.mem_of_getElem? (i := 73) rfl)) (hw _ (List.mem_of_getElem? (i := 72) rfl)) (hw _ (List.mem_of_getElem? (i := 39) rfl)) (hw _ (List.mem_of_getElem? (i := 74) rfl)) (by decide) (own_al_add3_1 l Z a0 hw a y x vs h1 n0 Z1 L' hn (own_ins_keep I0 Kp1)) own_d11_20 rfl rfl (lenOf own_pd7 rfl) (by show 2 * 0 + _ ≤ _; exact Nat.le_of_eq rfl) (by decide) (by decide) rfl rfl (by decide) (by decide) ?_
  rintro h2 ⟨L2, K2⟩
  have Z2 : n0 ≤ h2.size := Nat.le_trans Z1 K2.1
  have Kp2 : Keep h0 h2 [a, x] := Kp1.trans K2 (allS (Or.inl (List.mem_of_getElem? (i := 0) rfl)) (allS (Or.inl (List.mem_of_getElem? (i := 1) rfl)) all0))
  refine OGo.iconst K (pc' := 24) (z := 1) own_d11_23 rfl rfl ?_
  exact OGo.ret K own_d11_24 rfl (Or.inl ⟨rfl, by simp, _, rfl⟩) (by decide) (by decide) ⟨_, rfl, rfl, L2, Kp2⟩
set_option maxRecDepth 65536 in
set_option maxHeartbeats 40000000 in
theorem own_al_size (l : Launch) (Z : State) (a0 : Array Value) (hw : ∀ d ∈ tables_1, d.before a0 Z = true) (a : Addr) (v : Int32) (h0 : Heap) (n0 : Nat) (Z0 : n0 ≤ h0.size) (F : Fld Z h0 a "java/util/ArrayList" "size" "I" (.int v)) :
    OCon l Z n0 (⟨"java/util/ArrayList", "size", "()I"⟩ : MethodName) jdk_38_method_8_code 1 (some .int) [] ({ frames := 0, cells := 0, slots := 0, locals := 0 } : Room) #[(.ref a)] h0 (OV fun w h => w = .int v ∧ h = h0) := by
  refine OCon.of (Ls := #[.val (.ref a)]) (plainFor_of_name own_pn_8) (fun m => own_entry m rfl) ?_
  intro p e s m below meth c K
  refine OGo.aloadN K (pc' := 1) own_d31_0 rfl rfl rfl ?_
  refine OGo.getF K (pc' := 4) (host := "") (Or.inl (hw _ (List.mem_of_getElem? (i := 68) rfl))) Via.refl F own_d31_1 rfl ?_
  exact OGo.iret K own_d31_4 (by decide) (by decide) ⟨_, rfl, rfl, rfl⟩
set_option maxRecDepth 65536 in
set_option maxHeartbeats 40000000 in
theorem own_checkIndex (l : Launch) (Z : State) (a0 : Array Value) (hw : ∀ d ∈ tables_1, d.before a0 Z = true) (i v : Int32) (h0 : Heap) (n0 : Nat) (Z0 : n0 ≤ h0.size) (h1 : ¬ i < 0) (h2 : i < v) :
    OCon l Z n0 (⟨"jdk/internal/util/Preconditions", "checkIndex", "(IILjava/util/function/BiFunction;)I"⟩ : MethodName) jdk_41_method_11_code 3 (some .int) [] ({ frames := 0, cells := 0, slots := 0, locals := 0 } : Room) #[(.int i), (.int v), .null] h0 (OV fun w h => w = .int i ∧ h = h0) := by
  refine OCon.of (Ls := #[.val (.int i), .val (.int v), .val .null]) (plainFor_of_name own_pn_34) (fun m => own_entry m rfl) ?_
  intro p e s m below meth c K
  refine OGo.iloadN K (pc' := 1) own_d34_0 rfl rfl ?_
  refine OGo.ifLt K (pc' := 4) (pcY := 9) own_d34_1 rfl (by decide) rfl (fun hc1 => absurd hc1 (h1 : ¬ i < (0 : Int32))) (fun hc1 => ?_)
  refine OGo.iloadN K (pc' := 5) own_d34_4 rfl rfl ?_
  refine OGo.iloadN K (pc' := 6) own_d34_5 rfl rfl ?_
  refine OGo.icmpLt K (pc' := 9) (pcY := 16) own_d34_6 rfl (by decide) rfl (fun hc6 => ?_) (fun hc6 => absurd (h2 : i < v) hc6)
  refine OGo.iloadN K (pc' := 17) own_d34_16 rfl rfl ?_
  exact OGo.iret K own_d34_17 (by decide) (by decide) ⟨_, rfl, rfl, rfl⟩
set_option maxRecDepth 65536 in
set_option maxHeartbeats 40000000 in
theorem own_objCheck (l : Launch) (Z : State) (a0 : Array Value) (hw : ∀ d ∈ tables_1, d.before a0 Z = true) (i v : Int32) (h0 : Heap) (n0 : Nat) (Z0 : n0 ≤ h0.size) (h1 : ¬ i < 0) (h2 : i < v) :
    OCon l Z n0 (⟨"java/util/Objects", "checkIndex", "(II)I"⟩ : MethodName) jdk_31_method_17_code 2 (some .int) [] ({ frames := 1, cells := 0, slots := 0, locals := 14 } : Room) #[(.int i), (.int v)] h0 (OV fun w h => w = .int i ∧ h = h0) := by
  refine OCon.of (Ls := #[.val (.int i), .val (.int v)]) (plainFor_of_name own_pn_33) (fun m => own_entry m rfl) ?_
  intro p e s m below meth c K
  refine OGo.iloadN K (pc' := 1) own_d33_0 rfl rfl ?_
  refine OGo.iloadN K (pc' := 2) own_d33_1 rfl rfl ?_
  refine OGo.aconstNull K (pc' := 3) own_d33_2 rfl ?_
  refine OGo.callSV K (pc' := 6) (y := (⟨"jdk/internal/util/Preconditions", "checkIndex", "(IILjava/util/function/BiFunction;)I"⟩ : MethodName)) (W := 0) (cells' := 0) (slots' := 0) (argsL := [(.int i), (.int v), .null]) (st := []) (hw _ (List.mem_of_getElem? (i := 236) rfl)) (hw _ (List.mem_of_getElem? (i := 237) rfl)) (hw _ (List.mem_of_getElem? (i := 238) rfl)) (hw _ (List.mem_of_getElem? (i := 239) rfl)) (by decide) (own_checkIndex l Z a0 hw i v h0 n0 Z0 h1 h2) own_d33_3 rfl rfl (lenOf own_pd9 rfl) (by show 2 * 0 + _ ≤ _; exact Nat.le_of_eq rfl) (by decide) (by decide) rfl rfl (by decide) (by decide) ?_
  rintro _ h1 ⟨rfl, e1⟩
  rw [e1]
  show OGo p l e _ _ m _ below meth c n0 _ h0 0 0 6 #[.val (.int i), .val (.int v)] [(.int i)]
  exact OGo.iret K own_d33_6 (by decide) (by decide) ⟨_, rfl, rfl, rfl⟩
set_option maxRecDepth 65536 in
set_option maxHeartbeats 40000000 in
theorem own_al_ed (l : Launch) (Z : State) (a0 : Array Value) (hw : ∀ d ∈ tables_1, d.before a0 Z = true) (a x : Addr) (i : Nat) (vs : List Addr) (h0 : Heap) (n0 : Nat) (Z0 : n0 ≤ h0.size) (L : OAL1 Z n0 h0 a x vs) (hi : i < vs.length) (hn : vs.length ≤ 10) :
    OCon l Z n0 (⟨"java/util/ArrayList", "elementData", "(I)Ljava/lang/Object;"⟩ : MethodName) jdk_38_method_18_code 2 (some (.object "java/lang/Object")) [] ({ frames := 0, cells := 0, slots := 0, locals := 0 } : Room) #[(.ref a), (.int (Int32.ofNat i))] h0 (OV fun w h => w = .ref vs[i] ∧ h = h0) := by
  refine OCon.of (Ls := #[.val (.ref a), .val (.int (Int32.ofNat i))]) (plainFor_of_name own_pn_8) (fun m => own_entry m rfl) ?_
  intro p e s m below meth c K
  obtain ⟨E, F1, ⟨mc, F2⟩, F3, ⟨k, us, Vx, lx, Ox, Hx⟩, ne1, g_a, g_x⟩ := L
  obtain ⟨i1, i2, i3, -⟩ := own_i10 (Nat.lt_of_lt_of_le hi hn)
  refine OGo.aloadN K (pc' := 1) own_d35_0 rfl rfl rfl ?_
  refine OGo.getF K (pc' := 4) (host := "") (Or.inl (hw _ (List.mem_of_getElem? (i := 59) rfl))) Via.refl F3 own_d35_1 rfl ?_
  refine OGo.iloadN K (pc' := 5) own_d35_4 rfl rfl ?_
  refine OGo.aaload K (pc' := 6) (v := (.ref vs[i])) Vx rfl ⟨i1, i2⟩ (by rw [i3]; exact Hx i hi) own_d35_5 rfl ?_
  exact OGo.aret K own_d35_6 rfl rfl (by decide) (by decide) ⟨_, rfl, rfl, rfl⟩
set_option maxRecDepth 65536 in
set_option maxHeartbeats 40000000 in
theorem own_al_get (l : Launch) (Z : State) (a0 : Array Value) (hw : ∀ d ∈ tables_1, d.before a0 Z = true) (a x : Addr) (i : Nat) (vs : List Addr) (h0 : Heap) (n0 : Nat) (Z0 : n0 ≤ h0.size) (L : OAL1 Z n0 h0 a x vs) (hi : i < vs.length) (hn : vs.length ≤ 10) :
    OCon l Z n0 (⟨"java/util/ArrayList", "get", "(I)Ljava/lang/Object;"⟩ : MethodName) jdk_38_method_20_code 2 (some (.object "java/lang/Object")) [] ({ frames := 2, cells := 0, slots := 0, locals := 27 } : Room) #[(.ref a), (.int (Int32.ofNat i))] h0 (OV fun w h => w = .ref vs[i] ∧ h = h0) := by
  refine OCon.of (Ls := #[.val (.ref a), .val (.int (Int32.ofNat i))]) (plainFor_of_name own_pn_8) (fun m => own_entry m rfl) ?_
  intro p e s m below meth c K
  obtain ⟨i1, i2, i3, -⟩ := own_i10 (Nat.lt_of_lt_of_le hi hn)
  refine OGo.iloadN K (pc' := 1) own_d32_0 rfl rfl ?_
  refine OGo.aloadN K (pc' := 2) own_d32_1 rfl rfl rfl ?_
  refine OGo.getF K (pc' := 5) (host := "") (Or.inl (hw _ (List.mem_of_getElem? (i := 68) rfl))) Via.refl L.2.1 own_d32_2 rfl ?_
  refine OGo.callSV K (pc' := 8) (y := (⟨"java/util/Objects", "checkIndex", "(II)I"⟩ : MethodName)) (W := 0) (cells' := 0) (slots' := 0) (argsL := [(.int (Int32.ofNat i)), (.int (Int32.ofNat vs.length))]) (st := []) (hw _ (List.mem_of_getElem? (i := 232) rfl)) (hw _ (List.mem_of_getElem? (i := 233) rfl)) (hw _ (List.mem_of_getElem? (i := 234) rfl)) (hw _ (List.mem_of_getElem? (i := 235) rfl)) (by decide) (own_objCheck l Z a0 hw _ _ h0 n0 Z0 i1 (own_i32lt hi (by omega))) own_d32_5 rfl rfl (lenOf own_pd4 rfl) (by show 2 * 0 + _ ≤ _; exact Nat.le_of_eq rfl) (by decide) (by decide) rfl rfl (by decide) (by decide) ?_
  rintro _ h1 ⟨rfl, e1⟩
  rw [e1]
  show OGo p l e _ _ m _ below meth c n0 _ h0 0 0 8 #[.val (.ref a), .val (.int (Int32.ofNat i))] [(.int (Int32.ofNat i))]
  refine OGo.pop K (pc' := 9) own_d32_8 rfl rfl ?_
  refine OGo.aloadN K (pc' := 10) own_d32_9 rfl rfl rfl ?_
  refine OGo.iloadN K (pc' := 11) own_d32_10 rfl rfl ?_
  refine OGo.callVV K (pc' := 14) (y := (⟨"java/util/ArrayList", "elementData", "(I)Ljava/lang/Object;"⟩ : MethodName)) (z := (⟨"java/util/ArrayList", "elementData", "(I)Ljava/lang/Object;"⟩ : MethodName)) (a := a) (W := 0) (cells' := 0) (slots' := 0) (argsL := [(.int (Int32.ofNat i))]) (st := []) L.1 (hw _ (List.mem_of_getElem? (i := 240) rfl)) (hw _ (List.mem_of_getElem? (i := 241) rfl)) (notFace_of_selects (args := #[]) (mvT K.hZ (hw _ (List.mem_of_getElem? (i := 243) rfl)))) (hw _ (List.mem_of_getElem? (i := 243) rfl)) (hw _ (List.mem_of_getElem? (i := 242) rfl)) (hw _ (List.mem_of_getElem? (i := 39) rfl)) (hw _ (List.mem_of_getElem? (i := 244) rfl)) (by decide) (own_al_ed l Z a0 hw a x i vs h0 n0 Z0 L hi hn) own_d32_11 rfl rfl (lenOf own_pd11 rfl) (by show 2 * 0 + _ ≤ _; exact Nat.le_of_eq rfl) (by decide) (by decide) rfl rfl (by decide) (by decide) ?_
  rintro _ h2 ⟨rfl, e2⟩
  rw [e2]
  show OGo p l e _ _ m _ below meth c n0 _ h0 0 0 14 #[.val (.ref a), .val (.int (Int32.ofNat i))] [(.ref vs[i])]
  exact OGo.aret K own_d32_14 rfl rfl (by decide) (by decide) ⟨_, rfl, rfl, rfl⟩
set_option maxRecDepth 65536 in
set_option maxHeartbeats 40000000 in
theorem own_compress5 (l : Launch) (Z : State) (a0 : Array Value) (hw : ∀ d ∈ tables_1, d.before a0 Z = true) (b t : Addr) (kb kt : ClassId) (cs : List Int32) (d : Value) (us0 : List Value) (h0 : Heap) (n0 : Nat) (Z0 : n0 ≤ h0.size) (Vb : Arv Z h0 b kb .char (Int32.ofNat cs.length) (cs.map Value.int) d) (Vt : Arv Z h0 t kt .byte (Int32.ofNat cs.length) us0 (.int 0)) (lt : us0.length = cs.length) (hn : cs.length < 1000) (hc : ∀ c ∈ cs, ¬ (255 : Int32) < c) (nbt : b ≠ t) (g_t : n0 ≤ t) :
    OCon l Z n0 (⟨"java/lang/StringUTF16", "compress", "([CI[BII)I"⟩ : MethodName) jdk_52_method_21_code 7 (some .int) [] ({ frames := 0, cells := 0, slots := 0, locals := 0 } : Room) #[(.ref b), (.int 0), (.ref t), (.int 0), (.int (Int32.ofNat cs.length))] h0 (OV fun w h => w = .int (Int32.ofNat cs.length) ∧ Keep h0 h [t] ∧ Arv Z h t kt .byte (Int32.ofNat cs.length) (cs.map own_by) (.int 0)) := by
  refine OCon.of (Ls := #[.val (.ref b), .val (.int 0), .val (.ref t), .val (.int 0), .val (.int (Int32.ofNat cs.length)), .unset, .unset]) (plainFor_of_name own_pn_6) (fun m => own_entry m rfl) ?_
  intro p e s m below meth c K
  have loop : ∀ (dd i : Nat) (h : Heap) (us : List Value) (s6 : Slot) (h6 : One s6) (hd : i + dd = cs.length) (Zh : n0 ≤ h.size) (Wb : Arv Z h b kb .char (Int32.ofNat cs.length) (cs.map Value.int) d) (Wt : Arv Z h t kt .byte (Int32.ofNat cs.length) us (.int 0)) (lu : us.length = cs.length) (Kp : Keep h0 h [t]) (p1 : ∀ j (hj : j < cs.length), j < i → us.getD j (.int 0) = own_by cs[j]), OGo p l e ({ frames := 0, cells := 0, slots := 0, locals := 0 } : Room) s m #[(.ref b), (.int 0), (.ref t), (.int 0), (.int (Int32.ofNat cs.length))] below meth c n0 (OP s ({ frames := 0, cells := 0, slots := 0, locals := 0 } : Room) n0 (OV fun w h => w = .int (Int32.ofNat cs.length) ∧ Keep h0 h [t] ∧ Arv Z h t kt .byte (Int32.ofNat cs.length) (cs.map own_by) (.int 0))) h 0 0 3 #[.val (.ref b), .val (.int (Int32.ofNat i)), .val (.ref t), .val (.int (Int32.ofNat i)), .val (.int (Int32.ofNat cs.length)), .val (.int (Int32.ofNat i)), s6] [] := by
    intro dd
    induction dd with
    | zero =>
      intro i h us s6 h6 hd Zh Wb Wt lu Kp p1
      have ei : i = cs.length := by omega
      refine OGo.iload K (pc' := 5) own_d6_3 rfl rfl ?_
      refine OGo.iload K (pc' := 7) own_d6_5 rfl rfl ?_
      refine OGo.icmpGe K (pc' := 10) (pcY := 44) own_d6_7 rfl (by decide) rfl (fun hc7 => ?_) (fun hc7 => absurd hc7 ((by rw [ei]; exact Int32.lt_irrefl) : ¬ (Int32.ofNat i) < (Int32.ofNat cs.length)))
      refine OGo.iload K (pc' := 46) own_d6_44 rfl rfl ?_
      exact OGo.iret K own_d6_46 (by decide) (by decide) ⟨_, rfl, rfl, Kp, own_map_of lu (fun j hj => p1 j hj (by omega)) ▸ Wt⟩
    | succ dd ih =>
      intro i h us s6 h6 hd Zh Wb Wt lu Kp p1
      have hi : i < cs.length := by omega
      obtain ⟨-, j1, j3⟩ := own_s32 (n := i) (by omega)
      have j2 := (own_slt (n := i) (N := cs.length) (by omega) hn).mpr hi
      refine OGo.iload K (pc' := 5) own_d6_3 rfl rfl ?_
      refine OGo.iload K (pc' := 7) own_d6_5 rfl rfl ?_
      refine OGo.icmpGe K (pc' := 10) (pcY := 44) own_d6_7 rfl (by decide) rfl (fun hc7 => absurd (j2 : (Int32.ofNat i) < (Int32.ofNat cs.length)) hc7) (fun hc7 => ?_)
      refine OGo.aloadN K (pc' := 11) own_d6_10 rfl rfl rfl ?_
      refine OGo.iloadN K (pc' := 12) own_d6_11 rfl rfl ?_
      refine OGo.caload K (pc' := 13) (v := (.int cs[i])) Wb ⟨j1, j2⟩ (by rw [j3]; exact own_getD_map hi) own_d6_12 rfl ?_
      refine OGo.istore K (pc' := 15) (Ls' := #[.val (.ref b), .val (.int (Int32.ofNat i)), .val (.ref t), .val (.int (Int32.ofNat i)), .val (.int (Int32.ofNat cs.length)), .val (.int (Int32.ofNat i)), .val (.int cs[i])]) own_d6_13 rfl ((XS.store1 rfl h6 rfl).trans rfl) ?_
      refine OGo.iload K (pc' := 17) own_d6_15 rfl rfl ?_
      refine OGo.sipush K (pc' := 20) (z := 255) own_d6_17 rfl rfl ?_
      refine OGo.icmpLe K (pc' := 23) (pcY := 26) own_d6_20 rfl (by decide) rfl (fun hc20 => ?_) (fun hc20 => absurd hc20 (hc _ (List.getElem_mem hi) : ¬ (255 : Int32) < cs[i]))
      refine OGo.aloadN K (pc' := 27) own_d6_26 rfl rfl rfl ?_
      refine OGo.iloadN K (pc' := 28) own_d6_27 rfl rfl ?_
      refine OGo.iload K (pc' := 30) own_d6_28 rfl rfl ?_
      refine OGo.i2b K (pc' := 31) own_d6_30 rfl ?_
      refine OGo.bastore K (pc' := 32) (i := i) Wt ⟨j1, j2⟩ j3 (by rw [lu]; exact hi) g_t own_d6_31 rfl ?_
      intro h1 W1 Wt_1
      have Z1 : n0 ≤ h1.size := by rw [W1.size]; exact Zh
      have Wb_1 := Wb.other W1 nbt
      have Kp1 : Keep h0 h1 [t] := Kp.wr W1 (Or.inl (List.mem_of_getElem? (i := 0) rfl))
      refine OGo.iinc K (pc' := 35) (z := 1) (Ls' := #[.val (.ref b), .val (.int ((Int32.ofNat i) + (1 : Int32))), .val (.ref t), .val (.int (Int32.ofNat i)), .val (.int (Int32.ofNat cs.length)), .val (.int (Int32.ofNat i)), .val (.int cs[i])]) own_d6_32 rfl rfl rfl rfl ?_
      refine OGo.iinc K (pc' := 38) (z := 1) (Ls' := #[.val (.ref b), .val (.int ((Int32.ofNat i) + (1 : Int32))), .val (.ref t), .val (.int ((Int32.ofNat i) + (1 : Int32))), .val (.int (Int32.ofNat cs.length)), .val (.int (Int32.ofNat i)), .val (.int cs[i])]) own_d6_35 rfl rfl rfl rfl ?_
      refine OGo.iinc K (pc' := 41) (z := 1) (Ls' := #[.val (.ref b), .val (.int ((Int32.ofNat i) + (1 : Int32))), .val (.ref t), .val (.int ((Int32.ofNat i) + (1 : Int32))), .val (.int (Int32.ofNat cs.length)), .val (.int ((Int32.ofNat i) + (1 : Int32))), .val (.int cs[i])]) own_d6_38 rfl rfl rfl rfl ?_
      refine OGo.goto K (pc' := 3) own_d6_41 (by decide) rfl ?_
      rw [← inc_ofNat]
      exact ih (i + 1) h1 _ _ (One.val rfl) (by omega) Z1 Wb_1 Wt_1 (by rw [List.length_set]; exact lu) Kp1 (fun j hj hj' => if q : j = i then (by subst q; rw [own_sset_eq (by omega), own_narb]) else (by rw [own_sset_ne (by omega)]; exact p1 j hj (by omega)))
  refine OGo.iconst K (pc' := 1) (z := 0) own_d6_0 rfl rfl ?_
  refine OGo.istore K (pc' := 3) (Ls' := #[.val (.ref b), .val (.int (0 : Int32)), .val (.ref t), .val (.int (0 : Int32)), .val (.int (Int32.ofNat cs.length)), .val (.int (0 : Int32)), .unset]) own_d6_1 rfl rfl ?_
  exact loop cs.length 0 h0 us0 _ One.u (by omega) Z0 Vb Vt lt (Keep.refl _ _) (fun j hj q => absurd q (Nat.not_lt_zero j))
set_option maxRecDepth 65536 in
set_option maxHeartbeats 40000000 in
theorem own_compress3 (l : Launch) (Z : State) (a0 : Array Value) (hw : ∀ d ∈ tables_1, d.before a0 Z = true) (b : Addr) (kb : ClassId) (cs : List Int32) (d : Value) (h0 : Heap) (n0 : Nat) (Z0 : n0 ≤ h0.size) (Vb : Arv Z h0 b kb .char (Int32.ofNat cs.length) (cs.map Value.int) d) (hn : cs.length ≤ 4) (hc : ∀ c ∈ cs, ¬ (255 : Int32) < c) :
    OCon l Z n0 (⟨"java/lang/StringUTF16", "compress", "([CII)[B"⟩ : MethodName) jdk_52_method_16_code 6 (some (.array .byte)) [] ({ frames := 1, cells := 1, slots := 4, locals := 18 } : Room) #[(.ref b), (.int 0), (.int (Int32.ofNat cs.length))] h0 (OV fun w h => ∃ t k, w = .ref t ∧ Keep h0 h [] ∧ Arv Z h t k .byte (Int32.ofNat cs.length) (cs.map own_by) (.int 0) ∧ h0.size ≤ t ∧ n0 ≤ t) := by
  refine OCon.of (Ls := #[.val (.ref b), .val (.int 0), .val (.int (Int32.ofNat cs.length)), .unset, .unset, .unset]) (plainFor_of_name own_pn_6) (fun m => own_entry m rfl) ?_
  intro p e s m below meth c K
  obtain ⟨-, t2, t3⟩ := own_s32 (n := cs.length) (by omega)
  refine OGo.iloadN K (pc' := 1) own_d5_0 rfl rfl ?_
  refine OGo.newP K (pc' := 3) (cap := 4) (cells' := 1) (slots' := 4) (hw _ (List.mem_of_getElem? (i := 23) rfl)) own_d5_1 rfl t2 (by rw [t3]; exact hn) (by decide) rfl rfl (by decide) (by decide) ?_
  intro h1 t k_t gq1 E1 V_t
  have ne_b_t : b ≠ t := Nat.ne_of_lt (Nat.lt_of_lt_of_le Vb.lt (Nat.le_of_eq gq1.symm))
  have g_t : n0 ≤ t := Nat.le_trans Z0 (Nat.le_of_eq gq1.symm)
  have sz_t : h0.size ≤ t := Nat.le_trans (Keep.refl h0 []).1 (Nat.le_of_eq gq1.symm)
  have Z1 : n0 ≤ h1.size := Nat.le_trans Z0 E1.1
  have Kp1 : Keep h0 h1 [] := (Keep.refl h0 []).ext E1
  have Vb_1 := Vb.ext E1
  replace V_t := V_t.pad (pad_rep [] _ cs.length)
  refine OGo.astoreN K (pc' := 4) (Ls' := #[.val (.ref b), .val (.int (0 : Int32)), .val (.int (Int32.ofNat cs.length)), .val (.ref t), .unset, .unset]) own_d5_3 rfl rfl rfl ?_
  refine OGo.aloadN K (pc' := 5) own_d5_4 rfl rfl rfl ?_
  refine OGo.iloadN K (pc' := 6) own_d5_5 rfl rfl ?_
  refine OGo.aloadN K (pc' := 7) own_d5_6 rfl rfl rfl ?_
  refine OGo.iconst K (pc' := 8) (z := 0) own_d5_7 rfl rfl ?_
  refine OGo.iloadN K (pc' := 9) own_d5_8 rfl rfl ?_
  refine OGo.callSV K (pc' := 12) (y := (⟨"java/lang/StringUTF16", "compress", "([CI[BII)I"⟩ : MethodName)) (W := 0) (cells' := 1) (slots' := 4) (argsL := [(.ref b), (.int (0 : Int32)), (.ref t), (.int (0 : Int32)), (.int (Int32.ofNat cs.length))]) (st := []) (hw _ (List.mem_of_getElem? (i := 24) rfl)) (hw _ (List.mem_of_getElem? (i := 25) rfl)) (hw _ (List.mem_of_getElem? (i := 21) rfl)) (hw _ (List.mem_of_getElem? (i := 26) rfl)) (by decide) (own_compress5 l Z a0 hw b t _ _ cs _ _ h1 n0 Z1 Vb_1 V_t (by simp) (by omega) hc ne_b_t g_t) own_d5_9 rfl rfl (lenOf own_pd13 rfl) (by show 2 * 0 + _ ≤ _; exact Nat.le_of_eq rfl) (by decide) (by decide) rfl rfl (by decide) (by decide) ?_
  rintro _ h2 ⟨rfl, K2, Vt2⟩
  have Z2 : n0 ≤ h2.size := Nat.le_trans Z1 K2.1
  have Vb_2 := Vb_1.keep K2 (ninS ne_b_t nin0)
  have Kp2 : Keep h0 h2 [] := Kp1.trans K2 (allS (Or.inr sz_t) all0)
  show OGo p l e _ _ m _ below meth c n0 _ h2 1 4 12 #[.val (.ref b), .val (.int (0 : Int32)), .val (.int (Int32.ofNat cs.length)), .val (.ref t), .unset, .unset] [(.int (Int32.ofNat cs.length))]
  refine OGo.istore K (pc' := 14) (Ls' := #[.val (.ref b), .val (.int (0 : Int32)), .val (.int (Int32.ofNat cs.length)), .val (.ref t), .val (.int (Int32.ofNat cs.length)), .unset]) own_d5_12 rfl rfl ?_
  refine OGo.iload K (pc' := 16) own_d5_14 rfl rfl ?_
  refine OGo.iloadN K (pc' := 17) own_d5_16 rfl rfl ?_
  refine OGo.icmpEq K (pc' := 20) (pcY := 57) own_d5_17 rfl (by decide) rfl (fun hc17 => ?_) (fun hc17 => absurd (rfl : (Int32.ofNat cs.length) = (Int32.ofNat cs.length)) hc17)
  refine OGo.aloadN K (pc' := 58) own_d5_57 rfl rfl rfl ?_
  exact OGo.aret K own_d5_58 rfl rfl (by decide) (by decide) ⟨_, rfl, t, _, rfl, Kp2, Vt2, sz_t, g_t⟩
set_option maxRecDepth 65536 in
set_option maxHeartbeats 40000000 in
theorem own_coderLen (l : Launch) (Z : State) (a0 : Array Value) (hw : ∀ d ∈ tables_1, d.before a0 Z = true) (t : Addr) (kt : ClassId) (z : Int32) (vs : List Value) (d : Value) (h0 : Heap) (n0 : Nat) (Z0 : n0 ≤ h0.size) (Vt : Arv Z h0 t kt .byte z vs d) :
    OCon l Z n0 (⟨"java/lang/StringUTF16", "coderFromArrayLen", "([BI)B"⟩ : MethodName) jdk_52_method_15_code 2 (some .byte) [] ({ frames := 0, cells := 0, slots := 0, locals := 0 } : Room) #[(.ref t), (.int z)] h0 (OV fun w h => w = .int 0 ∧ h = h0) := by
  refine OCon.of (Ls := #[.val (.ref t), .val (.int z)]) (plainFor_of_name own_pn_6) (fun m => own_entry m rfl) ?_
  intro p e s m below meth c K
  refine OGo.iloadN K (pc' := 1) own_d7_0 rfl rfl ?_
  refine OGo.aloadN K (pc' := 2) own_d7_1 rfl rfl rfl ?_
  refine OGo.alen K (pc' := 3) Vt own_d7_2 rfl ?_
  refine OGo.isub K (pc' := 4) own_d7_3 rfl ?_
  rw [show (z - z) = (0 : Int32) from Int32.sub_self _]
  refine OGo.bipush K (pc' := 6) (z := 31) own_d7_4 rfl rfl ?_
  refine OGo.iushr K (pc' := 7) own_d7_6 rfl ?_
  refine OGo.i2b K (pc' := 8) own_d7_7 rfl ?_
  exact OGo.nret K (by simp) own_d7_8 (by decide) (by decide) ⟨_, rfl, by decide, rfl⟩
set_option maxRecDepth 65536 in
set_option maxHeartbeats 40000000 in
theorem own_strC4 (l : Launch) (Z : State) (a0 : Array Value) (hw : ∀ d ∈ tables_1, d.before a0 Z = true) (s' b : Addr) (kb : ClassId) (cs : List Int32) (d u1 u2 : Value) (cz : Int32) (h0 : Heap) (n0 : Nat) (Z0 : n0 ≤ h0.size) (E : Exa Z h0 s' "java/lang/String") (F1 : Fld Z h0 s' "java/lang/String" "value" "[B" u1) (F2 : Fld Z h0 s' "java/lang/String" "coder" "B" u2) (Vb : Arv Z h0 b kb .char (Int32.ofNat cs.length) (cs.map Value.int) d) (h1 : 1 ≤ cs.length) (hn : cs.length ≤ 4) (hc : ∀ c ∈ cs, ¬ (255 : Int32) < c) (Sc : Sta Z h0 "java/lang/String" "COMPACT_STRINGS" "Z" (.int cz)) (hcz : ¬ cz = 0) (g_s' : n0 ≤ s') :
    OCon l Z n0 (⟨"java/lang/String", "<init>", "([CIILjava/lang/Void;)V"⟩ : MethodName) jdk_42_method_149_code 6 none [] ({ frames := 2, cells := 1, slots := 4, locals := 35 } : Room) #[(.ref s'), (.ref b), (.int 0), (.int (Int32.ofNat cs.length)), .null] h0 (ON fun h => ∃ t, OStr Z n0 h s' t cs ∧ Keep h0 h [s'] ∧ h0.size ≤ t) := by
  refine OCon.of (Ls := #[.val (.ref s'), .val (.ref b), .val (.int 0), .val (.int (Int32.ofNat cs.length)), .val .null, .unset]) (plainFor_of_name own_pn_3) (fun m => own_entry m rfl) ?_
  intro p e s m below meth c K
  have hne : ¬ Int32.ofNat cs.length = 0 := fun q => by have := congrArg Int32.toInt q; rw [(own_s32 (by omega)).1, show (0 : Int32).toInt = 0 from rfl] at this; omega
  refine OGo.aloadN K (pc' := 1) own_d3_0 rfl rfl rfl ?_
  refine OGo.initO K (pc' := 4) (W := 0) (hw _ (List.mem_of_getElem? (i := 15) rfl)) (hw _ (List.mem_of_getElem? (i := 16) rfl)) (hw _ (List.mem_of_getElem? (i := 17) rfl)) own_d3_1 rfl rfl (by show 2 * 0 + _ ≤ _; exact Nat.le_of_eq rfl) (by decide) (by decide) ?_
  refine OGo.iloadN K (pc' := 5) own_d3_4 rfl rfl ?_
  refine OGo.ifNe K (pc' := 8) (pcY := 27) own_d3_5 rfl (by decide) rfl (fun hc5 => ?_) (fun hc5 => absurd hc5 (hne : ¬ (Int32.ofNat cs.length) = (0 : Int32)))
  refine OGo.getS K (pc' := 30) (host := "") (Or.inl (hw _ (List.mem_of_getElem? (i := 18) rfl))) Via.refl Sc own_d3_27 rfl ?_
  refine OGo.ifEq K (pc' := 33) (pcY := 58) own_d3_30 rfl (by decide) rfl (fun hc30 => absurd hc30 (hcz : ¬ cz = (0 : Int32))) (fun hc30 => ?_)
  refine OGo.aloadN K (pc' := 34) own_d3_33 rfl rfl rfl ?_
  refine OGo.iloadN K (pc' := 35) own_d3_34 rfl rfl ?_
  refine OGo.iloadN K (pc' := 36) own_d3_35 rfl rfl ?_
  refine OGo.callSV K (pc' := 39) (y := (⟨"java/lang/StringUTF16", "compress", "([CII)[B"⟩ : MethodName)) (W := 0) (cells' := 1) (slots' := 4) (argsL := [(.ref b), (.int (0 : Int32)), (.int (Int32.ofNat cs.length))]) (st := []) (hw _ (List.mem_of_getElem? (i := 19) rfl)) (hw _ (List.mem_of_getElem? (i := 20) rfl)) (hw _ (List.mem_of_getElem? (i := 21) rfl)) (hw _ (List.mem_of_getElem? (i := 22) rfl)) (by decide) (own_compress3 l Z a0 hw b _ cs _ h0 n0 Z0 Vb hn hc) own_d3_36 rfl rfl (lenOf own_pd14 rfl) (by show 2 * 0 + _ ≤ _; exact Nat.le_of_eq rfl) (by decide) (by decide) rfl rfl (by decide) (by decide) ?_
  rintro _ h1 ⟨t, kt, rfl, K1, Vt, s1, g_t⟩
  have Z1 : n0 ≤ h1.size := Nat.le_trans Z0 K1.1
  have ne_s'_t : s' ≠ t := Nat.ne_of_lt (Nat.lt_of_lt_of_le E.lt s1)
  have E_1 := E.keep K1
  have F1_1 := F1.keep K1 nin0
  have F2_1 := F2.keep K1 nin0
  have Kp1 : Keep h0 h1 [s'] := (Keep.refl h0 [s']).trans K1 all0
  show OGo p l e _ _ m _ below meth c n0 _ h1 1 4 39 #[.val (.ref s'), .val (.ref b), .val (.int (0 : Int32)), .val (.int (Int32.ofNat cs.length)), .val .null, .unset] [(.ref t)]
  have sz_t := s1
  refine OGo.astore K (pc' := 41) (Ls' := #[.val (.ref s'), .val (.ref b), .val (.int (0 : Int32)), .val (.int (Int32.ofNat cs.length)), .val .null, .val (.ref t)]) own_d3_39 rfl rfl rfl ?_
  refine OGo.aloadN K (pc' := 42) own_d3_41 rfl rfl rfl ?_
  refine OGo.aload K (pc' := 44) own_d3_42 rfl rfl rfl ?_
  refine OGo.iloadN K (pc' := 45) own_d3_44 rfl rfl ?_
  refine OGo.callSV K (pc' := 48) (y := (⟨"java/lang/StringUTF16", "coderFromArrayLen", "([BI)B"⟩ : MethodName)) (W := 1) (cells' := 1) (slots' := 4) (argsL := [(.ref t), (.int (Int32.ofNat cs.length))]) (st := [(.ref s')]) (hw _ (List.mem_of_getElem? (i := 27) rfl)) (hw _ (List.mem_of_getElem? (i := 28) rfl)) (hw _ (List.mem_of_getElem? (i := 21) rfl)) (hw _ (List.mem_of_getElem? (i := 29) rfl)) (by decide) (own_coderLen l Z a0 hw t _ _ _ _ h1 n0 Z1 Vt) own_d3_45 rfl rfl (lenOf own_pd15 rfl) (by show 2 * 0 + _ ≤ _; exact Nat.le_of_eq rfl) (by decide) (by decide) rfl rfl (by decide) (by decide) ?_
  rintro _ h2 ⟨rfl, e2⟩
  rw [e2]
  show OGo p l e _ _ m _ below meth c n0 _ h1 1 4 48 #[.val (.ref s'), .val (.ref b), .val (.int (0 : Int32)), .val (.int (Int32.ofNat cs.length)), .val .null, .val (.ref t)] [(.int (0 : Int32)), (.ref s')]
  refine OGo.putFN K (pc' := 51) (hw _ (List.mem_of_getElem? (i := 30) rfl)) Via.refl F2_1 E_1 (Or.inr ⟨(hw _ (List.mem_of_getElem? (i := 31) rfl)), rfl, rfl⟩) (hw _ (List.mem_of_getElem? (i := 5) rfl)) (ty := .byte) (v' := (.int (0 : Int32))) (by decide) rfl rfl g_s' own_d3_48 rfl ?_
  intro h3 W3
  have Z3 : n0 ≤ h3.size := by rw [W3.size]; exact Z1
  have Fw_coder_s'_3 := F2_1.same W3
  have E_3 := E_1.wr W3
  have F1_3 := F1_1.other W3 (Or.inr (slot_ne (Or.inr (hw _ (List.mem_of_getElem? (i := 33) rfl))) (Or.inr (hw _ (List.mem_of_getElem? (i := 31) rfl))) (by decide) (t := (.array .byte)) (t' := .byte) (by decide) (by decide)))
  have Vt_3 := Vt.other W3 (Ne.symm ne_s'_t)
  have Kp3 : Keep h0 h3 [s'] := Kp1.wr W3 (Or.inl (List.mem_of_getElem? (i := 0) rfl))
  refine OGo.aloadN K (pc' := 52) own_d3_51 rfl rfl rfl ?_
  refine OGo.aload K (pc' := 54) own_d3_52 rfl rfl rfl ?_
  refine OGo.putF K (pc' := 57) (host := "") (Or.inl (hw _ (List.mem_of_getElem? (i := 32) rfl))) Via.refl F1_3 E_3 (Or.inr ⟨(hw _ (List.mem_of_getElem? (i := 33) rfl)), rfl, rfl⟩) (hw _ (List.mem_of_getElem? (i := 5) rfl)) (ty := (.array .byte)) (by decide) rfl rfl g_s' own_d3_54 rfl ?_
  intro h4 W4
  have Z4 : n0 ≤ h4.size := by rw [W4.size]; exact Z3
  have Fw_value_s'_4 := F1_3.same W4
  have E_4 := E_3.wr W4
  have Fw_coder_s'_4 := Fw_coder_s'_3.other W4 (Or.inr (slot_ne (Or.inr (hw _ (List.mem_of_getElem? (i := 31) rfl))) (Or.inr (hw _ (List.mem_of_getElem? (i := 33) rfl))) (by decide) (t := .byte) (t' := (.array .byte)) (by decide) (by decide)))
  have Vt_4 := Vt_3.other W4 (Ne.symm ne_s'_t)
  have Kp4 : Keep h0 h4 [s'] := Kp3.wr W4 (Or.inl (List.mem_of_getElem? (i := 0) rfl))
  exact OGo.vret K own_d3_57 (by decide) (by decide) ⟨rfl, t, ⟨E_4, Fw_value_s'_4, Fw_coder_s'_4, ⟨_, Vt_4⟩, ne_s'_t, g_s', g_t⟩, Kp4, sz_t⟩
set_option maxRecDepth 65536 in
set_option maxHeartbeats 40000000 in
theorem own_strC (l : Launch) (Z : State) (a0 : Array Value) (hw : ∀ d ∈ tables_1, d.before a0 Z = true) (s' b : Addr) (kb : ClassId) (cs : List Int32) (d u1 u2 : Value) (cz : Int32) (h0 : Heap) (n0 : Nat) (Z0 : n0 ≤ h0.size) (E : Exa Z h0 s' "java/lang/String") (F1 : Fld Z h0 s' "java/lang/String" "value" "[B" u1) (F2 : Fld Z h0 s' "java/lang/String" "coder" "B" u2) (Vb : Arv Z h0 b kb .char (Int32.ofNat cs.length) (cs.map Value.int) d) (h1 : 1 ≤ cs.length) (hn : cs.length ≤ 4) (hc : ∀ c ∈ cs, ¬ (255 : Int32) < c) (Sc : Sta Z h0 "java/lang/String" "COMPACT_STRINGS" "Z" (.int cz)) (hcz : ¬ cz = 0) (g_s' : n0 ≤ s') :
    OCon l Z n0 (⟨"java/lang/String", "<init>", "([C)V"⟩ : MethodName) jdk_42_method_3_code 2 none [] ({ frames := 3, cells := 1, slots := 4, locals := 52 } : Room) #[(.ref s'), (.ref b)] h0 (ON fun h => ∃ t, OStr Z n0 h s' t cs ∧ Keep h0 h [s'] ∧ h0.size ≤ t) := by
  refine OCon.of (Ls := #[.val (.ref s'), .val (.ref b)]) (plainFor_of_name own_pn_3) (fun m => own_entry m rfl) ?_
  intro p e s m below meth c K
  refine OGo.aloadN K (pc' := 1) own_d2_0 rfl rfl rfl ?_
  refine OGo.aloadN K (pc' := 2) own_d2_1 rfl rfl rfl ?_
  refine OGo.iconst K (pc' := 3) (z := 0) own_d2_2 rfl rfl ?_
  refine OGo.aloadN K (pc' := 4) own_d2_3 rfl rfl rfl ?_
  refine OGo.alen K (pc' := 5) Vb own_d2_4 rfl ?_
  refine OGo.aconstNull K (pc' := 6) own_d2_5 rfl ?_
  refine OGo.callIN K (pc' := 9) (y := (⟨"java/lang/String", "<init>", "([CIILjava/lang/Void;)V"⟩ : MethodName)) (a := s') (W := 0) (cells' := 1) (slots' := 4) (argsL := [(.ref b), (.int (0 : Int32)), (.int (Int32.ofNat cs.length)), .null]) (st := []) rfl (hw _ (List.mem_of_getElem? (i := 11) rfl)) (hw _ (List.mem_of_getElem? (i := 12) rfl)) (hw _ (List.mem_of_getElem? (i := 6) rfl)) (hw _ (List.mem_of_getElem? (i := 14) rfl)) (by decide) (own_strC4 l Z a0 hw s' b _ cs _ _ _ cz h0 n0 Z0 E F1 F2 Vb h1 hn hc Sc hcz g_s') own_d2_6 rfl rfl (lenOf own_pd17 rfl) (by show 2 * 0 + _ ≤ _; exact Nat.le_of_eq rfl) (by decide) (by decide) rfl rfl (by decide) (by decide) ?_
  rintro h1 ⟨t, O1, K1, s1⟩
  have Z1 : n0 ≤ h1.size := Nat.le_trans Z0 K1.1
  exact OGo.vret K own_d2_9 (by decide) (by decide) ⟨rfl, t, O1, K1, s1⟩
set_option maxRecDepth 65536 in
set_option maxHeartbeats 40000000 in
theorem own_coder (l : Launch) (Z : State) (a0 : Array Value) (hw : ∀ d ∈ tables_1, d.before a0 Z = true) (s' : Addr) (cz : Int32) (h0 : Heap) (n0 : Nat) (Z0 : n0 ≤ h0.size) (F2 : Fld Z h0 s' "java/lang/String" "coder" "B" (.int 0)) (Sc : OS Z n0 h0 "java/lang/String" "COMPACT_STRINGS" "Z" (.int cz)) (hcz : ¬ cz = 0) :
    OCon l Z n0 (⟨"java/lang/String", "coder", "()B"⟩ : MethodName) jdk_42_method_152_code 1 (some .byte) [] ({ frames := 0, cells := 0, slots := 0, locals := 0 } : Room) #[(.ref s')] h0 (OV fun w h => w = .int 0 ∧ h = h0) := by
  refine OCon.of (Ls := #[.val (.ref s')]) (plainFor_of_name own_pn_3) (fun m => own_entry m rfl) ?_
  intro p e s m below meth c K
  refine OGo.getS K (pc' := 3) (host := "") (Or.inl (hw _ (List.mem_of_getElem? (i := 18) rfl))) Via.refl Sc.sta own_d27_0 rfl ?_
  refine OGo.ifEq K (pc' := 6) (pcY := 13) own_d27_3 rfl (by decide) rfl (fun hc3 => absurd hc3 (hcz : ¬ cz = (0 : Int32))) (fun hc3 => ?_)
  refine OGo.aloadN K (pc' := 7) own_d27_6 rfl rfl rfl ?_
  refine OGo.getF K (pc' := 10) (host := "") (Or.inl (hw _ (List.mem_of_getElem? (i := 30) rfl))) Via.refl F2 own_d27_7 rfl ?_
  refine OGo.goto K (pc' := 14) own_d27_10 (by decide) rfl ?_
  exact OGo.nret K (by simp) own_d27_14 (by decide) (by decide) ⟨_, rfl, by decide, rfl⟩
set_option maxRecDepth 65536 in
set_option maxHeartbeats 40000000 in
theorem own_length (l : Launch) (Z : State) (a0 : Array Value) (hw : ∀ d ∈ tables_1, d.before a0 Z = true) (s' t : Addr) (k : Nat) (vs : List Value) (cz : Int32) (h0 : Heap) (n0 : Nat) (Z0 : n0 ≤ h0.size) (P : OWs Z h0 s' t k vs) (hk : k ≤ 19) (Sc : OS Z n0 h0 "java/lang/String" "COMPACT_STRINGS" "Z" (.int cz)) (hcz : ¬ cz = 0) :
    OCon l Z n0 (⟨"java/lang/String", "length", "()I"⟩ : MethodName) jdk_42_method_54_code 1 (some .int) [] ({ frames := 1, cells := 0, slots := 0, locals := 13 } : Room) #[(.ref s')] h0 (OV fun w h => w = .int (Int32.ofNat k) ∧ h = h0) := by
  refine OCon.of (Ls := #[.val (.ref s')]) (plainFor_of_name own_pn_3) (fun m => own_entry m rfl) ?_
  intro p e s m below meth c K
  obtain ⟨E, F1, F2, kb, Vb⟩ := P
  refine OGo.aloadN K (pc' := 1) own_d26_0 rfl rfl rfl ?_
  refine OGo.getF K (pc' := 4) (host := "") (Or.inl (hw _ (List.mem_of_getElem? (i := 32) rfl))) Via.refl F1 own_d26_1 rfl ?_
  refine OGo.alen K (pc' := 5) Vb own_d26_4 rfl ?_
  refine OGo.aloadN K (pc' := 6) own_d26_5 rfl rfl rfl ?_
  refine OGo.callVV K (pc' := 9) (y := (⟨"java/lang/String", "coder", "()B"⟩ : MethodName)) (z := (⟨"java/lang/String", "coder", "()B"⟩ : MethodName)) (a := s') (W := 1) (cells' := 0) (slots' := 0) (argsL := []) (st := [(.int (Int32.ofNat k))]) E (hw _ (List.mem_of_getElem? (i := 188) rfl)) (hw _ (List.mem_of_getElem? (i := 189) rfl)) (notFace_of_selects (args := #[]) (mvT K.hZ (hw _ (List.mem_of_getElem? (i := 191) rfl)))) (hw _ (List.mem_of_getElem? (i := 191) rfl)) (hw _ (List.mem_of_getElem? (i := 190) rfl)) (hw _ (List.mem_of_getElem? (i := 6) rfl)) (hw _ (List.mem_of_getElem? (i := 192) rfl)) (by decide) (own_coder l Z a0 hw s' cz h0 n0 Z0 F2 Sc hcz) own_d26_6 rfl rfl (lenOf own_pd18 rfl) (by show 2 * 0 + _ ≤ _; exact Nat.le_of_eq rfl) (by decide) (by decide) rfl rfl (by decide) (by decide) ?_
  rintro _ h1 ⟨rfl, e1⟩
  rw [e1]
  show OGo p l e _ _ m _ below meth c n0 _ h0 0 0 9 #[.val (.ref s')] [(.int (0 : Int32)), (.int (Int32.ofNat k))]
  refine OGo.ishr K (pc' := 10) own_d26_9 rfl ?_
  exact OGo.iret K own_d26_10 (by decide) (by decide) ⟨_, rfl, congrArg Value.int (own_sh0 hk), rfl⟩
set_option maxRecDepth 65536 in
set_option maxHeartbeats 40000000 in
theorem own_mis1 (l : Launch) (Z : State) (a0 : Array Value) (hw : ∀ d ∈ tables_1, d.before a0 Z = true) (t u : Addr) (k k' : ClassId) (n : Nat) (vs : List Value) (x : Int32) (h0 : Heap) (n0 : Nat) (Z0 : n0 ≤ h0.size) (Vt : Arv Z h0 t k .byte (Int32.ofNat n) vs (.int 0)) (Vu : Arv Z h0 u k' .byte 1 [.int 45] (.int 0)) (hn : 1 ≤ n ∧ n ≤ 3) (hx : vs.getD 0 (.int 0) = .int x) (hne : ¬ x = 45) :
    OCon l Z n0 (⟨"jdk/internal/util/ArraysSupport", "mismatch", "([BI[BII)I"⟩ : MethodName) jdk_48_method_14_code 8 (some .int) [] ({ frames := 0, cells := 0, slots := 0, locals := 0 } : Room) #[(.ref t), (.int (0 : Int32)), (.ref u), (.int (0 : Int32)), (.int (1 : Int32))] h0 (OV fun w h => w = .int 0 ∧ h = h0) := by
  refine OCon.of (Ls := #[.val (.ref t), .val (.int (0 : Int32)), .val (.ref u), .val (.int (0 : Int32)), .val (.int (1 : Int32)), .unset, .unset, .unset]) (plainFor_of_name own_pn_28) (fun m => own_entry m rfl) ?_
  intro p e s m below meth c K
  refine OGo.iconst K (pc' := 1) (z := 0) own_d28_0 rfl rfl ?_
  refine OGo.istore K (pc' := 3) (Ls' := #[.val (.ref t), .val (.int (0 : Int32)), .val (.ref u), .val (.int (0 : Int32)), .val (.int (1 : Int32)), .val (.int (0 : Int32)), .unset, .unset]) own_d28_1 rfl rfl ?_
  refine OGo.iload K (pc' := 5) own_d28_3 rfl rfl ?_
  refine OGo.bipush K (pc' := 7) (z := 7) own_d28_5 rfl rfl ?_
  refine OGo.icmpLe K (pc' := 10) (pcY := 70) own_d28_7 rfl (by decide) rfl (fun hc7 => ?_) (fun hc7 => absurd hc7 (by decide : ¬ (7 : Int32) < (1 : Int32)))
  refine OGo.iload K (pc' := 72) own_d28_70 rfl rfl ?_
  refine OGo.iload K (pc' := 74) own_d28_72 rfl rfl ?_
  refine OGo.icmpGe K (pc' := 77) (pcY := 101) own_d28_74 rfl (by decide) rfl (fun hc74 => absurd (by decide : (0 : Int32) < (1 : Int32)) hc74) (fun hc74 => ?_)
  refine OGo.aloadN K (pc' := 78) own_d28_77 rfl rfl rfl ?_
  refine OGo.iloadN K (pc' := 79) own_d28_78 rfl rfl ?_
  refine OGo.iload K (pc' := 81) own_d28_79 rfl rfl ?_
  refine OGo.iadd K (pc' := 82) own_d28_81 rfl ?_
  rw [show ((0 : Int32) + (0 : Int32)) = (0 : Int32) from rfl]
  refine OGo.baload K (pc' := 83) (v := (.int x)) Vt ⟨by decide, (own_slt (n := 0) (N := n) (by omega) (by omega)).mpr (by omega)⟩ hx own_d28_82 rfl ?_
  refine OGo.aloadN K (pc' := 84) own_d28_83 rfl rfl rfl ?_
  refine OGo.iloadN K (pc' := 85) own_d28_84 rfl rfl ?_
  refine OGo.iload K (pc' := 87) own_d28_85 rfl rfl ?_
  refine OGo.iadd K (pc' := 88) own_d28_87 rfl ?_
  rw [show ((0 : Int32) + (0 : Int32)) = (0 : Int32) from rfl]
  refine OGo.baload K (pc' := 89) (v := (.int (45 : Int32))) Vu (by decide) rfl own_d28_88 rfl ?_
  refine OGo.icmpEq K (pc' := 92) (pcY := 95) own_d28_89 rfl (by decide) rfl (fun hc89 => absurd hc89 (hne : ¬ x = (45 : Int32))) (fun hc89 => ?_)
  refine OGo.iload K (pc' := 94) own_d28_92 rfl rfl ?_
  exact OGo.iret K own_d28_94 (by decide) (by decide) ⟨_, rfl, rfl, rfl⟩
set_option maxRecDepth 65536 in
set_option maxHeartbeats 40000000 in
theorem own_starts2 (l : Launch) (Z : State) (a0 : Array Value) (hw : ∀ d ∈ tables_1, d.before a0 Z = true) (s' t d td : Addr) (n : Nat) (vs : List Value) (cz : Int32) (h0 : Heap) (n0 : Nat) (Z0 : n0 ≤ h0.size) (P : OWs Z h0 s' t n vs) (Pl : OWs Z h0 d td 1 [.int 45]) (hn : n ≤ 3) (hx : 1 ≤ n → ∃ x, vs.getD 0 (.int 0) = .int x ∧ ¬ x = 45) (Sc : OS Z n0 h0 "java/lang/String" "COMPACT_STRINGS" "Z" (.int cz)) (hcz : ¬ cz = 0) :
    OCon l Z n0 (⟨"java/lang/String", "startsWith", "(Ljava/lang/String;I)Z"⟩ : MethodName) jdk_42_method_75_code 8 (some .boolean) [] ({ frames := 2, cells := 0, slots := 0, locals := 27 } : Room) #[(.ref s'), (.ref d), (.int (0 : Int32))] h0 (OV fun w h => w = .int 0 ∧ h = h0) := by
  refine OCon.of (Ls := #[.val (.ref s'), .val (.ref d), .val (.int (0 : Int32)), .unset, .unset, .unset, .unset, .unset]) (plainFor_of_name own_pn_3) (fun m => own_entry m rfl) ?_
  intro p e s m below meth c K
  obtain ⟨E, F1, F2, kt, Vt⟩ := id P
  obtain ⟨E', G1, G2, kd, Vd⟩ := id Pl
  refine OGo.iloadN K (pc' := 1) own_d25_0 rfl rfl ?_
  refine OGo.ifLt K (pc' := 4) (pcY := 17) own_d25_1 rfl (by decide) rfl (fun hc1 => absurd hc1 (by decide : ¬ (0 : Int32) < (0 : Int32))) (fun hc1 => ?_)
  refine OGo.iloadN K (pc' := 5) own_d25_4 rfl rfl ?_
  refine OGo.aloadN K (pc' := 6) own_d25_5 rfl rfl rfl ?_
  refine OGo.callVV K (pc' := 9) (y := (⟨"java/lang/String", "length", "()I"⟩ : MethodName)) (z := (⟨"java/lang/String", "length", "()I"⟩ : MethodName)) (a := s') (W := 1) (cells' := 0) (slots' := 0) (argsL := []) (st := [(.int (0 : Int32))]) E (hw _ (List.mem_of_getElem? (i := 183) rfl)) (hw _ (List.mem_of_getElem? (i := 184) rfl)) (notFace_of_selects (args := #[]) (mvT K.hZ (hw _ (List.mem_of_getElem? (i := 186) rfl)))) (hw _ (List.mem_of_getElem? (i := 186) rfl)) (hw _ (List.mem_of_getElem? (i := 185) rfl)) (hw _ (List.mem_of_getElem? (i := 6) rfl)) (hw _ (List.mem_of_getElem? (i := 187) rfl)) (by decide) (own_length l Z a0 hw s' t n vs cz h0 n0 Z0 P (by omega) Sc hcz) own_d25_6 rfl rfl (lenOf own_pd20 rfl) (by show 2 * 0 + _ ≤ _; exact Nat.le_of_eq rfl) (by decide) (by decide) rfl rfl (by decide) (by decide) ?_
  rintro _ h1 ⟨rfl, e1⟩
  rw [e1]
  show OGo p l e _ _ m _ below meth c n0 _ h0 0 0 9 #[.val (.ref s'), .val (.ref d), .val (.int (0 : Int32)), .unset, .unset, .unset, .unset, .unset] [(.int (Int32.ofNat n)), (.int (0 : Int32))]
  refine OGo.aloadN K (pc' := 10) own_d25_9 rfl rfl rfl ?_
  refine OGo.callVV K (pc' := 13) (y := (⟨"java/lang/String", "length", "()I"⟩ : MethodName)) (z := (⟨"java/lang/String", "length", "()I"⟩ : MethodName)) (a := d) (W := 2) (cells' := 0) (slots' := 0) (argsL := []) (st := [(.int (Int32.ofNat n)), (.int (0 : Int32))]) E' (hw _ (List.mem_of_getElem? (i := 183) rfl)) (hw _ (List.mem_of_getElem? (i := 184) rfl)) (notFace_of_selects (args := #[]) (mvT K.hZ (hw _ (List.mem_of_getElem? (i := 186) rfl)))) (hw _ (List.mem_of_getElem? (i := 186) rfl)) (hw _ (List.mem_of_getElem? (i := 185) rfl)) (hw _ (List.mem_of_getElem? (i := 6) rfl)) (hw _ (List.mem_of_getElem? (i := 187) rfl)) (by decide) (own_length l Z a0 hw d td 1 _ cz h0 n0 Z0 Pl (by decide) Sc hcz) own_d25_10 rfl rfl (lenOf own_pd20 rfl) (by show 2 * 0 + _ ≤ _; exact Nat.le_of_eq rfl) (by decide) (by decide) rfl rfl (by decide) (by decide) ?_
  rintro _ h2 ⟨rfl, e2⟩
  rw [e2]
  show OGo p l e _ _ m _ below meth c n0 _ h0 0 0 13 #[.val (.ref s'), .val (.ref d), .val (.int (0 : Int32)), .unset, .unset, .unset, .unset, .unset] [(.int (Int32.ofNat 1)), (.int (Int32.ofNat n)), (.int (0 : Int32))]
  refine OGo.isub K (pc' := 14) own_d25_13 rfl ?_
  refine OGo.icmpLe K (pc' := 17) (pcY := 19) own_d25_14 rfl (by decide) rfl (fun hc => ?_) (fun hc => ?_)
  · skip
    have hn1 : 1 ≤ n := by
      rcases Nat.eq_zero_or_pos n with q | q
      · rw [q] at hc; exact absurd (by decide) hc
      · exact q
    obtain ⟨x, hx1, hx2⟩ := hx hn1
    refine OGo.aloadN K (pc' := 20) own_d25_19 rfl rfl rfl ?_
    refine OGo.getF K (pc' := 23) (host := "") (Or.inl (hw _ (List.mem_of_getElem? (i := 32) rfl))) Via.refl F1 own_d25_20 rfl ?_
    refine OGo.astoreN K (pc' := 24) (Ls' := #[.val (.ref s'), .val (.ref d), .val (.int (0 : Int32)), .val (.ref t), .unset, .unset, .unset, .unset]) own_d25_23 rfl rfl rfl ?_
    refine OGo.aloadN K (pc' := 25) own_d25_24 rfl rfl rfl ?_
    refine OGo.getF K (pc' := 28) (host := "") (Or.inl (hw _ (List.mem_of_getElem? (i := 32) rfl))) Via.refl G1 own_d25_25 rfl ?_
    refine OGo.astore K (pc' := 30) (Ls' := #[.val (.ref s'), .val (.ref d), .val (.int (0 : Int32)), .val (.ref t), .val (.ref td), .unset, .unset, .unset]) own_d25_28 rfl rfl rfl ?_
    refine OGo.iconst K (pc' := 31) (z := 0) own_d25_30 rfl rfl ?_
    refine OGo.istore K (pc' := 33) (Ls' := #[.val (.ref s'), .val (.ref d), .val (.int (0 : Int32)), .val (.ref t), .val (.ref td), .val (.int (0 : Int32)), .unset, .unset]) own_d25_31 rfl rfl ?_
    refine OGo.aload K (pc' := 35) own_d25_33 rfl rfl rfl ?_
    refine OGo.alen K (pc' := 36) Vd own_d25_35 rfl ?_
    refine OGo.istore K (pc' := 38) (Ls' := #[.val (.ref s'), .val (.ref d), .val (.int (0 : Int32)), .val (.ref t), .val (.ref td), .val (.int (0 : Int32)), .val (.int (1 : Int32)), .unset]) own_d25_36 rfl rfl ?_
    refine OGo.aloadN K (pc' := 39) own_d25_38 rfl rfl rfl ?_
    refine OGo.callVV K (pc' := 42) (y := (⟨"java/lang/String", "coder", "()B"⟩ : MethodName)) (z := (⟨"java/lang/String", "coder", "()B"⟩ : MethodName)) (a := s') (W := 0) (cells' := 0) (slots' := 0) (argsL := []) (st := []) E (hw _ (List.mem_of_getElem? (i := 188) rfl)) (hw _ (List.mem_of_getElem? (i := 189) rfl)) (notFace_of_selects (args := #[]) (mvT K.hZ (hw _ (List.mem_of_getElem? (i := 191) rfl)))) (hw _ (List.mem_of_getElem? (i := 191) rfl)) (hw _ (List.mem_of_getElem? (i := 190) rfl)) (hw _ (List.mem_of_getElem? (i := 6) rfl)) (hw _ (List.mem_of_getElem? (i := 192) rfl)) (by decide) (own_coder l Z a0 hw s' cz h0 n0 Z0 F2 Sc hcz) own_d25_39 rfl rfl (lenOf own_pd18 rfl) (by show 2 * 0 + _ ≤ _; exact Nat.le_of_eq rfl) (by decide) (by decide) rfl rfl (by decide) (by decide) ?_
    rintro _ h3 ⟨rfl, e3⟩
    rw [e3]
    show OGo p l e _ _ m _ below meth c n0 _ h0 0 0 42 #[.val (.ref s'), .val (.ref d), .val (.int (0 : Int32)), .val (.ref t), .val (.ref td), .val (.int (0 : Int32)), .val (.int (1 : Int32)), .unset] [(.int (0 : Int32))]
    refine OGo.istore K (pc' := 44) (Ls' := #[.val (.ref s'), .val (.ref d), .val (.int (0 : Int32)), .val (.ref t), .val (.ref td), .val (.int (0 : Int32)), .val (.int (1 : Int32)), .val (.int (0 : Int32))]) own_d25_42 rfl rfl ?_
    refine OGo.iload K (pc' := 46) own_d25_44 rfl rfl ?_
    refine OGo.aloadN K (pc' := 47) own_d25_46 rfl rfl rfl ?_
    refine OGo.callVV K (pc' := 50) (y := (⟨"java/lang/String", "coder", "()B"⟩ : MethodName)) (z := (⟨"java/lang/String", "coder", "()B"⟩ : MethodName)) (a := d) (W := 1) (cells' := 0) (slots' := 0) (argsL := []) (st := [(.int (0 : Int32))]) E' (hw _ (List.mem_of_getElem? (i := 188) rfl)) (hw _ (List.mem_of_getElem? (i := 189) rfl)) (notFace_of_selects (args := #[]) (mvT K.hZ (hw _ (List.mem_of_getElem? (i := 191) rfl)))) (hw _ (List.mem_of_getElem? (i := 191) rfl)) (hw _ (List.mem_of_getElem? (i := 190) rfl)) (hw _ (List.mem_of_getElem? (i := 6) rfl)) (hw _ (List.mem_of_getElem? (i := 192) rfl)) (by decide) (own_coder l Z a0 hw d cz h0 n0 Z0 G2 Sc hcz) own_d25_47 rfl rfl (lenOf own_pd18 rfl) (by show 2 * 0 + _ ≤ _; exact Nat.le_of_eq rfl) (by decide) (by decide) rfl rfl (by decide) (by decide) ?_
    rintro _ h4 ⟨rfl, e4⟩
    rw [e4]
    show OGo p l e _ _ m _ below meth c n0 _ h0 0 0 50 #[.val (.ref s'), .val (.ref d), .val (.int (0 : Int32)), .val (.ref t), .val (.ref td), .val (.int (0 : Int32)), .val (.int (1 : Int32)), .val (.int (0 : Int32))] [(.int (0 : Int32)), (.int (0 : Int32))]
    refine OGo.icmpNe K (pc' := 53) (pcY := 82) own_d25_50 rfl (by decide) rfl (fun hc50 => absurd (rfl : (0 : Int32) = (0 : Int32)) hc50) (fun hc50 => ?_)
    refine OGo.iload K (pc' := 55) own_d25_53 rfl rfl ?_
    refine OGo.iconst K (pc' := 56) (z := 1) own_d25_55 rfl rfl ?_
    refine OGo.icmpNe K (pc' := 59) (pcY := 63) own_d25_56 rfl (by decide) rfl (fun hc56 => ?_) (fun hc56 => absurd hc56 (by decide : ¬ (0 : Int32) = (1 : Int32)))
    refine OGo.aloadN K (pc' := 64) own_d25_63 rfl rfl rfl ?_
    refine OGo.iloadN K (pc' := 65) own_d25_64 rfl rfl ?_
    refine OGo.aload K (pc' := 67) own_d25_65 rfl rfl rfl ?_
    refine OGo.iconst K (pc' := 68) (z := 0) own_d25_67 rfl rfl ?_
    refine OGo.iload K (pc' := 70) own_d25_68 rfl rfl ?_
    refine OGo.callSV K (pc' := 73) (y := (⟨"jdk/internal/util/ArraysSupport", "mismatch", "([BI[BII)I"⟩ : MethodName)) (W := 0) (cells' := 0) (slots' := 0) (argsL := [(.ref t), (.int (0 : Int32)), (.ref td), (.int (0 : Int32)), (.int (1 : Int32))]) (st := []) (hw _ (List.mem_of_getElem? (i := 193) rfl)) (hw _ (List.mem_of_getElem? (i := 194) rfl)) (hw _ (List.mem_of_getElem? (i := 195) rfl)) (hw _ (List.mem_of_getElem? (i := 196) rfl)) (by decide) (own_mis1 l Z a0 hw t td _ _ n vs x h0 n0 Z0 Vt Vd ⟨hn1, hn⟩ hx1 hx2) own_d25_70 rfl rfl (lenOf own_pd21 rfl) (by show 2 * 0 + _ ≤ _; exact Nat.le_of_eq rfl) (by decide) (by decide) rfl rfl (by decide) (by decide) ?_
    rintro _ h5 ⟨rfl, e5⟩
    rw [e5]
    show OGo p l e _ _ m _ below meth c n0 _ h0 0 0 73 #[.val (.ref s'), .val (.ref d), .val (.int (0 : Int32)), .val (.ref t), .val (.ref td), .val (.int (0 : Int32)), .val (.int (1 : Int32)), .val (.int (0 : Int32))] [(.int (0 : Int32))]
    refine OGo.ifGe K (pc' := 76) (pcY := 80) own_d25_73 rfl (by decide) rfl (fun hc73 => ?_) (fun hc73 => absurd hc73 (by decide : ¬ (0 : Int32) < (0 : Int32)))
    refine OGo.iconst K (pc' := 81) (z := 0) own_d25_80 rfl rfl ?_
    exact OGo.ret K own_d25_81 rfl (Or.inl ⟨rfl, by simp, _, rfl⟩) (by decide) (by decide) ⟨_, rfl, rfl, rfl⟩
  · skip
    refine OGo.iconst K (pc' := 18) (z := 0) own_d25_17 rfl rfl ?_
    exact OGo.ret K own_d25_18 rfl (Or.inl ⟨rfl, by simp, _, rfl⟩) (by decide) (by decide) ⟨_, rfl, rfl, rfl⟩
set_option maxRecDepth 65536 in
set_option maxHeartbeats 40000000 in
theorem own_starts1 (l : Launch) (Z : State) (a0 : Array Value) (hw : ∀ d ∈ tables_1, d.before a0 Z = true) (s' t d td : Addr) (n : Nat) (vs : List Value) (cz : Int32) (h0 : Heap) (n0 : Nat) (Z0 : n0 ≤ h0.size) (P : OWs Z h0 s' t n vs) (Pl : OWs Z h0 d td 1 [.int 45]) (hn : n ≤ 3) (hx : 1 ≤ n → ∃ x, vs.getD 0 (.int 0) = .int x ∧ ¬ x = 45) (Sc : OS Z n0 h0 "java/lang/String" "COMPACT_STRINGS" "Z" (.int cz)) (hcz : ¬ cz = 0) :
    OCon l Z n0 (⟨"java/lang/String", "startsWith", "(Ljava/lang/String;)Z"⟩ : MethodName) jdk_42_method_76_code 2 (some .boolean) [] ({ frames := 3, cells := 0, slots := 0, locals := 46 } : Room) #[(.ref s'), (.ref d)] h0 (OV fun w h => w = .int 0 ∧ h = h0) := by
  refine OCon.of (Ls := #[.val (.ref s'), .val (.ref d)]) (plainFor_of_name own_pn_3) (fun m => own_entry m rfl) ?_
  intro p e s m below meth c K
  refine OGo.aloadN K (pc' := 1) own_d24_0 rfl rfl rfl ?_
  refine OGo.aloadN K (pc' := 2) own_d24_1 rfl rfl rfl ?_
  refine OGo.iconst K (pc' := 3) (z := 0) own_d24_2 rfl rfl ?_
  refine OGo.callVV K (pc' := 6) (y := (⟨"java/lang/String", "startsWith", "(Ljava/lang/String;I)Z"⟩ : MethodName)) (z := (⟨"java/lang/String", "startsWith", "(Ljava/lang/String;I)Z"⟩ : MethodName)) (a := s') (W := 0) (cells' := 0) (slots' := 0) (argsL := [(.ref d), (.int (0 : Int32))]) (st := []) P.1 (hw _ (List.mem_of_getElem? (i := 178) rfl)) (hw _ (List.mem_of_getElem? (i := 179) rfl)) (notFace_of_selects (args := #[]) (mvT K.hZ (hw _ (List.mem_of_getElem? (i := 181) rfl)))) (hw _ (List.mem_of_getElem? (i := 181) rfl)) (hw _ (List.mem_of_getElem? (i := 180) rfl)) (hw _ (List.mem_of_getElem? (i := 6) rfl)) (hw _ (List.mem_of_getElem? (i := 182) rfl)) (by decide) (own_starts2 l Z a0 hw s' t d td n vs cz h0 n0 Z0 P Pl hn hx Sc hcz) own_d24_3 rfl rfl (lenOf own_pd22 rfl) (by show 2 * 0 + _ ≤ _; exact Nat.le_of_eq rfl) (by decide) (by decide) rfl rfl (by decide) (by decide) ?_
  rintro _ h1 ⟨rfl, e1⟩
  rw [e1]
  show OGo p l e _ _ m _ below meth c n0 _ h0 0 0 6 #[.val (.ref s'), .val (.ref d)] [(.int (0 : Int32))]
  exact OGo.ret K own_d24_6 rfl (Or.inl ⟨rfl, by simp, _, rfl⟩) (by decide) (by decide) ⟨_, rfl, rfl, rfl⟩
set_option maxRecDepth 65536 in
set_option maxHeartbeats 40000000 in
theorem own_it_init (l : Launch) (Z : State) (a0 : Array Value) (hw : ∀ d ∈ tables_1, d.before a0 Z = true) (it a : Addr) (u1 u2 u3 : Value) (mc : Int32) (h0 : Heap) (n0 : Nat) (Z0 : n0 ≤ h0.size) (E : Exa Z h0 it "java/util/ArrayList$Itr") (G1 : Fld Z h0 it "java/util/ArrayList$Itr" "this$0" "Ljava/util/ArrayList;" u1) (G2 : Fld Z h0 it "java/util/ArrayList$Itr" "lastRet" "I" u2) (G3 : Fld Z h0 it "java/util/ArrayList$Itr" "expectedModCount" "I" u3) (G4 : Fld Z h0 it "java/util/ArrayList$Itr" "cursor" "I" (.int 0)) (Fm : Fld Z h0 a "java/util/AbstractList" "modCount" "I" (.int mc)) (nia : it ≠ a) (g_it : n0 ≤ it) :
    OCon l Z n0 (⟨"java/util/ArrayList$Itr", "<init>", "(Ljava/util/ArrayList;)V"⟩ : MethodName) jdk_49_method_1_code 2 none [] ({ frames := 1, cells := 0, slots := 0, locals := 12 } : Room) #[(.ref it), (.ref a)] h0 (ON fun h => Keep h0 h [it] ∧ Exa Z h it "java/util/ArrayList$Itr" ∧ Fld Z h it "java/util/ArrayList$Itr" "this$0" "Ljava/util/ArrayList;" (.ref a) ∧ (∃ u, Fld Z h it "java/util/ArrayList$Itr" "lastRet" "I" u) ∧ Fld Z h it "java/util/ArrayList$Itr" "expectedModCount" "I" (.int mc) ∧ Fld Z h it "java/util/ArrayList$Itr" "cursor" "I" (.int 0)) := by
  refine OCon.of (Ls := #[.val (.ref it), .val (.ref a)]) (plainFor_of_name own_pn_20) (fun m => own_entry m rfl) ?_
  intro p e s m below meth c K
  refine OGo.aloadN K (pc' := 1) own_d20_0 rfl rfl rfl ?_
  refine OGo.aloadN K (pc' := 2) own_d20_1 rfl rfl rfl ?_
  refine OGo.putF K (pc' := 5) (host := "") (Or.inl (hw _ (List.mem_of_getElem? (i := 137) rfl))) Via.refl G1 E (Or.inr ⟨(hw _ (List.mem_of_getElem? (i := 138) rfl)), rfl, rfl⟩) (hw _ (List.mem_of_getElem? (i := 131) rfl)) (ty := (.object "java/util/ArrayList")) (by decide) rfl rfl g_it own_d20_2 rfl ?_
  intro h1 W1
  have Z1 : n0 ≤ h1.size := by rw [W1.size]; exact Z0
  have Fw_this_0_it_1 := G1.same W1
  have E_1 := E.wr W1
  have Fm_1 := Fm.other W1 (Or.inl (Ne.symm nia))
  have G2_1 := G2.other W1 (Or.inr (slot_ne (Or.inl (hw _ (List.mem_of_getElem? (i := 141) rfl))) (Or.inr (hw _ (List.mem_of_getElem? (i := 138) rfl))) (by decide) (t := .int) (t' := (.object "java/util/ArrayList")) (by decide) (by decide)))
  have G3_1 := G3.other W1 (Or.inr (slot_ne (Or.inl (hw _ (List.mem_of_getElem? (i := 144) rfl))) (Or.inr (hw _ (List.mem_of_getElem? (i := 138) rfl))) (by decide) (t := .int) (t' := (.object "java/util/ArrayList")) (by decide) (by decide)))
  have G4_1 := G4.other W1 (Or.inr (slot_ne (Or.inl (hw _ (List.mem_of_getElem? (i := 155) rfl))) (Or.inr (hw _ (List.mem_of_getElem? (i := 138) rfl))) (by decide) (t := .int) (t' := (.object "java/util/ArrayList")) (by decide) (by decide)))
  have Kp1 : Keep h0 h1 [it] := (Keep.refl h0 [it]).wr W1 (Or.inl (List.mem_of_getElem? (i := 0) rfl))
  refine OGo.aloadN K (pc' := 6) own_d20_5 rfl rfl rfl ?_
  refine OGo.initO K (pc' := 9) (W := 0) (hw _ (List.mem_of_getElem? (i := 139) rfl)) (hw _ (List.mem_of_getElem? (i := 16) rfl)) (hw _ (List.mem_of_getElem? (i := 17) rfl)) own_d20_6 rfl rfl (by show 2 * 0 + _ ≤ _; exact Nat.le_of_eq rfl) (by decide) (by decide) ?_
  refine OGo.aloadN K (pc' := 10) own_d20_9 rfl rfl rfl ?_
  refine OGo.iconst K (pc' := 11) (z := (-1)) own_d20_10 rfl rfl ?_
  refine OGo.putF K (pc' := 14) (host := "") (Or.inl (hw _ (List.mem_of_getElem? (i := 140) rfl))) Via.refl G2_1 E_1 (Or.inl (hw _ (List.mem_of_getElem? (i := 141) rfl))) (hw _ (List.mem_of_getElem? (i := 131) rfl)) (ty := .int) (by decide) rfl rfl g_it own_d20_11 rfl ?_
  intro h2 W2
  have Z2 : n0 ≤ h2.size := by rw [W2.size]; exact Z1
  have Fw_lastRet_it_2 := G2_1.same W2
  have E_2 := E_1.wr W2
  have Fm_2 := Fm_1.other W2 (Or.inl (Ne.symm nia))
  have Fw_this_0_it_2 := Fw_this_0_it_1.other W2 (Or.inr (slot_ne (Or.inr (hw _ (List.mem_of_getElem? (i := 138) rfl))) (Or.inl (hw _ (List.mem_of_getElem? (i := 141) rfl))) (by decide) (t := (.object "java/util/ArrayList")) (t' := .int) (by decide) (by decide)))
  have G3_2 := G3_1.other W2 (Or.inr (slot_ne (Or.inl (hw _ (List.mem_of_getElem? (i := 144) rfl))) (Or.inl (hw _ (List.mem_of_getElem? (i := 141) rfl))) (by decide) (t := .int) (t' := .int) (by decide) (by decide)))
  have G4_2 := G4_1.other W2 (Or.inr (slot_ne (Or.inl (hw _ (List.mem_of_getElem? (i := 155) rfl))) (Or.inl (hw _ (List.mem_of_getElem? (i := 141) rfl))) (by decide) (t := .int) (t' := .int) (by decide) (by decide)))
  have Kp2 : Keep h0 h2 [it] := Kp1.wr W2 (Or.inl (List.mem_of_getElem? (i := 0) rfl))
  refine OGo.aloadN K (pc' := 15) own_d20_14 rfl rfl rfl ?_
  refine OGo.aloadN K (pc' := 16) own_d20_15 rfl rfl rfl ?_
  refine OGo.getF K (pc' := 19) (host := "") (Or.inl (hw _ (List.mem_of_getElem? (i := 137) rfl))) Via.refl Fw_this_0_it_2 own_d20_16 rfl ?_
  refine OGo.getF K (pc' := 22) (host := "") (Or.inl (hw _ (List.mem_of_getElem? (i := 142) rfl))) (Via.of (hw _ (List.mem_of_getElem? (i := 67) rfl))) Fm_2 own_d20_19 rfl ?_
  refine OGo.putF K (pc' := 25) (host := "") (Or.inl (hw _ (List.mem_of_getElem? (i := 143) rfl))) Via.refl G3_2 E_2 (Or.inl (hw _ (List.mem_of_getElem? (i := 144) rfl))) (hw _ (List.mem_of_getElem? (i := 131) rfl)) (ty := .int) (by decide) rfl rfl g_it own_d20_22 rfl ?_
  intro h3 W3
  have Z3 : n0 ≤ h3.size := by rw [W3.size]; exact Z2
  have Fw_expectedModCount_it_3 := G3_2.same W3
  have E_3 := E_2.wr W3
  have Fm_3 := Fm_2.other W3 (Or.inl (Ne.symm nia))
  have Fw_this_0_it_3 := Fw_this_0_it_2.other W3 (Or.inr (slot_ne (Or.inr (hw _ (List.mem_of_getElem? (i := 138) rfl))) (Or.inl (hw _ (List.mem_of_getElem? (i := 144) rfl))) (by decide) (t := (.object "java/util/ArrayList")) (t' := .int) (by decide) (by decide)))
  have Fw_lastRet_it_3 := Fw_lastRet_it_2.other W3 (Or.inr (slot_ne (Or.inl (hw _ (List.mem_of_getElem? (i := 141) rfl))) (Or.inl (hw _ (List.mem_of_getElem? (i := 144) rfl))) (by decide) (t := .int) (t' := .int) (by decide) (by decide)))
  have G4_3 := G4_2.other W3 (Or.inr (slot_ne (Or.inl (hw _ (List.mem_of_getElem? (i := 155) rfl))) (Or.inl (hw _ (List.mem_of_getElem? (i := 144) rfl))) (by decide) (t := .int) (t' := .int) (by decide) (by decide)))
  have Kp3 : Keep h0 h3 [it] := Kp2.wr W3 (Or.inl (List.mem_of_getElem? (i := 0) rfl))
  exact OGo.vret K own_d20_25 (by decide) (by decide) ⟨rfl, Kp3, E_3, Fw_this_0_it_3, ⟨_, Fw_lastRet_it_3⟩, Fw_expectedModCount_it_3, G4_3⟩
set_option maxRecDepth 65536 in
set_option maxHeartbeats 40000000 in
theorem own_al_it (l : Launch) (Z : State) (a0 : Array Value) (hw : ∀ d ∈ tables_1, d.before a0 Z = true) (a : Addr) (mc : Int32) (h0 : Heap) (n0 : Nat) (Z0 : n0 ≤ h0.size) (Fm : Fld Z h0 a "java/util/AbstractList" "modCount" "I" (.int mc)) :
    OCon l Z n0 (⟨"java/util/ArrayList", "iterator", "()Ljava/util/Iterator;"⟩ : MethodName) jdk_38_method_55_code 1 (some (.object "java/util/Iterator")) [] ({ frames := 2, cells := 1, slots := 4, locals := 26 } : Room) #[(.ref a)] h0 (OV fun w h => ∃ it, w = .ref it ∧ Keep h0 h [] ∧ Exa Z h it "java/util/ArrayList$Itr" ∧ Fld Z h it "java/util/ArrayList$Itr" "this$0" "Ljava/util/ArrayList;" (.ref a) ∧ (∃ u, Fld Z h it "java/util/ArrayList$Itr" "lastRet" "I" u) ∧ Fld Z h it "java/util/ArrayList$Itr" "expectedModCount" "I" (.int mc) ∧ Fld Z h it "java/util/ArrayList$Itr" "cursor" "I" (.int 0) ∧ h0.size ≤ it ∧ n0 ≤ it) := by
  refine OCon.of (Ls := #[.val (.ref a)]) (plainFor_of_name own_pn_8) (fun m => own_entry m rfl) ?_
  intro p e s m below meth c K
  refine OGo.newO K (pc' := 3) (cells' := 1) (slots' := 4) (hw _ (List.mem_of_getElem? (i := 130) rfl)) (hw _ (List.mem_of_getElem? (i := 131) rfl)) (hw _ (List.mem_of_getElem? (i := 132) rfl)) own_d19_0 rfl rfl rfl (by decide) (by decide) ?_
  intro h1 it gq1 E1 A1 D1
  have ne_a_it : a ≠ it := Nat.ne_of_lt (Nat.lt_of_lt_of_le Fm.lt (Nat.le_of_eq gq1.symm))
  have g_it : n0 ≤ it := Nat.le_trans Z0 (Nat.le_of_eq gq1.symm)
  have sz_it : h0.size ≤ it := Nat.le_trans (Keep.refl h0 []).1 (Nat.le_of_eq gq1.symm)
  have Z1 : n0 ≤ h1.size := Nat.le_trans Z0 E1.1
  have Kp1 : Keep h0 h1 [] := (Keep.refl h0 []).ext E1
  have Fm_1 := Fm.ext E1
  have F_this_0_it : Fld Z h1 it "java/util/ArrayList$Itr" "this$0" "Ljava/util/ArrayList;" .null := D1 (Or.inr (hw _ (List.mem_of_getElem? (i := 138) rfl))) (ty := (.object "java/util/ArrayList")) (by decide)
  have F_lastRet_it : Fld Z h1 it "java/util/ArrayList$Itr" "lastRet" "I" (.int (0 : Int32)) := D1 (Or.inl (hw _ (List.mem_of_getElem? (i := 141) rfl))) (ty := .int) (by decide)
  have F_expectedModCount_it : Fld Z h1 it "java/util/ArrayList$Itr" "expectedModCount" "I" (.int (0 : Int32)) := D1 (Or.inl (hw _ (List.mem_of_getElem? (i := 144) rfl))) (ty := .int) (by decide)
  have F_cursor_it : Fld Z h1 it "java/util/ArrayList$Itr" "cursor" "I" (.int (0 : Int32)) := D1 (Or.inl (hw _ (List.mem_of_getElem? (i := 155) rfl))) (ty := .int) (by decide)
  refine OGo.dup K (pc' := 4) own_d19_3 rfl rfl ?_
  refine OGo.aloadN K (pc' := 5) own_d19_4 rfl rfl rfl ?_
  refine OGo.callIN K (pc' := 8) (y := (⟨"java/util/ArrayList$Itr", "<init>", "(Ljava/util/ArrayList;)V"⟩ : MethodName)) (a := it) (W := 1) (cells' := 1) (slots' := 4) (argsL := [(.ref a)]) (st := [(.ref it)]) rfl (hw _ (List.mem_of_getElem? (i := 133) rfl)) (hw _ (List.mem_of_getElem? (i := 134) rfl)) (hw _ (List.mem_of_getElem? (i := 132) rfl)) (hw _ (List.mem_of_getElem? (i := 136) rfl)) (by decide) (own_it_init l Z a0 hw it a _ _ _ mc h1 n0 Z1 A1 F_this_0_it F_lastRet_it F_expectedModCount_it F_cursor_it Fm_1 (Ne.symm ne_a_it) g_it) own_d19_5 rfl rfl (lenOf own_pd24 rfl) (by show 2 * 0 + _ ≤ _; exact Nat.le_of_eq rfl) (by decide) (by decide) rfl rfl (by decide) (by decide) ?_
  rintro h2 ⟨K2, Q1, Q2, Q3, Q4, Q5⟩
  have Z2 : n0 ≤ h2.size := Nat.le_trans Z1 K2.1
  have Fm_2 := Fm_1.keep K2 (ninS ne_a_it nin0)
  have Kp2 : Keep h0 h2 [] := Kp1.trans K2 (allS (Or.inr sz_it) all0)
  exact OGo.aret K own_d19_8 rfl rfl (by decide) (by decide) ⟨_, rfl, it, rfl, Kp2, Q1, Q2, Q3, Q4, Q5, sz_it, g_it⟩
set_option maxRecDepth 65536 in
set_option maxHeartbeats 40000000 in
theorem own_it_has (l : Launch) (Z : State) (a0 : Array Value) (hw : ∀ d ∈ tables_1, d.before a0 Z = true) (it a : Addr) (i v : Int32) (h0 : Heap) (n0 : Nat) (Z0 : n0 ≤ h0.size) (G1 : Fld Z h0 it "java/util/ArrayList$Itr" "this$0" "Ljava/util/ArrayList;" (.ref a)) (G4 : Fld Z h0 it "java/util/ArrayList$Itr" "cursor" "I" (.int i)) (F : Fld Z h0 a "java/util/ArrayList" "size" "I" (.int v)) :
    OCon l Z n0 (⟨"java/util/ArrayList$Itr", "hasNext", "()Z"⟩ : MethodName) jdk_49_method_2_code 1 (some .boolean) [] ({ frames := 0, cells := 0, slots := 0, locals := 0 } : Room) #[(.ref it)] h0 (OV fun w h => w = .int (if i = v then 0 else 1) ∧ h = h0) := by
  refine OCon.of (Ls := #[.val (.ref it)]) (plainFor_of_name own_pn_20) (fun m => own_entry m rfl) ?_
  intro p e s m below meth c K
  refine OGo.aloadN K (pc' := 1) own_d21_0 rfl rfl rfl ?_
  refine OGo.getF K (pc' := 4) (host := "") (Or.inl (hw _ (List.mem_of_getElem? (i := 154) rfl))) Via.refl G4 own_d21_1 rfl ?_
  refine OGo.aloadN K (pc' := 5) own_d21_4 rfl rfl rfl ?_
  refine OGo.getF K (pc' := 8) (host := "") (Or.inl (hw _ (List.mem_of_getElem? (i := 137) rfl))) Via.refl G1 own_d21_5 rfl ?_
  refine OGo.getF K (pc' := 11) (Or.inr (hw _ (List.mem_of_getElem? (i := 156) rfl))) Via.refl F own_d21_8 rfl ?_
  refine OGo.icmpEq K (pc' := 14) (pcY := 18) own_d21_11 rfl (by decide) rfl (fun hc => ?_) (fun hc => ?_)
  · skip
    refine OGo.iconst K (pc' := 19) (z := 0) own_d21_18 rfl rfl ?_
    exact OGo.ret K own_d21_19 rfl (Or.inl ⟨rfl, by simp, _, rfl⟩) (by decide) (by decide) ⟨_, rfl, by rw [if_pos hc], rfl⟩
  · skip
    refine OGo.iconst K (pc' := 15) (z := 1) own_d21_14 rfl rfl ?_
    refine OGo.goto K (pc' := 19) own_d21_15 (by decide) rfl ?_
    exact OGo.ret K own_d21_19 rfl (Or.inl ⟨rfl, by simp, _, rfl⟩) (by decide) (by decide) ⟨_, rfl, by rw [if_neg hc], rfl⟩
set_option maxRecDepth 65536 in
set_option maxHeartbeats 40000000 in
theorem own_it_chk (l : Launch) (Z : State) (a0 : Array Value) (hw : ∀ d ∈ tables_1, d.before a0 Z = true) (it a : Addr) (mc : Int32) (h0 : Heap) (n0 : Nat) (Z0 : n0 ≤ h0.size) (G1 : Fld Z h0 it "java/util/ArrayList$Itr" "this$0" "Ljava/util/ArrayList;" (.ref a)) (G3 : Fld Z h0 it "java/util/ArrayList$Itr" "expectedModCount" "I" (.int mc)) (Fm : Fld Z h0 a "java/util/AbstractList" "modCount" "I" (.int mc)) :
    OCon l Z n0 (⟨"java/util/ArrayList$Itr", "checkForComodification", "()V"⟩ : MethodName) jdk_49_method_6_code 1 none [] ({ frames := 0, cells := 0, slots := 0, locals := 0 } : Room) #[(.ref it)] h0 (ON fun h => h = h0) := by
  refine OCon.of (Ls := #[.val (.ref it)]) (plainFor_of_name own_pn_20) (fun m => own_entry m rfl) ?_
  intro p e s m below meth c K
  refine OGo.aloadN K (pc' := 1) own_d23_0 rfl rfl rfl ?_
  refine OGo.getF K (pc' := 4) (host := "") (Or.inl (hw _ (List.mem_of_getElem? (i := 137) rfl))) Via.refl G1 own_d23_1 rfl ?_
  refine OGo.getF K (pc' := 7) (host := "") (Or.inl (hw _ (List.mem_of_getElem? (i := 142) rfl))) (Via.of (hw _ (List.mem_of_getElem? (i := 67) rfl))) Fm own_d23_4 rfl ?_
  refine OGo.aloadN K (pc' := 8) own_d23_7 rfl rfl rfl ?_
  refine OGo.getF K (pc' := 11) (host := "") (Or.inl (hw _ (List.mem_of_getElem? (i := 143) rfl))) Via.refl G3 own_d23_8 rfl ?_
  refine OGo.icmpEq K (pc' := 14) (pcY := 22) own_d23_11 rfl (by decide) rfl (fun hc11 => ?_) (fun hc11 => absurd (rfl : mc = mc) hc11)
  exact OGo.vret K own_d23_22 (by decide) (by decide) ⟨rfl, rfl⟩
set_option maxRecDepth 65536 in
set_option maxHeartbeats 40000000 in
theorem own_it_next (l : Launch) (Z : State) (a0 : Array Value) (hw : ∀ d ∈ tables_1, d.before a0 Z = true) (it a x y : Addr) (mc : Int32) (u : Value) (h0 : Heap) (n0 : Nat) (Z0 : n0 ≤ h0.size) (E : Exa Z h0 it "java/util/ArrayList$Itr") (G1 : Fld Z h0 it "java/util/ArrayList$Itr" "this$0" "Ljava/util/ArrayList;" (.ref a)) (G2 : Fld Z h0 it "java/util/ArrayList$Itr" "lastRet" "I" u) (G3 : Fld Z h0 it "java/util/ArrayList$Itr" "expectedModCount" "I" (.int mc)) (G4 : Fld Z h0 it "java/util/ArrayList$Itr" "cursor" "I" (.int 0)) (L : OAL1 Z n0 h0 a x [y]) (Fm : Fld Z h0 a "java/util/AbstractList" "modCount" "I" (.int mc)) (nia : it ≠ a) (nix : it ≠ x) (g_it : n0 ≤ it) :
    OCon l Z n0 (⟨"java/util/ArrayList$Itr", "next", "()Ljava/lang/Object;"⟩ : MethodName) jdk_49_method_3_code 3 (some (.object "java/lang/Object")) [] ({ frames := 1, cells := 0, slots := 0, locals := 12 } : Room) #[(.ref it)] h0 (OV fun w h => w = .ref y ∧ Keep h0 h [it] ∧ Fld Z h it "java/util/ArrayList$Itr" "this$0" "Ljava/util/ArrayList;" (.ref a) ∧ Fld Z h it "java/util/ArrayList$Itr" "cursor" "I" (.int 1)) := by
  refine OCon.of (Ls := #[.val (.ref it), .unset, .unset]) (plainFor_of_name own_pn_20) (fun m => own_entry m rfl) ?_
  intro p e s m below meth c K
  obtain ⟨E', F1, -, F3, ⟨k, us, Vx, lx, Ox, Hx⟩, ne1, g_a, g_x⟩ := L
  refine OGo.aloadN K (pc' := 1) own_d22_0 rfl rfl rfl ?_
  refine OGo.callVN K (pc' := 4) (y := (⟨"java/util/ArrayList$Itr", "checkForComodification", "()V"⟩ : MethodName)) (z := (⟨"java/util/ArrayList$Itr", "checkForComodification", "()V"⟩ : MethodName)) (a := it) (W := 0) (cells' := 0) (slots' := 0) (argsL := []) (st := []) E (hw _ (List.mem_of_getElem? (i := 165) rfl)) (hw _ (List.mem_of_getElem? (i := 166) rfl)) (notFace_of_selects (args := #[]) (mvT K.hZ (hw _ (List.mem_of_getElem? (i := 168) rfl)))) (hw _ (List.mem_of_getElem? (i := 168) rfl)) (hw _ (List.mem_of_getElem? (i := 167) rfl)) (hw _ (List.mem_of_getElem? (i := 132) rfl)) (hw _ (List.mem_of_getElem? (i := 169) rfl)) (by decide) (own_it_chk l Z a0 hw it a mc h0 n0 Z0 G1 G3 Fm) own_d22_1 rfl rfl (lenOf own_pd1 rfl) (by show 2 * 0 + _ ≤ _; exact Nat.le_of_eq rfl) (by decide) (by decide) rfl rfl (by decide) (by decide) ?_
  rintro h1 e1
  rw [e1]
  refine OGo.aloadN K (pc' := 5) own_d22_4 rfl rfl rfl ?_
  refine OGo.getF K (pc' := 8) (host := "") (Or.inl (hw _ (List.mem_of_getElem? (i := 154) rfl))) Via.refl G4 own_d22_5 rfl ?_
  refine OGo.istoreN K (pc' := 9) (Ls' := #[.val (.ref it), .val (.int (0 : Int32)), .unset]) own_d22_8 rfl rfl ?_
  refine OGo.iloadN K (pc' := 10) own_d22_9 rfl rfl ?_
  refine OGo.aloadN K (pc' := 11) own_d22_10 rfl rfl rfl ?_
  refine OGo.getF K (pc' := 14) (host := "") (Or.inl (hw _ (List.mem_of_getElem? (i := 137) rfl))) Via.refl G1 own_d22_11 rfl ?_
  refine OGo.getF K (pc' := 17) (Or.inr (hw _ (List.mem_of_getElem? (i := 156) rfl))) Via.refl F1 own_d22_14 rfl ?_
  refine OGo.icmpLt K (pc' := 20) (pcY := 28) own_d22_17 rfl (by decide) rfl (fun hc17 => ?_) (fun hc17 => absurd (by decide : (0 : Int32) < (1 : Int32)) hc17)
  refine OGo.aloadN K (pc' := 29) own_d22_28 rfl rfl rfl ?_
  refine OGo.getF K (pc' := 32) (host := "") (Or.inl (hw _ (List.mem_of_getElem? (i := 137) rfl))) Via.refl G1 own_d22_29 rfl ?_
  refine OGo.getF K (pc' := 35) (host := "") (Or.inl (hw _ (List.mem_of_getElem? (i := 170) rfl))) Via.refl F3 own_d22_32 rfl ?_
  refine OGo.astoreN K (pc' := 36) (Ls' := #[.val (.ref it), .val (.int (0 : Int32)), .val (.ref x)]) own_d22_35 rfl rfl rfl ?_
  refine OGo.iloadN K (pc' := 37) own_d22_36 rfl rfl ?_
  refine OGo.aloadN K (pc' := 38) own_d22_37 rfl rfl rfl ?_
  refine OGo.alen K (pc' := 39) Vx own_d22_38 rfl ?_
  refine OGo.icmpLt K (pc' := 42) (pcY := 50) own_d22_39 rfl (by decide) rfl (fun hc39 => ?_) (fun hc39 => absurd (by decide : (0 : Int32) < (10 : Int32)) hc39)
  refine OGo.aloadN K (pc' := 51) own_d22_50 rfl rfl rfl ?_
  refine OGo.iloadN K (pc' := 52) own_d22_51 rfl rfl ?_
  refine OGo.iconst K (pc' := 53) (z := 1) own_d22_52 rfl rfl ?_
  refine OGo.iadd K (pc' := 54) own_d22_53 rfl ?_
  rw [show ((0 : Int32) + (1 : Int32)) = (1 : Int32) from rfl]
  refine OGo.putF K (pc' := 57) (host := "") (Or.inl (hw _ (List.mem_of_getElem? (i := 154) rfl))) Via.refl G4 E (Or.inl (hw _ (List.mem_of_getElem? (i := 155) rfl))) (hw _ (List.mem_of_getElem? (i := 131) rfl)) (ty := .int) (by decide) rfl rfl g_it own_d22_54 rfl ?_
  intro h2 W2
  have Z2 : n0 ≤ h2.size := by rw [W2.size]; exact Z0
  have Fw_cursor_it_2 := G4.same W2
  have E_2 := E.wr W2
  have Fm_2 := Fm.other W2 (Or.inl (Ne.symm nia))
  have F1_2 := F1.other W2 (Or.inl (Ne.symm nia))
  have F3_2 := F3.other W2 (Or.inl (Ne.symm nia))
  have Vx_2 := Vx.other W2 (Ne.symm nix)
  have G1_2 := G1.other W2 (Or.inr (slot_ne (Or.inr (hw _ (List.mem_of_getElem? (i := 138) rfl))) (Or.inl (hw _ (List.mem_of_getElem? (i := 155) rfl))) (by decide) (t := (.object "java/util/ArrayList")) (t' := .int) (by decide) (by decide)))
  have G2_2 := G2.other W2 (Or.inr (slot_ne (Or.inl (hw _ (List.mem_of_getElem? (i := 141) rfl))) (Or.inl (hw _ (List.mem_of_getElem? (i := 155) rfl))) (by decide) (t := .int) (t' := .int) (by decide) (by decide)))
  have G3_2 := G3.other W2 (Or.inr (slot_ne (Or.inl (hw _ (List.mem_of_getElem? (i := 144) rfl))) (Or.inl (hw _ (List.mem_of_getElem? (i := 155) rfl))) (by decide) (t := .int) (t' := .int) (by decide) (by decide)))
  have Kp2 : Keep h0 h2 [it] := (Keep.refl h0 [it]).wr W2 (Or.inl (List.mem_of_getElem? (i := 0) rfl))
  refine OGo.aloadN K (pc' := 58) own_d22_57 rfl rfl rfl ?_
  refine OGo.aloadN K (pc' := 59) own_d22_58 rfl rfl rfl ?_
  refine OGo.iloadN K (pc' := 60) own_d22_59 rfl rfl ?_
  refine OGo.dupX1 K (pc' := 61) own_d22_60 rfl rfl rfl ?_
  refine OGo.putF K (pc' := 64) (host := "") (Or.inl (hw _ (List.mem_of_getElem? (i := 140) rfl))) Via.refl G2_2 E_2 (Or.inl (hw _ (List.mem_of_getElem? (i := 141) rfl))) (hw _ (List.mem_of_getElem? (i := 131) rfl)) (ty := .int) (by decide) rfl rfl g_it own_d22_61 rfl ?_
  intro h3 W3
  have Z3 : n0 ≤ h3.size := by rw [W3.size]; exact Z2
  have Fw_lastRet_it_3 := G2_2.same W3
  have E_3 := E_2.wr W3
  have Fm_3 := Fm_2.other W3 (Or.inl (Ne.symm nia))
  have F1_3 := F1_2.other W3 (Or.inl (Ne.symm nia))
  have F3_3 := F3_2.other W3 (Or.inl (Ne.symm nia))
  have Vx_3 := Vx_2.other W3 (Ne.symm nix)
  have G1_3 := G1_2.other W3 (Or.inr (slot_ne (Or.inr (hw _ (List.mem_of_getElem? (i := 138) rfl))) (Or.inl (hw _ (List.mem_of_getElem? (i := 141) rfl))) (by decide) (t := (.object "java/util/ArrayList")) (t' := .int) (by decide) (by decide)))
  have G3_3 := G3_2.other W3 (Or.inr (slot_ne (Or.inl (hw _ (List.mem_of_getElem? (i := 144) rfl))) (Or.inl (hw _ (List.mem_of_getElem? (i := 141) rfl))) (by decide) (t := .int) (t' := .int) (by decide) (by decide)))
  have Fw_cursor_it_3 := Fw_cursor_it_2.other W3 (Or.inr (slot_ne (Or.inl (hw _ (List.mem_of_getElem? (i := 155) rfl))) (Or.inl (hw _ (List.mem_of_getElem? (i := 141) rfl))) (by decide) (t := .int) (t' := .int) (by decide) (by decide)))
  have Kp3 : Keep h0 h3 [it] := Kp2.wr W3 (Or.inl (List.mem_of_getElem? (i := 0) rfl))
  refine OGo.aaload K (pc' := 65) (v := (.ref y)) Vx_3 rfl (by decide) (Hx 0 (Nat.le_of_ble_eq_true rfl)) own_d22_64 rfl ?_
  exact OGo.aret K own_d22_65 rfl rfl (by decide) (by decide) ⟨_, rfl, rfl, Kp3, G1_3, Fw_cursor_it_3⟩
set_option maxRecDepth 65536 in
set_option maxHeartbeats 40000000 in
theorem own_am_init (l : Launch) (Z : State) (a0 : Array Value) (hw : ∀ d ∈ tables_1, d.before a0 Z = true) (a : Addr) (h0 : Heap) (n0 : Nat) (Z0 : n0 ≤ h0.size)  :
    OCon l Z n0 (⟨"java/util/AbstractMap", "<init>", "()V"⟩ : MethodName) jdk_71_method_1_code 1 none [] ({ frames := 1, cells := 0, slots := 0, locals := 12 } : Room) #[(.ref a)] h0 (ON fun h => h = h0) := by
  refine OCon.of (Ls := #[.val (.ref a)]) (plainFor_of_name own_pn_18) (fun m => own_entry m rfl) ?_
  intro p e s m below meth c K
  refine OGo.aloadN K (pc' := 1) own_d18_0 rfl rfl rfl ?_
  refine OGo.initO K (pc' := 4) (W := 0) (hw _ (List.mem_of_getElem? (i := 115) rfl)) (hw _ (List.mem_of_getElem? (i := 16) rfl)) (hw _ (List.mem_of_getElem? (i := 17) rfl)) own_d18_1 rfl rfl (by show 2 * 0 + _ ≤ _; exact Nat.le_of_eq rfl) (by decide) (by decide) ?_
  exact OGo.vret K own_d18_4 (by decide) (by decide) ⟨rfl, rfl⟩
set_option maxRecDepth 65536 in
set_option maxHeartbeats 40000000 in
theorem own_hm_init (l : Launch) (Z : State) (a0 : Array Value) (hw : ∀ d ∈ tables_1, d.before a0 Z = true) (a : Addr) (u : Value) (h0 : Heap) (n0 : Nat) (Z0 : n0 ≤ h0.size) (E : Exa Z h0 a "java/util/HashMap") (F : Fld Z h0 a "java/util/HashMap" "loadFactor" "F" u) (g_a : n0 ≤ a) :
    OCon l Z n0 (⟨"java/util/HashMap", "<init>", "()V"⟩ : MethodName) jdk_69_method_7_code 1 none [] ({ frames := 2, cells := 0, slots := 0, locals := 24 } : Room) #[(.ref a)] h0 (ON fun h => Keep h0 h [a]) := by
  refine OCon.of (Ls := #[.val (.ref a)]) (plainFor_of_name own_pn_17) (fun m => own_entry m rfl) ?_
  intro p e s m below meth c K
  refine OGo.aloadN K (pc' := 1) own_d17_0 rfl rfl rfl ?_
  refine OGo.callIN K (pc' := 4) (y := (⟨"java/util/AbstractMap", "<init>", "()V"⟩ : MethodName)) (a := a) (W := 0) (cells' := 0) (slots' := 0) (argsL := []) (st := []) rfl (hw _ (List.mem_of_getElem? (i := 109) rfl)) (hw _ (List.mem_of_getElem? (i := 110) rfl)) (hw _ (List.mem_of_getElem? (i := 113) rfl)) (hw _ (List.mem_of_getElem? (i := 114) rfl)) (by decide) (own_am_init l Z a0 hw a h0 n0 Z0) own_d17_1 rfl rfl (lenOf own_pd1 rfl) (by show 2 * 0 + _ ≤ _; exact Nat.le_of_eq rfl) (by decide) (by decide) rfl rfl (by decide) (by decide) ?_
  rintro h1 e1
  rw [e1]
  refine OGo.aloadN K (pc' := 5) own_d17_4 rfl rfl rfl ?_
  refine OGo.ldcF K (pc' := 7) (v := 1061158912) (hw _ (List.mem_of_getElem? (i := 116) rfl)) own_d17_5 rfl ?_
  refine OGo.putF K (pc' := 10) (host := "") (Or.inl (hw _ (List.mem_of_getElem? (i := 117) rfl))) Via.refl F E (Or.inr ⟨(hw _ (List.mem_of_getElem? (i := 118) rfl)), rfl, rfl⟩) (hw _ (List.mem_of_getElem? (i := 104) rfl)) (ty := .float) (by decide) rfl rfl g_a own_d17_7 rfl ?_
  intro h2 W2
  have Z2 : n0 ≤ h2.size := by rw [W2.size]; exact Z0
  have Fw_loadFactor_a_2 := F.same W2
  have E_2 := E.wr W2
  have Kp2 : Keep h0 h2 [a] := (Keep.refl h0 [a]).wr W2 (Or.inl (List.mem_of_getElem? (i := 0) rfl))
  exact OGo.vret K own_d17_10 (by decide) (by decide) ⟨rfl, Kp2⟩
set_option maxRecDepth 65536 in
set_option maxHeartbeats 40000000 in
theorem own_al_empty (l : Launch) (Z : State) (a0 : Array Value) (hw : ∀ d ∈ tables_1, d.before a0 Z = true) (a : Addr) (v : Int32) (h0 : Heap) (n0 : Nat) (Z0 : n0 ≤ h0.size) (F : Fld Z h0 a "java/util/ArrayList" "size" "I" (.int v)) :
    OCon l Z n0 (⟨"java/util/ArrayList", "isEmpty", "()Z"⟩ : MethodName) jdk_38_method_9_code 1 (some .boolean) [] ({ frames := 0, cells := 0, slots := 0, locals := 0 } : Room) #[(.ref a)] h0 (OV fun w h => w = .int (if v = 0 then 1 else 0) ∧ h = h0) := by
  refine OCon.of (Ls := #[.val (.ref a)]) (plainFor_of_name own_pn_8) (fun m => own_entry m rfl) ?_
  intro p e s m below meth c K
  refine OGo.aloadN K (pc' := 1) own_d30_0 rfl rfl rfl ?_
  refine OGo.getF K (pc' := 4) (host := "") (Or.inl (hw _ (List.mem_of_getElem? (i := 68) rfl))) Via.refl F own_d30_1 rfl ?_
  refine OGo.ifNe K (pc' := 7) (pcY := 11) own_d30_4 rfl (by decide) rfl (fun hc => ?_) (fun hc => ?_)
  · skip
    refine OGo.iconst K (pc' := 12) (z := 0) own_d30_11 rfl rfl ?_
    exact OGo.ret K own_d30_12 rfl (Or.inl ⟨rfl, by simp, _, rfl⟩) (by decide) (by decide) ⟨_, rfl, by rw [if_neg hc], rfl⟩
  · skip
    refine OGo.iconst K (pc' := 8) (z := 1) own_d30_7 rfl rfl ?_
    refine OGo.goto K (pc' := 12) own_d30_8 (by decide) rfl ?_
    exact OGo.ret K own_d30_12 rfl (Or.inl ⟨rfl, by simp, _, rfl⟩) (by decide) (by decide) ⟨_, rfl, by rw [if_pos hc], rfl⟩
set_option maxRecDepth 65536 in
set_option maxHeartbeats 40000000 in
theorem own_only (l : Launch) (Z : State) (a0 : Array Value) (hw : ∀ d ∈ tables_1, d.before a0 Z = true) (a q p' x y : Addr) (h0 : Heap) (n0 : Nat) (Z0 : n0 ≤ h0.size) (F : Fld Z h0 a "com/example/nextfront/nextfront/cli/Arguments" "positional" "Ljava/util/List;" (.ref p')) (L : OAL1 Z n0 h0 p' x [y]) (Ey : Exa Z h0 y "java/lang/String") :
    OCon l Z n0 (⟨"com/example/nextfront/nextfront/cli/Arguments", "onlyPositional", "(Ljava/lang/String;)Ljava/lang/String;"⟩ : MethodName) prog_1_method_2_code 2 (some (.object "java/lang/String")) [] ({ frames := 3, cells := 0, slots := 0, locals := 40 } : Room) #[(.ref a), (.ref q)] h0 (OV fun w h => w = .ref y ∧ h = h0) := by
  refine OCon.of (Ls := #[.val (.ref a), .val (.ref q)]) (plainFor_of_name own_pn_29) (fun m => own_entry m rfl) ?_
  intro p e s m below meth c K
  refine OGo.aloadN K (pc' := 1) own_d29_0 rfl rfl rfl ?_
  refine OGo.getF K (pc' := 4) (host := "") (Or.inl (hw _ (List.mem_of_getElem? (i := 101) rfl))) Via.refl F own_d29_1 rfl ?_
  refine OGo.callFV K (pc' := 9) (y := (⟨"java/util/List", "isEmpty", "()Z"⟩ : MethodName)) (z := (⟨"java/util/ArrayList", "isEmpty", "()Z"⟩ : MethodName)) (a := p') (W := 0) (cells' := 0) (slots' := 0) (argsL := []) (st := []) L.1 (hw _ (List.mem_of_getElem? (i := 208) rfl)) (hw _ (List.mem_of_getElem? (i := 209) rfl)) (hw _ (List.mem_of_getElem? (i := 210) rfl)) (hw _ (List.mem_of_getElem? (i := 211) rfl)) (hw _ (List.mem_of_getElem? (i := 212) rfl)) (hw _ (List.mem_of_getElem? (i := 213) rfl)) (hw _ (List.mem_of_getElem? (i := 214) rfl)) (hw _ (List.mem_of_getElem? (i := 128) rfl)) (hw _ (List.mem_of_getElem? (i := 39) rfl)) (hw _ (List.mem_of_getElem? (i := 215) rfl)) (by decide) (own_al_empty l Z a0 hw p' 1 h0 n0 Z0 L.2.1) own_d29_4 rfl rfl (lenOf own_pd27 rfl) (by show 2 * 0 + _ ≤ _; exact Nat.le_of_eq rfl) (by decide) (by decide) rfl rfl (by decide) (by decide) ?_
  rintro _ h1 ⟨rfl, e1⟩
  rw [e1]
  show OGo p l e _ _ m _ below meth c n0 _ h0 0 0 9 #[.val (.ref a), .val (.ref q)] [(.int (if (1 : Int32) = 0 then 1 else 0))]
  refine OGo.ifEq K (pc' := 12) (pcY := 26) own_d29_9 rfl (by decide) rfl (fun hc9 => ?_) (fun hc9 => absurd (by decide : (if (1 : Int32) = 0 then 1 else 0) = (0 : Int32)) hc9)
  refine OGo.aloadN K (pc' := 27) own_d29_26 rfl rfl rfl ?_
  refine OGo.getF K (pc' := 30) (host := "") (Or.inl (hw _ (List.mem_of_getElem? (i := 101) rfl))) Via.refl F own_d29_27 rfl ?_
  refine OGo.callFV K (pc' := 35) (y := (⟨"java/util/List", "size", "()I"⟩ : MethodName)) (z := (⟨"java/util/ArrayList", "size", "()I"⟩ : MethodName)) (a := p') (W := 0) (cells' := 0) (slots' := 0) (argsL := []) (st := []) L.1 (hw _ (List.mem_of_getElem? (i := 216) rfl)) (hw _ (List.mem_of_getElem? (i := 217) rfl)) (hw _ (List.mem_of_getElem? (i := 218) rfl)) (hw _ (List.mem_of_getElem? (i := 219) rfl)) (hw _ (List.mem_of_getElem? (i := 220) rfl)) (hw _ (List.mem_of_getElem? (i := 221) rfl)) (hw _ (List.mem_of_getElem? (i := 222) rfl)) (hw _ (List.mem_of_getElem? (i := 128) rfl)) (hw _ (List.mem_of_getElem? (i := 39) rfl)) (hw _ (List.mem_of_getElem? (i := 223) rfl)) (by decide) (own_al_size l Z a0 hw p' 1 h0 n0 Z0 L.2.1) own_d29_30 rfl rfl (lenOf own_pd20 rfl) (by show 2 * 0 + _ ≤ _; exact Nat.le_of_eq rfl) (by decide) (by decide) rfl rfl (by decide) (by decide) ?_
  rintro _ h2 ⟨rfl, e2⟩
  rw [e2]
  show OGo p l e _ _ m _ below meth c n0 _ h0 0 0 35 #[.val (.ref a), .val (.ref q)] [(.int (1 : Int32))]
  refine OGo.iconst K (pc' := 36) (z := 1) own_d29_35 rfl rfl ?_
  refine OGo.icmpLe K (pc' := 39) (pcY := 65) own_d29_36 rfl (by decide) rfl (fun hc36 => ?_) (fun hc36 => absurd hc36 (by decide : ¬ (1 : Int32) < (1 : Int32)))
  refine OGo.aloadN K (pc' := 66) own_d29_65 rfl rfl rfl ?_
  refine OGo.getF K (pc' := 69) (host := "") (Or.inl (hw _ (List.mem_of_getElem? (i := 101) rfl))) Via.refl F own_d29_66 rfl ?_
  refine OGo.iconst K (pc' := 70) (z := 0) own_d29_69 rfl rfl ?_
  refine OGo.callFV K (pc' := 75) (y := (⟨"java/util/List", "get", "(I)Ljava/lang/Object;"⟩ : MethodName)) (z := (⟨"java/util/ArrayList", "get", "(I)Ljava/lang/Object;"⟩ : MethodName)) (a := p') (W := 0) (cells' := 0) (slots' := 0) (argsL := [(.int (0 : Int32))]) (st := []) L.1 (hw _ (List.mem_of_getElem? (i := 224) rfl)) (hw _ (List.mem_of_getElem? (i := 225) rfl)) (hw _ (List.mem_of_getElem? (i := 226) rfl)) (hw _ (List.mem_of_getElem? (i := 227) rfl)) (hw _ (List.mem_of_getElem? (i := 228) rfl)) (hw _ (List.mem_of_getElem? (i := 229) rfl)) (hw _ (List.mem_of_getElem? (i := 230) rfl)) (hw _ (List.mem_of_getElem? (i := 128) rfl)) (hw _ (List.mem_of_getElem? (i := 39) rfl)) (hw _ (List.mem_of_getElem? (i := 231) rfl)) (by decide) (own_al_get l Z a0 hw p' x 0 [y] h0 n0 Z0 L (Nat.le_of_ble_eq_true rfl) (Nat.le_of_ble_eq_true rfl)) own_d29_70 rfl rfl (lenOf own_pd11 rfl) (by show 2 * 0 + _ ≤ _; exact Nat.le_of_eq rfl) (by decide) (by decide) rfl rfl (by decide) (by decide) ?_
  rintro _ h3 ⟨rfl, e3⟩
  rw [e3]
  show OGo p l e _ _ m _ below meth c n0 _ h0 0 0 75 #[.val (.ref a), .val (.ref q)] [(.ref y)]
  refine OGo.castY K (pc' := 78) (hw _ (List.mem_of_getElem? (i := 171) rfl)) (Ins.of_exa Ey (hw _ (List.mem_of_getElem? (i := 13) rfl))) own_d29_75 rfl ?_
  exact OGo.aret K own_d29_78 rfl rfl (by decide) (by decide) ⟨_, rfl, rfl, rfl⟩
set_option maxRecDepth 65536 in
set_option maxHeartbeats 40000000 in
theorem own_equals (l : Launch) (Z : State) (a0 : Array Value) (hw : ∀ d ∈ tables_1, d.before a0 Z = true) (y : Addr) (h0 : Heap) (n0 : Nat) (Z0 : n0 ≤ h0.size)  :
    OCon l Z n0 (⟨"java/lang/String", "equals", "(Ljava/lang/Object;)Z"⟩ : MethodName) jdk_42_method_66_code 3 (some .boolean) [] ({ frames := 0, cells := 0, slots := 0, locals := 0 } : Room) #[(.ref y), (.ref y)] h0 (OV fun w h => w = .int 1 ∧ h = h0) := by
  refine OCon.of (Ls := #[.val (.ref y), .val (.ref y), .unset]) (plainFor_of_name own_pn_3) (fun m => own_entry m rfl) ?_
  intro p e s m below meth c K
  refine OGo.aloadN K (pc' := 1) own_d36_0 rfl rfl rfl ?_
  refine OGo.aloadN K (pc' := 2) own_d36_1 rfl rfl rfl ?_
  refine OGo.acmp K (pc' := 5) (same := true) own_d36_2 rfl rfl (decide_eq_true rfl) (by decide) rfl ?_
  refine OGo.iconst K (pc' := 6) (z := 1) own_d36_5 rfl rfl ?_
  exact OGo.ret K own_d36_6 rfl (Or.inl ⟨rfl, by simp, _, rfl⟩) (by decide) (by decide) ⟨_, rfl, rfl, rfl⟩
set_option maxRecDepth 65536 in
set_option maxHeartbeats 40000000 in
theorem own_draw1 (l : Launch) (Z : State) (a0 : Array Value) (hw : ∀ d ∈ tables_1, d.before a0 Z = true) (c0 c1 c2 : Int32) (cz : Int32) (h0 : Heap) (n0 : Nat) (Z0 : n0 ≤ h0.size) (hc : ∀ x ∈ [nar .char c0], ¬ (255 : Int32) < x) (Sc : OS Z n0 h0 "java/lang/String" "COMPACT_STRINGS" "Z" (.int cz)) (hcz : ¬ cz = 0) :
    OCon l Z n0 (⟨"com/example/nextfront/nextfront/cli/ArgumentsOnlyPositionalPinLaw", "draw", "(ICCC)Ljava/lang/String;"⟩ : MethodName) method_2_code 4 (some (.object "java/lang/String")) [] ({ frames := 4, cells := 3, slots := 9, locals := 66 } : Room) #[(.int (1 : Int32)), (.int c0), (.int c1), (.int c2)] h0 (OV fun w h => ∃ s' t, w = .ref s' ∧ Keep h0 h [] ∧ OWs Z h s' t 1 ([nar .char c0].map own_by) ∧ h0.size ≤ s' ∧ h0.size ≤ t) := by
  refine OCon.of (Ls := #[.val (.int (1 : Int32)), .val (.int c0), .val (.int c1), .val (.int c2)]) (plainFor_of_name own_pn_1) (fun m => own_entry m rfl) ?_
  intro p e s m below meth c K
  refine OGo.iloadN K (pc' := 1) own_d1_0 rfl rfl ?_
  refine OGo.ifNe K (pc' := 4) (pcY := 15) own_d1_1 rfl (by decide) rfl (fun hc1 => ?_) (fun hc1 => absurd hc1 (by decide : ¬ (1 : Int32) = (0 : Int32)))
  refine OGo.iloadN K (pc' := 16) own_d1_15 rfl rfl ?_
  refine OGo.iconst K (pc' := 17) (z := 1) own_d1_16 rfl rfl ?_
  refine OGo.icmpNe K (pc' := 20) (pcY := 35) own_d1_17 rfl (by decide) rfl (fun hc17 => absurd (rfl : (1 : Int32) = (1 : Int32)) hc17) (fun hc17 => ?_)
  refine OGo.newO K (pc' := 23) (cells' := 1) (slots' := 4) (hw _ (List.mem_of_getElem? (i := 4) rfl)) (hw _ (List.mem_of_getElem? (i := 5) rfl)) (hw _ (List.mem_of_getElem? (i := 6) rfl)) own_d1_20 rfl rfl rfl (by decide) (by decide) ?_
  intro h1 s' gq1 E1 A1 D1
  have g_s' : n0 ≤ s' := Nat.le_trans Z0 (Nat.le_of_eq gq1.symm)
  have sz_s' : h0.size ≤ s' := Nat.le_trans (Keep.refl h0 []).1 (Nat.le_of_eq gq1.symm)
  have Z1 : n0 ≤ h1.size := Nat.le_trans Z0 E1.1
  have Kp1 : Keep h0 h1 [] := (Keep.refl h0 []).ext E1
  have Sc_1 := OS.keep Sc (own_keep_ext E1) all0
  have F_coder_s' : Fld Z h1 s' "java/lang/String" "coder" "B" (.int (0 : Int32)) := D1 (Or.inr (hw _ (List.mem_of_getElem? (i := 31) rfl))) (ty := .byte) (by decide)
  have F_value_s' : Fld Z h1 s' "java/lang/String" "value" "[B" .null := D1 (Or.inr (hw _ (List.mem_of_getElem? (i := 33) rfl))) (ty := (.array .byte)) (by decide)
  refine OGo.dup K (pc' := 24) own_d1_23 rfl rfl ?_
  refine OGo.iconst K (pc' := 25) (z := 1) own_d1_24 rfl rfl ?_
  refine OGo.newP K (pc' := 27) (cap := 1) (cells' := 2) (slots' := 5) (hw _ (List.mem_of_getElem? (i := 7) rfl)) own_d1_25 rfl (by decide) (by decide) (by decide) rfl rfl (by decide) (by decide) ?_
  intro h2 cb k_cb gq2 E2 V_cb
  have ne_s'_cb : s' ≠ cb := Nat.ne_of_lt (Nat.lt_of_lt_of_le A1.lt (Nat.le_of_eq gq2.symm))
  have g_cb : n0 ≤ cb := Nat.le_trans Z1 (Nat.le_of_eq gq2.symm)
  have sz_cb : h0.size ≤ cb := Nat.le_trans Kp1.1 (Nat.le_of_eq gq2.symm)
  have Z2 : n0 ≤ h2.size := Nat.le_trans Z1 E2.1
  have Kp2 : Keep h0 h2 [] := Kp1.ext E2
  have Sc_2 := OS.keep Sc_1 (own_keep_ext E2) all0
  have A1_2 := A1.ext E2
  have F_coder_s'_2 := F_coder_s'.ext E2
  have F_value_s'_2 := F_value_s'.ext E2
  replace V_cb : Arv Z h2 cb _ .char (1 : Int32) [(.int 0)] (.int 0) := V_cb.pad (pad_rep [] _ 1)
  refine OGo.dup K (pc' := 28) own_d1_27 rfl rfl ?_
  refine OGo.iconst K (pc' := 29) (z := 0) own_d1_28 rfl rfl ?_
  refine OGo.iloadN K (pc' := 30) own_d1_29 rfl rfl ?_
  refine OGo.castore K (pc' := 31) (i := 0) V_cb (by decide) rfl (Nat.le_of_ble_eq_true rfl) g_cb own_d1_30 rfl ?_
  intro h3 W3 V_cb_3
  have Z3 : n0 ≤ h3.size := by rw [W3.size]; exact Z2
  replace V_cb_3 : Arv Z h3 cb _ .char (1 : Int32) [(.int (nar .char c0))] (.int 0) := V_cb_3
  have Sc_3 := OS.keep Sc_2 (Keep.of_wr W3) (allS g_cb all0)
  have A1_3 := A1_2.wr W3
  have F_coder_s'_3 := F_coder_s'_2.other W3 (Or.inl ne_s'_cb)
  have F_value_s'_3 := F_value_s'_2.other W3 (Or.inl ne_s'_cb)
  have Kp3 : Keep h0 h3 [] := Kp2.wr W3 (Or.inr sz_cb)
  refine OGo.callIN K (pc' := 34) (y := (⟨"java/lang/String", "<init>", "([C)V"⟩ : MethodName)) (a := s') (W := 1) (cells' := 3) (slots' := 9) (argsL := [(.ref cb)]) (st := [(.ref s')]) rfl (hw _ (List.mem_of_getElem? (i := 8) rfl)) (hw _ (List.mem_of_getElem? (i := 9) rfl)) (hw _ (List.mem_of_getElem? (i := 6) rfl)) (hw _ (List.mem_of_getElem? (i := 10) rfl)) (by decide) (own_strC l Z a0 hw s' cb _ [nar .char c0] _ _ _ cz h3 n0 Z3 A1_3 F_value_s'_3 F_coder_s'_3 V_cb_3 (Nat.le_of_ble_eq_true rfl) (Nat.le_of_ble_eq_true rfl) hc Sc_3.sta hcz g_s') own_d1_31 rfl rfl (lenOf own_pd29 rfl) (by show 2 * 0 + _ ≤ _; exact Nat.le_of_eq rfl) (by decide) (by decide) rfl rfl (by decide) (by decide) ?_
  rintro h4 ⟨tb, O4, K4, s4⟩
  have Z4 : n0 ≤ h4.size := Nat.le_trans Z3 K4.1
  have Sc_4 := OS.keep Sc_3 K4 (allS g_s' all0)
  have A1_4 := A1_3.keep K4
  have V_cb_4 := V_cb_3.keep K4 (ninS (Ne.symm ne_s'_cb) nin0)
  have Kp4 : Keep h0 h4 [] := Kp3.trans K4 (allS (Or.inr sz_s') all0)
  exact OGo.aret K own_d1_34 rfl rfl (by decide) (by decide) ⟨_, rfl, s', tb, rfl, Kp4, ⟨O4.1, O4.2.1, O4.2.2.1, O4.2.2.2.1⟩, sz_s', Nat.le_trans (Nat.le_trans sz_s' (Nat.le_of_lt (Nat.lt_of_lt_of_le A1_3.lt (Nat.le_refl _)))) s4⟩
set_option maxRecDepth 65536 in
set_option maxHeartbeats 40000000 in
theorem own_draw2 (l : Launch) (Z : State) (a0 : Array Value) (hw : ∀ d ∈ tables_1, d.before a0 Z = true) (c0 c1 c2 : Int32) (cz : Int32) (h0 : Heap) (n0 : Nat) (Z0 : n0 ≤ h0.size) (hc : ∀ x ∈ [nar .char c0, nar .char c1], ¬ (255 : Int32) < x) (Sc : OS Z n0 h0 "java/lang/String" "COMPACT_STRINGS" "Z" (.int cz)) (hcz : ¬ cz = 0) :
    OCon l Z n0 (⟨"com/example/nextfront/nextfront/cli/ArgumentsOnlyPositionalPinLaw", "draw", "(ICCC)Ljava/lang/String;"⟩ : MethodName) method_2_code 4 (some (.object "java/lang/String")) [] ({ frames := 4, cells := 3, slots := 10, locals := 66 } : Room) #[(.int (2 : Int32)), (.int c0), (.int c1), (.int c2)] h0 (OV fun w h => ∃ s' t, w = .ref s' ∧ Keep h0 h [] ∧ OWs Z h s' t 2 ([nar .char c0, nar .char c1].map own_by) ∧ h0.size ≤ s' ∧ h0.size ≤ t) := by
  refine OCon.of (Ls := #[.val (.int (2 : Int32)), .val (.int c0), .val (.int c1), .val (.int c2)]) (plainFor_of_name own_pn_1) (fun m => own_entry m rfl) ?_
  intro p e s m below meth c K
  refine OGo.iloadN K (pc' := 1) own_d1_0 rfl rfl ?_
  refine OGo.ifNe K (pc' := 4) (pcY := 15) own_d1_1 rfl (by decide) rfl (fun hc1 => ?_) (fun hc1 => absurd hc1 (by decide : ¬ (2 : Int32) = (0 : Int32)))
  refine OGo.iloadN K (pc' := 16) own_d1_15 rfl rfl ?_
  refine OGo.iconst K (pc' := 17) (z := 1) own_d1_16 rfl rfl ?_
  refine OGo.icmpNe K (pc' := 20) (pcY := 35) own_d1_17 rfl (by decide) rfl (fun hc17 => ?_) (fun hc17 => absurd hc17 (by decide : ¬ (2 : Int32) = (1 : Int32)))
  refine OGo.iloadN K (pc' := 36) own_d1_35 rfl rfl ?_
  refine OGo.iconst K (pc' := 37) (z := 2) own_d1_36 rfl rfl ?_
  refine OGo.icmpNe K (pc' := 40) (pcY := 59) own_d1_37 rfl (by decide) rfl (fun hc37 => absurd (rfl : (2 : Int32) = (2 : Int32)) hc37) (fun hc37 => ?_)
  refine OGo.newO K (pc' := 43) (cells' := 1) (slots' := 4) (hw _ (List.mem_of_getElem? (i := 4) rfl)) (hw _ (List.mem_of_getElem? (i := 5) rfl)) (hw _ (List.mem_of_getElem? (i := 6) rfl)) own_d1_40 rfl rfl rfl (by decide) (by decide) ?_
  intro h1 s' gq1 E1 A1 D1
  have g_s' : n0 ≤ s' := Nat.le_trans Z0 (Nat.le_of_eq gq1.symm)
  have sz_s' : h0.size ≤ s' := Nat.le_trans (Keep.refl h0 []).1 (Nat.le_of_eq gq1.symm)
  have Z1 : n0 ≤ h1.size := Nat.le_trans Z0 E1.1
  have Kp1 : Keep h0 h1 [] := (Keep.refl h0 []).ext E1
  have Sc_1 := OS.keep Sc (own_keep_ext E1) all0
  have F_coder_s' : Fld Z h1 s' "java/lang/String" "coder" "B" (.int (0 : Int32)) := D1 (Or.inr (hw _ (List.mem_of_getElem? (i := 31) rfl))) (ty := .byte) (by decide)
  have F_value_s' : Fld Z h1 s' "java/lang/String" "value" "[B" .null := D1 (Or.inr (hw _ (List.mem_of_getElem? (i := 33) rfl))) (ty := (.array .byte)) (by decide)
  refine OGo.dup K (pc' := 44) own_d1_43 rfl rfl ?_
  refine OGo.iconst K (pc' := 45) (z := 2) own_d1_44 rfl rfl ?_
  refine OGo.newP K (pc' := 47) (cap := 2) (cells' := 2) (slots' := 6) (hw _ (List.mem_of_getElem? (i := 7) rfl)) own_d1_45 rfl (by decide) (by decide) (by decide) rfl rfl (by decide) (by decide) ?_
  intro h2 cb k_cb gq2 E2 V_cb
  have ne_s'_cb : s' ≠ cb := Nat.ne_of_lt (Nat.lt_of_lt_of_le A1.lt (Nat.le_of_eq gq2.symm))
  have g_cb : n0 ≤ cb := Nat.le_trans Z1 (Nat.le_of_eq gq2.symm)
  have sz_cb : h0.size ≤ cb := Nat.le_trans Kp1.1 (Nat.le_of_eq gq2.symm)
  have Z2 : n0 ≤ h2.size := Nat.le_trans Z1 E2.1
  have Kp2 : Keep h0 h2 [] := Kp1.ext E2
  have Sc_2 := OS.keep Sc_1 (own_keep_ext E2) all0
  have A1_2 := A1.ext E2
  have F_coder_s'_2 := F_coder_s'.ext E2
  have F_value_s'_2 := F_value_s'.ext E2
  replace V_cb : Arv Z h2 cb _ .char (2 : Int32) [(.int 0), (.int 0)] (.int 0) := V_cb.pad (pad_rep [] _ 2)
  refine OGo.dup K (pc' := 48) own_d1_47 rfl rfl ?_
  refine OGo.iconst K (pc' := 49) (z := 0) own_d1_48 rfl rfl ?_
  refine OGo.iloadN K (pc' := 50) own_d1_49 rfl rfl ?_
  refine OGo.castore K (pc' := 51) (i := 0) V_cb (by decide) rfl (Nat.le_of_ble_eq_true rfl) g_cb own_d1_50 rfl ?_
  intro h3 W3 V_cb_3
  have Z3 : n0 ≤ h3.size := by rw [W3.size]; exact Z2
  replace V_cb_3 : Arv Z h3 cb _ .char (2 : Int32) [(.int (nar .char c0)), (.int 0)] (.int 0) := V_cb_3
  have Sc_3 := OS.keep Sc_2 (Keep.of_wr W3) (allS g_cb all0)
  have A1_3 := A1_2.wr W3
  have F_coder_s'_3 := F_coder_s'_2.other W3 (Or.inl ne_s'_cb)
  have F_value_s'_3 := F_value_s'_2.other W3 (Or.inl ne_s'_cb)
  have Kp3 : Keep h0 h3 [] := Kp2.wr W3 (Or.inr sz_cb)
  refine OGo.dup K (pc' := 52) own_d1_51 rfl rfl ?_
  refine OGo.iconst K (pc' := 53) (z := 1) own_d1_52 rfl rfl ?_
  refine OGo.iloadN K (pc' := 54) own_d1_53 rfl rfl ?_
  refine OGo.castore K (pc' := 55) (i := 1) V_cb_3 (by decide) rfl (Nat.le_of_ble_eq_true rfl) g_cb own_d1_54 rfl ?_
  intro h4 W4 V_cb_4
  have Z4 : n0 ≤ h4.size := by rw [W4.size]; exact Z3
  replace V_cb_4 : Arv Z h4 cb _ .char (2 : Int32) [(.int (nar .char c0)), (.int (nar .char c1))] (.int 0) := V_cb_4
  have Sc_4 := OS.keep Sc_3 (Keep.of_wr W4) (allS g_cb all0)
  have A1_4 := A1_3.wr W4
  have F_coder_s'_4 := F_coder_s'_3.other W4 (Or.inl ne_s'_cb)
  have F_value_s'_4 := F_value_s'_3.other W4 (Or.inl ne_s'_cb)
  have Kp4 : Keep h0 h4 [] := Kp3.wr W4 (Or.inr sz_cb)
  refine OGo.callIN K (pc' := 58) (y := (⟨"java/lang/String", "<init>", "([C)V"⟩ : MethodName)) (a := s') (W := 1) (cells' := 3) (slots' := 10) (argsL := [(.ref cb)]) (st := [(.ref s')]) rfl (hw _ (List.mem_of_getElem? (i := 8) rfl)) (hw _ (List.mem_of_getElem? (i := 9) rfl)) (hw _ (List.mem_of_getElem? (i := 6) rfl)) (hw _ (List.mem_of_getElem? (i := 10) rfl)) (by decide) (own_strC l Z a0 hw s' cb _ [nar .char c0, nar .char c1] _ _ _ cz h4 n0 Z4 A1_4 F_value_s'_4 F_coder_s'_4 V_cb_4 (Nat.le_of_ble_eq_true rfl) (Nat.le_of_ble_eq_true rfl) hc Sc_4.sta hcz g_s') own_d1_55 rfl rfl (lenOf own_pd29 rfl) (by show 2 * 0 + _ ≤ _; exact Nat.le_of_eq rfl) (by decide) (by decide) rfl rfl (by decide) (by decide) ?_
  rintro h5 ⟨tb, O5, K5, s5⟩
  have Z5 : n0 ≤ h5.size := Nat.le_trans Z4 K5.1
  have Sc_5 := OS.keep Sc_4 K5 (allS g_s' all0)
  have A1_5 := A1_4.keep K5
  have V_cb_5 := V_cb_4.keep K5 (ninS (Ne.symm ne_s'_cb) nin0)
  have Kp5 : Keep h0 h5 [] := Kp4.trans K5 (allS (Or.inr sz_s') all0)
  exact OGo.aret K own_d1_58 rfl rfl (by decide) (by decide) ⟨_, rfl, s', tb, rfl, Kp5, ⟨O5.1, O5.2.1, O5.2.2.1, O5.2.2.2.1⟩, sz_s', Nat.le_trans (Nat.le_trans sz_s' (Nat.le_of_lt (Nat.lt_of_lt_of_le A1_4.lt (Nat.le_refl _)))) s5⟩
set_option maxRecDepth 65536 in
set_option maxHeartbeats 40000000 in
theorem own_draw3 (l : Launch) (Z : State) (a0 : Array Value) (hw : ∀ d ∈ tables_1, d.before a0 Z = true) (c0 c1 c2 : Int32) (cz : Int32) (h0 : Heap) (n0 : Nat) (Z0 : n0 ≤ h0.size) (hc : ∀ x ∈ [nar .char c0, nar .char c1, nar .char c2], ¬ (255 : Int32) < x) (Sc : OS Z n0 h0 "java/lang/String" "COMPACT_STRINGS" "Z" (.int cz)) (hcz : ¬ cz = 0) :
    OCon l Z n0 (⟨"com/example/nextfront/nextfront/cli/ArgumentsOnlyPositionalPinLaw", "draw", "(ICCC)Ljava/lang/String;"⟩ : MethodName) method_2_code 4 (some (.object "java/lang/String")) [] ({ frames := 4, cells := 3, slots := 11, locals := 66 } : Room) #[(.int (3 : Int32)), (.int c0), (.int c1), (.int c2)] h0 (OV fun w h => ∃ s' t, w = .ref s' ∧ Keep h0 h [] ∧ OWs Z h s' t 3 ([nar .char c0, nar .char c1, nar .char c2].map own_by) ∧ h0.size ≤ s' ∧ h0.size ≤ t) := by
  refine OCon.of (Ls := #[.val (.int (3 : Int32)), .val (.int c0), .val (.int c1), .val (.int c2)]) (plainFor_of_name own_pn_1) (fun m => own_entry m rfl) ?_
  intro p e s m below meth c K
  refine OGo.iloadN K (pc' := 1) own_d1_0 rfl rfl ?_
  refine OGo.ifNe K (pc' := 4) (pcY := 15) own_d1_1 rfl (by decide) rfl (fun hc1 => ?_) (fun hc1 => absurd hc1 (by decide : ¬ (3 : Int32) = (0 : Int32)))
  refine OGo.iloadN K (pc' := 16) own_d1_15 rfl rfl ?_
  refine OGo.iconst K (pc' := 17) (z := 1) own_d1_16 rfl rfl ?_
  refine OGo.icmpNe K (pc' := 20) (pcY := 35) own_d1_17 rfl (by decide) rfl (fun hc17 => ?_) (fun hc17 => absurd hc17 (by decide : ¬ (3 : Int32) = (1 : Int32)))
  refine OGo.iloadN K (pc' := 36) own_d1_35 rfl rfl ?_
  refine OGo.iconst K (pc' := 37) (z := 2) own_d1_36 rfl rfl ?_
  refine OGo.icmpNe K (pc' := 40) (pcY := 59) own_d1_37 rfl (by decide) rfl (fun hc37 => ?_) (fun hc37 => absurd hc37 (by decide : ¬ (3 : Int32) = (2 : Int32)))
  refine OGo.newO K (pc' := 62) (cells' := 1) (slots' := 4) (hw _ (List.mem_of_getElem? (i := 4) rfl)) (hw _ (List.mem_of_getElem? (i := 5) rfl)) (hw _ (List.mem_of_getElem? (i := 6) rfl)) own_d1_59 rfl rfl rfl (by decide) (by decide) ?_
  intro h1 s' gq1 E1 A1 D1
  have g_s' : n0 ≤ s' := Nat.le_trans Z0 (Nat.le_of_eq gq1.symm)
  have sz_s' : h0.size ≤ s' := Nat.le_trans (Keep.refl h0 []).1 (Nat.le_of_eq gq1.symm)
  have Z1 : n0 ≤ h1.size := Nat.le_trans Z0 E1.1
  have Kp1 : Keep h0 h1 [] := (Keep.refl h0 []).ext E1
  have Sc_1 := OS.keep Sc (own_keep_ext E1) all0
  have F_coder_s' : Fld Z h1 s' "java/lang/String" "coder" "B" (.int (0 : Int32)) := D1 (Or.inr (hw _ (List.mem_of_getElem? (i := 31) rfl))) (ty := .byte) (by decide)
  have F_value_s' : Fld Z h1 s' "java/lang/String" "value" "[B" .null := D1 (Or.inr (hw _ (List.mem_of_getElem? (i := 33) rfl))) (ty := (.array .byte)) (by decide)
  refine OGo.dup K (pc' := 63) own_d1_62 rfl rfl ?_
  refine OGo.iconst K (pc' := 64) (z := 3) own_d1_63 rfl rfl ?_
  refine OGo.newP K (pc' := 66) (cap := 3) (cells' := 2) (slots' := 7) (hw _ (List.mem_of_getElem? (i := 7) rfl)) own_d1_64 rfl (by decide) (by decide) (by decide) rfl rfl (by decide) (by decide) ?_
  intro h2 cb k_cb gq2 E2 V_cb
  have ne_s'_cb : s' ≠ cb := Nat.ne_of_lt (Nat.lt_of_lt_of_le A1.lt (Nat.le_of_eq gq2.symm))
  have g_cb : n0 ≤ cb := Nat.le_trans Z1 (Nat.le_of_eq gq2.symm)
  have sz_cb : h0.size ≤ cb := Nat.le_trans Kp1.1 (Nat.le_of_eq gq2.symm)
  have Z2 : n0 ≤ h2.size := Nat.le_trans Z1 E2.1
  have Kp2 : Keep h0 h2 [] := Kp1.ext E2
  have Sc_2 := OS.keep Sc_1 (own_keep_ext E2) all0
  have A1_2 := A1.ext E2
  have F_coder_s'_2 := F_coder_s'.ext E2
  have F_value_s'_2 := F_value_s'.ext E2
  replace V_cb : Arv Z h2 cb _ .char (3 : Int32) [(.int 0), (.int 0), (.int 0)] (.int 0) := V_cb.pad (pad_rep [] _ 3)
  refine OGo.dup K (pc' := 67) own_d1_66 rfl rfl ?_
  refine OGo.iconst K (pc' := 68) (z := 0) own_d1_67 rfl rfl ?_
  refine OGo.iloadN K (pc' := 69) own_d1_68 rfl rfl ?_
  refine OGo.castore K (pc' := 70) (i := 0) V_cb (by decide) rfl (Nat.le_of_ble_eq_true rfl) g_cb own_d1_69 rfl ?_
  intro h3 W3 V_cb_3
  have Z3 : n0 ≤ h3.size := by rw [W3.size]; exact Z2
  replace V_cb_3 : Arv Z h3 cb _ .char (3 : Int32) [(.int (nar .char c0)), (.int 0), (.int 0)] (.int 0) := V_cb_3
  have Sc_3 := OS.keep Sc_2 (Keep.of_wr W3) (allS g_cb all0)
  have A1_3 := A1_2.wr W3
  have F_coder_s'_3 := F_coder_s'_2.other W3 (Or.inl ne_s'_cb)
  have F_value_s'_3 := F_value_s'_2.other W3 (Or.inl ne_s'_cb)
  have Kp3 : Keep h0 h3 [] := Kp2.wr W3 (Or.inr sz_cb)
  refine OGo.dup K (pc' := 71) own_d1_70 rfl rfl ?_
  refine OGo.iconst K (pc' := 72) (z := 1) own_d1_71 rfl rfl ?_
  refine OGo.iloadN K (pc' := 73) own_d1_72 rfl rfl ?_
  refine OGo.castore K (pc' := 74) (i := 1) V_cb_3 (by decide) rfl (Nat.le_of_ble_eq_true rfl) g_cb own_d1_73 rfl ?_
  intro h4 W4 V_cb_4
  have Z4 : n0 ≤ h4.size := by rw [W4.size]; exact Z3
  replace V_cb_4 : Arv Z h4 cb _ .char (3 : Int32) [(.int (nar .char c0)), (.int (nar .char c1)), (.int 0)] (.int 0) := V_cb_4
  have Sc_4 := OS.keep Sc_3 (Keep.of_wr W4) (allS g_cb all0)
  have A1_4 := A1_3.wr W4
  have F_coder_s'_4 := F_coder_s'_3.other W4 (Or.inl ne_s'_cb)
  have F_value_s'_4 := F_value_s'_3.other W4 (Or.inl ne_s'_cb)
  have Kp4 : Keep h0 h4 [] := Kp3.wr W4 (Or.inr sz_cb)
  refine OGo.dup K (pc' := 75) own_d1_74 rfl rfl ?_
  refine OGo.iconst K (pc' := 76) (z := 2) own_d1_75 rfl rfl ?_
  refine OGo.iloadN K (pc' := 77) own_d1_76 rfl rfl ?_
  refine OGo.castore K (pc' := 78) (i := 2) V_cb_4 (by decide) rfl (Nat.le_of_ble_eq_true rfl) g_cb own_d1_77 rfl ?_
  intro h5 W5 V_cb_5
  have Z5 : n0 ≤ h5.size := by rw [W5.size]; exact Z4
  replace V_cb_5 : Arv Z h5 cb _ .char (3 : Int32) [(.int (nar .char c0)), (.int (nar .char c1)), (.int (nar .char c2))] (.int 0) := V_cb_5
  have Sc_5 := OS.keep Sc_4 (Keep.of_wr W5) (allS g_cb all0)
  have A1_5 := A1_4.wr W5
  have F_coder_s'_5 := F_coder_s'_4.other W5 (Or.inl ne_s'_cb)
  have F_value_s'_5 := F_value_s'_4.other W5 (Or.inl ne_s'_cb)
  have Kp5 : Keep h0 h5 [] := Kp4.wr W5 (Or.inr sz_cb)
  refine OGo.callIN K (pc' := 81) (y := (⟨"java/lang/String", "<init>", "([C)V"⟩ : MethodName)) (a := s') (W := 1) (cells' := 3) (slots' := 11) (argsL := [(.ref cb)]) (st := [(.ref s')]) rfl (hw _ (List.mem_of_getElem? (i := 8) rfl)) (hw _ (List.mem_of_getElem? (i := 9) rfl)) (hw _ (List.mem_of_getElem? (i := 6) rfl)) (hw _ (List.mem_of_getElem? (i := 10) rfl)) (by decide) (own_strC l Z a0 hw s' cb _ [nar .char c0, nar .char c1, nar .char c2] _ _ _ cz h5 n0 Z5 A1_5 F_value_s'_5 F_coder_s'_5 V_cb_5 (Nat.le_of_ble_eq_true rfl) (Nat.le_of_ble_eq_true rfl) hc Sc_5.sta hcz g_s') own_d1_78 rfl rfl (lenOf own_pd29 rfl) (by show 2 * 0 + _ ≤ _; exact Nat.le_of_eq rfl) (by decide) (by decide) rfl rfl (by decide) (by decide) ?_
  rintro h6 ⟨tb, O6, K6, s6⟩
  have Z6 : n0 ≤ h6.size := Nat.le_trans Z5 K6.1
  have Sc_6 := OS.keep Sc_5 K6 (allS g_s' all0)
  have A1_6 := A1_5.keep K6
  have V_cb_6 := V_cb_5.keep K6 (ninS (Ne.symm ne_s'_cb) nin0)
  have Kp6 : Keep h0 h6 [] := Kp5.trans K6 (allS (Or.inr sz_s') all0)
  exact OGo.aret K own_d1_81 rfl rfl (by decide) (by decide) ⟨_, rfl, s', tb, rfl, Kp6, ⟨O6.1, O6.2.1, O6.2.2.1, O6.2.2.2.1⟩, sz_s', Nat.le_trans (Nat.le_trans sz_s' (Nat.le_of_lt (Nat.lt_of_lt_of_le A1_5.lt (Nat.le_refl _)))) s6⟩
set_option maxRecDepth 65536 in
set_option maxHeartbeats 40000000 in
theorem own_emp4 (l : Launch) (Z : State) (a0 : Array Value) (hw : ∀ d ∈ tables_1, d.before a0 Z = true) (s' b : Addr) (u1 u2 : Value) (h0 : Heap) (n0 : Nat) (Z0 : n0 ≤ h0.size) (E : Exa Z h0 s' "java/lang/String") (F1 : Fld Z h0 s' "java/lang/String" "value" "[B" u1) (F2 : Fld Z h0 s' "java/lang/String" "coder" "B" u2) (g_s' : n0 ≤ s') :
    OConS l Z own_EL n0 (⟨"java/lang/String", "<init>", "([CIILjava/lang/Void;)V"⟩ : MethodName) jdk_42_method_149_code 6 none [] ({ frames := 1, cells := 4, slots := 8, locals := 12 } : Room) #[(.ref s'), (.ref b), (.int (0 : Int32)), (.int (0 : Int32)), .null] h0 (fun vm => Safe Z own_EL vm h0 s') (ON fun h => ∃ t, OWs Z h s' t 0 [] ∧ Keep h0 h [s']) := by
  refine OConS.of (Ls := #[.val (.ref s'), .val (.ref b), .val (.int (0 : Int32)), .val (.int (0 : Int32)), .val .null, .unset]) (own_ew hw) (plainFor_of_name own_pn_3) (fun m => own_entry m rfl) ?_
  intro p e s m below meth c K C0 hV
  refine OGo.aloadN K (pc' := 1) own_d3_0 rfl rfl rfl ?_
  refine OGo.initO K (pc' := 4) (W := 0) (hw _ (List.mem_of_getElem? (i := 15) rfl)) (hw _ (List.mem_of_getElem? (i := 16) rfl)) (hw _ (List.mem_of_getElem? (i := 17) rfl)) own_d3_1 rfl rfl (by show 2 * 0 + _ ≤ _; exact Nat.le_of_eq rfl) (by decide) (by decide) ?_
  refine OGo.iloadN K (pc' := 5) own_d3_4 rfl rfl ?_
  refine OGo.ifNe K (pc' := 8) (pcY := 27) own_d3_5 rfl (by decide) rfl (fun hc5 => absurd (rfl : (0 : Int32) = (0 : Int32)) hc5) (fun hc5 => ?_)
  refine OGo.aloadN K (pc' := 9) own_d3_8 rfl rfl rfl ?_
  refine OGo.ldcS K (pc' := 11) (n := 0) (cells' := 2) (slots' := 4) (vs := []) (z := 0) (hw _ (List.mem_of_getElem? (i := 34) rfl)) (own_wS hw) (by decide) C0 ⟨by decide, by decide +kernel⟩ (by decide) rfl own_d3_9 rfl (by decide) (by decide) rfl rfl (by decide) (by decide) ?_
  intro vm1 h1 lit1 blit1 k1 K C1 E1 CR1 El1 Fc1 Fv1 Vl1 ne1
  have Z1 : n0 ≤ h1.size := Nat.le_trans Z0 E1.1
  have E_1 := E.ext E1
  have F1_1 := F1.ext E1
  have F2_1 := F2.ext E1
  have Kp1 : Keep h0 h1 [s'] := (Keep.refl h0 [s']).ext E1
  have Ss__1 := CR1.safe E.lt hV
  refine OGo.getF K (pc' := 14) (host := "") (Or.inl (hw _ (List.mem_of_getElem? (i := 32) rfl))) Via.refl Fv1 own_d3_11 rfl ?_
  refine OGo.putF K (pc' := 17) (host := "") (Or.inl (hw _ (List.mem_of_getElem? (i := 32) rfl))) Via.refl F1_1 E_1 (Or.inr ⟨(hw _ (List.mem_of_getElem? (i := 33) rfl)), rfl, rfl⟩) (hw _ (List.mem_of_getElem? (i := 5) rfl)) (ty := (.array .byte)) (by decide) rfl rfl g_s' own_d3_14 rfl ?_
  intro h2 W2
  have Z2 : n0 ≤ h2.size := by rw [W2.size]; exact Z1
  have Fw_value_s'_2 := F1_1.same W2
  have E_2 := E_1.wr W2
  have F2_2 := F2_1.other W2 (Or.inr (slot_ne (Or.inr (hw _ (List.mem_of_getElem? (i := 31) rfl))) (Or.inr (hw _ (List.mem_of_getElem? (i := 33) rfl))) (by decide) (t := .byte) (t' := (.array .byte)) (by decide) (by decide)))
  have Ss__2 := OSx.safeW C1 W2 Ss__1 Ss__1
  have El1_2 := El1.wr W2
  have Fc1_2 := Fc1.other W2 (Or.inl (Ne.symm (ne1 _ Ss__1).1))
  have Fv1_2 := Fv1.other W2 (Or.inl (Ne.symm (ne1 _ Ss__1).1))
  have Vl1_2 := Vl1.other W2 (Ne.symm (ne1 _ Ss__1).2)
  have C1_2 := OSx.wr C1 W2 Ss__1
  have Kp2 : Keep h0 h2 [s'] := Kp1.wr W2 (Or.inl (List.mem_of_getElem? (i := 0) rfl))
  refine OGo.aloadN K (pc' := 18) own_d3_17 rfl rfl rfl ?_
  refine OGo.ldcS K (pc' := 20) (n := 0) (cells' := 4) (slots' := 8) (vs := []) (z := 0) (hw _ (List.mem_of_getElem? (i := 34) rfl)) (own_wS hw) (by decide) C1_2 ⟨by decide, by decide +kernel⟩ (by decide) rfl own_d3_18 rfl (by decide) (by decide) rfl rfl (by decide) (by decide) ?_
  intro vm3 h3 lit3 blit3 k3 K C3 E3 CR3 El3 Fc3 Fv3 Vl3 ne3
  have Z3 : n0 ≤ h3.size := Nat.le_trans Z2 E3.1
  have E_3 := E_2.ext E3
  have Fw_value_s'_3 := Fw_value_s'_2.ext E3
  have F2_3 := F2_2.ext E3
  have El1_3 := El1_2.ext E3
  have Fc1_3 := Fc1_2.ext E3
  have Fv1_3 := Fv1_2.ext E3
  have Vl1_3 := Vl1_2.ext E3
  have Kp3 : Keep h0 h3 [s'] := Kp2.ext E3
  have Ss__3 := CR3.safe E_2.lt Ss__2
  refine OGo.getF K (pc' := 23) (host := "") (Or.inl (hw _ (List.mem_of_getElem? (i := 30) rfl))) Via.refl Fc3 own_d3_20 rfl ?_
  refine OGo.putFN K (pc' := 26) (hw _ (List.mem_of_getElem? (i := 30) rfl)) Via.refl F2_3 E_3 (Or.inr ⟨(hw _ (List.mem_of_getElem? (i := 31) rfl)), rfl, rfl⟩) (hw _ (List.mem_of_getElem? (i := 5) rfl)) (ty := .byte) (v' := (.int (0 : Int32))) (by decide) rfl rfl g_s' own_d3_23 rfl ?_
  intro h4 W4
  have Z4 : n0 ≤ h4.size := by rw [W4.size]; exact Z3
  have Fw_coder_s'_4 := F2_3.same W4
  have E_4 := E_3.wr W4
  have Fw_value_s'_4 := Fw_value_s'_3.other W4 (Or.inr (slot_ne (Or.inr (hw _ (List.mem_of_getElem? (i := 33) rfl))) (Or.inr (hw _ (List.mem_of_getElem? (i := 31) rfl))) (by decide) (t := (.array .byte)) (t' := .byte) (by decide) (by decide)))
  have El1_4 := El1_3.wr W4
  have Fc1_4 := Fc1_3.other W4 (Or.inl (Ne.symm (ne1 _ Ss__1).1))
  have Fv1_4 := Fv1_3.other W4 (Or.inl (Ne.symm (ne1 _ Ss__1).1))
  have Vl1_4 := Vl1_3.other W4 (Ne.symm (ne1 _ Ss__1).2)
  have Ss__4 := OSx.safeW C3 W4 Ss__3 Ss__3
  have El3_4 := El3.wr W4
  have Fc3_4 := Fc3.other W4 (Or.inl (Ne.symm (ne3 _ Ss__3).1))
  have Fv3_4 := Fv3.other W4 (Or.inl (Ne.symm (ne3 _ Ss__3).1))
  have Vl3_4 := Vl3.other W4 (Ne.symm (ne3 _ Ss__3).2)
  have C3_4 := OSx.wr C3 W4 Ss__3
  have Kp4 : Keep h0 h4 [s'] := Kp3.wr W4 (Or.inl (List.mem_of_getElem? (i := 0) rfl))
  exact OGo.s_vret K own_d3_26 (by decide) (by decide) C3_4 ⟨rfl, blit1, ⟨E_4, Fw_value_s'_4, Fw_coder_s'_4, _, Vl1_4⟩, Kp4⟩
set_option maxRecDepth 65536 in
set_option maxHeartbeats 40000000 in
theorem own_emp1 (l : Launch) (Z : State) (a0 : Array Value) (hw : ∀ d ∈ tables_1, d.before a0 Z = true) (s' b : Addr) (kb : ClassId) (us : List Value) (u1 u2 : Value) (h0 : Heap) (n0 : Nat) (Z0 : n0 ≤ h0.size) (E : Exa Z h0 s' "java/lang/String") (F1 : Fld Z h0 s' "java/lang/String" "value" "[B" u1) (F2 : Fld Z h0 s' "java/lang/String" "coder" "B" u2) (Vb : Arv Z h0 b kb .char 0 us (.int 0)) (g_s' : n0 ≤ s') :
    OConS l Z own_EL n0 (⟨"java/lang/String", "<init>", "([C)V"⟩ : MethodName) jdk_42_method_3_code 2 none [] ({ frames := 2, cells := 4, slots := 8, locals := 29 } : Room) #[(.ref s'), (.ref b)] h0 (fun vm => Safe Z own_EL vm h0 s') (ON fun h => ∃ t, OWs Z h s' t 0 [] ∧ Keep h0 h [s']) := by
  refine OConS.of (Ls := #[.val (.ref s'), .val (.ref b)]) (own_ew hw) (plainFor_of_name own_pn_3) (fun m => own_entry m rfl) ?_
  intro p e s m below meth c K C0 hV
  refine OGo.aloadN K (pc' := 1) own_d2_0 rfl rfl rfl ?_
  refine OGo.aloadN K (pc' := 2) own_d2_1 rfl rfl rfl ?_
  refine OGo.iconst K (pc' := 3) (z := 0) own_d2_2 rfl rfl ?_
  refine OGo.aloadN K (pc' := 4) own_d2_3 rfl rfl rfl ?_
  refine OGo.alen K (pc' := 5) Vb own_d2_4 rfl ?_
  refine OGo.aconstNull K (pc' := 6) own_d2_5 rfl ?_
  refine OGo.callISN K (pc' := 9) (y := (⟨"java/lang/String", "<init>", "([CIILjava/lang/Void;)V"⟩ : MethodName)) (a := s') (W := 0) (cells' := 4) (slots' := 8) (argsL := [(.ref b), (.int (0 : Int32)), (.int (0 : Int32)), .null]) (st := []) rfl (hw _ (List.mem_of_getElem? (i := 11) rfl)) (hw _ (List.mem_of_getElem? (i := 12) rfl)) (hw _ (List.mem_of_getElem? (i := 6) rfl)) (hw _ (List.mem_of_getElem? (i := 14) rfl)) (by decide) (own_emp4 l Z a0 hw s' b _ _ h0 n0 Z0 E F1 F2 g_s') C0 (fun _ c => c.safe E.lt hV) own_d2_6 rfl rfl (lenOf own_pd17 rfl) (by show 2 * 0 + _ ≤ _; exact Nat.le_of_eq rfl) (by decide) (by decide) rfl rfl (by decide) (by decide) ?_
  rintro vm1 h1 K C1 CR1 ⟨t, P1, K1⟩
  have Z1 : n0 ≤ h1.size := Nat.le_trans Z0 K1.1
  exact OGo.s_vret K own_d2_9 (by decide) (by decide) C1 ⟨rfl, t, P1, K1⟩
set_option maxRecDepth 65536 in
set_option maxHeartbeats 40000000 in
theorem own_draw0 (l : Launch) (Z : State) (a0 : Array Value) (hw : ∀ d ∈ tables_1, d.before a0 Z = true) (c0 c1 c2 : Int32) (h0 : Heap) (n0 : Nat) (Z0 : n0 ≤ h0.size)  :
    OConS l Z own_EL n0 (⟨"com/example/nextfront/nextfront/cli/ArgumentsOnlyPositionalPinLaw", "draw", "(ICCC)Ljava/lang/String;"⟩ : MethodName) method_2_code 4 (some (.object "java/lang/String")) [] ({ frames := 3, cells := 6, slots := 12, locals := 43 } : Room) #[(.int (0 : Int32)), (.int c0), (.int c1), (.int c2)] h0 (fun _ => True) (OV fun w h => ∃ s' t, w = .ref s' ∧ Keep h0 h [] ∧ OWs Z h s' t 0 []) := by
  refine OConS.of (Ls := #[.val (.int (0 : Int32)), .val (.int c0), .val (.int c1), .val (.int c2)]) (own_ew hw) (plainFor_of_name own_pn_1) (fun m => own_entry m rfl) ?_
  intro p e s m below meth c K C0 hV
  refine OGo.iloadN K (pc' := 1) own_d1_0 rfl rfl ?_
  refine OGo.ifNe K (pc' := 4) (pcY := 15) own_d1_1 rfl (by decide) rfl (fun hc1 => absurd (rfl : (0 : Int32) = (0 : Int32)) hc1) (fun hc1 => ?_)
  refine OGo.newO K (pc' := 7) (cells' := 1) (slots' := 4) (hw _ (List.mem_of_getElem? (i := 4) rfl)) (hw _ (List.mem_of_getElem? (i := 5) rfl)) (hw _ (List.mem_of_getElem? (i := 6) rfl)) own_d1_4 rfl rfl rfl (by decide) (by decide) ?_
  intro h1 s' gq1 E1 A1 D1
  have g_s' : n0 ≤ s' := Nat.le_trans Z0 (Nat.le_of_eq gq1.symm)
  have sz_s' : h0.size ≤ s' := Nat.le_trans (Keep.refl h0 []).1 (Nat.le_of_eq gq1.symm)
  have Z1 : n0 ≤ h1.size := Nat.le_trans Z0 E1.1
  have Kp1 : Keep h0 h1 [] := (Keep.refl h0 []).ext E1
  have C0_1 := OSx.ext C0 E1
  have F_coder_s' : Fld Z h1 s' "java/lang/String" "coder" "B" (.int (0 : Int32)) := D1 (Or.inr (hw _ (List.mem_of_getElem? (i := 31) rfl))) (ty := .byte) (by decide)
  have F_value_s' : Fld Z h1 s' "java/lang/String" "value" "[B" .null := D1 (Or.inr (hw _ (List.mem_of_getElem? (i := 33) rfl))) (ty := (.array .byte)) (by decide)
  have Ss : Safe Z own_EL s.vm h0 s' := Safe.new (Nat.le_of_eq gq1.symm)
  have Ss1 := OSx.safeE C0 E1 Ss
  refine OGo.dup K (pc' := 8) own_d1_7 rfl rfl ?_
  refine OGo.iconst K (pc' := 9) (z := 0) own_d1_8 rfl rfl ?_
  refine OGo.newP K (pc' := 11) (cap := 0) (cells' := 2) (slots' := 4) (hw _ (List.mem_of_getElem? (i := 7) rfl)) own_d1_9 rfl (by decide) (by decide) (by decide) rfl rfl (by decide) (by decide) ?_
  intro h2 cb k_cb gq2 E2 V_cb
  have ne_s'_cb : s' ≠ cb := Nat.ne_of_lt (Nat.lt_of_lt_of_le A1.lt (Nat.le_of_eq gq2.symm))
  have g_cb : n0 ≤ cb := Nat.le_trans Z1 (Nat.le_of_eq gq2.symm)
  have sz_cb : h0.size ≤ cb := Nat.le_trans Kp1.1 (Nat.le_of_eq gq2.symm)
  have Z2 : n0 ≤ h2.size := Nat.le_trans Z1 E2.1
  have Kp2 : Keep h0 h2 [] := Kp1.ext E2
  have A1_2 := A1.ext E2
  have F_coder_s'_2 := F_coder_s'.ext E2
  have F_value_s'_2 := F_value_s'.ext E2
  have Ss1_2 := OSx.safeE C0_1 E2 Ss1
  have C0_2 := OSx.ext C0_1 E2
  refine OGo.callISN K (pc' := 14) (y := (⟨"java/lang/String", "<init>", "([C)V"⟩ : MethodName)) (a := s') (W := 1) (cells' := 6) (slots' := 12) (argsL := [(.ref cb)]) (st := [(.ref s')]) rfl (hw _ (List.mem_of_getElem? (i := 8) rfl)) (hw _ (List.mem_of_getElem? (i := 9) rfl)) (hw _ (List.mem_of_getElem? (i := 6) rfl)) (hw _ (List.mem_of_getElem? (i := 10) rfl)) (by decide) (own_emp1 l Z a0 hw s' cb _ _ _ _ h2 n0 Z2 A1_2 F_value_s'_2 F_coder_s'_2 V_cb g_s') C0_2 (fun _ c => c.safe A1_2.lt Ss1_2) own_d1_11 rfl rfl (lenOf own_pd29 rfl) (by show 2 * 0 + _ ≤ _; exact Nat.le_of_eq rfl) (by decide) (by decide) rfl rfl (by decide) (by decide) ?_
  rintro vm3 h3 K C3 CR3 ⟨t, P3, K3⟩
  have Z3 : n0 ≤ h3.size := Nat.le_trans Z2 K3.1
  have Kp3 : Keep h0 h3 [] := Kp2.trans K3 (allS (Or.inr sz_s') all0)
  exact OGo.s_aret K own_d1_14 rfl rfl (by decide) (by decide) C3 ⟨_, rfl, s', t, rfl, Kp3, P3⟩
set_option maxRecDepth 65536 in
set_option maxHeartbeats 40000000 in
theorem own_args (l : Launch) (Z : State) (a0 : Array Value) (hw : ∀ d ∈ tables_1, d.before a0 Z = true) (g a x y t dd : Addr) (n : Nat) (vs : List Value) (cz : Int32) (w1 w2 : Value) (h0 : Heap) (n0 : Nat) (Z0 : n0 ≤ h0.size) (E : Exa Z h0 g "com/example/nextfront/nextfront/cli/Arguments") (F1 : Fld Z h0 g "com/example/nextfront/nextfront/cli/Arguments" "positional" "Ljava/util/List;" w1) (F2 : Fld Z h0 g "com/example/nextfront/nextfront/cli/Arguments" "options" "Ljava/util/Map;" w2) (L : OAL1 Z n0 h0 a x [y]) (P : OWs Z h0 y t n vs) (hn : n ≤ 3) (hx : 1 ≤ n → ∃ x, vs.getD 0 (.int 0) = .int x ∧ ¬ x = 45) (Wd : OWd Z n0 h0 dd) (Sc : OS Z n0 h0 "java/lang/String" "COMPACT_STRINGS" "Z" (.int cz)) (hcz : ¬ cz = 0) (g_g : n0 ≤ g) (e1 : g ≠ a) (e2 : g ≠ x) (e3 : g ≠ y) (e4 : g ≠ t) :
    OConS l Z own_EL n0 (⟨"com/example/nextfront/nextfront/cli/Arguments", "<init>", "(Ljava/util/List;Ljava/util/Set;)V"⟩ : MethodName) prog_1_method_1_code 5 none [] ({ frames := 5, cells := 6, slots := 33, locals := 69 } : Room) #[(.ref g), (.ref a), .null] h0 (fun _ => True) (ON fun h => ∃ p' px, Fld Z h g "com/example/nextfront/nextfront/cli/Arguments" "positional" "Ljava/util/List;" (.ref p') ∧ OAL1 Z n0 h p' px [y] ∧ Keep h0 h [g]) := by
  refine OConS.of (Ls := #[.val (.ref g), .val (.ref a), .val .null, .unset, .unset]) (own_ew hw) (plainFor_of_name own_pn_29) (fun m => own_entry m rfl) ?_
  intro p e s m below meth c K C0 hV
  obtain ⟨mc, Fm⟩ := L.2.2.1
  refine OGo.aloadN K (pc' := 1) own_d16_0 rfl rfl rfl ?_
  refine OGo.initO K (pc' := 4) (W := 0) (hw _ (List.mem_of_getElem? (i := 98) rfl)) (hw _ (List.mem_of_getElem? (i := 16) rfl)) (hw _ (List.mem_of_getElem? (i := 17) rfl)) own_d16_1 rfl rfl (by show 2 * 0 + _ ≤ _; exact Nat.le_of_eq rfl) (by decide) (by decide) ?_
  refine OGo.aloadN K (pc' := 5) own_d16_4 rfl rfl rfl ?_
  refine OGo.newO K (pc' := 8) (cells' := 1) (slots' := 3) (hw _ (List.mem_of_getElem? (i := 99) rfl)) (hw _ (List.mem_of_getElem? (i := 38) rfl)) (hw _ (List.mem_of_getElem? (i := 39) rfl)) own_d16_5 rfl rfl rfl (by decide) (by decide) ?_
  intro h1 p' gq1 E1 A1 D1
  have ne_g_p' : g ≠ p' := Nat.ne_of_lt (Nat.lt_of_lt_of_le E.lt (Nat.le_of_eq gq1.symm))
  have ne_a_p' : a ≠ p' := Nat.ne_of_lt (Nat.lt_of_lt_of_le (OAL1.lta L) (Nat.le_of_eq gq1.symm))
  have ne_x_p' : x ≠ p' := Nat.ne_of_lt (Nat.lt_of_lt_of_le (OAL1.ltx L) (Nat.le_of_eq gq1.symm))
  have ne_y_p' : y ≠ p' := Nat.ne_of_lt (Nat.lt_of_lt_of_le (OWs.lts P) (Nat.le_of_eq gq1.symm))
  have ne_t_p' : t ≠ p' := Nat.ne_of_lt (Nat.lt_of_lt_of_le (OWs.ltt P) (Nat.le_of_eq gq1.symm))
  have g_p' : n0 ≤ p' := Nat.le_trans Z0 (Nat.le_of_eq gq1.symm)
  have sz_p' : h0.size ≤ p' := Nat.le_trans (Keep.refl h0 [g]).1 (Nat.le_of_eq gq1.symm)
  have Z1 : n0 ≤ h1.size := Nat.le_trans Z0 E1.1
  have Kp1 : Keep h0 h1 [g] := (Keep.refl h0 [g]).ext E1
  have E_1 := E.ext E1
  have F1_1 := F1.ext E1
  have F2_1 := F2.ext E1
  have L_1 := OAL1.keep L (own_keep_ext E1) nin0 nin0
  have Fm_1 := Fm.ext E1
  have P_1 := OWs.keep P (own_keep_ext E1) nin0 nin0
  have Wd_1 := OWd.ext Wd E1
  have Sc_1 := OS.keep Sc (own_keep_ext E1) all0
  have C0_1 := OSx.ext C0 E1
  have F_modCount_p' : Fld Z h1 p' "java/util/AbstractList" "modCount" "I" (.int (0 : Int32)) := D1 (Or.inl (hw _ (List.mem_of_getElem? (i := 57) rfl))) (ty := .int) (by decide)
  have F_elementData_p' : Fld Z h1 p' "java/util/ArrayList" "elementData" "[Ljava/lang/Object;" .null := D1 (Or.inl (hw _ (List.mem_of_getElem? (i := 60) rfl))) (ty := (.array (.object "java/lang/Object"))) (by decide)
  have F_size_p' : Fld Z h1 p' "java/util/ArrayList" "size" "I" (.int (0 : Int32)) := D1 (Or.inl (hw _ (List.mem_of_getElem? (i := 69) rfl))) (ty := .int) (by decide)
  refine OGo.dup K (pc' := 9) own_d16_8 rfl rfl ?_
  refine OGo.callIN K (pc' := 12) (y := (⟨"java/util/ArrayList", "<init>", "()V"⟩ : MethodName)) (a := p') (W := 2) (cells' := 1) (slots' := 3) (argsL := []) (st := [(.ref p'), (.ref g)]) rfl (hw _ (List.mem_of_getElem? (i := 100) rfl)) (hw _ (List.mem_of_getElem? (i := 41) rfl)) (hw _ (List.mem_of_getElem? (i := 39) rfl)) (hw _ (List.mem_of_getElem? (i := 42) rfl)) (by decide) (own_al_init l Z a0 hw p' dd _ _ h1 n0 Z1 A1 F_elementData_p' F_size_p' F_modCount_p' g_p' Wd_1) own_d16_9 rfl rfl (lenOf own_pd1 rfl) (by show 2 * 0 + _ ≤ _; exact Nat.le_of_eq rfl) (by decide) (by decide) rfl rfl (by decide) (by decide) ?_
  rintro h2 ⟨L2, K2⟩
  have Z2 : n0 ≤ h2.size := Nat.le_trans Z1 K2.1
  have E_2 := E_1.keep K2
  have F1_2 := F1_1.keep K2 (ninS ne_g_p' nin0)
  have F2_2 := F2_1.keep K2 (ninS ne_g_p' nin0)
  have L_2 := OAL1.keep L_1 K2 (ninS ne_a_p' nin0) (ninS ne_x_p' nin0)
  have Fm_2 := Fm_1.keep K2 (ninS ne_a_p' nin0)
  have P_2 := OWs.keep P_1 K2 (ninS ne_y_p' nin0) (ninS ne_t_p' nin0)
  have Wd_2 := OWd.keep Wd_1 K2 (allS g_p' all0)
  have Sc_2 := OS.keep Sc_1 K2 (allS g_p' all0)
  have C0_2 := OSx.keep C0_1 K2 (sfS (Safe.exa K.hZ.alike A1 (by decide) (by decide)) sf0)
  have Kp2 : Keep h0 h2 [g] := Kp1.trans K2 (allS (Or.inr sz_p') all0)
  refine OGo.putF K (pc' := 15) (host := "") (Or.inl (hw _ (List.mem_of_getElem? (i := 101) rfl))) Via.refl F1_2 E_2 (Or.inr ⟨(hw _ (List.mem_of_getElem? (i := 102) rfl)), rfl, rfl⟩) (hw _ (List.mem_of_getElem? (i := 93) rfl)) (ty := (.object "java/util/List")) (by decide) rfl rfl g_g own_d16_12 rfl ?_
  intro h3 W3
  have Z3 : n0 ≤ h3.size := by rw [W3.size]; exact Z2
  have Fw_positional_g_3 := F1_2.same W3
  have E_3 := E_2.wr W3
  have F2_3 := F2_2.other W3 (Or.inr (slot_ne (Or.inr (hw _ (List.mem_of_getElem? (i := 120) rfl))) (Or.inr (hw _ (List.mem_of_getElem? (i := 102) rfl))) (by decide) (t := (.object "java/util/Map")) (t' := (.object "java/util/List")) (by decide) (by decide)))
  have L_3 := OAL1.keep L_2 (Keep.of_wr W3) (ninS (Ne.symm e1) nin0) (ninS (Ne.symm e2) nin0)
  have Fm_3 := Fm_2.other W3 (Or.inl (Ne.symm e1))
  have P_3 := OWs.keep P_2 (Keep.of_wr W3) (ninS (Ne.symm e3) nin0) (ninS (Ne.symm e4) nin0)
  have Wd_3 := OWd.wr Wd_2 W3 g_g
  have Sc_3 := OS.keep Sc_2 (Keep.of_wr W3) (allS g_g all0)
  have L2_3 := OAL0.keep L2 (Keep.of_wr W3) (ninS (Ne.symm ne_g_p') nin0)
  have C0_3 := OSx.wr C0_2 W3 (Safe.exa K.hZ.alike E_2 (by decide) (by decide))
  have Kp3 : Keep h0 h3 [g] := Kp2.wr W3 (Or.inl (List.mem_of_getElem? (i := 0) rfl))
  refine OGo.aloadN K (pc' := 16) own_d16_15 rfl rfl rfl ?_
  refine OGo.newO K (pc' := 19) (cells' := 2) (slots' := 11) (hw _ (List.mem_of_getElem? (i := 103) rfl)) (hw _ (List.mem_of_getElem? (i := 104) rfl)) (hw _ (List.mem_of_getElem? (i := 105) rfl)) own_d16_16 rfl rfl rfl (by decide) (by decide) ?_
  intro h4 hm gq4 E4 A4 D4
  have ne_g_hm : g ≠ hm := Nat.ne_of_lt (Nat.lt_of_lt_of_le E_3.lt (Nat.le_of_eq gq4.symm))
  have ne_a_hm : a ≠ hm := Nat.ne_of_lt (Nat.lt_of_lt_of_le (OAL1.lta L_3) (Nat.le_of_eq gq4.symm))
  have ne_x_hm : x ≠ hm := Nat.ne_of_lt (Nat.lt_of_lt_of_le (OAL1.ltx L_3) (Nat.le_of_eq gq4.symm))
  have ne_y_hm : y ≠ hm := Nat.ne_of_lt (Nat.lt_of_lt_of_le (OWs.lts P_3) (Nat.le_of_eq gq4.symm))
  have ne_t_hm : t ≠ hm := Nat.ne_of_lt (Nat.lt_of_lt_of_le (OWs.ltt P_3) (Nat.le_of_eq gq4.symm))
  have ne_p'_hm : p' ≠ hm := Nat.ne_of_lt (Nat.lt_of_lt_of_le (OAL0.lta L2_3) (Nat.le_of_eq gq4.symm))
  have g_hm : n0 ≤ hm := Nat.le_trans Z3 (Nat.le_of_eq gq4.symm)
  have sz_hm : h0.size ≤ hm := Nat.le_trans Kp3.1 (Nat.le_of_eq gq4.symm)
  have Z4 : n0 ≤ h4.size := Nat.le_trans Z3 E4.1
  have Kp4 : Keep h0 h4 [g] := Kp3.ext E4
  have E_4 := E_3.ext E4
  have Fw_positional_g_4 := Fw_positional_g_3.ext E4
  have F2_4 := F2_3.ext E4
  have L_4 := OAL1.keep L_3 (own_keep_ext E4) nin0 nin0
  have Fm_4 := Fm_3.ext E4
  have P_4 := OWs.keep P_3 (own_keep_ext E4) nin0 nin0
  have Wd_4 := OWd.ext Wd_3 E4
  have Sc_4 := OS.keep Sc_3 (own_keep_ext E4) all0
  have L2_4 := OAL0.keep L2_3 (own_keep_ext E4) nin0
  have C0_4 := OSx.ext C0_3 E4
  have F_loadFactor_hm : Fld Z h4 hm "java/util/HashMap" "loadFactor" "F" (.float (0 : UInt32)) := D4 (Or.inr (hw _ (List.mem_of_getElem? (i := 118) rfl))) (ty := .float) (by decide)
  refine OGo.dup K (pc' := 20) own_d16_19 rfl rfl ?_
  refine OGo.callIN K (pc' := 23) (y := (⟨"java/util/HashMap", "<init>", "()V"⟩ : MethodName)) (a := hm) (W := 2) (cells' := 2) (slots' := 11) (argsL := []) (st := [(.ref hm), (.ref g)]) rfl (hw _ (List.mem_of_getElem? (i := 106) rfl)) (hw _ (List.mem_of_getElem? (i := 107) rfl)) (hw _ (List.mem_of_getElem? (i := 105) rfl)) (hw _ (List.mem_of_getElem? (i := 108) rfl)) (by decide) (own_hm_init l Z a0 hw hm _ h4 n0 Z4 A4 F_loadFactor_hm g_hm) own_d16_20 rfl rfl (lenOf own_pd1 rfl) (by show 2 * 0 + _ ≤ _; exact Nat.le_of_eq rfl) (by decide) (by decide) rfl rfl (by decide) (by decide) ?_
  rintro h5 K5
  have Z5 : n0 ≤ h5.size := Nat.le_trans Z4 K5.1
  have E_5 := E_4.keep K5
  have Fw_positional_g_5 := Fw_positional_g_4.keep K5 (ninS ne_g_hm nin0)
  have F2_5 := F2_4.keep K5 (ninS ne_g_hm nin0)
  have L_5 := OAL1.keep L_4 K5 (ninS ne_a_hm nin0) (ninS ne_x_hm nin0)
  have Fm_5 := Fm_4.keep K5 (ninS ne_a_hm nin0)
  have P_5 := OWs.keep P_4 K5 (ninS ne_y_hm nin0) (ninS ne_t_hm nin0)
  have Wd_5 := OWd.keep Wd_4 K5 (allS g_hm all0)
  have Sc_5 := OS.keep Sc_4 K5 (allS g_hm all0)
  have L2_5 := OAL0.keep L2_4 K5 (ninS ne_p'_hm nin0)
  have A4_5 := A4.keep K5
  have C0_5 := OSx.keep C0_4 K5 (sfS (Safe.exa K.hZ.alike A4 (by decide) (by decide)) sf0)
  have Kp5 : Keep h0 h5 [g] := Kp4.trans K5 (allS (Or.inr sz_hm) all0)
  refine OGo.putF K (pc' := 26) (host := "") (Or.inl (hw _ (List.mem_of_getElem? (i := 119) rfl))) Via.refl F2_5 E_5 (Or.inr ⟨(hw _ (List.mem_of_getElem? (i := 120) rfl)), rfl, rfl⟩) (hw _ (List.mem_of_getElem? (i := 93) rfl)) (ty := (.object "java/util/Map")) (by decide) rfl rfl g_g own_d16_23 rfl ?_
  intro h6 W6
  have Z6 : n0 ≤ h6.size := by rw [W6.size]; exact Z5
  have Fw_options_g_6 := F2_5.same W6
  have E_6 := E_5.wr W6
  have Fw_positional_g_6 := Fw_positional_g_5.other W6 (Or.inr (slot_ne (Or.inr (hw _ (List.mem_of_getElem? (i := 102) rfl))) (Or.inr (hw _ (List.mem_of_getElem? (i := 120) rfl))) (by decide) (t := (.object "java/util/List")) (t' := (.object "java/util/Map")) (by decide) (by decide)))
  have L_6 := OAL1.keep L_5 (Keep.of_wr W6) (ninS (Ne.symm e1) nin0) (ninS (Ne.symm e2) nin0)
  have Fm_6 := Fm_5.other W6 (Or.inl (Ne.symm e1))
  have P_6 := OWs.keep P_5 (Keep.of_wr W6) (ninS (Ne.symm e3) nin0) (ninS (Ne.symm e4) nin0)
  have Wd_6 := OWd.wr Wd_5 W6 g_g
  have Sc_6 := OS.keep Sc_5 (Keep.of_wr W6) (allS g_g all0)
  have L2_6 := OAL0.keep L2_5 (Keep.of_wr W6) (ninS (Ne.symm ne_g_p') nin0)
  have A4_6 := A4_5.wr W6
  have C0_6 := OSx.wr C0_5 W6 (Safe.exa K.hZ.alike E_5 (by decide) (by decide))
  have Kp6 : Keep h0 h6 [g] := Kp5.wr W6 (Or.inl (List.mem_of_getElem? (i := 0) rfl))
  refine OGo.aloadN K (pc' := 27) own_d16_26 rfl rfl rfl ?_
  refine OGo.callFV K (pc' := 32) (y := (⟨"java/util/List", "iterator", "()Ljava/util/Iterator;"⟩ : MethodName)) (z := (⟨"java/util/ArrayList", "iterator", "()Ljava/util/Iterator;"⟩ : MethodName)) (a := a) (W := 0) (cells' := 3) (slots' := 15) (argsL := []) (st := []) L_6.1 (hw _ (List.mem_of_getElem? (i := 121) rfl)) (hw _ (List.mem_of_getElem? (i := 122) rfl)) (hw _ (List.mem_of_getElem? (i := 123) rfl)) (hw _ (List.mem_of_getElem? (i := 124) rfl)) (hw _ (List.mem_of_getElem? (i := 125) rfl)) (hw _ (List.mem_of_getElem? (i := 126) rfl)) (hw _ (List.mem_of_getElem? (i := 127) rfl)) (hw _ (List.mem_of_getElem? (i := 128) rfl)) (hw _ (List.mem_of_getElem? (i := 39) rfl)) (hw _ (List.mem_of_getElem? (i := 129) rfl)) (by decide) (own_al_it l Z a0 hw a mc h6 n0 Z6 Fm_6) own_d16_27 rfl rfl (lenOf own_pd31 rfl) (by show 2 * 0 + _ ≤ _; exact Nat.le_of_eq rfl) (by decide) (by decide) rfl rfl (by decide) (by decide) ?_
  rintro _ h7 ⟨it, rfl, K7, Q1, Q2, ⟨u, Q3⟩, Q4, Q5, s7, g_it⟩
  have Z7 : n0 ≤ h7.size := Nat.le_trans Z6 K7.1
  have ne_g_it : g ≠ it := Nat.ne_of_lt (Nat.lt_of_lt_of_le E_6.lt s7)
  have ne_a_it : a ≠ it := Nat.ne_of_lt (Nat.lt_of_lt_of_le (OAL1.lta L_6) s7)
  have ne_x_it : x ≠ it := Nat.ne_of_lt (Nat.lt_of_lt_of_le (OAL1.ltx L_6) s7)
  have ne_y_it : y ≠ it := Nat.ne_of_lt (Nat.lt_of_lt_of_le (OWs.lts P_6) s7)
  have ne_t_it : t ≠ it := Nat.ne_of_lt (Nat.lt_of_lt_of_le (OWs.ltt P_6) s7)
  have ne_p'_it : p' ≠ it := Nat.ne_of_lt (Nat.lt_of_lt_of_le (OAL0.lta L2_6) s7)
  have E_7 := E_6.keep K7
  have Fw_positional_g_7 := Fw_positional_g_6.keep K7 nin0
  have Fw_options_g_7 := Fw_options_g_6.keep K7 nin0
  have L_7 := OAL1.keep L_6 K7 nin0 nin0
  have Fm_7 := Fm_6.keep K7 nin0
  have P_7 := OWs.keep P_6 K7 nin0 nin0
  have Wd_7 := OWd.keep Wd_6 K7 all0
  have Sc_7 := OS.keep Sc_6 K7 all0
  have L2_7 := OAL0.keep L2_6 K7 nin0
  have C0_7 := OSx.keep C0_6 K7 sf0
  have Kp7 : Keep h0 h7 [g] := Kp6.trans K7 all0
  show OGo p l e _ _ m _ below meth c n0 _ h7 3 15 32 #[.val (.ref g), .val (.ref a), .val .null, .unset, .unset] [(.ref it)]
  have sz_it := Nat.le_trans Kp6.1 s7
  refine OGo.astoreN K (pc' := 33) (Ls' := #[.val (.ref g), .val (.ref a), .val .null, .val (.ref it), .unset]) own_d16_32 rfl rfl rfl ?_
  refine OGo.aloadN K (pc' := 34) own_d16_33 rfl rfl rfl ?_
  refine OGo.callFV K (pc' := 39) (y := (⟨"java/util/Iterator", "hasNext", "()Z"⟩ : MethodName)) (z := (⟨"java/util/ArrayList$Itr", "hasNext", "()Z"⟩ : MethodName)) (a := it) (W := 0) (cells' := 3) (slots' := 15) (argsL := []) (st := []) Q1 (hw _ (List.mem_of_getElem? (i := 145) rfl)) (hw _ (List.mem_of_getElem? (i := 146) rfl)) (hw _ (List.mem_of_getElem? (i := 147) rfl)) (hw _ (List.mem_of_getElem? (i := 148) rfl)) (hw _ (List.mem_of_getElem? (i := 149) rfl)) (hw _ (List.mem_of_getElem? (i := 150) rfl)) (hw _ (List.mem_of_getElem? (i := 151) rfl)) (hw _ (List.mem_of_getElem? (i := 152) rfl)) (hw _ (List.mem_of_getElem? (i := 132) rfl)) (hw _ (List.mem_of_getElem? (i := 153) rfl)) (by decide) (own_it_has l Z a0 hw it a 0 1 h7 n0 Z7 Q2 Q5 L_7.2.1) own_d16_34 rfl rfl (lenOf own_pd27 rfl) (by show 2 * 0 + _ ≤ _; exact Nat.le_of_eq rfl) (by decide) (by decide) rfl rfl (by decide) (by decide) ?_
  rintro _ h8 ⟨rfl, e8⟩
  rw [e8]
  show OGo p l e _ _ m _ below meth c n0 _ h7 3 15 39 #[.val (.ref g), .val (.ref a), .val .null, .val (.ref it), .unset] [(.int (if (0 : Int32) = (1 : Int32) then 0 else 1))]
  refine OGo.ifEq K (pc' := 42) (pcY := 169) own_d16_39 rfl (by decide) rfl (fun hc39 => absurd hc39 (by decide : ¬ (if (0 : Int32) = (1 : Int32) then 0 else 1) = (0 : Int32))) (fun hc39 => ?_)
  refine OGo.aloadN K (pc' := 43) own_d16_42 rfl rfl rfl ?_
  refine OGo.callFV K (pc' := 48) (y := (⟨"java/util/Iterator", "next", "()Ljava/lang/Object;"⟩ : MethodName)) (z := (⟨"java/util/ArrayList$Itr", "next", "()Ljava/lang/Object;"⟩ : MethodName)) (a := it) (W := 0) (cells' := 3) (slots' := 15) (argsL := []) (st := []) Q1 (hw _ (List.mem_of_getElem? (i := 157) rfl)) (hw _ (List.mem_of_getElem? (i := 158) rfl)) (hw _ (List.mem_of_getElem? (i := 159) rfl)) (hw _ (List.mem_of_getElem? (i := 160) rfl)) (hw _ (List.mem_of_getElem? (i := 161) rfl)) (hw _ (List.mem_of_getElem? (i := 162) rfl)) (hw _ (List.mem_of_getElem? (i := 163) rfl)) (hw _ (List.mem_of_getElem? (i := 152) rfl)) (hw _ (List.mem_of_getElem? (i := 132) rfl)) (hw _ (List.mem_of_getElem? (i := 164) rfl)) (by decide) (own_it_next l Z a0 hw it a x y mc _ h7 n0 Z7 Q1 Q2 Q3 Q4 Q5 L_7 Fm_7 (Ne.symm ne_a_it) (Ne.symm ne_x_it) g_it) own_d16_43 rfl rfl (lenOf own_pd32 rfl) (by show 2 * 0 + _ ≤ _; exact Nat.le_of_eq rfl) (by decide) (by decide) rfl rfl (by decide) (by decide) ?_
  rintro _ h9 ⟨rfl, K9, Q6, Q7⟩
  have Z9 : n0 ≤ h9.size := Nat.le_trans Z7 K9.1
  have E_9 := E_7.keep K9
  have Fw_positional_g_9 := Fw_positional_g_7.keep K9 (ninS ne_g_it nin0)
  have Fw_options_g_9 := Fw_options_g_7.keep K9 (ninS ne_g_it nin0)
  have L_9 := OAL1.keep L_7 K9 (ninS ne_a_it nin0) (ninS ne_x_it nin0)
  have Fm_9 := Fm_7.keep K9 (ninS ne_a_it nin0)
  have P_9 := OWs.keep P_7 K9 (ninS ne_y_it nin0) (ninS ne_t_it nin0)
  have Wd_9 := OWd.keep Wd_7 K9 (allS g_it all0)
  have Sc_9 := OS.keep Sc_7 K9 (allS g_it all0)
  have L2_9 := OAL0.keep L2_7 K9 (ninS ne_p'_it nin0)
  have Q1_9 := Q1.keep K9
  have C0_9 := OSx.keep C0_7 K9 (sfS (Safe.exa K.hZ.alike Q1 (by decide) (by decide)) sf0)
  have Kp9 : Keep h0 h9 [g] := Kp7.trans K9 (allS (Or.inr sz_it) all0)
  show OGo p l e _ _ m _ below meth c n0 _ h9 3 15 48 #[.val (.ref g), .val (.ref a), .val .null, .val (.ref it), .unset] [(.ref y)]
  refine OGo.castY K (pc' := 51) (hw _ (List.mem_of_getElem? (i := 171) rfl)) (Ins.of_exa P_9.1 (hw _ (List.mem_of_getElem? (i := 13) rfl))) own_d16_48 rfl ?_
  refine OGo.astore K (pc' := 53) (Ls' := #[.val (.ref g), .val (.ref a), .val .null, .val (.ref it), .val (.ref y)]) own_d16_51 rfl rfl rfl ?_
  refine OGo.aload K (pc' := 55) own_d16_53 rfl rfl rfl ?_
  refine OGo.ldcS K (pc' := 57) (n := 4) (cells' := 5) (slots' := 23) (vs := [.int 45]) (z := 1) (hw _ (List.mem_of_getElem? (i := 172) rfl)) (own_wS hw) (by decide) C0_9 ⟨by decide, by decide +kernel⟩ (by decide) rfl own_d16_55 rfl (by decide) (by decide) rfl rfl (by decide) (by decide) ?_
  intro vm10 h10 lit10 blit10 k10 K C10 E10 CR10 El10 Fc10 Fv10 Vl10 ne10
  have Z10 : n0 ≤ h10.size := Nat.le_trans Z9 E10.1
  have E_10 := E_9.ext E10
  have Fw_positional_g_10 := Fw_positional_g_9.ext E10
  have Fw_options_g_10 := Fw_options_g_9.ext E10
  have L_10 := OAL1.keep L_9 (own_keep_ext E10) nin0 nin0
  have Fm_10 := Fm_9.ext E10
  have P_10 := OWs.keep P_9 (own_keep_ext E10) nin0 nin0
  have Wd_10 := OWd.ext Wd_9 E10
  have Sc_10 := OS.keep Sc_9 (own_keep_ext E10) all0
  have L2_10 := OAL0.keep L2_9 (own_keep_ext E10) nin0
  have Q1_10 := Q1_9.ext E10
  have Q6_10 := Q6.ext E10
  have Q7_10 := Q7.ext E10
  have Kp10 : Keep h0 h10 [g] := Kp9.ext E10
  refine OGo.callVV K (pc' := 60) (y := (⟨"java/lang/String", "startsWith", "(Ljava/lang/String;)Z"⟩ : MethodName)) (z := (⟨"java/lang/String", "startsWith", "(Ljava/lang/String;)Z"⟩ : MethodName)) (a := y) (W := 0) (cells' := 5) (slots' := 23) (argsL := [(.ref lit10)]) (st := []) P_10.1 (hw _ (List.mem_of_getElem? (i := 173) rfl)) (hw _ (List.mem_of_getElem? (i := 174) rfl)) (notFace_of_selects (args := #[]) (mvT K.hZ (hw _ (List.mem_of_getElem? (i := 176) rfl)))) (hw _ (List.mem_of_getElem? (i := 176) rfl)) (hw _ (List.mem_of_getElem? (i := 175) rfl)) (hw _ (List.mem_of_getElem? (i := 6) rfl)) (hw _ (List.mem_of_getElem? (i := 177) rfl)) (by decide) (own_starts1 l Z a0 hw y t lit10 blit10 n vs cz h10 n0 Z10 P_10 ⟨El10, Fv10, Fc10, _, Vl10⟩ hn hx Sc_10 hcz) own_d16_57 rfl rfl (lenOf own_pd33 rfl) (by show 2 * 0 + _ ≤ _; exact Nat.le_of_eq rfl) (by decide) (by decide) rfl rfl (by decide) (by decide) ?_
  rintro _ h11 ⟨rfl, e11⟩
  rw [e11]
  show OGo p l e _ _ m _ below meth c n0 _ h10 5 23 60 #[.val (.ref g), .val (.ref a), .val .null, .val (.ref it), .val (.ref y)] [(.int (0 : Int32))]
  refine OGo.ifNe K (pc' := 63) (pcY := 78) own_d16_60 rfl (by decide) rfl (fun hc60 => absurd (rfl : (0 : Int32) = (0 : Int32)) hc60) (fun hc60 => ?_)
  refine OGo.aloadN K (pc' := 64) own_d16_63 rfl rfl rfl ?_
  refine OGo.getF K (pc' := 67) (host := "") (Or.inl (hw _ (List.mem_of_getElem? (i := 101) rfl))) Via.refl Fw_positional_g_10 own_d16_64 rfl ?_
  refine OGo.aload K (pc' := 69) own_d16_67 rfl rfl rfl ?_
  refine OGo.callFV K (pc' := 74) (y := (⟨"java/util/List", "add", "(Ljava/lang/Object;)Z"⟩ : MethodName)) (z := (⟨"java/util/ArrayList", "add", "(Ljava/lang/Object;)Z"⟩ : MethodName)) (a := p') (W := 0) (cells' := 6) (slots' := 33) (argsL := [(.ref y)]) (st := []) L2_10.1 (hw _ (List.mem_of_getElem? (i := 197) rfl)) (hw _ (List.mem_of_getElem? (i := 198) rfl)) (hw _ (List.mem_of_getElem? (i := 199) rfl)) (hw _ (List.mem_of_getElem? (i := 200) rfl)) (hw _ (List.mem_of_getElem? (i := 63) rfl)) (hw _ (List.mem_of_getElem? (i := 201) rfl)) (hw _ (List.mem_of_getElem? (i := 202) rfl)) (hw _ (List.mem_of_getElem? (i := 128) rfl)) (hw _ (List.mem_of_getElem? (i := 39) rfl)) (hw _ (List.mem_of_getElem? (i := 65) rfl)) (by decide) (own_al_add0 l Z a0 hw p' y dd h10 n0 Z10 L2_10 Wd_10 (Ins.of_exa P_10.1 (hw _ (List.mem_of_getElem? (i := 91) rfl)))) own_d16_69 rfl rfl (lenOf own_pd34 rfl) (by show 2 * 0 + _ ≤ _; exact Nat.le_of_eq rfl) (by decide) (by decide) rfl rfl (by decide) (by decide) ?_
  rintro _ h12 ⟨rfl, px, L12, K12, s12⟩
  have Z12 : n0 ≤ h12.size := Nat.le_trans Z10 K12.1
  have ne_g_px : g ≠ px := Nat.ne_of_lt (Nat.lt_of_lt_of_le E_10.lt s12)
  have ne_a_px : a ≠ px := Nat.ne_of_lt (Nat.lt_of_lt_of_le (OAL1.lta L_10) s12)
  have ne_x_px : x ≠ px := Nat.ne_of_lt (Nat.lt_of_lt_of_le (OAL1.ltx L_10) s12)
  have ne_y_px : y ≠ px := Nat.ne_of_lt (Nat.lt_of_lt_of_le (OWs.lts P_10) s12)
  have ne_t_px : t ≠ px := Nat.ne_of_lt (Nat.lt_of_lt_of_le (OWs.ltt P_10) s12)
  have ne_p'_px : p' ≠ px := Nat.ne_of_lt (Nat.lt_of_lt_of_le (OAL0.lta L2_10) s12)
  have ne_it_px : it ≠ px := Nat.ne_of_lt (Nat.lt_of_lt_of_le Q1_10.lt s12)
  have E_12 := E_10.keep K12
  have Fw_positional_g_12 := Fw_positional_g_10.keep K12 (ninS ne_g_p' nin0)
  have Fw_options_g_12 := Fw_options_g_10.keep K12 (ninS ne_g_p' nin0)
  have L_12 := OAL1.keep L_10 K12 (ninS ne_a_p' nin0) (ninS ne_x_p' nin0)
  have Fm_12 := Fm_10.keep K12 (ninS ne_a_p' nin0)
  have P_12 := OWs.keep P_10 K12 (ninS ne_y_p' nin0) (ninS ne_t_p' nin0)
  have Wd_12 := OWd.keep Wd_10 K12 (allS g_p' all0)
  have Sc_12 := OS.keep Sc_10 K12 (allS g_p' all0)
  have Q1_12 := Q1_10.keep K12
  have Q6_12 := Q6_10.keep K12 (ninS (Ne.symm ne_p'_it) nin0)
  have Q7_12 := Q7_10.keep K12 (ninS (Ne.symm ne_p'_it) nin0)
  have C10_12 := OSx.keep C10 K12 (sfS (Safe.exa K.hZ.alike L2_10.1 (by decide) (by decide)) sf0)
  have Kp12 : Keep h0 h12 [g] := Kp10.trans K12 (allS (Or.inr sz_p') all0)
  show OGo p l e _ _ m _ below meth c n0 _ h12 6 33 74 #[.val (.ref g), .val (.ref a), .val .null, .val (.ref it), .val (.ref y)] [(.int (1 : Int32))]
  refine OGo.pop K (pc' := 75) own_d16_74 rfl rfl ?_
  refine OGo.goto K (pc' := 33) own_d16_75 (by decide) rfl ?_
  refine OGo.aloadN K (pc' := 34) own_d16_33 rfl rfl rfl ?_
  refine OGo.callFV K (pc' := 39) (y := (⟨"java/util/Iterator", "hasNext", "()Z"⟩ : MethodName)) (z := (⟨"java/util/ArrayList$Itr", "hasNext", "()Z"⟩ : MethodName)) (a := it) (W := 0) (cells' := 6) (slots' := 33) (argsL := []) (st := []) Q1_12 (hw _ (List.mem_of_getElem? (i := 145) rfl)) (hw _ (List.mem_of_getElem? (i := 146) rfl)) (hw _ (List.mem_of_getElem? (i := 147) rfl)) (hw _ (List.mem_of_getElem? (i := 148) rfl)) (hw _ (List.mem_of_getElem? (i := 149) rfl)) (hw _ (List.mem_of_getElem? (i := 150) rfl)) (hw _ (List.mem_of_getElem? (i := 151) rfl)) (hw _ (List.mem_of_getElem? (i := 152) rfl)) (hw _ (List.mem_of_getElem? (i := 132) rfl)) (hw _ (List.mem_of_getElem? (i := 153) rfl)) (by decide) (own_it_has l Z a0 hw it a 1 1 h12 n0 Z12 Q6_12 Q7_12 L_12.2.1) own_d16_34 rfl rfl (lenOf own_pd27 rfl) (by show 2 * 0 + _ ≤ _; exact Nat.le_of_eq rfl) (by decide) (by decide) rfl rfl (by decide) (by decide) ?_
  rintro _ h13 ⟨rfl, e13⟩
  rw [e13]
  show OGo p l e _ _ m _ below meth c n0 _ h12 6 33 39 #[.val (.ref g), .val (.ref a), .val .null, .val (.ref it), .val (.ref y)] [(.int (if (1 : Int32) = (1 : Int32) then 0 else 1))]
  refine OGo.ifEq K (pc' := 42) (pcY := 169) own_d16_39 rfl (by decide) rfl (fun hc39 => ?_) (fun hc39 => absurd (by decide : (if (1 : Int32) = (1 : Int32) then 0 else 1) = (0 : Int32)) hc39)
  exact OGo.s_vret K own_d16_169 (by decide) (by decide) C10_12 ⟨rfl, p', px, Fw_positional_g_12, L12, Kp12⟩
set_option maxRecDepth 65536 in
set_option maxHeartbeats 40000000 in
theorem own_rm0 (l : Launch) (Z : State) (a0 : Array Value) (hw : ∀ d ∈ tables_1, d.before a0 Z = true) (ws : List Jvm.Cond) (v0 v1 v2 : Int32) (dd : Addr) (cz : Int32) (h0 : Heap) (n0 : Nat) (Z0 : n0 ≤ h0.size) (Wd : OWd Z n0 h0 dd) (Sc : OS Z n0 h0 "java/lang/String" "COMPACT_STRINGS" "Z" (.int cz)) (hcz : ¬ cz = 0) :
    OConS l Z own_EL n0 x code maxLocals ret ws room_1 #[(.int v0), (.int v1), (.int v2)] h0 (fun _ => True) (OV fun w h => w = .int 1) := by
  refine OConS.of (Ls := #[.val (.int v0), .val (.int v1), .val (.int v2), .unset, .unset, .unset, .unset, .unset, .unset, .unset, .unset, .unset]) (own_ew hw) (plainFor_of_name own_pn_1) (fun m => own_entry m rfl) ?_
  intro p e s m below meth c K C0 hV
  refine OGo.iloadN K (pc' := 1) at_0 rfl rfl ?_
  refine OGo.iconst K (pc' := 2) (z := 3) at_1 rfl rfl ?_
  refine OGo.iand K (pc' := 3) at_2 rfl ?_
  refine OGo.istoreN K (pc' := 4) (Ls' := #[.val (.int v0), .val (.int v1), .val (.int v2), .val (.int (v1 &&& (3 : Int32))), .unset, .unset, .unset, .unset, .unset, .unset, .unset, .unset]) at_3 rfl rfl ?_
  refine OGo.iloadN K (pc' := 5) at_4 rfl rfl ?_
  refine OGo.sipush K (pc' := 8) (z := 255) at_5 rfl rfl ?_
  refine OGo.iand K (pc' := 9) at_8 rfl ?_
  refine OGo.i2c K (pc' := 10) at_9 rfl ?_
  refine OGo.istore K (pc' := 12) (Ls' := #[.val (.int v0), .val (.int v1), .val (.int v2), .val (.int (v1 &&& (3 : Int32))), .val (.int ((v0 &&& (255 : Int32)).toUInt32.toUInt16.toUInt32.toInt32)), .unset, .unset, .unset, .unset, .unset, .unset, .unset]) at_10 rfl rfl ?_
  refine OGo.iloadN K (pc' := 13) at_12 rfl rfl ?_
  refine OGo.bipush K (pc' := 15) (z := 8) at_13 rfl rfl ?_
  refine OGo.iushr K (pc' := 16) at_15 rfl ?_
  refine OGo.sipush K (pc' := 19) (z := 255) at_16 rfl rfl ?_
  refine OGo.iand K (pc' := 20) at_19 rfl ?_
  refine OGo.i2c K (pc' := 21) at_20 rfl ?_
  refine OGo.istore K (pc' := 23) (Ls' := #[.val (.int v0), .val (.int v1), .val (.int v2), .val (.int (v1 &&& (3 : Int32))), .val (.int ((v0 &&& (255 : Int32)).toUInt32.toUInt16.toUInt32.toInt32)), .val (.int (((ushr v0 (8 : Int32)) &&& (255 : Int32)).toUInt32.toUInt16.toUInt32.toInt32)), .unset, .unset, .unset, .unset, .unset, .unset]) at_21 rfl rfl ?_
  refine OGo.iloadN K (pc' := 24) at_23 rfl rfl ?_
  refine OGo.bipush K (pc' := 26) (z := 16) at_24 rfl rfl ?_
  refine OGo.iushr K (pc' := 27) at_26 rfl ?_
  refine OGo.sipush K (pc' := 30) (z := 255) at_27 rfl rfl ?_
  refine OGo.iand K (pc' := 31) at_30 rfl ?_
  refine OGo.i2c K (pc' := 32) at_31 rfl ?_
  refine OGo.istore K (pc' := 34) (Ls' := #[.val (.int v0), .val (.int v1), .val (.int v2), .val (.int (v1 &&& (3 : Int32))), .val (.int ((v0 &&& (255 : Int32)).toUInt32.toUInt16.toUInt32.toInt32)), .val (.int (((ushr v0 (8 : Int32)) &&& (255 : Int32)).toUInt32.toUInt16.toUInt32.toInt32)), .val (.int (((ushr v0 (16 : Int32)) &&& (255 : Int32)).toUInt32.toUInt16.toUInt32.toInt32)), .unset, .unset, .unset, .unset, .unset]) at_32 rfl rfl ?_
  have h3 := own_and3 v1
  generalize v1 &&& (3 : Int32) = n1 at h3 ⊢
  suffices J57 : ∀ (vm : Vm) (h : Heap) (s1 t1 : Addr) (k1 : Nat) (vs1 : List Value) (K : OCx p l e room_1 (s.setVm vm) m #[(.int v0), (.int v1), (.int v2)] below meth c Z x.cls x.name code maxLocals ret) (C1 : OSx Z a0 own_EL s h0 vm h) (Zh : n0 ≤ h.size) (Kp : Keep h0 h []) (P : OWs Z h s1 t1 k1 vs1) (hk : k1 ≤ 3) (hx : 1 ≤ k1 → ∃ x, vs1.getD 0 (.int 0) = .int x ∧ ¬ x = 45), OGo p l e room_1 (s.setVm vm) m #[(.int v0), (.int v1), (.int v2)] below meth c n0 (OPs Z own_EL s h0 room_1 n0 (OV fun w h => w = .int 1)) h 10 60 57 #[.val (.int v0), .val (.int v1), .val (.int v2), .val (.int n1), .val (.int ((v0 &&& (255 : Int32)).toUInt32.toUInt16.toUInt32.toInt32)), .val (.int (((ushr v0 (8 : Int32)) &&& (255 : Int32)).toUInt32.toUInt16.toUInt32.toInt32)), .val (.int (((ushr v0 (16 : Int32)) &&& (255 : Int32)).toUInt32.toUInt16.toUInt32.toInt32)), .unset, .unset, .unset, .unset, .unset] [(.ref s1)] by
    rcases h3 with rfl | rfl | rfl | rfl
    · skip
      refine OGo.iloadN K (pc' := 35) at_34 rfl rfl ?_
      refine OGo.ifLe K (pc' := 38) (pcY := 47) at_35 rfl (by decide) rfl (fun hc35 => ?_) (fun hc35 => absurd hc35 (by decide : ¬ (0 : Int32) < (0 : Int32)))
      refine OGo.iloadN K (pc' := 48) at_47 rfl rfl ?_
      refine OGo.iload K (pc' := 50) at_48 rfl rfl ?_
      refine OGo.iload K (pc' := 52) at_50 rfl rfl ?_
      refine OGo.iload K (pc' := 54) at_52 rfl rfl ?_
      refine OGo.callSSV K (pc' := 57) (y := (⟨"com/example/nextfront/nextfront/cli/ArgumentsOnlyPositionalPinLaw", "draw", "(ICCC)Ljava/lang/String;"⟩ : MethodName)) (W := 0) (cells' := 6) (slots' := 12) (argsL := [(.int (0 : Int32)), (.int ((v0 &&& (255 : Int32)).toUInt32.toUInt16.toUInt32.toInt32)), (.int (((ushr v0 (8 : Int32)) &&& (255 : Int32)).toUInt32.toUInt16.toUInt32.toInt32)), (.int (((ushr v0 (16 : Int32)) &&& (255 : Int32)).toUInt32.toUInt16.toUInt32.toInt32))]) (st := []) (hw _ (List.mem_of_getElem? (i := 0) rfl)) (hw _ (List.mem_of_getElem? (i := 1) rfl)) (hw _ (List.mem_of_getElem? (i := 2) rfl)) (hw _ (List.mem_of_getElem? (i := 3) rfl)) (by decide) (own_draw0 l Z a0 hw ((v0 &&& (255 : Int32)).toUInt32.toUInt16.toUInt32.toInt32) (((ushr v0 (8 : Int32)) &&& (255 : Int32)).toUInt32.toUInt16.toUInt32.toInt32) (((ushr v0 (16 : Int32)) &&& (255 : Int32)).toUInt32.toUInt16.toUInt32.toInt32) h0 n0 Z0) C0 (fun _ _ => trivial) at_54 rfl rfl (lenOf own_pd35 rfl) (by show 2 * 0 + _ ≤ _; exact Nat.le_of_eq rfl) (by decide) (by decide) rfl rfl (by decide) (by decide) ?_
      rintro vm1 _ h1 K C1 CR1 ⟨s1, t1, rfl, K1, P1⟩
      have Z1 : n0 ≤ h1.size := Nat.le_trans Z0 K1.1
      have Wd_1 := OWd.keep Wd K1 all0
      have Sc_1 := OS.keep Sc K1 all0
      have Kp1 : Keep h0 h1 [] := (Keep.refl h0 []).trans K1 all0
      show OGo p l e _ _ m _ below meth c n0 _ h1 6 12 57 #[.val (.int v0), .val (.int v1), .val (.int v2), .val (.int (0 : Int32)), .val (.int ((v0 &&& (255 : Int32)).toUInt32.toUInt16.toUInt32.toInt32)), .val (.int (((ushr v0 (8 : Int32)) &&& (255 : Int32)).toUInt32.toUInt16.toUInt32.toInt32)), .val (.int (((ushr v0 (16 : Int32)) &&& (255 : Int32)).toUInt32.toUInt16.toUInt32.toInt32)), .unset, .unset, .unset, .unset, .unset] [(.ref s1)]
      exact OGo.more (J57 _ _ s1 t1 0 _ K C1 Z1 Kp1 P1 (by decide) (fun q => absurd q (by decide))) (by decide) (by decide)
    · skip
      refine OGo.iloadN K (pc' := 35) at_34 rfl rfl ?_
      refine OGo.ifLe K (pc' := 38) (pcY := 47) at_35 rfl (by decide) rfl (fun hc35 => absurd (by decide : (0 : Int32) < (1 : Int32)) hc35) (fun hc35 => ?_)
      refine OGo.iload K (pc' := 40) at_38 rfl rfl ?_
      refine OGo.bipush K (pc' := 42) (z := 45) at_40 rfl rfl ?_
      refine OGo.icmpNe K (pc' := 45) (pcY := 47) at_42 rfl (by decide) rfl (fun h45 => ?_) (fun h45 => ?_)
      rotate_left
      · skip
        refine OGo.iconst K (pc' := 46) (z := 1) at_45 rfl rfl ?_
        exact OGo.s_ret K at_46 rfl (Or.inl ⟨rfl, by simp, _, rfl⟩) (by decide) (by decide) C0 ⟨_, rfl, rfl⟩
      refine OGo.iloadN K (pc' := 48) at_47 rfl rfl ?_
      refine OGo.iload K (pc' := 50) at_48 rfl rfl ?_
      refine OGo.iload K (pc' := 52) at_50 rfl rfl ?_
      refine OGo.iload K (pc' := 54) at_52 rfl rfl ?_
      refine OGo.callSV K (pc' := 57) (y := (⟨"com/example/nextfront/nextfront/cli/ArgumentsOnlyPositionalPinLaw", "draw", "(ICCC)Ljava/lang/String;"⟩ : MethodName)) (W := 0) (cells' := 3) (slots' := 9) (argsL := [(.int (1 : Int32)), (.int ((v0 &&& (255 : Int32)).toUInt32.toUInt16.toUInt32.toInt32)), (.int (((ushr v0 (8 : Int32)) &&& (255 : Int32)).toUInt32.toUInt16.toUInt32.toInt32)), (.int (((ushr v0 (16 : Int32)) &&& (255 : Int32)).toUInt32.toUInt16.toUInt32.toInt32))]) (st := []) (hw _ (List.mem_of_getElem? (i := 0) rfl)) (hw _ (List.mem_of_getElem? (i := 1) rfl)) (hw _ (List.mem_of_getElem? (i := 2) rfl)) (hw _ (List.mem_of_getElem? (i := 3) rfl)) (by decide) (own_draw1 l Z a0 hw ((v0 &&& (255 : Int32)).toUInt32.toUInt16.toUInt32.toInt32) (((ushr v0 (8 : Int32)) &&& (255 : Int32)).toUInt32.toUInt16.toUInt32.toInt32) (((ushr v0 (16 : Int32)) &&& (255 : Int32)).toUInt32.toUInt16.toUInt32.toInt32) cz h0 n0 Z0 (fun x hx => by simp only [List.mem_cons, List.not_mem_nil, or_false] at hx; rcases hx with rfl <;> exact own_cc _) Sc hcz) at_54 rfl rfl (lenOf own_pd35 rfl) (by show 2 * 0 + _ ≤ _; exact Nat.le_of_eq rfl) (by decide) (by decide) rfl rfl (by decide) (by decide) ?_
      rintro _ h2 ⟨s1, t1, rfl, K2, P2, -, -⟩
      have Z2 : n0 ≤ h2.size := Nat.le_trans Z0 K2.1
      have Wd_2 := OWd.keep Wd K2 all0
      have Sc_2 := OS.keep Sc K2 all0
      have C0_2 := OSx.keep C0 K2 sf0
      have Kp2 : Keep h0 h2 [] := (Keep.refl h0 []).trans K2 all0
      show OGo p l e _ _ m _ below meth c n0 _ h2 3 9 57 #[.val (.int v0), .val (.int v1), .val (.int v2), .val (.int (1 : Int32)), .val (.int ((v0 &&& (255 : Int32)).toUInt32.toUInt16.toUInt32.toInt32)), .val (.int (((ushr v0 (8 : Int32)) &&& (255 : Int32)).toUInt32.toUInt16.toUInt32.toInt32)), .val (.int (((ushr v0 (16 : Int32)) &&& (255 : Int32)).toUInt32.toUInt16.toUInt32.toInt32)), .unset, .unset, .unset, .unset, .unset] [(.ref s1)]
      exact OGo.more (J57 _ _ s1 t1 1 _ K C0_2 Z2 Kp2 P2 (by decide) (fun _ => ⟨_, rfl, own_c45 _ h45⟩)) (by decide) (by decide)
    · skip
      refine OGo.iloadN K (pc' := 35) at_34 rfl rfl ?_
      refine OGo.ifLe K (pc' := 38) (pcY := 47) at_35 rfl (by decide) rfl (fun hc35 => absurd (by decide : (0 : Int32) < (2 : Int32)) hc35) (fun hc35 => ?_)
      refine OGo.iload K (pc' := 40) at_38 rfl rfl ?_
      refine OGo.bipush K (pc' := 42) (z := 45) at_40 rfl rfl ?_
      refine OGo.icmpNe K (pc' := 45) (pcY := 47) at_42 rfl (by decide) rfl (fun h45 => ?_) (fun h45 => ?_)
      rotate_left
      · skip
        refine OGo.iconst K (pc' := 46) (z := 1) at_45 rfl rfl ?_
        exact OGo.s_ret K at_46 rfl (Or.inl ⟨rfl, by simp, _, rfl⟩) (by decide) (by decide) C0 ⟨_, rfl, rfl⟩
      refine OGo.iloadN K (pc' := 48) at_47 rfl rfl ?_
      refine OGo.iload K (pc' := 50) at_48 rfl rfl ?_
      refine OGo.iload K (pc' := 52) at_50 rfl rfl ?_
      refine OGo.iload K (pc' := 54) at_52 rfl rfl ?_
      refine OGo.callSV K (pc' := 57) (y := (⟨"com/example/nextfront/nextfront/cli/ArgumentsOnlyPositionalPinLaw", "draw", "(ICCC)Ljava/lang/String;"⟩ : MethodName)) (W := 0) (cells' := 3) (slots' := 10) (argsL := [(.int (2 : Int32)), (.int ((v0 &&& (255 : Int32)).toUInt32.toUInt16.toUInt32.toInt32)), (.int (((ushr v0 (8 : Int32)) &&& (255 : Int32)).toUInt32.toUInt16.toUInt32.toInt32)), (.int (((ushr v0 (16 : Int32)) &&& (255 : Int32)).toUInt32.toUInt16.toUInt32.toInt32))]) (st := []) (hw _ (List.mem_of_getElem? (i := 0) rfl)) (hw _ (List.mem_of_getElem? (i := 1) rfl)) (hw _ (List.mem_of_getElem? (i := 2) rfl)) (hw _ (List.mem_of_getElem? (i := 3) rfl)) (by decide) (own_draw2 l Z a0 hw ((v0 &&& (255 : Int32)).toUInt32.toUInt16.toUInt32.toInt32) (((ushr v0 (8 : Int32)) &&& (255 : Int32)).toUInt32.toUInt16.toUInt32.toInt32) (((ushr v0 (16 : Int32)) &&& (255 : Int32)).toUInt32.toUInt16.toUInt32.toInt32) cz h0 n0 Z0 (fun x hx => by simp only [List.mem_cons, List.not_mem_nil, or_false] at hx; rcases hx with rfl | rfl <;> exact own_cc _) Sc hcz) at_54 rfl rfl (lenOf own_pd35 rfl) (by show 2 * 0 + _ ≤ _; exact Nat.le_of_eq rfl) (by decide) (by decide) rfl rfl (by decide) (by decide) ?_
      rintro _ h3 ⟨s1, t1, rfl, K3, P3, -, -⟩
      have Z3 : n0 ≤ h3.size := Nat.le_trans Z0 K3.1
      have Wd_3 := OWd.keep Wd K3 all0
      have Sc_3 := OS.keep Sc K3 all0
      have C0_3 := OSx.keep C0 K3 sf0
      have Kp3 : Keep h0 h3 [] := (Keep.refl h0 []).trans K3 all0
      show OGo p l e _ _ m _ below meth c n0 _ h3 3 10 57 #[.val (.int v0), .val (.int v1), .val (.int v2), .val (.int (2 : Int32)), .val (.int ((v0 &&& (255 : Int32)).toUInt32.toUInt16.toUInt32.toInt32)), .val (.int (((ushr v0 (8 : Int32)) &&& (255 : Int32)).toUInt32.toUInt16.toUInt32.toInt32)), .val (.int (((ushr v0 (16 : Int32)) &&& (255 : Int32)).toUInt32.toUInt16.toUInt32.toInt32)), .unset, .unset, .unset, .unset, .unset] [(.ref s1)]
      exact OGo.more (J57 _ _ s1 t1 2 _ K C0_3 Z3 Kp3 P3 (by decide) (fun _ => ⟨_, rfl, own_c45 _ h45⟩)) (by decide) (by decide)
    · skip
      refine OGo.iloadN K (pc' := 35) at_34 rfl rfl ?_
      refine OGo.ifLe K (pc' := 38) (pcY := 47) at_35 rfl (by decide) rfl (fun hc35 => absurd (by decide : (0 : Int32) < (3 : Int32)) hc35) (fun hc35 => ?_)
      refine OGo.iload K (pc' := 40) at_38 rfl rfl ?_
      refine OGo.bipush K (pc' := 42) (z := 45) at_40 rfl rfl ?_
      refine OGo.icmpNe K (pc' := 45) (pcY := 47) at_42 rfl (by decide) rfl (fun h45 => ?_) (fun h45 => ?_)
      rotate_left
      · skip
        refine OGo.iconst K (pc' := 46) (z := 1) at_45 rfl rfl ?_
        exact OGo.s_ret K at_46 rfl (Or.inl ⟨rfl, by simp, _, rfl⟩) (by decide) (by decide) C0 ⟨_, rfl, rfl⟩
      refine OGo.iloadN K (pc' := 48) at_47 rfl rfl ?_
      refine OGo.iload K (pc' := 50) at_48 rfl rfl ?_
      refine OGo.iload K (pc' := 52) at_50 rfl rfl ?_
      refine OGo.iload K (pc' := 54) at_52 rfl rfl ?_
      refine OGo.callSV K (pc' := 57) (y := (⟨"com/example/nextfront/nextfront/cli/ArgumentsOnlyPositionalPinLaw", "draw", "(ICCC)Ljava/lang/String;"⟩ : MethodName)) (W := 0) (cells' := 3) (slots' := 11) (argsL := [(.int (3 : Int32)), (.int ((v0 &&& (255 : Int32)).toUInt32.toUInt16.toUInt32.toInt32)), (.int (((ushr v0 (8 : Int32)) &&& (255 : Int32)).toUInt32.toUInt16.toUInt32.toInt32)), (.int (((ushr v0 (16 : Int32)) &&& (255 : Int32)).toUInt32.toUInt16.toUInt32.toInt32))]) (st := []) (hw _ (List.mem_of_getElem? (i := 0) rfl)) (hw _ (List.mem_of_getElem? (i := 1) rfl)) (hw _ (List.mem_of_getElem? (i := 2) rfl)) (hw _ (List.mem_of_getElem? (i := 3) rfl)) (by decide) (own_draw3 l Z a0 hw ((v0 &&& (255 : Int32)).toUInt32.toUInt16.toUInt32.toInt32) (((ushr v0 (8 : Int32)) &&& (255 : Int32)).toUInt32.toUInt16.toUInt32.toInt32) (((ushr v0 (16 : Int32)) &&& (255 : Int32)).toUInt32.toUInt16.toUInt32.toInt32) cz h0 n0 Z0 (fun x hx => by simp only [List.mem_cons, List.not_mem_nil, or_false] at hx; rcases hx with rfl | rfl | rfl <;> exact own_cc _) Sc hcz) at_54 rfl rfl (lenOf own_pd35 rfl) (by show 2 * 0 + _ ≤ _; exact Nat.le_of_eq rfl) (by decide) (by decide) rfl rfl (by decide) (by decide) ?_
      rintro _ h4 ⟨s1, t1, rfl, K4, P4, -, -⟩
      have Z4 : n0 ≤ h4.size := Nat.le_trans Z0 K4.1
      have Wd_4 := OWd.keep Wd K4 all0
      have Sc_4 := OS.keep Sc K4 all0
      have C0_4 := OSx.keep C0 K4 sf0
      have Kp4 : Keep h0 h4 [] := (Keep.refl h0 []).trans K4 all0
      show OGo p l e _ _ m _ below meth c n0 _ h4 3 11 57 #[.val (.int v0), .val (.int v1), .val (.int v2), .val (.int (3 : Int32)), .val (.int ((v0 &&& (255 : Int32)).toUInt32.toUInt16.toUInt32.toInt32)), .val (.int (((ushr v0 (8 : Int32)) &&& (255 : Int32)).toUInt32.toUInt16.toUInt32.toInt32)), .val (.int (((ushr v0 (16 : Int32)) &&& (255 : Int32)).toUInt32.toUInt16.toUInt32.toInt32)), .unset, .unset, .unset, .unset, .unset] [(.ref s1)]
      exact OGo.more (J57 _ _ s1 t1 3 _ K C0_4 Z4 Kp4 P4 (by decide) (fun _ => ⟨_, rfl, own_c45 _ h45⟩)) (by decide) (by decide)
  intro vm h s1 t1 k1 vs1 K C1 Zh Kp P hk hx
  have Wd_5 := Wd.keep Kp all0
  have Sc_5 := Sc.keep Kp all0
  refine OGo.astore K (pc' := 59) (Ls' := #[.val (.int v0), .val (.int v1), .val (.int v2), .val (.int n1), .val (.int ((v0 &&& (255 : Int32)).toUInt32.toUInt16.toUInt32.toInt32)), .val (.int (((ushr v0 (8 : Int32)) &&& (255 : Int32)).toUInt32.toUInt16.toUInt32.toInt32)), .val (.int (((ushr v0 (16 : Int32)) &&& (255 : Int32)).toUInt32.toUInt16.toUInt32.toInt32)), .val (.ref s1), .unset, .unset, .unset, .unset]) at_57 rfl rfl rfl ?_
  refine OGo.iloadN K (pc' := 60) at_59 rfl rfl ?_
  refine OGo.iconst K (pc' := 61) (z := 2) at_60 rfl rfl ?_
  refine OGo.iushr K (pc' := 62) at_61 rfl ?_
  refine OGo.iconst K (pc' := 63) (z := 3) at_62 rfl rfl ?_
  refine OGo.iand K (pc' := 64) at_63 rfl ?_
  have h4 := own_and3 (ushr v1 (2 : Int32))
  generalize ((ushr v1 (2 : Int32)) &&& (3 : Int32)) = n2 at h4 ⊢
  refine OGo.iloadN K (pc' := 65) at_64 rfl rfl ?_
  refine OGo.sipush K (pc' := 68) (z := 255) at_65 rfl rfl ?_
  refine OGo.iand K (pc' := 69) at_68 rfl ?_
  refine OGo.i2c K (pc' := 70) at_69 rfl ?_
  refine OGo.iloadN K (pc' := 71) at_70 rfl rfl ?_
  refine OGo.bipush K (pc' := 73) (z := 8) at_71 rfl rfl ?_
  refine OGo.iushr K (pc' := 74) at_73 rfl ?_
  refine OGo.sipush K (pc' := 77) (z := 255) at_74 rfl rfl ?_
  refine OGo.iand K (pc' := 78) at_77 rfl ?_
  refine OGo.i2c K (pc' := 79) at_78 rfl ?_
  refine OGo.iloadN K (pc' := 80) at_79 rfl rfl ?_
  refine OGo.bipush K (pc' := 82) (z := 16) at_80 rfl rfl ?_
  refine OGo.iushr K (pc' := 83) at_82 rfl ?_
  refine OGo.sipush K (pc' := 86) (z := 255) at_83 rfl rfl ?_
  refine OGo.iand K (pc' := 87) at_86 rfl ?_
  refine OGo.i2c K (pc' := 88) at_87 rfl ?_
  suffices J91 : ∀ (vm : Vm) (h : Heap) (s2 : Addr) (K : OCx p l e room_1 (s.setVm vm) m #[(.int v0), (.int v1), (.int v2)] below meth c Z x.cls x.name code maxLocals ret) (C2 : OSx Z a0 own_EL s h0 vm h) (Zh : n0 ≤ h.size) (Kp : Keep h0 h []) (P : OWs Z h s1 t1 k1 vs1), OGo p l e room_1 (s.setVm vm) m #[(.int v0), (.int v1), (.int v2)] below meth c n0 (OPs Z own_EL s h0 room_1 n0 (OV fun w h => w = .int 1)) h 20 120 91 #[.val (.int v0), .val (.int v1), .val (.int v2), .val (.int n1), .val (.int ((v0 &&& (255 : Int32)).toUInt32.toUInt16.toUInt32.toInt32)), .val (.int (((ushr v0 (8 : Int32)) &&& (255 : Int32)).toUInt32.toUInt16.toUInt32.toInt32)), .val (.int (((ushr v0 (16 : Int32)) &&& (255 : Int32)).toUInt32.toUInt16.toUInt32.toInt32)), .val (.ref s1), .unset, .unset, .unset, .unset] [(.ref s2)] by
    rcases h4 with rfl | rfl | rfl | rfl
    · skip
      refine OGo.callSSV K (pc' := 91) (y := (⟨"com/example/nextfront/nextfront/cli/ArgumentsOnlyPositionalPinLaw", "draw", "(ICCC)Ljava/lang/String;"⟩ : MethodName)) (W := 0) (cells' := 16) (slots' := 72) (argsL := [(.int (0 : Int32)), (.int ((v2 &&& (255 : Int32)).toUInt32.toUInt16.toUInt32.toInt32)), (.int (((ushr v2 (8 : Int32)) &&& (255 : Int32)).toUInt32.toUInt16.toUInt32.toInt32)), (.int (((ushr v2 (16 : Int32)) &&& (255 : Int32)).toUInt32.toUInt16.toUInt32.toInt32))]) (st := []) (hw _ (List.mem_of_getElem? (i := 0) rfl)) (hw _ (List.mem_of_getElem? (i := 1) rfl)) (hw _ (List.mem_of_getElem? (i := 2) rfl)) (hw _ (List.mem_of_getElem? (i := 3) rfl)) (by decide) (own_draw0 l Z a0 hw ((v2 &&& (255 : Int32)).toUInt32.toUInt16.toUInt32.toInt32) (((ushr v2 (8 : Int32)) &&& (255 : Int32)).toUInt32.toUInt16.toUInt32.toInt32) (((ushr v2 (16 : Int32)) &&& (255 : Int32)).toUInt32.toUInt16.toUInt32.toInt32) h n0 Zh) C1 (fun _ _ => trivial) at_88 rfl rfl (lenOf own_pd35 rfl) (by show 2 * 0 + _ ≤ _; exact Nat.le_of_eq rfl) (by decide) (by decide) rfl rfl (by decide) (by decide) ?_
      rintro vm6 _ h6 K C6 CR6 ⟨s2, t2, rfl, K6, P6⟩
      have Z6 : n0 ≤ h6.size := Nat.le_trans Zh K6.1
      have P_6 := OWs.keep P K6 nin0 nin0
      have Wd_6 := OWd.keep Wd_5 K6 all0
      have Sc_6 := OS.keep Sc_5 K6 all0
      have Kp6 : Keep h0 h6 [] := Kp.trans K6 all0
      show OGo p l e _ _ m _ below meth c n0 _ h6 16 72 91 #[.val (.int v0), .val (.int v1), .val (.int v2), .val (.int n1), .val (.int ((v0 &&& (255 : Int32)).toUInt32.toUInt16.toUInt32.toInt32)), .val (.int (((ushr v0 (8 : Int32)) &&& (255 : Int32)).toUInt32.toUInt16.toUInt32.toInt32)), .val (.int (((ushr v0 (16 : Int32)) &&& (255 : Int32)).toUInt32.toUInt16.toUInt32.toInt32)), .val (.ref s1), .unset, .unset, .unset, .unset] [(.ref s2)]
      exact OGo.more (J91 _ _ s2 K C6 Z6 Kp6 P_6) (by decide) (by decide)
    · skip
      refine OGo.callSV K (pc' := 91) (y := (⟨"com/example/nextfront/nextfront/cli/ArgumentsOnlyPositionalPinLaw", "draw", "(ICCC)Ljava/lang/String;"⟩ : MethodName)) (W := 0) (cells' := 13) (slots' := 69) (argsL := [(.int (1 : Int32)), (.int ((v2 &&& (255 : Int32)).toUInt32.toUInt16.toUInt32.toInt32)), (.int (((ushr v2 (8 : Int32)) &&& (255 : Int32)).toUInt32.toUInt16.toUInt32.toInt32)), (.int (((ushr v2 (16 : Int32)) &&& (255 : Int32)).toUInt32.toUInt16.toUInt32.toInt32))]) (st := []) (hw _ (List.mem_of_getElem? (i := 0) rfl)) (hw _ (List.mem_of_getElem? (i := 1) rfl)) (hw _ (List.mem_of_getElem? (i := 2) rfl)) (hw _ (List.mem_of_getElem? (i := 3) rfl)) (by decide) (own_draw1 l Z a0 hw ((v2 &&& (255 : Int32)).toUInt32.toUInt16.toUInt32.toInt32) (((ushr v2 (8 : Int32)) &&& (255 : Int32)).toUInt32.toUInt16.toUInt32.toInt32) (((ushr v2 (16 : Int32)) &&& (255 : Int32)).toUInt32.toUInt16.toUInt32.toInt32) cz h n0 Zh (fun x hx => by simp only [List.mem_cons, List.not_mem_nil, or_false] at hx; rcases hx with rfl <;> exact own_cc _) Sc_5 hcz) at_88 rfl rfl (lenOf own_pd35 rfl) (by show 2 * 0 + _ ≤ _; exact Nat.le_of_eq rfl) (by decide) (by decide) rfl rfl (by decide) (by decide) ?_
      rintro _ h7 ⟨s2, t2, rfl, K7, P7, -, -⟩
      have Z7 : n0 ≤ h7.size := Nat.le_trans Zh K7.1
      have P_7 := OWs.keep P K7 nin0 nin0
      have Wd_7 := OWd.keep Wd_5 K7 all0
      have Sc_7 := OS.keep Sc_5 K7 all0
      have C1_7 := OSx.keep C1 K7 sf0
      have Kp7 : Keep h0 h7 [] := Kp.trans K7 all0
      show OGo p l e _ _ m _ below meth c n0 _ h7 13 69 91 #[.val (.int v0), .val (.int v1), .val (.int v2), .val (.int n1), .val (.int ((v0 &&& (255 : Int32)).toUInt32.toUInt16.toUInt32.toInt32)), .val (.int (((ushr v0 (8 : Int32)) &&& (255 : Int32)).toUInt32.toUInt16.toUInt32.toInt32)), .val (.int (((ushr v0 (16 : Int32)) &&& (255 : Int32)).toUInt32.toUInt16.toUInt32.toInt32)), .val (.ref s1), .unset, .unset, .unset, .unset] [(.ref s2)]
      exact OGo.more (J91 _ _ s2 K C1_7 Z7 Kp7 P_7) (by decide) (by decide)
    · skip
      refine OGo.callSV K (pc' := 91) (y := (⟨"com/example/nextfront/nextfront/cli/ArgumentsOnlyPositionalPinLaw", "draw", "(ICCC)Ljava/lang/String;"⟩ : MethodName)) (W := 0) (cells' := 13) (slots' := 70) (argsL := [(.int (2 : Int32)), (.int ((v2 &&& (255 : Int32)).toUInt32.toUInt16.toUInt32.toInt32)), (.int (((ushr v2 (8 : Int32)) &&& (255 : Int32)).toUInt32.toUInt16.toUInt32.toInt32)), (.int (((ushr v2 (16 : Int32)) &&& (255 : Int32)).toUInt32.toUInt16.toUInt32.toInt32))]) (st := []) (hw _ (List.mem_of_getElem? (i := 0) rfl)) (hw _ (List.mem_of_getElem? (i := 1) rfl)) (hw _ (List.mem_of_getElem? (i := 2) rfl)) (hw _ (List.mem_of_getElem? (i := 3) rfl)) (by decide) (own_draw2 l Z a0 hw ((v2 &&& (255 : Int32)).toUInt32.toUInt16.toUInt32.toInt32) (((ushr v2 (8 : Int32)) &&& (255 : Int32)).toUInt32.toUInt16.toUInt32.toInt32) (((ushr v2 (16 : Int32)) &&& (255 : Int32)).toUInt32.toUInt16.toUInt32.toInt32) cz h n0 Zh (fun x hx => by simp only [List.mem_cons, List.not_mem_nil, or_false] at hx; rcases hx with rfl | rfl <;> exact own_cc _) Sc_5 hcz) at_88 rfl rfl (lenOf own_pd35 rfl) (by show 2 * 0 + _ ≤ _; exact Nat.le_of_eq rfl) (by decide) (by decide) rfl rfl (by decide) (by decide) ?_
      rintro _ h8 ⟨s2, t2, rfl, K8, P8, -, -⟩
      have Z8 : n0 ≤ h8.size := Nat.le_trans Zh K8.1
      have P_8 := OWs.keep P K8 nin0 nin0
      have Wd_8 := OWd.keep Wd_5 K8 all0
      have Sc_8 := OS.keep Sc_5 K8 all0
      have C1_8 := OSx.keep C1 K8 sf0
      have Kp8 : Keep h0 h8 [] := Kp.trans K8 all0
      show OGo p l e _ _ m _ below meth c n0 _ h8 13 70 91 #[.val (.int v0), .val (.int v1), .val (.int v2), .val (.int n1), .val (.int ((v0 &&& (255 : Int32)).toUInt32.toUInt16.toUInt32.toInt32)), .val (.int (((ushr v0 (8 : Int32)) &&& (255 : Int32)).toUInt32.toUInt16.toUInt32.toInt32)), .val (.int (((ushr v0 (16 : Int32)) &&& (255 : Int32)).toUInt32.toUInt16.toUInt32.toInt32)), .val (.ref s1), .unset, .unset, .unset, .unset] [(.ref s2)]
      exact OGo.more (J91 _ _ s2 K C1_8 Z8 Kp8 P_8) (by decide) (by decide)
    · skip
      refine OGo.callSV K (pc' := 91) (y := (⟨"com/example/nextfront/nextfront/cli/ArgumentsOnlyPositionalPinLaw", "draw", "(ICCC)Ljava/lang/String;"⟩ : MethodName)) (W := 0) (cells' := 13) (slots' := 71) (argsL := [(.int (3 : Int32)), (.int ((v2 &&& (255 : Int32)).toUInt32.toUInt16.toUInt32.toInt32)), (.int (((ushr v2 (8 : Int32)) &&& (255 : Int32)).toUInt32.toUInt16.toUInt32.toInt32)), (.int (((ushr v2 (16 : Int32)) &&& (255 : Int32)).toUInt32.toUInt16.toUInt32.toInt32))]) (st := []) (hw _ (List.mem_of_getElem? (i := 0) rfl)) (hw _ (List.mem_of_getElem? (i := 1) rfl)) (hw _ (List.mem_of_getElem? (i := 2) rfl)) (hw _ (List.mem_of_getElem? (i := 3) rfl)) (by decide) (own_draw3 l Z a0 hw ((v2 &&& (255 : Int32)).toUInt32.toUInt16.toUInt32.toInt32) (((ushr v2 (8 : Int32)) &&& (255 : Int32)).toUInt32.toUInt16.toUInt32.toInt32) (((ushr v2 (16 : Int32)) &&& (255 : Int32)).toUInt32.toUInt16.toUInt32.toInt32) cz h n0 Zh (fun x hx => by simp only [List.mem_cons, List.not_mem_nil, or_false] at hx; rcases hx with rfl | rfl | rfl <;> exact own_cc _) Sc_5 hcz) at_88 rfl rfl (lenOf own_pd35 rfl) (by show 2 * 0 + _ ≤ _; exact Nat.le_of_eq rfl) (by decide) (by decide) rfl rfl (by decide) (by decide) ?_
      rintro _ h9 ⟨s2, t2, rfl, K9, P9, -, -⟩
      have Z9 : n0 ≤ h9.size := Nat.le_trans Zh K9.1
      have P_9 := OWs.keep P K9 nin0 nin0
      have Wd_9 := OWd.keep Wd_5 K9 all0
      have Sc_9 := OS.keep Sc_5 K9 all0
      have C1_9 := OSx.keep C1 K9 sf0
      have Kp9 : Keep h0 h9 [] := Kp.trans K9 all0
      show OGo p l e _ _ m _ below meth c n0 _ h9 13 71 91 #[.val (.int v0), .val (.int v1), .val (.int v2), .val (.int n1), .val (.int ((v0 &&& (255 : Int32)).toUInt32.toUInt16.toUInt32.toInt32)), .val (.int (((ushr v0 (8 : Int32)) &&& (255 : Int32)).toUInt32.toUInt16.toUInt32.toInt32)), .val (.int (((ushr v0 (16 : Int32)) &&& (255 : Int32)).toUInt32.toUInt16.toUInt32.toInt32)), .val (.ref s1), .unset, .unset, .unset, .unset] [(.ref s2)]
      exact OGo.more (J91 _ _ s2 K C1_9 Z9 Kp9 P_9) (by decide) (by decide)
  clear C1 Zh Kp P
  intro vm h s2 K C2 Zh Kp P
  have Wd_10 := Wd.keep Kp all0
  have Sc_10 := Sc.keep Kp all0
  refine OGo.astore K (pc' := 93) (Ls' := #[.val (.int v0), .val (.int v1), .val (.int v2), .val (.int n1), .val (.int ((v0 &&& (255 : Int32)).toUInt32.toUInt16.toUInt32.toInt32)), .val (.int (((ushr v0 (8 : Int32)) &&& (255 : Int32)).toUInt32.toUInt16.toUInt32.toInt32)), .val (.int (((ushr v0 (16 : Int32)) &&& (255 : Int32)).toUInt32.toUInt16.toUInt32.toInt32)), .val (.ref s1), .val (.ref s2), .unset, .unset, .unset]) at_91 rfl rfl rfl ?_
  refine OGo.newO K (pc' := 96) (cells' := 21) (slots' := 123) (hw _ (List.mem_of_getElem? (i := 37) rfl)) (hw _ (List.mem_of_getElem? (i := 38) rfl)) (hw _ (List.mem_of_getElem? (i := 39) rfl)) at_93 rfl rfl rfl (by decide) (by decide) ?_
  intro h11 a gq11 E11 A11 D11
  have ne_s1_a : s1 ≠ a := Nat.ne_of_lt (Nat.lt_of_lt_of_le (OWs.lts P) (Nat.le_of_eq gq11.symm))
  have ne_t1_a : t1 ≠ a := Nat.ne_of_lt (Nat.lt_of_lt_of_le (OWs.ltt P) (Nat.le_of_eq gq11.symm))
  have g_a : n0 ≤ a := Nat.le_trans Zh (Nat.le_of_eq gq11.symm)
  have sz_a : h0.size ≤ a := Nat.le_trans Kp.1 (Nat.le_of_eq gq11.symm)
  have Z11 : n0 ≤ h11.size := Nat.le_trans Zh E11.1
  have Kp11 : Keep h0 h11 [] := Kp.ext E11
  have P_11 := OWs.keep P (own_keep_ext E11) nin0 nin0
  have Wd_11 := OWd.ext Wd_10 E11
  have Sc_11 := OS.keep Sc_10 (own_keep_ext E11) all0
  have C2_11 := OSx.ext C2 E11
  have F_modCount_a : Fld Z h11 a "java/util/AbstractList" "modCount" "I" (.int (0 : Int32)) := D11 (Or.inl (hw _ (List.mem_of_getElem? (i := 57) rfl))) (ty := .int) (by decide)
  have F_elementData_a : Fld Z h11 a "java/util/ArrayList" "elementData" "[Ljava/lang/Object;" .null := D11 (Or.inl (hw _ (List.mem_of_getElem? (i := 60) rfl))) (ty := (.array (.object "java/lang/Object"))) (by decide)
  have F_size_a : Fld Z h11 a "java/util/ArrayList" "size" "I" (.int (0 : Int32)) := D11 (Or.inl (hw _ (List.mem_of_getElem? (i := 69) rfl))) (ty := .int) (by decide)
  refine OGo.dup K (pc' := 97) at_96 rfl rfl ?_
  refine OGo.callIN K (pc' := 100) (y := (⟨"java/util/ArrayList", "<init>", "()V"⟩ : MethodName)) (a := a) (W := 1) (cells' := 21) (slots' := 123) (argsL := []) (st := [(.ref a)]) rfl (hw _ (List.mem_of_getElem? (i := 40) rfl)) (hw _ (List.mem_of_getElem? (i := 41) rfl)) (hw _ (List.mem_of_getElem? (i := 39) rfl)) (hw _ (List.mem_of_getElem? (i := 42) rfl)) (by decide) (own_al_init l Z a0 hw a dd _ _ h11 n0 Z11 A11 F_elementData_a F_size_a F_modCount_a g_a Wd_11) at_97 rfl rfl (lenOf own_pd1 rfl) (by show 2 * 0 + _ ≤ _; exact Nat.le_of_eq rfl) (by decide) (by decide) rfl rfl (by decide) (by decide) ?_
  rintro h12 ⟨L12, K12⟩
  have Z12 : n0 ≤ h12.size := Nat.le_trans Z11 K12.1
  have P_12 := OWs.keep P_11 K12 (ninS ne_s1_a nin0) (ninS ne_t1_a nin0)
  have Wd_12 := OWd.keep Wd_11 K12 (allS g_a all0)
  have Sc_12 := OS.keep Sc_11 K12 (allS g_a all0)
  have C2_12 := OSx.keep C2_11 K12 (sfS (Safe.exa K.hZ.alike A11 (by decide) (by decide)) sf0)
  have Kp12 : Keep h0 h12 [] := Kp11.trans K12 (allS (Or.inr sz_a) all0)
  refine OGo.astore K (pc' := 102) (Ls' := #[.val (.int v0), .val (.int v1), .val (.int v2), .val (.int n1), .val (.int ((v0 &&& (255 : Int32)).toUInt32.toUInt16.toUInt32.toInt32)), .val (.int (((ushr v0 (8 : Int32)) &&& (255 : Int32)).toUInt32.toUInt16.toUInt32.toInt32)), .val (.int (((ushr v0 (16 : Int32)) &&& (255 : Int32)).toUInt32.toUInt16.toUInt32.toInt32)), .val (.ref s1), .val (.ref s2), .val (.ref a), .unset, .unset]) at_100 rfl rfl rfl ?_
  refine OGo.aload K (pc' := 104) at_102 rfl rfl rfl ?_
  refine OGo.aload K (pc' := 106) at_104 rfl rfl rfl ?_
  refine OGo.callVV K (pc' := 109) (y := (⟨"java/util/ArrayList", "add", "(Ljava/lang/Object;)Z"⟩ : MethodName)) (z := (⟨"java/util/ArrayList", "add", "(Ljava/lang/Object;)Z"⟩ : MethodName)) (a := a) (W := 0) (cells' := 22) (slots' := 133) (argsL := [(.ref s1)]) (st := []) L12.1 (hw _ (List.mem_of_getElem? (i := 61) rfl)) (hw _ (List.mem_of_getElem? (i := 62) rfl)) (notFace_of_selects (args := #[]) (mvT K.hZ (hw _ (List.mem_of_getElem? (i := 64) rfl)))) (hw _ (List.mem_of_getElem? (i := 64) rfl)) (hw _ (List.mem_of_getElem? (i := 63) rfl)) (hw _ (List.mem_of_getElem? (i := 39) rfl)) (hw _ (List.mem_of_getElem? (i := 65) rfl)) (by decide) (own_al_add0 l Z a0 hw a s1 dd h12 n0 Z12 L12 Wd_12 (Ins.of_exa P_12.1 (hw _ (List.mem_of_getElem? (i := 91) rfl)))) at_106 rfl rfl (lenOf own_pd34 rfl) (by show 2 * 0 + _ ≤ _; exact Nat.le_of_eq rfl) (by decide) (by decide) rfl rfl (by decide) (by decide) ?_
  rintro _ h13 ⟨rfl, x', L13, K13, s13⟩
  have Z13 : n0 ≤ h13.size := Nat.le_trans Z12 K13.1
  have ne_s1_x' : s1 ≠ x' := Nat.ne_of_lt (Nat.lt_of_lt_of_le (OWs.lts P_12) s13)
  have ne_t1_x' : t1 ≠ x' := Nat.ne_of_lt (Nat.lt_of_lt_of_le (OWs.ltt P_12) s13)
  have ne_a_x' : a ≠ x' := Nat.ne_of_lt (Nat.lt_of_lt_of_le (OAL0.lta L12) s13)
  have P_13 := OWs.keep P_12 K13 (ninS ne_s1_a nin0) (ninS ne_t1_a nin0)
  have Wd_13 := OWd.keep Wd_12 K13 (allS g_a all0)
  have Sc_13 := OS.keep Sc_12 K13 (allS g_a all0)
  have C2_13 := OSx.keep C2_12 K13 (sfS (Safe.exa K.hZ.alike L12.1 (by decide) (by decide)) sf0)
  have Kp13 : Keep h0 h13 [] := Kp12.trans K13 (allS (Or.inr sz_a) all0)
  show OGo p l e _ _ m _ below meth c n0 _ h13 22 133 109 #[.val (.int v0), .val (.int v1), .val (.int v2), .val (.int n1), .val (.int ((v0 &&& (255 : Int32)).toUInt32.toUInt16.toUInt32.toInt32)), .val (.int (((ushr v0 (8 : Int32)) &&& (255 : Int32)).toUInt32.toUInt16.toUInt32.toInt32)), .val (.int (((ushr v0 (16 : Int32)) &&& (255 : Int32)).toUInt32.toUInt16.toUInt32.toInt32)), .val (.ref s1), .val (.ref s2), .val (.ref a), .unset, .unset] [(.int (1 : Int32))]
  refine OGo.pop K (pc' := 110) at_109 rfl rfl ?_
  refine OGo.newO K (pc' := 113) (cells' := 23) (slots' := 135) (hw _ (List.mem_of_getElem? (i := 92) rfl)) (hw _ (List.mem_of_getElem? (i := 93) rfl)) (hw _ (List.mem_of_getElem? (i := 94) rfl)) at_110 rfl rfl rfl (by decide) (by decide) ?_
  intro h14 g gq14 E14 A14 D14
  have ne_s1_g : s1 ≠ g := Nat.ne_of_lt (Nat.lt_of_lt_of_le (OWs.lts P_13) (Nat.le_of_eq gq14.symm))
  have ne_t1_g : t1 ≠ g := Nat.ne_of_lt (Nat.lt_of_lt_of_le (OWs.ltt P_13) (Nat.le_of_eq gq14.symm))
  have ne_a_g : a ≠ g := Nat.ne_of_lt (Nat.lt_of_lt_of_le (OAL1.lta L13) (Nat.le_of_eq gq14.symm))
  have ne_x'_g : x' ≠ g := Nat.ne_of_lt (Nat.lt_of_lt_of_le (OAL1.ltx L13) (Nat.le_of_eq gq14.symm))
  have g_g : n0 ≤ g := Nat.le_trans Z13 (Nat.le_of_eq gq14.symm)
  have sz_g : h0.size ≤ g := Nat.le_trans Kp13.1 (Nat.le_of_eq gq14.symm)
  have Z14 : n0 ≤ h14.size := Nat.le_trans Z13 E14.1
  have Kp14 : Keep h0 h14 [] := Kp13.ext E14
  have P_14 := OWs.keep P_13 (own_keep_ext E14) nin0 nin0
  have Wd_14 := OWd.ext Wd_13 E14
  have Sc_14 := OS.keep Sc_13 (own_keep_ext E14) all0
  have L13_14 := OAL1.keep L13 (own_keep_ext E14) nin0 nin0
  have C2_14 := OSx.ext C2_13 E14
  have F_positional_g : Fld Z h14 g "com/example/nextfront/nextfront/cli/Arguments" "positional" "Ljava/util/List;" .null := D14 (Or.inr (hw _ (List.mem_of_getElem? (i := 102) rfl))) (ty := (.object "java/util/List")) (by decide)
  have F_options_g : Fld Z h14 g "com/example/nextfront/nextfront/cli/Arguments" "options" "Ljava/util/Map;" .null := D14 (Or.inr (hw _ (List.mem_of_getElem? (i := 120) rfl))) (ty := (.object "java/util/Map")) (by decide)
  refine OGo.dup K (pc' := 114) at_113 rfl rfl ?_
  refine OGo.aload K (pc' := 116) at_114 rfl rfl rfl ?_
  refine OGo.aconstNull K (pc' := 117) at_116 rfl ?_
  refine OGo.callISN K (pc' := 120) (y := (⟨"com/example/nextfront/nextfront/cli/Arguments", "<init>", "(Ljava/util/List;Ljava/util/Set;)V"⟩ : MethodName)) (a := g) (W := 1) (cells' := 29) (slots' := 168) (argsL := [(.ref a), .null]) (st := [(.ref g)]) rfl (hw _ (List.mem_of_getElem? (i := 95) rfl)) (hw _ (List.mem_of_getElem? (i := 96) rfl)) (hw _ (List.mem_of_getElem? (i := 94) rfl)) (hw _ (List.mem_of_getElem? (i := 97) rfl)) (by decide) (own_args l Z a0 hw g a x' s1 t1 dd k1 vs1 cz _ _ h14 n0 Z14 A14 F_positional_g F_options_g L13_14 P_14 hk hx Wd_14 Sc_14 hcz g_g (Ne.symm ne_a_g) (Ne.symm ne_x'_g) (Ne.symm ne_s1_g) (Ne.symm ne_t1_g)) C2_14 (fun _ _ => trivial) at_117 rfl rfl (lenOf own_pd36 rfl) (by show 2 * 0 + _ ≤ _; exact Nat.le_of_eq rfl) (by decide) (by decide) rfl rfl (by decide) (by decide) ?_
  rintro vm15 h15 K C15 CR15 ⟨p', px, Fp, Lp, K15⟩
  have Z15 : n0 ≤ h15.size := Nat.le_trans Z14 K15.1
  have P_15 := OWs.keep P_14 K15 (ninS ne_s1_g nin0) (ninS ne_t1_g nin0)
  have Wd_15 := OWd.keep Wd_14 K15 (allS g_g all0)
  have Sc_15 := OS.keep Sc_14 K15 (allS g_g all0)
  have L13_15 := OAL1.keep L13_14 K15 (ninS ne_a_g nin0) (ninS ne_x'_g nin0)
  have A14_15 := A14.keep K15
  have Kp15 : Keep h0 h15 [] := Kp14.trans K15 (allS (Or.inr sz_g) all0)
  refine OGo.astore K (pc' := 122) (Ls' := #[.val (.int v0), .val (.int v1), .val (.int v2), .val (.int n1), .val (.int ((v0 &&& (255 : Int32)).toUInt32.toUInt16.toUInt32.toInt32)), .val (.int (((ushr v0 (8 : Int32)) &&& (255 : Int32)).toUInt32.toUInt16.toUInt32.toInt32)), .val (.int (((ushr v0 (16 : Int32)) &&& (255 : Int32)).toUInt32.toUInt16.toUInt32.toInt32)), .val (.ref s1), .val (.ref s2), .val (.ref a), .val (.ref g), .unset]) at_120 rfl rfl rfl ?_
  refine OGo.aload K (pc' := 124) at_122 rfl rfl rfl ?_
  refine OGo.aload K (pc' := 126) at_124 rfl rfl rfl ?_
  refine OGo.callVV K (pc' := 129) (y := (⟨"com/example/nextfront/nextfront/cli/Arguments", "onlyPositional", "(Ljava/lang/String;)Ljava/lang/String;"⟩ : MethodName)) (z := (⟨"com/example/nextfront/nextfront/cli/Arguments", "onlyPositional", "(Ljava/lang/String;)Ljava/lang/String;"⟩ : MethodName)) (a := g) (W := 0) (cells' := 29) (slots' := 168) (argsL := [(.ref s2)]) (st := []) A14_15 (hw _ (List.mem_of_getElem? (i := 203) rfl)) (hw _ (List.mem_of_getElem? (i := 204) rfl)) (notFace_of_selects (args := #[]) (mvT K.hZ (hw _ (List.mem_of_getElem? (i := 206) rfl)))) (hw _ (List.mem_of_getElem? (i := 206) rfl)) (hw _ (List.mem_of_getElem? (i := 205) rfl)) (hw _ (List.mem_of_getElem? (i := 94) rfl)) (hw _ (List.mem_of_getElem? (i := 207) rfl)) (by decide) (own_only l Z a0 hw g s2 p' px s1 h15 n0 Z15 Fp Lp P_15.1) at_126 rfl rfl (lenOf own_pd37 rfl) (by show 2 * 0 + _ ≤ _; exact Nat.le_of_eq rfl) (by decide) (by decide) rfl rfl (by decide) (by decide) ?_
  rintro _ h16 ⟨rfl, e16⟩
  rw [e16]
  show OGo p l e _ _ m _ below meth c n0 _ h15 29 168 129 #[.val (.int v0), .val (.int v1), .val (.int v2), .val (.int n1), .val (.int ((v0 &&& (255 : Int32)).toUInt32.toUInt16.toUInt32.toInt32)), .val (.int (((ushr v0 (8 : Int32)) &&& (255 : Int32)).toUInt32.toUInt16.toUInt32.toInt32)), .val (.int (((ushr v0 (16 : Int32)) &&& (255 : Int32)).toUInt32.toUInt16.toUInt32.toInt32)), .val (.ref s1), .val (.ref s2), .val (.ref a), .val (.ref g), .unset] [(.ref s1)]
  refine OGo.astore K (pc' := 131) (Ls' := #[.val (.int v0), .val (.int v1), .val (.int v2), .val (.int n1), .val (.int ((v0 &&& (255 : Int32)).toUInt32.toUInt16.toUInt32.toInt32)), .val (.int (((ushr v0 (8 : Int32)) &&& (255 : Int32)).toUInt32.toUInt16.toUInt32.toInt32)), .val (.int (((ushr v0 (16 : Int32)) &&& (255 : Int32)).toUInt32.toUInt16.toUInt32.toInt32)), .val (.ref s1), .val (.ref s2), .val (.ref a), .val (.ref g), .val (.ref s1)]) at_129 rfl rfl rfl ?_
  refine OGo.aload K (pc' := 133) at_131 rfl rfl rfl ?_
  refine OGo.ifnullN K (pc' := 136) at_133 rfl ?_
  refine OGo.aload K (pc' := 138) at_136 rfl rfl rfl ?_
  refine OGo.aload K (pc' := 140) at_138 rfl rfl rfl ?_
  refine OGo.callVV K (pc' := 143) (y := (⟨"java/lang/String", "equals", "(Ljava/lang/Object;)Z"⟩ : MethodName)) (z := (⟨"java/lang/String", "equals", "(Ljava/lang/Object;)Z"⟩ : MethodName)) (a := s1) (W := 0) (cells' := 29) (slots' := 168) (argsL := [(.ref s1)]) (st := []) P_15.1 (hw _ (List.mem_of_getElem? (i := 245) rfl)) (hw _ (List.mem_of_getElem? (i := 246) rfl)) (notFace_of_selects (args := #[]) (mvT K.hZ (hw _ (List.mem_of_getElem? (i := 248) rfl)))) (hw _ (List.mem_of_getElem? (i := 248) rfl)) (hw _ (List.mem_of_getElem? (i := 247) rfl)) (hw _ (List.mem_of_getElem? (i := 6) rfl)) (hw _ (List.mem_of_getElem? (i := 249) rfl)) (by decide) (own_equals l Z a0 hw s1 h15 n0 Z15) at_140 rfl rfl (lenOf own_pd34 rfl) (by show 2 * 0 + _ ≤ _; exact Nat.le_of_eq rfl) (by decide) (by decide) rfl rfl (by decide) (by decide) ?_
  rintro _ h17 ⟨rfl, e17⟩
  rw [e17]
  show OGo p l e _ _ m _ below meth c n0 _ h15 29 168 143 #[.val (.int v0), .val (.int v1), .val (.int v2), .val (.int n1), .val (.int ((v0 &&& (255 : Int32)).toUInt32.toUInt16.toUInt32.toInt32)), .val (.int (((ushr v0 (8 : Int32)) &&& (255 : Int32)).toUInt32.toUInt16.toUInt32.toInt32)), .val (.int (((ushr v0 (16 : Int32)) &&& (255 : Int32)).toUInt32.toUInt16.toUInt32.toInt32)), .val (.ref s1), .val (.ref s2), .val (.ref a), .val (.ref g), .val (.ref s1)] [(.int (1 : Int32))]
  refine OGo.ifEq K (pc' := 146) (pcY := 150) at_143 rfl (by decide) rfl (fun hc143 => absurd hc143 (by decide : ¬ (1 : Int32) = (0 : Int32))) (fun hc143 => ?_)
  refine OGo.iconst K (pc' := 147) (z := 1) at_146 rfl rfl ?_
  refine OGo.goto K (pc' := 151) at_147 (by decide) rfl ?_
  exact OGo.s_ret K at_151 rfl (Or.inl ⟨rfl, by simp, _, rfl⟩) (by decide) (by decide) C15 ⟨_, rfl, rfl⟩
set_option maxRecDepth 65536 in
set_option maxHeartbeats 40000000 in
theorem own_comes {Post : Tables → Env → Array Value → State → Outcome → State → Prop} (hpost : ∀ tb e args s v u, (limb_1_1.after args s (.returned v) u = true ∧ limb_1_2.after args s (.returned v) u = true ∧ True) → ReturnedEndW s (.returned v) u (Jvm.fieldLocs frame_1_writes args s ++ Jvm.arrayLocs frame_1_arrays args s ++ Jvm.staticLocs frame_1_statics s) 40 2240 → Post tb e args s (.returned v) u) :
    ArmFor flags0 classFile x code maxLocals ret World_1 tables_1 room_1 Calls_1 rest_1 Pre_1 Post := by
  intro l hfl _ _ p e ha hc hk s m args below hf hA hF happ hP
  obtain ⟨hcalls, hrest, hpre⟩ := hP
  obtain ⟨-, -, -, hnamed, -, -, -, hat⟩ := (Spec.applies_iff hf).mp happ
  obtain ⟨hg, hn⟩ := and_e (Cond.before_iff.mp (show (Jvm.Cond.and given_1 narrow_1).before args s = true from hpre))
  obtain ⟨gg1, gg2⟩ := and_e hg
  obtain ⟨gg3, gg4⟩ := and_e gg2
  obtain ⟨gg5, gg6⟩ := and_e gg4
  obtain ⟨w0, w1, w2, rfl⟩ : ∃ w0 w1 w2 : Value, args = #[w0, w1, w2] := by
    have hs : args.size = 3 := by simpa [Cond.value, given_1] using gg1
    obtain ⟨L⟩ := args
    match L, hs with
    | [w0, w1, w2], _ => exact ⟨w0, w1, w2, rfl⟩
  have hw := fun d (hd : d ∈ tables_1) => atoms_spec (ws := Jvm.Cond.code x code maxLocals ret :: tables_1) hat d (List.mem_cons_of_mem _ hd)
  have hfit : Fit s := fun {y c} hc i hi => by
    obtain ⟨ha, rfl⟩ := Array.getElem?_eq_some_iff.mp hc
    have q := List.all_eq_true.mp ((Array.all_eq_true_iff_forall_mem.mp hF) _ (Array.getElem_mem ha)) i (List.mem_range.mpr hi)
    simpa [Array.getElem?_eq_getElem hi] using q
  obtain ⟨hsets, hown0⟩ := atoms_of _ (rest_1_c_eq ▸ (show rest_1_c.before _ s = true from hrest))
  have hr0 := Cond.before_iff.mp hown0
  obtain ⟨i0, ei0⟩ := is_v gg3
  obtain rfl : w0 = (.int i0) := Option.some.inj ei0
  obtain ⟨i1, ei1⟩ := is_v gg5
  obtain rfl : w1 = (.int i1) := Option.some.inj ei1
  obtain ⟨i2, ei2⟩ := is_v gg6
  obtain rfl : w2 = (.int i2) := Option.some.inj ei2
  obtain ⟨dd, Wd⟩ := own_wd hfit (hw _ (List.mem_of_getElem? (i := 39) rfl)) (hsets _ (List.mem_of_getElem? (i := 11) rfl)) (hsets _ (List.mem_of_getElem? (i := 15) rfl)) (hsets _ (List.mem_of_getElem? (i := 17) rfl))
  obtain ⟨cz, Sc, hcz⟩ := own_cs (hsets _ (List.mem_of_getElem? (i := 0) rfl)) (hsets _ (List.mem_of_getElem? (i := 1) rfl)) (hsets _ (List.mem_of_getElem? (i := 2) rfl))
  have hC0 : CHv s own_EL s.vm s.heap := CHv.start (own_ew hw) (fun q hq => hcalls.1 q (show q ∈ consts_1 from hq)) (hsets _ (List.mem_of_getElem? (i := 2) rfl)) (hw _ (List.mem_of_getElem? (i := 23) rfl)) (hw _ (List.mem_of_getElem? (i := 5) rfl))
  obtain ⟨n, o, h1, h2, h3, _, L, rfl, ⟨⟨_, rfl, rfl⟩, N⟩, -, hq⟩ := own_rm0 l s _ hw tables_1 i0 i1 i2 dd cz s.heap s.heap.size (Nat.le_refl _) Wd Sc hcz p e ha hc hk s m _ below hf ((Spec.applies_iff_loose hf).mp happ).1 ⟨rfl, State.Warmed39.refl s, rfl, hC0, trivial⟩ trivial
  refine ⟨n, _, h1, h2, h3, hpost _ _ _ _ _ _ ⟨Cond.after_iff.mpr rfl, Cond.after_iff.mpr (eq_i res_at (Term.int_eval (1)) rfl), trivial⟩ ⟨hq.1, hq.2.1, hq.2.2.1, (hq.2.2.2.sift fun y hy => Or.inr (N y hy)).mono (by decide) (by decide)⟩⟩
theorem main_1_1 : Claimed_1_1 := own_comes fun _ _ _ _ _ _ h hF => ⟨h.1, hF⟩
theorem main_1_2 : Claimed_1_2 := own_comes fun _ _ _ _ _ _ h hF => ⟨h.2.1, hF⟩
end Jvm.Pilot.@@N@@
namespace Jvm.Pilot.@@N@@
open Jvm Jvm.ClassFile Sem Op Lib Jvm.Free Jvm.Stand Jvm.Pilot.@@N@@.Jvm.D
/-! MADE BY PROGRAM (witnessworld.py) out of the Statement's table words and the real class files: 36 classes; the members and pool entries that the words name. The judged class is class 1, her method 2. -/
namespace start1
open Jvm.ClassFile
def u (s : String) : CpInfo := .utf8 (stringToUtf16 s)
/-- a pool by its gaps: so many unusable entries, then the entry; so many at the end -/
def gap : Nat → List CpInfo → List CpInfo
  | 0, r => r
  | n + 1, r => .unusable :: gap n r
def poolList (es : List (Nat × CpInfo)) (last : Nat) : List CpInfo := es.foldr (fun e r => gap e.1 (e.2 :: r)) (gap last [])
def pool (es : List (Nat × CpInfo)) (last : Nat) : Array CpInfo := ⟨poolList es last⟩
def fileOf (pool : Array CpInfo) (this : Nat) (attrs : Array Attribute := #[]) (ms : Array MethodInfo := #[]) (fl : Nat := 33) (sup : Nat := 0) (ifs : Array Nat := #[]) (fds : Array FieldInfo := #[]) : ClassFile where
  minorVersion := 0
  majorVersion := 65
  constantPool := pool
  accessFlags := fl
  thisClass := this
  superClass := sup
  interfaces := ifs
  fields := fds
  methods := ms
  attributes := attrs
def plain (name : String) (sup : Option ClassId) : Class where
  name := name
  kind := .ordinary
  loader := none
  accessFlags := 33
  super := sup
  interfaces := #[]
  cf := none
  fields := #[]
  methods := #[]
  instanceTypes := #[]
  staticTypes := #[]
  resolved := #[]
  callSites := []
  init := .initialized
  statics := none
  mirror := none

def pool0 : Array CpInfo := pool [(5, u "<init>"), (0, u "()V"), (1, .class_ 10), (1, u "java/lang/Object")] 113

def k0c0 : Code := { maxStack := 0, maxLocals := 1, code := object_method_1_code, exceptionTable := #[], attributes := #[] }
def k0m0 : Method := { name := "<init>", desc := "()V", sig := { parameters := [], returnType := none }, accessFlags := 1, code := some k0c0 }
/-- java/lang/Object -/
def k0 : Class := { plain "java/lang/Object" none with
  accessFlags := 33
  interfaces := #[]
  cf := some (fileOf pool0 8 #[] #[{ accessFlags := 1, nameIndex := 5, descriptorIndex := 6, attributes := #[] }] 33 0 #[] #[])
  fields := #[]
  methods := #[k0m0]
  instanceTypes := #[]
  staticTypes := #[]
  resolved := Array.replicate 124 none
  statics := none }

def pool1 : Array CpInfo := pool [(2, .class_ 4), (0, .nameAndType 5 6), (0, u "java/lang/Object"), (0, u "<init>"), (0, u "()V"), (0, .class_ 8), (0, u "java/lang/String"), (0, .methodref 7 10), (0, .nameAndType 5 11), (0, u "([C)V"), (0, .methodref 13 14), (0, .class_ 15), (0, .nameAndType 16 17), (0, u "com/example/nextfront/nextfront/cli/ArgumentsOnlyPositionalPinLaw"), (0, u "draw"), (0, u "(ICCC)Ljava/lang/String;"), (0, .class_ 19), (0, u "java/util/ArrayList"), (0, .methodref 18 3), (0, .methodref 18 22), (0, .nameAndType 23 24), (0, u "add"), (0, u "(Ljava/lang/Object;)Z"), (0, .class_ 26), (0, u "com/example/nextfront/nextfront/cli/Arguments"), (0, .methodref 25 28), (0, .nameAndType 5 29), (0, u "(Ljava/util/List;Ljava/util/Set;)V"), (0, .methodref 25 31), (0, .nameAndType 32 33), (0, u "onlyPositional"), (0, u "(Ljava/lang/String;)Ljava/lang/String;"), (0, .methodref 7 35), (0, .nameAndType 36 24), (0, u "equals"), (3, u "law"), (0, u "(III)Z")] 5

def k1m0 : Method := { name := "<init>", desc := "()V", sig := { parameters := [], returnType := none }, accessFlags := 1, code := none }
def k1c1 : Code := { maxStack := 6, maxLocals := 4, code := method_2_code, exceptionTable := #[], attributes := #[] }
def k1m1 : Method := { name := "draw", desc := "(ICCC)Ljava/lang/String;", sig := { parameters := [.int, .char, .char, .char], returnType := some (.object "java/lang/String") }, accessFlags := 10, code := some k1c1 }
def k1c2 : Code := { maxStack := 5, maxLocals := 12, code := code, exceptionTable := #[], attributes := #[] }
def k1m2 : Method := { name := "law", desc := "(III)Z", sig := { parameters := [.int, .int, .int], returnType := some .boolean }, accessFlags := 9, code := some k1c2 }
/-- com/example/nextfront/nextfront/cli/ArgumentsOnlyPositionalPinLaw -/
def k1 : Class := { plain "com/example/nextfront/nextfront/cli/ArgumentsOnlyPositionalPinLaw" (some 0) with
  accessFlags := 49
  interfaces := #[]
  cf := some (fileOf pool1 13 #[] #[{ accessFlags := 1, nameIndex := 5, descriptorIndex := 6, attributes := #[] }, { accessFlags := 10, nameIndex := 16, descriptorIndex := 17, attributes := #[] }, { accessFlags := 9, nameIndex := 40, descriptorIndex := 41, attributes := #[] }] 49 2 #[] #[])
  fields := #[]
  methods := #[k1m0, k1m1, k1m2]
  instanceTypes := #[]
  staticTypes := #[]
  resolved := Array.replicate 47 none
  statics := none }

def pool2 : Array CpInfo := pool [(1, .class_ 2), (0, u "java/io/Serializable"), (0, .class_ 4), (0, u "java/lang/Object")] 2

/-- java/io/Serializable -/
def k2 : Class := { plain "java/io/Serializable" (some 0) with
  accessFlags := 1537
  interfaces := #[]
  cf := some (fileOf pool2 1 #[] #[] 1537 3 #[] #[])
  fields := #[]
  methods := #[]
  instanceTypes := #[]
  staticTypes := #[]
  resolved := Array.replicate 7 none
  statics := none }

def pool3 : Array CpInfo := pool [(1, .class_ 2), (0, u "java/lang/Comparable"), (0, .class_ 4), (0, u "java/lang/Object")] 7

/-- java/lang/Comparable -/
def k3 : Class := { plain "java/lang/Comparable" (some 0) with
  accessFlags := 1537
  interfaces := #[]
  cf := some (fileOf pool3 1 #[] #[] 1537 3 #[] #[])
  fields := #[]
  methods := #[]
  instanceTypes := #[]
  staticTypes := #[]
  resolved := Array.replicate 12 none
  statics := none }

def pool4 : Array CpInfo := pool [(2, .class_ 4), (1, u "java/lang/CharSequence"), (42, .class_ 48), (0, u "java/lang/CharSequence$1CodePointIterator"), (10, .class_ 60), (0, u "java/lang/CharSequence$1CharIterator"), (5, .class_ 67), (0, u "java/lang/Object")] 63

/-- java/lang/CharSequence -/
def k4 : Class := { plain "java/lang/CharSequence" (some 0) with
  accessFlags := 1537
  interfaces := #[]
  cf := some (fileOf pool4 2 #[.nestMembers #[47, 59]] #[] 1537 66 #[] #[])
  fields := #[]
  methods := #[]
  instanceTypes := #[]
  staticTypes := #[]
  resolved := Array.replicate 131 none
  statics := none }

def pool5 : Array CpInfo := pool [(1, .class_ 2), (0, u "java/lang/constant/Constable"), (0, .class_ 4), (0, u "java/lang/Object")] 6

/-- java/lang/constant/Constable -/
def k5 : Class := { plain "java/lang/constant/Constable" (some 0) with
  accessFlags := 1537
  interfaces := #[]
  cf := some (fileOf pool5 1 #[] #[] 1537 3 #[] #[])
  fields := #[]
  methods := #[]
  instanceTypes := #[]
  staticTypes := #[]
  resolved := Array.replicate 11 none
  statics := none }

def pool6 : Array CpInfo := pool [(1, .class_ 2), (0, u "java/lang/constant/ConstantDesc"), (0, .class_ 4), (0, u "java/lang/Object")] 32

/-- java/lang/constant/ConstantDesc -/
def k6 : Class := { plain "java/lang/constant/ConstantDesc" (some 0) with
  accessFlags := 1537
  interfaces := #[]
  cf := some (fileOf pool6 1 #[] #[] 1537 3 #[] #[])
  fields := #[]
  methods := #[]
  instanceTypes := #[]
  staticTypes := #[]
  resolved := Array.replicate 37 none
  statics := none }

def pool7 : Array CpInfo := pool [(1, .methodref 2 3), (0, .class_ 4), (0, .nameAndType 5 6), (0, u "java/lang/Object"), (0, u "<init>"), (0, u "()V"), (0, .string 8), (0, u ""), (0, .fieldref 10 11), (0, .class_ 12), (0, .nameAndType 13 14), (0, u "java/lang/String"), (0, u "value"), (0, u "[B"), (0, .fieldref 10 16), (0, .nameAndType 17 18), (0, u "coder"), (0, u "B"), (2, u "hash"), (0, u "I"), (2, u "hashIsZero"), (0, u "Z"), (0, .methodref 10 28), (0, .nameAndType 5 29), (0, u "([CIILjava/lang/Void;)V"), (8, .fieldref 10 39), (0, .nameAndType 40 26), (0, u "COMPACT_STRINGS"), (1, .class_ 44), (1, u "java/lang/StringUTF16"), (0, u "compress"), (1, .methodref 42 48), (0, .nameAndType 49 50), (0, u "coderFromArrayLen"), (0, u "([BI)B"), (126, .methodref 42 178), (0, .nameAndType 45 179), (0, u "([CII)[B"), (154, u "()I"), (0, .methodref 10 336), (0, .nameAndType 17 337), (0, u "()B"), (38, u "([BI[BII)I"), (128, .methodref 10 506), (0, .nameAndType 507 334), (0, u "length"), (35, u "equals"), (15, .class_ 561), (1, u "jdk/internal/util/ArraysSupport"), (0, u "mismatch"), (10, u "(Ljava/lang/Object;)Z"), (1, .class_ 576), (0, u "java/lang/CharSequence"), (22, u "CASE_INSENSITIVE_ORDER"), (0, u "Ljava/util/Comparator;"), (6, .methodref 559 608), (0, .nameAndType 562 376), (15, .methodref 10 625), (0, .nameAndType 626 627), (0, u "startsWith"), (0, u "(Ljava/lang/String;I)Z"), (382, u "([C)V"), (90, u "serialPersistentFields"), (0, u "[Ljava/io/ObjectStreamField;"), (0, .class_ 1104), (0, u "java/lang/String$CaseInsensitiveComparator"), (1, .class_ 1107), (0, u "java/io/Serializable"), (0, .class_ 1109), (0, u "java/lang/Comparable"), (0, .class_ 1111), (0, u "java/lang/constant/Constable"), (0, .class_ 1113), (0, u "java/lang/constant/ConstantDesc"), (2, u "serialVersionUID"), (0, u "J"), (3, u "REPL"), (0, u "C"), (2, u "LATIN1"), (1, u "UTF16"), (129, u "(Ljava/lang/String;)Z")] 193

def k7m0 : Method := { name := "<init>", desc := "()V", sig := { parameters := [], returnType := none }, accessFlags := 1, code := none }
def k7c1 : Code := { maxStack := 5, maxLocals := 2, code := jdk_42_method_3_code, exceptionTable := #[], attributes := #[] }
def k7m1 : Method := { name := "<init>", desc := "([C)V", sig := { parameters := [(.array .char)], returnType := none }, accessFlags := 1, code := some k7c1 }
def k7c2 : Code := { maxStack := 2, maxLocals := 1, code := jdk_42_method_54_code, exceptionTable := #[], attributes := #[] }
def k7m2 : Method := { name := "length", desc := "()I", sig := { parameters := [], returnType := some .int }, accessFlags := 1, code := some k7c2 }
def k7c3 : Code := { maxStack := 2, maxLocals := 3, code := jdk_42_method_66_code, exceptionTable := #[], attributes := #[] }
def k7m3 : Method := { name := "equals", desc := "(Ljava/lang/Object;)Z", sig := { parameters := [(.object "java/lang/Object")], returnType := some .boolean }, accessFlags := 1, code := some k7c3 }
def k7c4 : Code := { maxStack := 5, maxLocals := 8, code := jdk_42_method_75_code, exceptionTable := #[], attributes := #[] }
def k7m4 : Method := { name := "startsWith", desc := "(Ljava/lang/String;I)Z", sig := { parameters := [(.object "java/lang/String"), .int], returnType := some .boolean }, accessFlags := 1, code := some k7c4 }
def k7c5 : Code := { maxStack := 3, maxLocals := 2, code := jdk_42_method_76_code, exceptionTable := #[], attributes := #[] }
def k7m5 : Method := { name := "startsWith", desc := "(Ljava/lang/String;)Z", sig := { parameters := [(.object "java/lang/String")], returnType := some .boolean }, accessFlags := 1, code := some k7c5 }
def k7c6 : Code := { maxStack := 4, maxLocals := 6, code := jdk_42_method_149_code, exceptionTable := #[], attributes := #[] }
def k7m6 : Method := { name := "<init>", desc := "([CIILjava/lang/Void;)V", sig := { parameters := [(.array .char), .int, .int, (.object "java/lang/Void")], returnType := none }, accessFlags := 2, code := some k7c6 }
def k7c7 : Code := { maxStack := 1, maxLocals := 1, code := jdk_42_method_152_code, exceptionTable := #[], attributes := #[] }
def k7m7 : Method := { name := "coder", desc := "()B", sig := { parameters := [], returnType := some .byte }, accessFlags := 0, code := some k7c7 }
/-- java/lang/String -/
def k7 : Class := { plain "java/lang/String" (some 0) with
  accessFlags := 49
  interfaces := #[2, 3, 4, 5, 6]
  cf := some (fileOf pool7 10 #[.nestMembers #[1103]] #[{ accessFlags := 1, nameIndex := 5, descriptorIndex := 6, attributes := #[] }, { accessFlags := 1, nameIndex := 5, descriptorIndex := 1010, attributes := #[] }, { accessFlags := 1, nameIndex := 507, descriptorIndex := 334, attributes := #[] }, { accessFlags := 1, nameIndex := 543, descriptorIndex := 573, attributes := #[] }, { accessFlags := 1, nameIndex := 626, descriptorIndex := 627, attributes := #[] }, { accessFlags := 1, nameIndex := 626, descriptorIndex := 1257, attributes := #[] }, { accessFlags := 2, nameIndex := 5, descriptorIndex := 29, attributes := #[] }, { accessFlags := 0, nameIndex := 17, descriptorIndex := 337, attributes := #[] }] 49 2 #[1106, 1108, 575, 1110, 1112] #[{ accessFlags := 18, nameIndex := 13, descriptorIndex := 14, attributes := #[] }, { accessFlags := 18, nameIndex := 17, descriptorIndex := 18, attributes := #[] }, { accessFlags := 2, nameIndex := 21, descriptorIndex := 22, attributes := #[] }, { accessFlags := 2, nameIndex := 25, descriptorIndex := 26, attributes := #[] }, { accessFlags := 26, nameIndex := 1116, descriptorIndex := 1117, attributes := #[] }, { accessFlags := 24, nameIndex := 40, descriptorIndex := 26, attributes := #[] }, { accessFlags := 26, nameIndex := 1101, descriptorIndex := 1102, attributes := #[] }, { accessFlags := 26, nameIndex := 1121, descriptorIndex := 1122, attributes := #[] }, { accessFlags := 25, nameIndex := 599, descriptorIndex := 600, attributes := #[] }, { accessFlags := 24, nameIndex := 1125, descriptorIndex := 18, attributes := #[] }, { accessFlags := 24, nameIndex := 1127, descriptorIndex := 18, attributes := #[] }])
  fields := #[{ name := "value", type := (.array .byte), accessFlags := 18, slot := 0, constantValue := 0 }, { name := "coder", type := .byte, accessFlags := 18, slot := 1, constantValue := 0 }, { name := "hash", type := .int, accessFlags := 2, slot := 2, constantValue := 0 }, { name := "hashIsZero", type := .boolean, accessFlags := 2, slot := 3, constantValue := 0 }, { name := "serialVersionUID", type := .long, accessFlags := 26, slot := 0, constantValue := 0 }, { name := "COMPACT_STRINGS", type := .boolean, accessFlags := 24, slot := 1, constantValue := 0 }, { name := "serialPersistentFields", type := (.array (.object "java/io/ObjectStreamField")), accessFlags := 26, slot := 2, constantValue := 0 }, { name := "REPL", type := .char, accessFlags := 26, slot := 3, constantValue := 0 }, { name := "CASE_INSENSITIVE_ORDER", type := (.object "java/util/Comparator"), accessFlags := 25, slot := 4, constantValue := 0 }, { name := "LATIN1", type := .byte, accessFlags := 24, slot := 5, constantValue := 0 }, { name := "UTF16", type := .byte, accessFlags := 24, slot := 6, constantValue := 0 }]
  methods := #[k7m0, k7m1, k7m2, k7m3, k7m4, k7m5, k7m6, k7m7]
  instanceTypes := #[(.array .byte), .byte, .int, .boolean]
  staticTypes := #[.long, .boolean, (.array (.object "java/io/ObjectStreamField")), .char, (.object "java/util/Comparator"), .byte, .byte]
  resolved := Array.replicate 1451 none
  statics := some 0 }

def pool8 : Array CpInfo := pool [(6, .class_ 8), (1, u "java/lang/Object"), (0, u "<init>"), (0, u "()V"), (1, .class_ 14), (1, u "java/lang/StringUTF16"), (31, u "$assertionsDisabled"), (0, u "Z"), (13, u "HI_BYTE_SHIFT"), (0, u "I"), (2, u "LO_BYTE_SHIFT"), (49, .methodref 12 116), (0, .nameAndType 117 118), (0, u "compress"), (0, u "([CI[BII)I"), (3, u "([CII)[B"), (138, u "coderFromArrayLen"), (0, u "([BI)B"), (106, .class_ 371), (1, u "java/lang/StringUTF16$LinesSpliterator"), (58, u "MAX_LENGTH"), (196, .class_ 628), (0, u "java/lang/StringUTF16$CodePointsSpliterator"), (0, .class_ 630), (0, u "java/lang/StringUTF16$CharsSpliterator")] 4

def k8m0 : Method := { name := "<init>", desc := "()V", sig := { parameters := [], returnType := none }, accessFlags := 0, code := none }
def k8c1 : Code := { maxStack := 2, maxLocals := 2, code := jdk_52_method_15_code, exceptionTable := #[], attributes := #[] }
def k8m1 : Method := { name := "coderFromArrayLen", desc := "([BI)B", sig := { parameters := [(.array .byte), .int], returnType := some .byte }, accessFlags := 8, code := some k8c1 }
def k8c2 : Code := { maxStack := 5, maxLocals := 6, code := jdk_52_method_16_code, exceptionTable := #[], attributes := #[] }
def k8m2 : Method := { name := "compress", desc := "([CII)[B", sig := { parameters := [(.array .char), .int, .int], returnType := some (.array .byte) }, accessFlags := 9, code := some k8c2 }
def k8c3 : Code := { maxStack := 3, maxLocals := 7, code := jdk_52_method_21_code, exceptionTable := #[], attributes := #[] }
def k8m3 : Method := { name := "compress", desc := "([CI[BII)I", sig := { parameters := [(.array .char), .int, (.array .byte), .int, .int], returnType := some .int }, accessFlags := 9, code := some k8c3 }
/-- java/lang/StringUTF16 -/
def k8 : Class := { plain "java/lang/StringUTF16" (some 0) with
  accessFlags := 48
  interfaces := #[]
  cf := some (fileOf pool8 12 #[.nestMembers #[627, 629, 369]] #[{ accessFlags := 0, nameIndex := 9, descriptorIndex := 10, attributes := #[] }, { accessFlags := 8, nameIndex := 261, descriptorIndex := 262, attributes := #[] }, { accessFlags := 9, nameIndex := 117, descriptorIndex := 122, attributes := #[] }, { accessFlags := 9, nameIndex := 117, descriptorIndex := 118, attributes := #[] }] 48 6 #[] #[{ accessFlags := 26, nameIndex := 61, descriptorIndex := 62, attributes := #[] }, { accessFlags := 26, nameIndex := 65, descriptorIndex := 62, attributes := #[] }, { accessFlags := 24, nameIndex := 430, descriptorIndex := 62, attributes := #[] }, { accessFlags := 4120, nameIndex := 46, descriptorIndex := 47, attributes := #[] }])
  fields := #[{ name := "HI_BYTE_SHIFT", type := .int, accessFlags := 26, slot := 0, constantValue := 0 }, { name := "LO_BYTE_SHIFT", type := .int, accessFlags := 26, slot := 1, constantValue := 0 }, { name := "MAX_LENGTH", type := .int, accessFlags := 24, slot := 2, constantValue := 0 }, { name := "$assertionsDisabled", type := .boolean, accessFlags := 4120, slot := 3, constantValue := 0 }]
  methods := #[k8m0, k8m1, k8m2, k8m3]
  instanceTypes := #[]
  staticTypes := #[.int, .int, .int, .boolean]
  resolved := Array.replicate 635 none
  statics := none }

def pool9 : Array CpInfo := pool [(8, .class_ 10), (1, u "java/lang/Iterable"), (24, .class_ 36), (0, u "java/lang/Object")] 25

/-- java/lang/Iterable -/
def k9 : Class := { plain "java/lang/Iterable" (some 0) with
  accessFlags := 1537
  interfaces := #[]
  cf := some (fileOf pool9 8 #[] #[] 1537 35 #[] #[])
  fields := #[]
  methods := #[]
  instanceTypes := #[]
  staticTypes := #[]
  resolved := Array.replicate 62 none
  statics := none }

def pool10 : Array CpInfo := pool [(10, .class_ 12), (1, u "java/util/Collection"), (47, .class_ 61), (0, u "java/lang/Object"), (0, .class_ 63), (0, u "java/lang/Iterable")] 51

/-- java/util/Collection -/
def k10 : Class := { plain "java/util/Collection" (some 0) with
  accessFlags := 1537
  interfaces := #[9]
  cf := some (fileOf pool10 10 #[] #[] 1537 60 #[62] #[])
  fields := #[]
  methods := #[]
  instanceTypes := #[]
  staticTypes := #[]
  resolved := Array.replicate 115 none
  statics := none }

def pool11 : Array CpInfo := pool [(1, .methodref 2 3), (0, .class_ 4), (0, .nameAndType 5 6), (0, u "java/lang/Object"), (0, u "<init>"), (0, u "()V"), (1, .class_ 10), (1, u "java/util/AbstractCollection"), (66, .class_ 78), (0, u "java/util/Collection")] 81

def k11c0 : Code := { maxStack := 1, maxLocals := 1, code := jdk_22_method_1_code, exceptionTable := #[], attributes := #[] }
def k11m0 : Method := { name := "<init>", desc := "()V", sig := { parameters := [], returnType := none }, accessFlags := 4, code := some k11c0 }
/-- java/util/AbstractCollection -/
def k11 : Class := { plain "java/util/AbstractCollection" (some 0) with
  accessFlags := 1057
  interfaces := #[10]
  cf := some (fileOf pool11 8 #[] #[{ accessFlags := 4, nameIndex := 5, descriptorIndex := 6, attributes := #[] }] 1057 2 #[77] #[])
  fields := #[]
  methods := #[k11m0]
  instanceTypes := #[]
  staticTypes := #[]
  resolved := Array.replicate 160 none
  statics := none }

def pool12 : Array CpInfo := pool [(8, .class_ 10), (1, u "java/util/SequencedCollection"), (15, .class_ 27), (0, u "java/lang/Object"), (0, .class_ 29), (0, u "java/util/Collection")] 27

/-- java/util/SequencedCollection -/
def k12 : Class := { plain "java/util/SequencedCollection" (some 0) with
  accessFlags := 1537
  interfaces := #[10]
  cf := some (fileOf pool12 8 #[] #[] 1537 26 #[28] #[])
  fields := #[]
  methods := #[]
  instanceTypes := #[]
  staticTypes := #[]
  resolved := Array.replicate 57 none
  statics := none }

def pool13 : Array CpInfo := pool [(8, .class_ 10), (1, u "java/util/List"), (7, u "()Z"), (41, u "add"), (3, u "(Ljava/lang/Object;)Z"), (2, u "isEmpty"), (7, u "get"), (0, u "(I)Ljava/lang/Object;"), (2, u "size"), (0, u "()I"), (22, .class_ 104), (0, u "java/lang/Object"), (15, .class_ 121), (0, u "java/util/SequencedCollection"), (1, u "iterator"), (0, u "()Ljava/util/Iterator;")] 126

def k13m0 : Method := { name := "size", desc := "()I", sig := { parameters := [], returnType := some .int }, accessFlags := 1025, code := none }
def k13m1 : Method := { name := "isEmpty", desc := "()Z", sig := { parameters := [], returnType := some .boolean }, accessFlags := 1025, code := none }
def k13m2 : Method := { name := "iterator", desc := "()Ljava/util/Iterator;", sig := { parameters := [], returnType := some (.object "java/util/Iterator") }, accessFlags := 1025, code := none }
def k13m3 : Method := { name := "add", desc := "(Ljava/lang/Object;)Z", sig := { parameters := [(.object "java/lang/Object")], returnType := some .boolean }, accessFlags := 1025, code := none }
def k13m4 : Method := { name := "get", desc := "(I)Ljava/lang/Object;", sig := { parameters := [.int], returnType := some (.object "java/lang/Object") }, accessFlags := 1025, code := none }
/-- java/util/List -/
def k13 : Class := { plain "java/util/List" (some 0) with
  accessFlags := 1537
  interfaces := #[12]
  cf := some (fileOf pool13 8 #[] #[{ accessFlags := 1025, nameIndex := 79, descriptorIndex := 80, attributes := #[] }, { accessFlags := 1025, nameIndex := 67, descriptorIndex := 18, attributes := #[] }, { accessFlags := 1025, nameIndex := 123, descriptorIndex := 124, attributes := #[] }, { accessFlags := 1025, nameIndex := 60, descriptorIndex := 64, attributes := #[] }, { accessFlags := 1025, nameIndex := 75, descriptorIndex := 76, attributes := #[] }] 1537 103 #[120] #[])
  fields := #[]
  methods := #[k13m0, k13m1, k13m2, k13m3, k13m4]
  instanceTypes := #[]
  staticTypes := #[]
  resolved := Array.replicate 251 none
  statics := none }

def pool14 : Array CpInfo := pool [(1, .methodref 2 3), (0, .class_ 4), (0, .nameAndType 5 6), (0, u "java/util/AbstractCollection"), (0, u "<init>"), (0, u "()V"), (0, .fieldref 8 9), (0, .class_ 10), (0, .nameAndType 11 12), (0, u "java/util/AbstractList"), (0, u "modCount"), (0, u "I"), (64, .class_ 78), (0, u "java/util/AbstractList$Itr"), (3, .class_ 83), (0, u "java/util/AbstractList$ListItr"), (9, .class_ 94), (0, u "java/util/AbstractList$RandomAccessSubList"), (3, .class_ 99), (0, u "java/util/AbstractList$SubList"), (33, .class_ 134), (0, u "java/util/List"), (73, .class_ 209), (0, u "java/util/AbstractList$SubList$1"), (0, .class_ 211), (0, u "java/util/AbstractList$RandomAccessSpliterator")] 6

def k14c0 : Code := { maxStack := 2, maxLocals := 1, code := jdk_39_method_1_code, exceptionTable := #[], attributes := #[] }
def k14m0 : Method := { name := "<init>", desc := "()V", sig := { parameters := [], returnType := none }, accessFlags := 4, code := some k14c0 }
/-- java/util/AbstractList -/
def k14 : Class := { plain "java/util/AbstractList" (some 11) with
  accessFlags := 1057
  interfaces := #[13]
  cf := some (fileOf pool14 8 #[.nestMembers #[93, 98, 208, 210, 82, 77]] #[{ accessFlags := 4, nameIndex := 5, descriptorIndex := 6, attributes := #[] }] 1057 2 #[133] #[{ accessFlags := 132, nameIndex := 11, descriptorIndex := 12, attributes := #[] }])
  fields := #[{ name := "modCount", type := .int, accessFlags := 132, slot := 0, constantValue := 0 }]
  methods := #[k14m0]
  instanceTypes := #[.int]
  staticTypes := #[]
  resolved := Array.replicate 218 none
  statics := none }

def pool15 : Array CpInfo := pool [(1, .class_ 2), (0, u "java/util/RandomAccess"), (0, .class_ 4), (0, u "java/lang/Object")] 2

/-- java/util/RandomAccess -/
def k15 : Class := { plain "java/util/RandomAccess" (some 0) with
  accessFlags := 1537
  interfaces := #[]
  cf := some (fileOf pool15 1 #[] #[] 1537 3 #[] #[])
  fields := #[]
  methods := #[]
  instanceTypes := #[]
  staticTypes := #[]
  resolved := Array.replicate 7 none
  statics := none }

def pool16 : Array CpInfo := pool [(1, .class_ 2), (0, u "java/lang/Cloneable"), (0, .class_ 4), (0, u "java/lang/Object")] 2

/-- java/lang/Cloneable -/
def k16 : Class := { plain "java/lang/Cloneable" (some 0) with
  accessFlags := 1537
  interfaces := #[]
  cf := some (fileOf pool16 1 #[] #[] 1537 3 #[] #[])
  fields := #[]
  methods := #[]
  instanceTypes := #[]
  staticTypes := #[]
  resolved := Array.replicate 7 none
  statics := none }

def pool17 : Array CpInfo := pool [(1, .methodref 2 3), (0, .class_ 4), (0, .nameAndType 5 6), (0, u "java/util/AbstractList"), (0, u "<init>"), (0, u "()V"), (0, .class_ 8), (0, u "java/lang/Object"), (0, .fieldref 10 11), (0, .class_ 12), (0, .nameAndType 13 14), (0, u "java/util/ArrayList"), (0, u "elementData"), (0, u "[Ljava/lang/Object;"), (2, u "EMPTY_ELEMENTDATA"), (21, .fieldref 10 40), (0, .nameAndType 41 14), (0, u "DEFAULTCAPACITY_EMPTY_ELEMENTDATA"), (5, u "()[Ljava/lang/Object;"), (0, .fieldref 10 49), (0, .nameAndType 50 51), (0, u "size"), (0, u "I"), (11, .fieldref 10 64), (0, .nameAndType 65 51), (0, u "modCount"), (3, .methodref 10 70), (0, .nameAndType 71 72), (0, u "grow"), (0, u "(I)[Ljava/lang/Object;"), (6, .methodref 80 81), (0, .class_ 82), (0, .nameAndType 83 84), (0, u "java/lang/Math"), (0, u "max"), (0, u "(II)I"), (11, u "(Ljava/lang/Object;)Z"), (21, .methodref 119 120), (0, .class_ 121), (0, .nameAndType 122 84), (0, u "java/util/Objects"), (0, u "checkIndex"), (0, .methodref 10 124), (0, .nameAndType 13 125), (0, u "(I)Ljava/lang/Object;"), (3, .methodref 10 130), (0, .nameAndType 71 47), (0, .methodref 10 132), (0, .nameAndType 133 134), (0, u "add"), (0, u "(Ljava/lang/Object;[Ljava/lang/Object;I)V"), (13, .class_ 149), (0, u "java/util/List"), (16, u "iterator"), (0, u "()Ljava/util/Iterator;"), (5, u "()Z"), (12, u "()I"), (75, .class_ 263), (0, u "java/util/ArrayList$ListItr"), (3, .class_ 268), (0, u "java/util/ArrayList$Itr"), (0, .methodref 267 270), (0, .nameAndType 5 271), (0, u "(Ljava/util/ArrayList;)V"), (4, .class_ 277), (0, u "java/util/ArrayList$SubList"), (12, .class_ 291), (0, u "java/util/ArrayList$ArrayListSpliterator"), (37, .class_ 330), (0, u "java/util/RandomAccess"), (0, .class_ 332), (0, u "java/lang/Cloneable"), (0, .class_ 334), (0, u "java/io/Serializable"), (0, u "serialVersionUID"), (0, u "J"), (3, u "DEFAULT_CAPACITY"), (22, u "isEmpty"), (17, u "get"), (118, .class_ 501), (0, u "java/util/ArrayList$SubList$2"), (0, .class_ 503), (0, u "java/util/ArrayList$SubList$1")] 5

def k17c0 : Code := { maxStack := 2, maxLocals := 1, code := jdk_38_method_2_code, exceptionTable := #[], attributes := #[] }
def k17m0 : Method := { name := "<init>", desc := "()V", sig := { parameters := [], returnType := none }, accessFlags := 1, code := some k17c0 }
def k17c1 : Code := { maxStack := 4, maxLocals := 4, code := jdk_38_method_6_code, exceptionTable := #[], attributes := #[] }
def k17m1 : Method := { name := "grow", desc := "(I)[Ljava/lang/Object;", sig := { parameters := [.int], returnType := some (.array (.object "java/lang/Object")) }, accessFlags := 2, code := some k17c1 }
def k17c2 : Code := { maxStack := 3, maxLocals := 1, code := jdk_38_method_7_code, exceptionTable := #[], attributes := #[] }
def k17m2 : Method := { name := "grow", desc := "()[Ljava/lang/Object;", sig := { parameters := [], returnType := some (.array (.object "java/lang/Object")) }, accessFlags := 2, code := some k17c2 }
def k17c3 : Code := { maxStack := 1, maxLocals := 1, code := jdk_38_method_8_code, exceptionTable := #[], attributes := #[] }
def k17m3 : Method := { name := "size", desc := "()I", sig := { parameters := [], returnType := some .int }, accessFlags := 1, code := some k17c3 }
def k17c4 : Code := { maxStack := 1, maxLocals := 1, code := jdk_38_method_9_code, exceptionTable := #[], attributes := #[] }
def k17m4 : Method := { name := "isEmpty", desc := "()Z", sig := { parameters := [], returnType := some .boolean }, accessFlags := 1, code := some k17c4 }
def k17c5 : Code := { maxStack := 2, maxLocals := 2, code := jdk_38_method_18_code, exceptionTable := #[], attributes := #[] }
def k17m5 : Method := { name := "elementData", desc := "(I)Ljava/lang/Object;", sig := { parameters := [.int], returnType := some (.object "java/lang/Object") }, accessFlags := 0, code := some k17c5 }
def k17c6 : Code := { maxStack := 2, maxLocals := 2, code := jdk_38_method_20_code, exceptionTable := #[], attributes := #[] }
def k17m6 : Method := { name := "get", desc := "(I)Ljava/lang/Object;", sig := { parameters := [.int], returnType := some (.object "java/lang/Object") }, accessFlags := 1, code := some k17c6 }
def k17c7 : Code := { maxStack := 3, maxLocals := 4, code := jdk_38_method_24_code, exceptionTable := #[], attributes := #[] }
def k17m7 : Method := { name := "add", desc := "(Ljava/lang/Object;[Ljava/lang/Object;I)V", sig := { parameters := [(.object "java/lang/Object"), (.array (.object "java/lang/Object")), .int], returnType := none }, accessFlags := 2, code := some k17c7 }
def k17c8 : Code := { maxStack := 4, maxLocals := 2, code := jdk_38_method_25_code, exceptionTable := #[], attributes := #[] }
def k17m8 : Method := { name := "add", desc := "(Ljava/lang/Object;)Z", sig := { parameters := [(.object "java/lang/Object")], returnType := some .boolean }, accessFlags := 1, code := some k17c8 }
def k17c9 : Code := { maxStack := 3, maxLocals := 1, code := jdk_38_method_55_code, exceptionTable := #[], attributes := #[] }
def k17m9 : Method := { name := "iterator", desc := "()Ljava/util/Iterator;", sig := { parameters := [], returnType := some (.object "java/util/Iterator") }, accessFlags := 1, code := some k17c9 }
/-- java/util/ArrayList -/
def k17 : Class := { plain "java/util/ArrayList" (some 14) with
  accessFlags := 33
  interfaces := #[13, 15, 16, 2]
  cf := some (fileOf pool17 10 #[.nestMembers #[290, 276, 500, 502, 262, 267]] #[{ accessFlags := 1, nameIndex := 5, descriptorIndex := 6, attributes := #[] }, { accessFlags := 2, nameIndex := 71, descriptorIndex := 72, attributes := #[] }, { accessFlags := 2, nameIndex := 71, descriptorIndex := 47, attributes := #[] }, { accessFlags := 1, nameIndex := 50, descriptorIndex := 186, attributes := #[] }, { accessFlags := 1, nameIndex := 363, descriptorIndex := 173, attributes := #[] }, { accessFlags := 0, nameIndex := 13, descriptorIndex := 125, attributes := #[] }, { accessFlags := 1, nameIndex := 381, descriptorIndex := 125, attributes := #[] }, { accessFlags := 2, nameIndex := 133, descriptorIndex := 134, attributes := #[] }, { accessFlags := 1, nameIndex := 133, descriptorIndex := 96, attributes := #[] }, { accessFlags := 1, nameIndex := 166, descriptorIndex := 167, attributes := #[] }] 33 2 #[148, 329, 331, 333] #[{ accessFlags := 26, nameIndex := 335, descriptorIndex := 336, attributes := #[] }, { accessFlags := 26, nameIndex := 340, descriptorIndex := 51, attributes := #[] }, { accessFlags := 26, nameIndex := 17, descriptorIndex := 14, attributes := #[] }, { accessFlags := 26, nameIndex := 41, descriptorIndex := 14, attributes := #[] }, { accessFlags := 128, nameIndex := 13, descriptorIndex := 14, attributes := #[] }, { accessFlags := 2, nameIndex := 50, descriptorIndex := 51, attributes := #[] }])
  fields := #[{ name := "serialVersionUID", type := .long, accessFlags := 26, slot := 0, constantValue := 0 }, { name := "DEFAULT_CAPACITY", type := .int, accessFlags := 26, slot := 1, constantValue := 0 }, { name := "EMPTY_ELEMENTDATA", type := (.array (.object "java/lang/Object")), accessFlags := 26, slot := 2, constantValue := 0 }, { name := "DEFAULTCAPACITY_EMPTY_ELEMENTDATA", type := (.array (.object "java/lang/Object")), accessFlags := 26, slot := 3, constantValue := 0 }, { name := "elementData", type := (.array (.object "java/lang/Object")), accessFlags := 128, slot := 1, constantValue := 0 }, { name := "size", type := .int, accessFlags := 2, slot := 2, constantValue := 0 }]
  methods := #[k17m0, k17m1, k17m2, k17m3, k17m4, k17m5, k17m6, k17m7, k17m8, k17m9]
  instanceTypes := #[.int, (.array (.object "java/lang/Object")), .int]
  staticTypes := #[.long, .int, (.array (.object "java/lang/Object")), (.array (.object "java/lang/Object"))]
  resolved := Array.replicate 509 none
  statics := some 1 }

def pool18 : Array CpInfo := pool [(1, .class_ 2), (0, u "java/lang/Math"), (1, .class_ 6), (1, u "java/lang/Object"), (0, u "<init>"), (0, u "()V"), (89, .class_ 100), (1, u "java/lang/Math$RandomNumberGeneratorHolder"), (71, u "negativeZeroFloatBits"), (0, u "J"), (2, u "negativeZeroDoubleBits"), (21, u "max"), (46, u "$assertionsDisabled"), (0, u "Z"), (88, u "(II)I"), (2, u "twoToTheDoubleScaleDown"), (0, u "D"), (4, u "twoToTheDoubleScaleUp"), (9, u "E"), (3, u "PI"), (2, u "TAU"), (2, u "DEGREES_TO_RADIANS"), (0, u "RADIANS_TO_DEGREES")] 94

def k18m0 : Method := { name := "<init>", desc := "()V", sig := { parameters := [], returnType := none }, accessFlags := 2, code := none }
def k18c1 : Code := { maxStack := 2, maxLocals := 2, code := jdk_29_method_65_code, exceptionTable := #[], attributes := #[] }
def k18m1 : Method := { name := "max", desc := "(II)I", sig := { parameters := [.int, .int], returnType := some .int }, accessFlags := 9, code := some k18c1 }
/-- java/lang/Math -/
def k18 : Class := { plain "java/lang/Math" (some 0) with
  accessFlags := 49
  interfaces := #[]
  cf := some (fileOf pool18 1 #[.nestMembers #[98]] #[{ accessFlags := 2, nameIndex := 7, descriptorIndex := 8, attributes := #[] }, { accessFlags := 9, nameIndex := 198, descriptorIndex := 335, attributes := #[] }] 49 4 #[] #[{ accessFlags := 25, nameIndex := 354, descriptorIndex := 339, attributes := #[] }, { accessFlags := 25, nameIndex := 358, descriptorIndex := 339, attributes := #[] }, { accessFlags := 25, nameIndex := 361, descriptorIndex := 339, attributes := #[] }, { accessFlags := 26, nameIndex := 364, descriptorIndex := 339, attributes := #[] }, { accessFlags := 26, nameIndex := 365, descriptorIndex := 339, attributes := #[] }, { accessFlags := 26, nameIndex := 172, descriptorIndex := 173, attributes := #[] }, { accessFlags := 26, nameIndex := 176, descriptorIndex := 173, attributes := #[] }, { accessFlags := 8, nameIndex := 344, descriptorIndex := 339, attributes := #[] }, { accessFlags := 8, nameIndex := 338, descriptorIndex := 339, attributes := #[] }, { accessFlags := 4120, nameIndex := 245, descriptorIndex := 246, attributes := #[] }])
  fields := #[{ name := "E", type := .double, accessFlags := 25, slot := 0, constantValue := 0 }, { name := "PI", type := .double, accessFlags := 25, slot := 1, constantValue := 0 }, { name := "TAU", type := .double, accessFlags := 25, slot := 2, constantValue := 0 }, { name := "DEGREES_TO_RADIANS", type := .double, accessFlags := 26, slot := 3, constantValue := 0 }, { name := "RADIANS_TO_DEGREES", type := .double, accessFlags := 26, slot := 4, constantValue := 0 }, { name := "negativeZeroFloatBits", type := .long, accessFlags := 26, slot := 5, constantValue := 0 }, { name := "negativeZeroDoubleBits", type := .long, accessFlags := 26, slot := 6, constantValue := 0 }, { name := "twoToTheDoubleScaleUp", type := .double, accessFlags := 8, slot := 7, constantValue := 0 }, { name := "twoToTheDoubleScaleDown", type := .double, accessFlags := 8, slot := 8, constantValue := 0 }, { name := "$assertionsDisabled", type := .boolean, accessFlags := 4120, slot := 9, constantValue := 0 }]
  methods := #[k18m0, k18m1]
  instanceTypes := #[]
  staticTypes := #[.double, .double, .double, .double, .double, .long, .long, .double, .double, .boolean]
  resolved := Array.replicate 460 none
  statics := none }

def pool19 : Array CpInfo := pool [(1, .methodref 2 3), (0, .class_ 4), (0, .nameAndType 5 6), (0, u "java/lang/Object"), (0, u "<init>"), (0, u "()V"), (0, .class_ 8), (0, u "java/util/ArrayList"), (0, .methodref 7 3), (0, .fieldref 11 12), (0, .class_ 13), (0, .nameAndType 14 15), (0, u "com/example/nextfront/nextfront/cli/Arguments"), (0, u "positional"), (0, u "Ljava/util/List;"), (0, .class_ 17), (0, u "java/util/HashMap"), (0, .methodref 16 3), (0, .fieldref 11 20), (0, .nameAndType 21 22), (0, u "options"), (0, u "Ljava/util/Map;"), (0, .interfaceMethodref 24 25), (0, .class_ 26), (0, .nameAndType 27 28), (0, u "java/util/List"), (0, u "iterator"), (0, u "()Ljava/util/Iterator;"), (0, .interfaceMethodref 30 31), (0, .class_ 32), (0, .nameAndType 33 34), (0, u "java/util/Iterator"), (0, u "hasNext"), (0, u "()Z"), (0, .interfaceMethodref 30 36), (0, .nameAndType 37 38), (0, u "next"), (0, u "()Ljava/lang/Object;"), (0, .class_ 40), (0, u "java/lang/String"), (0, .string 42), (0, u "-"), (0, .methodref 39 44), (0, .nameAndType 45 46), (0, u "startsWith"), (0, u "(Ljava/lang/String;)Z"), (0, .interfaceMethodref 24 48), (0, .nameAndType 49 50), (0, u "add"), (0, u "(Ljava/lang/Object;)Z"), (10, u "(Ljava/lang/String;)Ljava/lang/String;"), (11, .interfaceMethodref 24 74), (0, .nameAndType 75 34), (0, u "isEmpty"), (1, .interfaceMethodref 24 78), (0, .nameAndType 79 80), (0, u "size"), (0, u "()I"), (0, .interfaceMethodref 24 82), (0, .nameAndType 83 84), (0, u "get"), (0, u "(I)Ljava/lang/Object;"), (46, u "(Ljava/util/List;Ljava/util/Set;)V"), (5, u "onlyPositional")] 38

def k19c0 : Code := { maxStack := 3, maxLocals := 5, code := prog_1_method_1_code, exceptionTable := #[], attributes := #[] }
def k19m0 : Method := { name := "<init>", desc := "(Ljava/util/List;Ljava/util/Set;)V", sig := { parameters := [(.object "java/util/List"), (.object "java/util/Set")], returnType := none }, accessFlags := 0, code := some k19c0 }
def k19c1 : Code := { maxStack := 4, maxLocals := 2, code := prog_1_method_2_code, exceptionTable := #[], attributes := #[] }
def k19m1 : Method := { name := "onlyPositional", desc := "(Ljava/lang/String;)Ljava/lang/String;", sig := { parameters := [(.object "java/lang/String")], returnType := some (.object "java/lang/String") }, accessFlags := 0, code := some k19c1 }
/-- com/example/nextfront/nextfront/cli/Arguments -/
def k19 : Class := { plain "com/example/nextfront/nextfront/cli/Arguments" (some 0) with
  accessFlags := 48
  interfaces := #[]
  cf := some (fileOf pool19 11 #[] #[{ accessFlags := 0, nameIndex := 5, descriptorIndex := 131, attributes := #[] }, { accessFlags := 0, nameIndex := 137, descriptorIndex := 61, attributes := #[] }] 48 2 #[] #[{ accessFlags := 18, nameIndex := 14, descriptorIndex := 15, attributes := #[] }, { accessFlags := 18, nameIndex := 21, descriptorIndex := 22, attributes := #[] }])
  fields := #[{ name := "positional", type := (.object "java/util/List"), accessFlags := 18, slot := 0, constantValue := 0 }, { name := "options", type := (.object "java/util/Map"), accessFlags := 18, slot := 1, constantValue := 0 }]
  methods := #[k19m0, k19m1]
  instanceTypes := #[(.object "java/util/List"), (.object "java/util/Map")]
  staticTypes := #[]
  resolved := Array.replicate 176 none
  statics := none }

def pool20 : Array CpInfo := pool [(2, .class_ 4), (1, u "java/util/Map"), (31, .class_ 37), (0, u "java/util/Map$Entry"), (55, .class_ 94), (0, u "java/lang/Object")] 168

/-- java/util/Map -/
def k20 : Class := { plain "java/util/Map" (some 0) with
  accessFlags := 1537
  interfaces := #[]
  cf := some (fileOf pool20 2 #[.nestMembers #[36]] #[] 1537 93 #[] #[])
  fields := #[]
  methods := #[]
  instanceTypes := #[]
  staticTypes := #[]
  resolved := Array.replicate 263 none
  statics := none }

def pool21 : Array CpInfo := pool [(1, .methodref 2 3), (0, .class_ 4), (0, .nameAndType 5 6), (0, u "java/lang/Object"), (0, u "<init>"), (0, u "()V"), (1, .class_ 10), (1, u "java/util/AbstractMap"), (42, .class_ 54), (0, u "java/util/Map"), (9, u "keySet"), (0, u "Ljava/util/Set;"), (0, .class_ 67), (0, u "java/util/AbstractMap$1"), (5, u "values"), (0, u "Ljava/util/Collection;"), (0, .class_ 76), (0, u "java/util/AbstractMap$2"), (104, .class_ 182), (0, u "java/util/AbstractMap$ViewCollection"), (0, .class_ 184), (0, u "java/util/AbstractMap$SimpleImmutableEntry"), (0, .class_ 186), (0, u "java/util/AbstractMap$SimpleEntry"), (0, .class_ 188), (0, u "java/util/AbstractMap$2$1"), (0, .class_ 190), (0, u "java/util/AbstractMap$1$1")] 5

def k21c0 : Code := { maxStack := 1, maxLocals := 1, code := jdk_71_method_1_code, exceptionTable := #[], attributes := #[] }
def k21m0 : Method := { name := "<init>", desc := "()V", sig := { parameters := [], returnType := none }, accessFlags := 4, code := some k21c0 }
/-- java/util/AbstractMap -/
def k21 : Class := { plain "java/util/AbstractMap" (some 0) with
  accessFlags := 1057
  interfaces := #[20]
  cf := some (fileOf pool21 8 #[.nestMembers #[181, 183, 185, 75, 187, 66, 189]] #[{ accessFlags := 4, nameIndex := 5, descriptorIndex := 6, attributes := #[] }] 1057 2 #[53] #[{ accessFlags := 128, nameIndex := 64, descriptorIndex := 65, attributes := #[] }, { accessFlags := 128, nameIndex := 73, descriptorIndex := 74, attributes := #[] }])
  fields := #[{ name := "keySet", type := (.object "java/util/Set"), accessFlags := 128, slot := 0, constantValue := 0 }, { name := "values", type := (.object "java/util/Collection"), accessFlags := 128, slot := 1, constantValue := 0 }]
  methods := #[k21m0]
  instanceTypes := #[(.object "java/util/Set"), (.object "java/util/Collection")]
  staticTypes := #[]
  resolved := Array.replicate 196 none
  statics := none }

def pool22 : Array CpInfo := pool [(40, .class_ 41), (0, u "java/util/HashMap"), (1, .methodref 44 45), (0, .class_ 46), (0, .nameAndType 47 48), (0, u "java/util/AbstractMap"), (0, u "<init>"), (0, u "()V"), (32, .fieldref 40 82), (0, .nameAndType 83 84), (0, u "loadFactor"), (0, u "F"), (5, u "threshold"), (0, u "I"), (0, .float 1061158912), (8, .class_ 103), (1, u "java/util/Map"), (0, u "size"), (2, u "table"), (0, u "[Ljava/util/HashMap$Node;"), (14, u "entrySet"), (39, .class_ 165), (1, u "java/util/HashMap$Node"), (14, .class_ 181), (0, u "java/util/HashMap$TreeNode"), (22, u "modCount"), (37, u "Ljava/util/Set;"), (0, .class_ 244), (0, u "java/util/HashMap$KeySet"), (18, .class_ 264), (0, u "java/util/HashMap$Values"), (3, .class_ 269), (0, u "java/util/HashMap$EntrySet"), (76, .class_ 348), (1, u "java/util/HashMap$UnsafeHolder"), (43, .class_ 393), (0, u "java/lang/Cloneable"), (0, .class_ 395), (0, u "java/io/Serializable"), (0, u "serialVersionUID"), (0, u "J"), (3, u "DEFAULT_INITIAL_CAPACITY"), (1, u "MAXIMUM_CAPACITY"), (0, u "DEFAULT_LOAD_FACTOR"), (0, u "TREEIFY_THRESHOLD"), (1, u "UNTREEIFY_THRESHOLD"), (1, u "MIN_TREEIFY_CAPACITY"), (186, .class_ 597), (0, u "java/util/HashMap$EntrySpliterator"), (0, .class_ 599), (0, u "java/util/HashMap$ValueSpliterator"), (0, .class_ 601), (0, u "java/util/HashMap$KeySpliterator"), (0, .class_ 603), (0, u "java/util/HashMap$HashMapSpliterator"), (0, .class_ 605), (0, u "java/util/HashMap$EntryIterator"), (0, .class_ 607), (0, u "java/util/HashMap$ValueIterator"), (0, .class_ 609), (0, u "java/util/HashMap$KeyIterator"), (0, .class_ 611), (0, u "java/util/HashMap$HashIterator")] 17

def k22c0 : Code := { maxStack := 2, maxLocals := 1, code := jdk_69_method_7_code, exceptionTable := #[], attributes := #[] }
def k22m0 : Method := { name := "<init>", desc := "()V", sig := { parameters := [], returnType := none }, accessFlags := 1, code := some k22c0 }
/-- java/util/HashMap -/
def k22 : Class := { plain "java/util/HashMap" (some 21) with
  accessFlags := 33
  interfaces := #[20, 16, 2]
  cf := some (fileOf pool22 40 #[.nestMembers #[180, 596, 598, 600, 602, 604, 606, 608, 610, 346, 268, 263, 243, 163]] #[{ accessFlags := 1, nameIndex := 47, descriptorIndex := 48, attributes := #[] }] 33 44 #[101, 392, 394] #[{ accessFlags := 26, nameIndex := 396, descriptorIndex := 397, attributes := #[] }, { accessFlags := 24, nameIndex := 401, descriptorIndex := 91, attributes := #[] }, { accessFlags := 24, nameIndex := 403, descriptorIndex := 91, attributes := #[] }, { accessFlags := 24, nameIndex := 404, descriptorIndex := 84, attributes := #[] }, { accessFlags := 24, nameIndex := 405, descriptorIndex := 91, attributes := #[] }, { accessFlags := 24, nameIndex := 407, descriptorIndex := 91, attributes := #[] }, { accessFlags := 24, nameIndex := 409, descriptorIndex := 91, attributes := #[] }, { accessFlags := 128, nameIndex := 107, descriptorIndex := 108, attributes := #[] }, { accessFlags := 128, nameIndex := 123, descriptorIndex := 242, attributes := #[] }, { accessFlags := 128, nameIndex := 104, descriptorIndex := 91, attributes := #[] }, { accessFlags := 128, nameIndex := 204, descriptorIndex := 91, attributes := #[] }, { accessFlags := 0, nameIndex := 90, descriptorIndex := 91, attributes := #[] }, { accessFlags := 16, nameIndex := 83, descriptorIndex := 84, attributes := #[] }])
  fields := #[{ name := "serialVersionUID", type := .long, accessFlags := 26, slot := 0, constantValue := 0 }, { name := "DEFAULT_INITIAL_CAPACITY", type := .int, accessFlags := 24, slot := 1, constantValue := 0 }, { name := "MAXIMUM_CAPACITY", type := .int, accessFlags := 24, slot := 2, constantValue := 0 }, { name := "DEFAULT_LOAD_FACTOR", type := .float, accessFlags := 24, slot := 3, constantValue := 0 }, { name := "TREEIFY_THRESHOLD", type := .int, accessFlags := 24, slot := 4, constantValue := 0 }, { name := "UNTREEIFY_THRESHOLD", type := .int, accessFlags := 24, slot := 5, constantValue := 0 }, { name := "MIN_TREEIFY_CAPACITY", type := .int, accessFlags := 24, slot := 6, constantValue := 0 }, { name := "table", type := (.array (.object "java/util/HashMap$Node")), accessFlags := 128, slot := 2, constantValue := 0 }, { name := "entrySet", type := (.object "java/util/Set"), accessFlags := 128, slot := 3, constantValue := 0 }, { name := "size", type := .int, accessFlags := 128, slot := 4, constantValue := 0 }, { name := "modCount", type := .int, accessFlags := 128, slot := 5, constantValue := 0 }, { name := "threshold", type := .int, accessFlags := 0, slot := 6, constantValue := 0 }, { name := "loadFactor", type := .float, accessFlags := 16, slot := 7, constantValue := 0 }]
  methods := #[k22m0]
  instanceTypes := #[(.object "java/util/Set"), (.object "java/util/Collection"), (.array (.object "java/util/HashMap$Node")), (.object "java/util/Set"), .int, .int, .int, .float]
  staticTypes := #[.long, .int, .int, .float, .int, .int, .int]
  resolved := Array.replicate 629 none
  statics := none }

def pool23 : Array CpInfo := pool [(16, .class_ 18), (1, u "java/util/Iterator"), (0, u "hasNext"), (0, u "()Z"), (2, u "next"), (0, u "()Ljava/lang/Object;"), (6, .class_ 32), (0, u "java/lang/Object")] 20

def k23m0 : Method := { name := "hasNext", desc := "()Z", sig := { parameters := [], returnType := some .boolean }, accessFlags := 1025, code := none }
def k23m1 : Method := { name := "next", desc := "()Ljava/lang/Object;", sig := { parameters := [], returnType := some (.object "java/lang/Object") }, accessFlags := 1025, code := none }
/-- java/util/Iterator -/
def k23 : Class := { plain "java/util/Iterator" (some 0) with
  accessFlags := 1537
  interfaces := #[]
  cf := some (fileOf pool23 16 #[] #[{ accessFlags := 1025, nameIndex := 19, descriptorIndex := 20, attributes := #[] }, { accessFlags := 1025, nameIndex := 23, descriptorIndex := 24, attributes := #[] }] 1537 31 #[] #[])
  fields := #[]
  methods := #[k23m0, k23m1]
  instanceTypes := #[]
  staticTypes := #[]
  resolved := Array.replicate 53 none
  statics := none }

def pool24 : Array CpInfo := pool [(1, .fieldref 2 3), (0, .class_ 4), (0, .nameAndType 5 6), (0, u "java/util/ArrayList$Itr"), (0, u "this$0"), (0, u "Ljava/util/ArrayList;"), (0, .methodref 8 9), (0, .class_ 10), (0, .nameAndType 11 12), (0, u "java/lang/Object"), (0, u "<init>"), (0, u "()V"), (0, .fieldref 2 14), (0, .nameAndType 15 16), (0, u "lastRet"), (0, u "I"), (0, .fieldref 18 19), (0, .class_ 20), (0, .nameAndType 21 16), (0, u "java/util/ArrayList"), (0, u "modCount"), (0, .fieldref 2 23), (0, .nameAndType 24 16), (0, u "expectedModCount"), (0, .fieldref 2 26), (0, .nameAndType 27 16), (0, u "cursor"), (0, .fieldref 18 29), (0, .nameAndType 30 16), (0, u "size"), (0, .methodref 2 32), (0, .nameAndType 33 12), (0, u "checkForComodification"), (3, .fieldref 18 38), (0, .nameAndType 39 40), (0, u "elementData"), (0, u "[Ljava/lang/Object;"), (28, .class_ 70), (0, u "java/util/Iterator"), (0, u "(Ljava/util/ArrayList;)V"), (8, u "hasNext"), (0, u "()Z"), (1, u "next"), (0, u "()Ljava/lang/Object;")] 19

def k24c0 : Code := { maxStack := 2, maxLocals := 2, code := jdk_49_method_1_code, exceptionTable := #[], attributes := #[] }
def k24m0 : Method := { name := "<init>", desc := "(Ljava/util/ArrayList;)V", sig := { parameters := [(.object "java/util/ArrayList")], returnType := none }, accessFlags := 0, code := some k24c0 }
def k24c1 : Code := { maxStack := 2, maxLocals := 1, code := jdk_49_method_2_code, exceptionTable := #[], attributes := #[] }
def k24m1 : Method := { name := "hasNext", desc := "()Z", sig := { parameters := [], returnType := some .boolean }, accessFlags := 1, code := some k24c1 }
def k24c2 : Code := { maxStack := 4, maxLocals := 3, code := jdk_49_method_3_code, exceptionTable := #[], attributes := #[] }
def k24m2 : Method := { name := "next", desc := "()Ljava/lang/Object;", sig := { parameters := [], returnType := some (.object "java/lang/Object") }, accessFlags := 1, code := some k24c2 }
def k24c3 : Code := { maxStack := 2, maxLocals := 1, code := jdk_49_method_6_code, exceptionTable := #[], attributes := #[] }
def k24m3 : Method := { name := "checkForComodification", desc := "()V", sig := { parameters := [], returnType := none }, accessFlags := 16, code := some k24c3 }
/-- java/util/ArrayList$Itr -/
def k24 : Class := { plain "java/util/ArrayList$Itr" (some 0) with
  accessFlags := 32
  interfaces := #[23]
  cf := some (fileOf pool24 2 #[.nestHost 18] #[{ accessFlags := 0, nameIndex := 11, descriptorIndex := 71, attributes := #[] }, { accessFlags := 1, nameIndex := 80, descriptorIndex := 81, attributes := #[] }, { accessFlags := 1, nameIndex := 83, descriptorIndex := 84, attributes := #[] }, { accessFlags := 16, nameIndex := 33, descriptorIndex := 12, attributes := #[] }] 32 8 #[69] #[{ accessFlags := 0, nameIndex := 27, descriptorIndex := 16, attributes := #[] }, { accessFlags := 0, nameIndex := 15, descriptorIndex := 16, attributes := #[] }, { accessFlags := 0, nameIndex := 24, descriptorIndex := 16, attributes := #[] }, { accessFlags := 4112, nameIndex := 5, descriptorIndex := 6, attributes := #[] }])
  fields := #[{ name := "cursor", type := .int, accessFlags := 0, slot := 0, constantValue := 0 }, { name := "lastRet", type := .int, accessFlags := 0, slot := 1, constantValue := 0 }, { name := "expectedModCount", type := .int, accessFlags := 0, slot := 2, constantValue := 0 }, { name := "this$0", type := (.object "java/util/ArrayList"), accessFlags := 4112, slot := 3, constantValue := 0 }]
  methods := #[k24m0, k24m1, k24m2, k24m3]
  instanceTypes := #[.int, .int, .int, (.object "java/util/ArrayList")]
  staticTypes := #[]
  resolved := Array.replicate 104 none
  statics := none }

def pool25 : Array CpInfo := pool [(9, u "<init>"), (6, .class_ 18), (1, u "java/lang/Object"), (0, u "()V"), (1, .class_ 23), (1, u "jdk/internal/util/ArraysSupport"), (0, u "LOG2_ARRAY_LONG_INDEX_SCALE"), (0, u "I"), (2, u "U"), (0, u "Ljdk/internal/misc/Unsafe;"), (8, u "BIG_ENDIAN"), (0, u "Z"), (8, u "LOG2_BYTE_BIT_SIZE"), (4, u "LOG2_ARRAY_INT_INDEX_SCALE"), (54, u "JLA"), (0, u "Ljdk/internal/access/JavaLangAccess;"), (11, u "LOG2_ARRAY_BOOLEAN_INDEX_SCALE"), (9, u "LOG2_ARRAY_BYTE_INDEX_SCALE"), (5, u "LOG2_ARRAY_CHAR_INDEX_SCALE"), (5, u "LOG2_ARRAY_SHORT_INDEX_SCALE"), (5, u "mismatch"), (12, u "LOG2_ARRAY_FLOAT_INDEX_SCALE"), (24, u "LOG2_ARRAY_DOUBLE_INDEX_SCALE"), (89, u "T_BOOLEAN"), (2, u "T_CHAR"), (1, u "T_FLOAT"), (1, u "T_DOUBLE"), (1, u "T_BYTE"), (1, u "T_SHORT"), (1, u "T_INT"), (1, u "T_LONG"), (1, u "SOFT_MAX_ARRAY_LENGTH"), (42, u "([BI[BII)I")] 40

def k25m0 : Method := { name := "<init>", desc := "()V", sig := { parameters := [], returnType := none }, accessFlags := 2, code := none }
def k25c1 : Code := { maxStack := 8, maxLocals := 8, code := jdk_48_method_14_code, exceptionTable := #[], attributes := #[] }
def k25m1 : Method := { name := "mismatch", desc := "([BI[BII)I", sig := { parameters := [(.array .byte), .int, (.array .byte), .int, .int], returnType := some .int }, accessFlags := 9, code := some k25c1 }
/-- jdk/internal/util/ArraysSupport -/
def k25 : Class := { plain "jdk/internal/util/ArraysSupport" (some 0) with
  accessFlags := 33
  interfaces := #[]
  cf := some (fileOf pool25 21 #[] #[{ accessFlags := 2, nameIndex := 9, descriptorIndex := 19, attributes := #[] }, { accessFlags := 9, nameIndex := 149, descriptorIndex := 337, attributes := #[] }] 33 16 #[] #[{ accessFlags := 24, nameIndex := 28, descriptorIndex := 29, attributes := #[] }, { accessFlags := 26, nameIndex := 38, descriptorIndex := 39, attributes := #[] }, { accessFlags := 25, nameIndex := 121, descriptorIndex := 25, attributes := #[] }, { accessFlags := 25, nameIndex := 131, descriptorIndex := 25, attributes := #[] }, { accessFlags := 25, nameIndex := 137, descriptorIndex := 25, attributes := #[] }, { accessFlags := 25, nameIndex := 143, descriptorIndex := 25, attributes := #[] }, { accessFlags := 25, nameIndex := 53, descriptorIndex := 25, attributes := #[] }, { accessFlags := 25, nameIndex := 24, descriptorIndex := 25, attributes := #[] }, { accessFlags := 25, nameIndex := 162, descriptorIndex := 25, attributes := #[] }, { accessFlags := 25, nameIndex := 187, descriptorIndex := 25, attributes := #[] }, { accessFlags := 26, nameIndex := 48, descriptorIndex := 25, attributes := #[] }, { accessFlags := 25, nameIndex := 277, descriptorIndex := 25, attributes := #[] }, { accessFlags := 25, nameIndex := 280, descriptorIndex := 25, attributes := #[] }, { accessFlags := 25, nameIndex := 282, descriptorIndex := 25, attributes := #[] }, { accessFlags := 25, nameIndex := 284, descriptorIndex := 25, attributes := #[] }, { accessFlags := 25, nameIndex := 286, descriptorIndex := 25, attributes := #[] }, { accessFlags := 25, nameIndex := 288, descriptorIndex := 25, attributes := #[] }, { accessFlags := 25, nameIndex := 290, descriptorIndex := 25, attributes := #[] }, { accessFlags := 25, nameIndex := 292, descriptorIndex := 25, attributes := #[] }, { accessFlags := 26, nameIndex := 108, descriptorIndex := 109, attributes := #[] }, { accessFlags := 25, nameIndex := 294, descriptorIndex := 25, attributes := #[] }])
  fields := #[{ name := "U", type := (.object "jdk/internal/misc/Unsafe"), accessFlags := 24, slot := 0, constantValue := 0 }, { name := "BIG_ENDIAN", type := .boolean, accessFlags := 26, slot := 1, constantValue := 0 }, { name := "LOG2_ARRAY_BOOLEAN_INDEX_SCALE", type := .int, accessFlags := 25, slot := 2, constantValue := 0 }, { name := "LOG2_ARRAY_BYTE_INDEX_SCALE", type := .int, accessFlags := 25, slot := 3, constantValue := 0 }, { name := "LOG2_ARRAY_CHAR_INDEX_SCALE", type := .int, accessFlags := 25, slot := 4, constantValue := 0 }, { name := "LOG2_ARRAY_SHORT_INDEX_SCALE", type := .int, accessFlags := 25, slot := 5, constantValue := 0 }, { name := "LOG2_ARRAY_INT_INDEX_SCALE", type := .int, accessFlags := 25, slot := 6, constantValue := 0 }, { name := "LOG2_ARRAY_LONG_INDEX_SCALE", type := .int, accessFlags := 25, slot := 7, constantValue := 0 }, { name := "LOG2_ARRAY_FLOAT_INDEX_SCALE", type := .int, accessFlags := 25, slot := 8, constantValue := 0 }, { name := "LOG2_ARRAY_DOUBLE_INDEX_SCALE", type := .int, accessFlags := 25, slot := 9, constantValue := 0 }, { name := "LOG2_BYTE_BIT_SIZE", type := .int, accessFlags := 26, slot := 10, constantValue := 0 }, { name := "T_BOOLEAN", type := .int, accessFlags := 25, slot := 11, constantValue := 0 }, { name := "T_CHAR", type := .int, accessFlags := 25, slot := 12, constantValue := 0 }, { name := "T_FLOAT", type := .int, accessFlags := 25, slot := 13, constantValue := 0 }, { name := "T_DOUBLE", type := .int, accessFlags := 25, slot := 14, constantValue := 0 }, { name := "T_BYTE", type := .int, accessFlags := 25, slot := 15, constantValue := 0 }, { name := "T_SHORT", type := .int, accessFlags := 25, slot := 16, constantValue := 0 }, { name := "T_INT", type := .int, accessFlags := 25, slot := 17, constantValue := 0 }, { name := "T_LONG", type := .int, accessFlags := 25, slot := 18, constantValue := 0 }, { name := "JLA", type := (.object "jdk/internal/access/JavaLangAccess"), accessFlags := 26, slot := 19, constantValue := 0 }, { name := "SOFT_MAX_ARRAY_LENGTH", type := .int, accessFlags := 25, slot := 20, constantValue := 0 }]
  methods := #[k25m0, k25m1]
  instanceTypes := #[]
  staticTypes := #[(.object "jdk/internal/misc/Unsafe"), .boolean, .int, .int, .int, .int, .int, .int, .int, .int, .int, .int, .int, .int, .int, .int, .int, .int, .int, (.object "jdk/internal/access/JavaLangAccess"), .int]
  resolved := Array.replicate 378 none
  statics := none }

def pool26 : Array CpInfo := pool [(2, .class_ 4), (1, u "java/lang/Object"), (0, u "<init>"), (0, u "()V"), (35, .class_ 44), (1, u "java/util/Objects"), (60, .methodref 106 107), (0, .class_ 108), (0, .nameAndType 109 110), (0, u "jdk/internal/util/Preconditions"), (0, u "checkIndex"), (0, u "(IILjava/util/function/BiFunction;)I"), (60, u "(II)I")] 12

def k26m0 : Method := { name := "<init>", desc := "()V", sig := { parameters := [], returnType := none }, accessFlags := 2, code := none }
def k26c1 : Code := { maxStack := 3, maxLocals := 2, code := jdk_31_method_17_code, exceptionTable := #[], attributes := #[] }
def k26m1 : Method := { name := "checkIndex", desc := "(II)I", sig := { parameters := [.int, .int], returnType := some .int }, accessFlags := 9, code := some k26c1 }
/-- java/util/Objects -/
def k26 : Class := { plain "java/util/Objects" (some 0) with
  accessFlags := 49
  interfaces := #[]
  cf := some (fileOf pool26 42 #[] #[{ accessFlags := 2, nameIndex := 5, descriptorIndex := 6, attributes := #[] }, { accessFlags := 9, nameIndex := 109, descriptorIndex := 171, attributes := #[] }] 49 2 #[] #[])
  fields := #[]
  methods := #[k26m0, k26m1]
  instanceTypes := #[]
  staticTypes := #[]
  resolved := Array.replicate 184 none
  statics := none }

def pool27 : Array CpInfo := pool [(2, .class_ 4), (1, u "java/lang/Object"), (0, u "<init>"), (0, u "()V"), (17, .class_ 26), (1, u "jdk/internal/util/Preconditions"), (6, u "checkIndex"), (21, .class_ 56), (0, u "jdk/internal/util/Preconditions$4"), (57, .class_ 115), (0, u "jdk/internal/util/Preconditions$1"), (7, u "SIOOBE_FORMATTER"), (0, u "Ljava/util/function/BiFunction;"), (0, .class_ 126), (0, u "jdk/internal/util/Preconditions$2"), (3, u "AIOOBE_FORMATTER"), (0, .class_ 132), (0, u "jdk/internal/util/Preconditions$3"), (3, u "IOOBE_FORMATTER"), (41, u "(IILjava/util/function/BiFunction;)I")] 15

def k27m0 : Method := { name := "<init>", desc := "()V", sig := { parameters := [], returnType := none }, accessFlags := 1, code := none }
def k27c1 : Code := { maxStack := 3, maxLocals := 3, code := jdk_41_method_11_code, exceptionTable := #[], attributes := #[] }
def k27m1 : Method := { name := "checkIndex", desc := "(IILjava/util/function/BiFunction;)I", sig := { parameters := [.int, .int, (.object "java/util/function/BiFunction")], returnType := some .int }, accessFlags := 9, code := some k27c1 }
/-- jdk/internal/util/Preconditions -/
def k27 : Class := { plain "jdk/internal/util/Preconditions" (some 0) with
  accessFlags := 33
  interfaces := #[]
  cf := some (fileOf pool27 24 #[.nestMembers #[55, 131, 125, 114]] #[{ accessFlags := 1, nameIndex := 5, descriptorIndex := 6, attributes := #[] }, { accessFlags := 9, nameIndex := 33, descriptorIndex := 178, attributes := #[] }] 33 2 #[] #[{ accessFlags := 25, nameIndex := 123, descriptorIndex := 124, attributes := #[] }, { accessFlags := 25, nameIndex := 130, descriptorIndex := 124, attributes := #[] }, { accessFlags := 25, nameIndex := 136, descriptorIndex := 124, attributes := #[] }])
  fields := #[{ name := "SIOOBE_FORMATTER", type := (.object "java/util/function/BiFunction"), accessFlags := 25, slot := 0, constantValue := 0 }, { name := "AIOOBE_FORMATTER", type := (.object "java/util/function/BiFunction"), accessFlags := 25, slot := 1, constantValue := 0 }, { name := "IOOBE_FORMATTER", type := (.object "java/util/function/BiFunction"), accessFlags := 25, slot := 2, constantValue := 0 }]
  methods := #[k27m0, k27m1]
  instanceTypes := #[]
  staticTypes := #[(.object "java/util/function/BiFunction"), (.object "java/util/function/BiFunction"), (.object "java/util/function/BiFunction")]
  resolved := Array.replicate 194 none
  statics := some 2 }

def pool28 : Array CpInfo := pool [(4, .class_ 6), (1, u "java/lang/Object"), (0, u "<init>"), (0, u "()V"), (5, .class_ 16), (1, u "java/lang/StringLatin1"), (104, u "$assertionsDisabled"), (0, u "Z"), (98, .class_ 223), (1, u "java/lang/StringLatin1$LinesSpliterator"), (166, .class_ 391), (0, u "java/lang/StringLatin1$CharsSpliterator")] 3

def k28m0 : Method := { name := "<init>", desc := "()V", sig := { parameters := [], returnType := none }, accessFlags := 0, code := none }
/-- java/lang/StringLatin1 -/
def k28 : Class := { plain "java/lang/StringLatin1" (some 0) with
  accessFlags := 48
  interfaces := #[]
  cf := some (fileOf pool28 14 #[.nestMembers #[390, 221]] #[{ accessFlags := 0, nameIndex := 7, descriptorIndex := 8, attributes := #[] }] 48 4 #[] #[{ accessFlags := 4120, nameIndex := 121, descriptorIndex := 122, attributes := #[] }])
  fields := #[{ name := "$assertionsDisabled", type := .boolean, accessFlags := 4120, slot := 0, constantValue := 0 }]
  methods := #[k28m0]
  instanceTypes := #[]
  staticTypes := #[.boolean]
  resolved := Array.replicate 395 none
  statics := none }

/-- the primitive byte -/
def k29 : Class := { plain "byte" none with kind := .primitive 'B', accessFlags := 0x411 }
/-- [B -/
def k30 : Class := { plain "[B" (some 0) with kind := .array 29 .byte, interfaces := #[16, 2], accessFlags := 1041 }

/-- the primitive char -/
def k31 : Class := { plain "char" none with kind := .primitive 'C', accessFlags := 0x411 }
/-- [C -/
def k32 : Class := { plain "[C" (some 0) with kind := .array 31 .char, interfaces := #[16, 2], accessFlags := 1041 }

/-- the primitive int -/
def k33 : Class := { plain "int" none with kind := .primitive 'I', accessFlags := 0x411 }
/-- [I -/
def k34 : Class := { plain "[I" (some 0) with kind := .array 33 .int, interfaces := #[16, 2], accessFlags := 1041 }

/-- [Ljava/lang/Object; -/
def k35 : Class := { plain "[Ljava/lang/Object;" (some 0) with kind := .array 0 (.object "java/lang/Object"), interfaces := #[16, 2], accessFlags := 1041 }

def heap : Heap := #[{ cls := 7, slots := #[.long 0, .int 1, .null, .int 0, .null, .int 0, .int 0], vm := .statics 7 },
  { cls := 17, slots := #[.long 0, .int 0, .ref 3, .ref 4], vm := .statics 17 },
  { cls := 27, slots := #[.null, .null, .null], vm := .statics 27 },
  { cls := 35, slots := #[], vm := .none },
  { cls := 35, slots := #[], vm := .none }]
def classes : Array Class := #[k0, k1, k2, k3, k4, k5, k6, k7, k8, k9, k10, k11, k12, k13, k14, k15, k16, k17, k18, k19, k20, k21, k22, k23, k24, k25, k26, k27, k28, k29, k30, k31, k32, k33, k34, k35]
def interned : List (Array UInt16 × Addr) := []
def slotsUsed : Nat := 14
def theMethod : MethodId := ⟨1, 2⟩
def args0 : Array Value := #[.int 5, .int 3, .int 2]
def aboutOver (below : List Frame) : State where
  vm := { classes := classes, interned := interned.toArray }
  heap := heap
  slotsUsed := slotsUsed
  threads := #[{ frames := .invoking theMethod args0 :: below }]
def below0 : List Frame := [.native { method := ⟨0, 0⟩, args := #[] }]
def about1 : State := aboutOver below0
def p0 : Program := .bare "" "" ""
def e0 : Env := launch0.env 0 0 0
theorem w_frames : about1.frames = Frame.invoking theMethod args0 :: below0 := rfl
set_option maxRecDepth 65536 in
theorem w_args : argsFit about1.vm theMethod args0 = true := by decide +kernel
set_option maxRecDepth 65536 in
theorem w_heap : heapFits about1 = true := by decide +kernel
set_option maxRecDepth 65536 in
theorem w_runnable : about1.curStatus? = some .runnable := by decide +kernel
set_option maxRecDepth 65536 in
theorem w_alone : about1.alone = true := by decide +kernel
set_option maxRecDepth 65536 in
theorem w_named : about1.methodNamed? x = some theMethod := by decide +kernel
set_option maxRecDepth 65536 in
theorem w_hears : about1.hears theMethod below0 = true := by decide +kernel
set_option maxRecDepth 65536 in
theorem w_ripe : about1.ripe theMethod args0 below0 = true := by decide +kernel
theorem w_running : about1.status = .running := rfl
set_option maxRecDepth 65536 in
theorem w_room : about1.hasRoom e0.platform room_1 = true :=
  launch0.hasRoom_least _ room_1 (by decide +kernel) (by decide +kernel) (by decide +kernel) (by decide +kernel) (by decide +kernel) (by decide +kernel)
theorem allAtoms_all (ts : List Jvm.Cond) (a : Array Jvm.Value) (st : Jvm.State) : (allAtoms ts).before a st = ts.all (fun c => c.before a st) := by
  induction ts with
  | nil => rfl
  | cons c t ih =>
    show (Jvm.Cond.and c (allAtoms t)).before a st = _
    rw [Jvm.Cond.before_and, ih, List.all_cons]
def words1 : List Jvm.Cond := Jvm.Cond.code x code maxLocals ret :: tables_1
/-- a 'code' word, met by the world's own term for the bytes: nothing is compared byte by byte -/
theorem code_word {y : MethodName} {bytes : ByteArray} {mx : Nat} {rt : Option FieldType} {a : Array Value} {s : State} {m : MethodId} {meth : Method} {c : Code} (h1 : s.methodNamed? y = some m) (h2 : s.vm.method? m = some meth) (h3 : meth.code = some c) (h4 : c.code = bytes)
    (h5 : (c.maxLocals == mx && c.exceptionTable.isEmpty && decide (c.maxStack ≤ mostOperands) && decide (meth.sig.returnType = rt) && !meth.locks && decide (parseMethodDescriptor y.desc = some meth.sig)) = true) : (Jvm.Cond.code y bytes mx rt).before a s = true := by
  simp only [Bool.and_eq_true, beq_iff_eq, Bool.not_eq_true', decide_eq_true_eq] at h5
  obtain ⟨⟨⟨⟨⟨g1, g2⟩, g3⟩, g4⟩, g5⟩, g6⟩ := h5
  simp [Cond.before, Cond.holds, Cond.value, h1, h2, h3, h4, g1, g2, g3, g4, g5, g6]
def isCode : Jvm.Cond → Bool
  | .code _ _ _ _ => true
  | _ => false
theorem all_split {L : List Jvm.Cond} {P : Jvm.Cond → Bool} (h1 : L.all (fun c => isCode c || P c) = true) (h2 : ∀ c ∈ L.filter isCode, P c = true) : L.all P = true := by
  refine List.all_eq_true.mpr fun c hc => ?_
  have h := List.all_eq_true.mp h1 c hc
  rcases Bool.eq_false_or_eq_true (isCode c) with hi | hi
  · exact h2 c (List.mem_filter.mpr ⟨hc, hi⟩)
  · simpa [hi] using h
set_option maxRecDepth 65536 in
theorem w_c0 : (Jvm.Cond.code x code maxLocals ret).before args0 about1 = true := code_word (m := ⟨1, 2⟩) (meth := k1m2) (c := k1c2) (by decide +kernel) rfl rfl rfl (by decide +kernel)
set_option maxRecDepth 65536 in
theorem w_c1 : (Jvm.Cond.code ({ cls := "com/example/nextfront/nextfront/cli/ArgumentsOnlyPositionalPinLaw", name := "draw", desc := "(ICCC)Ljava/lang/String;" } : Jvm.MethodName) method_2_code (4 : Nat) (Option.some (Jvm.ClassFile.FieldType.object "java/lang/String"))).before args0 about1 = true := code_word (m := ⟨1, 1⟩) (meth := k1m1) (c := k1c1) (by decide +kernel) rfl rfl rfl (by decide +kernel)
set_option maxRecDepth 65536 in
theorem w_c2 : (Jvm.Cond.code ({ cls := "java/lang/String", name := "<init>", desc := "([C)V" } : Jvm.MethodName) jdk_42_method_3_code (2 : Nat) (Option.none : Option Jvm.ClassFile.FieldType)).before args0 about1 = true := code_word (m := ⟨7, 1⟩) (meth := k7m1) (c := k7c1) (by decide +kernel) rfl rfl rfl (by decide +kernel)
set_option maxRecDepth 65536 in
theorem w_c3 : (Jvm.Cond.code ({ cls := "java/lang/String", name := "<init>", desc := "([CIILjava/lang/Void;)V" } : Jvm.MethodName) jdk_42_method_149_code (6 : Nat) (Option.none : Option Jvm.ClassFile.FieldType)).before args0 about1 = true := code_word (m := ⟨7, 6⟩) (meth := k7m6) (c := k7c6) (by decide +kernel) rfl rfl rfl (by decide +kernel)
set_option maxRecDepth 65536 in
theorem w_c4 : (Jvm.Cond.code ({ cls := "java/lang/Object", name := "<init>", desc := "()V" } : Jvm.MethodName) object_method_1_code (1 : Nat) (Option.none : Option Jvm.ClassFile.FieldType)).before args0 about1 = true := code_word (m := ⟨0, 0⟩) (meth := k0m0) (c := k0c0) (by decide +kernel) rfl rfl rfl (by decide +kernel)
set_option maxRecDepth 65536 in
theorem w_c5 : (Jvm.Cond.code ({ cls := "java/lang/StringUTF16", name := "compress", desc := "([CII)[B" } : Jvm.MethodName) jdk_52_method_16_code (6 : Nat) (Option.some (Jvm.ClassFile.FieldType.array Jvm.ClassFile.FieldType.byte))).before args0 about1 = true := code_word (m := ⟨8, 2⟩) (meth := k8m2) (c := k8c2) (by decide +kernel) rfl rfl rfl (by decide +kernel)
set_option maxRecDepth 65536 in
theorem w_c6 : (Jvm.Cond.code ({ cls := "java/lang/StringUTF16", name := "compress", desc := "([CI[BII)I" } : Jvm.MethodName) jdk_52_method_21_code (7 : Nat) (Option.some Jvm.ClassFile.FieldType.int)).before args0 about1 = true := code_word (m := ⟨8, 3⟩) (meth := k8m3) (c := k8c3) (by decide +kernel) rfl rfl rfl (by decide +kernel)
set_option maxRecDepth 65536 in
theorem w_c7 : (Jvm.Cond.code ({ cls := "java/lang/StringUTF16", name := "coderFromArrayLen", desc := "([BI)B" } : Jvm.MethodName) jdk_52_method_15_code (2 : Nat) (Option.some Jvm.ClassFile.FieldType.byte)).before args0 about1 = true := code_word (m := ⟨8, 1⟩) (meth := k8m1) (c := k8c1) (by decide +kernel) rfl rfl rfl (by decide +kernel)
set_option maxRecDepth 65536 in
theorem w_c8 : (Jvm.Cond.code ({ cls := "java/util/ArrayList", name := "<init>", desc := "()V" } : Jvm.MethodName) jdk_38_method_2_code (1 : Nat) (Option.none : Option Jvm.ClassFile.FieldType)).before args0 about1 = true := code_word (m := ⟨17, 0⟩) (meth := k17m0) (c := k17c0) (by decide +kernel) rfl rfl rfl (by decide +kernel)
set_option maxRecDepth 65536 in
theorem w_c9 : (Jvm.Cond.code ({ cls := "java/util/AbstractList", name := "<init>", desc := "()V" } : Jvm.MethodName) jdk_39_method_1_code (1 : Nat) (Option.none : Option Jvm.ClassFile.FieldType)).before args0 about1 = true := code_word (m := ⟨14, 0⟩) (meth := k14m0) (c := k14c0) (by decide +kernel) rfl rfl rfl (by decide +kernel)
set_option maxRecDepth 65536 in
theorem w_c10 : (Jvm.Cond.code ({ cls := "java/util/AbstractCollection", name := "<init>", desc := "()V" } : Jvm.MethodName) jdk_22_method_1_code (1 : Nat) (Option.none : Option Jvm.ClassFile.FieldType)).before args0 about1 = true := code_word (m := ⟨11, 0⟩) (meth := k11m0) (c := k11c0) (by decide +kernel) rfl rfl rfl (by decide +kernel)
set_option maxRecDepth 65536 in
theorem w_c11 : (Jvm.Cond.code ({ cls := "java/util/ArrayList", name := "add", desc := "(Ljava/lang/Object;)Z" } : Jvm.MethodName) jdk_38_method_25_code (2 : Nat) (Option.some Jvm.ClassFile.FieldType.boolean)).before args0 about1 = true := code_word (m := ⟨17, 8⟩) (meth := k17m8) (c := k17c8) (by decide +kernel) rfl rfl rfl (by decide +kernel)
set_option maxRecDepth 65536 in
theorem w_c12 : (Jvm.Cond.code ({ cls := "java/util/ArrayList", name := "add", desc := "(Ljava/lang/Object;[Ljava/lang/Object;I)V" } : Jvm.MethodName) jdk_38_method_24_code (4 : Nat) (Option.none : Option Jvm.ClassFile.FieldType)).before args0 about1 = true := code_word (m := ⟨17, 7⟩) (meth := k17m7) (c := k17c7) (by decide +kernel) rfl rfl rfl (by decide +kernel)
set_option maxRecDepth 65536 in
theorem w_c13 : (Jvm.Cond.code ({ cls := "java/util/ArrayList", name := "grow", desc := "()[Ljava/lang/Object;" } : Jvm.MethodName) jdk_38_method_7_code (1 : Nat) (Option.some (Jvm.ClassFile.FieldType.array (Jvm.ClassFile.FieldType.object "java/lang/Object")))).before args0 about1 = true := code_word (m := ⟨17, 2⟩) (meth := k17m2) (c := k17c2) (by decide +kernel) rfl rfl rfl (by decide +kernel)
set_option maxRecDepth 65536 in
theorem w_c14 : (Jvm.Cond.code ({ cls := "java/util/ArrayList", name := "grow", desc := "(I)[Ljava/lang/Object;" } : Jvm.MethodName) jdk_38_method_6_code (4 : Nat) (Option.some (Jvm.ClassFile.FieldType.array (Jvm.ClassFile.FieldType.object "java/lang/Object")))).before args0 about1 = true := code_word (m := ⟨17, 1⟩) (meth := k17m1) (c := k17c1) (by decide +kernel) rfl rfl rfl (by decide +kernel)
set_option maxRecDepth 65536 in
theorem w_c15 : (Jvm.Cond.code ({ cls := "java/lang/Math", name := "max", desc := "(II)I" } : Jvm.MethodName) jdk_29_method_65_code (2 : Nat) (Option.some Jvm.ClassFile.FieldType.int)).before args0 about1 = true := code_word (m := ⟨18, 1⟩) (meth := k18m1) (c := k18c1) (by decide +kernel) rfl rfl rfl (by decide +kernel)
set_option maxRecDepth 65536 in
theorem w_c16 : (Jvm.Cond.code ({ cls := "com/example/nextfront/nextfront/cli/Arguments", name := "<init>", desc := "(Ljava/util/List;Ljava/util/Set;)V" } : Jvm.MethodName) prog_1_method_1_code (5 : Nat) (Option.none : Option Jvm.ClassFile.FieldType)).before args0 about1 = true := code_word (m := ⟨19, 0⟩) (meth := k19m0) (c := k19c0) (by decide +kernel) rfl rfl rfl (by decide +kernel)
set_option maxRecDepth 65536 in
theorem w_c17 : (Jvm.Cond.code ({ cls := "java/util/HashMap", name := "<init>", desc := "()V" } : Jvm.MethodName) jdk_69_method_7_code (1 : Nat) (Option.none : Option Jvm.ClassFile.FieldType)).before args0 about1 = true := code_word (m := ⟨22, 0⟩) (meth := k22m0) (c := k22c0) (by decide +kernel) rfl rfl rfl (by decide +kernel)
set_option maxRecDepth 65536 in
theorem w_c18 : (Jvm.Cond.code ({ cls := "java/util/AbstractMap", name := "<init>", desc := "()V" } : Jvm.MethodName) jdk_71_method_1_code (1 : Nat) (Option.none : Option Jvm.ClassFile.FieldType)).before args0 about1 = true := code_word (m := ⟨21, 0⟩) (meth := k21m0) (c := k21c0) (by decide +kernel) rfl rfl rfl (by decide +kernel)
set_option maxRecDepth 65536 in
theorem w_c19 : (Jvm.Cond.code ({ cls := "java/util/ArrayList", name := "iterator", desc := "()Ljava/util/Iterator;" } : Jvm.MethodName) jdk_38_method_55_code (1 : Nat) (Option.some (Jvm.ClassFile.FieldType.object "java/util/Iterator"))).before args0 about1 = true := code_word (m := ⟨17, 9⟩) (meth := k17m9) (c := k17c9) (by decide +kernel) rfl rfl rfl (by decide +kernel)
set_option maxRecDepth 65536 in
theorem w_c20 : (Jvm.Cond.code ({ cls := "java/util/ArrayList$Itr", name := "<init>", desc := "(Ljava/util/ArrayList;)V" } : Jvm.MethodName) jdk_49_method_1_code (2 : Nat) (Option.none : Option Jvm.ClassFile.FieldType)).before args0 about1 = true := code_word (m := ⟨24, 0⟩) (meth := k24m0) (c := k24c0) (by decide +kernel) rfl rfl rfl (by decide +kernel)
set_option maxRecDepth 65536 in
theorem w_c21 : (Jvm.Cond.code ({ cls := "java/util/ArrayList$Itr", name := "hasNext", desc := "()Z" } : Jvm.MethodName) jdk_49_method_2_code (1 : Nat) (Option.some Jvm.ClassFile.FieldType.boolean)).before args0 about1 = true := code_word (m := ⟨24, 1⟩) (meth := k24m1) (c := k24c1) (by decide +kernel) rfl rfl rfl (by decide +kernel)
set_option maxRecDepth 65536 in
theorem w_c22 : (Jvm.Cond.code ({ cls := "java/util/ArrayList$Itr", name := "next", desc := "()Ljava/lang/Object;" } : Jvm.MethodName) jdk_49_method_3_code (3 : Nat) (Option.some (Jvm.ClassFile.FieldType.object "java/lang/Object"))).before args0 about1 = true := code_word (m := ⟨24, 2⟩) (meth := k24m2) (c := k24c2) (by decide +kernel) rfl rfl rfl (by decide +kernel)
set_option maxRecDepth 65536 in
theorem w_c23 : (Jvm.Cond.code ({ cls := "java/util/ArrayList$Itr", name := "checkForComodification", desc := "()V" } : Jvm.MethodName) jdk_49_method_6_code (1 : Nat) (Option.none : Option Jvm.ClassFile.FieldType)).before args0 about1 = true := code_word (m := ⟨24, 3⟩) (meth := k24m3) (c := k24c3) (by decide +kernel) rfl rfl rfl (by decide +kernel)
set_option maxRecDepth 65536 in
theorem w_c24 : (Jvm.Cond.code ({ cls := "java/lang/String", name := "startsWith", desc := "(Ljava/lang/String;)Z" } : Jvm.MethodName) jdk_42_method_76_code (2 : Nat) (Option.some Jvm.ClassFile.FieldType.boolean)).before args0 about1 = true := code_word (m := ⟨7, 5⟩) (meth := k7m5) (c := k7c5) (by decide +kernel) rfl rfl rfl (by decide +kernel)
set_option maxRecDepth 65536 in
theorem w_c25 : (Jvm.Cond.code ({ cls := "java/lang/String", name := "startsWith", desc := "(Ljava/lang/String;I)Z" } : Jvm.MethodName) jdk_42_method_75_code (8 : Nat) (Option.some Jvm.ClassFile.FieldType.boolean)).before args0 about1 = true := code_word (m := ⟨7, 4⟩) (meth := k7m4) (c := k7c4) (by decide +kernel) rfl rfl rfl (by decide +kernel)
set_option maxRecDepth 65536 in
theorem w_c26 : (Jvm.Cond.code ({ cls := "java/lang/String", name := "length", desc := "()I" } : Jvm.MethodName) jdk_42_method_54_code (1 : Nat) (Option.some Jvm.ClassFile.FieldType.int)).before args0 about1 = true := code_word (m := ⟨7, 2⟩) (meth := k7m2) (c := k7c2) (by decide +kernel) rfl rfl rfl (by decide +kernel)
set_option maxRecDepth 65536 in
theorem w_c27 : (Jvm.Cond.code ({ cls := "java/lang/String", name := "coder", desc := "()B" } : Jvm.MethodName) jdk_42_method_152_code (1 : Nat) (Option.some Jvm.ClassFile.FieldType.byte)).before args0 about1 = true := code_word (m := ⟨7, 7⟩) (meth := k7m7) (c := k7c7) (by decide +kernel) rfl rfl rfl (by decide +kernel)
set_option maxRecDepth 65536 in
theorem w_c28 : (Jvm.Cond.code ({ cls := "jdk/internal/util/ArraysSupport", name := "mismatch", desc := "([BI[BII)I" } : Jvm.MethodName) jdk_48_method_14_code (8 : Nat) (Option.some Jvm.ClassFile.FieldType.int)).before args0 about1 = true := code_word (m := ⟨25, 1⟩) (meth := k25m1) (c := k25c1) (by decide +kernel) rfl rfl rfl (by decide +kernel)
set_option maxRecDepth 65536 in
theorem w_c29 : (Jvm.Cond.code ({ cls := "com/example/nextfront/nextfront/cli/Arguments", name := "onlyPositional", desc := "(Ljava/lang/String;)Ljava/lang/String;" } : Jvm.MethodName) prog_1_method_2_code (2 : Nat) (Option.some (Jvm.ClassFile.FieldType.object "java/lang/String"))).before args0 about1 = true := code_word (m := ⟨19, 1⟩) (meth := k19m1) (c := k19c1) (by decide +kernel) rfl rfl rfl (by decide +kernel)
set_option maxRecDepth 65536 in
theorem w_c30 : (Jvm.Cond.code ({ cls := "java/util/ArrayList", name := "isEmpty", desc := "()Z" } : Jvm.MethodName) jdk_38_method_9_code (1 : Nat) (Option.some Jvm.ClassFile.FieldType.boolean)).before args0 about1 = true := code_word (m := ⟨17, 4⟩) (meth := k17m4) (c := k17c4) (by decide +kernel) rfl rfl rfl (by decide +kernel)
set_option maxRecDepth 65536 in
theorem w_c31 : (Jvm.Cond.code ({ cls := "java/util/ArrayList", name := "size", desc := "()I" } : Jvm.MethodName) jdk_38_method_8_code (1 : Nat) (Option.some Jvm.ClassFile.FieldType.int)).before args0 about1 = true := code_word (m := ⟨17, 3⟩) (meth := k17m3) (c := k17c3) (by decide +kernel) rfl rfl rfl (by decide +kernel)
set_option maxRecDepth 65536 in
theorem w_c32 : (Jvm.Cond.code ({ cls := "java/util/ArrayList", name := "get", desc := "(I)Ljava/lang/Object;" } : Jvm.MethodName) jdk_38_method_20_code (2 : Nat) (Option.some (Jvm.ClassFile.FieldType.object "java/lang/Object"))).before args0 about1 = true := code_word (m := ⟨17, 6⟩) (meth := k17m6) (c := k17c6) (by decide +kernel) rfl rfl rfl (by decide +kernel)
set_option maxRecDepth 65536 in
theorem w_c33 : (Jvm.Cond.code ({ cls := "java/util/Objects", name := "checkIndex", desc := "(II)I" } : Jvm.MethodName) jdk_31_method_17_code (2 : Nat) (Option.some Jvm.ClassFile.FieldType.int)).before args0 about1 = true := code_word (m := ⟨26, 1⟩) (meth := k26m1) (c := k26c1) (by decide +kernel) rfl rfl rfl (by decide +kernel)
set_option maxRecDepth 65536 in
theorem w_c34 : (Jvm.Cond.code ({ cls := "jdk/internal/util/Preconditions", name := "checkIndex", desc := "(IILjava/util/function/BiFunction;)I" } : Jvm.MethodName) jdk_41_method_11_code (3 : Nat) (Option.some Jvm.ClassFile.FieldType.int)).before args0 about1 = true := code_word (m := ⟨27, 1⟩) (meth := k27m1) (c := k27c1) (by decide +kernel) rfl rfl rfl (by decide +kernel)
set_option maxRecDepth 65536 in
theorem w_c35 : (Jvm.Cond.code ({ cls := "java/util/ArrayList", name := "elementData", desc := "(I)Ljava/lang/Object;" } : Jvm.MethodName) jdk_38_method_18_code (2 : Nat) (Option.some (Jvm.ClassFile.FieldType.object "java/lang/Object"))).before args0 about1 = true := code_word (m := ⟨17, 5⟩) (meth := k17m5) (c := k17c5) (by decide +kernel) rfl rfl rfl (by decide +kernel)
set_option maxRecDepth 65536 in
theorem w_c36 : (Jvm.Cond.code ({ cls := "java/lang/String", name := "equals", desc := "(Ljava/lang/Object;)Z" } : Jvm.MethodName) jdk_42_method_66_code (3 : Nat) (Option.some Jvm.ClassFile.FieldType.boolean)).before args0 about1 = true := code_word (m := ⟨7, 3⟩) (meth := k7m3) (c := k7c3) (by decide +kernel) rfl rfl rfl (by decide +kernel)
def codes1 : List Jvm.Cond := [Jvm.Cond.code x code maxLocals ret, Jvm.Cond.code ({ cls := "com/example/nextfront/nextfront/cli/ArgumentsOnlyPositionalPinLaw", name := "draw", desc := "(ICCC)Ljava/lang/String;" } : Jvm.MethodName) method_2_code (4 : Nat) (Option.some (Jvm.ClassFile.FieldType.object "java/lang/String")), Jvm.Cond.code ({ cls := "java/lang/String", name := "<init>", desc := "([C)V" } : Jvm.MethodName) jdk_42_method_3_code (2 : Nat) (Option.none : Option Jvm.ClassFile.FieldType), Jvm.Cond.code ({ cls := "java/lang/String", name := "<init>", desc := "([CIILjava/lang/Void;)V" } : Jvm.MethodName) jdk_42_method_149_code (6 : Nat) (Option.none : Option Jvm.ClassFile.FieldType), Jvm.Cond.code ({ cls := "java/lang/Object", name := "<init>", desc := "()V" } : Jvm.MethodName) object_method_1_code (1 : Nat) (Option.none : Option Jvm.ClassFile.FieldType), Jvm.Cond.code ({ cls := "java/lang/StringUTF16", name := "compress", desc := "([CII)[B" } : Jvm.MethodName) jdk_52_method_16_code (6 : Nat) (Option.some (Jvm.ClassFile.FieldType.array Jvm.ClassFile.FieldType.byte)), Jvm.Cond.code ({ cls := "java/lang/StringUTF16", name := "compress", desc := "([CI[BII)I" } : Jvm.MethodName) jdk_52_method_21_code (7 : Nat) (Option.some Jvm.ClassFile.FieldType.int), Jvm.Cond.code ({ cls := "java/lang/StringUTF16", name := "coderFromArrayLen", desc := "([BI)B" } : Jvm.MethodName) jdk_52_method_15_code (2 : Nat) (Option.some Jvm.ClassFile.FieldType.byte), Jvm.Cond.code ({ cls := "java/util/ArrayList", name := "<init>", desc := "()V" } : Jvm.MethodName) jdk_38_method_2_code (1 : Nat) (Option.none : Option Jvm.ClassFile.FieldType), Jvm.Cond.code ({ cls := "java/util/AbstractList", name := "<init>", desc := "()V" } : Jvm.MethodName) jdk_39_method_1_code (1 : Nat) (Option.none : Option Jvm.ClassFile.FieldType), Jvm.Cond.code ({ cls := "java/util/AbstractCollection", name := "<init>", desc := "()V" } : Jvm.MethodName) jdk_22_method_1_code (1 : Nat) (Option.none : Option Jvm.ClassFile.FieldType), Jvm.Cond.code ({ cls := "java/util/ArrayList", name := "add", desc := "(Ljava/lang/Object;)Z" } : Jvm.MethodName) jdk_38_method_25_code (2 : Nat) (Option.some Jvm.ClassFile.FieldType.boolean), Jvm.Cond.code ({ cls := "java/util/ArrayList", name := "add", desc := "(Ljava/lang/Object;[Ljava/lang/Object;I)V" } : Jvm.MethodName) jdk_38_method_24_code (4 : Nat) (Option.none : Option Jvm.ClassFile.FieldType), Jvm.Cond.code ({ cls := "java/util/ArrayList", name := "grow", desc := "()[Ljava/lang/Object;" } : Jvm.MethodName) jdk_38_method_7_code (1 : Nat) (Option.some (Jvm.ClassFile.FieldType.array (Jvm.ClassFile.FieldType.object "java/lang/Object"))), Jvm.Cond.code ({ cls := "java/util/ArrayList", name := "grow", desc := "(I)[Ljava/lang/Object;" } : Jvm.MethodName) jdk_38_method_6_code (4 : Nat) (Option.some (Jvm.ClassFile.FieldType.array (Jvm.ClassFile.FieldType.object "java/lang/Object"))), Jvm.Cond.code ({ cls := "java/lang/Math", name := "max", desc := "(II)I" } : Jvm.MethodName) jdk_29_method_65_code (2 : Nat) (Option.some Jvm.ClassFile.FieldType.int), Jvm.Cond.code ({ cls := "com/example/nextfront/nextfront/cli/Arguments", name := "<init>", desc := "(Ljava/util/List;Ljava/util/Set;)V" } : Jvm.MethodName) prog_1_method_1_code (5 : Nat) (Option.none : Option Jvm.ClassFile.FieldType), Jvm.Cond.code ({ cls := "java/util/HashMap", name := "<init>", desc := "()V" } : Jvm.MethodName) jdk_69_method_7_code (1 : Nat) (Option.none : Option Jvm.ClassFile.FieldType), Jvm.Cond.code ({ cls := "java/util/AbstractMap", name := "<init>", desc := "()V" } : Jvm.MethodName) jdk_71_method_1_code (1 : Nat) (Option.none : Option Jvm.ClassFile.FieldType), Jvm.Cond.code ({ cls := "java/util/ArrayList", name := "iterator", desc := "()Ljava/util/Iterator;" } : Jvm.MethodName) jdk_38_method_55_code (1 : Nat) (Option.some (Jvm.ClassFile.FieldType.object "java/util/Iterator")), Jvm.Cond.code ({ cls := "java/util/ArrayList$Itr", name := "<init>", desc := "(Ljava/util/ArrayList;)V" } : Jvm.MethodName) jdk_49_method_1_code (2 : Nat) (Option.none : Option Jvm.ClassFile.FieldType), Jvm.Cond.code ({ cls := "java/util/ArrayList$Itr", name := "hasNext", desc := "()Z" } : Jvm.MethodName) jdk_49_method_2_code (1 : Nat) (Option.some Jvm.ClassFile.FieldType.boolean), Jvm.Cond.code ({ cls := "java/util/ArrayList$Itr", name := "next", desc := "()Ljava/lang/Object;" } : Jvm.MethodName) jdk_49_method_3_code (3 : Nat) (Option.some (Jvm.ClassFile.FieldType.object "java/lang/Object")), Jvm.Cond.code ({ cls := "java/util/ArrayList$Itr", name := "checkForComodification", desc := "()V" } : Jvm.MethodName) jdk_49_method_6_code (1 : Nat) (Option.none : Option Jvm.ClassFile.FieldType), Jvm.Cond.code ({ cls := "java/lang/String", name := "startsWith", desc := "(Ljava/lang/String;)Z" } : Jvm.MethodName) jdk_42_method_76_code (2 : Nat) (Option.some Jvm.ClassFile.FieldType.boolean), Jvm.Cond.code ({ cls := "java/lang/String", name := "startsWith", desc := "(Ljava/lang/String;I)Z" } : Jvm.MethodName) jdk_42_method_75_code (8 : Nat) (Option.some Jvm.ClassFile.FieldType.boolean), Jvm.Cond.code ({ cls := "java/lang/String", name := "length", desc := "()I" } : Jvm.MethodName) jdk_42_method_54_code (1 : Nat) (Option.some Jvm.ClassFile.FieldType.int), Jvm.Cond.code ({ cls := "java/lang/String", name := "coder", desc := "()B" } : Jvm.MethodName) jdk_42_method_152_code (1 : Nat) (Option.some Jvm.ClassFile.FieldType.byte), Jvm.Cond.code ({ cls := "jdk/internal/util/ArraysSupport", name := "mismatch", desc := "([BI[BII)I" } : Jvm.MethodName) jdk_48_method_14_code (8 : Nat) (Option.some Jvm.ClassFile.FieldType.int), Jvm.Cond.code ({ cls := "com/example/nextfront/nextfront/cli/Arguments", name := "onlyPositional", desc := "(Ljava/lang/String;)Ljava/lang/String;" } : Jvm.MethodName) prog_1_method_2_code (2 : Nat) (Option.some (Jvm.ClassFile.FieldType.object "java/lang/String")), Jvm.Cond.code ({ cls := "java/util/ArrayList", name := "isEmpty", desc := "()Z" } : Jvm.MethodName) jdk_38_method_9_code (1 : Nat) (Option.some Jvm.ClassFile.FieldType.boolean), Jvm.Cond.code ({ cls := "java/util/ArrayList", name := "size", desc := "()I" } : Jvm.MethodName) jdk_38_method_8_code (1 : Nat) (Option.some Jvm.ClassFile.FieldType.int), Jvm.Cond.code ({ cls := "java/util/ArrayList", name := "get", desc := "(I)Ljava/lang/Object;" } : Jvm.MethodName) jdk_38_method_20_code (2 : Nat) (Option.some (Jvm.ClassFile.FieldType.object "java/lang/Object")), Jvm.Cond.code ({ cls := "java/util/Objects", name := "checkIndex", desc := "(II)I" } : Jvm.MethodName) jdk_31_method_17_code (2 : Nat) (Option.some Jvm.ClassFile.FieldType.int), Jvm.Cond.code ({ cls := "jdk/internal/util/Preconditions", name := "checkIndex", desc := "(IILjava/util/function/BiFunction;)I" } : Jvm.MethodName) jdk_41_method_11_code (3 : Nat) (Option.some Jvm.ClassFile.FieldType.int), Jvm.Cond.code ({ cls := "java/util/ArrayList", name := "elementData", desc := "(I)Ljava/lang/Object;" } : Jvm.MethodName) jdk_38_method_18_code (2 : Nat) (Option.some (Jvm.ClassFile.FieldType.object "java/lang/Object")), Jvm.Cond.code ({ cls := "java/lang/String", name := "equals", desc := "(Ljava/lang/Object;)Z" } : Jvm.MethodName) jdk_42_method_66_code (3 : Nat) (Option.some Jvm.ClassFile.FieldType.boolean)]
set_option maxRecDepth 65536 in
theorem codes_eq : words1.filter isCode = codes1 := rfl
theorem w_codes : ∀ c ∈ words1.filter isCode, c.before args0 about1 = true := by
  rw [codes_eq]
  intro c hc
  simp only [codes1, List.mem_cons, List.not_mem_nil, or_false] at hc
  rcases hc with rfl | rfl | rfl | rfl | rfl | rfl | rfl | rfl | rfl | rfl | rfl | rfl | rfl | rfl | rfl | rfl | rfl | rfl | rfl | rfl | rfl | rfl | rfl | rfl | rfl | rfl | rfl | rfl | rfl | rfl | rfl | rfl | rfl | rfl | rfl | rfl | rfl
  · exact w_c0
  · exact w_c1
  · exact w_c2
  · exact w_c3
  · exact w_c4
  · exact w_c5
  · exact w_c6
  · exact w_c7
  · exact w_c8
  · exact w_c9
  · exact w_c10
  · exact w_c11
  · exact w_c12
  · exact w_c13
  · exact w_c14
  · exact w_c15
  · exact w_c16
  · exact w_c17
  · exact w_c18
  · exact w_c19
  · exact w_c20
  · exact w_c21
  · exact w_c22
  · exact w_c23
  · exact w_c24
  · exact w_c25
  · exact w_c26
  · exact w_c27
  · exact w_c28
  · exact w_c29
  · exact w_c30
  · exact w_c31
  · exact w_c32
  · exact w_c33
  · exact w_c34
  · exact w_c35
  · exact w_c36
set_option maxRecDepth 65536 in
theorem w_t1 : (words1.take 24).all (fun c => isCode c || c.before args0 about1) = true := by decide +kernel
set_option maxRecDepth 65536 in
theorem w_t2 : ((words1.drop 24).take 24).all (fun c => isCode c || c.before args0 about1) = true := by decide +kernel
set_option maxRecDepth 65536 in
theorem w_t3 : (((words1.drop 24).drop 24).take 24).all (fun c => isCode c || c.before args0 about1) = true := by decide +kernel
set_option maxRecDepth 65536 in
theorem w_t4 : ((((words1.drop 24).drop 24).drop 24).take 24).all (fun c => isCode c || c.before args0 about1) = true := by decide +kernel
set_option maxRecDepth 65536 in
theorem w_t5 : (((((words1.drop 24).drop 24).drop 24).drop 24).take 24).all (fun c => isCode c || c.before args0 about1) = true := by decide +kernel
set_option maxRecDepth 65536 in
theorem w_t6 : ((((((words1.drop 24).drop 24).drop 24).drop 24).drop 24).take 24).all (fun c => isCode c || c.before args0 about1) = true := by decide +kernel
set_option maxRecDepth 65536 in
theorem w_t7 : (((((((words1.drop 24).drop 24).drop 24).drop 24).drop 24).drop 24).take 24).all (fun c => isCode c || c.before args0 about1) = true := by decide +kernel
set_option maxRecDepth 65536 in
theorem w_t8 : ((((((((words1.drop 24).drop 24).drop 24).drop 24).drop 24).drop 24).drop 24).take 24).all (fun c => isCode c || c.before args0 about1) = true := by decide +kernel
set_option maxRecDepth 65536 in
theorem w_t9 : (((((((((words1.drop 24).drop 24).drop 24).drop 24).drop 24).drop 24).drop 24).drop 24).take 24).all (fun c => isCode c || c.before args0 about1) = true := by decide +kernel
set_option maxRecDepth 65536 in
theorem w_t10 : ((((((((((words1.drop 24).drop 24).drop 24).drop 24).drop 24).drop 24).drop 24).drop 24).drop 24).take 24).all (fun c => isCode c || c.before args0 about1) = true := by decide +kernel
set_option maxRecDepth 65536 in
theorem w_t11 : ((((((((((words1.drop 24).drop 24).drop 24).drop 24).drop 24).drop 24).drop 24).drop 24).drop 24).drop 24).all (fun c => isCode c || c.before args0 about1) = true := by decide +kernel
theorem w_tables : (allAtoms (Jvm.Cond.code x code maxLocals ret :: tables_1)).before args0 about1 = true := by
  rw [allAtoms_all]
  show words1.all (fun c => c.before args0 about1) = true
  refine all_split ?_ w_codes
  rw [← List.take_append_drop 24 words1, List.all_append, w_t1, ← List.take_append_drop 24 (words1.drop 24), List.all_append, w_t2, ← List.take_append_drop 24 ((words1.drop 24).drop 24), List.all_append, w_t3, ← List.take_append_drop 24 (((words1.drop 24).drop 24).drop 24), List.all_append, w_t4, ← List.take_append_drop 24 ((((words1.drop 24).drop 24).drop 24).drop 24), List.all_append, w_t5, ← List.take_append_drop 24 (((((words1.drop 24).drop 24).drop 24).drop 24).drop 24), List.all_append, w_t6, ← List.take_append_drop 24 ((((((words1.drop 24).drop 24).drop 24).drop 24).drop 24).drop 24), List.all_append, w_t7, ← List.take_append_drop 24 (((((((words1.drop 24).drop 24).drop 24).drop 24).drop 24).drop 24).drop 24), List.all_append, w_t8, ← List.take_append_drop 24 ((((((((words1.drop 24).drop 24).drop 24).drop 24).drop 24).drop 24).drop 24).drop 24), List.all_append, w_t9, ← List.take_append_drop 24 (((((((((words1.drop 24).drop 24).drop 24).drop 24).drop 24).drop 24).drop 24).drop 24).drop 24), List.all_append, w_t10, w_t11]
  rfl
set_option maxRecDepth 65536 in
theorem w_rest : rest_1_c.before args0 about1 = true := by decide +kernel
set_option maxRecDepth 65536 in
theorem w_case : (Jvm.Cond.and given_1 narrow_1).before args0 about1 = true := by decide +kernel
set_option maxRecDepth 65536 in
theorem w_consts : constsHeld consts_1 about1 := Jvm.Lit.constsHeldB_iff.mp (by decide +kernel)
theorem w_applies : (headSpec (Jvm.Cond.code x code maxLocals ret :: tables_1) room_1).applies x e0.platform about1 = true :=
  (Spec.applies_iff w_frames).mpr ⟨w_running, w_runnable, w_alone, w_named, w_hears, w_ripe, w_room, w_tables⟩
theorem atStart : AtStart classFile x code maxLocals ret World_1 tables_1 room_1 Calls_1 rest_1 Pre_1 launch0 p0 e0 about1 theMethod args0 below0 :=
  ⟨lists_1, trivial, launch0.admits_env _ _ _, launch0.least_env, fairChoices_fair.cas, fairChoices_fair.clock, w_frames, w_args, w_heap, w_applies, ⟨w_consts, trivial⟩, w_rest, w_case⟩
end start1
theorem witness_1 : WitnessClaimed_1 := ⟨start1.p0, start1.e0, start1.about1, start1.theMethod, start1.args0, start1.below0, start1.atStart⟩
end Jvm.Pilot.@@N@@
